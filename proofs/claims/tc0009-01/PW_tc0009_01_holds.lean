import PyProof.Rows.All
import Wide.All
import OpenK.AllK
import Wide.FinOn
import KE.KEqDat
import Lean
import PySem.Challenge.RW_tc0009_01
set_option genSizeOf false
set_option genInjectivity false
set_option linter.all false
set_option bootstrap.genMatcherCode false
set_option tactic.hygienic false
set_option Elab.async false
set_option maxRecDepth 100000
set_option backward.match.sparseCases false
namespace Mine
open PySem PySem.Spec PySem.Calls PyProof.Rows PySem.W
open _root_.Array renaming getElem?_eq_some_iff->vM,forIn_toList->VO,empty_append->Ws
open _root_.Bool renaming and_eq_true->bn,false_eq_true->dp,casesOn->dF,false_ne_true->gz,not_eq_true'->kK,and_eq_true_iff->od,eq_iff_iff->vw,false_or->yY,or_eq_false_iff->ER,true_and->ET,or_false->Ft,or_eq_true->FR,or_self->FZ,and_true->WX
open _root_.Eq renaming symm->c5,trans->VI
open _root_.ForIn renaming forIn->lI
open _root_.ForInStep renaming yield->mP
open _root_.Function renaming comp_def->WW
open _root_.HAdd renaming hAdd->yz
open _root_.Int renaming toNat->b9,natCast_nonneg->c8,toNat_natCast->er,not_lt->fX,fmod->gP,ofNat_le->ij,max_eq_right->mE,lt_of_le_of_lt->mH,le_trans->pL,max_eq_left->sd,add_comm->sf,ofNat->vg,toNat_of_nonneg->vv,ofNat_lt->vP,toNat_sub->yy,le_max_left->yA,natCast_mul->yF,eq_ofNat_of_zero_le->yK,fmod_eq_emod_of_nonneg->zw,fdiv->EB,le_of_lt->EC,natCast_zero->ED,natCast_add->EE,toNat_le->EF,fdiv_eq_ediv_of_nonneg->FH,sub_zero->Uv,add_zero->Uw,sub_sub->Ux,le_total->Uy,add_assoc->Uz,ofNat_ne_zero->UC,max_le->UJ,lt_of_lt_of_le->UN,ediv_one->U4,le_antisymm->Vd,natAbs_natCast->WJ,ofNat_eq_natCast->WK,le_refl->WU
open _root_.Int.ofNat renaming inj->W6
open _root_.LawfulBEq renaming eq_of_beq->bc
open _root_.List renaming mem_cons->ao,casesOn->aF,not_mem_nil->ba,mem_append->be,mem_append_left->bC,range->bF,mem_append_right->bG,replicate->bJ,mem_cons_of_mem->bP,map_cons->bQ,length_map->ca,length_append->cm,lookup_cons->cX,all_eq_true->dG,length_cons->dH,lookup->dP,mem_map->dQ,length_drop->eu,length_nil->ev,length->eI,getElem?_map->eJ,map_map->eK,intercalate->eM,range'->eX,sum_cons->eY,mem_range->ft,length_take->fJ,append_assoc->ga,getElem?_eq_getElem->gQ,flatten_cons->gT,mem_singleton->gW,mem_cons_self->iq,replicate_succ->iZ,length_replicate->i4,mem_filter->jp,getD_eq_getElem?_getD->jq,any_cons->j6,append_nil->kM,drop_drop->kN,filterMap_cons->lz,take_length->lF,count_le_length->lP,mem_map_of_mem->mJ,foldl_cons->mM,all_cons->mO,eq_of_mem_replicate->mW,mem_of_getElem?->mX,map_congr_left->mZ,take_of_length_le->oh,getElem?_range->oq,cons_append->ox,filter_cons->pR,drop_eq_getElem_cons->pZ,drop_zero->qc,isPrefixOf_iff_prefix->qk,flatten_nil->ql,map_nil->qm,length_range->qo,forIn_cons->sv,nil_append->sC,mem_range'_1->sK,getElem?_drop->sM,take_left->sN,cons_ne_nil->sO,length_filter_le->sP,forIn_nil->vE,nodup_cons->vH,map_reverse->vJ,mem_reverse->vK,prefix_iff_eq_take->vU,any_nil->vV,size_toArray->yI,getD->yR,drop_length->y5,take_zero->zk,length_pos_iff->zl,count_cons->zm,isSuffixOf_iff_suffix->zn,drop_left->zq,range'_succ->zu,range_eq_range'->zv,filterMap_map->EV,take_succ_cons->EW,getElem_mem->E5,getElem?_eq_none->E7,head?_drop->Fj,any_eq_false->Fk,mem_filterMap->Fl,getElem?_eq_some_iff->FE,mem_of_mem_drop->FM,mem_of_mem_take->FN,mem_of_find?_eq_some->FQ,map->FU,getElem?_take->FW,getElem?_append_left->FX,drop_left'->FY,flatMap_append->F6,all_append->F7,flatMap_cons->Gb,map_append->Gc,length_eq_zero_iff->Uu,take->UO,range_succ_eq_map->U0,sum_append->Vb,mem_iff_getElem->Vc,findIdx?_cons->Vx,nodup_nil->We,eraseIdx_eq_take_drop_succ->Wj,isEmpty_cons->Wt,take_left'->Wz,take_add->WF,find?_some->WI,suffix_iff_eq_drop->WQ,drop_take->WS,flatten_append->WY,sum->W7,map_drop->Xa,isPrefixOf->Xb,dropLast->Xc,take_prefix->Xd,count_replicate_self->Xe,take_append_drop->Xf,forall_mem_cons->Xj
open _root_.List.Perm renaming eq_of_pairwise->XM
open _root_.List.Sublist renaming cons_cons->Yk,append->Yl
open _root_.List.cons renaming injEq->Yj
open _root_.Max renaming max->aR
open _root_.Min renaming min->bL
open _root_.Nat renaming le_trans->aB,le_refl->aT,le_add_left->b7,lt_of_lt_of_le->cV,casesAuxOn->dq,le_of_eq->eh,le_of_lt->ej,lt_succ_self->eH,add_comm->fk,le_add_right->gy,add_mul->gD,lt_of_le_of_lt->ik,succ_pos->il,add_le_add->iT,sub_le->iU,mod_lt->iV,zero_le->iY,zero_add->jr,one_mul->jv,ble_eq->jw,min_eq_left->j1,add_assoc->j2,add_le_add_left->kF,ne_of_lt->ly,le_of_succ_le->lE,mul_le_mul->lM,le_succ->mF,add_sub_of_le->mG,pow_add->mU,pow_le_pow_right->mV,ble_eq_true_of_le->mY,le_of_lt_succ->n7,add_le_add_right->n8,min_le_right->n9,lt_succ_of_le->oa,succ->pM,mul_le_mul_left->pN,le_of_not_lt->pO,noConfusion->pX,not_lt_of_le->pY,le_succ_of_le->sg,blt->si,two_pow_pos->sI,sub_zero->sJ,ble->ve,add_zero->vh,lt_irrefl->vi,mul_le_mul_right->vj,le_of_ble_eq_true->vq,succ_le_succ->vI,sub_self->vQ,mul_assoc->vR,sub_le_sub_right->yw,mul_succ->yx,lt_of_succ_le->yQ,lt_succ_of_lt->yS,succ_le_of_lt->yX,div_eq_of_lt->zi,add_sub_cancel_left->zo,mul_add->zr,mul_one->zt,add_right_cancel->EG,div_le_self->EH,div_add_mod->EI,succ_lt_succ->EJ,pos_of_ne_zero->EZ,eq_of_testBit_eq->FG,mod_eq_of_lt->FI,testBit_two_pow->F8,testBit_two_pow_mul->F9,zero_testBit->Ga,pow_mul->Gd,succ_add_eq_add_succ->UA,sub_one_lt_of_lt->UD,le_max_left->UE,le_max_right->UF,sub_le_sub_left->UG,lt_of_not_le->UH,not_lt_zero->UI,succ_add->UK,succ_sub_succ->UL,add_sub_cancel->UM,not_lt->US,mul_comm->UT,le_of_succ_le_succ->U1,not_lt_of_lt->Vs,succ_ne_self->Vt,add_left_cancel->Vw,testBit_and->Wx,add_lt_add_right->WE,add_right_comm->WR,lt_trichotomy->WT,ge_two_pow_of_testBit->WZ,not_le->W0,testBit_mod_two_pow->W1,ne_of_gt->W2,mul_pos->W3,one_pow->W5,le_of_not_le->W8,zero_max->W9
open _root_.Nat.ToInt renaming of_diseq->UB
open _root_.Nat.succ renaming inj->lx
open _root_.Ne renaming symm->ek
open _root_.Option renaming casesOn->bO,map_eq_some_iff->gA,isSome_none->y0,bind_eq_some_iff->EU,isNone_some->VM
open _root_.Option.some renaming inj->jm,injEq->VH
open _root_.PUnit renaming unit->zg
open _root_.Prod.mk renaming inj->Fv,injEq->FJ
open PyProof.Rows renaming recsOf->lN,IntsAre->oj,StrsAre->yN,isStrOf->E3,slicePart_none->U3,slot_tuple_getitem->U5,bitXor_and->Wy,getItem_str->Xz,IsTup->XB,entry_tuple_getitem->XC,args_tuple_getitem->XD,neg_int->XT,iadd_int->XZ,isub_int->X0,ixor_int->X1
open PyProof.V renaming FlatPairs->vS,Flat->WH,same_int->Yb
open PySem renaming Expr->ac,Shared->ae,wpAny_bind->aj,wpAny->al,model->aq,wpAny_mono->ax,wpAny_pure->aI,eval->aJ,Around->aM,Stmt->aN,Heap->aP,Sem->bp,starEach->bV,backTo->bW,Tok->cJ,Comprehension->c9,execs->db,mainGlobals->df,exec->dr,wpAny_holding->dA,standAt->dR,wpAny_standAt->dS,Obj->d5,spliced->d6,cellsFrom->d7,sliceBounds->eg,pyNext->em,Flow->eW,NameKind->fq,strIterType->fK,pyIter->fY,FuncData->fZ,assignEach->gB,wpAny_execs_cons->gC,callWith->gX,rawInt->im,wpAny_field->ir,seqIndex?->iW,World->jo,assign->js,storeName->j3,IsPart->j4,IsPair->j5,codeAny->j7,swappedStores->j9,Operator->kE,builtinsNs->kG,call_meets->kI,wpAny_newObj_type->kJ,ZipApart->kL,sliceRange->lA,compareOp->lB,strValues->lC,fromIndex->lD,letOwnedTupleGo->lH,bindArgs->lJ,Code->lK,getMethod->mK,numAt->mL,field->mN,pushCells->mQ,constantsAlone->mR,foldedForSure->mS,Frame->mT,CmpOp->nZ,typeIs_str->on,Result->ou,interactive->ow,OldK->pP,IsEnum->pV,assignInOrder->qd,foldedSetIterable->qe,Model->qf,ExcName->qh,intKind->qi,getItem->sk,wpAny_callSpecial?_slot->sm,wpAny_call_entry->sn,evalEach->sr,methodCallPos->ss,compTurn->sw,pushCells_keeps->sx,closureFor->sy,cellOf->sA,newFunctionEnv->sB,swapsWith->sD,wpAny_execs_nil->sE,wpAny_Return_some->sF,GenState->sG,Arguments->sH,operate->vt,wpAny_rule->vx,getMethod_builtin->vy,wpAny_pyIter_enum->vz,wpAny_seqItems->vA,boolOp->vC,noteFrame->vF,firstAsync->vG,bindName->vL,intBits_le_iff->vO,wpAny_point->yE,typeIs_int->yG,Builtin->yO,preSum->yP,wpAny_loadPart'->yT,newExc->yV,firstArgMember->yW,wpAny_specialOf->yZ,evalPart->y1,methodCall->y2,methodCallForm->y3,theTreesLotGoes->y4,codeAny_mono->y6,wpAny_alloc->y7,wpAny_layCells->y8,updateSeq->zc,wpAny_updateSeq->zd,assignAll->ze,wpAny_Expr->zf,splitAtGen->zh,JoinOk->EN,baseText->EO,release->EP,binaryOp->EQ,wpAny_typeOf->EY,numbered->E0,numbered_texts->E1,strsFrom_eq->E2,wpAny_pyIter_list->E4,rule->E6,newTuple->E8,wpAny_of_eq->E9,wpAny_pyIter_tuple->Fa,wpAny_pyIter_zip->Fb,evalArgs->Fc,IsRange->Fd,unpackItems->Fe,wpAny_assign_Name->Ff,typeLookup->Fg,attributeBase->Fh,runOwn->Fi,firstIter->Fm,loadIfAlive->Fn,wpAny_nextOf_list_item->Fo,wpAny_attempt->Fp,assignStores->Fu,wpAny_call->Fx,leafOf->Fy,yieldOut->Fz,leaving->FA,setGen_self->FD,qualnameIn->FL,bootBuiltins->FO,sysModules->FP,callerA->FS,wpAny_cellOf->UP,meets_str_split_sep->U7,meets_str_split_not_found->U8,meets_str_split_cannot_occur->U9,call_gives->Va,wpAny_pyNext_list_item->Ve,wpAny_pyNext_list_end->Vf,wpAny_setField->Vj,wpAny_handled->Vl,wpAny_throw->Vm,wpAny_pyNext_zip_item->Vo,wpAny_pyNext_zip_end->Vp,call_enumerate_str->Vu,call_zip_2->Vv,wpAny_assign_Tuple->Vy,subscripted->Vz,wpAny_BinOp->VA,markedBehindIn->VB,wpAny_List->VC,wpAny_Tuple->VD,eval_Subscript->VE,importBound->VF,wpAny_list_append_plain->VG,wpAny_comprehension_free->VJ,typeLookup_type->VK,builtinLookup_eq_fast->VL,wpAny_setField_rec->VN,wpAny_nextOf_list_end->VQ,wpAny_isInstance->VT,isSubtype_stop->VU,codeAny_builtin->VW,plainId_quiet->VZ,evalThenUse->Wc,wpAny_Assign_Name->Wd,wpAny_bindName->Wg,swapsWithSole->Wh,codeAny_forLoop_any->Wk,codeAny_call_function->Wl,codeAny_func->Wm,slot_gen_next->Wo,wpAny_newTextTuple->Wu,wpAny_builtinsFor->Wv,wpAny_nsGet->Ww,execs_cons->WA,intKind_is->WO
open PySem.Around renaming under_plainId->VY
open PySem.AutoIntG2 renaming int_bit_length_int_0->X8
open PySem.AutoIntOps renaming rshift_1->Xv,rshift_2->Xw
open PySem.AutoSeq1 renaming list_extend_list_list_0->X5
open PySem.BoolOp renaming Or->Ge,And->W4
open PySem.Builtin renaming bitAnd->mD,bitXor->sb,divisionGoesByPylong->UQ
open PySem.Builtin.Generator renaming genWake->Wp
open PySem.Builtin.Int renaming intBits->cg,intTooBig->Xq
open PySem.Builtin.List renaming listTooLong->ES,listExtendWith->Fq,listFitsIndex->UV,listItems->Wb,listUpdate->XV,listSameRef->XW,listLengthHint->XX,listTouch->XY
open PySem.Builtin.Slice renaming slicePlaces->yH,sliceAdjust->EX,sliceApplied->U2,sliceFields->XA
open PySem.Builtin.SmallTypes renaming nextOf->ot,ownedTupleIsFree->y9,calledThroughType->Vn
open PySem.Builtin.Str renaming occurrences->gR,strKind->i0,strSub->sL,strSliceIndices->sQ,spaceWords->vo,partsBetween->yM,tooLong->UR,subAt->Yd
open PySem.Builtin.Tuple renaming tupleExact->yJ,tupleItemsOf->XE,tupleIsExact->XF
open PySem.Calls renaming docDef->oy,callWith_function->Vr
open PySem.Expr renaming casesOn->bt,Name->Wf,Constant->Ym
open PySem.F renaming slot_str_split->pS,entry_str_split->pU,args_str_split_2->sq,plainAttrs_list->yL,slot_tuple_iterator_next->yU,slot_zip_next->za,plain_extend_loop->zb,slot_int_rmul->UU,slot_list_index->U6,entry_tuple_iterator_next->Vh,args_tuple_iterator_next_1->Vi,entry_zip_next->VR,args_zip_next_1->VS,entry_extend_loop->VX,slot_list_extend->Wi,slot_int_bit_length->WD,slot_list_add->Xr,entry_list_add->Xs,args_list_add_2->Xu,slot_list_count->XG,type_list_count->XH,type_list_index->XI,entry_list_index->XJ,args_list_index_2->XK,slot_list_getitem->XQ,slot_tuple_getitem->XR,slot_str_getitem->XS,slot_list_append->X2,type_list_append->X3,type_list_extend->X4
open PySem.Flow renaming casesOn->qg,ret->Fw
open PySem.Frame renaming guarded->Wr
open PySem.FuncBody renaming stmts->Yc
open PySem.GenOnly renaming setGen->Wq
open PySem.Heap renaming get?_push_size->dT,lt_size->fm,get?_push_of_some->gS,SameBut->io,size_push->lG,ExtBut->oo,get?_update_self->pW,IsTuple->EK,get?_update_other->Fs
open PySem.Heap.SameBut renaming update->vB,refl->XN
open PySem.Heap.TableAt renaming isCodeTable->X6
open PySem.Keeper renaming machine->Vq
open PySem.NameKind renaming free->jt,cell->pQ,casesOn->yB,globalExplicit->zj,globalImplicit->Xo
open PySem.Obj renaming mapSeq->j8,data_mapFields->Vk,mapSeq_push_plain->Wa
open PySem.OldK renaming staticOf_congr->EL
open PySem.Operator renaming casesOn->UW
open PySem.PyData renaming int->qj,list->WL
open PySem.ReadsAll renaming nil->Xx,cons->Xy
open PySem.ScopeKind renaming function->Xp,casesOn->XU,module->X7
open PySem.Sem renaming wrap_wrap->ju,bind_eq_wrap'->kO,onRaise_eq_wrap->FB,bind_eq_wrap->FC,wp->FK,wrap_congr->Wn,wp_bind'->WB,wp_mono->WC
open PySem.SeqAt renaming shaped->UZ
open PySem.Spec renaming lookup->WG,same->X9
open PySem.Str renaming ofString->af,join->FV,length->WP
open PySem.StrLaws renaming seqIndex_nonneg->F0,seqIndex_neg->WV,glued_eq_join->Ye,join_length_le->Yg,joinTotal->Yh,picks->Yi
open PySem.Txt renaming contains->iS,slice->iX,words->kH,join->og,mul->vf,startswith->yC,endswith->yD,count->EM
open PySem.Value renaming ref->gV,casesOn->oe,str->Vg
open PySem.W renaming nsIn->lO,tabObj->mI,kqdP->sj,CodeHd->vm,ofPy->vT,fnMade->FF,ns_none_of->WN,codeHd_of_K->Xk
open PySem.W.Dat renaming list->UX,int->UY
open PySem.W.Hook renaming obs->Xh,val->Xi
open PySem.W.RowW renaming records->Xg
open PySem.W.WData renaming bool->WM
open PySem.W.WTm renaming value->FT
theorem dX {A B C:Prop} (a:A) (b:B) (c:C):A/\B/\C:=⟨a,b,c⟩
theorem iM {A B C D:Prop} (a:A) (b:B) (c:C) (d:D):A/\B/\C/\D:=⟨a,b,c,d⟩
theorem xQ {A B C D E:Prop} (a:A) (b:B) (c:C) (d:D) (e:E):A/\B/\C/\D/\E:=⟨a,b,c,d,e⟩
theorem uQ {A B C D E F:Prop} (a:A) (b:B) (c:C) (d:D) (e:E) (f:F):A/\B/\C/\D/\E/\F:=⟨a,b,c,d,e,f⟩
theorem au {α:Sort _} {A B:α->Prop} (x:α) (a:A x) (b:B x):∃x,A x/\B x:=⟨x,a,b⟩
theorem jD {α:Sort _} {A B C:α->Prop} (x:α) (a:A x) (b:B x) (c:C x):∃x,A x/\B x/\C x:=⟨x,a,b,c⟩
theorem pi {α:Sort _} {A B C D:α->Prop} (x:α) (a:A x) (b:B x) (c:C x) (d:D x):∃x,A x/\B x/\C x/\D x:=⟨x,a,b,c,d⟩
theorem pH {α:Sort _} {β:Sort _} {A:α->β->Prop} (x:α) (y:β) (a:A x y):∃x y,A x y:=⟨x,y,a⟩
theorem eT {α:Sort _} {β:Sort _} {A B:α->β->Prop} (x:α) (y:β) (a:A x y) (b:B x y):∃x y,A x y/\B x y:=⟨x,y,a,b⟩
theorem gw {α:Sort _} {β:Sort _} {A B C:α->β->Prop} (x:α) (y:β) (a:A x y) (b:B x y) (c:C x y):∃x y,A x y/\B x y/\C x y:=⟨x,y,a,b,c⟩
theorem Eh {α:Sort _} {β:Sort _} {A B C D:α->β->Prop} (x:α) (y:β) (a:A x y) (b:B x y) (c:C x y) (d:D x y):∃x y,A x y/\B x y/\C x y/\D x y:=⟨x,y,a,b,c,d⟩
theorem iE {α:Sort _} {β:Sort _} {A B C D E:α->β->Prop} (x:α) (y:β) (a:A x y) (b:B x y) (c:C x y) (d:D x y) (e:E x y):∃x y,A x y/\B x y/\C x y/\D x y/\E x y:=⟨x,y,a,b,c,d,e⟩
theorem LF {α:Sort _} {β:Sort _} {A B C D E F G:α->β->Prop} (x:α) (y:β) (a:A x y) (b:B x y) (c:C x y) (d:D x y) (e:E x y) (f:F x y) (g:G x y):∃x y,A x y/\B x y/\C x y/\D x y/\E x y/\F x y/\G x y:=⟨x,y,a,b,c,d,e,f,g⟩
theorem JP {α:Sort _} {β:Sort _} {γ:Sort _} {A B:α->β->γ->Prop} (x:α) (y:β) (z:γ) (a:A x y z) (b:B x y z):∃x y z,A x y z/\B x y z:=⟨x,y,z,a,b⟩
theorem Pd {α:Sort _} {β:Sort _} {γ:Sort _} {A B C:α->β->γ->Prop} (x:α) (y:β) (z:γ) (a:A x y z) (b:B x y z) (c:C x y z):∃x y z,A x y z/\B x y z/\C x y z:=⟨x,y,z,a,b,c⟩
theorem v7 {α:Sort _} {β:Sort _} {γ:Sort _} {A B C D:α->β->γ->Prop} (x:α) (y:β) (z:γ) (a:A x y z) (b:B x y z) (c:C x y z) (d:D x y z):∃x y z,A x y z/\B x y z/\C x y z/\D x y z:=⟨x,y,z,a,b,c,d⟩
theorem ji {α:Sort _} {β:Sort _} {γ:Sort _} {A B C D E:α->β->γ->Prop} (x:α) (y:β) (z:γ) (a:A x y z) (b:B x y z) (c:C x y z) (d:D x y z) (e:E x y z):∃x y z,A x y z/\B x y z/\C x y z/\D x y z/\E x y z:=⟨x,y,z,a,b,c,d,e⟩
theorem Mf {α:Sort _} {β:Sort _} {γ:Sort _} {A B C D E F G:α->β->γ->Prop} (x:α) (y:β) (z:γ) (a:A x y z) (b:B x y z) (c:C x y z) (d:D x y z) (e:E x y z) (f:F x y z) (g:G x y z):∃x y z,A x y z/\B x y z/\C x y z/\D x y z/\E x y z/\F x y z/\G x y z:=⟨x,y,z,a,b,c,d,e,f,g⟩
theorem KI {α:Sort _} {β:Sort _} {γ:Sort _} {δ:Sort _} {A:α->β->γ->δ->Prop} (x:α) (y:β) (z:γ) (w:δ) (a:A x y z w):∃x y z w,A x y z w:=⟨x,y,z,w,a⟩
theorem Le {α:Sort _} {β:Sort _} {γ:Sort _} {δ:Sort _} {A B C D:α->β->γ->δ->Prop} (x:α) (y:β) (z:γ) (w:δ) (a:A x y z w) (b:B x y z w) (c:C x y z w) (d:D x y z w):∃x y z w,A x y z w/\B x y z w/\C x y z w/\D x y z w:=⟨x,y,z,w,a,b,c,d⟩
theorem x8 {α:Sort _} {β:Sort _} {γ:Sort _} {δ:Sort _} {A B C D E:α->β->γ->δ->Prop} (x:α) (y:β) (z:γ) (w:δ) (a:A x y z w) (b:B x y z w) (c:C x y z w) (d:D x y z w) (e:E x y z w):∃x y z w,A x y z w/\B x y z w/\C x y z w/\D x y z w/\E x y z w:=⟨x,y,z,w,a,b,c,d,e⟩
theorem ab {α:Type} {x:α} {C:Prop} (h:Option.none=some x):C:=nomatch h
theorem aU {C:Prop} (h:false=true):C:=nomatch h
theorem cL {C:Prop} (h:true=false):C:=nomatch h
@[elab_as_elim] theorem bB {α:Sort u} {motive:α->Prop} (a:α) (h:∀x,motive x):motive a:=h a
@[elab_as_elim] theorem bY {α:Sort u} {motive:α->Prop} (a:α) (h:∀x,a=x->motive x):motive a:=h a rfl
@[elab_as_elim] theorem aa {α:Sort u} {motive:α->Prop} {a b:α} (h:a=b) (k:motive b):motive a:=h▸k
@[elab_as_elim] theorem aA {α:Sort u} {motive:α->Prop} {a b:α} (h:b=a) (k:motive b):motive a:=h▸k
theorem fm_ {α:Type} {P:α->Prop} {a:α} {l:List α} (h:P a) (t:∀b∈l,P b):∀b∈a::l,P b:=λb hb=>(ao.mp hb).elim (λq=>q▸h) (t b)
theorem kD {α:Type} {P:α->Prop}:∀b∈([]:List α),P b:=λζ q=>nomatch q
theorem md {α:Type} {a c:α} {l:List α} (h:c∉a::l):c≠a/\c∉l:=⟨λq=>h (q▸.head _),λq=>h (.tail _ q)⟩
theorem ni_ {α:Type} {a c:α} {l:List α} (h:c≠a) (t:c∉l):c∉a::l:=λq=>(ao.mp q).elim h t
theorem ww {α:Type} {c:α}:c∉([]:List α):=λq=>nomatch q
theorem bf {a b:Prop} {G:Prop} (h:a/\b) (k:a->b->G):G:=k h.1 h.2
theorem ay {α:Sort _} {a:α->Prop} {G:Prop} (h:∃x,a x) (k:∀x,a x->G):G:=h.elim λx h=>k x h
theorem aL {a b c:Prop} {G:Prop} (h:a/\b/\c) (k:a->b->c->G):G:=k h.1 h.2.1 h.2.2
theorem ah {α:Sort _} {a b:α->Prop} {G:Prop} (h:∃x,a x/\b x) (k:∀x,a x->b x->G):G:=h.elim λx h=>k x h.1 h.2
theorem jy {α:Sort _} {β:Sort _} {a:α->β->Prop} {G:Prop} (h:∃x,∃y,a x y) (k:∀x,∀y,a x y->G):G:=h.elim λx h=>h.elim λy h=>k x y h
theorem eZ {a b c d:Prop} {G:Prop} (h:a/\b/\c/\d) (k:a->b->c->d->G):G:=k h.1 h.2.1 h.2.2.1 h.2.2.2
theorem bo {α:Sort _} {a b c:α->Prop} {G:Prop} (h:∃x,a x/\b x/\c x) (k:∀x,a x->b x->c x->G):G:=h.elim λx h=>k x h.1 h.2.1 h.2.2
theorem bN {α:Sort _} {β:Sort _} {a b:α->β->Prop} {G:Prop} (h:∃x,∃y,a x y/\b x y) (k:∀x,∀y,a x y->b x y->G):G:=h.elim λx h=>h.elim λy h=>k x y h.1 h.2
theorem i8 {α:Sort _} {β:Sort _} {γ:Sort _} {a:α->β->γ->Prop} {G:Prop} (h:∃x,∃y,∃z,a x y z) (k:∀x,∀y,∀z,a x y z->G):G:=h.elim λx h=>h.elim λy h=>h.elim λz h=>k x y z h
theorem uv {a b c d e:Prop} {G:Prop} (h:a/\b/\c/\d/\e) (k:a->b->c->d->e->G):G:=k h.1 h.2.1 h.2.2.1 h.2.2.2.1 h.2.2.2.2
theorem dI {α:Sort _} {a b c d:α->Prop} {G:Prop} (h:∃x,a x/\b x/\c x/\d x) (k:∀x,a x->b x->c x->d x->G):G:=h.elim λx h=>k x h.1 h.2.1 h.2.2.1 h.2.2.2
theorem bw {α:Sort _} {β:Sort _} {a b c:α->β->Prop} {G:Prop} (h:∃x,∃y,a x y/\b x y/\c x y) (k:∀x,∀y,a x y->b x y->c x y->G):G:=h.elim λx h=>h.elim λy h=>k x y h.1 h.2.1 h.2.2
theorem jP {α:Sort _} {β:Sort _} {γ:Sort _} {a b:α->β->γ->Prop} {G:Prop} (h:∃x,∃y,∃z,a x y z/\b x y z) (k:∀x,∀y,∀z,a x y z->b x y z->G):G:=h.elim λx h=>h.elim λy h=>h.elim λz h=>k x y z h.1 h.2
theorem oD {a b c d e f:Prop} {G:Prop} (h:a/\b/\c/\d/\e/\f) (k:a->b->c->d->e->f->G):G:=k h.1 h.2.1 h.2.2.1 h.2.2.2.1 h.2.2.2.2.1 h.2.2.2.2.2
theorem IZ {α:Sort _} {a b c d e:α->Prop} {G:Prop} (h:∃x,a x/\b x/\c x/\d x/\e x) (k:∀x,a x->b x->c x->d x->e x->G):G:=h.elim λx h=>k x h.1 h.2.1 h.2.2.1 h.2.2.2.1 h.2.2.2.2
theorem xk {α:Sort _} {β:Sort _} {a b c d:α->β->Prop} {G:Prop} (h:∃x,∃y,a x y/\b x y/\c x y/\d x y) (k:∀x,∀y,a x y->b x y->c x y->d x y->G):G:=h.elim λx h=>h.elim λy h=>k x y h.1 h.2.1 h.2.2.1 h.2.2.2
theorem jQ {α:Sort _} {β:Sort _} {γ:Sort _} {a b c:α->β->γ->Prop} {G:Prop} (h:∃x,∃y,∃z,a x y z/\b x y z/\c x y z) (k:∀x,∀y,∀z,a x y z->b x y z->c x y z->G):G:=h.elim λx h=>h.elim λy h=>h.elim λz h=>k x y z h.1 h.2.1 h.2.2
theorem yi {a b c d e f i:Prop} {G:Prop} (h:a/\b/\c/\d/\e/\f/\i) (k:a->b->c->d->e->f->i->G):G:=k h.1 h.2.1 h.2.2.1 h.2.2.2.1 h.2.2.2.2.1 h.2.2.2.2.2.1 h.2.2.2.2.2.2
theorem eQ {α:Sort _} {β:Sort _} {a b c d e:α->β->Prop} {G:Prop} (h:∃x,∃y,a x y/\b x y/\c x y/\d x y/\e x y) (k:∀x,∀y,a x y->b x y->c x y->d x y->e x y->G):G:=h.elim λx h=>h.elim λy h=>k x y h.1 h.2.1 h.2.2.1 h.2.2.2.1 h.2.2.2.2
theorem qY {α:Sort _} {β:Sort _} {γ:Sort _} {a b c d:α->β->γ->Prop} {G:Prop} (h:∃x,∃y,∃z,a x y z/\b x y z/\c x y z/\d x y z) (k:∀x,∀y,∀z,a x y z->b x y z->c x y z->d x y z->G):G:=h.elim λx h=>h.elim λy h=>h.elim λz h=>k x y z h.1 h.2.1 h.2.2.1 h.2.2.2
theorem SA {α:Sort _} {β:Sort _} {a b c d e f:α->β->Prop} {G:Prop} (h:∃x,∃y,a x y/\b x y/\c x y/\d x y/\e x y/\f x y) (k:∀x,∀y,a x y->b x y->c x y->d x y->e x y->f x y->G):G:=h.elim λx h=>h.elim λy h=>k x y h.1 h.2.1 h.2.2.1 h.2.2.2.1 h.2.2.2.2.1 h.2.2.2.2.2
theorem fb {α:Sort _} {β:Sort _} {γ:Sort _} {a b c d e:α->β->γ->Prop} {G:Prop} (h:∃x,∃y,∃z,a x y z/\b x y z/\c x y z/\d x y z/\e x y z) (k:∀x,∀y,∀z,a x y z->b x y z->c x y z->d x y z->e x y z->G):G:=h.elim λx h=>h.elim λy h=>h.elim λz h=>k x y z h.1 h.2.1 h.2.2.1 h.2.2.2.1 h.2.2.2.2
theorem Cr {α:Type} {vs:List α} (h:vs.length=0):vs=[]:=Uu.mp h
theorem rj {α:Type} {vs:List α} {n:Nat} (h:vs.length=n+1):∃a l,vs=a::l/\l.length=n:=by
 cases vs with
 |nil=>exact absurd h (Nat.succ_ne_zero n).symm
 |cons a l=>exact⟨a,l,rfl,lx h⟩
theorem rY {α:Type} {vs:List α} (h:vs.length=2):∃a b,vs=[a,b]:=by obtain ⟨a,l,e,h⟩:=rj h;obtain ⟨b,r,q,h⟩:=rj h;exact⟨a,b,by rw[e,q,Cr h]⟩
theorem xF {α:Type} {vs:List α} (h:vs.length=3):∃a b c,vs=[a,b,c]:=by obtain ⟨a,l,e,h⟩:=rj h;obtain ⟨b,c,q⟩:=rY h;exact⟨a,b,c,by rw[e,q]⟩
theorem Dd {α:Type} {vs:List α} (h:vs.length=4):∃a b c d,vs=[a,b,c,d]:=by obtain ⟨a,l,e,h⟩:=rj h;obtain ⟨b,c,d,q⟩:=xF h;exact⟨a,b,c,d,by rw[e,q]⟩
theorem ak {α:Type} {x y:α} (h:some x=some y):x=y:=jm h
section
variable {α β γ:Type} {d:β} {G:Prop}
theorem ifs {c:Prop} [Decidable c] {x:Option β} (h:(if c then x else none)=some d) (k:c->x=some d->G):G:=by
 by_cases q:c
 ·exact k q ((if_pos q).symm.trans h)
 ·exact ab ((if_neg q).symm.trans h)
theorem B0 {c:Prop} [Decidable c] {x:Option β} (h:(if c then none else x)=some d) (k:¬c->x=some d->G):G:=by
 by_cases q:c
 ·exact ab ((if_pos q).symm.trans h)
 ·exact k q ((if_neg q).symm.trans h)
theorem om {o:Option α} {f:α->Option β} (h:bO (motive:=λζ=>Option β) o none f=some d) (k:∀y,o=some y->f y=some d->G):G:=by
 induction o using bO with
 |none=>exact ab h
 |some y=>exact k y rfl h
theorem Sk {o:Option α} {f:α->Bool} (h:bO (motive:=λζ=>Bool) o false f=true) (k:∀y,o=some y->f y=true->G):G:=by
 induction o using bO with
 |none=>exact aU h
 |some y=>exact k y rfl h
theorem km {o:Option α} {u:Option γ} {f:α->γ->Option β} (h:bO (motive:=λζ=>Option β) o none (λx=>bO (motive:=λζ=>Option β) u none (f x))=some d) (k:∀x y,o=some x->u=some y->f x y=some d->G):G:=
 om h λx e h=>om h λy q h=>k x y e q h
end
inductive PV where
 |none
 |bool (b:Bool)
 |int (i:Int)
 |str (x:Str)
 |list (xs:List PV)
 |tup (xs:List PV)
theorem Ny {a b:List PV} (h:PV.list a=PV.list b):a=b:=by injection h
noncomputable def PV.flat:PV->Bool
 |.list _=>false
 |.tup _=>false
 |_=>true
inductive Ent where
 |sh (d:PV)
 |own (xs:List PV)
noncomputable abbrev Sg:=List (Str×Ent)
noncomputable def put:Sg->Str->Ent->Sg
 |[],x,e=>[(x,e)]
 |(y,f)::r,x,e=>if x==y then (x,e)::r else (y,f)::put r x e
theorem Qs {y x f e r}:put ((y,f)::r) x e=if x==y then (x,e)::r else (y,f)::put r x e:=rfl
noncomputable def unown:Sg->Sg
 |[]=>[]
 |(y,.own xs)::r=>(y,.sh (.list xs))::unown r
 |(y,.sh d)::r=>(y,.sh d)::unown r
theorem zL {y xs r}:unown ((y,.own xs)::r)=(y,.sh (.list xs))::unown r:=rfl
theorem Cv {y d r}:unown ((y,.sh d)::r)=(y,.sh d)::unown r:=rfl
structure Orc where
 fn:Str->List PV->Option PV
 gc:Str->Option PV
 dget:Str->List PV->Option PV
 gen:Str->List PV->Option (List PV)
noncomputable def aX {α β:Type} (f:α->Option β):List α->Option (List β)
 |[]=>some []
 |x::xs=>match f x with
  |Option.none=>Option.none
  |some y=>match aX f xs with
   |Option.none=>Option.none
   |some ys=>some (y::ys)
theorem Cj {α β} {f:α->Option β} {x xs}:aX f (x::xs)=(match f x with|Option.none=>Option.none|some y=>match aX f xs with|Option.none=>Option.none|some ys=>some (y::ys)):=rfl
theorem a7 {α β:Type} {f:α->Option β}:aX f []=some []:=rfl
theorem aG {α β:Type} {f:α->Option β} {x:α} {xs:List α} {y:β} {ys:List β} (h1:f x=some y) (h2:aX f xs=some ys):aX f (x::xs)=some (y::ys):=by refine aa Cj ?_;exact aa h1 (aa h2 rfl)
noncomputable def eO:PV->Option Bool
 |.none=>some false
 |.bool b=>some b
 |.int i=>some (i != 0)
 |.str x=>some (x.length != 0)
 |.list xs=>some (!xs.isEmpty)
 |.tup xs=>some (!xs.isEmpty)
noncomputable def dk:Nat->PV->Bool
 |_,.int _=>true
 |n+1,.list xs=>xs.all (dk n)
 |_,_=>false
mutual
noncomputable def rT:PV->PV->Bool
 |.int a,.int b=>a==b
 |.list xs,.list ys=>ko xs ys
 |_,_=>false
noncomputable def ko:List PV->List PV->Bool
 |[],[]=>true
 |x::xs,y::ys=>rT x y&&ko xs ys
 |_,_=>false
end
noncomputable def sW:PV->PV->Option Bool
 |.int a,.int b=>some (a==b)
 |.str a,.str b=>some (a==b)
 |.list xs,.list ys=>if xs.all (dk 3)&&ys.all (dk 3) then some (ko xs ys) else Option.none
 |_,_=>Option.none
noncomputable def aZ (n:Nat):Bool:=ve n 16777216
noncomputable def bU (op:kE) (a b:PV):Option PV:=
 match op,a,b with
 |.Add,.int x,.int y=>some (.int (x+y))
 |.Add,.str x,.str y=>if aZ (x.length+y.length) then some (.str (x++y)) else Option.none
 |.Add,.list xs,.list ys=>if aZ (xs.length+ys.length) then some (.list (xs++ys)) else Option.none
 |.Sub,.int x,.int y=>some (.int (x - y))
 |.Mult,.int x,.int y=>if decide (cg x<=64)||decide (cg x+cg y<=1000000) then some (.int (x*y)) else Option.none
 |.Mult,.str x,.int y=>if aZ (x.length*y.toNat)&&decide (y<16777216)&&decide (-16777216<y) then some (.str (vf x y)) else Option.none
 |.FloorDiv,.int x,.int y=>if y != 0&&decide (x.natAbs<2^60) then some (.int (EB x y)) else Option.none
 |.Mod,.int x,.int y=>if y != 0 then some (.int (gP x y)) else Option.none
 |.Pow,.int x,.int y=>if decide (0<=y)&&decide ((cg x:Int)*y<=2^27) then some (.int (x^y.toNat)) else Option.none
 |.LShift,.int x,.int y=>if decide (0<=y)&&decide ((cg x:Int)+y<=2^27) then some (.int (x*2^y.toNat)) else Option.none
 |.BitAnd,.int x,.int y=>some (.int (mD x y))
 |.BitXor,.int x,.int y=>some (.int (sb x y))
 |.RShift,.int x,.int y=>if decide (0<=y) then some (.int (if y>=(cg x:Int) then (if x<0 then -1 else 0) else x.fdiv (2^y.toNat))) else Option.none
 |.Mult,.list xs,.int y=>if decide (y<16777216)&&decide (-16777216<y)&&aZ (xs.length*y.toNat) then some (.list (bJ y.toNat xs).flatten) else Option.none
 |_,_,_=>Option.none
noncomputable def te (a b:PV):Option Bool:=
 match a,b with
 |.none,.none=>some true
 |.bool x,.bool y=>some (x==y)
 |.bool _,.none=>some false
 |.none,.bool _=>some false
 |.int _,.none=>some false
 |.str _,.none=>some false
 |.list _,.none=>some false
 |.tup _,.none=>some false
 |_,_=>Option.none
noncomputable def iA (op:nZ) (a b:PV):Option Bool:=
 match op,a,b with
 |.Eq,a,b=>sW a b
 |.NotEq,a,b=>(sW a b).map (!·)
 |.Lt,.int x,.int y=>some (decide (x<y))
 |.LtE,.int x,.int y=>some (decide (x<=y))
 |.Gt,.int x,.int y=>some (decide (x>y))
 |.GtE,.int x,.int y=>some (decide (x>=y))
 |.Is,a,b=>te a b
 |.IsNot,a,b=>(te a b).map (!·)
 |.In,.str x,.str y=>some (iS y x)
 |.NotIn,.str x,.str y=>some (!iS y x)
 |_,_,_=>Option.none
theorem xf (x:Int):(aR 0 x).toNat=x.toNat:=by
 cases x with
 |ofNat n=>rw[show aR 0 (vg n)=n from mE (c8 n)];rfl
 |negSucc n=>rw[sd (EC (Int.negSucc_lt_zero n))];rfl
theorem HU {m k:Int} (h:0<=m):aR 0 (k+m)=aR 0 (m - ((-k).toNat:Int))+(k.toNat:Int):=by
 cases k with
 |ofNat n=>have e:(-vg n).toNat=0:=Int.toNat_of_nonpos (Int.neg_nonpos_of_nonneg (c8 n));rw[e,ED,Uv,mE h,show aR 0 (vg n+m)=n+m from mE (Int.add_nonneg (c8 n) h),sf];rfl
 |negSucc n=>rw[show (Int.negSucc n).toNat=0 from rfl,ED,Uw,sf];rfl
theorem OE {m k:Int}:aR 0 (m - (k+1))=aR 0 (aR 0 (m - k) - 1):=by
 rw[<- Ux];generalize m - k=y;rcases Uy 0 y with h|h
 ·rw[mE h]
 ·rw[sd h,sd (Int.sub_nonpos_of_le (pL h (by decide)))];rfl
theorem qs {a n:Nat} (h:a<=n):aR (0:Int) (bL (a:Int) (n:Int))=a:=by rw[Int.min_eq_left (ij.mpr h),mE (c8 a)]
theorem Nc {n:Nat}:aR 0 (bL ((-1:Int)+n) n)=((n - 1:Nat):Int):=by
 cases n with
 |zero=>decide
 |succ k=>rw[show (-1:Int)+((k+1:Nat):Int)=(k:Nat) from by rw[EE,sf,Uz];exact Uw _];exact qs (mF k)
section
variable {a b c d e f g i j k l m:Nat} {x y z w u v:Int}
theorem BF:a<((a+1)+1):=by lia
theorem I1 (h0:a<=(b+1)) (h1:¬ (a<=b)):a=(b+1):=by lia
theorem MA (h0:(a+(b+1))<=c):a<c:=Nat.lt_of_add_right_lt h0
theorem Ip (h0:(a+(b+1))<=c):((a+1)+b)<=c:=by lia
theorem H0:(a+(b+1))=((a+1)+b):=c5 (UA a b)
theorem TS:(0+a)<=a:=by lia
theorem NQ (h0:a=(b+1)):0<a:=Nat.lt_of_sub_eq_succ h0
theorem QA (h0:a=(b+1)) (h1:c<=(a - 1)):c<(b+1):=by omega
theorem MG (h0:a=(b+1)) (h1:c<(b+1)):c<=(a - 1):=by lia
theorem Il (h0:¬ (x<=y)):y<=x:=Int.le_of_not_le h0
theorem HG:(x<=y\/y<=x):=Uy x y
theorem RT (h0:0<=x):(b9 (aR 0 x))=(x.toNat):=xf x
theorem Qz (h0:0<=x) (h1:x<=(a:Int)):(bL (b9 (aR 0 x)) a)=(x.toNat):=by rw[mE h0];exact j1 (EF.mpr h1)
theorem LR (h0:a<=b) (h1:¬ (a=b)):¬ ((a:Int)=(b:Int)):=UB rfl rfl h1
theorem MY (h0:(a - b)=0):a<=b:=Nat.le_of_sub_eq_zero h0
theorem Rg (h0:a<=b) (h1:b<=c) (h2:c<=b):(c - a)<=(b - a):=yw h2 a
theorem PZ (h0:a<=b) (h1:(b - a)=(c+d)) (h2:c=e):(a+e)<=b:=by lia
theorem Td (h0:a<=b):((b+c) - a)=((b - a)+c):=Nat.sub_add_comm h0
theorem NG (h0:a<=b) (h1:c=((1+d)+1)):(a+1)<=(b+c):=by lia
theorem Ms (h0:a=((1+b)+1)):(((c+1)+b)+1)<=(c+a):=by lia
theorem Rp (h0:(a - b)=(c+d)) (h1:c=((1+e)+1)):(b+c)<=a:=by lia
theorem PK (h0:a=((1+b)+1)):((c+a) - (((c+1)+b)+1))=0:=h0▸Nat.sub_eq_zero_of_le (eh (congrArg pM (j2 c 1 b).symm))
theorem La (h0:a<=b) (h1:c=0):(c+a)<=(d+b):=by lia
theorem Nk (h0:a<=100000) (h1:(b+(a - c))=d) (h2:d<=a):(b<=100000/\(a - c)<=a):=by lia
theorem Tg (h0:a<=100000) (h1:(b<=100000/\c<=a)):(b+c)<=1000000:=aB (iT h1.1 (aB h1.2 h0)) (by decide)
theorem Oi (h0:a<=b) (h1:¬ (a<b)):¬ ((a:Int)<(b:Int)):=by lia
theorem CU (h0:(a+(40*2))<9000):(a+64)<9900:=cV (ik (kF (by decide:64<=40*2) a) h0) (by decide)
theorem Ma (h0:¬ (a=0)):(a:Int)≠0:=UC.mpr h0
theorem Nl:a≠(a+1):=Nat.ne_add_one a
theorem H6:(b9 ((a:Int)+(1*(b:Int))))=(a+b):=by lia
theorem ME (h0:a<=b) (h1:b<=c) (h2:¬ ((a:Int)<0)):(aR 0 (bL (a:Int) (c:Int)))=(a:Int):=by lia
theorem QC (h0:a<=b) (h1:¬ ((a:Int)<0)):(aR 0 (bL (a:Int) (b:Int)))=(a:Int):=qs h0
theorem Sc (h0:a<=b) (h1:b<=c):(a+(b - a))<=c:=by lia
theorem Ay:(aR 0 (bL 0 (a:Int)))=0:=Int.max_self 0
theorem LW (h0:a<=b) (h1:(c+b)<900):(c+a)<900:=ik (kF h0 c) h1
theorem HW (h0:a<=b) (h1:(c+(40*b))<9000):(c+(40*a))<9000:=ik (kF (pN 40 h0) c) h1
theorem Tt (h0:(a+(b+1))<900):((a+1)+b)<900:=by lia
theorem Rr (h0:(a+(40*(b+1)))<9000):((a+3)+(40*b))<9000:=ik (by rw[yx,j2,fk 3];exact kF (kF (by decide) _) a) h0
theorem N3 (h0:(a+b)<900):a<1000:=by lia
theorem PE (h0:a<=b) (h1:b<=c):(a:Int)<=(c:Int):=by lia
theorem z0 (h0:a<=b) (h1:b<=c):(bL (b - a) (c - a))=(b - a):=j1 (yw h1 a)
theorem HE:((a - b) - (c+d))=(a - ((b+c)+d)):=by lia
theorem xz (h0:a<=b) (h1:(c+d)<=(b - a)):((a+c)+d)<=b:=by lia
theorem Ea (h0:0<a):1<=(a:Int):=EF.mp h0
theorem Di (h0:0<a):(b9 ((-1)+(a:Int)))=(a - 1):=(congrArg b9 (sf (-1) a)).trans (yy a 1)
theorem Mi (h0:0<a):(a - 1)<a:=UD h0
theorem GO (h0:¬ (a<b)):¬ ((b:Int)>(a:Int)):=by lia
theorem H5:2<=(((a:Int)+1)+1):=by lia
theorem GV:0<(((a:Int)+1)+1):=Int.sign_eq_one_iff_pos.mp rfl
theorem Sh (h0:(a+b)<=134217728):(0<=(b:Int)/\((a:Int)+(b:Int))<=134217728):=by lia
theorem xv (h0:¬ (a=b)):¬ ((a:Int)=(b:Int)):=UB rfl rfl h0
theorem MT (h0:a<=(3*b)) (h1:((-3)<=x/\x<=3)):(b9 (x+(a:Int)))<=(3*(b+1)):=by lia
theorem PO (h0:((-3)<=x/\x<=3)):0<=(x+3):=by lia
theorem Mv (h0:(a:Int)=(x+3)) (h1:(b:Int)=(y+3)):((a+b):Int)=((x+(y+0))+((6:Nat):Int)):=by lia
theorem Mp (h0:(a:Int)=(x+3)) (h1:(b:Int)=(y+3)) (h2:(c:Int)=(z+3)):(((a+b)+c):Int)=((x+(y+(z+0)))+((9:Nat):Int)):=by lia
theorem Rx (h0:(a:Int)=(x+3)) (h1:(b:Int)=(y+3)) (h2:(c:Int)=(z+3)) (h3:(d:Int)=(w+3)):((((a+b)+c)+d):Int)=((x+(y+(z+(w+0))))+((12:Nat):Int)):=by lia
theorem SM:(x+3)=((x+0)+((3:Nat):Int)):=by lia
theorem KQ (h0:(a+16)<16):¬ ((a+16)<16):=of_decide_eq_false rfl
theorem JM (h0:((-3)<=x/\x<=3)):(b9 (x+3))<7:=by lia
theorem RH (h0:a=(15+1)):15<a:=by lia
theorem QD:24<32:=by decide
theorem Ik (h0:a=24):a<32:=by lia
theorem Mz (h0:1<=a):(a - 1)<a:=UD h0
theorem Ja (h0:a≠0):1<=(a+(0*b)):=by lia
theorem Iz (h0:1<=a) (h1:¬ (b<=c)):(c+(1*a))<=((b+a) - 1):=by lia
theorem HV (h0:(1<=a/\a<=512)):1<=(a:Int):=by lia
theorem Mo (h0:(1<=a/\a<=512)):(a:Int)<=512:=by lia
theorem CK:(2*a)=(a+a):=Nat.two_mul a
theorem TJ:a<=(2*a):=by lia
theorem D7 (h0:a<=b):(a+1)<=((b+1)+1):=by lia
theorem Pv (h0:a≠0) (h1:b=a):0<b:=by lia
theorem MO (h0:0<a):(b+a)≠0:=by lia
theorem NO:((((a+1)+1)+1)/2)=(((a+1)/2)+1):=Nat.add_div_right (a+1) (il 1)
theorem T5:(b9 ((a:Int)+(2*(b:Int))))=(a+(2*b)):=c5 (vh (a.add (2*b)))
theorem HS (h0:(aR a b)<=c):a<=c:=aB (UE a b) h0
theorem Jp (h0:(aR a b)<=c):b<=c:=aB (UF a b) h0
theorem wC (h0:a=b):a<=(b+c):=Nat.le.intro (congrFun (congrArg yz h0) c)
theorem Ot (h0:(a+b)<=(c+1)) (h1:d<=a) (h2:1<=b):d<=c:=by lia
theorem nP (h0:(a+(b+1))=c):((a+1)+b)=c:=by lia
theorem qR (h0:(a+(b+1))=c):a<c:=by lia
theorem TD (h0:(a+1)<=b) (h1:c=a):c<=b:=by lia
theorem GD (h0:(a+0)=b):a=b:=EG h0
theorem G0 (h0:(a+b)<=c) (h1:(d+(e+f))=(a+b)):(d+e)<=c:=by lia
theorem OU (h0:a=b) (h1:¬ (c<b)):a<=c:=by lia
theorem xc (h0:a<b) (h1:(b - a)<=0):False:=by lia
theorem BZ (h0:(a+1)=b):(b - a)=1:=c5 (Nat.eq_sub_of_add_eq' h0)
theorem sa (h0:a<b) (h1:¬ ((a+1)=b)):a<((a+b)/2):=by lia
theorem m4 (h0:a<b) (h1:¬ ((a+1)=b)):((a+b)/2)<b:=by lia
theorem w3 (h0:a<b) (h1:¬ ((a+1)=b)) (h2:((a+b)/2)=c) (h3:a<c):(b - a)=((c - a)+(b - c)):=((fk _ _).trans (Nat.sub_add_sub_cancel (h2▸ej (m4 h0 h1)) (ej h3))).symm
theorem qz (h0:a<b) (h1:(b - a)<=(c+1)) (h2:¬ ((a+1)=b)) (h3:((a+b)/2)=d) (h4:a<d):(b - d)<=c:=aB (UG h4 b) (Nat.pred_le_pred h1)
theorem uL (h0:a<b) (h1:(b - a)<=(c+1)) (h2:¬ ((a+1)=b)) (h3:((a+b)/2)=d):(d - a)<=c:=h3▸n7 (cV (Nat.sub_lt_sub_right (ej (sa h0 h2)) (m4 h0 h2)) h1)
theorem Dz (h0:a<b) (h1:b<=c) (h2:¬ ((a+1)=b)) (h3:((a+b)/2)=d) (h4:a<d) (h5:(b - a)=((d - a)+(b - d))):((bL a c)+(d - a))=d:=by rw[j1 (aB (ej h0) h1)];exact mG (ej h4)
theorem HF (h0:a<b) (h1:¬ ((a+1)=b)) (h2:((a+b)/2)=c) (h3:d=c):b=(d+(b - c)):=by lia
theorem Ul (h0:1<=a) (h1:0<b):a<=((b+a) - 1):=by omega
theorem Rv (h0:1<=a) (h1:((b+a) - 1)<(c+a)):b<=c:=by omega
theorem PS (h0:1<=a):((0+a) - 1)<a:=by omega
theorem A3 (h0:a<=128):(a+4)<=139:=by lia
theorem SY (h0:a<b) (h1:(b - a)<=0):c=d:=by lia
theorem O8 (h0:a<b) (h1:c<a):(c+(a - c))=a:=by lia
theorem Nm (h0:a<b) (h1:b<=c) (h2:¬ ((a+1)=b)) (h3:((a+b)/2)=d):(d - a)<=(c - a):=h3▸yw (aB (ej (m4 h0 h2)) h1) a
theorem QK (h0:a<=b) (h1:c<a):(a - c)<=(b - c):=yw h0 c
theorem HP (h0:a<=128) (h1:b<=a) (h2:((c+b)/2)=d) (h3:c<d):(b - d)<=128:=aB (iU _ _) (aB h1 h0)
theorem SF (h0:a<=128) (h1:b<=a) (h2:((c+b)/2)=d):(d - c)<=128:=h2▸Nat.sub_le_of_le_add (aB (EH _ _) (fk c b▸n8 (aB h1 h0) c))
theorem Nz (h0:a<=b) (h1:b<=(128*512)) (h2:c<=(128*512)):((a:Int)+(c:Int))<=134217728:=by lia
theorem QX (h0:x<0) (h1:(0<=(x+(a:Int))/\(x+(a:Int))<(a:Int))):(b9 (x+(a:Int)))<a:=by omega
theorem Kq (h0:x<0) (h1:(0<=(x+(a:Int))/\(x+(a:Int))<(a:Int))):(-(a:Int))<=x:=by lia
theorem Pa (h0:¬ (x<0)) (h1:(0<=x/\x<(a:Int))):(x.toNat)<a:=by omega
theorem Ps (h0:a=b) (h1:(-(b:Int))<=x):(-(a:Int))<=x:=le_of_eq_of_le (congrArg Neg.neg (congrArg Nat.cast h0)) h1
theorem Hk (h0:a<=b):(bL (a:Int) (b:Int))=(a:Int):=by lia
theorem PF (h0:a<=b) (h1:b<=c):(bL a b)<=c:=aB (n9 a b) h1
theorem ON:(b9 (0+((a:Int)*1)))=a:=by lia
theorem Q1 (h0:a=b) (h1:(0<=(c:Int)/\(c:Int)<=(b:Int))):c<=a:=by lia
theorem KN (h0:a=b) (h1:c=a):b<=c:=by lia
theorem Jl (h0:a=16777216) (h1:b<=a) (h2:b=c) (h3:(0<=(d:Int)/\(d:Int)<=(c:Int))):(bL d b)<=a:=aB (n9 d b) h1
theorem L2 (h0:a<(b9 (x - y))):0<(((b9 (x - y)):Int) - (a:Int)):=by lia
theorem PU:((x+(a:Int))+1)=(x+((a+1):Int)):=Uz _ _ _
theorem KC:((((b9 (x - y)):Int) - (a:Int)) - 1)=(((b9 (x - y)):Int) - ((a+1):Int)):=by lia
theorem TC:(((b9 (x - y)):Int) - ((b9 (x - y)):Int))<=0:=by lia
theorem GH:((a+1)+b)=(a+(b+1)):=UA a b
theorem NA (h0:a=b) (h1:b<=c):a<=(bL b c):=by lia
theorem GA (h0:a=b) (h1:¬ (c<=b)):a<=(bL c b):=Nat.le_min.mpr ⟨h0▸ej (UH h1),eh h0⟩
theorem M3:((x+1)+(a:Int))=(x+((a+1):Int)):=by lia
theorem JV (h0:0<=x):¬ (x<((0:Nat):Int)):=Int.not_lt_of_ge h0
theorem QQ (h0:0<=x) (h1:(x - 1)<0):x<((a+1):Int):=by lia
theorem Ib (h0:x<((a+1):Int)):(x - 1)<(a:Int):=Int.sub_lt_iff.mpr h0
theorem RO (h0:¬ (x<((a+1):Int))):¬ ((x - 1)<(a:Int)):=by lia
theorem KG:((x - 1) - (a:Int))=(x - ((a+1):Int)):=by lia
theorem Gq (h0:0<=x) (h1:x<((y.toNat):Int)):(x - y)<0:=by lia
theorem Qm (h0:0<=x) (h1:¬ (x<((y.toNat):Int))):¬ ((x - y)<0):=by lia
theorem Ju:((x - ((y.toNat):Int))+((b9 (-y)):Int))=(x - y):=by lia
theorem Kr (h0:a<8):(a=0\/(a=1\/(a=2\/(a=3\/(a=4\/(a=5\/(a=6\/a=7))))))):=(by decide:∀a<8,(a=0\/(a=1\/(a=2\/(a=3\/(a=4\/(a=5\/(a=6\/a=7)))))))) a h0
theorem Gh (h0:0<=x) (h1:(x - y)<0):¬ (((b9 (y+(a:Int))):Int)<=x):=by lia
theorem HI (h0:0<=x) (h1:(a:Int)<=(x - y)):((b9 (y+(a:Int))):Int)<=x:=by lia
theorem Ow:((x - y) - z)=(x - (y+z)):=Ux x y z
theorem Qf (h0:0<=x) (h1:¬ ((a:Int)<=(x - y))):¬ (((b9 (y+(a:Int))):Int)<=x):=by lia
theorem GX (h0:(a:Int)<=((b:Int) - x)):0<=((0+(b:Int)) - x):=by lia
theorem Sn (h0:(a:Int)<=((b:Int) - x)):¬ (((0+(b:Int)) - x)<(a:Int)):=by lia
theorem RE (h0:(a:Int)<=(0+(b:Int))):a<=b:=by lia
theorem Nd:((((0+(a:Int)) - x) - (b:Int))=0↔((a:Int) - x)=(b:Int)):=by lia
theorem Lv (h0:¬ ((a:Int)<=(0+(b:Int)))):¬ (a<=b):=by lia
theorem TF (h0:(x<=(a:Int)/\a<=20)) (h1:((-12)<=x/\x<=12)) (h2:b<=9) (h3:c<=9) (h4:d<=9) (h5:e<=9):((a+(b+(c+(d+(e+0)))))+(b9 ((a:Int) - x)))<=100000:=by lia
theorem GG (h0:(x<=(a:Int)/\a<=20)):((b9 ((a:Int) - x)):Int)<=((a:Int) - x):=by lia
theorem JJ (h0:(x<=(a:Int)/\a<=20)):((a:Int) - x)=((b9 ((a:Int) - x)):Int):=by lia
theorem TN (h0:(x<=(a:Int)/\a<=20)) (h1:((-12)<=x/\x<=12)) (h2:b<=9) (h3:c<=9) (h4:d<=9) (h5:e<=9):((a+(b+(c+(d+(e+0)))))+(b9 ((a:Int) - x)))<=99999:=by lia
theorem M4 (h0:(x<=(a:Int)/\a<=20)):((b9 ((a:Int) - x)):Int)<=(((a+1):Int) - x):=by lia
theorem IG (h0:(x<=(a:Int)/\a<=20)):¬ ((((a+1):Int) - x)=((b9 ((a:Int) - x)):Int)):=by omega
theorem QB:(((a:Int)+1) - (b:Int))=(1+((a:Int) - (b:Int))):=by lia
theorem P8:((a:Int) - ((b:Int)+1))=((-1)+((a:Int) - (b:Int))):=by lia
theorem NH (h0:0<=x):0<=(x+1):=Int.le_add_one h0
theorem Ox (h0:x<=y):(1+x)<=(y+1):=by lia
theorem Q9:0<=(aR 0 (x - 1)):=yA 0 (x - 1)
theorem Ix (h0:x<=y):((-1)+x)<=(aR 0 (y - 1)):=by omega
theorem Uh (h0:(x - 1)<=0):0=(aR 0 (x - 1)):=c5 (sd h0)
theorem NI (h0:¬ ((x - 1)<=0)):((-1)+x)=(aR 0 (x - 1)):=by lia
theorem LU:(x+((a+1):Int))=((x+(a:Int))+1):=by lia
theorem Go:((b9 (x+(a:Int))):Int)=(aR 0 (x+(a:Int))):=by lia
theorem Mc (h0:a<=b) (h1:(b - a)=0):b=a:=by lia
theorem Si (h0:a<=b):(b - (b - a))=a:=Nat.sub_sub_self h0
theorem tu:¬ (a<0):=UI a
theorem Jq (h0:a<=b) (h1:(bL a b)=0):a<=c:=by lia
theorem Dv (h0:a<=b):(bL a b)=a:=j1 h0
theorem Ia:¬ (a<a):=vi a
theorem GE (h0:a<=b) (h1:c<=d) (h2:((b:Int) - (e:Int))<=x) (h3:f=(e+d)):((a:Int)+(c:Int))<=(x+(f:Int)):=by lia
theorem PD (h0:0<=x):x=((x.toNat):Int):=Int.eq_natCast_toNat.mpr h0
theorem GJ:((-3)<=(((a%7):Int) - 3)/\(((a%7):Int) - 3)<=3):=by lia
theorem NS:(x+(aR y z))=(aR (x+y) (x+z)):=c5 (Int.max_add_left x y z)
theorem IH:((x.toNat):Int)=(aR 0 x):=by lia
theorem Qd (h0:(a=1\/(a=2\/(a=3\/a=4)))):a<=4:=by lia
theorem MP:(bL a 4)<=16777216:=aB (n9 a 4) (by decide)
theorem Bm:(((0:Nat):Int)+((a+1):Int))=((a:Int)+1):=by lia
theorem Of (h0:a<=12):((-1000000)<=((a:Int)+1)/\((a:Int)+1)<=1000000):=by lia
theorem Gf (h0:a<=12):(a+1)<=16777216:=by lia
theorem BQ (h0:((a+1)+1)<=(b+1)):a<=b:=by lia
theorem PG:1<=(a+1):=b7 _ _
theorem TK (h0:a<=13) (h1:1<=a) (h2:b<=(a - 1)):(b+1)<=16777216:=by lia
theorem Ue (h0:a<=64):a<=1000000:=aB (by assumption) (b7 _ _)
theorem Qr:5<=64:=b7 _ _
theorem KO (h0:((-((3*a):Int))<=x/\x<=((3*a):Int))) (h1:((-3)<=y/\y<=3)):((-((3*(a+1)):Int))<=(y+x)/\(y+x)<=((3*(a+1)):Int)):=by lia
theorem N5 (h0:((-((3*a):Int))<=x/\x<=((3*a):Int))) (h1:a<=4):(b9 (aR 0 x))<=12:=EF.mpr (UJ.mpr ⟨by decide,pL h0.2 (Int.mul_le_mul_of_nonneg_left (ij.mpr h1) (by decide))⟩)
theorem JG:0<=(aR 0 x):=yA 0 x
theorem HL:((a/60)%29)<=28:=n7 (iV _ (by decide))
theorem uu (h0:(1<=a/\a<=256)):a<=512:=by lia
theorem LO (h0:(1<=a/\a<=256)):1<=(2*a):=by lia
theorem CF (h0:(1<=a/\a<=256)):(2*a)<=512:=pN 2 h0.2
theorem NK (h0:x<1):(x.toNat)=0:=by lia
theorem Nr (h0:((-3)<=x/\x<=3)):((x.toNat)+(b9 (-x)))<=3:=by rw[Int.toNat_add_toNat_neg_eq_natAbs];omega
theorem Se (h0:((-1000)<=x/\x<=1000)):x<16777216:=by omega
theorem PY (h0:((-1000)<=x/\x<=1000)):(-16777216)<x:=by omega
theorem OX (h0:((-3)<=x/\x<=3)):((-1000)<=x/\x<=1000):=by lia
theorem PQ (h0:((-3)<=x/\x<=3)):((-1000)<=(-x)/\(-x)<=1000):=by lia
theorem Ji (h0:((-3)<=x/\x<=3)):((x.toNat)+(b9 (-x)))<=100000:=by omega
theorem Ek (h0:a≠0):(a:Int)≠0:=UC.mpr h0
theorem M8 (h0:a<=6) (h1:b<=3):(a+b)<=100000:=by lia
theorem HC (h0:a<=6) (h1:b<=3):(b+a)<=100000:=by lia
theorem QM:((aR 0 x)+(((a/64)%4):Int))=(((b9 (aR 0 x))+((a/64)%4)):Int):=by lia
theorem Ly (h0:a<=6) (h1:b<=3):(a+b)<=9:=by lia
theorem KF (h0:a<=6) (h1:b<=3):(b+a)<=9:=by lia
theorem Lm (h0:((-((3*4):Int))<=x/\x<=((3*4):Int))):((-12)<=x/\x<=12):=And.comm.mp (id (And.symm h0))
theorem KU (h0:a<=9) (h1:b<=9) (h2:c<=9) (h3:d<=9):(a+(b+(c+(d+0))))<=36:=iT h0 (iT h1 (iT h2 h3))
theorem H2 (h0:a<=20):((-1000)<=(a:Int)/\(a:Int)<=1000):=by lia
theorem Tp (h0:a<=20) (h1:b<=36):(a+b)<=100000:=by lia
theorem LV (h0:a<=20) (h1:((-12)<=x/\x<=12)):((-1000)<=((a:Int) - x)/\((a:Int) - x)<=1000):=by lia
theorem JL (h0:a<=20) (h1:((-12)<=x/\x<=12)) (h2:b<=36):((a+b)+(b9 ((a:Int) - x)))<=100000:=by lia
theorem IM (h0:a=b) (h1:(c+0)=d) (h2:d=(bL b e)) (h3:b<=e):a<=c:=by rw[h0,show c=d from h1,h2,j1 h3];exact aT b
theorem Kg (h0:a=b) (h1:(c+0)=d) (h2:d=(bL e b)) (h3:¬ (e<=b)):a<=c:=by rw[h0,show c=d from h1,h2,Nat.min_eq_right (ej (UH h3))];exact aT b
theorem TU (h0:(a+0)=b):b<=a:=eh (id (c5 h0))
theorem Hq (h0:(a+(b+1))=c) (h1:c=(bL d e)):a<d:=cV (cV (oa (gy a b)) (eh h0)) (h1▸Nat.min_le_left d e)
theorem Qv (h0:(a+(b+1))=c) (h1:c=(bL d e)):a<e:=cV (cV (oa (gy a b)) (eh h0)) (h1▸n9 d e)
theorem SW (h0:(a+(b+1))=c):(bL a c)=a:=j1 (Nat.le.intro h0)
theorem CS (h0:a<=b) (h1:(c+(d+1))=a) (h2:e=c):e<=b:=h2▸aB (Nat.le.intro h1) h0
theorem RP:((a:Int)<=(b:Int)↔a<=b):=ij
theorem MF:(a%2)<=24:=aB (ej (iV a (by decide))) (by decide)
theorem Ql (h0:(x<=(a:Int)/\a<=20)) (h1:((-12)<=x/\x<=12)) (h2:b<=9) (h3:c<=9) (h4:d<=9) (h5:e<=9):((a+(b+(c+(d+(e+0)))))+(b9 ((a:Int) - x)))<=90000:=by lia
theorem OR (h0:a<=90000):((0+1)+a)<=100000:=by lia
theorem Ra (h0:((a*1)+b)<=100000):(a+b)<=1000000:=by lia
theorem Uc (h0:a<=3) (h1:b<=3) (h2:c<=3) (h3:d<=3):(a+(b+(c+(d+0))))<=12:=by lia
theorem Em (h0:a<=1000):((-1000000)<=((a:Int)+1)/\((a:Int)+1)<=1000000):=by lia
theorem NL (h0:a<=1000) (h1:b<=(a+1)):b<=16777216:=by lia
theorem B7 (h0:((a:Int) - (b:Int))<=(c:Int)):a<=(b+c):=by lia
theorem IN:(b9 (((a:Int)+1) - ((b:Int)+1)))=((a+1) - (b+1)):=yy (a+1) (b+1)
theorem NW (h0:a<=1000) (h1:b<=a):((-1000000)<=((b:Int)+1)/\((b:Int)+1)<=1000000):=by lia
theorem KD (h0:a<=1000) (h1:b<=a):((b+1) - (c+1))<=16777216:=by lia
theorem SD (h0:a<=(4*(b+1))):(((0+1)+(((0+1)+1)+1))+a)<=(4*((b+1)+1)):=by rw[yx,fk];exact iT h0 (by decide)
theorem Sm (h0:(a+1)<=1000) (h1:b<=(4*(a+1))):((((((0+1)+1)+1)+b)+(((0+1)+1)+1))+2)<=16777216:=aB (n8 (n8 (kF (aB h1 (pN 4 h0)) _) _) 2) (by decide)
theorem Hh:(bL a b)<=b:=n9 a b
theorem SJ (h0:a<=12) (h1:b<=a) (h2:c<=a):(b<=100/\c<=100):=⟨aB h1 (aB h0 (by decide)),aB h2 (aB h0 (by decide))⟩
theorem Tx (h0:a<=12) (h1:b<=a) (h2:c<=a) (h3:d<((b+1) - (e+1))):(((e+1)+d)<=100/\(((c+e)+1) - ((e+1)+d))<=100):=⟨aB (UK e d▸Nat.add_lt_of_lt_sub' (UL b e▸h3)) (aB h1 (aB h0 (by decide))),aB (UG (gy (e+1) d) _) (aB (eh (UM (n:=c) (m:=e+1))) (aB h2 (aB h0 (by decide))))⟩
theorem Kn (h0:(a<=100/\b<=100)):(a+b)<=200:=by lia
theorem Th (h0:a<=200) (h1:b<=(4*a)) (h2:c=3):(c+b)<=100000:=aB (iT (eh h2) (aB h1 (pN 4 h0))) (by decide)
theorem RU (h0:a<=200) (h1:b<=(4*a)) (h2:c=3):((c+b)+c)<=100000:=aB (iT (iT (eh h2) (aB h1 (pN 4 h0))) (eh h2)) (by decide)
theorem IR (h0:(a<=100/\b<=100)):((-1000)<=(a:Int)/\(a:Int)<=1000):=by lia
theorem Re (h0:(a<=100/\b<=100)):((-1000)<=(b:Int)/\(b:Int)<=1000):=by lia
theorem GC (h0:(a<=100/\b<=100)):(a+b)<=100000:=by lia
theorem G7 (h0:(a:Int)<=x):(bL x (a:Int))=(a:Int):=Int.min_eq_right h0
theorem OH:(bL (a:Int) (a:Int))=(a:Int):=by lia
theorem Sf (h0:(a:Int)<=x):¬ (x<0):=by lia
theorem Rh (h0:¬ (a<=b)):(b:Int)<=(a:Int):=by lia
theorem Kk (h0:a<=1000) (h1:b<=a):((((bL b a)+(((0+1)+1)+1))+(a - c))+2)<=16777216:=aB (n8 (iT (n8 (aB (n9 b a) h0) 3) (aB (iU a c) h0)) 2) (by decide)
theorem MI (h0:a<=1000) (h1:b<=a):((((bL b a)+(((((0+1)+1)+1)+(0+1))+(((0+1)+1)+1)))+(a - b))+2)<=16777216:=by lia
theorem HO (h0:(bL (a - 1) a)=a):a=0:=by lia
theorem Ii (h0:a<=1000) (h1:b<=a):(bL b a)<=1000:=aB (n9 b a) h0
theorem zJ (h0:a=3) (h1:b<=1000):(b+a)<=100000:=by lia
theorem zx (h0:a=3) (h1:b<=1000) (h2:c<=1000):((b+a)+c)<=100000:=aB (iT (iT h1 (eh h0)) h2) (by decide)
theorem Qo (h0:a<=1000):(a+((3+(0+1))+3))<=100000:=by lia
theorem Jg (h0:a<=1000) (h1:b<=1000):((a+((3+(0+1))+3))+b)<=100000:=by lia
theorem RY (h0:a<=1000):(bL (b+1) a)<=1000:=aB (n9 _ a) h0
theorem Ha (h0:a=b):b<=(a+1):=by lia
theorem zA:¬ ((a+1)<=a):=Nat.not_succ_le_self a
theorem Ov (h0:a<=b):((a:Int)=(b:Int)↔a=b):=Int.ofNat_inj
theorem Ko (h0:a<60):((a/30)+1)<=3:=by lia
theorem Ij (h0:a<=3):¬ (a>(b+150)):=by lia
theorem Jo (h0:a<=b) (h1:b=16777216) (h2:16777216<=x):¬ ((a:Int)>x):=by lia
theorem T7 (h0:(a:Int)=((b:Int)*0)):a=0:=Int.ofNat_eq_zero.mp h0
theorem Pe (h0:(a:Int)=((b:Int)*0)):a<=c:=by lia
theorem Oy (h0:(a:Int)=x) (h1:(b:Int)=x):a<=b:=by lia
theorem Jy (h0:(-16777216)<x) (h1:x<16777216):((-9223372036854775808)<=x/\x<9223372036854775808):=by lia
theorem KT (h0:1<=x):0<=x:=EC h0
theorem Ka (h0:1<=(a:Int)):1<=a:=ij.mp h0
theorem Cc (h0:(a:Int)<=512):a<=512:=ij.mp h0
theorem K2 (h0:¬ (((63:Nat):Int)<(a:Int))):a<=63:=by lia
theorem Rt (h0:¬ (((63:Nat):Int)<(a:Int))) (h1:b=a):b<=63:=by lia
theorem Lh (h0:a=0) (h1:(b+a)=c):c=b:=by lia
theorem RB (h0:(a%2)=1):a=((2*(a/2))+1):=((EI a 2).symm.trans (congrArg (2*(a/2)+ ·) h0))
theorem H9 (h0:a<b):¬ ((b+1)<=a):=by lia
theorem Jt (h0:¬ (a<b)) (h1:¬ (a=b)):(b+1)<=a:=by lia
theorem RF (h0:¬ (a<b)) (h1:¬ (a=b)):(a - b)=((a - (b+1))+1):=by lia
theorem Ru (h0:(((2*a)+1)%2)=1):(((2*a)+1)/2)=a:=by rw[Nat.mul_add_div (by decide)];rfl
theorem IP (h0:¬ (a<b)) (h1:¬ (a=b)):¬ (a<(b+1)):=by lia
theorem PM (h0:(a+0)=32):a=32:=c5 (EG (congrFun (congrArg yz (id (c5 h0))) a))
theorem L5 (h0:0<a) (h1:a=0):False:=by lia
theorem PP (h0:(a+(b+1))=32):a<32:=by lia
theorem PH (h0:(a+(b+1))=32) (h1:c<=1):(c+a)<=134217728:=by lia
theorem BY (h0:(a+(b+1))=32):((a+1)+b)=32:=by lia
theorem Sp (h0:(a+(b+1))=32) (h1:c<=a):(c+1)<=16777216:=by lia
theorem BG (h0:(a+(b+1))=32) (h1:(a+1)<=c):c≠a:=ek (ly h1)
theorem Up (h0:(0<=a/\a<(0+32))):a<32:=by lia
theorem RM (h0:a<=20) (h1:b<=(20*c)):(a+b)<=(20*(c+1)):=by rw[yx,fk];exact iT h1 h0
theorem PJ (h0:a<=32) (h1:b<=(20*a)):(b+(a*2))<=1000000:=aB (iT (aB h1 (pN 20 h0)) (vj 2 h0)) (by decide)
theorem JH (h0:a=b) (h1:(b+1)<=c):a<=c:=by lia
theorem R4 (h0:a=b) (h1:(b+1)<=c):(a+1)<=c:=le_of_eq_of_le (congrFun (congrArg yz h0) 1) h1
theorem My (h0:a=b) (h1:(b+c)<=d) (h2:e=c) (h3:d=16777216) (h4:(a+e)>d):False:=by lia
theorem MU (h0:a=b) (h1:(b+c)<=d) (h2:d=16777216):a<=d:=by lia
theorem QI (h0:a=b) (h1:(b+c)<=d) (h2:e=c) (h3:d=16777216):(a+e)<=(d+1):=by rw[h0,h2];exact sg h1
theorem M2 (h0:a=b) (h1:(b+c)<=d) (h2:e=c) (h3:d=16777216):(a+e)<=d:=by lia
theorem Oh (h0:(-1000)<=x) (h1:x<1000):((-9223372036854775808)<=x/\x<9223372036854775808):=by lia
theorem Ae (h0:a=(b+1)) (h1:a<=b):False:=by lia
theorem HJ (h0:a=b) (h1:c=b):a<=c:=by lia
theorem J3 (h0:a<=1000000):(2*(a:Int))<=134217728:=by lia
theorem LI:(b9 (((a:Int)+(b:Int)) - (a:Int)))=b:=by lia
theorem Px (h0:a<=20) (h1:b<=(22*(c+1))):((a+((0+1)+1))+b)<=(22*((c+1)+1)):=by rw[yx,fk];exact iT h1 (aB (n8 h0 2) (by decide))
theorem RL (h0:a<=28):((-1000000)<=(a:Int)/\(a:Int)<=1000000):=by lia
theorem Qi (h0:a<=28):((-1000000)<=((a:Int)+((4:Nat):Int))/\((a:Int)+((4:Nat):Int))<=1000000):=by lia
theorem No (h0:a<=28) (h1:b<4):(a+b)<32:=by lia
theorem ID (h0:(0<a/\a<16)):a<=15:=by lia
theorem uJ (h0:a<=28) (h1:b<4):(b+a)<32:=by lia
theorem PB (h0:(a+1)<=4) (h1:b<=(22*(a+1))):(b+2)<=16777216:=aB (n8 (aB h1 (pN 22 h0)) 2) (by decide)
theorem Jv (h0:a<15):(0<(1+a)/\(1+a)<16):=by rw[fk];exact⟨il a,EJ h0⟩
theorem wB (h0:a<b) (h1:b<=15):(a+1)<16:=EJ (cV h0 h1)
theorem Jw (h0:a<=4) (h1:0<a):(a=1\/(a=2\/(a=3\/a=4))):=(by decide:∀a,a<=4->0<a->(a=1\/(a=2\/(a=3\/a=4)))) a h0 h1
theorem xP (h0:a<b) (h1:c=b):(b - (a+1))<c:=by omega
theorem Gi (h0:a<=800) (h1:b<=900000):(a+b)<=1000000:=by lia
theorem Tn (h0:a<b) (h1:b<=15) (h2:c<=a):c<=16777215:=by lia
theorem BH (h0:(a+8)<900) (h1:b=(a+1)):(b+3)<900:=by subst h1;exact ik (kF (by decide:4<=8) a) h0
theorem Hf (h0:(a+(40*8))<9000) (h1:b=(((a+1)+0)+3)):(b+(40*3))<9000:=by subst h1;exact ik (kF (by decide:1+0+3+40*3<=40*8) a) h0
theorem MB (h0:(a+(40*8))<9000) (h1:b=((a+1)+3)):(b+(40*3))<9000:=by lia
theorem QN (h0:a<=b) (h1:b<=a) (h2:c=b):a=c:=by lia
theorem GQ (h0:(a+1)<=b):(b - a)=((b - (a+1))+1):=by lia
theorem L9:a<(aR b (a+1)):=cV (eH a) (UF b (a+1))
theorem Tk (h0:a<b):a<(aR b (c+1)):=cV h0 (UE b (c+1))
theorem JB (h0:a<=b):(b9 ((b:Int) - (a:Int)))=(b - a):=yy b a
theorem NJ (h0:a<=b):(b - (b - a))<=a:=by omega
theorem N0 (h0:a<=b):(0+a)<=b:=by lia
theorem JC (h0:(a+b)<=c):((a+1)+b)<=(c+1):=by lia
theorem LA (h0:((a+1)+b)<=(c+1)):(a+b)<=c:=by lia
theorem Q8 (h0:(a+b)<=c) (h1:(d+(a - d))=a):(bL b ((c - d) - (a - d)))=b:=by rw[Nat.sub_sub_sub_cancel_right (Nat.le.intro h1)];exact j1 (Nat.le_sub_of_add_le (fk a b▸h0))
theorem TX (h0:a<=b) (h1:(c+d)<=(b - a)):(a+c)<(a+((b+1) - a)):=by lia
theorem Km (h0:a<=b) (h1:(c+d)<=b) (h2:a<=c):((c - a)+d)<=(b - a):=by lia
theorem AH (h0:(a+b)<=c) (h1:(d+e)<a):((d+e)+b)<=c:=aB (n8 (ej h1) b) h0
theorem J4 (h0:a<=b) (h1:¬ ((b - a)<c)) (h2:¬ ((a+c)<b)):(b:Int)=((a+c):Int):=by lia
theorem Qe:(((a+1)+1)+1)=(3+a):=c5 (fk 3 a)
theorem As (h0:a<=b) (h1:(b - a)=(c+(3+d))):((a+c)+3)<=b:=by rw[<- mG h0,h1,j2];exact kF (kF (gy 3 d) c) a
theorem CO (h0:a<=b) (h1:b<(a+c)):(b - a)<c:=Nat.sub_lt_left_of_lt_add h0 h1
theorem Iw:3<=(a+(((b+1)+1)+1)):=b7 3 (a.add b)
theorem PX (h0:3<=a) (h1:b=3):¬ (a<b):=by lia
theorem CZ (h0:a<=b) (h1:(b - a)=(c+(d+e))):((a+c)+d)<=b:=by lia
theorem P0:¬ (((a+b)+c)<b):=by lia
theorem J0:(5<=(5+(a%60))/\(5+(a%60))<=64):=by lia
theorem Dp (h0:a<=13):a<=128:=aB (by assumption) (b7 _ _)
theorem Qb (h0:((b9 (aR 0 x))+((a/64)%4))=b) (h1:((-12)<=x/\x<=12)):(x<=(b:Int)/\b<=20):=by omega
theorem H4 (h0:a<=12) (h1:b<=a) (h2:((c:Int) - (d:Int))=(e:Int)) (h3:c<=(bL b a)):e<=12:=by lia
theorem nt (h0:a<=12):a<=1000:=aB (by assumption) (b7 _ _)
theorem Lw (h0:a<=12) (h1:b<=a):((0+1)+((b+1) - (c+1)))<=16777216:=by lia
theorem Jj (h0:(a+(b+1))=c):a<c:=qR h0
theorem Oe (h0:(a+(b+1))=c):((a+1)+b)=c:=nP h0
theorem Tr (h0:a<=15):(bL a 15)=a:=j1 h0
theorem Pj (h0:a<=15) (h1:b=a):b<=16777215:=by lia
theorem J2 (h0:a<=b) (h1:c<=d):(a+c)<=(d+b):=by lia
theorem N9 (h0:a<=15) (h1:b<a):(b+1)<16:=wB h1 h0
theorem Te:((1000*a)+1)<=((1000*(a+1))+1):=by lia
theorem OY:(((1000*a)+1)+1000)=((1000*(a+1))+1):=Nat.add_left_inj.mpr rfl
theorem Sl (h0:(a+0)=15):a=15:=c5 (EG (congrFun (congrArg yz (id (c5 h0))) a))
theorem IQ (h0:(a+(b+1))=15):(a+1)<=15:=by lia
theorem Ln (h0:(a+(b+1))=15):a<=15:=Nat.le.intro h0
theorem KL (h0:(a+(b+1))=15):((1000*a)+1)<=900000:=by lia
theorem Lf (h0:(a+(b+1))=15):((a+1)+b)=15:=nP h0
theorem P9:((a+b):Int)=((a:Int)+(b:Int)):=by lia
theorem Du (h0:a<b) (h1:((a+b)/2)=c):a<=c:=by lia
theorem Ax (h0:a<=128) (h1:b<a) (h2:((b+a)/2)=c):c<=128:=by lia
theorem wD (h0:a<=128) (h1:((b+a)/2)=c):(c - b)<=128:=by lia
theorem Kt (h0:a<=(128*512)) (h1:b<=65536):(b+a)<=134217728:=by lia
theorem SE:¬ ((a:Int)<0):=fX.mpr (c8 _)
theorem Mb (h0:1<=a):¬ ((a:Int)=0):=Int.natCast_ne_zero_iff_pos.mpr h0
theorem xd:1<=2:=mF _
theorem I0:(-16777216)<(a:Int):=UN (by decide) (c8 _)
theorem N8 (h0:a<=128):(a:Int)<16777216:=mH (ij.mpr (by assumption)) (by decide)
end
section
variable {α β γ:Type} {G:Prop} {d:β}
theorem nv {c:Prop} [Decidable c] {x y:β} (h:(if c then x else y)=d) (k:c->x=d->G) (k':¬c->y=d->G):G:=by
 by_cases q:c
 ·exact k q ((if_pos q).symm.trans h)
 ·exact k' q ((if_neg q).symm.trans h)
theorem HB {o:Option PV} {f:Int->Option β} (h:(match o with|some (.int i)=>f i|_=>none)=some d) (k:∀i,o=some (.int i)->f i=some d->G):G:=by
 induction o using bO with
 |none=>exact ab h
 |some y=>induction y using PV.casesOn with
  |int i=>exact k i rfl h
  |_=>exact ab h
theorem To {o:Option Bool} {x:Option β} (h:(match o with|some true=>x|_=>none)=some d) (k:o=some true->x=some d->G):G:=by
 induction o using bO with
 |none=>exact ab h
 |some y=>induction y using dF with
  |true=>exact k rfl h
  |false=>exact ab h
theorem yn {o:Option Bool} {x y:Option β} (h:(match o with|some true=>x|some false=>y|none=>none)=some d) (k:o=some true->x=some d->G) (k':o=some false->y=some d->G):G:=by
 induction o using bO with
 |none=>exact ab h
 |some y=>induction y using dF with
  |true=>exact k rfl h
  |false=>exact k' rfl h
theorem LN {o:Option (List PV)} {f:List PV->List PV->Option β} (h:(match o with|some [.list xs,.list ys]=>f xs ys|_=>none)=some d) (k:∀xs ys,o=some [.list xs,.list ys]->f xs ys=some d->G):G:=by
 induction o using bO with
 |none=>exact ab h
 |some l=>
  induction l using aF with
  |nil=>exact ab h
  |cons a l=>
   induction a using PV.casesOn with
   |list xs=>
    induction l using aF with
    |nil=>exact ab h
    |cons b l=>
     induction b using PV.casesOn with
     |list ys=>
      induction l using aF with
      |nil=>exact k xs ys rfl h
      |cons b l=>exact ab h
     |_=>exact ab h
   |_=>exact ab h
theorem Rq {u:Option γ} {o:Option PV} {f:γ->Int->Option β} (h:(match u,o with|some xs,some (.int k)=>f xs k|_,_=>none)=some d) (k:∀xs i,u=some xs->o=some (.int i)->f xs i=some d->G):G:=by
 induction u using bO with
 |none=>exact ab h
 |some xs=>
  induction o using bO with
  |none=>exact ab h
  |some y=>induction y using PV.casesOn with
   |int i=>exact k xs i rfl rfl h
   |_=>exact ab h
theorem jE {a b:Bool} (h:(a&&b)=true) (k:a=true->b=true->G):G:=bf (od.mp h) k
theorem o9 {a b c:Bool} (h:(a&&b&&c)=true) (k:a=true->b=true->c=true->G):G:=jE h λh=>jE h k
theorem T8 {a b c e:Bool} (h:(a&&b&&c&&e)=true) (k:a=true->b=true->c=true->e=true->G):G:=jE h λh=>o9 h k
end
noncomputable def iQ (h:aP) (a:Addr) (its:Array Value):Prop:=∃n,h.get? a=some {cls:=.type "list",data:=.seq its n}
theorem iQ.isList {h:aP} {a its} (x:iQ h a its):h.IsList a its:=ay x λn e=>⟨_,e,rfl,n,rfl⟩
mutual
noncomputable def am (W:List Addr) (h:aP):PV->Value->Prop
 |.none,v=>v=.none
 |.bool b,v=>v=.bool b
 |.int i,v=>∃t,v=.int i t
 |.str x,v=>(∃t,v=.str x t)/\x.length<=sizeLine
 |.list xs,v=>∃a vs,v=.ref a/\a∉W/\iQ h a vs.toArray/\vs.length<=sizeLine/\ar W h xs vs
 |.tup xs,v=>∃a vs,v=.ref a/\a∉W/\h.IsTuple a vs.toArray/\vs.length<=sizeLine/\ar W h xs vs
noncomputable def ar (W:List Addr) (h:aP):List PV->List Value->Prop
 |[],vs=>vs=[]
 |x::xs,vs=>∃v r,vs=v::r/\am W h x v/\ar W h xs r
end
noncomputable def cG (o:d5):Bool:=match o.cls,o.data with
 |.none,.fields _=>true
 |_,_=>false
theorem fe {o:d5} (h:∀vs,o.data≠.fields vs):cG o=false:=by
 induction o using Obj.casesOn with
 |mk c d y l=>
  induction c using oe with
  |none=>induction y using Data.casesOn with
   |fields vs=>exact absurd rfl (h vs)
   |_=>rfl
  |_=>rfl
theorem ee {o:d5} {c:String} (h:o.cls=.type c):cG o=false:=by unfold cG;exact aa h rfl
noncomputable def Kb (W:List Addr) (h h':aP):Prop:=∀b o,b∉W->cG o=false->h.get? b=some o->h'.get? b=some o
theorem Kb.refl {W h}:Kb W h h:=λζ ζ ζ ζ e=>e
theorem Kb.of_keep {W h h'} (k:∀b o,h.get? b=some o->h'.get? b=some o):Kb W h h':=λb o ζ ζ e=>k b o e
theorem Kb.trans {W h h' h''} (k:Kb W h h') (k':Kb W h' h''):Kb W h h'':=λb o hb ht e=>k' b o hb ht (k b o hb ht e)
theorem Kb.mono {W W' h h'} (k:Kb W h h') (hs:∀b,b∈W->b∈W'):Kb W' h h':=λb o hb ht e=>k b o (λq=>hb (hs b q)) ht e
theorem iQ.kb {W h h' a its} (x:iQ h a its) (k:Kb W h h') (ha:a∉W):iQ h' a its:=
 ay x λn e=>⟨n,k a _ ha rfl e⟩
theorem IsTuple.kb {W h h' a its} (x:EK h a its) (k:Kb W h h') (ha:a∉W):h'.IsTuple a its:=
 bo x λo e hc r=>⟨o,k a o ha (ee hc) e,hc,r⟩
mutual
theorem am.kb {V W W':List Addr} {h h':aP} (k:Kb V h h') (hv:∀b,b∈V->b∈W\/h.get? b=none\/∀o,h.get? b=some o->∀its n,o.data≠.seq its n) (hs:∀b,b∈W'->b∈W\/h.get? b=none):∀(d:PV) (v:Value),am W h d v->am W' h' d v
 |.none,_,r=>r
 |.bool _,_,r=>r
 |.int _,_,r=>r
 |.str _,_,r=>r
 |.list xs,v,r=>by
  skip;refine eQ r λa vs e ha hl hn hr=>?_;clear r;refine iE a vs e (λq=>?_) (iQ.kb hl k (λq=>?_)) hn (ar.kb k hv hs xs vs hr)
  ·refine ah hl.isList λo e ζ=>?_;rcases hs a q with q|q
   ·exact ha q
   ·replace e:=q▸e;exact ab e
  ·obtain ⟨o,e,hc,n,hd⟩:=hl.isList;rcases hv a q with q|q|q
   ·exact ha q
   ·replace e:=q▸e;exact ab e
   ·exact q o e _ _ hd
 |.tup xs,v,r=>by
  skip;refine eQ r λa vs e ha hl hn hr=>?_;clear r;refine iE a vs e (λq=>?_) (IsTuple.kb hl k (λq=>?_)) hn (ar.kb k hv hs xs vs hr)
  ·refine ah hl λo e ζ=>?_;clear hl;rcases hs a q with q|q
   ·exact ha q
   ·replace e:=q▸e;exact ab e
  ·obtain ⟨o,e,hc,n,hd⟩:=hl;rcases hv a q with q|q|q
   ·exact ha q
   ·replace e:=q▸e;exact ab e
   ·exact q o e _ _ hd
theorem ar.kb {V W W':List Addr} {h h':aP} (k:Kb V h h') (hv:∀b,b∈V->b∈W\/h.get? b=none\/∀o,h.get? b=some o->∀its n,o.data≠.seq its n) (hs:∀b,b∈W'->b∈W\/h.get? b=none):∀(ds:List PV) (vs:List Value),ar W h ds vs->ar W' h' ds vs
 |[],_,r=>by skip;exact r
 |d::ds,vs,r=>by skip;refine bw r λv u e h1 h2=>?_;clear r;exact gw v u e (am.kb k hv hs d v h1) (ar.kb k hv hs ds u h2)
end
theorem am.keep {W h h' d v} (r:am W h d v) (k:Kb [] h h'):am W h' d v:=am.kb k (λζ q=>nomatch q) (λζ q=>.inl q) d v r
theorem ar.keep {W h h' d v} (r:ar W h d v) (k:Kb [] h h'):ar W h' d v:=ar.kb k (λζ q=>nomatch q) (λζ q=>.inl q) d v r
theorem am.sub {W W' h d v} (r:am W h d v) (hs:∀b,b∈W'->b∈W):am W' h d v:=am.kb (V:=[]) Kb.refl (λζ q=>nomatch q) (λb q=>.inl (hs b q)) d v r
theorem ar.sub {W W' h d v} (r:ar W h d v) (hs:∀b,b∈W'->b∈W):ar W' h d v:=ar.kb (V:=[]) Kb.refl (λζ q=>nomatch q) (λb q=>.inl (hs b q)) d v r
theorem am.flat {W W' h h' d v} (r:am W h d v) (hf:d.flat=true):am W' h' d v:=by
 induction d using PV.casesOn with
 |list xs=>exact aU hf
 |tup xs=>exact aU hf
 |_=>exact r
theorem ar.length:∀{ds:List PV} {W h vs},ar W h ds vs->vs.length=ds.length
 |[],_,_,_,r=>congrArg eI r
 |d::ds,_,_,_,r=>bw r λv u e ζ h2=>e▸congrArg pM (ar.length h2)
theorem ar.append:∀{ds es:List PV} {W h vs us},ar W h ds vs->ar W h es us->ar W h (ds++es) (vs++us)
 |[],_,_,_,_,_,r,k=>by subst (r:_=_);exact k
 |d::ds,es,_,_,_,us,r,k=>bw r λv u e h1 h2=>gw v (u++us) (e▸rfl) h1 (ar.append h2 k)
theorem ar.one {W h d v} (r:am W h d v):ar W h [d] [v]:=⟨v,[],rfl,r,rfl⟩
theorem ar.get:∀{ds:List PV} {W h vs} {k:Nat} {d:PV},ar W h ds vs->ds[k]?=some d->∃v,vs[k]?=some v/\am W h d v
 |[],_,_,_,k,d,_,e=>ab e
 |c::ds,_,_,_,0,d,r,e=>bw r λv u e2 h1 h2=>au v (e2▸rfl) (ak (show some c=some d from e)▸h1)
 |c::ds,_,_,_,k+1,d,r,e=>bw r λv u e2 h1 h2=>e2▸ar.get (ds:=ds) (k:=k) h2 e
theorem ar.take:∀{ds:List PV} {W h vs} (k:Nat),ar W h ds vs->ar W h (ds.take k) (vs.take k)
 |_,_,_,vs,0,_=>(rfl:UO 0 vs=[])
 |[],_,_,_,k+1,r=>by subst (r:_=_);rfl
 |c::ds,_,_,_,k+1,r=>bw r λv u e h1 h2=>gw v (u.take k) (e▸rfl) h1 (ar.take k h2)
theorem ar.drop:∀{ds:List PV} {W h vs} (k:Nat),ar W h ds vs->ar W h (ds.drop k) (vs.drop k)
 |_,_,_,_,0,r=>r
 |[],_,_,_,k+1,r=>by subst (r:_=_);rfl
 |c::ds,_,_,_,k+1,r=>bw r λv u e ζ h2=>e▸ar.drop (ds:=ds) k h2
theorem ar.some_get:∀{ds:List PV} {W h vs} {k:Nat},ar W h ds vs->k<ds.length->∃d v,ds[k]?=some d/\vs[k]?=some v/\am W h d v:=by intro ds W h vs k r hk;refine ah (ar.get (d:=ds[k]) r (gQ hk)) λv e rr=>?_;exact gw (ds[k]) v (gQ hk) e rr
theorem ar.pick {ds:List PV} {W h vs} (r:ar W h ds vs):∀(ks:List Nat),ar W h (ks.filterMap (ds[·]?)) (ks.filterMap (vs[·]?))
 |[]=>rfl
 |k::ks=>by
  have hlen:=r.length
  by_cases hk:k<ds.length
  ·refine bw (r.some_get hk) λd v e1 e2 rr=>?_;simp only[lz,e1,e2];exact gw v _ rfl rr (ar.pick r ks)
  ·have e1:ds[k]?=none:=by simp;exact pO (by assumption)
   have e2:vs[k]?=none:=by simp;exact OU hlen hk
   simp only[lz,e1,e2];exact ar.pick r ks
theorem d9 {h:aP}:h.get? h.objs.size=none:=by
 cases e:h.get? h.objs.size with
 |none=>rfl
 |some o=>exact absurd (fm e) (vi _)
structure Tb where
 c:Addr
 P:Addr
 pos:Pos
 qual:Str
noncomputable def un (h:aP) (q:Tb):Prop:=
 h.get? q.P=some (mI #[])\/
 ∃c',h.get? q.P=some (mI #[im q.pos.line,im q.pos.col,.ref c'])/\h.CodeRec (.ref c') q.qual/\∃o,h.get? c'=some o/\o.cls=.type "code"
structure Cx where
 prog:Program
 w:jo
 h0:aP
 mg:Str->Option Value
 mb:Str->Option Value
 os:OsState
 tabs:List Tb
structure AE (X:Cx):Prop where
 g:∃o,X.h0.get? df=some o
 b:∃o,X.h0.get? kG=some o
 st:∃o,X.h0.get? cStatics=some o
 tb:∀q∈X.tabs,∃c0 ps,X.h0.TableAt c0 q.P ps
 tc:∀q∈X.tabs,vm X.h0 q.c q.P
structure ai (X:Cx) (s:ae):Prop where
 x:AE X
 old:pP X.h0 s.heap
 g:s.heap.Ns df X.mg
 b:s.heap.Ns kG X.mb
 lim:s.heap.NoLimit
 tab:∀q∈X.tabs,vm s.heap q.c q.P/\un s.heap q
 bare:AllBare s.gens
 os:s.os=X.os
structure jX (W:List Addr) (gm:Nat) (s s':ae):Prop where
 kb:Kb W s.heap s'.heap
 th:∀b o,s.heap.get? b=some o->∃o',s'.heap.get? b=some o'
 gsz:s.gens.size<=s'.gens.size
 gk:∀i,i<gm->s'.gens[i]?=s.gens[i]?
noncomputable abbrev ag (W:List Addr) (s s':ae):Prop:=jX W s.gens.size s s'
theorem jX.none {W gm s s' b} (a:jX W gm s s') (h:s'.heap.get? b=none):s.heap.get? b=none:=by
 cases e:s.heap.get? b with
 |none=>rfl
 |some o=>refine ay (a.th b o e) λo' e'=>?_;replace e':=h▸e';exact ab e'
theorem ag.refl {W s}:ag W s s:=⟨Kb.refl,λζ o e=>⟨o,e⟩,aT _,λζ ζ=>rfl⟩
theorem ag.trans {W s s' s''} (a:ag W s s') (b:ag W s' s''):ag W s s'':=
 ⟨a.kb.trans b.kb,λx o e=>ay (a.th x o e) λo1 e1=>b.th x o1 e1,aB a.gsz b.gsz,λi hi=>(b.gk i (cV hi a.gsz)).trans (a.gk i hi)⟩
theorem ag.mono {W W' s s'} (a:ag W s s') (hs:∀b,b∈W->b∈W'):ag W' s s':=⟨a.kb.mono hs,a.th,a.gsz,a.gk⟩
theorem ag.nil {W s s'} (a:ag [] s s'):ag W s s':=a.mono λζ q=>nomatch q
theorem ag.keep {W} {s:ae} {h' tk} (k:∀b o,s.heap.get? b=some o->h'.get? b=some o):ag W s {s with heap:=h',toks:=tk}:=
 ⟨Kb.of_keep k,λb o e=>⟨o,k b o e⟩,aT _,λζ ζ=>rfl⟩
theorem ag.toks {W} {s:ae} {tk}:ag W s {s with toks:=tk}:=ag.keep (h':=s.heap) λζ ζ e=>e
theorem ag.but {W} {s:ae} {h':aP} {tk a} (ha:a∈W) (k:io a s.heap h') (ht:∃o,h'.get? a=some o):ag W s {s with heap:=h',toks:=tk}:=
 ⟨λb o hb ζ e=>(k.2 b (λq=>hb (q▸ha))).trans e,λb o e=>by
  by_cases q:b=a
  ·exact q▸ht
  ·exact⟨o,(k.2 b q).trans e⟩,aT _,λζ ζ=>rfl⟩
section
variable {X:Cx} {s:ae}
theorem un.keeps {h h':aP} {q:Tb} (t:un h q) (k:∀b o,h.get? b=some o->h'.get? b=some o):un h' q:=by
 rcases t with t|⟨c',t,r,o,e,hc⟩
 ·exact .inl (k _ _ t)
 ·exact .inr ⟨c',k _ _ t,r.keeps k,o,k _ _ e,hc⟩
theorem ai.keep (S:ai X s) {h':aP} {tk:cJ} (k:∀b o,s.heap.get? b=some o->h'.get? b=some o):ai X {s with heap:=h',toks:=tk} where
 x:=S.x
 old:=S.old.step_keeps k
 g:=S.g.keeps k
 b:=S.b.keeps k
 lim:=S.lim.keeps k
 tab:=λq hq=>⟨(S.tab q hq).1.keeps k,(S.tab q hq).2.keeps k⟩
 bare:=S.bare
 os:=S.os
theorem ai.tok (S:ai X s) {tk:cJ}:ai X {s with toks:=tk}:=S.keep (h':=s.heap) λζ ζ e=>e
theorem K3 {h₀ h h':aP} (K:pP h₀ h) {a:Addr} (ha:h₀.get? a=none) (hs:io a h h'):pP h₀ h':=by
 have ne:∀b o,h₀.get? b=some o->b≠a:=λb o e q=>by (replace e:=q▸e;replace e:=ha▸e);exact ab e
 refine⟨λb o e=>?_,λb o e=>ay (K.there b o e) λo' ho'=>⟨o',(hs.2 b (ne b o e)).trans ho'⟩⟩;rcases K.old b o e with x|⟨t,hc,vs,more,hv,x⟩|⟨rfl,hc,⟨o',es,n,ho',r⟩,z⟩
 ·exact .inl ((hs.2 b (ne b o e)).trans x)
 ·exact .inr (.inl ⟨t,hc,vs,more,hv,(hs.2 b (ne b o e)).trans x⟩)
 ·exact .inr (.inr ⟨rfl,hc,⟨o',es,n,(hs.2 _ (ne _ o e)).trans ho',r⟩,λkey=>by rw[EL (hs.2 _ (ne _ o e)) key];exact z key⟩)
noncomputable def gt (o:d5):Prop:=o.cls≠.type "code" \/∀vs,o.data≠.fields vs
theorem SQ {h h':aP} {c P a:Addr} (x:vm h c P) (hs:io a h h') (hc:∀o,h.get? a=some o->gt o):vm h' c P:=by obtain ⟨o,vs,file,tf,flags,tg,inF,text,tt,e,hcl,hd,r⟩:=x;exact⟨o,vs,file,tf,flags,tg,inF,text,tt,(hs.2 c (λq=>(hc o (q▸e)).elim (λz=>z hcl) λz=>z _ hd)).trans e,hcl,hd,r⟩
theorem ai.same (S:ai X s) {a:Addr} {h':aP} {tk:cJ} (ha:X.h0.get? a=none) (hc:∀o,s.heap.get? a=some o->gt o) (hs:io a s.heap h'):ai X {s with heap:=h',toks:=tk} where
 x:=S.x
 old:=K3 S.old ha hs
 g:=S.g.sameBut hs λq=>by refine ay S.x.g λo e=>?_;replace e:=q▸e;replace e:=ha▸e;exact ab e
 b:=S.b.sameBut hs λq=>by refine ay S.x.b λo e=>?_;replace e:=q▸e;replace e:=ha▸e;exact ab e
 lim:=by refine ah S.lim λmc n r=>?_;exact au mc (n.sameBut hs λq=>by {refine ay S.x.st λo e=>?_;replace e:=q▸e;replace e:=ha▸e;exact ab e}) r
 tab:=λq hq=>by
  have hP:q.P≠a:=λz=>by refine bN (S.x.tb q hq) λc0 ps ζ e=>?_;replace e:=z▸e;replace e:=ha▸e;exact ab e
  refine⟨SQ (S.tab q hq).1 hs hc,?_⟩;rcases (S.tab q hq).2 with t|⟨c',t,⟨c2,o2,vs,tt,e1,e2,r⟩,o,e,hcl⟩
  ·exact .inl ((hs.2 _ hP).trans t)
  ·cases e1;have eo:o=o2:=by replace e2:=e▸e2;exact jm e2
   have hne:c'≠a:=λz=>(hc o (z▸e)).elim (λz=>z hcl) λz=>z _ (eo▸r.1);exact .inr ⟨c',(hs.2 _ hP).trans t,⟨c',o2,vs,tt,rfl,(hs.2 _ hne).trans e2,r⟩,o,(hs.2 _ hne).trans e,hcl⟩
 bare:=S.bare
 os:=S.os
theorem ai.fresh (S:ai X s) {a:Addr} (h:s.heap.get? a=none):X.h0.get? a=none:=by
 cases e:X.h0.get? a with
 |none=>rfl
 |some o=>refine ay (S.old.there a o e) λo' e'=>?_;replace e':=h▸e';exact ab e'
theorem ai.new (S:ai X s):X.h0.get? s.heap.objs.size=none:=S.fresh d9
end
structure aK (A:aM) (k:Nat):Prop where
 hh:A.handled=none
 d:A.depth+k<900
 u:A.units+40*k<9000
theorem aK.mono {A k j} (R:aK A k) (h:j<=k):aK A j:=⟨R.hh,by have:=R.d;exact LW h this,by have:=R.u;exact HW h this⟩
theorem aK.deeper {A k} (R:aK A (k+1)) (env:Env):aK (A.deeper env) k:=
 ⟨R.hh,by have:=R.d;refine (?_:A.depth+1+k<900);exact Tt this,by have:=R.u;show A.units+3+40*k<9000;exact Rr this⟩
theorem aK.depth {A k} (R:aK A k):A.depth<recursionLimit:=by have:=R.d;refine (?_:A.depth<1000);exact N3 this
noncomputable def br (sc:Scope) (x:Str):Bool:=match sc.names.lookup x with
 |some .local=>true
 |some .cell=>true
 |some .free=>true
 |_=>false
noncomputable def bb (sc:Scope) (x:Str):Bool:=match sc.names.lookup x with
 |some .local=>true
 |some .cell=>true
 |_=>false
noncomputable def bS (sc:Scope) (x:Str):Bool:=match sc.names.lookup x with
 |some .globalImplicit=>true
 |_=>false
noncomputable def dZ (sc:Scope) (x:Str):Bool:=match sc.names.lookup x with
 |some .cell=>true
 |some .free=>true
 |_=>false
theorem rz {sc:Scope} {x:Str} {G:Prop} (h:dZ sc x=true) (a:sc.names.lookup x=some .cell->G) (b:sc.names.lookup x=some .free->G):G:=by
 revert h;delta dZ;refine bY (sc.names.lookup x) λo e=>?_
 induction o using bO with
 |none=>exact aU
 |some k=>induction k using yB with
  |cell=>exact λζ=>a e
  |free=>exact λζ=>b e
  |_=>exact aU
theorem OI {sc:Scope} {x:Str} {G:Prop} (h:bb sc x=true) (a:sc.names.lookup x=some .local->G) (b:sc.names.lookup x=some .cell->G):G:=by
 revert h;delta bb;refine bY (sc.names.lookup x) λo e=>?_
 induction o using bO with
 |none=>exact aU
 |some k=>induction k using yB with
  |«local»=>exact λζ=>a e
  |cell=>exact λζ=>b e
  |_=>exact aU
theorem tH {sc:Scope} {x:Str} (h:bS sc x=true):sc.names.lookup x=some .globalImplicit:=by
 revert h;delta bS;refine bY (sc.names.lookup x) λo e=>?_
 induction o using bO with
 |none=>exact aU
 |some k=>induction k using yB with
  |globalImplicit=>exact λζ=>rfl
  |_=>exact aU
noncomputable def gx (σ:Sg) (x:Str):Option PV:=match σ.lookup x with
 |some (.sh d)=>some d
 |_=>none
noncomputable def fW (σ:Sg) (x:Str):Option PV:=match σ.lookup x with
 |some (.sh d)=>some d
 |some (.own xs)=>some (.list xs)
 |none=>none
theorem BD {σ:Sg} {x:Str} {d:PV} (h:gx σ x=some d):σ.lookup x=some (.sh d):=by
 revert h;delta gx;refine bY (σ.lookup x) λo e=>?_
 induction o using bO with
 |none=>exact ab
 |some k=>induction k using Ent.casesOn with
  |sh d=>exact λq=>congrArg (λz=>some (Ent.sh z)) (ak q)
  |own ds=>exact ab
theorem Hd {σ:Sg} {x:Str} {d:PV} {G:Prop} (h:fW σ x=some d) (a:σ.lookup x=some (.sh d)->G) (b:∀xs,σ.lookup x=some (.own xs)->PV.list xs=d->G):G:=by
 revert h a b;delta fW;refine bB (σ.lookup x) λo=>?_
 induction o using bO with
 |none=>exact ab
 |some k=>induction k using Ent.casesOn with
  |sh d=>exact λq a ζ=>a (congrArg (λz=>some (Ent.sh z)) (ak q))
  |own ds=>exact λq ζ b=>b ds rfl (ak q)
noncomputable def cz (σ:Sg) (e:ac):Bool:=match e with
 |.Name x _=>(match σ.lookup x with|some (.own _)=>true|_=>false)
 |_=>false
theorem dh {σ:Sg} {x:Str} {q:Pos} {d:PV} (h:σ.lookup x=some (.sh d)):cz σ (.Name x q)=false:=congrArg (λz:Option Ent=>match z with|some (.own _)=>true|_=>false) h
noncomputable def ew:List (Str×fq)->Bool
 |[]=>true
 |(x,_)::r=> !(r.any λy=>y.1==x)&&ew r
theorem Cz {x k r}:ew ((x,k)::r)=(!(r.any λy=>y.1==x)&&ew r):=rfl
noncomputable def cy (x:Str):Bool:=x != af "__debug__" &&x != af "__classdict__"
noncomputable def nU (sc sc':Scope):Bool:=
 (match sc'.kind with|.function=>true|_=>false)&&ew sc'.names&&
 sc'.names.all λy=>cy y.1&&match y.2 with|.free=>dZ sc y.1|.globalExplicit=>false|_=>true
noncomputable def dK (sc':Scope) (σ:Sg):Sg:=sc'.names.filterMap λy=>match y.2 with
 |.free=>(match σ.lookup y.1 with|some (.sh d)=>some (y.1,.sh d)|_=>none)
 |_=>none
noncomputable def yc:Const->Option PV
 |.none=>some .none
 |.bool b=>some (.bool b)
 |.int i=>some (.int i)
 |.str x=>if aZ x.length then some (.str x) else none
 |_=>none
noncomputable def gh (f:Sg->ac->PV->Option Sg):Sg->List ac->List PV->Option Sg
 |σ,[],[]=>some σ
 |σ,t::ts,x::xs=>match f σ t x with
  |some σ'=>gh f σ' ts xs
  |none=>none
 |_,_,_=>none
noncomputable def bD (fr:Bool) (sc:Scope):Nat->Sg->ac->PV->Option Sg
 |0,_,_,_=>none
 |n+1,σ,t,d=>match t with
  |.Name x _=>if bb sc x&&(!fr||(σ.lookup x).isNone) then some (put σ x (.sh d)) else none
  |.Tuple ts _ _=>(match d with
   |.tup xs=>gh (bD fr sc n) σ ts xs
   |.list xs=>gh (bD fr sc n) σ ts xs
   |_=>none)
  |_=>none
section
variable {fr:Bool} {sc:Scope} {n:Nat} {σ σ1:Sg}
theorem D9 {x:Str} {q:Pos} {d:PV} (hx:bb sc x=true) (h:(!fr||(σ.lookup x).isNone)=true):bD fr sc (n+1) σ (.Name x q) d=some (put σ x (.sh d)):=if_pos (od.mpr ⟨hx,h⟩)
theorem nB {f:Sg->ac->PV->Option Sg} {t:ac} {ts:List ac} {x:PV} {xs:List PV} {o:Option Sg} (h:f σ t x=some σ1) (r:gh f σ1 ts xs=o):gh f σ (t::ts) (x::xs)=o:=by refine (?_:(match f σ t x with|some σ'=>gh f σ' ts xs|none=>none)=o);exact aa h r
end
noncomputable def fL (a k:PV):Option PV:=match a,k with
 |.list xs,.int i=>(iW i xs.length).bind (xs[·]?)
 |.tup xs,.int i=>(iW i xs.length).bind (xs[·]?)
 |.str x,.int i=>((iW i x.length).bind (x.cps[·]?)).map λc=>.str ⟨#[c]⟩
 |_,_=>none
noncomputable def uk:Option PV->Option (Option Int)
 |none=>some none
 |some .none=>some none
 |some (.int i)=>if decide (-2^62<i)&&decide (i<2^62) then some (some i) else none
 |_=>none
noncomputable def eG (a:PV) (lo hi st:Option Int):Option PV:=
 if st==some 0 then none else match a with
 |.list xs=>let (x,y,z):=eg lo hi st xs.length;some (.list ((lA x y z).filterMap (xs[·]?)))
 |.str x=>if st==none then some (.str (iX x lo hi)) else none
 |.tup xs=>(match lo,hi,st with
  |none,some b,none=>if decide (0<=b)&&decide (b<=xs.length) then some (.tup (xs.take b.toNat)) else none
  |_,_,_=>none)
 |_=>none
noncomputable def kl:List PV->Option (List Str)
 |[]=>some []
 |.str x::r=>(kl r).map (x:: ·)
 |_::_=>none
noncomputable def fN:List PV->Option (List Int)
 |[]=>some []
 |.int x::r=>(fN r).map (x:: ·)
 |_::_=>none
noncomputable def dL (y:Str):List Str:=y.cps.toList.map λc=>⟨#[c]⟩
noncomputable def fx (x:Str):List PV:=(dL x).map .str
noncomputable def qK (x y:Str) (i j:Int):Int:=match gR x y i.toNat j.toNat 1 with
 |k::_=>(k:Int)
 |[]=> -1
noncomputable def bM (r:PV) (name:Str) (as:List PV):Option PV:=
 match r,as with
 |.str x,[]=>if name== "split" &&aZ (vo x (x.length+1)).length&&aZ (kH x).length&&(kH x).all (λy=>aZ y.length) then some (.list ((kH x).map .str)) else none
 |.str x,[.str y]=>
  if name== "split" then (if y.length != 0&&aZ (x.length+2) then some (.list ((Txt.split x y).map .str)) else none)
  else if name== "count" then some (.int (EM x y))
  else if name== "startswith" then some (.bool (yC x y))
  else if name== "endswith" then some (.bool (yD x y))
  else if name== "join" then (if EN x (dL y)&&aZ (og x (dL y)).length then some (.str (og x (dL y))) else none)
  else none
 |.str x,[.list ys]=>if name== "join" then (match kl ys with
   |some l=>if EN x l&&aZ (og x l).length then some (.str (og x l)) else none
   |none=>none) else none
 |.str x,[.str y,.int i,.int j]=>if name== "find" &&decide (0<=i)&&decide (i<=x.length)&&decide (0<=j)&&decide (j<=x.length) then some (.int (qK x y i j)) else none
 |.list xs,[.int k]=>if name== "count" then (fN xs).map λl=>.int ((l.countP (·==k):Nat):Int) else none
 |.list xs,[.str k]=>if name== "index" then (match kl xs with
   |some l=>(l.findIdx? (·==k)).map λ(i:Nat)=>PV.int (i:Int)
   |none=>none) else none
 |_,_=>none
noncomputable def bX (O:Orc) (f:Str) (as:List PV):Option PV:=
 match as with
 |[.list xs]=>
  if f== "sum" then (fN xs).map λl=>.int l.sum
  else if f== "len" then some (.int (xs.length:Nat))
  else if f== "max" then (match fN xs with|some (y::l)=>some (.int (l.foldl aR y))|_=>none)
  else if f== "sorted" then (match fN xs with|some l=>if decide (xs.length<64) then some (.list ((l.mergeSort (λa b=>decide (a<=b))).map .int)) else none|_=>none)
  else O.fn f as
 |[.str x]=>if f== "len" then some (.int (x.length:Nat)) else O.fn f as
 |[.tup xs]=>if f== "len" then some (.int (xs.length:Nat)) else O.fn f as
 |[.bool b]=>if f== "int" then some (.int (if b then 1 else 0)) else O.fn f as
 |[.int i]=>if f== "hex" then (if aZ (EO "0x" 16 i).length then some (.str (EO "0x" 16 i)) else none) else O.fn f as
 |[.int i,.int j]=>if f== "max" then some (.int (aR i j)) else O.fn f as
 |_=>O.fn f as
noncomputable def bT:List PV->List PV->List PV
 |x::xs,y::ys=>.tup [x,y]::bT xs ys
 |_,_=>[]
noncomputable def d8 (k:Nat):List PV->List PV
 |[]=>[]
 |x::xs=>.tup [.int k,x]::d8 (k+1) xs
noncomputable def fU (a b:Int):List PV:=(bF (b - a).toNat).map λ(k:Nat)=>.int (a+(k:Int))
noncomputable def ny:PV->Option (List PV)
 |.list xs=>some xs
 |.tup xs=>some xs
 |.str x=>some (fx x)
 |_=>none
noncomputable def iG (f:ac->Option Bool):List ac->Option Bool
 |[]=>some true
 |e::es=>match f e with
  |some true=>iG f es
  |some false=>some false
  |none=>none
noncomputable def gj (asg:Sg->PV->Option Sg) (tst:Sg->Option Bool) (body:Sg->Option (List PV)):List PV->Sg->Option (List PV)
 |[],_=>some []
 |d::ds,σ=>match asg σ d with
  |none=>none
  |some σ'=>match tst σ' with
   |none=>none
   |some true=>(match body σ',gj asg tst body ds σ with
    |some r,some q=>some (r++q)
    |_,_=>none)
   |some false=>gj asg tst body ds σ
theorem xA {f g b d ds σ}:gj f g b (d::ds) σ=(match f σ d with|none=>none|some σ1=>(match g σ1 with|none=>none|some true=>(match b σ1,gj f g b ds σ with|some r,some q=>some (r++q)|_,_=>none)|some false=>gj f g b ds σ)):=rfl
noncomputable def lS (f:ac->Option PV) (op:BoolOp):List ac->Option PV
 |[]=>none
 |[e]=>f e
 |e::es=>match f e with
  |none=>none
  |some d=>(match op,eO d with
   |.And,some false=>some d
   |.Or,some true=>some d
   |_,some _=>lS f op es
   |_,none=>none)
noncomputable def nX (f:ac->Option Bool) (op:BoolOp):List ac->Option Bool
 |[]=>some (op==.And)
 |e::es=>match op,f e with
  |.And,some false=>some false
  |.Or,some true=>some true
  |_,some _=>nX f op es
  |_,none=>none
noncomputable def jM:ac->Bool
 |.Call (.Name _ _) [] [] _=>true
 |_=>false
noncomputable def dm:ac->Bool
 |.Tuple .. =>true
 |_=>false
noncomputable def dw (o:Bool) (d:Option PV):Option PV:=if o then (match d with|some d=>if d.flat then some d else none|none=>none) else d
noncomputable def ka (d:Option (List PV)) (f:List PV->PV):Option PV:=match d with
 |some xs=>if aZ xs.length then some (f xs) else none
 |none=>none
mutual
noncomputable def pe (O:Orc):Nat->Scope->Sg->ac->Option PV
 |0,_,_,_=>none
 |n+1,sc,σ,e=>match e with
  |.Constant c _ _=>yc c
  |.Name x _=>if br sc x then gx σ x else if bS sc x then O.gc x else none
  |.BinOp l op r _=>(match pe O n sc σ l,pe O n sc σ r with
   |some a,some b=>bU op a b
   |_,_=>none)
  |.UnaryOp .USub x _=>(match pe O n sc σ x with
   |some (.int i)=>some (.int (-i))
   |_=>none)
  |.BoolOp op vs _=>lS (pe O n sc σ) op vs
  |.IfExp t b o _=>(match pT O n sc σ t with
   |some true=>pe O n sc σ b
   |some false=>pe O n sc σ o
   |none=>none)
  |.Compare l [op] [r] _=>(match pa O n sc σ l,pa O n sc σ r with
   |some a,some b=>(iA op a b).map .bool
   |_,_=>none)
  |.List es _=>ka (aX (pe O n sc σ) es) .list
  |.Tuple es _ _=>ka (aX (pe O n sc σ) es) .tup
  |.Subscript v (.Slice lo hi st _) _=>(match pe O n sc σ v,jh O n sc σ lo,jh O n sc σ hi,jh O n sc σ st with
   |some a,some lo,some hi,some st=>eG a lo hi st
   |_,_,_,_=>none)
  |.Subscript v i _=>(match pa O n sc σ v,pe O n sc σ i with
   |some a,some k=>dw (cz σ v) (fL a k)
   |_,_=>none)
  |.ListComp elt (g::gs) sc' _=>if nU sc sc' then (match cS O n sc σ (dm g.target) g.iter with
    |some xs=>ka (gM O n sc' (dK sc' σ) elt g gs xs) .list
    |none=>none) else none
  |.Call (.Attribute o name apos) args [] pos=>if apos.endLine==pos.line&&si args.length 30&& !jM o then (match o,args with
   |.Name x _,args=>if br sc x then (match fW σ x,aX (pa O n sc σ) args with
      |some r,some ds=>dw (cz σ o||args.any (cz σ)) (bM r name ds)
      |_,_=>none)
     else if bS sc x&&name== "get" then (match aX (pa O n sc σ) args with|some ds=>dw true (O.dget x ds)|none=>none) else none
   |o,args=>(match pe O n sc σ o,aX (pa O n sc σ) args with
      |some r,some ds=>dw (args.any (cz σ)) (bM r name ds)
      |_,_=>none)) else none
  |.Call (.Name f _) args [] _=>if bS sc f then (match args with
    |[.Call (.Name z pz) as [] p]=>if f== "list" &&z== "zip" &&bS sc z then (match aX (pe O n sc σ) as with
       |some [.list xs,.list ys]=>ka (some (bT xs ys)) .list
       |_=>none)
      else (match pe O n sc σ (.Call (.Name z pz) as [] p) with|some d=>bX O f [d]|none=>none)
    |args=>(match aX (pa O n sc σ) args with|some ds=>dw (args.any (cz σ)) (bX O f ds)|none=>none)) else none
  |_=>none
noncomputable def pa (O:Orc):Nat->Scope->Sg->ac->Option PV
 |0,_,_,_=>none
 |n+1,sc,σ,e=>match e with
  |.Name x p=>if br sc x then fW σ x else pe O n sc σ (.Name x p)
  |e=>pe O n sc σ e
noncomputable def jh (O:Orc):Nat->Scope->Sg->Option ac->Option (Option Int)
 |0,_,_,_=>none
 |n+1,sc,σ,e=>match e with
  |none=>some none
  |some e=>(match pe O n sc σ e with|some d=>uk (some d)|none=>none)
noncomputable def pT (O:Orc):Nat->Scope->Sg->ac->Option Bool
 |0,_,_,_=>none
 |n+1,sc,σ,e=>match e with
  |.UnaryOp .Not x _=>(pT O n sc σ x).map (!·)
  |.BoolOp op vs _=>nX (pT O n sc σ) op vs
  |.IfExp .. =>none
  |e=>(match pa O n sc σ e with|some d=>eO d|none=>none)
noncomputable def cS (O:Orc):Nat->Scope->Sg->Bool->ac->Option (List PV)
 |0,_,_,_,_=>none
 |n+1,sc,σ,tt,e=>match e with
  |.Call (.Name f _) args [] _=>if bS sc f then (match aX (pe O n sc σ) args with
    |some [.int b]=>if f== "range" then (if decide (b<=1000000)&&decide (-1000000<=b) then some (fU 0 b) else none) else none
    |some [.int a,.int b]=>if f== "range" then (if decide (b<=1000000)&&decide (-1000000<=b)&&decide (a<=1000000)&&decide (-1000000<=a) then some (fU a b) else none) else none
    |some [.list xs]=>if f== "enumerate" &&tt then some (d8 0 xs) else none
    |some [.tup xs]=>if f== "enumerate" &&tt then some (d8 0 xs) else none
    |some [.str x]=>if f== "enumerate" &&tt then some (d8 0 (fx x)) else none
    |some [.list xs,.list ys]=>if f== "zip" &&tt then some (bT xs ys) else none
    |_=>none) else none
  |.Set .. =>none
  |e=>(match pe O n sc σ e with|some d=>ny d|none=>none)
noncomputable def gM (O:Orc):Nat->Scope->Sg->ac->c9->List c9->List PV->Option (List PV)
 |0,_,_,_,_,_,_=>none
 |n+1,sc,σ,elt,g,gs,xs=>if g.is_async==0&&gs.all (λg=>g.is_async==0) then
   gj (λσ d=>bD true sc 4 σ g.target d) (λσ=>iG (pT O n sc σ) g.ifs)
    (λσ=>match gs with
     |[]=>(match pe O n sc σ elt with|some d=>some [d]|none=>none)
     |g'::gs'=>(match cS O n sc σ (dm g'.target) g'.iter with|some ys=>gM O n sc σ elt g' gs' ys|none=>none)) xs σ
  else none
end
noncomputable def qQ:List ac->Bool
 |[.Call (.Name _ _) _ [] _]=>false
 |_=>true
theorem R5 {as:List ac} (h:qQ as=false):∃z pz bs q,as=[.Call (.Name z pz) bs [] q]:=by
 induction as using aF with
 |nil=>first|exact aU h|exact cL h
 |cons e r=>
  induction e using bt with
  |Call f as kws pc=>
   induction f using bt with
   |Name z pz=>
    induction kws using aF with
    |nil=>
     induction r using aF with
     |nil=>exact KI _ _ _ _ rfl
     |cons _ _=>first|exact aU h|exact cL h
    |cons _ _=>first|exact aU h|exact cL h
   |_=>first|exact aU h|exact cL h
  |_=>first|exact aU h|exact cL h
noncomputable def oW:ac->Bool
 |.Name .. =>false
 |_=>true
noncomputable def po:ac->Bool
 |.Slice .. =>false
 |_=>true
section
variable {O:Orc} {n:Nat} {sc sc':Scope} {σ:Sg} {p q:Pos}
theorem JK {c k}:pe O (n+1) sc σ (.Constant c k p)=yc c:=rfl
theorem rg {x:Str}:pe O (n+1) sc σ (.Name x p)=(if br sc x=true then gx σ x else if bS sc x=true then O.gc x else none):=rfl
theorem rF {l r:ac} {op}:pe O (n+1) sc σ (.BinOp l op r p)=(match pe O n sc σ l,pe O n sc σ r with
   |some a,some b=>bU op a b
   |_,_=>none):=rfl
theorem DT {x:ac}:pe O (n+1) sc σ (.UnaryOp .USub x p)=(match pe O n sc σ x with
   |some (.int i)=>some (.int (-i))
   |_=>none):=rfl
theorem A9 {t b o:ac}:pe O (n+1) sc σ (.IfExp t b o p)=(match pT O n sc σ t with
   |some true=>pe O n sc σ b
   |some false=>pe O n sc σ o
   |none=>none):=rfl
theorem uM {l r:ac} {op}:pe O (n+1) sc σ (.Compare l [op] [r] p)=(match pa O n sc σ l,pa O n sc σ r with
   |some a,some b=>(iA op a b).map .bool
   |_,_=>none):=rfl
theorem uj {es:List ac} {k}:pe O (n+1) sc σ (.Tuple es k p)=ka (aX (pe O n sc σ) es) .tup:=rfl
theorem C9 {v:ac} {lo hi st:Option ac}:pe O (n+1) sc σ (.Subscript v (.Slice lo hi st q) p)=(match pe O n sc σ v,jh O n sc σ lo,jh O n sc σ hi,jh O n sc σ st with
   |some a,some lo,some hi,some st=>eG a lo hi st
   |_,_,_,_=>none):=rfl
theorem u8 {v i:ac} (h:po i=true):pe O (n+1) sc σ (.Subscript v i p)=(match pa O n sc σ v,pe O n sc σ i with
   |some a,some k=>dw (cz σ v) (fL a k)
   |_,_=>none):=by induction i using bt<;>first|rfl|exact aU h|exact cL h
theorem uW {elt:ac} {g:c9} {gs:List c9}:pe O (n+1) sc σ (.ListComp elt (g::gs) sc' p)=(if nU sc sc'=true then (match cS O n sc σ (dm g.target) g.iter with
    |some xs=>ka (gM O n sc' (dK sc' σ) elt g gs xs) .list
    |none=>none) else none):=rfl
theorem uR {x name:Str} {args:List ac} {pos apos:Pos}:pe O (n+1) sc σ (.Call (.Attribute (.Name x q) name apos) args [] pos)=(if (apos.endLine==pos.line&&si args.length 30&& !jM (.Name x q))=true then
     (if br sc x=true then (match fW σ x,aX (pa O n sc σ) args with
      |some r,some ds=>dw (cz σ (.Name x q)||args.any (cz σ)) (bM r name ds)
      |_,_=>none)
     else if (bS sc x&&name== "get")=true then (match aX (pa O n sc σ) args with|some ds=>dw true (O.dget x ds)|none=>none) else none) else none):=rfl
theorem x5 {o:ac} {name:Str} {args:List ac} {pos apos:Pos} (h:oW o=true):pe O (n+1) sc σ (.Call (.Attribute o name apos) args [] pos)=(if (apos.endLine==pos.line&&si args.length 30&& !jM o)=true then
     (match pe O n sc σ o,aX (pa O n sc σ) args with
      |some r,some ds=>dw (args.any (cz σ)) (bM r name ds)
      |_,_=>none) else none):=by induction o using bt<;>first|rfl|exact aU h|exact cL h
theorem Cu {f z:Str} {as:List ac} {fp pz pc:Pos}:pe O (n+1) sc σ (.Call (.Name f fp) [.Call (.Name z pz) as [] pc] [] p)=(if bS sc f=true then (if (f== "list" &&z== "zip" &&bS sc z)=true then (match aX (pe O n sc σ) as with
       |some [.list xs,.list ys]=>ka (some (bT xs ys)) .list
       |_=>none)
      else (match pe O n sc σ (.Call (.Name z pz) as [] pc) with|some d=>bX O f [d]|none=>none)) else none):=rfl
theorem BE {f:Str} {args:List ac} {fp:Pos} (h:qQ args=true):pe O (n+1) sc σ (.Call (.Name f fp) args [] p)=(if bS sc f=true then (match aX (pa O n sc σ) args with|some ds=>dw (args.any (cz σ)) (bX O f ds)|none=>none) else none):=by
 induction args using aF with
 |nil=>rfl
 |cons e r=>
  induction e using bt with
  |Call f as kws pc=>
   induction f using bt with
   |Name z pz=>
    induction kws using aF with
    |nil=>
     induction r using aF with
     |nil=>first|exact aU h|exact cL h
     |cons _ _=>rfl
    |cons _ _=>rfl
   |_=>rfl
  |_=>rfl
theorem qS {tt:Bool} {f:Str} {args:List ac} {fp:Pos}:cS O (n+1) sc σ tt (.Call (.Name f fp) args [] p)=(if bS sc f=true then (match aX (pe O n sc σ) args with
    |some [.int b]=>if (f== "range")=true then (if (decide (b<=1000000)&&decide (-1000000<=b))=true then some (fU 0 b) else none) else none
    |some [.int a,.int b]=>if (f== "range")=true then (if (decide (b<=1000000)&&decide (-1000000<=b)&&decide (a<=1000000)&&decide (-1000000<=a))=true then some (fU a b) else none) else none
    |some [.list xs]=>if (f== "enumerate" &&tt)=true then some (d8 0 xs) else none
    |some [.tup xs]=>if (f== "enumerate" &&tt)=true then some (d8 0 xs) else none
    |some [.str x]=>if (f== "enumerate" &&tt)=true then some (d8 0 (fx x)) else none
    |some [.list xs,.list ys]=>if (f== "zip" &&tt)=true then some (bT xs ys) else none
    |_=>none) else none):=rfl
noncomputable def CE:ac->Bool
 |.Call (.Name _ _) _ [] _=>true
 |.Set .. =>true
 |_=>false
theorem o0 {tt:Bool} {e:ac} (h:CE e=false):cS O (n+1) sc σ tt e=(match pe O n sc σ e with|some d=>ny d|none=>none):=by
 induction e using bt with
 |Call f as kws pc=>
  induction f using bt with
  |Name z pz=>
   induction kws using aF with
   |nil=>first|exact aU h|exact cL h
   |cons _ _=>rfl
  |_=>rfl
 |Set=>first|exact aU h|exact cL h
 |_=>rfl
end
theorem cE (σ:Sg) (x:Str) (e:Ent) (z:Str):(put σ x e).lookup z=if z=x then some e else σ.lookup z:=by
 induction σ with
 |nil=>
  by_cases h:z=x
  ·subst h;refine (?_:dP z [(z,e)]=_);simp[dP]
  ·have:(z==x)=false:=decide_eq_false h;refine (?_:dP z [(x,e)]=_);simp[dP,this,h]
 |cons p r ih=>
  obtain ⟨y,f⟩:=p;refine aa Qs ?_
  by_cases hxy:x=y
  ·subst hxy;simp only[beq_self_eq_true,if_true]
   by_cases h:z=x
   ·subst h;simp[dP]
   ·have:(z==x)=false:=decide_eq_false h;simp[dP,this,h]
  ·have h1:(x==y)=false:=decide_eq_false hxy;simp only[h1,dp,if_false]
   by_cases hzy:z=y
   ·subst hzy;have:z≠x:=λq=>hxy q.symm;simp[dP,this]
   ·have h2:(z==y)=false:=decide_eq_false hzy;simp only[dP,h2];exact ih
noncomputable def dv (env:Env) (h:aP) (x:Str) (v:Value):Prop:=
 (env.kindOf x=some .local/\∃m,h.Ns env.locals m/\m x=some v)\/
 ((env.kindOf x=some .cell\/env.kindOf x=some .free)/\∃c,env.cells.lookup x=some c/\h.IsCell c (some v))
noncomputable def av (own:List (Str×Addr)):List Addr:=own.map (·.2)
structure ap (X:Cx) (sc:Scope) (env:Env) (σ:Sg) (own:List (Str×Addr)) (P:List Addr) (h:aP):Prop where
 kind:env.scope.kind=.function
 glob:env.globals=df
 bi:env.builtins=kG
 loc:∀x,sc.names.lookup x=some .local->env.kindOf x=some .local
 cel:∀x,dZ sc x=true->(env.kindOf x=some .cell\/env.kindOf x=some .free)/\∃c,env.cells.lookup x=some c
 gl:∀x,bS sc x=true->env.kindOf x=some .globalImplicit
 nm:∀x k,sc.names.lookup x=some k->cy x=true
 ns:∃m,h.Ns env.locals m
 cells:∀x c,(x,c)∈env.cells->∃v,h.IsCell c v
 apart:∀x y c,(x,c)∈env.cells->(y,c)∈env.cells->x=y
 fl:X.h0.get? env.locals=none
 fc:∀x c,(x,c)∈env.cells->X.h0.get? c=none
 vars:∀x d,σ.lookup x=some (.sh d)->∃v,dv env h x v/\am (P++av own) h d v
 owns:∀x xs,σ.lookup x=some (.own xs)->∃a vs n,own.lookup x=some a/\dv env h x (.ref a)/\
  h.get? a=some {cls:=.type "list",data:=.seq vs.toArray n}/\vs.length<=sizeLine/\ar (P++av own) h xs vs
 ownA:∀x y a,(x,a)∈own->(y,a)∈own->x=y
 ownF:∀x a,(x,a)∈own->X.h0.get? a=none/\∃its n,h.get? a=some {cls:=.type "list",data:=.seq its n}
 pin:∀b∈P,∃o,h.get? b=some o/\cG o=false
 ownU:∀x a b,(x,a)∈own->own.lookup x=some b->a=b
 ownP:∀x a,(x,a)∈own->a∉P
noncomputable def rU (sc:Scope) (env:Env):List Addr:=(env.cells.filter λp=>bb sc p.1).map (·.2)
theorem aS {σ:Sg} {x:Str} {e:Ent}:(put σ x e).lookup x=some e:=(cE σ x e x).trans (if_pos rfl)
theorem aw {σ:Sg} {x y:Str} {e:Ent} {r:Option Ent} (h:y≠x) (hl:σ.lookup y=r):(put σ x e).lookup y=r:=(cE σ x e y).trans ((if_neg h).trans hl)
theorem ea {sc:Scope} {env:Env} {a:Addr} (h:a∈rU sc env):∃x,(x,a)∈env.cells/\bb sc x=true:=by obtain ⟨⟨x,c⟩,hm,rfl⟩:=dQ.mp h;refine bf (jp.mp hm) λh1 h2=>?_;exact au x h1 h2
theorem MV {sc:Scope} {env:Env} {x:Str} {a:Addr} (h:(x,a)∈env.cells) (hx:bb sc x=true):a∈rU sc env:=
 dQ.mpr ⟨(x,a),jp.mpr ⟨h,hx⟩,rfl⟩
noncomputable def aV (sc:Scope) (env:Env) (own:List (Str×Addr)):List Addr:=env.locals::(rU sc env++av own)
theorem ja {W h h' c v} (x:Heap.IsCell h c v) (k:Kb W h h') (hc:c∉W):h'.IsCell c v:=
 ah x λo e hd=>⟨o,k c o hc (fe λvs q=>by replace q:=hd▸q;cases q) e,hd⟩
theorem nb {W h h' a m} (x:Heap.Ns h a m) (k:Kb W h h') (hc:a∉W):h'.Ns a m:=
 jQ x λo es ep e hd r=>⟨o,es,ep,k a o hc (fe λvs q=>by replace q:=hd▸q;cases q) e,hd,r⟩
theorem dv.keep {env h h' x v} (r:dv env h x v) (k:Kb [] h h'):dv env h' x v:=by
 rcases r with ⟨h1,m,n,h2⟩|⟨h1,c,e,h2⟩
 ·exact .inl ⟨h1,m,nb n k (λq=>nomatch q),h2⟩
 ·exact .inr ⟨h1,c,e,ja h2 k (λq=>nomatch q)⟩
theorem ap.keep {X sc env σ own P h h'} (V:ap X sc env σ own P h) (k:Kb [] h h'):ap X sc env σ own P h':=
 {V with
  pin:=λb hb=>ah (V.pin b hb) λo e ht=>⟨o,k b o (λq=>nomatch q) ht e,ht⟩
  ns:=ay V.ns λm n=>⟨m,nb n k (λq=>nomatch q)⟩
  cells:=λx c hm=>ay (V.cells x c hm) λv n=>⟨v,ja n k (λq=>nomatch q)⟩
  vars:=λx d e=>ah (V.vars x d e) λv h1 h2=>⟨v,h1.keep k,h2.keep k⟩
  owns:=λx xs e=>fb (V.owns x xs e) λa vs n h1 h2 h3 h4 h5=>⟨a,vs,n,h1,h2.keep k,k a _ (λq=>nomatch q) rfl h3,h4,h5.keep k⟩
  ownF:=λx a e=>bf (V.ownF x a e) λh1 h_=>jy h_ λits n h2=>⟨h1,its,n,k a _ (λq=>nomatch q) rfl h2⟩}
theorem ck {α:Type} {l:List (Str×α)} {n:Str} {c:α} (h:l.lookup n=some c):(n,c)∈l:=by
 induction l with
 |nil=>exact ab h
 |cons p r ih=>
  obtain ⟨y,d⟩:=p;rw[cX] at h;cases hb:n==y with
  |true=>replace h:=hb▸h;have h_:=ak h;clear h;subst h_;refine aa (bc hb) ?_;exact .head _
  |false=>replace h:=hb▸h;exact .tail _ (ih h)
section
variable {X:Cx} {A:aM} {E:Value->ae->Prop} {s:ae} {env:Env} {sc:Scope} {σ:Sg} {own:List (Str×Addr)} {P:List Addr}
theorem A8 {x:Str} {v:Value} {Q:Value->ae->Prop} (V:ap X sc env σ own P s.heap) (r:dv env s.heap x v) (hx:x≠af "__classdict__") (h:Q v s):al (aq X.prog X.w) A (loadName env x) Q E s:=by
 rcases r with ⟨h1,m,n,h2⟩|⟨h1|h1,c,e,h2⟩
 ·exact wpAny_loadName_local V.kind h1 n h2 h
 ·exact wpAny_loadName_cell V.kind h1 e h2 h
 ·exact wpAny_loadName_free V.kind h1 e h2 h (decide_eq_false hx)
theorem iH {x:Str} {pos:Pos} {v:Value} {Q:Value->ae->Prop} (V:ap X sc env σ own P s.heap) (r:dv env s.heap x v) (hx:cy x=true) (h:Q v s):al (aq X.prog X.w) A (aJ (.Name x pos) env) Q E s:=by unfold cy at hx;simp only[bn,bne_iff_ne,ne_eq] at hx;exact wpAny_Name (A8 V r hx.2 h) (decide_eq_false hx.1)
theorem uX {x:Str} {v:Value} {Q:Unit->ae->Prop} (V:ap X sc env σ own P s.heap) (hx:bb sc x=true) (h:∀(h':aP) (tk:cJ) (a:Addr),a∈env.locals::rU sc env->io a s.heap h'->dv env h' x v->
   (∀z u,z≠x->dv env s.heap z u->dv env h' z u)->(∃m,h'.Ns env.locals m)->(∀y c,(y,c)∈env.cells->∃v,h'.IsCell c v)->
   (∀o,s.heap.get? a=some o->gt o/\∀its n,o.data≠.seq its n)->Q () {s with heap:=h',toks:=tk}):al (aq X.prog X.w) A (j3 env x v) Q E s:=by
 have hk:=V.kind;refine ay V.ns λm n=>?_;have cellNe:∀y c,(y,c)∈env.cells->c≠env.locals:=λy c hm q=>by refine bN (V.cells y c hm) λu o e hd=>?_;refine jQ n λo' es ep e' hd' ζ=>?_;clear n;replace e:=q▸e;replace e:=e'▸e;have h_:=ak e;clear e;subst h_;replace hd':=hd▸hd';cases hd'
 have hcase:env.kindOf x=some .local\/((env.kindOf x=some .cell\/env.kindOf x=some .free)/\∃c,env.cells.lookup x=some c):=by exact OI hx (λe=>.inl (V.loc x e)) λe=>.inr (V.cel x (by unfold dZ;exact aa e rfl))
 rcases hcase with hl|⟨hl,c,hc⟩
 ·refine wpAny_storeName_local hl n (λh' n' hs=>h h' _ env.locals iq hs (.inl ⟨hl,_,n',if_pos rfl⟩) (λz u hz r=>?_) ⟨_,n'⟩ (λy c hm=>?_) (λo e=>?_)) (by refine aa hk ?_;rfl)
  ·rcases r with ⟨r1,m1,n1,r2⟩|⟨r1,c,e,r2⟩
   ·refine .inl ⟨r1,_,n',?_⟩;have e0:m1 z=m z:=by refine qY n1 λo1 es1 ep1 e1 d1 ζ q1=>?_;clear n1;refine qY n λo2 es2 ep2 e2 d2 ζ q2=>?_;clear n;replace e2:=e1▸e2;have h_:=ak e2;clear e2;subst h_;replace d2:=d1▸d2;cases d2;rw[<- q1,<- q2]
    refine (?_:(if z=x then some v else m z)=some u);refine aa (if_neg hz) (aA e0 ?_);exact r2
   ·exact .inr ⟨r1,c,e,r2.sameBut hs (cellNe z c (ck e))⟩
  ·refine ay (V.cells y c hm) λu r=>?_;exact⟨u,r.sameBut hs (cellNe y c hm)⟩
  ·refine jQ n λo' es ep e' hd' ζ=>?_;clear n;replace e:=e'▸e;have h_:=ak e;clear e;subst h_;exact⟨.inr (λvs q=>by replace q:=hd'▸q;cases q),(λits k q=>by replace q:=hd'▸q;cases q)⟩
 ·have hm:=ck hc;refine ay (V.cells x c hm) λv0 hv0=>?_;have fin:al (aq X.prog X.w) A (cellSet c (some v)) Q E s:=by
   refine wpAny_cellSet hv0 λh' hc' hs=>h h' _ c (bP _ (MV hm hx)) hs (.inr ⟨hl,c,hc,hc'⟩) (λz u hz r=>?_)
    ⟨m,n.sameBut hs (ek (cellNe x c hm))⟩ (λy c2 hm2=>?_) (λo e=>?_)
   ·rcases r with ⟨r1,m1,n1,r2⟩|⟨r1,c1,e,r2⟩
    ·exact .inl ⟨r1,m1,n1.sameBut hs (ek (cellNe x c hm)),r2⟩
    ·exact .inr ⟨r1,c1,e,r2.sameBut hs λq=>hz (V.apart z x c (q▸ck e) hm)⟩
   ·by_cases q:c2=c
    ·subst q;exact⟨_,hc'⟩
    ·refine ay (V.cells y c2 hm2) λu r=>?_;exact⟨u,r.sameBut hs q⟩
   ·refine ah hv0 λo' e' hd'=>?_;clear hv0;replace e:=e'▸e;have h_:=ak e;clear e;subst h_;exact⟨.inr (λvs q=>by replace q:=hd'▸q;cases q),(λits k q=>by replace q:=hd'▸q;cases q)⟩
  unfold j3;have hb:(env.kindOf x==some Xo&&env.blockKind != Xp)=false:=by
   rcases hl with hl|hl<;>refine aa hl ?_<;>rfl
  refine aa hb ?_;have hcl:(env.scope.kind==ScopeKind.class&&env.kindOf x==some pQ)=false:=by refine aa hk ?_;rfl
  rcases hl with hl|hl
  ·simp only[hl,dp,if_false];replace hcl:=hl▸hcl;rw[if_neg (by refine aa hcl ?_;exact gz)];exact aj (UP hc fin)
  ·simp only[hl,dp,if_false];replace hcl:=hl▸hcl;rw[if_neg (by refine aa hcl ?_;exact gz)];exact aj (UP hc fin)
end
noncomputable def dU (own:List (Str×Addr)) (x:Str):List (Str×Addr):=own.filter λp=>p.1 != x
theorem cQ {own:List (Str×Addr)} {x:Str} {p} (h:p∈dU own x):p∈own/\p.1≠x:=by unfold dU at h;refine bf (jp.mp h) λh1 h2=>?_;exact⟨h1,by simpa using h2⟩
theorem mB {own:List (Str×Addr)} {x z:Str} (hz:z≠x):(dU own x).lookup z=own.lookup z:=by
 induction own with
 |nil=>rfl
 |cons p r ih=>
  obtain ⟨y,a⟩:=p;unfold dU at ih⊢
  by_cases hy:y=x
  ·subst hy;have h1:(z==y)=false:=by simpa using hz
   simp only[pR,bne_self_eq_false,dp,if_false,cX,h1];exact ih
  ·have h1:(y != x)=true:=by simpa using hy
   simp only[pR,h1,if_true,cX];cases z==y<;>simp[ih]
theorem fR {own:List (Str×Addr)} {x:Str} {b} (h:b∈av (dU own x)):b∈av own:=by refine ah (dQ.mp h) λp hp e2_=>?_;subst e2_;exact mJ (cQ hp).1
noncomputable def de (own own':List (Str×Addr)) (s:ae):Prop:=∀b,b∈av own'->b∈av own\/s.heap.get? b=none
theorem de.refl {own s}:de own own s:=λζ h=>.inl h
theorem Pf {sc env own own'} {s:ae} (h:de own own' s):∀b,b∈aV sc env own'->b∈aV sc env own\/s.heap.get? b=none:=by
 intro b hb;unfold aV at hb ⊢;rcases ao.mp hb with q|q
 ·exact .inl (ao.mpr (.inl q))
 ·rcases be.mp q with q|q
  ·exact .inl (bP _ (bC _ q))
  ·rcases h b q with q|q
   ·exact .inl (bP _ (bG _ q))
   ·exact .inr q
theorem ag.trans_own {sc env own own'} {s s' s'':ae} (a:ag (aV sc env own) s s') (h:de own own' s) (b:ag (aV sc env own') s' s''):ag (aV sc env own) s s'':=
 ⟨λx o hx ht e=>b.kb x o (λq=>(Pf h x q).elim hx λz=>by replace e:=z▸e;exact ab e) ht (a.kb x o hx ht e),
  λx o e=>ay (a.th x o e) λo1 e1=>b.th x o1 e1,
  aB a.gsz b.gsz,λi hi=>(b.gk i (cV hi a.gsz)).trans (a.gk i hi)⟩
theorem de.trans {W gm own own' own''} {s s':ae} (h:de own own' s) (a:jX W gm s s') (h':de own' own'' s'):de own own'' s:=λb hb=>
 (h' b hb).elim (h b) λq=>.inr (a.none q)
section
variable {X:Cx} {A:aM} {E:Value->ae->Prop} {s:ae} {env:Env} {sc:Scope} {σ:Sg} {own:List (Str×Addr)} {P:List Addr}
theorem oH {x:Str} {v:Value} {d:PV} {Q:Unit->ae->Prop} (S:ai X s) (V:ap X sc env σ own P s.heap) (hx:bb sc x=true) (r:am (P++av own) s.heap d v) (h:∀s',ai X s'->ag (aV sc env own) s s'->ap X sc env (put σ x (.sh d)) (dU own x) P s'.heap->Q () s'):al (aq X.prog X.w) A (j3 env x v) Q E s:=by
 refine uX V hx λh' tk a ha hs hv hz hn hcel ho=>?_;have hex2:∃o,h'.get? a=some o/\cG o=false:=by
  rcases ao.mp ha with q|q
  ·obtain ⟨m,o,_,_,e,hd,_⟩:=hn;exact au o (q▸e) (fe λvs z=>by replace z:=hd▸z;cases z)
  ·refine ah (ea q) λy hm ζ=>?_;refine bN (hcel y _ hm) λv o e hd=>?_;exact au o e (fe λvs z=>by replace z:=hd▸z;cases z)
 have hex:∃o,h'.get? a=some o:=ah hex2 λo e ζ=>⟨o,e⟩
 have hfr:X.h0.get? a=none:=by
  rcases ao.mp ha with q|q
  ·exact q▸V.fl
  ·refine ah (ea q) λy hm ζ=>?_;exact V.fc y _ hm
 have hkb:Kb [a] s.heap h':=λb o hb ζ e=>(hs.2 b (λq=>hb (by simp[q]))).trans e;have haW:a∈aV sc env own:=by
  unfold aV;rcases ao.mp ha with q|q
  ·exact ao.mpr (.inl q)
  ·exact bP _ (bC _ q)
 have rep:∀{d v},am (P++av own) s.heap d v->am (P++av (dU own x)) h' d v:=λ{d v} r=>
  am.kb hkb (λb hb=>.inr (.inr λo e=>(ho o (by simp at hb;exact hb▸e)).2)) (λb hb=>.inl ((be.mp hb).elim (λq=>bC _ q) λq=>bG _ (fR q))) d v r
 have repL:∀{d v},ar (P++av own) s.heap d v->ar (P++av (dU own x)) h' d v:=λ{d v} r=>
  ar.kb hkb (λb hb=>.inr (.inr λo e=>(ho o (by simp at hb;exact hb▸e)).2)) (λb hb=>.inl ((be.mp hb).elim (λq=>bC _ q) λq=>bG _ (fR q))) d v r
 have lst:∀{b its n},s.heap.get? b=some {cls:=.type "list",data:=.seq its n}->h'.get? b=some {cls:=.type "list",data:=.seq its n}:=λ{b its n} e=>
  (hs.2 b (λq=>(ho _ (q▸e)).2 _ _ rfl)).trans e
 refine h _ (S.same hfr (λo e=>(ho o e).1) hs) (ag.but haW hs hex) ?_
 exact {V with
  ns:=hn
  pin:=λc hc=>by
   by_cases q:c=a
   ·exact q▸hex2
   ·refine ah (V.pin c hc) λo e ht=>?_;exact au o ((hs.2 c q).trans e) ht
  cells:=hcel
  vars:=λz d' e=>by
   rw[cE] at e
   by_cases q:z=x
   ·replace e:=(if_pos q)▸e;cases e;exact au v (q▸hv) (rep r)
   ·replace e:=(if_neg q)▸e;refine ah (V.vars z d' e) λu h1 h2=>?_;exact au u (hz z u q h1) (rep h2)
  owns:=λz xs e=>by
   rw[cE] at e
   by_cases q:z=x
   ·replace e:=(if_pos q)▸e;cases e
   ·replace e:=(if_neg q)▸e;refine fb (V.owns z xs e) λb vs n h1 h2 h3 h4 h5=>?_;exact ji b vs n ((mB q).trans h1) (hz z _ q h2) (lst h3) h4 (repL h5)
  ownA:=λz y b h1 h2=>V.ownA z y b (cQ h1).1 (cQ h2).1
  ownP:=λz b h1=>V.ownP z b (cQ h1).1
  ownF:=λz b h1=>by obtain ⟨h2,its,n,h3⟩:=V.ownF z b (cQ h1).1;exact⟨h2,its,n,lst h3⟩
  ownU:=λz b c h1 h2=>V.ownU z b c (cQ h1).1 (by refine aA (mB (cQ h1).2) ?_;exact h2)}
theorem JU {s0:ae} {x:Str} {a:Addr} {n:Nat} {xs:List PV} {vs:List Value} {Q:Unit->ae->Prop} (S0:ai X s0) (S:ai X s) (V0:ap X sc env σ own P s0.heap) (k:ag [] s0 s) (hx:bb sc x=true) (ha0:s0.heap.get? a=none) (ha1:s.heap.get? a=some {cls:=.type "list",data:=.seq vs.toArray n}) (hlen:vs.length<=sizeLine) (r:ar (a::(P++av own)) s.heap xs vs)
  (h:∀s',ai X s'->ag (aV sc env own) s s'->de own ((x,a)::dU own x) s0->ap X sc env (put σ x (.own xs)) ((x,a)::dU own x) P s'.heap->Q () s'):
  al (aq X.prog X.w) A (j3 env x (.ref a)) Q E s:=by
 have V:=V0.keep k.kb;refine uX V hx λh' tk b hb hs hv hz hn hcel ho=>?_;have hex2:∃o,h'.get? b=some o/\cG o=false:=by
  rcases ao.mp hb with q|q
  ·obtain ⟨m,o,_,_,e,hd,_⟩:=hn;exact au o (q▸e) (fe λvs z=>by replace z:=hd▸z;cases z)
  ·refine ah (ea q) λy hm ζ=>?_;refine bN (hcel y _ hm) λv o e hd=>?_;exact au o e (fe λvs z=>by replace z:=hd▸z;cases z)
 have hex:∃o,h'.get? b=some o:=ah hex2 λo e ζ=>⟨o,e⟩
 have hfr:X.h0.get? b=none:=by
  rcases ao.mp hb with q|q
  ·exact q▸V.fl
  ·refine ah (ea q) λy hm ζ=>?_;exact V.fc y _ hm
 have hkb:Kb [b] s.heap h':=λc o hc ζ e=>(hs.2 c (λq=>hc (by simp[q]))).trans e;have hbW:b∈aV sc env own:=by
  unfold aV;rcases ao.mp hb with q|q
  ·exact ao.mpr (.inl q)
  ·exact bP _ (bC _ q)
 have hk0:Kb [b] s0.heap h':=(k.kb.mono (λζ q=>nomatch q)).trans hkb;have seqNe:∀o,s0.heap.get? b=some o->∀its n,o.data≠.seq its n:=λo e its n q=>by have e2:=k.kb b o (λq=>nomatch q) (fe λvs z=>by replace z:=q▸z;cases z) e;exact (ho o e2).2 its n q
 have hsub:∀c,c∈av ((x,a)::dU own x)->c∈av own\/s0.heap.get? c=none:=λc hc=>by
  rcases ao.mp hc with q|q
  ·have q:c=a:=q;exact .inr (q▸ha0)
  ·exact .inl (fR q)
 have hsubP:∀c,c∈P++av ((x,a)::dU own x)->c∈P++av own\/s0.heap.get? c=none:=λc hc=>by
  rcases be.mp hc with q|q
  ·exact .inl (bC _ q)
  ·exact (hsub c q).imp (λz=>bG _ z) id
 have rep:∀{d v},am (P++av own) s0.heap d v->am (P++av ((x,a)::dU own x)) h' d v:=λ{d v} r=>
  am.kb hk0 (λc hc=>.inr (.inr λo e=>seqNe o (by simp at hc;exact hc▸e))) hsubP d v r
 have repL:∀{d v},ar (P++av own) s0.heap d v->ar (P++av ((x,a)::dU own x)) h' d v:=λ{d v} r=>
  ar.kb hk0 (λc hc=>.inr (.inr λo e=>seqNe o (by simp at hc;exact hc▸e))) hsubP d v r
 have lst:∀{b its n},s.heap.get? b=some {cls:=.type "list",data:=.seq its n}->h'.get? b=some {cls:=.type "list",data:=.seq its n}:=λ{b its n} e=>
  (hs.2 b (λq=>(ho _ (q▸e)).2 _ _ rfl)).trans e
 have newr:ar (P++av ((x,a)::dU own x)) h' xs vs:=
  ar.kb hkb (λc hc=>.inr (.inr λo e=>(ho o (by simp at hc;exact hc▸e)).2)) (λc hc=>by
   rcases be.mp hc with q|q
   ·exact .inl (bP _ (bC _ q))
   ·rcases ao.mp q with q|q
    ·exact .inl (ao.mpr (.inl q))
    ·exact .inl (bP _ (bG _ (fR q)))) xs vs r
 have oldne:∀z c,(z,c)∈own->c≠a:=λz c hm q=>by obtain ⟨_,its,n',e⟩:=V0.ownF z c hm;rw[q,ha0] at e;exact ab e
 refine h _ (S.same hfr (λo e=>(ho o e).1) hs) (ag.but hbW hs hex) hsub ?_
 exact {V with
  ns:=hn
  pin:=λc hc=>by
   by_cases q:c=b
   ·exact q▸hex2
   ·refine ah (V.pin c hc) λo e ht=>?_;exact au o ((hs.2 c q).trans e) ht
  cells:=hcel
  vars:=λz d' e=>by
   rw[cE] at e
   by_cases q:z=x
   ·replace e:=(if_pos q)▸e;cases e
   ·replace e:=(if_neg q)▸e;refine ah (V0.vars z d' e) λu h1 h2=>?_;exact au u (hz z u q (h1.keep k.kb)) (rep h2)
  owns:=λz ys e=>by
   rw[cE] at e
   by_cases q:z=x
   ·replace e:=(if_pos q)▸e;cases e;exact ji a vs n (by refine aa q ?_;simp[dP]) (q▸hv) (lst ha1) hlen newr
   ·replace e:=(if_neg q)▸e;refine fb (V0.owns z ys e) λc us n' h1 h2 h3 h4 h5=>?_;refine ji c us n' ?_ (hz z _ q (h2.keep k.kb)) (lst (k.kb c _ (λq=>nomatch q) rfl h3)) h4 (repL h5);have h6:(z==x)=false:=by simpa using q
    simp only[cX,h6];exact (mB q).trans h1
  ownP:=λz c h1=>by
   rcases ao.mp h1 with q|q
   ·cases q;intro hz;refine ah (V0.pin _ hz) λo e ζ=>?_;replace e:=ha0▸e;exact ab e
   ·exact V0.ownP z c (cQ q).1
  ownA:=λz y c h1 h2=>by
   rcases ao.mp h1 with q|q<;>rcases ao.mp h2 with q2|q2
   ·cases q;cases q2;rfl
   ·cases q;exact absurd rfl (oldne y _ (cQ q2).1)
   ·cases q2;exact absurd rfl (oldne z _ (cQ q).1)
   ·exact V0.ownA z y c (cQ q).1 (cQ q2).1
  ownF:=λz c h1=>by
   rcases ao.mp h1 with q|q
   ·cases q;exact⟨S0.fresh ha0,vs.toArray,n,lst ha1⟩
   ·obtain ⟨h2,its,n',h3⟩:=V.ownF z c (cQ q).1;exact⟨h2,its,n',lst h3⟩
  ownU:=λz c e h1 h2=>by
   rcases ao.mp h1 with q|q
   ·cases q;simp[dP] at h2;exact h2
   ·have h6:(z==x)=false:=by simpa using (cQ q).2
    simp only[cX,h6] at h2
    exact V0.ownU z c e (cQ q).1 (by refine aA (mB (cQ q).2) ?_;exact h2)}
end
noncomputable abbrev Ev {α:Type} (X:Cx) (A:aM) (s:ae) (t:bp α) (P:α->ae->Prop):Prop:=
 al (aq X.prog X.w) A t (λa s'=>ai X s'/\ag [] s s'/\P a s') (λζ ζ=>False) s
theorem Ev.mono {α:Type} {X A s} {t:bp α} {P P':α->ae->Prop} (h:Ev X A s t P) (hp:∀a s',ai X s'->ag [] s s'->P a s'->P' a s'):Ev X A s t P':=
 ax h (λa s' h_0=>aL h_0 λh1 h2 h3=>⟨h1,h2,hp a s' h1 h2 h3⟩) λζ ζ f=>f
theorem Ev.bind {α β:Type} {X A s} {t:bp α} {f:α->bp β} {P:α->ae->Prop} {P':β->ae->Prop} (h:Ev X A s t P) (hf:∀a s',ai X s'->ag [] s s'->P a s'->Ev X A s' (f a) P'):Ev X A s (t>>=f) P':=
 aj (ax h (λa s' h_1=>aL h_1 λh1 h2 h3=>ax (hf a s' h1 h2 h3) (λζ ζ h_2=>aL h_2 λk1 k2 k3=>⟨k1,h2.trans k2,k3⟩) λζ ζ f=>f) λζ ζ f=>f)
theorem Ev.holding {α:Type} {X A s vs} {t:bp α} {P:α->ae->Prop} (h:Ev X A s t P):Ev X A s (holding vs t) P:=dA h
theorem Ev.pure {α:Type} {X A s} {a:α} {P:α->ae->Prop} (S:ai X s) (h:P a s):Ev X A s (Pure.pure a:bp α) P:=aI ⟨S,ag.refl,h⟩
theorem Ev.at {X A s p} {P:Unit->ae->Prop} (S:ai X s) (h:P () s):Ev X A s (dR p) P:=dS ⟨S,ag.refl,h⟩
theorem PL (x y:Str):(x++y).length=x.length+y.length:=by refine (?_:(x.cps++y.cps).size=_);refine aa Array.size_append ?_;rfl
theorem dM {n:Nat} (h:aZ n=true):n<=sizeLine:=by have:n<=16777216:=vq h;exact this
section
variable {X:Cx} {A:aM} {s:ae} {W:List Addr}
set_option backward.match.sparseCases true in
theorem D3:∀(vs keep:List Value) (S:ai X s) {P:Unit->ae->Prop},P () s->Ev X A s (EP vs keep) P:=by
 intro vs keep S P h;unfold EP;generalize (vs.filter fun|.ref _=>true|_=>false)=l
 induction l with
 |nil=>exact Ev.pure S h
 |cons v r ih=>
  induction r using aF with
  |nil=>exact Ev.pure S h
  |cons u r=>exact Ev.bind (P:=λζ s'=>s'=s) (dA (yE ⟨S,ag.refl,rfl⟩)) λζ s' ζ ζ e=>by refine aa e ?_;exact ih
theorem xb {vs:List Value} {m:bp Value} {P:Value->ae->Prop} (h:Ev X A s m P):Ev X A s (vt vs m) P:=by unfold vt;refine Ev.bind (Ev.holding h) λv s' S' ζ hp=>?_;refine Ev.bind (D3 (P:=λζ s2=>s2=s') _ _ S' rfl) λζ s2 S2 ζ e=>?_;subst e;exact Ev.pure S2 hp
theorem IW {x y:Int} (h:(decide (cg x<=64)||decide (cg x+cg y<=1000000))=true):IntMulOk x y:=by
 unfold IntMulOk;intro q;simp only[bn,decide_eq_true_eq] at q;obtain ⟨⟨q1,q2⟩,q3⟩:=q;rcases Bool.or_eq_true_iff.mp h with h|h
 ·have:=of_decide_eq_true h;have e:shortFactorBits=64:=rfl;lia
 ·have h:=of_decide_eq_true h;unfold Xq at q3;have e:bitsLine=134217728:=rfl;simp only[e,decide_eq_true_eq] at q3;lia
theorem Ie {l b:Addr} {vs ws:List Value} {Q:Value->ae->Prop} {E:Value->ae->Prop} {prog:Program} {w:jo} (hl:s.heap.IsList l vs.toArray) (hb:s.heap.IsList b ws.toArray) (hsz:vs.length+ws.length<=sizeLine) (h:Q (.ref s.heap.objs.size) {s with heap:=s.heap.push {cls:=.type "list",data:=.seq (vs++ws).toArray}}):
  al (aq prog w) A (EQ .Add (.ref l) (.ref b)) Q E s:=by
 obtain ⟨⟨cls,dd,data,sl⟩,ho,hc,n,hd⟩:=id hl;obtain ⟨⟨cls2,dd2,data2,sl2⟩,ho2,hc2,n2,hd2⟩:=id hb;simp only at hc hd hc2 hd2;subst hc hd hc2 hd2;have e:vs.toArray++ws.toArray=(vs++ws).toArray:=by simp
 refine concat_meets ⟨_,ho,rfl⟩ ⟨_,ho2,rfl⟩ noFill_list_add seq_list_add Xr Xs (Xu _ _) (list_addW l b vs.toArray ws.toArray n n2 dd dd2 sl sl2 (by simpa using hsz)) ⟨ho,ho2,?_⟩;refine aa e ?_;exact h
theorem DM {h:aP} {its:Array Value}:(h.push {cls:=.type "tuple",data:=.seq its}).IsTuple h.objs.size its:=⟨_,dT _ rfl,rfl,_,rfl⟩
theorem bz {h:aP} {o:d5}:∀b o',h.get? b=some o'->(h.push o).get? b=some o':=λζ ζ e=>gS _ e
noncomputable def b8 (W:List Addr) (h:aP):Prop:=∀b∈W,∃o,h.get? b=some o/\cG o=false
theorem b8.new {W h} (w:b8 W h):h.objs.size∉W:=λq=>by refine ah (w _ q) λo e ζ=>?_;replace e:=d9▸e;exact ab e
theorem b8.step {W s s' gm} (w:b8 W s.heap) (k:jX [] gm s s'):b8 W s'.heap:=λb hb=>ah (w b hb) λo e ht=>⟨o,k.kb b o (λq=>nomatch q) ht e,ht⟩
theorem rG {vs:List Value} {ds:List PV} (w:b8 W s.heap) (r:ar W s.heap ds vs) (hl:vs.length<=sizeLine):am W (s.heap.push {cls:=.type "list",data:=.seq vs.toArray}) (.list ds) (.ref s.heap.objs.size):=by skip;exact iE _ vs rfl w.new ⟨_,dT _ rfl⟩ hl (r.keep (Kb.of_keep bz))
theorem Cq {vs:List Value} {ds:List PV} (w:b8 W s.heap) (r:ar W s.heap ds vs) (hl:vs.length<=sizeLine):am W (s.heap.push {cls:=.type "tuple",data:=.seq vs.toArray}) (.tup ds) (.ref s.heap.objs.size):=by skip;exact iE _ vs rfl w.new DM hl (r.keep (Kb.of_keep bz))
theorem LY {x y:Int} (h:x.natAbs<2^60):UQ x y=false:=by
 unfold UQ;have h2:(if (x==0)=true then 0 else x.natAbs.log2/30+1)<=3:=by
  split
  ·exact iY _
  ·rename_i hx;have:x.natAbs≠0:=by intro q;apply hx;have:=Int.natAbs_eq_zero.mp q;simp[this]
   have:=(Nat.log2_lt this).mpr h;exact Ko this
 simp only[Bool.and_eq_false_iff,decide_eq_false_iff_not];right;exact Ij h2
theorem OO {x:Str} {n:Int} (h:aZ (x.length*n.toNat)=true) (h1:n<16777216) (h2: -16777216<n) (hx:x.length<=sizeLine):MulOk x n:=by
 have h0:=dM h;have e:sizeLine=16777216:=rfl;refine dX (by simp only[ER,decide_eq_false_iff_not];lia) (λhn ζ=>?_) (λζ ζ=>?_)
 ·have h3:(0:Int)<n:=by lia
  have h4:((16777216:Int))<=(2^63 - 1)/n:=by rw[Int.le_ediv_iff_mul_le h3];lia
  exact Jo hx e h4
 ·unfold UR;simp only[decide_eq_false_iff_not];exact US.mpr (by assumption)
theorem GL {x:Str} {n:Int}:(vf x n).length<=x.length*n.toNat:=by
 have h:=len_mul x n
 by_cases hn:n<0
 ·simp only[hn,decide_true,if_true] at h;have:(vf x n).length=0:=T7 h;exact Pe h
 ·simp only[hn,decide_false,dp,if_false] at h;have e:((x.length*n.toNat:Nat):Int)=(x.length:Int)*n:=by rw[yF,vv (fX.mp (by assumption))]
  exact Oy h e
theorem yq {W:List Addr} {h:aP} {xs:List PV} {vs:List Value} (r:ar W h xs vs):∀n:Nat,ar W h (bJ n xs).flatten (bJ n vs).flatten
 |0=>rfl
 |n+1=>by refine aa iZ (aa iZ (aa gT (aa gT ?_)));exact r.append (yq r n)
theorem Bx {α:Type} {vs:List α} {n:Nat}:(bJ n vs).flatten.length=vs.length*n:=by simp[UT]
theorem zC {prog:Program} {w:jo} {E:Value->ae->Prop} {l:Addr} {vs:List Value} {x:Int} {u:cJ} {Q:Value->ae->Prop} (hl:s.heap.IsList l vs.toArray) (hlo: -16777216<x) (hhi:x<16777216) (hsz:vs.length*x.toNat<=sizeLine) (h:Q (.ref s.heap.objs.size) {s with heap:=s.heap.push {cls:=.type "list",data:=.seq ((bJ x.toNat vs).flatten).toArray}}):al (aq prog w) A (EQ .Mult (.ref l) (.int x u)) Q E s:=by
 obtain ⟨⟨cls,d,data,sl⟩,ho,hcl,k,hd⟩:=id hl;simp only at hcl hd;subst hcl hd;have hsz':vs.toArray.size*x.toNat<=16777216:=by simpa [sizeLine] using hsz
 refine wpAny_binaryOp_repeat_ref (T:= "list") (U:= "int") (by decide) ⟨_,ho,rfl⟩ (λs'=>yG s' x u) noFill_list_mul F.fills_int_mul UU repeat_list F.slot_int_index.lookup
  (kI UU (yG s x u) F.entry_int_rmul (F.args_int_rmul_2 _ _) (lm_int_rmul_list_any x u l vs.toArray k d sl)
   ⟨ho,rfl,⟨_,ho,rfl⟩,kI F.slot_list_mul ⟨_,ho,rfl⟩ F.entry_list_mul (F.args_list_mul_2 _ _)
    (lm_list_mul_any l vs.toArray k d sl x u (by simp[UV];exact Jy hlo hhi) (by lia) (by simp[ES,sizeLine];simpa using hsz'))
    ⟨ho,?_⟩⟩)
 rw[listMul_foldl_if];exact h
theorem Lj {op:kE} {a b d:PV} {va vb:Value} (S:ai X s) (R:aK A 1) (w:b8 W s.heap) (ra:am W s.heap a va) (rb:am W s.heap b vb) (h:bU op a b=some d):Ev X A s (EQ op va vb) (λv s'=>am W s'.heap d v):=by
 induction op using UW with
 |Add=>
  induction a using PV.casesOn with
  |int x=>
   induction b using PV.casesOn with
   |int y=>obtain ⟨t,rfl⟩:=ra;obtain ⟨u,rfl⟩:=rb;have h:=ak h;subst h;exact add_int ⟨S.tok,ag.toks,⟨_,rfl⟩⟩
   |_=>exact ab h
  |str x=>
   induction b using PV.casesOn with
   |str y=>obtain ⟨⟨t,rfl⟩,_⟩:=ra;obtain ⟨⟨u,rfl⟩,_⟩:=rb;delta bU at h;dsimp only at h;refine ifs h λhlen h=>?_;have h:=ak h;subst h;exact add_str (λt' tk=>⟨S.tok,ag.toks,⟨_,rfl⟩,by rw[PL];exact dM hlen⟩) (dM hlen)
   |_=>exact ab h
  |list xs=>
   induction b using PV.casesOn with
   |list ys=>
    obtain ⟨l,vs,rfl,_,hl,_,rl⟩:=ra;obtain ⟨l',ws,rfl,_,hl',_,rl'⟩:=rb;delta bU at h;dsimp only at h;refine ifs h λhlen h=>?_;have h:=ak h;subst h;have hz:vs.length+ws.length<=sizeLine:=by refine aa rl.length (aa rl'.length ?_);exact dM hlen
    exact Ie hl.isList hl'.isList hz ⟨S.keep bz,ag.keep bz,rG w (rl.append rl') (by refine aa cm ?_;exact hz)⟩
   |_=>exact ab h
  |_=>exact ab h
 |Sub=>
  induction a using PV.casesOn with
  |int x=>
   induction b using PV.casesOn with
   |int y=>obtain ⟨t,rfl⟩:=ra;obtain ⟨u,rfl⟩:=rb;have h:=ak h;subst h;exact sub_int ⟨S.tok,ag.toks,⟨_,rfl⟩⟩
   |_=>exact ab h
  |_=>exact ab h
 |Mult=>
  induction a using PV.casesOn with
  |int x=>
   induction b using PV.casesOn with
   |int y=>obtain ⟨t,rfl⟩:=ra;obtain ⟨u,rfl⟩:=rb;delta bU at h;dsimp only at h;refine ifs h λhok h=>?_;have h:=ak h;subst h;exact mul_int ⟨S.tok,ag.toks,⟨_,rfl⟩⟩ (IW hok)
   |_=>exact ab h
  |str x=>
   induction b using PV.casesOn with
   |int y=>obtain ⟨⟨t,rfl⟩,hx⟩:=ra;obtain ⟨u,rfl⟩:=rb;delta bU at h;dsimp only at h;refine ifs h λhok h=>?_;have h:=ak h;subst h;simp only[bn,decide_eq_true_eq] at hok;exact SB.mul (OO hok.1.1 hok.1.2 hok.2 hx) λt' k=>⟨S.tok,ag.toks,⟨_,rfl⟩,aB GL (dM hok.1.1)⟩
   |_=>exact ab h
  |list xs=>
   induction b using PV.casesOn with
   |int y=>obtain ⟨l,vs,rfl,hl1,hl,hlen,rl⟩:=ra;obtain ⟨u,rfl⟩:=rb;delta bU at h;dsimp only at h;refine ifs h λhok h=>?_;have h:=ak h;subst h;simp only[bn,decide_eq_true_eq] at hok;have hz:=dM hok.2;replace hz:=(c5 rl.length)▸hz;exact zC hl.isList hok.1.2 hok.1.1 hz ⟨S.keep bz,ag.keep bz,rG w (yq rl _) (by refine aa Bx ?_;exact hz)⟩
   |_=>exact ab h
  |_=>exact ab h
 |FloorDiv=>
  induction a using PV.casesOn with
  |int x=>
   induction b using PV.casesOn with
   |int y=>obtain ⟨t,rfl⟩:=ra;obtain ⟨u,rfl⟩:=rb;delta bU at h;dsimp only at h;refine ifs h λhok h=>?_;have h:=ak h;subst h;simp only[bn,decide_eq_true_eq,bne_iff_ne,ne_eq] at hok;exact floordiv_int hok.1 ⟨S.tok,ag.toks,⟨_,rfl⟩⟩ (.inl (LY hok.2))
   |_=>exact ab h
  |_=>exact ab h
 |Mod=>
  induction a using PV.casesOn with
  |int x=>
   induction b using PV.casesOn with
   |int y=>obtain ⟨t,rfl⟩:=ra;obtain ⟨u,rfl⟩:=rb;delta bU at h;dsimp only at h;refine ifs h λhok h=>?_;have h:=ak h;subst h;simp only[bne_iff_ne,ne_eq] at hok;exact mod_int' hok ⟨S.tok,ag.toks,⟨_,rfl⟩⟩
   |_=>exact ab h
  |_=>exact ab h
 |Pow=>
  induction a using PV.casesOn with
  |int x=>
   induction b using PV.casesOn with
   |int y=>obtain ⟨t,rfl⟩:=ra;obtain ⟨u,rfl⟩:=rb;delta bU at h;dsimp only at h;refine ifs h λhok h=>?_;have h:=ak h;subst h;simp only[bn,decide_eq_true_eq] at hok;exact pow_int hok.1 hok.2 ⟨S.tok,ag.toks,⟨_,rfl⟩⟩
   |_=>exact ab h
  |_=>exact ab h
 |LShift=>
  induction a using PV.casesOn with
  |int x=>
   induction b using PV.casesOn with
   |int y=>obtain ⟨t,rfl⟩:=ra;obtain ⟨u,rfl⟩:=rb;delta bU at h;dsimp only at h;refine ifs h λhok h=>?_;have h:=ak h;subst h;simp only[bn,decide_eq_true_eq] at hok;exact lshift_int_or R.hh (λq=>absurd hok.1 (Int.not_le.mpr (by assumption))) (λζ=>hok.2) λζ=>⟨S.tok,ag.toks,⟨_,rfl⟩⟩
   |_=>exact ab h
  |_=>exact ab h
 |BitAnd=>
  induction a using PV.casesOn with
  |int x=>
   induction b using PV.casesOn with
   |int y=>obtain ⟨t,rfl⟩:=ra;obtain ⟨u,rfl⟩:=rb;have h:=ak h;subst h;exact and_int ⟨S.tok,ag.toks,⟨_,rfl⟩⟩
   |_=>exact ab h
  |_=>exact ab h
 |BitXor=>
  induction a using PV.casesOn with
  |int x=>
   induction b using PV.casesOn with
   |int y=>obtain ⟨t,rfl⟩:=ra;obtain ⟨u,rfl⟩:=rb;have h:=ak h;subst h;exact xor_int ⟨S.tok,ag.toks,⟨_,rfl⟩⟩
   |_=>exact ab h
  |_=>exact ab h
 |RShift=>
  induction a using PV.casesOn with
  |int x=>
   induction b using PV.casesOn with
   |int y=>
    obtain ⟨t,rfl⟩:=ra;obtain ⟨u,rfl⟩:=rb;delta bU at h;dsimp only at h;refine ifs h λhok h=>?_;have h:=ak h;subst h;simp only[decide_eq_true_eq] at hok
    split
    ·rename_i hb;exact Xv (fX.mpr (by assumption)) hb ⟨S.tok,ag.toks,⟨_,rfl⟩⟩
    ·rename_i hb;exact Xw (fX.mpr (by assumption)) hb ⟨S.tok,ag.toks,⟨_,rfl⟩⟩
   |_=>exact ab h
  |_=>exact ab h
 |_=>exact ab h
end
mutual
noncomputable def eB:PV->Dat
 |.int i=>.int i
 |.list xs=>.list (lc xs)
 |_=>.none
noncomputable def lc:List PV->List Dat
 |[]=>[]
 |x::xs=>eB x::lc xs
end
theorem l0 {n:Nat} {d:PV} {G:Prop} (h:dk n d=true) (a:∀i,d=.int i->G) (b:∀m xs,n=m+1->d=.list xs->(∀x∈xs,dk m x=true)->G):G:=by
 induction n using dq with
 |zero=>induction d using PV.casesOn with
  |int i=>exact a i rfl
  |_=>exact aU h
 |succ m=>induction d using PV.casesOn with
  |int i=>exact a i rfl
  |list xs=>exact b m xs rfl rfl (dG.mp h)
  |_=>exact aU h
theorem Ol {W:List Addr} {h:aP}:∀(ds:List PV) (vs:List Value),(∀d∈ds,∀v,am W h d v->∃as,Reads h v (sj (eB d)) as)->ar W h ds vs->∃as,ReadsAll h vs (kqdPs (lc ds)) as:=by
 intro ds
 induction ds with
 |nil=>intro vs H r;subst (r:vs=[]);exact⟨_,Xx⟩
 |cons d ds ih=>intro vs H r;exact bw r λv u e h1 h2=>ay (H d (.head _) v h1) λas q=>ay (ih u (λx hx=>H x (.tail _ hx)) h2) λbs p=>⟨_,e▸Xy q p⟩
theorem sX {W:List Addr} {h:aP} (n:Nat):∀(d:PV) (v:Value),am W h d v->dk n d=true->∃as,Reads h v (sj (eB d)) as:=by
 have hi:∀i v,am W h (.int i) v->∃as,Reads h v (sj (eB (.int i))) as:=λi v r=>ay r λt e=>⟨_,e▸Reads.int i t⟩
 induction n with
 |zero=>exact λd v r hk=>l0 hk (λi e=>by subst e;exact hi i v r) λm xs e=>nomatch e
 |succ n ih=>intro d v r hk;refine l0 hk (λi e=>by subst e;exact hi i v r) λm xs e0 e1 hx=>?_;subst e1;have e0:=lx e0;subst e0;refine eQ r λa vs e2_ ζ hl ζ rr=>?_;subst e2_;refine ay hl λk ho=>?_;exact ay (Ol xs vs (λd hd v r=>ih d v r (hx d hd)) rr) λas q=>⟨_,reads_list_at ho rfl rfl q⟩
theorem CG:∀{ds:List PV} {x:Dat},x∈lc ds->∃d∈ds,x=eB d
 |[],_,h=>nomatch h
 |d::ds,x,h=>(ao.mp (show x∈eB d::lc ds from h)).elim (λq=>⟨d,.head _,q⟩) λh=>ah (CG h) λe he q=>⟨e,.tail _ he,q⟩
theorem wt (n:Nat):∀(d:PV),dk n d=true->kqdOk n (eB d)=true:=by
 induction n with
 |zero=>exact λd h=>l0 h (λi e=>by subst e;rfl) λm xs e=>nomatch e
 |succ n ih=>refine λd h=>l0 h (λi e=>by subst e;rfl) λm xs e0 e1 hx=>?_;subst e1;have e0:=lx e0;subst e0;exact dG.mpr λx hx'=>ah (CG hx') λe he q=>q▸ih e (hx e he)
theorem Q3 {a b:Dat} {u v:List Dat} (h:a::u=b::v):a=b/\u=v:=by injection h;exact⟨‹_›,‹_›⟩
theorem KS {u v:List Dat} (h:UX u=.list v):u=v:=by injection h
theorem JD {u v:Int} (h:UY u=.int v):u=v:=by injection h
theorem Pz:∀(ds es:List PV),(∀d∈ds,∀e∈es,(rT d e=true↔eB d=eB e))->(ko ds es=true↔lc ds=lc es):=by
 intro ds
 induction ds with
 |nil=>intro es h;induction es using aF with
  |nil=>exact⟨λζ=>rfl,λζ=>rfl⟩
  |cons e es=>exact⟨aU,λh=>nomatch h⟩
 |cons d ds ih=>intro es h;induction es using aF with
  |nil=>exact⟨aU,λh=>nomatch h⟩
  |cons e es=>have q1:=h d (.head _) e (.head _);have q2:=ih es λx hx y hy=>h x (.tail _ hx) y (.tail _ hy);exact⟨λh=>jE h λa b=>by refine (?_:eB d::lc ds=eB e::lc es);rw[q1.mp a,q2.mp b],λh=>bf (Q3 h) λa b=>od.mpr ⟨q1.mpr a,q2.mpr b⟩⟩
theorem RK (n:Nat):∀(k:Nat) (d e:PV),dk n d=true->dk k e=true->(rT d e=true↔eB d=eB e):=by
 have hi:∀k i e,dk k e=true->(rT (.int i) e=true↔eB (.int i)=eB e):=λk i e h=>l0 h (λj q=>by subst q;exact⟨λh=>congrArg UY (bc h),λh=>beq_iff_eq.mpr (JD h)⟩) λm ys ζ q ζ=>by subst q;exact⟨aU,λh=>nomatch h⟩
 induction n with
 |zero=>exact λk d e h1 h2=>l0 h1 (λi q=>by subst q;exact hi k i e h2) λm xs q=>nomatch q
 |succ n ih=>intro k d e h1 h2;refine l0 h1 (λi q=>by subst q;exact hi k i e h2) λm xs e0 q hx=>?_;subst q;have e0:=lx e0;subst e0;refine l0 h2 (λj q=>by subst q;exact⟨aU,λh=>nomatch h⟩) λm' ys ζ q hy=>?_;subst q;have q:=Pz xs ys λd hd e he=>ih m' d e (hx d hd) (hy e he);exact⟨λh=>congrArg UX (q.mp h),λh=>q.mpr (KS h)⟩
theorem DE {n k:Nat} {d e:PV} (h1:dk n d=true) (h2:dk k e=true):PyData.eqv (sj (eB d)) (sj (eB e))=rT d e:=by have q:=kqd_eqv n (eB d) (eB e) k (wt n d h1) (wt k e h2);have p:=RK n k d e h1 h2;rw[vw,q,p]
theorem uI {d:PV} (h:dk 4 d=true):UZ (sj (eB d))=true:=by have q:=kqd_lay 4 (eB d) (wt 4 d h);unfold UZ;refine aa q.1 ?_;rw[ET];exact decide_eq_true (aB q.2 (by decide))
section
variable {X:Cx} {A:aM} {s:ae} {W W':List Addr}
theorem KR {xs ys:List PV} {va vb:Value} (S:ai X s) (R:aK A 2) (ra:am W s.heap (.list xs) va) (rb:am W' s.heap (.list ys) vb) (h1:xs.all (dk 3)=true) (h2:ys.all (dk 3)=true):Ev X A s (lB .Eq va vb) (λv ζ=>v=.bool (ko xs ys)):=by have i1:dk 4 (.list xs)=true:=h1;have i2:dk 4 (.list ys)=true:=h2;refine ay (sX 4 _ _ ra i1) λas qa=>?_;refine ay (sX 4 _ _ rb i2) λbs qb=>?_;refine eq_dataH qa qb (uI i1) (uI i2) (by have:=R.u;refine (?_:A.units+64<9900);exact CU this) ⟨S,ag.refl,?_⟩;refine aa (DE i1 i2) ?_;rfl
theorem P7 {xs ys:List PV} {va vb:Value} (S:ai X s) (R:aK A 2) (ra:am W s.heap (.list xs) va) (rb:am W' s.heap (.list ys) vb) (h1:xs.all (dk 3)=true) (h2:ys.all (dk 3)=true):Ev X A s (lB .NotEq va vb) (λv ζ=>v=.bool (!ko xs ys)):=by have i1:dk 4 (.list xs)=true:=h1;have i2:dk 4 (.list ys)=true:=h2;refine ay (sX 4 _ _ ra i1) λas qa=>?_;refine ay (sX 4 _ _ rb i2) λbs qb=>?_;refine ne_dataH qa qb (uI i1) (uI i2) (by have:=R.u;refine (?_:A.units+64<9900);exact CU this) ⟨S,ag.refl,?_⟩;refine aa (DE i1 i2) ?_;rfl
theorem CC {a b:PV} {va vb:Value} {c:Bool} (S:ai X s) (R:aK A 2) (ra:am W s.heap a va) (rb:am W' s.heap b vb) (h:sW a b=some c):Ev X A s (lB .Eq va vb) (λv ζ=>v=.bool c)/\Ev X A s (lB .NotEq va vb) (λv ζ=>v=.bool (!c)):=by
 induction a using PV.casesOn with
 |int=>
  induction b using PV.casesOn with
  |int=>have h:=ak h;subst h;obtain ⟨t,rfl⟩:=ra;obtain ⟨u,rfl⟩:=rb;exact⟨eq_int ⟨S,ag.refl,rfl⟩,ne_int ⟨S,ag.refl,rfl⟩⟩
  |_=>exact ab h
 |str=>
  induction b using PV.casesOn with
  |str=>have h:=ak h;subst h;obtain ⟨⟨t,rfl⟩,_⟩:=ra;obtain ⟨⟨u,rfl⟩,_⟩:=rb;exact⟨eq_str ⟨S,ag.refl,rfl⟩,ne_str ⟨S,ag.refl,rfl⟩⟩
  |_=>exact ab h
 |list xs=>
  induction b using PV.casesOn with
  |list ys=>
  have h:(if (xs.all (dk 3)&&ys.all (dk 3))=true then some (ko xs ys) else Option.none)=some c:=h
  by_cases hk:(xs.all (dk 3)&&ys.all (dk 3))=true
  ·replace h:=(if_pos hk)▸h;have h:=ak h;subst h;simp only[bn] at hk;exact⟨KR S R ra rb hk.1 hk.2,P7 S R ra rb hk.1 hk.2⟩
  ·replace h:=(if_neg hk)▸h;exact ab h
  |_=>exact ab h
 |_=>exact ab h
theorem Ar {a b:PV} {va vb:Value} {c:Bool} (S:ai X s) (ra:am W s.heap a va) (rb:am W' s.heap b vb) (h:te a b=some c):Ev X A s (lB .Is va vb) (λv ζ=>v=.bool c)/\Ev X A s (lB .IsNot va vb) (λv ζ=>v=.bool (!c)):=by
 have pl:∀{x y:Value} {c},plainIs x y=true->(x==y)=c->Ev X A s (lB .Is x y) (λv ζ=>v=.bool c)/\Ev X A s (lB .IsNot x y) (λv ζ=>v=.bool (!c)):=λhp he=>
  ⟨wpAny_is_plain hp ⟨S,ag.refl,aa he rfl⟩,wpAny_isNot_plain hp ⟨S,ag.refl,aa he rfl⟩⟩
 induction a using PV.casesOn with
 |none=>
  have ra:va=.none:=ra
  induction b using PV.casesOn with
  |none=>have rb:vb=.none:=rb;have h:=ak h;subst ra rb h;exact pl rfl rfl
  |bool y=>have rb:vb=.bool y:=rb;have h:=ak h;subst ra rb h;exact pl rfl rfl
  |_=>exact ab h
 |bool x=>
  have ra:va=.bool x:=ra
  induction b using PV.casesOn with
  |none=>have rb:vb=.none:=rb;have h:=ak h;subst ra rb h;exact pl rfl rfl
  |bool y=>
   have rb:vb=.bool y:=rb;have h:=ak h;subst ra rb h;refine pl rfl ?_
   induction x using dF<;>induction y using dF<;>rfl
  |_=>exact ab h
 |int x=>
  induction b using PV.casesOn with
  |none=>have rb:vb=.none:=rb;have h:=ak h;obtain ⟨t,rfl⟩:=ra;subst rb h;exact pl rfl rfl
  |_=>exact ab h
 |str x=>
  induction b using PV.casesOn with
  |none=>have rb:vb=.none:=rb;have h:=ak h;obtain ⟨⟨t,rfl⟩,_⟩:=ra;subst rb h;exact pl rfl rfl
  |_=>exact ab h
 |list x=>
  induction b using PV.casesOn with
  |none=>have rb:vb=.none:=rb;have h:=ak h;obtain ⟨l,_,rfl,_⟩:=ra;subst rb h;exact pl rfl rfl
  |_=>exact ab h
 |tup x=>
  induction b using PV.casesOn with
  |none=>have rb:vb=.none:=rb;have h:=ak h;obtain ⟨l,_,rfl,_⟩:=ra;subst rb h;exact pl rfl rfl
  |_=>exact ab h
theorem Ci {op:nZ} {a b:PV} {va vb:Value} {c:Bool} (S:ai X s) (R:aK A 2) (ra:am W s.heap a va) (rb:am W' s.heap b vb) (h:iA op a b=some c):Ev X A s (lB op va vb) (λv ζ=>v=.bool c):=by
 induction op using CmpOp.casesOn with
 |Eq=>exact (CC S R ra rb h).1
 |NotEq=>refine ah (gA.mp (show (sW a b).map (!·)=some c from h)) λc' q e2_=>?_;subst e2_;exact (CC S R ra rb q).2
 |Lt=>
  induction a using PV.casesOn with
  |int x=>
   induction b using PV.casesOn with
   |int y=>obtain ⟨t,rfl⟩:=ra;obtain ⟨u,rfl⟩:=rb;have h:=ak h;subst h;exact lt_int ⟨S,ag.refl,rfl⟩
   |_=>exact ab h
  |_=>exact ab h
 |LtE=>
  induction a using PV.casesOn with
  |int x=>
   induction b using PV.casesOn with
   |int y=>obtain ⟨t,rfl⟩:=ra;obtain ⟨u,rfl⟩:=rb;have h:=ak h;subst h;exact le_int ⟨S,ag.refl,rfl⟩
   |_=>exact ab h
  |_=>exact ab h
 |Gt=>
  induction a using PV.casesOn with
  |int x=>
   induction b using PV.casesOn with
   |int y=>obtain ⟨t,rfl⟩:=ra;obtain ⟨u,rfl⟩:=rb;have h:=ak h;subst h;exact gt_int ⟨S,ag.refl,rfl⟩
   |_=>exact ab h
  |_=>exact ab h
 |GtE=>
  induction a using PV.casesOn with
  |int x=>
   induction b using PV.casesOn with
   |int y=>obtain ⟨t,rfl⟩:=ra;obtain ⟨u,rfl⟩:=rb;have h:=ak h;subst h;exact ge_int ⟨S,ag.refl,rfl⟩
   |_=>exact ab h
  |_=>exact ab h
 |Is=>exact (Ar S ra rb h).1
 |IsNot=>refine ah (gA.mp (show (te a b).map (!·)=some c from h)) λc' q e2_=>?_;subst e2_;exact (Ar S ra rb q).2
 |In=>
  induction a using PV.casesOn with
  |str x=>
   induction b using PV.casesOn with
   |str y=>obtain ⟨⟨t,rfl⟩,_⟩:=ra;obtain ⟨⟨u,rfl⟩,_⟩:=rb;have h:=ak h;subst h;exact SB.contains ⟨S,ag.refl,rfl⟩
   |_=>exact ab h
  |_=>exact ab h
 |NotIn=>
  induction a using PV.casesOn with
  |str x=>
   induction b using PV.casesOn with
   |str y=>obtain ⟨⟨t,rfl⟩,_⟩:=ra;obtain ⟨⟨u,rfl⟩,_⟩:=rb;have h:=ak h;subst h;exact SB.notContains ⟨S,ag.refl,rfl⟩
   |_=>exact ab h
  |_=>exact ab h
theorem El {h:aP} {xs:List PV} {vs:List Value} (r:ar W h xs vs):(!vs.toArray.isEmpty)= !xs.isEmpty:=by
 have:=r.length
 induction vs using aF<;>induction xs using aF<;>simp_all
theorem vW {d:PV} {v:Value} {c:Bool} (S:ai X s) (r:am W s.heap d v) (h:eO d=some c):Ev X A s (truthy v) (λb ζ=>b=c):=by
 have e:sizeLine=16777216:=rfl
 induction d using PV.casesOn with
 |none=>have h:=ak h;subst h;subst (r:_=_);exact truthy_none ⟨S,ag.refl,rfl⟩
 |bool x=>have h:=ak h;subst h;subst (r:_=_);exact aI ⟨S,ag.refl,rfl⟩
 |int x=>have h:=ak h;subst h;exact ay r λt e=>e▸truthy_int ⟨S,ag.refl,rfl⟩
 |str x=>
  have h:=ak h;subst h;refine bf r λr hl=>ay r λt e=>?_;subst e;refine SBL.truthy (mH (ij.mpr (by assumption)) (by decide)) ⟨S.tok,ag.toks,?_⟩
  by_cases q:x.length=0
  ·refine aa q ?_;rfl
  ·have h1:(x.length != 0)=true:=bne_iff_ne.mpr q;have h2:((x.length:Int) != 0)=true:=bne_iff_ne.mpr (Ma q);exact aa h1 (aa h2 rfl)
 |list xs=>have h:=ak h;subst h;refine eQ r λa vs e2_ ζ hl hn rr=>?_;clear r;subst e2_;refine wpAny_truthy_list hl.isList (by simp;exact mH (ij.mpr (by assumption)) (by decide)) ⟨S.tok,ag.toks,?_⟩;exact El rr
 |tup xs=>have h:=ak h;subst h;refine eQ r λa vs e2_ ζ hl hn rr=>?_;clear r;subst e2_;refine truthy_tuple hl (by simp;exact mH (ij.mpr (by assumption)) (by decide)) ⟨S.tok,ag.toks,?_⟩;exact El rr
end
section
variable {X:Cx} {A:aM} {s:ae} {W:List Addr}
theorem w6 {i:Int} {n j:Nat} (h:iW i n=some j):j<n/\((0<=i/\j=i.toNat)\/(i<0/\ -(n:Int)<=i/\j=(i+n).toNat)):=by
 unfold iW at h
 by_cases hi:i<0
 ·simp only[hi,if_true] at h;refine ifs h λq h=>?_;have h_:=ak h;clear h;subst h_;simp only[bn,decide_eq_true_eq] at q;refine⟨QX hi q,.inr ⟨hi,Kq hi q,rfl⟩⟩
 ·simp only[hi,if_false] at h;refine ifs h λq h=>?_;have h_:=ak h;clear h;subst h_;simp only[bn,decide_eq_true_eq] at q;exact⟨Pa hi q,.inl ⟨q.1,rfl⟩⟩
theorem RN {a k d:PV} {va vk:Value} (S:ai X s) (ra:am W s.heap a va) (rk:am W s.heap k vk) (h:fL a k=some d):Ev X A s (sk va vk) (λv s'=>am W s'.heap d v):=by
 have e:sizeLine=16777216:=rfl
 induction k using PV.casesOn with
 |int i=>
  induction a using PV.casesOn with
  |list xs=>
  obtain ⟨l,vs,rfl,_,hl,hn,rr⟩:=ra;obtain ⟨t,rfl⟩:=rk;refine ah (EU.mp h) λj hj hd=>?_;refine ah (rr.get hd) λv hv rv=>?_;have hlen:=rr.length;refine bf (w6 hj) λhjn hc=>?_;rcases hc with ⟨h0,hje⟩|⟨h0,h1,hje⟩
  ·refine wpAny_getItem_list hl.isList h0 (by lia) (x:=v) ?_ ⟨S,ag.refl,rv⟩;refine aA hje ?_;simpa using hv
  ·refine wpAny_getItem_list_neg hl.isList h0 (by simp;exact Ps hlen h1) (by lia) (x:=v) ?_ ⟨S,ag.refl,rv⟩;have:(i+(vs.toArray.size:Nat)).toNat=j:=by refine aa hje ?_;simp[hlen]
   refine aa this ?_;simpa using hv
  |tup xs=>obtain ⟨l,vs,rfl,_,hl,hn,rr⟩:=ra;obtain ⟨t,rfl⟩:=rk;refine ah (EU.mp h) λj hj hd=>?_;refine ah (rr.get hd) λv hv rv=>?_;have hlen:=rr.length;refine bf (w6 hj) λhjn hc=>?_;refine getItem_tuple hl (by omega) (by omega) (j:=j) (x:=v) (by simpa [hlen] using hj) (by simpa using hv) ⟨S,ag.refl,rv⟩
  |str x=>obtain ⟨⟨u,rfl⟩,hx⟩:=ra;obtain ⟨t,rfl⟩:=rk;refine ah (gA.mp h) λc hc e2_=>?_;subst e2_;refine ah (EU.mp hc) λj hj ζ=>?_;refine bf (w6 hj) λhjn hcc=>?_;refine Xz (c:=c) (by simp only[ER,decide_eq_false_iff_not];omega) hc ⟨S.tok,ag.toks,⟨_,rfl⟩,?_⟩;refine (?_:1<=sizeLine);decide
  |_=>exact ab h
 |_=>induction a using PV.casesOn<;>exact ab h
theorem Bu {α:Type}:∀{b:Nat} {vs:List α},b<=vs.length->(bF b).filterMap (λk=>vs[k]?)=vs.take b
 |0,vs,_=>by simp
 |b+1,[],h=>by simp at h
 |b+1,v::vs,h=>by refine aa U0 (aa lz ?_);simp only[List.getElem?_cons_zero,EV,EW];rw[<- Bu (b:=b) (vs:=vs) (U1 h)];rfl
theorem Pp {sl:Addr} {b n:Nat} {u:cJ} {Q:Int×Int×Nat->ae->Prop} {E:Value->ae->Prop} (hs:s.heap.IsSliceOf sl .none (.int b u) .none) (hb:b<=n) (h:Q (0,1,b) s):al (aq X.prog X.w) A (U2 (.ref sl) (pure (n:Int))) Q E s:=by
 refine bo (id hs) λos hos hcs hds=>?_;unfold U2 XA;refine aj (aj (ir hos hds (x:=.none) rfl (aj (ir hos hds (x:=.int b u) rfl (aj (ir hos hds (x:=.none) rfl (aI ?_)))))));refine aj (U3 ?_);refine (?_:al _ _ (if ((1:Int)==0)=true then _ else _) _ _ s);rw[if_neg (by decide)];refine aj (U3 (aj (slicePart_int (aj (aI ?_)))));refine (?_:al _ _ (match EX none (some (b:Int)) 1 (n:Int) with|(lo,hi)=>pure (lo,(1:Int),yH lo hi 1)) _ _ s);have e1:EX none (some (b:Int)) 1 (n:Int)=((0:Int),(b:Int)):=by unfold EX;have h1:¬ ((1:Int)<0):=fX.mpr (c8 _);have h2:¬ ((b:Int)<0):=fX.mpr (c8 _);simp only[h1,h2,if_false];congr 1;exact Hk hb
 refine aa e1 ?_;refine (?_:al _ _ (pure ((0:Int),(1:Int),yH (0:Int) (b:Int) 1)) _ _ s);have e2:yH (0:Int) (b:Int) 1=b:=by
  unfold yH;have h1:(1:Int)>0:=by decide
  simp only[h1,if_true,U4]
  split<;>lia
 refine aa e2 ?_;exact aI h
theorem Ua {t sl:Addr} {vs:List Value} {b:Nat} {u:cJ} {Q:Value->ae->Prop} {E:Value->ae->Prop} (ht:s.heap.IsTuple t vs.toArray) (hs:s.heap.IsSliceOf sl .none (.int b u) .none) (hb:b<=vs.length) (h1:b=vs.length->Q (.ref t) s) (h2:Q (.ref s.heap.objs.size) {s with heap:=s.heap.push {cls:=.type "tuple",data:=.seq (vs.take b).toArray}})
  (hsz:vs.length<=sizeLine):al (aq X.prog X.w) A (sk (.ref t) (.ref sl)) Q E s:=by
 have htake:sizeOk (.seq (vs.take b).toArray):=by refine (?_:(vs.take b).toArray.size<=sizeLine);refine aa yI (aa fJ ?_);exact PF hb hsz
 refine bo (id hs) λos hos hcs hds=>?_;have hTs:s.TypeIs (.ref sl) "slice" :=⟨os,hos,hcs⟩
 have htt:XB s.heap t vs.toArray:=ht;unfold sk
 try with_reducible refine dA ?_
 first|refine aj (aI ?_)|skip
 refine aj (wpAny_sequenceKey ht.typeIs (by decide) ?_)
 refine aj (sm (name:=af "__getitem__") ht.typeIs U5
  (sn U5 ht.typeIs XC ?_ (XD _ _)))
 refine (?_:al _ _ (XE (.ref t)>>=_) _ _ s);refine aj (tupleItemsOf_ htt ?_);refine aj (EY hTs ?_);rw[if_pos (by decide)];refine aj (Pp (n:=vs.toArray.size) hs (hb) ?_);refine (?_:al _ _ (if ((0:Int)==0&&(1:Int)==1&&b==vs.toArray.size)=true then _ else _) _ _ s)
 by_cases hbe:b=vs.length
 ·rw[if_pos (by exact decide_eq_true (by assumption))];refine aj ?_;unfold XF;refine aj (EY ht.typeIs (aI ?_));rw[if_pos (by decide)];exact aj (vx (aI ⟨_,rfl,aI (h1 hbe)⟩))
 ·rw[if_neg (by simp[hbe])];have hpick:((bF b).filterMap λ(k:Nat)=>vs.toArray[((0:Int)+(k:Int)*1).toNat]?).toArray=(vs.take b).toArray:=by
   congr 1;have:(λ(k:Nat)=>vs.toArray[((0:Int)+(k:Int)*1).toNat]?)=λk=>vs[k]?:=by funext k;have:((0:Int)+(k:Int)*1).toNat=k:=ON;refine aa this ?_;simp
   refine aa this ?_;exact Bu hb
  refine aa hpick ?_
  first
   |exact aj (m:=yJ _) (kJ (aI ⟨_,rfl,aI h2⟩) htake)
   |exact aj (m:=yJ _) (kJ (aj (aI (aI ⟨_,rfl,aI h2⟩))) htake)
   |exact aj (aj (m:=yJ _) (kJ (aI (aI ⟨_,rfl,aI h2⟩)) htake))
   |exact aj (aj (m:=yJ _) (kJ (aI ⟨_,rfl,aI h2⟩) htake))
theorem Iq {a d:PV} {va:Value} {sl:Addr} {vl vu vs:Value} {lo hi st:Option Int} (S:ai X s) (w:b8 W s.heap) (ra:am W s.heap a va) (hs:s.heap.IsSliceOf sl vl vu vs) (pl:j4 vl lo) (pu:j4 vu hi) (ps:j4 vs st) (h:eG a lo hi st=some d):Ev X A s (sk va (.ref sl)) (λv s'=>am W s'.heap d v):=by
 have e:sizeLine=16777216:=rfl;delta eG at h;refine B0 h λh0 h=>?_;have h0:st≠some 0:=by exact λq=>h0 (beq_iff_eq.mpr q)
 induction a using PV.casesOn with
 |list xs=>
  refine eQ ra λl ws e2_ ζ hl hn rr=>?_;clear ra;subst e2_;have hlen:=rr.length;simp only at h;have h_:=ak h;clear h;subst h_;refine wpAny_getItem_list_slice hl.isList hs pl pu ps h0 ⟨S.keep bz,ag.keep bz,?_⟩ (hn);have e1:slicePick ws.toArray lo hi st=(((lA (eg lo hi st xs.length).1 (eg lo hi st xs.length).2.1 (eg lo hi st xs.length).2.2)).filterMap (ws[·]?)).toArray:=by unfold slicePick;rw[show ws.toArray.size=xs.length by exact hlen];simp
  have hle:=slicePick_size_le ws.toArray lo hi st;rw[e1] at hle ⊢;exact rG w (rr.pick _) (by simp only[yI] at hle;exact aB (by assumption) (by assumption))
 |str x=>
  obtain ⟨⟨t,rfl⟩,hx⟩:=ra
  induction st using bO with
  |some z=>exact ab h
  |none=>
   have h:some (PV.str (iX x lo hi))=some d:=h;have h_:=ak h;clear h;subst h_;have mk:∀{v:Value} {k:Option Int},j4 v k->∃l:Option (Int×cJ),partValue l=v/\l.map (·.1)=k:=λp=>by
    cases p with
    |none=>exact au none rfl rfl
    |int i t=>exact au (some (i,t)) rfl rfl
   refine ah (mk pl) λl e1 f1=>?_;refine ah (mk pu) λu e2 f2=>?_;refine ah (mk ps) λk e3 f3=>?_;refine bo hs λo ho hc hd=>?_;clear hs;have hs':s.heap.IsSlice sl l u k:=⟨o,ho,hc,by refine aa e1 (aa e2 (aa e3 ?_));exact hd⟩
   have hk:k=none:=by induction k using bO with
    |none=>rfl
    |some z=>simp at f3
   subst hk;subst f1 f2;have hle:=aB (Txt.slice_le x (l.map (·.1)) (u.map (·.1))) hx;refine wpAny_getItem_str_slice hs' rfl (post_val_or_str ⟨hle,λt' k=>⟨S.tok,ag.toks,⟨t',rfl⟩,hle⟩⟩)
 |tup xs=>
  refine eQ ra λl ws e2_ hlW hl hn rr=>?_;clear ra;subst e2_;have hlen:=rr.length
  induction lo using bO with
  |some z=>exact ab h
  |none=>
  induction hi using bO with
  |none=>exact ab h
  |some b=>
  induction st using bO with
  |some z=>exact ab h
  |none=>
   refine ifs (show (if (decide (0<=b)&&decide (b<=xs.length))=true then some (PV.tup (xs.take b.toNat)) else none)=some d from h) λhb h=>?_;have h_:=ak h;clear h;subst h_;simp only[bn,decide_eq_true_eq] at hb;cases pl;cases ps;cases pu with
   |int i u=>
    refine ay (yK hb.1) λm e1_=>?_;subst e1_;refine Ua hl hs (Q1 hlen hb) (λq=>⟨S,ag.refl,?_⟩) ⟨S.keep bz,ag.keep bz,?_⟩ hn
    ·have e2:xs.take (b9 (vg m))=xs:=oh (by simp;exact KN hlen q);refine (?_:am W s.heap (.tup (xs.take (b9 (vg m)))) (.ref l));refine aa e2 ?_;skip;exact iE l ws rfl hlW hl hn rr
    ·exact Cq w (rr.take _) (by refine aa fJ ?_;exact Jl e hn hlen hb)
 |_=>exact ab h
end
section
variable {X:Cx} {A:aM} {s:ae} {W V:List Addr}
noncomputable def uP (r:PV) (name:Str):Option String:=match r with
 |.str _=>if name== "split" then some "str.split" else if name== "count" then some "str.count" else if name== "startswith" then some "str.startswith"
   else if name== "endswith" then some "str.endswith" else if name== "join" then some "str.join" else if name== "find" then some "str.find" else none
 |.list _=>if name== "count" then some "list.count" else if name== "index" then some "list.index" else none
 |_=>none
theorem D4 {r:PV} {vr:Value} {name:Str} {id:String} {pl:bp Bool} {Q:Value×List Value->ae->Prop} {E:Value->ae->Prop} (ra:am W s.heap r vr) (h:uP r name=some id) (q:Q (.builtin id,[vr]) s):al (aq X.prog X.w) A (mK vr name pl) Q E s:=by
 unfold uP at h
 induction r using PV.casesOn with
 |str x=>
  obtain ⟨⟨t,rfl⟩,_⟩:=ra;simp only at h
  repeat' split at h
  all_goals (first|cases h|skip)
  all_goals (rename_i hn;first|(have hn:=bc hn;subst hn)|skip)
  ·exact GM.split q
  ·exact GM.count q
  ·exact GM.startswith q
  ·exact GM.endswith q
  ·exact GM.join q
  ·exact GM.find q
 |list xs=>
  obtain ⟨a,vs,rfl,_,⟨n,e⟩,_,_⟩:=ra;simp only at h;have hd:∀b,gV a=gV b->∃o,s.heap.get? b=some o/\o.dict=none:=λb q=>by cases q;exact au _ e rfl
  repeat' split at h
  all_goals (first|cases h|skip)
  all_goals (rename_i hn;first|(have hn:=bc hn;subst hn)|skip)
  ·exact vy (T:= "list") ⟨_,e,rfl⟩ yL XG XH hd q
  ·exact vy (T:= "list") ⟨_,e,rfl⟩ yL U6 XI hd q
 |_=>exact ab h
theorem z9 {xs:List PV}:∀{l:List Str},kl xs=some l->xs=l.map .str:=by
 induction xs with
 |nil=>intro l h;exact ak h▸rfl
 |cons d r ih=>intro l h;induction d using PV.casesOn with
  |str x=>exact ah (gA.mp (show (kl r).map (x:: ·)=some l from h)) λl' h1 e=>e▸congrArg (PV.str x:: ·) (ih h1)
  |_=>exact ab h
theorem tL {xs:List PV}:∀{l:List Int},fN xs=some l->xs=l.map .int:=by
 induction xs with
 |nil=>intro l h;exact ak h▸rfl
 |cons d r ih=>intro l h;induction d using PV.casesOn with
  |int x=>exact ah (gA.mp (show (fN r).map (x:: ·)=some l from h)) λl' h1 e=>e▸congrArg (PV.int x:: ·) (ih h1)
  |_=>exact ab h
theorem Bv {h:aP}:∀{l:List Str} {vs:List Value},ar W h (l.map .str) vs->∃z:List (Str×cJ),vs=lC z/\z.map (·.1)=l
 |[],vs,r=>au [] r rfl
 |x::l,vs,r=>bw (show ar W h (.str x::l.map .str) vs from r) λv u e h1 h2=>ay h1.1 λt et=>ah (Bv h2) λz e1 hz=>
  au ((x,t)::z) (by subst et;subst e1;exact e) (congrArg (x:: ·) hz)
theorem wF {h:aP}:∀{z:List (Str×cJ)},(∀p∈z,p.1.length<=sizeLine)->ar W h ((z.map (·.1)).map .str) (lC z)
 |[],_=>rfl
 |p::z,hz=>⟨_,_,rfl,⟨⟨_,rfl⟩,hz p (.head _)⟩,wF λq hq=>hz q (.tail _ hq)⟩
theorem qA {h:aP}:∀{l:List Int} {vs:List Value},ar W h (l.map .int) vs->oj vs l
 |[],vs,r=>by subst (r:vs=[]);exact .nil
 |x::l,vs,r=>bw (show ar W h (.int x::l.map .int) vs from r) λv u e h1 h2=>ay h1 λt et=>by subst et;subst e;exact .cons _ _ (qA h2)
theorem Cp {h:aP}:∀{l:List Int} {vs:List Value},oj vs l->ar W h (l.map .int) vs
 |_,_,.nil=>rfl
 |_,_,.cons n t r=>⟨_,_,rfl,⟨_,rfl⟩,Cp r⟩
theorem Bj (z:List (Str×cJ)):(lC z).length=z.length:=ca ..
theorem rm {z:List (Str×cJ)} {l:List Str} {tk:cJ} (S:ai X s) (w:b8 W s.heap) (hz:z.map (·.1)=l) (hl:l.length<=sizeLine) (hp:∀y∈l,y.length<=sizeLine):ai X {s with toks:=tk,heap:=s.heap.push {cls:=.type "list",data:=.seq (lC z).toArray}}/\
  ag [] s {s with toks:=tk,heap:=s.heap.push {cls:=.type "list",data:=.seq (lC z).toArray}}/\
  am W (s.heap.push {cls:=.type "list",data:=.seq (lC z).toArray}) (.list (l.map .str)) (.ref s.heap.objs.size):=by
 subst hz;refine dX (S.keep bz) (ag.keep bz) ?_;refine rG w (wF λp hpz=>hp _ (mJ hpz)) ?_;rw[Bj];exact (ca ..)▸hl
theorem DZ:∀{l:List Nat} {a:Nat},a∈l->a<=l.sum
 |b::r,a,h=>by
  rcases ao.mp h with q|q
  ·simp;exact wC q
  ·have:=DZ q;simp;exact aB (by assumption) (b7 _ _)
theorem Au {x y:Str} (hy:1<=y.length):∀p∈Txt.split x y,p.length<=x.length:=by intro p hp;have h:=split_weight x y hy;have h1:p.length<=((Txt.split x y).map (·.length)).sum:=DZ (mJ hp);have h2:1<=(Txt.split x y).length:=List.length_pos_of_mem hp;exact Ot h h1 h2
theorem QP {x y:Str} {t u:cJ} (S:ai X s) (w:b8 W s.heap) (hx:x.length<=sizeLine) (hy:(y.length != 0)=true) (hl:aZ (x.length+2)=true):Ev X A s (call (.builtin "str.split") [.str x t,.str y u]) (λv s'=>am W s'.heap (.list ((Txt.split x y).map .str)) v):=by
 have hy0:(y.length==0)=false:=(kK _).mp hy;have hy1:1<=y.length:=EZ (of_decide_eq_false hy0);have hlen:(Txt.split x y).length<=sizeLine:=aB (split_le x y) (dM hl);have hpart:∀p∈Txt.split x y,p.length<=sizeLine:=λp hp=>aB (Au hy1 p hp) hx;cases h1:(decide (x.length<y.length)||decide (i0 x<i0 y))
 ·cases hf:(gR x y 0 x.length (x.length+1)).isEmpty
  ·have e:Txt.split x y=yM x (gR x y 0 x.length (x.length+1)) y.length:=by unfold Txt.split;rw[if_neg (by refine aa h1 ?_;exact gz),if_neg (by refine aa hf ?_;exact gz)]
   refine kI pS (on _ _ _) pU (sq _ _) (U7 x y t u h1 hy0 hf hx (by refine aA e ?_;exact hlen)) ?_;have:=rm (tk:=s.toks+(yM x (gR x y 0 x.length (x.length+1)) y.length).length) (z:=E0 s.toks (Txt.split x y)) S w (E1 _ _) hlen hpart;rw[<- E2,e] at this;refine aa e ?_;exact this
  ·have e:Txt.split x y=[x]:=by unfold Txt.split;rw[if_neg (by refine aa h1 ?_;exact gz),if_pos hf]
   refine aa e ?_;exact kI pS (on _ _ _) pU (sq _ _) (U8 x y t u h1 hy0 hf)
    (rm (tk:=s.toks) (z:=[(x,t)]) S w rfl (by refine (?_:1<=sizeLine);decide) (by simpa using hx))
 ·have e:Txt.split x y=[x]:=by unfold Txt.split;exact aa (if_pos h1) rfl
  refine aa e ?_;exact kI pS (on _ _ _) pU (sq _ _) (U9 x y t u h1)
    (rm (tk:=s.toks) (z:=[(x,t)]) S w rfl (by refine (?_:1<=sizeLine);decide) (by simpa using hx))
theorem Gn {x:Str} {t:cJ} (S:ai X s) (w:b8 W s.heap) (hx:x.length<=sizeLine) (h1:aZ (vo x (x.length+1)).length=true) (h2:aZ (kH x).length=true) (h3:(kH x).all (λy=>aZ y.length)=true):Ev X A s (call (.builtin "str.split") [.str x t]) (λv s'=>am W s'.heap (.list ((kH x).map .str)) v):=by
 have hp:∀p∈kH x,p.length<=sizeLine:=λp hp=>dM (dG.mp h3 p hp);refine kI pS (on _ _ _) pU (F.args_str_split_1 _) (meets_str_split_space x t hx (dM h1)) ?_;cases hw:vo x (x.length+1)==[(0,x.length)]
 ·have e:kH x=PySem.wordsOf x:=if_neg (ne_true_of_eq_false hw);simp only[dp,if_false];have:=rm (tk:=s.toks+(vo x (x.length+1)).length) (z:=E0 s.toks (kH x)) S w (E1 _ _) (dM h2) hp;rw[<- E2,e] at this;refine aa e ?_;exact this
 ·have e:kH x=[x]:=if_pos hw;simp only[if_true];refine aa e ?_;exact rm (tk:=s.toks) (z:=[(x,t)]) S w rfl (by refine (?_:1<=sizeLine);decide) (by simpa using hx)
end
section
variable {X:Cx} {A:aM} {s:ae} {W V:List Addr}
theorem Ao {h:aP}:∀{l:List Str} {vs:List Value},ar W h (l.map .str) vs->yN vs l
 |[],vs,r=>by subst (r:vs=[]);exact .nil
 |x::l,vs,r=>bw (show ar W h (.str x::l.map .str) vs from r) λv u e h1 h2=>ay h1.1 λt et=>by subst et;subst e;exact .cons _ _ (Ao h2)
theorem Mj {l:Addr} {vs:List Value} {ys:List Str} {k:Str} {t:cJ} {j:Nat} {Q:Value->ae->Prop} {E:Value->ae->Prop} (hl:iQ s.heap l vs.toArray) (hi:yN vs ys) (hn:vs.length<=sizeLine) (hj:ys.findIdx? (·==k)=some j) (h:Q (.int j s.toks) {s with toks:=s.toks+1}):al (aq X.prog X.w) A (call (.builtin "list.index") [.ref l,.str k t]) Q E s:=by
 refine ay hl λn ho=>?_;clear hl;have e:sizeLine=16777216:=rfl;have val:∀{vs:List Value} {ys:List Str},yN vs ys->∀i (h1:i<vs.length) (h2:i<ys.length),E3 k vs[i]=(ys[i]==k):=by
  intro vs ys hi
  induction hi with
  |nil=>intro i h1;simp at h1
  |cons y t _ ih=>
   intro i h1 h2
   induction i using dq with
   |zero=>simp[E3]
   |succ i=>simpa using ih i (by simpa using h1) (by simpa using h2)
 have hlen:∀{vs:List Value} {ys:List Str},yN vs ys->vs.length=ys.length:=by
  intro vs ys hi
  induction hi with
  |nil=>rfl
  |cons _ _ _ ih=>simp[ih]
 have hl:=hlen hi;rw[List.findIdx?_eq_some_iff_getElem] at hj;refine ah hj λhj1 hj2 hj3=>?_;clear hj;refine kI U6 ⟨_,ho,rfl⟩ XJ (XK _ _)
  (SeqAt.list_indexAt l vs.toArray n none #[] (.str k t) (E3 k) j (by simp;exact cV (by assumption) (eh (c5 (by assumption)))) (by lia) ?_ ?_) ⟨ho,λy hy=>(eq_isStrOf k t hi y (by simpa using hy)).at _ _,h⟩
 ·have:=val hi j (cV (by assumption) (eh (c5 (by assumption)))) hj1;simpa [this] using hj2
 ·intro m hm hmj;have h1:m<vs.length:=by simpa using hm
  have:=val hi m h1 (Nat.lt_of_lt_of_eq (by assumption) (by assumption));simp only[List.getElem_toArray,this];simpa using hj3 m hmj
theorem N6 (x y:Str) (i j:Int) (t u v q:cJ):Gives (yO.«str.find» ⟨[.str x t,.str y u,.int i v,.int j q],[]⟩) (.int (match gR x y (lD x.length i) (bL (lD x.length j) x.length) 1 with|k::_=>(k:Int)|[]=> -1)):=by
 refine (?_:Gives (match gR x y (lD x.length i) (bL (lD x.length j) x.length) 1 with|k::_=>retInt k|[]=>(do rule "str.find.not-found";retInt (-1))) _);cases gR x y (lD x.length i) (bL (lD x.length j) x.length) 1 with
 |nil=>exact Gives.rule (.of_eq rfl)
 |cons k r=>exact .of_eq rfl
theorem LG {x y:Str} {t u p q:cJ} {i j:Int} (S:ai X s) (h1:0<=i) (h3:0<=j) (h4:j<=x.length):Ev X A s (call (.builtin "str.find") [.str x t,.str y u,.int i p,.int j q]) (λv s'=>am W s'.heap (.int (qK x y i j)) v):=by
 refine Va F.slot_str_find (on _ _ _) F.entry_str_find (F.args_str_find_4 _ _ _ _) (N6 x y i j t u p q) ?_;have e1:lD x.length i=i.toNat:=by unfold lD;rw[if_neg (fX.mpr (by assumption))];exact RT h1
 have e2:bL (lD x.length j) x.length=j.toNat:=by unfold lD;rw[if_neg (fX.mpr (by assumption))];exact Qz h3 h4
 refine aa e1 (aa e2 ?_);exact dX S.tok ag.toks ⟨_,rfl⟩
set_option tactic.hygienic true in
theorem R9 {r d:PV} {as:List PV} {vr:Value} {vs:List Value} {name:Str} (S:ai X s) (R:aK A 2) (w:b8 W s.heap) (ra:am V s.heap r vr) (rs:ar V s.heap as vs) (h:bM r name as=some d):∃id,uP r name=some id/\Ev X A s (call (.builtin id) (vr::vs)) (λv s'=>am W s'.heap d v):=by
 induction r using PV.casesOn with
 |str x=>
  induction as using aF with
  |nil=>delta bM at h;dsimp only at h;have rs:vs=[]:=rs;subst rs;obtain ⟨⟨t,rfl⟩,hx⟩:=ra;refine ifs h λq h=>?_;have h:=ak h;subst h;simp only[bn] at q;have hn:=bc q.1.1.1;exact au ("str.split") (by refine aa hn ?_;rfl) (Gn S w hx q.1.1.2 q.1.2 q.2)
  |cons a0 as=>
   induction a0 using PV.casesOn with
   |str y=>
    induction as using aF with
    |nil=>
     delta bM at h;dsimp only at h;refine bw rs λv u e2_ r1 e4_=>?_;clear rs;subst e2_;subst e4_;obtain ⟨⟨t,rfl⟩,hx⟩:=ra;obtain ⟨⟨t',rfl⟩,hy⟩:=r1
     split at h
     ·rename_i q;have hn:=bc q;refine ifs h λq2 h=>?_;have h:=ak h;subst h;simp only[bn] at q2;exact au ("str.split") (by refine aa hn ?_;rfl) (QP S w hx q2.1 q2.2)
     split at h
     ·rename_i q;have h:=ak h;subst h;have hn:=bc q;exact au ("str.count") (by refine aa hn ?_;rfl) (SC.count ⟨S.tok,ag.toks,⟨_,rfl⟩⟩)
     split at h
     ·rename_i q;have h:=ak h;subst h;have hn:=bc q;exact au ("str.startswith") (by refine aa hn ?_;rfl) (SC.startswith ⟨S,ag.refl,rfl⟩)
     split at h
     ·rename_i q;have h:=ak h;subst h;have hn:=bc q;exact au ("str.endswith") (by refine aa hn ?_;rfl) (SC.endswith ⟨S,ag.refl,rfl⟩)
     refine ifs h λq h=>?_;have hn:=bc q;refine ifs h λq2 h=>?_;have h:=ak h;subst h;simp only[bn] at q2;exact au ("str.join") (by refine aa hn ?_;rfl) (SC.joinStr R.hh q2.1 λh' k t'' hk=>⟨S.keep hk,ag.keep hk,⟨_,rfl⟩,dM q2.2⟩)
    |cons a1 as=>
     induction a1 using PV.casesOn with
     |int i=>
      induction as using aF with
      |nil=>exact ab h
      |cons a2 as=>
       induction a2 using PV.casesOn with
       |int j=>
        induction as using aF with
        |nil=>delta bM at h;dsimp only at h;obtain ⟨v,u,rfl,r1,v2,u2,rfl,r2,v3,u3,rfl,r3,rfl⟩:=rs;obtain ⟨⟨t,rfl⟩,hx⟩:=ra;obtain ⟨⟨t',rfl⟩,hy⟩:=r1;obtain ⟨t2,rfl⟩:=r2;obtain ⟨t3,rfl⟩:=r3;refine ifs h λq h=>?_;have h:=ak h;subst h;simp only[bn,decide_eq_true_eq] at q;have hn:=bc q.1.1.1.1;exact au ("str.find") (by refine aa hn ?_;rfl) (LG S q.1.1.1.2 q.1.2 q.2)
        |cons _ _=>exact ab h
       |_=>exact ab h
     |_=>exact ab h
   |list ys=>
    induction as using aF with
    |nil=>
     delta bM at h;dsimp only at h;refine bw rs λv u e2_ r1 e4_=>?_;clear rs;subst e2_;subst e4_;obtain ⟨⟨t,rfl⟩,hx⟩:=ra;obtain ⟨l,ws,rfl,_,hl,hn1,rr⟩:=r1;refine ifs h λq h=>?_;have hn:=bc q
     set_option smartUnfolding false in refine om h λl' hl' h=>?_
     refine ifs h λq2 h=>?_;have h:=ak h;subst h;simp only[bn] at q2;have e:=z9 hl';subst e;refine ah (Bv rr) λz e1_ hz=>?_;subst e1_;exact au ("str.join") (by refine aa hn ?_;rfl) (SC.join hl.isList hz q2.1 λt' k=>⟨S.tok,ag.toks,⟨_,rfl⟩,dM q2.2⟩)
    |cons _ _=>exact ab h
   |_=>exact ab h
 |list xs=>
  induction as using aF with
  |nil=>exact ab h
  |cons a0 as=>
   induction a0 using PV.casesOn with
   |int k=>
    induction as using aF with
    |nil=>delta bM at h;dsimp only at h;refine bw rs λv u e2_ r1 e4_=>?_;clear rs;subst e2_;subst e4_;obtain ⟨l,ws,rfl,_,hl,hn1,rr⟩:=ra;obtain ⟨t,rfl⟩:=r1;refine ifs h λq h=>?_;have hn:=bc q;refine ah (gA.mp h) λl' hl' e2_=>?_;subst e2_;have e:=tL hl';subst e;refine au ("list.count") (by refine aa hn ?_;rfl) (count_list_ints hl.isList (qA rr) ⟨S.tok,ag.toks,⟨s.toks,?_⟩⟩);rfl
    |cons _ _=>exact ab h
   |str k=>
    induction as using aF with
    |nil=>
     delta bM at h;dsimp only at h;refine bw rs λv u e2_ r1 e4_=>?_;clear rs;subst e2_;subst e4_;obtain ⟨l,ws,rfl,_,hl,hn1,rr⟩:=ra;obtain ⟨⟨t,rfl⟩,_⟩:=r1
     split at h
     ·rename_i q;have hn:=bc q
      split at h
      ·rename_i l' hl';have e:=z9 hl';subst e;refine ah (gA.mp h) λj hj e2_=>?_;subst e2_;exact au ("list.index") (by refine aa hn ?_;rfl) (Mj hl (Ao rr) hn1 hj ⟨S.tok,ag.toks,⟨_,rfl⟩⟩)
      ·exact ab h
     ·exact ab h
    |cons _ _=>exact ab h
   |_=>exact ab h
 |_=>exact ab h
end
theorem ai.of {X s s'} (S:ai X s) (k:∀b o,s.heap.get? b=some o->s'.heap.get? b=some o) (hg:s'.gens=s.gens) (ho:s'.os=s.os):ai X s' where
 x:=S.x
 old:=S.old.step_keeps k
 g:=S.g.keeps k
 b:=S.b.keeps k
 lim:=S.lim.keeps k
 tab:=λq hq=>⟨(S.tab q hq).1.keeps k,(S.tab q hq).2.keeps k⟩
 bare:=by refine aa hg ?_;exact S.bare
 os:=by refine aa ho ?_;exact S.os
theorem ag.of {W s s'} (k:∀b o,s.heap.get? b=some o->s'.heap.get? b=some o) (hg:s'.gens=s.gens):ag W s s':=
 ⟨Kb.of_keep k,λb o e=>⟨o,k b o e⟩,by rw[hg];exact aT _,λζ ζ=>by rw[hg]⟩
section
variable {X:Cx} {A:aM} {s:ae} {W V:List Addr}
theorem Q0 (ns:List Int):yP (λi=>ns.getD i 0) ns.length=ns.sum:=by
 have key:∀(k:Nat),k<=ns.length->yP (λi=>ns.getD i 0) k=(ns.take k).sum:=by
  intro k
  induction k with
  |zero=>intro _;rfl
  |succ k ih=>intro hk;have e:yP (λi=>ns.getD i 0) (k+1)=yP (λi=>ns.getD i 0) k+ns.getD k 0:=rfl;rw[e,ih (lE (by assumption)),List.take_succ_eq_append_getElem (yQ (by assumption)),Vb];simp[yR,gQ (show k<ns.length by exact yQ (by assumption))]
 exact aa (key _ (aT _)) (aa lF rfl)
theorem CT:∀{vs:List Value} {ns:List Int} (h:oj vs ns) (i:Nat) (v:Value),vs[i]?=some v->∃t,v=.int (ns.getD i 0) t
 |_,_,.nil,i,v,e=>ab e
 |_,_,.cons n t r,0,v,e=>by simp at e;exact⟨t,by refine aA e ?_;rfl⟩
 |_,_,.cons n t r,i+1,v,e=>by refine ay (CT r i v (by simpa using e)) λt' h=>?_;exact⟨t',by simpa [yR] using h⟩
theorem Pi {l:Addr} {vs:List Value} {ns:List Int} (S:ai X s) (R:aK A 1) (hl:s.heap.IsList l vs.toArray) (hi:oj vs ns):Ev X A s (call (.builtin "sum") [.ref l]) (λv ζ=>∃t,v=.int ns.sum t):=by
 have hne:l≠s.heap.objs.size:=λq=>by refine ah hl λo e ζ=>?_;clear hl;replace e:=q▸e;replace e:=d9▸e;exact ab e
 refine call_sum_walkAnyS (E4 hl ?_);refine⟨_,_,_,_,_,_,_,λi=>ns.getD i 0,rfl,(Walks.list (A:=A.in1) R.hh s.heap.objs.size l hne vs.toArray).toS,?_,?_,?_,?_⟩
 ·exact⟨⟨_,dT _ rfl,rfl,rfl⟩,hl.push _⟩
 ·intro b hb;simp only[ao,ba,or_false] at hb;have:(s.heap.push {cls:=.type "list_iterator",data:=.fields #[.ref l,.int 0 0]}).objs.size=s.heap.objs.size+1:=lG ..;refine (?_:b<(s.heap.push {cls:=.type "list_iterator",data:=.fields #[.ref l,.int 0 0]}).objs.size);refine aa this ?_;rcases hb with rfl|rfl
  ·exact eH _
  ·refine ah hl λo e ζ=>?_;clear hl;exact yS (fm e)
 ·intro i v hv;exact CT hi i v (by simpa using hv)
 ·intro s' t' M
  have k:∀b o,s.heap.get? b=some o->s'.heap.get? b=some o:=λb o e=>M.heap b o (λq=>by
   simp only[ao,ba,or_false] at q
   replace e:=q▸e;replace e:=d9▸e;exact ab e) (gS _ e)
  refine⟨S.of k M.gens M.os,ag.of k M.gens,t',?_⟩;refine aA (Q0 ns) ?_;have:vs.toArray.size=ns.length:=by simpa using hi.length
  exact aa this rfl
theorem QY {l:Addr} {vs:List Value} {y:Int} {ns:List Int} (S:ai X s) (R:aK A 1) (hl:s.heap.IsList l vs.toArray) (hi:oj vs (y::ns)):Ev X A s (call (.builtin "max") [.ref l]) (λv ζ=>∃t,v=.int (ns.foldl aR y) t):=by
 refine ay hi.allInts.items λxs e=>?_;have hns:y::ns=xs.toList.map (·.1):=by (refine aA hi.numsOf ?_;rewrite[<- nums_intItems];exact aA e rfl)
 have hsz:xs.size=ns.length+1:=by have:=congrArg eI hns;simpa using this.symm
 replace hl:=e▸hl;refine max_intList R.hh hl (NQ hsz) λv h' tk hv hk=>?_;refine ay (intItems_at hv) λt e1_=>?_;subst e1_;refine bf (argBest_gt (mL xs) (xs.size - 1)) λh1 h2=>?_;refine⟨S.keep hk,ag.keep hk,t,?_⟩;congr 1;have hmem:∀j,j<=xs.size - 1->mL xs j∈y::ns:=λj hj=>by rw[numAt_eq,<- hns,jq,gQ (by simp;exact QA hsz hj)];exact E5 _
 have hge:∀a∈y::ns,a<=mL xs (argBest (λi j=>decide (mL xs i>mL xs j)) (xs.size - 1)):=λa ha=>by
  obtain ⟨j,hj,rfl⟩:=Vc.mp ha;have:(y::ns)[j]=mL xs j:=by rewrite[numAt_eq];refine aA hns (aa jq (aa (gQ hj) ?_));rfl
  refine aa this ?_;exact h2 j (by simp at hj;exact MG hsz hj)
 have m1:=hmem _ h1;revert m1;revert hge;refine bB (mL xs (argBest (λi j=>decide (mL xs i>mL xs j)) (xs.size - 1))) λM=>?_;intro hge m1;have key:∀(l:List Int) (a:Int),(∀b∈a::l,b<=l.foldl aR a)/\l.foldl aR a∈a::l:=by
  intro l
  induction l with
  |nil=>intro a;simp
  |cons b r ih=>
   intro a;refine bf (ih (aR a b)) λq1 q2=>?_;have q3:aR a b<=r.foldl aR (aR a b):=q1 _ (.head _);refine⟨λc hc=>?_,?_⟩
   ·rcases ao.mp hc with rfl|hc
    ·exact pL (yA _ _) q3
    ·rcases ao.mp hc with rfl|hc
     ·exact pL (Int.le_max_right _ _) q3
     ·exact q1 _ (.tail _ hc)
   ·simp only[mM];rcases ao.mp q2 with q|q
    ·refine aa q ?_
     by_cases hab:a<=b
     ·refine aa (mE hab) ?_;exact .tail _ (.head _)
     ·rw[sd (Il hab)];exact .head _
    ·exact .tail _ (.tail _ q)
 refine bf (key ns y) λq1 q2=>?_;exact Vd (q1 _ m1) (hge _ q2)
theorem HQ {i j:Int} {t u:cJ} (S:ai X s) (R:aK A 1):Ev X A s (call (.builtin "max") [.int i t,.int j u]) (λv ζ=>∃t,v=.int (aR i j) t):=by
 refine max_two_ints R.hh λh' tk hk=>?_
 by_cases c:j>i
 ·refine aa (if_pos c) ?_;exact⟨S.keep hk,ag.keep hk,u,by rw[mE (EC (by assumption))]⟩
 ·refine aa (if_neg c) ?_;exact⟨S.keep hk,ag.keep hk,t,by rw[sd (fX.mp (by assumption))]⟩
theorem RI {l:Addr} {vs:List Value} {ns:List Int} (S:ai X s) (w:b8 W s.heap) (hl:s.heap.IsList l vs.toArray) (hi:oj vs ns) (hn:ns.length<64):Ev X A s (call (.builtin "sorted") [.ref l]) (λv s'=>am W s'.heap (.list ((ns.mergeSort (λa b=>decide (a<=b))).map .int)) v):=by
 refine sorted_ints hl hi (by refine aa hi.length ?_;exact hn) λout ns' a1 a2 a3=>?_;have hk:∀b o,s.heap.get? b=some o->(sortedAll s.heap vs out).get? b=some o:=λb o e=>sortedAll_old e;refine dX (S.keep hk) (ag.keep hk) ?_;refine ay (sortedAll_at s.heap vs out) λe he=>?_;have hs:ns'=ns.mergeSort (λa b=>decide (a<=b)):=by refine XM (le:=λa b=>a<=b) (λa b ζ ζ h1 h2=>Vd h1 h2) a3 ?_ (a2.trans (List.mergeSort_perm _ _).symm);have:=List.pairwise_mergeSort (le:=λa b:Int=>decide (a<=b)) (λa b c h1 h2=>by simp at *;exact pL (by assumption) (by assumption)) (λa b=>by simp;exact HG) ns;exact this.imp (by simp)
 refine aA hs ?_;skip;refine iE _ out.toList rfl (λq=>?_) ⟨e,by simpa using he⟩ ?_ (Cp a1)
 ·refine ah (w _ q) λo ho ζ=>?_;exact vi _ (Nat.lt_trans (eH _) (fm ho))
 ·have h1:=a1.length;have h2:=a2.length_eq;have e:sizeLine=16777216:=rfl;refine (?_:out.toList.length<=sizeLine);refine aa h1 (aa h2 (aa e ?_));exact aB (n7 (by assumption)) (by decide)
noncomputable def tB:List (Str×Value):=[(af "sum",.builtin "sum"),(af "len",.builtin "len"),(af "max",.builtin "max"),(af "sorted",.builtin "sorted"),(af "hex",.builtin "hex"),(af "int",.type "int"),
 (af "list",.type "list"),(af "range",.type "range"),(af "enumerate",.type "enumerate"),(af "zip",.type "zip")]
noncomputable def fH (f:Str):Option Value:=tB.lookup f
theorem sT {β:Type} {x:Str} {v:β}:∀{l:List (Str×β)},l.lookup x=some v->(x,v)∈l
 |[],h=>nomatch h
 |(y,w)::l,h=>by
  rw[cX] at h;cases hb:x==y with
  |true=>replace h:=hb▸h;refine aa (bc hb) (aa (jm h) ?_);exact .head _
  |false=>replace h:=hb▸h;exact .tail _ (sT h)
noncomputable def Hc:Value->Bool
 |.ref _=>true
 |_=>false
theorem Dn {f:Str} {v:Value} (h:fH f=some v):∀a,v≠.ref a:=λa q=>by
 have h1:∀p∈tB,Hc p.2=false:=by decide
 have h2:=h1 _ (sT h);replace h2:=q▸h2;nomatch h2
end
structure bx (wr:List Addr) (gm:Nat) (s s':ae):Prop where
 kb:Kb wr s.heap s'.heap
 th:∀b o,b∉wr->s.heap.get? b=some o->∃o',s'.heap.get? b=some o'
 gsz:s.gens.size<=s'.gens.size
 gk:∀i,i<gm->s'.gens[i]?=s.gens[i]?
theorem bx.after {W wr gm gm' s0 s s'} (a:jX W gm s0 s) (b:bx wr gm' s s') (hw:∀x∈wr,s0.heap.get? x=none) (hg:gm<=gm'):jX W gm s0 s':=
 have ne:∀x o,s0.heap.get? x=some o->x∉wr:=λx o e q=>by replace e:=(hw x q)▸e;exact ab e
 ⟨λx o hx ht e=>b.kb x o (ne x o e) ht (a.kb x o hx ht e),λx o e=>ay (a.th x o e) λo1 e1=>b.th x o1 (ne x o e) e1,
  aB a.gsz b.gsz,λi hi=>(b.gk i (cV hi hg)).trans (a.gk i hi)⟩
structure iy (X:Cx) (A:aM) (tgt:ac) (it:Value) (xs cs:List PV) (cvs:List Value) (St:Nat->ae->Prop) (fp wr:List Addr) (gm:Nat):Prop where
 sub:∀b∈wr,b∈fp
 live:∀i s,St i s->∀b∈fp,∃o,s.heap.get? b=some o/\cG o=false
 frame:∀i (s s':ae),St i s->s.gens.size<=s'.gens.size->(∀b∈fp,∀o,s.heap.get? b=some o->s'.heap.get? b=some o)->(∀g,g<s.gens.size->s'.gens[g]?=s.gens[g]?)->St i s'
 item:∀i d W s,xs[i]?=some d->St i s->ai X s->b8 W s.heap->ar W s.heap cs cvs->(∀b∈wr,b∈W)->
  al (aq X.prog X.w) A (em it) (λr s1=>∃v,r=some v/\al (aq X.prog X.w) A (lH tgt it v) (λζ s'=>am W s'.heap d v/\St (i+1) s'/\ai X s'/\bx wr gm s s') (λζ ζ=>False) s1) (λζ ζ=>False) s
 done:∀s,St xs.length s->ai X s->al (aq X.prog X.w) A (em it) (λr s'=>r=none/\ai X s'/\bx wr gm s s') (λζ ζ=>False) s
 again:∀i s (Q:Value->ae->Prop),St i s->Q it s->al (aq X.prog X.w) A (fY it) Q (λζ ζ=>False) s
noncomputable def rq (o:d5):Prop:=match o.cls with
 |.type n=>(["enumerate", "zip", "dict_itemiterator", "dict_reverseitemiterator", "odict_iterator", "itertools.zip_longest", "itertools.pairwise"]:List String).contains n=false
 |_=>True
section
variable {X:Cx} {A:aM} {s:ae} {W V:List Addr} {gm:Nat}
set_option backward.match.sparseCases true in
theorem qP {tgt:ac} {a:Addr} {v:Value} {o:d5} {Q:Unit->ae->Prop} {E} (ho:s.heap.get? a=some o) (hp:rq o) (h:Q () s):al (aq X.prog X.w) A (lH tgt (.ref a) v) Q E s:=by
 have key:al (aq X.prog X.w) A (do
   let (.ref r,.ref b):=((.ref a:Value),v)|return
   let o <- load r
   match o.cls,o.data with
   |.type n,.fields vs=>
    if ["enumerate", "zip", "dict_itemiterator", "dict_reverseitemiterator", "odict_iterator", "itertools.zip_longest", "itertools.pairwise"].contains n&&vs[0]?==some (im b) then
     E6 "for.unpacks-the-owned-tuple"
     updateField r 0 .none
   |_,_=>pure ():bp Unit) Q E s:=by
  induction v using oe with
  |ref b=>
   refine aj (wpAny_load ho ?_);obtain ⟨cls,dct,dat,sl⟩:=o
   induction cls using oe with
   |type n=>
    cases dat with
    |fields vs=>have hp:(["enumerate", "zip", "dict_itemiterator", "dict_reverseitemiterator", "odict_iterator", "itertools.zip_longest", "itertools.pairwise"]:List String).contains n=false:=hp;refine (show _ from ?_:al _ _ (if (["enumerate", "zip", "dict_itemiterator", "dict_reverseitemiterator", "odict_iterator", "itertools.zip_longest", "itertools.pairwise"].contains n&&vs[0]?==some (im b))=true then _ else _) _ _ _);refine aa hp ?_;exact aI h
    |_=>exact aI h
   |_=>exact aI h
  |_=>exact aI h
 induction tgt using bt with
 |Tuple=>exact key
 |List=>exact key
 |_=>exact aI h
theorem pD {s:ae} {h':aP} {tk a gm} (k:oo a s.heap h'):bx [a] gm s {s with heap:=h',toks:=tk}:=
 ⟨λb o hb ζ e=>k b o (λq=>hb (gW.mpr (by assumption))) e,λb o hb e=>⟨o,k b o (λq=>hb (gW.mpr (by assumption))) e⟩,aT _,λζ ζ=>rfl⟩
theorem m9 {s:ae} {h':aP} {tk a gm} (k:io a s.heap h'):bx [a] gm s {s with heap:=h',toks:=tk}:=pD k.extBut
theorem ai.extZ (S:ai X s) {Z:List Addr} {h':aP} {tk:cJ} (ha:∀a∈Z,X.h0.get? a=none) (hc:∀a∈Z,∀o,s.heap.get? a=some o->gt o) (k:∀b o,b∉Z->s.heap.get? b=some o->h'.get? b=some o):ai X {s with heap:=h',toks:=tk} where
 x:=S.x
 old:=by
  have ne:∀b o,X.h0.get? b=some o->b∉Z:=λb o e q=>by replace e:=(ha b q)▸e;exact ab e
  refine⟨λb o e=>?_,λb o e=>ay (S.old.there b o e) λo' ho'=>⟨o',k b o' (ne b o e) ho'⟩⟩;rcases S.old.old b o e with x|⟨t,hc,vs,more,hv,x⟩|⟨rfl,hc,⟨o',es,n,ho',r⟩,z⟩
  ·exact .inl (k _ _ (ne b o e) x)
  ·exact .inr (.inl ⟨t,hc,vs,more,hv,k _ _ (ne b o e) x⟩)
  ·exact .inr (.inr ⟨rfl,hc,⟨o',es,n,k _ _ (ne _ o e) ho',r⟩,λkey=>by refine aa (EL ((k _ _ (ne _ o e) ho').trans ho'.symm) key) ?_;exact z key⟩)
 g:=jP S.g λo es ep e r=>⟨o,es,ep,k _ _ (λq=>by refine ay S.x.g λo e=>?_;replace e:=(ha _ q)▸e;exact ab e) e,r⟩
 b:=jP S.b λo es ep e r=>⟨o,es,ep,k _ _ (λq=>by refine ay S.x.b λo e=>?_;replace e:=(ha _ q)▸e;exact ab e) e,r⟩
 lim:=by obtain ⟨mc,⟨o,es,ep,e,r⟩,r'⟩:=S.lim;exact au mc ⟨o,es,ep,k _ _ (λq=>by {refine ay S.x.st λo e=>?_;replace e:=(ha _ q)▸e;exact ab e}) e,r⟩ r'
 tab:=λq hq=>by
  have hP:q.P∉Z:=λz=>by refine bN (S.x.tb q hq) λc0 ps ζ e=>?_;replace e:=(ha _ z)▸e;exact ab e
  refine⟨?_,?_⟩
  ·obtain ⟨o,vs,file,tf,flags,tg,inF,text,tt,e,hcl,hd,r⟩:=(S.tab q hq).1;exact⟨o,vs,file,tf,flags,tg,inF,text,tt,k _ _ (λz=>(hc _ z o e).elim (λy=>y hcl) λy=>y _ hd) e,hcl,hd,r⟩
  rcases (S.tab q hq).2 with t|⟨c',t,⟨c2,o2,vs,tt,e1,e2,r⟩,o,e,hcl⟩
  ·exact .inl (k _ _ hP t)
  ·cases e1;have eo:o=o2:=by replace e2:=e▸e2;exact jm e2
   have hne:c'∉Z:=λz=>(hc _ z o e).elim (λz=>z hcl) λz=>z _ (eo▸r.1);exact .inr ⟨c',k _ _ hP t,⟨c',o2,vs,tt,rfl,k _ _ hne e2,r⟩,o,k _ _ hne e,hcl⟩
 bare:=S.bare
 os:=S.os
theorem ai.ext (S:ai X s) {a:Addr} {h':aP} {tk:cJ} (ha:X.h0.get? a=none) (hc:∀o,s.heap.get? a=some o->gt o) (k:oo a s.heap h'):ai X {s with heap:=h',toks:=tk}:=
 S.extZ (Z:=[a]) (λb hb=>by simp at hb;exact hb▸ha) (λb hb o e=>by simp at hb;exact hc o (hb▸e)) λb o hb e=>k b o (λq=>hb (gW.mpr (by assumption))) e
theorem dW {o:d5} {c:String} (h:o.cls=.type c) (hc:c≠ "code"):gt o:=.inl λq=>by
 replace q:=h▸q;injection q with q;exact hc q
theorem Cm {I:Addr} {o:d5} {h h':aP} {d:PV} {v:Value} (e:h.get? I=some o) (hd:∀its n,o.data≠.seq its n) (k:∀b o,b≠I->h.get? b=some o->h'.get? b=some o) (r:am W h d v):am W h' d v:=
 am.kb (V:=[I]) (λb o2 hb ζ q=>k b o2 (λz=>hb (gW.mpr (by assumption))) q) (λb hb=>.inr (.inr λo2 e2=>by
   simp only[ao,ba,or_false] at hb
   replace e2:=hb▸e2;replace e2:=e▸e2;have h_:=ak e2;clear e2;subst h_
   exact hd)) (λζ hb=>.inl hb) d v r
theorem Hz (hh:A.handled=none) {I l:Addr} {tgt:ac} {xs:List PV} {vs:List Value} (hI:X.h0.get? I=none) (hne:l≠I) (hlen:vs.length=xs.length):iy X A tgt (.ref I) xs xs vs (λi s=>s.heap.IsListIter I l i/\iQ s.heap l vs.toArray) [I,l] [I] gm where
 sub:=λb hb=>by simp at hb;simp[hb]
 live:=λi s st b hb=>by
  simp only[ao,ba,or_false] at hb;rcases hb with rfl|rfl
  ·refine bo st.1 λo e hc ζ=>?_;exact au o e (ee hc)
  ·refine ay st.2 λn e=>?_;exact au _ e rfl
 frame:=λi s s' st ζ k ζ=>⟨ah st.1 λo e r=>⟨o,k I (.head _) o e,r⟩,ay st.2 λn e=>⟨n,k l (.tail _ (.head _)) _ e⟩⟩
 item:=λi d W s hd st S ζ r ζ=>by
  refine ah (r.get hd) λv hv rv=>?_;refine Ve st.1 st.2.isList (x:=v) (by simpa using hv) λh' hit' hs'=>⟨v,rfl,?_⟩
  refine bo st.1 λo e hc hdd=>?_;refine bo (id hit') λo' e' hc' hd'=>?_;refine qP e' (by unfold rq;refine aa hc' ?_;rfl) ?_
  exact⟨Cm e (λits n q=>by replace q:=hdd▸q;cases q) hs'.extBut rv,⟨hit',ay st.2 λn q=>⟨n,(hs'.2 l hne).trans q⟩⟩,
   S.same hI (λo2 e2=>by replace e2:=e▸e2;have h_:=ak e2;clear e2;subst h_;exact dW hc (by decide)) hs',m9 hs'⟩
 done:=λs st S=>by refine bo st.1 λo e hc hdd=>?_;exact Vf hh st.1 st.2.isList (by simp[hlen]) λh' k=>⟨rfl,S.ext hI (λo2 e2=>by replace e2:=e▸e2;have h_:=ak e2;clear e2;subst h_;exact dW hc (by decide)) k,pD k⟩
 again:=λi s Q st q=>wpAny_pyIter_listiter st.1 q
theorem QU (hh:A.handled=none) {I l:Addr} {tgt:ac} {xs:List PV} {vs:List Value} (hI:X.h0.get? I=none) (hne:l≠I) (hlen:vs.length=xs.length):iy X A tgt (.ref I) xs xs vs (λi s=>s.heap.IsTupleIter I l i/\s.heap.IsTuple l vs.toArray) [I,l] [I] gm where
 sub:=λb hb=>by simp at hb;simp[hb]
 live:=λi s st b hb=>by
  simp only[ao,ba,or_false] at hb;rcases hb with rfl|rfl
  ·refine bo st.1 λo e hc ζ=>?_;exact au o e (ee hc)
  ·refine bo st.2 λo e hc ζ=>?_;exact au o e (ee hc)
 frame:=λi s s' st ζ k ζ=>⟨ah st.1 λo e r=>⟨o,k I (.head _) o e,r⟩,ah st.2 λn e r=>⟨n,k l (.tail _ (.head _)) _ e,r⟩⟩
 item:=λi d W s hd st S ζ r ζ=>by
  refine ah (r.get hd) λv hv rv=>?_;refine wpAny_pyNext_tuple_item st.1 st.2 (x:=v) (by simpa using hv) λh' hit' hs'=>⟨v,rfl,?_⟩
  refine bo st.1 λo e hc hdd=>?_;refine bo (id hit') λo' e' hc' hd'=>?_;refine qP e' (by unfold rq;refine aa hc' ?_;rfl) ?_
  exact⟨Cm e (λits n q=>by replace q:=hdd▸q;cases q) hs'.extBut rv,⟨hit',ah st.2 λn q r=>⟨n,(hs'.2 l hne).trans q,r⟩⟩,
   S.same hI (λo2 e2=>by replace e2:=e▸e2;have h_:=ak e2;clear e2;subst h_;exact dW hc (by decide)) hs',m9 hs'⟩
 done:=λs st S=>by refine bo st.1 λo e hc hdd=>?_;exact wpAny_pyNext_tuple_end hh st.1 st.2 (by simp[hlen]) λh' k=>⟨rfl,S.ext hI (λo2 e2=>by replace e2:=e▸e2;have h_:=ak e2;clear e2;subst h_;exact dW hc (by decide)) k,pD k⟩
 again:=λi s Q st q=>wpAny_pyIter_tupleiter st.1 q
theorem OT (hh:A.handled=none) {I:Addr} {tgt:ac} {a b:Int} (hI:X.h0.get? I=none):iy X A tgt (.ref I) (fU a b) [] [] (λi s=>IsRangeIter s.heap I (a+i) ((b - a).toNat - i) 1) [I] [I] gm where
 sub:=λb hb=>hb
 live:=λi s st b hb=>by simp only[ao,ba,or_false] at hb;refine aa hb ?_;exact au _ st rfl
 frame:=λi s s' st ζ k ζ=>k I (.head _) _ st
 item:=λi d W s hd st S ζ r ζ=>by
  have hi:i<(b - a).toNat/\d=.int (a+i):=by
   unfold fU at hd;replace hd:=eJ▸hd;refine ah (gA.mp hd) λj hj e2_=>?_;subst e2_
   by_cases hlt:i<(b - a).toNat
   ·replace hj:=(oq hlt)▸hj;have h_:=ak hj;clear hj;subst h_;exact⟨hlt,rfl⟩
   ·rw[E7 (by simpa using hlt)] at hj;exact ab hj
  refine bf hi λhi e1_=>?_;subst e1_;refine wpAny_pyNext_range_item st (L2 (by assumption)) λh' hit' hs'=>⟨_,rfl,?_⟩
  refine qP hit' rfl ?_;refine iM ⟨_,rfl⟩ ?_ (S.same hI (λo2 e2=>by replace e2:=st▸e2;have h_:=ak e2;clear e2;subst h_;exact dW rfl (by decide)) hs') (m9 hs');have e1:a+(i:Int)+1=a+((i+1:Nat):Int):=PU;have e2:(((b - a).toNat:Nat):Int) - (i:Int) - 1=(((b - a).toNat:Nat):Int) - ((i+1:Nat):Int):=KC;replace hit':=e1▸hit';replace hit':=e2▸hit';exact hit'
 done:=λs st S=>by
  have hl:(fU a b).length=(b - a).toNat:=by simp[fU]
  replace st:=hl▸st;exact wpAny_pyNext_range_end hh st (TC) λh' k=>⟨rfl,S.ext hI (λo2 e2=>by replace e2:=st▸e2;have h_:=ak e2;clear e2;subst h_;exact dW rfl (by decide)) k,pD k⟩
 again:=λi s Q st q=>wpAny_pyIter_rangeiter st q
theorem DX {x:Str} {i:Nat} {d:PV} (h:(fx x)[i]?=some d):∃c,x.cps[i]?=some c/\d=.str ⟨#[c]⟩:=by unfold fx dL at h;replace h:=eK▸h;replace h:=eJ▸h;refine ah (gA.mp h) λc hc e2_=>?_;subst e2_;exact au c (by simpa using hc) rfl
theorem DB (x:Str):(fx x).length=x.cps.size:=by simp[fx,dL]
theorem K5 (hh:A.handled=none) {I:Addr} {tgt:ac} {x:Str} {t:cJ} (hI:X.h0.get? I=none):iy X A tgt (.ref I) (fx x) [] [] (λi s=>s.heap.IsStrIter I (fK x) x t i) [I] [I] gm where
 sub:=λb hb=>hb
 live:=λi s st b hb=>by simp only[ao,ba,or_false] at hb;refine bo st λo e hc ζ=>?_;clear st;refine aa hb ?_;exact au o e (ee hc)
 frame:=λi s s' st ζ k ζ=>ah st λo e r=>⟨o,k I (.head _) o e,r⟩
 item:=λi d W s hd st S ζ r ζ=>by
  refine ah (DX hd) λc hc e2_=>?_;subst e2_;have fin:∀h',h'.IsStrIter I (fK x) x t (i+1)->io I s.heap h'->∃v,some (Vg ⟨#[c]⟩ s.toks)=some v/\
    al (aq X.prog X.w) A (lH tgt (.ref I) v) (λζ s'=>am W s'.heap (.str ⟨#[c]⟩) v/\s'.heap.IsStrIter I (fK x) x t (i+1)/\ai X s'/\bx [I] gm s s') (λζ ζ=>False) {s with heap:=h',toks:=s.toks+1}:=by
   intro h' hit' hs';refine bo st λo e hcl hdd=>?_;clear st;refine bo (id hit') λo' e' hc' hd'=>?_;refine au _ rfl (qP e' ?_ ?_)
   ·unfold rq;refine aa hc' ?_;refine (?_:List.contains _ (fK x)=false);unfold fK
    split<;>decide+kernel
   ·refine iM ⟨⟨_,rfl⟩,by refine (?_:1<=sizeLine);decide⟩ hit' (S.same hI (λo2 e2=>by replace e2:=e▸e2;have h_:=ak e2;clear e2;subst h_;exact dW hcl (by unfold fK;split<;>decide)) hs') (m9 hs')
  cases ha:x.cps.all (·<128)
  ·have he:fK x= "str_iterator" :=by simp[fK,ha]
   replace st:=he▸st;exact wpAny_pyNext_wide_item st hc λh' hit' hs'=>fin h' (by refine aa he ?_;exact hit') hs'
  ·have he:fK x= "str_ascii_iterator" :=if_pos (by assumption);replace st:=he▸st;exact wpAny_pyNext_ascii_item st hc λh' hit' hs'=>fin h' (by refine aa he ?_;exact hit') hs'
 done:=λs st S=>by
  refine bo (id st) λo e hcl hdd=>?_;rw[DB] at st;have hn:gt o:=dW hcl (by unfold fK;split<;>decide);have fin:∀h',oo I s.heap h'->(none:Option Value)=none/\ai X {s with heap:=h'}/\bx [I] gm s {s with heap:=h'}:=λh' k=>
   ⟨rfl,S.ext hI (λo2 e2=>by replace e2:=e▸e2;have h_:=ak e2;clear e2;subst h_;exact hn) k,pD k⟩
  unfold fK at st;cases ha:x.cps.all (·<128)
  ·simp only[ha,dp,if_false] at st;exact wpAny_pyNext_wide_end hh st (by simp) fin
  ·simp only[ha,if_true] at st;exact wpAny_pyNext_ascii_end hh st (by simp) fin
 again:=λi s Q st q=>by
  unfold fK at st;cases ha:x.cps.all (·<128)
  ·simp only[ha,dp,if_false] at st;exact wpAny_pyIter_striter_wide st q
  ·simp only[ha,if_true] at st;exact wpAny_pyIter_striter_ascii st q
theorem yu:∀{xs:List PV} {k i:Nat} {d:PV},(d8 k xs)[i]?=some d->∃e,xs[i]?=some e/\d=.tup [.int ((k+i:Nat):Int),e]
 |[],k,i,d,h=>ab h
 |x::xs,k,0,d,h=>au x rfl (ak (show some (PV.tup [.int k,x])=some d from h)).symm
 |x::xs,k,i+1,d,h=>ah (yu (show (d8 (k+1) xs)[i]?=some d from h)) λe h1 h2=>au e h1 (h2.trans (congrArg (λz:Nat=>PV.tup [.int z,e]) GH))
theorem tQ:∀(xs:List PV) (k:Nat),(d8 k xs).length=xs.length
 |[],_=>rfl
 |x::xs,k=>congrArg pM (tQ xs (k+1))
theorem w0 {e it:Addr} {ts:List ac} {tn:Nat} {tp:Pos} {xs cs:List PV} {cvs:List Value} {St:Nat->aP->Prop} {P:Nat->Value->Prop} {fp:List Addr} (D:Draws X.prog X.w A.in1 it fp xs.length P St) (hit:it∈fp) (hI:X.h0.get? it=none) (hE:X.h0.get? e=none) (hne:e≠it) (hef:e∉fp) (hlive:∀i h,St i h->(∃o,h.get? it=some o/\gt o/\cG o=false/\∀its n,o.data≠.seq its n)/\∀b∈fp,∃o,h.get? b=some o/\cG o=false) (hP:∀i d W h v,xs[i]?=some d->ar W h cs cvs->P i v->am W h d v):iy X A (.Tuple ts tn tp) (.ref e) (d8 0 xs) cs cvs (λi s=>(∃old,pV s.heap e it (i:Int) old)/\St i s.heap) (e::fp) [e,it] gm where
 sub:=λb hb=>by
  simp only[ao,ba,or_false] at hb;rcases hb with rfl|rfl
  ·exact .head _
  ·exact .tail _ hit
 live:=λi s st b hb=>by
  obtain ⟨⟨old,h1⟩,h2⟩:=st;rcases ao.mp hb with rfl|hb
  ·exact au _ h1 rfl
  ·exact (hlive i _ h2).2 b hb
 frame:=λi s s' st ζ k ζ=>by obtain ⟨⟨old,h1⟩,h2⟩:=st;exact⟨⟨old,k e (.head _) _ h1⟩,D.frame i _ _ h2 λb hb=>k b (.tail _ hb)⟩
 item:=λi d W s hd st S w r hw=>by
  obtain ⟨⟨old,h1⟩,h2⟩:=st;refine ah (yu hd) λc hc e2_=>?_;subst e2_;have hi:i<xs.length:=by
   by_cases q:i<xs.length
   ·exact q
   ·rw[E7 (pO (by assumption))] at hc;exact ab hc
  refine wpAny_pyNext_enum_itemD D h1 h2 hi hne hef λx h' tk px he st' ht hsz hk=>⟨_,rfl,?_⟩
  obtain ⟨⟨oi,ei,ni,ti,di⟩,_⟩:=hlive i _ h2;have hx:=hP i c W s.heap x hc r px;refine wpAny_letOwnedTupleGo_enum he λh'' he' hs''=>?_;have k2:∀b o,b∉[e,it]->s.heap.get? b=some o->h''.get? b=some o:=λb o hb q=>by simp only[ao,ba,or_false,not_or] at hb;exact (hs''.2 b hb.1).trans (hk b o hb.1 hb.2 q)
  have hsn:s.heap.objs.size≠e:=λq=>by have h1':s.heap.get? e=some _:=h1;replace h1':=(c5 q)▸h1';replace h1':=d9▸h1';exact ab h1'
  have rep:∀{d v},am W s.heap d v->am W h'' d v:=λ{d v} r=>am.kb (V:=[e,it]) (λb o hb ζ q=>k2 b o hb q) (λb hb=>.inr (.inr λo q=>by
   simp only[ao,ba,or_false] at hb;rcases hb with rfl|rfl
   ·replace q:=h1▸q;have h_:=ak q;clear q;subst h_;intro its n z;cases z
   ·replace q:=ei▸q;have h_:=ak q;clear q;subst h_;exact di)) (λb hb=>.inl hb) d v r
  refine⟨?_,⟨⟨x,?_⟩,D.frame (i+1) _ _ st' λb hb o q=>(hs''.2 b (λz=>hef (z▸hb))).trans q⟩,
   S.extZ (Z:=[e,it]) (λb hb=>?_) (λb hb o q=>?_) k2,⟨λb o hb ζ q=>k2 b o hb q,λb o hb q=>⟨o,k2 b o hb q⟩,aT _,λζ ζ=>rfl⟩⟩
  ·skip;refine⟨s.heap.objs.size,[.int (i:Nat) tk,x],rfl,w.new,⟨_,(hs''.2 _ hsn).trans ht,rfl,_,rfl⟩,by refine (?_:2<=sizeLine);decide,.int (i:Nat) tk,[x],rfl,⟨tk,by rw[jr]⟩,x,[],rfl,rep hx,rfl⟩
  ·have:((i+1:Nat):Int)=(i:Int)+1:=Int.natCast_succ _;refine aa this ?_;exact he'
  ·simp only[ao,ba,or_false] at hb;rcases hb with rfl|rfl
   ·exact hE
   ·exact hI
  ·simp only[ao,ba,or_false] at hb;rcases hb with rfl|rfl
   ·replace q:=h1▸q;have h_:=ak q;clear q;subst h_;exact dW rfl (by decide)
   ·replace q:=ei▸q;have h_:=ak q;clear q;subst h_;exact ni
 done:=λs st S=>by
  rw[tQ] at st;obtain ⟨⟨old,h1⟩,h2⟩:=st;obtain ⟨⟨oi,ei,ni,ti,di⟩,_⟩:=hlive _ _ h2;refine wpAny_pyNext_enum_endD D h1 h2 λh' k=>⟨rfl,S.ext hI (λo2 e2=>by replace e2:=ei▸e2;have h_:=ak e2;clear e2;subst h_;exact ni) k,?_⟩
  have:=pD (s:=s) (tk:=s.toks) (gm:=gm) k;exact⟨this.kb.mono (λb hb=>by simp at hb;simp[hb]),λb o hb q=>this.th b o (λz=>hb (by simp at z;simp[z])) q,this.gsz,this.gk⟩
 again:=λi s Q st q=>vz st.1.choose_spec q
end
open AutoSeq1 (wpAny_loadPart')
section
variable {prog:Program} {w:jo} {A:aM} {E:Value->ae->Prop} {s:ae}
theorem Kv {it t:Addr} {i:Nat} {items} {x:Value} {Q:Value->ae->Prop} (hit:s.heap.IsTupleIter it t i) (ht:s.heap.IsTuple t items) (hx:items[i]?=some x) (hQ:∀h',h'.IsTupleIter it t (i+1)->io it s.heap h'->Q x {s with heap:=h'}):
  al (aq prog w) A (ot (.ref it)) Q E s:=by
 refine bo (id hit) λo ho hc hd=>?_;obtain ⟨ol,hol,_,nl,hdl⟩:=ht;unfold ot
 refine aj (sm (name:=af "__next__") hit.typeIs yU
  (sn yU hit.typeIs Vh ?_ (Vi _)))
 refine (?_:al _ _ (mN (.ref it) 0>>=_) _ _ s);refine aj (ir ho hd (x:=.ref t) rfl ?_);refine (?_:al _ _ (if (gV t==Value.none)=true then _ else _) _ _ s);rw[if_neg (show ¬ ((gV t==Value.none)=true) from gz)];refine (?_:al _ _ (mN (.ref it) 1>>=_) _ _ s);refine aj (ir ho hd (x:=.int i 0) rfl ?_);refine (?_:al _ _ (seqItems? (.ref t)>>=_) _ _ s);refine aj (vA hol hdl ?_);simp only[er,hx];refine aj (Vj ho hd (eH _) (aI ⟨x,rfl,aI (hQ _ ?_ (vB ..))⟩))
 exact⟨_,pW _ ho (Obj.isFreed_of_fields (Vk hd _)),(Obj.cls_mapFields ..).trans hc,by
  rw[Vk hd];rfl⟩
theorem J1 {it t:Addr} {i:Nat} {items} {Q:Value->ae->Prop} (hh:A.handled=none) (hit:s.heap.IsTupleIter it t i) (ht:s.heap.IsTuple t items) (hx:items[i]?=none) (hE:∀h' e,oo it s.heap h'->(∃o,h'.get? e=some o/\o.cls=.type "StopIteration")->E (.ref e) {s with heap:=h'}):
  al (aq prog w) A (ot (.ref it)) Q E s:=by
 refine bo (id hit) λo ho hc hd=>?_;obtain ⟨ol,hol,_,nl,hdl⟩:=ht;unfold ot
 refine aj (sm (name:=af "__next__") hit.typeIs yU
  (sn yU hit.typeIs Vh ?_ (Vi _)))
 refine (?_:al _ _ (mN (.ref it) 0>>=_) _ _ s);refine aj (ir ho hd (x:=.ref t) rfl ?_);refine (?_:al _ _ (if (gV t==Value.none)=true then _ else _) _ _ s);rw[if_neg (show ¬ ((gV t==Value.none)=true) from gz)];refine (?_:al _ _ (mN (.ref it) 1>>=_) _ _ s);refine aj (ir ho hd (x:=.int i 0) rfl ?_);refine (?_:al _ _ (seqItems? (.ref t)>>=_) _ _ s);refine aj (vA hol hdl ?_);simp only[er,hx];refine aj (vx (aj (Vj ho hd (mF _) ?_)));refine (?_:al _ _ (yV (.type "StopIteration") []>>=_) _ _ _);refine aj ?_;simp only[yV,E8];refine aj (kJ ?_ (by size_fits));refine aj (m:=yW _ _) (E9 (a:=Value.none) (by first|rfl|(simp only[yW];rfl)) ?_);refine kJ ?_ (by size_fits);refine aj (Vl ?_)
 first|refine aa (show A.in1.handled=none from hh) ?_|rw[hh]
 refine aj (aI (Vm ?_));exact hE _ _ (((vB ..).extBut.push _).push _) ⟨_,dT _ rfl,rfl⟩
theorem Sr (hh:A.handled=none) (it l:Addr) (hne:l≠it) (items:Array Value):Draws prog w A it [it,l] items.size (λi v=>items[i]?=some v) (λi h=>h.IsTupleIter it l i/\h.IsTuple l items) where
 live:=λζ ζ st=>ah st.1 λo ho ζ=>⟨o,ho⟩
 frame:=λζ ζ ζ st hk=>⟨ah st.1 λo e r=>⟨o,hk it (.head _) o e,r⟩,ah st.2 λo e r=>⟨o,hk l (.tail _ (.head _)) o e,r⟩⟩
 item:=λi s Q E hi st hQ=>by refine Kv st.1 st.2 (x:=items[i]) (by simp[hi]) λh' hit' hs'=>?_;exact hQ _ h' s.toks (by simp[hi]) ⟨hit',ah st.2 λo e r=>⟨o,(hs'.2 l hne).trans e,r⟩⟩ hs'
 done:=λs Q E st hE=>J1 hh st.1 st.2 (by simp) hE
set_option maxHeartbeats 1000000 in
theorem T4 {prog:Program} {w:jo} {A:aM} {cls:Value} {s:ae} {Q:Bool->ae->Prop} {E} (h:∀b,Q b s):al (aq prog w) A (Vn cls) Q E s:=by unfold Vn;exact aj (wpAny_stack_any λst=>aI (h _))
theorem HH (l:Addr) (items:Array Value) (n:Nat) (dct:Option Addr) (sl:Array (Option Value)):Meets (yO.«enumerate.__new__» ⟨[.type "enumerate",.ref l],[]⟩) (λζ R s=>s.heap.get? l=some {cls:=.type "tuple",dict:=dct,data:=.seq items n,slots:=sl}/\
   R (.ok (.ret (.ref (s.heap.push {cls:=.type "tuple_iterator",data:=.fields #[.ref l,.int 0 0]}).objs.size)))
    {s with heap:=(s.heap.push {cls:=.type "tuple_iterator",data:=.fields #[.ref l,.int 0 0]}).push {cls:=.type "enumerate",data:=.fields #[.none,.bool false,.ref s.heap.objs.size,im 0,.none,.none]}}):=
 .of_wp λprog w A R s h=>by
  obtain ⟨hp,g,d,tk,os⟩:=s;refine bf h λhl h=>?_;have hsub:=sub_enumerate;have hL:EK (Shared.heap ⟨hp,g,d,tk,os⟩) l items:=⟨_,hl,rfl,n,rfl⟩
  wp_walk using yT hl,T4
  intro b
  induction b using dF
  ·wp_walk using yT hl,Fa hL
   exact au _ rfl h
  ·wp_walk using yT hl,Fa hL
   exact au _ rfl h
theorem Oq {l:Addr} {items:Array Value} {Q:Value->ae->Prop} (hL:s.heap.IsTuple l items) (h:∀h',pV h' (s.heap.objs.size+1) s.heap.objs.size 0 .none->h'.IsTupleIter s.heap.objs.size l 0->
   (∀b o,s.heap.get? b=some o->h'.get? b=some o)->Q (.ref (s.heap.objs.size+1)) {s with heap:=h'}):al (aq prog w) A (call (.type "enumerate") [.ref l]) Q E s:=by
 obtain ⟨⟨c,dct,dt,sl⟩,hl,hc,n,hd⟩:=hL;replace hc:c=.type "tuple" :=hc;replace hd:dt=.seq items n:=hd;subst hc hd;refine callType_new F.called_enumerate (by decide) (F.typeCall_enumerate_1 _) (F.newCall_enumerate_1 _) (λobj=>F.args_object_init_2 obj _) F.entry_enumerate_new
  (HH l items n dct sl) ⟨hl,?_⟩
 have hz:(s.heap.push {cls:=.type "tuple_iterator",data:=.fields #[.ref l,.int 0 0]}).objs.size=s.heap.objs.size+1:=lG ..;refine (?_:_/\_);refine aa hz ?_
 have he:pV ((s.heap.push {cls:=.type "tuple_iterator",data:=.fields #[.ref l,.int 0 0]}).push
   {cls:=.type "enumerate",data:=.fields #[.none,.bool false,.ref s.heap.objs.size,im 0,.none,.none]}) (s.heap.objs.size+1) s.heap.objs.size 0 .none:=by
  have:=dT (s.heap.push {cls:=.type "tuple_iterator",data:=.fields #[.ref l,.int 0 0]})
   (o:={cls:=.type "enumerate",data:=.fields #[.none,.bool false,.ref s.heap.objs.size,im 0,.none,.none]}) rfl
  replace this:=hz▸this;exact this
 exact⟨⟨_,he,rfl⟩,h _ he ⟨_,gS _ (dT _ rfl),rfl,rfl⟩ λb o x=>gS _ (gS _ x)⟩
end
section
variable {X:Cx} {A:aM} {s:ae} {gm:Nat}
theorem BP {W h} {xs:List PV} {vs:List Value} {i:Nat} {d:PV} {v:Value} (hd:xs[i]?=some d) (r:ar W h xs vs) (hv:vs.toArray[i]?=some v):am W h d v:=by
 refine ah (r.get hd) λu hu ru=>?_;have:u=v:=by simp only[List.getElem?_toArray] at hv;replace hv:=hu▸hv;exact jm hv
 exact this▸ru
theorem P6 (hh:A.handled=none) {e it l:Addr} {ts:List ac} {tn:Nat} {tp:Pos} {xs:List PV} {vs:List Value} (hI:X.h0.get? it=none) (hE:X.h0.get? e=none) (h1:e≠it) (h2:e≠l) (h3:l≠it) (hlen:vs.length=xs.length):iy X A (.Tuple ts tn tp) (.ref e) (d8 0 xs) xs vs (λi s=>(∃old,pV s.heap e it (i:Int) old)/\(s.heap.IsListIter it l i/\s.heap.IsList l vs.toArray)) [e,it,l] [e,it] gm:=by
 have D:=Draws.list (prog:=X.prog) (w:=X.w) (A:=A.in1) hh it l h3 vs.toArray;replace D:=(show vs.toArray.size=xs.length by exact hlen)▸D;refine w0 D (.head _) hI hE h1 (by simp[h1,h2]) (λi h st=>?_) λi d W h v hd r hv=>BP hd r hv;obtain ⟨⟨o,q,hc,hd⟩,⟨o2,q2,hc2,hd2⟩⟩:=st;refine⟨⟨o,q,dW hc (by decide),ee hc,λits n z=>by replace z:=hd▸z;cases z⟩,λb hb=>?_⟩;simp only[ao,ba,or_false] at hb;rcases hb with rfl|rfl
 ·exact au o q (ee hc)
 ·exact au o2 q2 (ee hc2)
theorem J7 (hh:A.handled=none) {e it l:Addr} {ts:List ac} {tn:Nat} {tp:Pos} {xs:List PV} {vs:List Value} (hI:X.h0.get? it=none) (hE:X.h0.get? e=none) (h1:e≠it) (h2:e≠l) (h3:l≠it) (hlen:vs.length=xs.length):iy X A (.Tuple ts tn tp) (.ref e) (d8 0 xs) xs vs (λi s=>(∃old,pV s.heap e it (i:Int) old)/\(s.heap.IsTupleIter it l i/\s.heap.IsTuple l vs.toArray)) [e,it,l] [e,it] gm:=by
 have D:=Sr (prog:=X.prog) (w:=X.w) (A:=A.in1) hh it l h3 vs.toArray;replace D:=(show vs.toArray.size=xs.length by exact hlen)▸D;refine w0 D (.head _) hI hE h1 (by simp[h1,h2]) (λi h st=>?_) λi d W h v hd r hv=>BP hd r hv;obtain ⟨⟨o,q,hc,hd⟩,⟨o2,q2,hc2,hd2⟩⟩:=st;refine⟨⟨o,q,dW hc (by decide),ee hc,λits n z=>by replace z:=hd▸z;cases z⟩,λb hb=>?_⟩;simp only[ao,ba,or_false] at hb;rcases hb with rfl|rfl
 ·exact au o q (ee hc)
 ·exact au o2 q2 (ee hc2)
theorem C3 (hh:A.handled=none) {e it:Addr} {ts:List ac} {tn:Nat} {tp:Pos} {x:Str} {t:cJ} (hI:X.h0.get? it=none) (hE:X.h0.get? e=none) (h1:e≠it):iy X A (.Tuple ts tn tp) (.ref e) (d8 0 (fx x)) [] [] (λi s=>(∃old,pV s.heap e it (i:Int) old)/\s.heap.IsStrIter it (fK x) x t i) [e,it] [e,it] gm:=by
 have D:Draws X.prog X.w A.in1 it [it] (fx x).length (λi v=>∃c u,x.cps[i]?=some c/\v=.str ⟨#[c]⟩ u) (λi h=>h.IsStrIter it (fK x) x t i):=by
  rw[DB];cases ha:x.cps.all (·<128)
  ·have he:fK x= "str_iterator" :=by simp[fK,ha]
   refine aa he ?_;exact Draws.strWide (A:=A.in1) hh it x t
  ·have he:fK x= "str_ascii_iterator" :=if_pos (by assumption);refine aa he ?_;exact Draws.strAscii (A:=A.in1) hh it x t
 refine w0 D (.head _) hI hE h1 (by simp[h1]) (λi h st=>?_) λi d W h v hd r hv=>?_
 ·refine bo st λo q hc hd=>?_;clear st;refine⟨⟨o,q,dW hc (by unfold fK;split<;>decide),ee hc,λits n z=>by replace z:=hd▸z;cases z⟩,λb hb=>?_⟩;simp only[ao,ba,or_false] at hb;refine aa hb ?_;exact au o q (ee hc)
 ·refine bN hv λc u hc e3_=>?_;clear hv;subst e3_;refine ah (DX hd) λc' hc' e2_=>?_;subst e2_;replace hc':=hc▸hc';have h_:=ak hc';clear hc';subst h_;exact⟨⟨_,rfl⟩,by refine (?_:1<=sizeLine);decide⟩
theorem zP:∀{xs ys:List PV} {i:Nat} {d:PV},(bT xs ys)[i]?=some d->∃x y,xs[i]?=some x/\ys[i]?=some y/\d=.tup [x,y]
 |[],_,_,_,h=>ab h
 |_::_,[],_,_,h=>ab h
 |x::xs,y::ys,0,d,h=>gw x y rfl rfl (ak (show some (PV.tup [x,y])=some d from h)).symm
 |x::xs,y::ys,i+1,d,h=>zP (xs:=xs) (ys:=ys) (i:=i) h
theorem ty:∀(xs ys:List PV),(bT xs ys).length=bL xs.length ys.length
 |[],_=>by rfl
 |_::_,[]=>by rfl
 |x::xs,y::ys=>(congrArg pM (ty xs ys)).trans (Nat.succ_min_succ _ _).symm
theorem C5 {W h}:∀{xs ys:List PV} {us vs:List Value},us.length=xs.length->ar W h (xs++ys) (us++vs)->ar W h xs us/\ar W h ys vs
 |[],ys,[],vs,_,r=>⟨rfl,r⟩
 |[],_,_::_,_,e,_=>pX e
 |_::_,_,[],_,e,_=>pX e
 |x::xs,ys,u::us,vs,e,r=>by refine bw r λv q e1 h1 h2=>?_;clear r;cases e1;refine bf (C5 (lx e) h2) λk1 k2=>?_;exact⟨⟨_,_,rfl,h1,k1⟩,k2⟩
structure B5 (h:aP) (z TI TO i1 i2 l1 l2:Addr) (us vs:List Value) (i:Nat):Prop where
 z:IsZip h z TI TO .none
 TI:j5 h TI (.ref i1) (.ref i2)
 TO:∃a b,j5 h TO a b
 i1:h.IsListIter i1 l1 i
 i2:h.IsListIter i2 l2 i
 l1:iQ h l1 us.toArray
 l2:iQ h l2 vs.toArray
theorem Et {h:aP} {z TI TO i1 i2 l1 l2:Addr} {us vs:List Value} {i:Nat} (st:B5 h z TI TO i1 i2 l1 l2 us vs i):∀b∈[z,TO,i1,i2],∀o,h.get? b=some o->gt o:=
 fm_ (λo q=>ak (st.z.symm.trans q)▸dW rfl (by decide))<|fm_ (λo q=>jy st.TO λa b e=>ak (e.symm.trans q)▸dW rfl (by decide))<|
 fm_ (λo q=>bo st.i1 λo1 e c ζ=>ak (e.symm.trans q)▸dW c (by decide))<|fm_ (λo q=>bo st.i2 λo1 e c ζ=>ak (e.symm.trans q)▸dW c (by decide)) kD
theorem Np (hh:A.handled=none) {z TI TO i1 i2 l1 l2:Addr} {ts:List ac} {tn:Nat} {tp:Pos} {xs ys:List PV} {us vs:List Value} (D:kL z TI TO i1 i2 l1 l2) (f1:X.h0.get? z=none) (f2:X.h0.get? TO=none) (f3:X.h0.get? i1=none) (f4:X.h0.get? i2=none) (hx:us.length=xs.length) (hy:vs.length=ys.length):iy X A (.Tuple ts tn tp) (.ref z) (bT xs ys) (xs++ys) (us++vs) (λi s=>B5 s.heap z TI TO i1 i2 l1 l2 us vs (bL i (bT xs ys).length)) [z,TI,TO,i1,i2,l1,l2] [z,TO,i1,i2] gm where
 sub:=fm_ (.head _)<|fm_ (.tail _ (.tail _ (.head _)))<|fm_ (.tail _ (.tail _ (.tail _ (.head _))))<|fm_ (.tail _ (.tail _ (.tail _ (.tail _ (.head _))))) kD
 live:=λi s st=>fm_ ⟨_,st.z,rfl⟩<|fm_ ⟨_,st.TI,rfl⟩<|fm_ (jy st.TO λa b e=>⟨_,e,rfl⟩)<|fm_ (bo st.i1 λo e hc ζ=>⟨o,e,ee hc⟩)<|fm_ (bo st.i2 λo e hc ζ=>⟨o,e,ee hc⟩)<|
  fm_ (ay st.l1 λn e=>⟨_,e,rfl⟩)<|fm_ (ay st.l2 λn e=>⟨_,e,rfl⟩) kD
 frame:=λi s s' st ζ k ζ=>
  ⟨k z (.head _) _ st.z,k TI (.tail _ (.head _)) _ st.TI,jy st.TO λa b e=>⟨a,b,k TO (.tail _ (.tail _ (.head _))) _ e⟩,ah st.i1 λo e r=>⟨o,k i1 (.tail _ (.tail _ (.tail _ (.head _)))) _ e,r⟩,
   ah st.i2 λo e r=>⟨o,k i2 (.tail _ (.tail _ (.tail _ (.tail _ (.head _))))) _ e,r⟩,ay st.l1 λn e=>⟨n,k l1 (by simp) _ e⟩,ay st.l2 λn e=>⟨n,k l2 (by simp) _ e⟩⟩
 item:=λi d W s hd st S w r hw=>by
  have hi:i<(bT xs ys).length:=by
   by_cases q:i<(bT xs ys).length
   ·exact q
   ·rw[E7 (pO (by assumption))] at hd;exact ab hd
  rw[j1 (ej (by assumption))] at st;refine bw (zP hd) λa b ha hb e4_=>?_;subst e4_;refine bf (C5 hx r) λr1 r2=>?_;refine ah (r1.get ha) λu hu ru=>?_;refine ah (r2.get hb) λv hv rv=>?_;refine jy st.TO λa0 b0 hTO=>?_;refine bo (id st.i1) λo1 e1 c1 d1=>?_;refine bo (id st.i2) λo2 e2 c2 d2=>?_;refine Vo D st.z st.TI hTO st.i1 st.i2 st.l1.isList st.l2.isList (x:=u) (y:=v) (by simpa using hu) (by simpa using hv)
   λh' k1 k2 k3 k4 k5 k6 k7=>⟨_,rfl,wpAny_letOwnedTupleGo_zip k1 λh'' z1 hs=>?_⟩
  have ne:∀{b o},s.heap.get? b=some o->s.heap.objs.size≠b:=λe q=>by (replace e:=(c5 q)▸e;replace e:=d9▸e);exact ab e
  have keep:∀c o,c∉[z,TO,i1,i2]->s.heap.get? c=some o->h''.get? c=some o:=λc o hc e=>by have a1:=md hc;have a2:=md a1.2;have a3:=md a2.2;exact (hs.2 c a1.1).trans (k7 c o a1.1 a2.1 a3.1 (md a3.2).1 e)
  have rep:∀{d v},am W s.heap d v->am W h'' d v:=λ{d v} r=>am.kb (V:=[z,TO,i1,i2]) (λb o hb ζ q=>keep b o hb q) (λb hb=>.inl (hw b hb)) (λb hb=>.inl hb) d v r;have hn:bL (i+1) (bT xs ys).length=i+1:=j1 (yX (by assumption));refine iM ?_ ?_ (S.extZ (Z:=[z,TO,i1,i2]) (fm_ f1<|fm_ f2<|fm_ f3<|fm_ f4 kD) (Et st) keep) ⟨λb o hb ζ q=>keep b o hb q,λb o hb q=>⟨o,keep b o hb q⟩,aT _,λζ ζ=>rfl⟩
  ·skip;refine⟨s.heap.objs.size,[u,v],rfl,w.new,⟨_,(hs.2 _ (ne st.z)).trans k5,rfl,_,rfl⟩,by refine (?_:2<=sizeLine);decide,u,[v],rfl,rep ru,v,[],rfl,rep rv,rfl⟩
  ·refine aa hn ?_;have q1:∀{c o},c≠z->h'.get? c=some o->h''.get? c=some o:=λhc e=>(hs.2 _ hc).trans e;have old:∀{c o},c∉[z,TO,i1,i2]->s.heap.get? c=some o->h''.get? c=some o:=λ{c o} hc e=>keep c o hc e
   refine⟨z1,old (ni_ D.TIz<|ni_ D.TITO<|ni_ D.TIi1<|ni_ D.TIi2 ww) st.TI,⟨_,_,q1 D.TOz k2⟩,ah k3 λo e r=>⟨o,q1 D.i1z e,r⟩,ah k4 λo e r=>⟨o,q1 D.i2z e,r⟩,
    ay st.l1 λn e=>⟨n,old (ni_ D.l1z<|ni_ D.l1TO<|ni_ D.l1i1<|ni_ D.l1i2 ww) e⟩,ay st.l2 λn e=>⟨n,old (ni_ D.l2z<|ni_ D.l2TO<|ni_ D.l2i1<|ni_ D.l2i2 ww) e⟩⟩
 done:=λs st S=>by
  have hn:bL (bT xs ys).length (bT xs ys).length=bL xs.length ys.length:=by rw[Nat.min_self,ty]
  replace st:=hn▸st;refine jy st.TO λa0 b0 hTO=>?_;refine bo (id st.i1) λo1 e1 c1 d1=>?_;refine bo (id st.i2) λo2 e2 c2 d2=>?_;refine Vp hh D st.z st.TI hTO st.i1 st.i2 st.l1.isList st.l2.isList ?_ λh' k=>?_
  ·by_cases q:xs.length<=ys.length
   ·left;simp;exact NA hx q
   ·right;simp;exact GA hy q
  ·have keep:∀c o,c∉[z,TO,i1,i2]->s.heap.get? c=some o->h'.get? c=some o:=λc o hc e=>by have a1:=md hc;have a2:=md a1.2;have a3:=md a2.2;exact k c o a1.1 a2.1 a3.1 (md a3.2).1 e
   exact dX rfl (S.extZ (Z:=[z,TO,i1,i2]) (fm_ f1<|fm_ f2<|fm_ f3<|fm_ f4 kD) (Et st) keep) ⟨λb o hb ζ q=>keep b o hb q,λb o hb q=>⟨o,keep b o hb q⟩,aT _,λζ ζ=>rfl⟩
 again:=λi s Q st q=>Fb st.z q
end
structure mu (X:Cx) (A:aM) (it:Value) (xs:List PV) (St:Nat->List Addr->List Addr->ae->Prop) (gm:Nat):Prop where
 sub:∀i fp wr s,St i fp wr s->∀b∈wr,b∈fp
 live:∀i fp wr s,St i fp wr s->∀b∈fp,∃o,s.heap.get? b=some o/\cG o=false
 nseq:∀i fp wr s,St i fp wr s->∀b∈wr,∀o,s.heap.get? b=some o->∀its n,o.data≠.seq its n
 frame:∀i fp wr (s s':ae),St i fp wr s->s.gens.size<=s'.gens.size->(∀b∈fp,∀o,s.heap.get? b=some o->s'.heap.get? b=some o)->(∀g,g<s.gens.size->s'.gens[g]?=s.gens[g]?)->St i fp wr s'
 item:∀i d fp wr W s,xs[i]?=some d->St i fp wr s->ai X s->b8 W s.heap->(∀b∈fp,b∉W)->
  al (aq X.prog X.w) A (em it) (λr s'=>∃v fp' wr',r=some v/\am W s'.heap d v/\St (i+1) fp' wr' s'/\ai X s'/\bx wr gm s s'/\(∀b∈fp',b∈fp\/s.heap.get? b=none)/\∀b∈wr',b∈wr\/s.heap.get? b=none) (λζ ζ=>False) s
 done:∀fp wr s,St xs.length fp wr s->ai X s->al (aq X.prog X.w) A (em it) (λr s'=>r=none/\ai X s'/\bx wr gm s s') (λζ ζ=>False) s
 plain:∀i fp wr s tgt v (Q:Unit->ae->Prop),St i fp wr s->Q () s->al (aq X.prog X.w) A (lH tgt it v) Q (λζ ζ=>False) s
structure bg (X:Cx) (O:Orc) (k:Nat):Prop where
 bi:∀f v,fH f=some v->X.mg f=none/\X.mb f=some v
 fn:∀f as d,O.fn f as=some d->fH f=none/\cy f=true/\∃fa,X.mg f=some (.ref fa)/\(∃o fd,X.h0.get? fa=some o/\o.cls=.type "function" /\o.data=.func fd)/\
  ∀A s W vs,aK A k->ai X s->b8 W s.heap->ar W s.heap as vs->Ev X A s (call (.ref fa) vs) (λv s'=>am W s'.heap d v)
 dget:∀x as d,O.dget x as=some d->cy x=true/\∃da,X.mg x=some (.ref da)/\
  (∀A s pl (Q:Value×List Value->ae->Prop) E,ai X s->Q (.builtin "dict.get",[.ref da]) s->al (aq X.prog X.w) A (mK (.ref da) "get" pl) Q E s)/\
  ∀A s W vs,aK A 2->ai X s->b8 W s.heap->ar W s.heap as vs->Ev X A s (call (.builtin "dict.get") (.ref da::vs)) (λv s'=>am W s'.heap d v)
 gen:∀f as xs,O.gen f as=some xs->fH f=none/\cy f=true/\∃fa,X.mg f=some (.ref fa)/\(∃o fd,X.h0.get? fa=some o/\o.cls=.type "function" /\o.data=.func fd)/\
  ∀A s W vs,aK A k->ai X s->b8 W s.heap->ar W s.heap as vs->Ev X A s (call (.ref fa) vs) (λx s1=>Ev X A s1 (fY x) (λit s2=>
   ∃St fp wr,mu X A it xs St s.gens.size/\St 0 fp wr s2/\∀b∈fp,s.heap.get? b=none))
 gc:∀x d,O.gc x=some d->cy x=true/\∃v,X.mg x=some v/\∀W h,am W h d v
section
variable {X:Cx} {A:aM} {s:ae} {env:Env} {sc:Scope} {σ:Sg} {own:List (Str×Addr)} {P:List Addr} {O:Orc} {k:Nat}
theorem ap.win (V:ap X sc env σ own P s.heap):b8 (P++av own) s.heap:=λb hb=>by
 rcases be.mp hb with q|q
 ·exact V.pin b q
 ·obtain ⟨⟨x,a⟩,hm,rfl⟩:=dQ.mp q;obtain ⟨_,its,n,e⟩:=V.ownF x a hm;exact au _ e rfl
noncomputable def SN (X:Cx) (A:aM) (sc:Scope) (env:Env) (σ:Sg) (own:List (Str×Addr)) (P:List Addr) (W:List Addr) (e:ac) (d:PV):Prop:=
 ∀s,ai X s->ap X sc env σ own P s.heap->Ev X A s (aJ e env) (λv s'=>am W s'.heap d v)
theorem lQ {α β:Type} {f:α->Option β} {x:α} {xs:List α} {ys:List β} (h:aX f (x::xs)=some ys):∃y r,f x=some y/\aX f xs=some r/\ys=y::r:=by
 revert h;refine (?_:(match f x with|none=>none|some y=>(match aX f xs with|none=>none|some r=>some (y::r)))=some ys->_);refine bB (f x) λo=>bB (aX f xs) λp=>?_
 induction o using bO with
 |none=>exact ab
 |some y=>induction p using bO with
  |none=>exact ab
  |some r=>exact λh=>gw y r rfl rfl (ak h).symm
noncomputable def dB:ac->Bool
 |.Starred .. =>false
 |_=>true
theorem rE {e:ac} {r:List ac} (h:dB e=true):bV (e::r) env=(false,aJ e env)::bV r env:=by
 induction e using bt<;>first|rfl|exact aU h
theorem qu {pos:Pos} {t:bp Value} {r}:bW pos ((false,t)::r)=(false,t)::bW pos r:=rfl
theorem yr {W:List Addr} {pos:Pos} {f:ac->Option PV}:∀(es:List ac) (ds:List PV),(∀e∈es,∀d,f e=some d->dB e=true/\SN X A sc env σ own P W e d)->aX f es=some ds->∀s,ai X s->ap X sc env σ own P s.heap->Ev X A s (d6 (bW pos (bV es env))) (λvs s'=>ar W s'.heap ds vs):=by
 intro es
 induction es with
 |nil=>intro ds _ h s S V;have h_:=ak h;clear h;subst h_;exact Ev.pure S rfl
 |cons e r ih=>
  intro ds hf h s S V;refine bw (lQ h) λd ds' hd hr e4_=>?_;subst e4_;refine bf (hf e (.head _) d hd) λhn he=>?_;refine aa (rE hn) (aa qu ?_)
  show Ev X A s (do
   let v <- aJ e env
   let here <- (pure [v]:bp (List Value))
   return here++(<- holding here (d6 (bW pos (bV r env))))) _
  refine Ev.bind (he s S V) λv s1 S1 k1 rv=>?_;refine Ev.bind (P:=λl s'=>l=[v]/\s'=s1) (Ev.pure S1 ⟨rfl,rfl⟩) λl s2 S2 k2 h_0=>bf h_0 λe1 e2=>?_;subst e1 e2;refine Ev.bind (Ev.holding (ih ds' (λx hx=>hf x (.tail _ hx)) hr s2 S2 (V.keep k1.kb))) λvs s3 S3 k3 rvs=>?_;exact Ev.pure S3 ⟨v,vs,rfl,rv.keep k3.kb,rvs⟩
theorem xO {pos:Pos}:∀(es:List ac),(∀e∈es,dB e=true)->(bW pos (bV es env)).any (·.1)=false
 |[],_=>rfl
 |e::r,h=>by rewrite[rE (h e (.head _))];refine aa qu ?_;simp only[j6,yY];exact xO r λx hx=>h x (.tail _ hx)
theorem sY {f:Value} {es:List ac} {pos:Pos} {Q:List Value->ae->Prop} (hn:∀e∈es,dB e=true) (h:Ev X A s (d6 (bW pos (bV es env))) Q):Ev X A s (Fc f true (bW pos (bV es env)) []) (λa s'=>a.kw=[]/\Q a.pos s'):=by
 induction es using aF with
 |nil=>refine (?_:Ev X A s (Fc f true [] []) _);unfold Fc;have h:Ev X A s (d6 []) Q:=h;refine (?_:Ev X A s (d6 []>>=_) _);exact aj (ax h (λvs s' h'=>dA (aj (aI (aj (aI (aI ⟨h'.1,h'.2.1,rfl,h'.2.2⟩)))))) λζ ζ x=>x)
 |cons e r=>rw[rE (hn e (.head _)),qu] at h ⊢;exact evalArgs_plain (ax h (λvs s' h'=>⟨h'.1,h'.2.1,rfl,h'.2.2⟩) λζ ζ x=>x)
theorem Lk {t:bp Value} {Q:Value->ae->Prop} (h:Ev X A s t Q):Ev X A s (t>>=λr=>holding [r] point>>=λζ=>pure r) Q:=
 aj (ax h (λζ ζ hr=>aj (dA (yE (aI hr)))) λζ ζ x=>x)
theorem wb {f:Value} {first:List Value} {es:List ac} {pos pos':Pos} {Q:List Value->ae->Prop} {Q':Value->ae->Prop} (hf:∀a,f≠.ref a) (hn:∀e∈es,dB e=true) (h:Ev X A s (d6 (bW pos (bV es env))) Q) (hc:∀vs s',ai X s'->ag [] s s'->Q vs s'->Ev X A s' (call f (first++vs)) Q'):Ev X A s (gX pos' f first (bW pos (bV es env)) []) Q':=by
 unfold gX;refine Ev.bind (Ev.holding (sY hn h)) λa s1 S1 k1 h_1=>bf h_1 λha hq=>?_;refine Ev.bind (P:=λζ s'=>s'=s1) (Ev.at S1 rfl) λζ s2 S2 ζ e=>?_;subst e;have hany:=xO (env:=env) (pos:=pos) es hn;have hk:keeperOf f=pure Vq:=by
  induction f using oe with
  |ref a=>exact absurd rfl (hf a)
  |_=>rfl
 refine aa hk ?_;refine aa hany ?_;refine aj (aI ?_);have:=hc a.pos s2 S2 k1 hq;refine aa ha ?_;exact Lk this
theorem A6 {fa:Addr} {o:d5} {fd:fZ} {first:List Value} {es:List ac} {pos pos':Pos} {Q:List Value->ae->Prop} {Q':Value->ae->Prop} (ho:X.h0.get? fa=some o) (hcl:o.cls=.type "function") (hd:o.data=.func fd) (hn:∀e∈es,dB e=true) (h:Ev X A s (d6 (bW pos (bV es env))) Q) (hc:∀vs s',ai X s'->ag [] s s'->Q vs s'->Ev X A s' (call (.ref fa) (first++vs)) Q'):Ev X A s (gX pos' (.ref fa) first (bW pos (bV es env)) []) Q':=by refine Vr (o:=o) (fd:=fd) (ax (sY hn h) (λa s1 h1=>?_) λζ ζ f=>f);refine eZ h1 λS1 k1 ha hq=>?_;clear h1;refine⟨⟨S1.old.get_of_cls ho (by refine aa hcl ?_;nofun),hd⟩,?_⟩;refine aa ha ?_;exact ax (hc a.pos s1 S1 k1 hq) (λζ ζ h_2=>aL h_2 λq1 q2 q3=>⟨q1,k1.trans q2,q3⟩) λζ ζ f=>f
theorem nn {x:Str} {pos:Pos} {v:Value} (S:ai X s) (V:ap X sc env σ own P s.heap) (hg:bS sc x=true) (hn:cy x=true) (h:X.mg x=some v\/(X.mg x=none/\X.mb x=some v)):Ev X A s (aJ (.Name x pos) env) (λu s'=>u=v/\s'=s):=by
 refine Name_function_global V.kind (V.gl x hg) ?_ (by
  unfold cy at hn;simp only[bn,bne_iff_ne,ne_eq] at hn
  exact decide_eq_false hn.1)
 rcases h with h|⟨h1,h2⟩
 ·exact loadGlobal_global (V.glob▸S.g) h ⟨S,ag.refl,rfl,rfl⟩
 ·exact loadGlobal_builtin (V.glob▸S.g) h1 (V.bi▸S.b) h2 ⟨S,ag.refl,rfl,rfl⟩
end
section
variable {X:Cx} {A:aM} {s:ae} {env:Env} {sc:Scope} {σ:Sg} {own:List (Str×Addr)} {P:List Addr} {O:Orc} {k:Nat} {W V:List Addr}
set_option tactic.hygienic true in
theorem Mm {f:Str} {as:List PV} {vs:List Value} {d:PV} (S:ai X s) (R:aK A 2) (w:b8 W s.heap) (r:ar V s.heap as vs) (h:bX O f as=some d):(∃bv,fH f=some bv/\Ev X A s (call bv vs) (λv s'=>am W s'.heap d v))\/O.fn f as=some d:=by
 have R1:aK A 1:=R.mono (mF _);have e0:sizeLine=16777216:=rfl
 induction as using aF with
 |nil=>exact .inr h
 |cons a0 as=>
  induction a0 using PV.casesOn with
  |list xs=>
   induction as using aF with
   |cons _ _=>exact .inr h
   |nil=>
    delta bX at h;dsimp only at h;refine bw r λv u e2_ r1 e4_=>?_;clear r;subst e2_;subst e4_;refine eQ r1 λl ws e2_ ζ hl hn rr=>?_;clear r1;subst e2_
    split at h
    ·rename_i q;have q:=bc q;subst q;refine ah (gA.mp h) λns h1 e2_=>?_;subst e2_;have e:=tL h1;subst e;exact .inl ⟨_,rfl,(Pi S R1 hl.isList (qA rr)).mono λv s' ζ ζ h=>h⟩
    split at h
    ·rename_i q;have q:=bc q;subst q;have h:=ak h;subst h;refine .inl ⟨_,rfl,call_len_list hl.isList (by simp;exact mH (ij.mpr (by assumption)) (by decide)) ⟨S.tok,ag.toks,⟨s.toks+1,?_⟩⟩⟩;simp[rr.length]
    split at h
    ·rename_i q;have q:=bc q;subst q
     split at h
     ·rename_i y l' h1;have h:=ak h;subst h;have e:=tL h1;subst e;exact .inl ⟨_,rfl,(QY S R1 hl.isList (qA (l:=y::l') rr)).mono λv s' ζ ζ h=>h⟩
     ·exact ab h
    split at h
    ·rename_i q;have q:=bc q;subst q
     split at h
     ·rename_i ns h1
      split at h
      ·rename_i hlt;have h:=ak h;subst h;have e:=tL h1;subst e;exact .inl ⟨_,rfl,RI S w hl.isList (qA rr) (by simpa using hlt)⟩
      ·exact ab h
     ·exact ab h
    ·exact .inr h
  |str x=>
   induction as using aF with
   |cons _ _=>exact .inr h
   |nil=>
    delta bX at h;dsimp only at h;refine bw r λv u e2_ r1 e4_=>?_;clear r;subst e2_;subst e4_;obtain ⟨⟨t,rfl⟩,hx⟩:=r1
    split at h
    ·rename_i q;have q:=bc q;subst q;have h:=ak h;subst h;exact .inl ⟨_,rfl,SBL.len (mH (ij.mpr (by assumption)) (by decide)) ⟨S.tok,ag.toks,⟨_,rfl⟩⟩⟩
    ·exact .inr h
  |tup xs=>
   induction as using aF with
   |cons _ _=>exact .inr h
   |nil=>
    delta bX at h;dsimp only at h;refine bw r λv u e2_ r1 e4_=>?_;clear r;subst e2_;subst e4_;refine eQ r1 λl ws e2_ ζ hl hn rr=>?_;clear r1;subst e2_
    split at h
    ·rename_i q;have q:=bc q;subst q;have h:=ak h;subst h;refine .inl ⟨_,rfl,len_tuple hl (by simp;exact mH (ij.mpr (by assumption)) (by decide)) ⟨S.tok,ag.toks,⟨s.toks+1,?_⟩⟩⟩;simp[rr.length]
    ·exact .inr h
  |bool b=>
   induction as using aF with
   |cons _ _=>exact .inr h
   |nil=>
    delta bX at h;dsimp only at h;refine bw r λv u e2_ r1 e4_=>?_;clear r;subst e2_;subst e4_;have r1:v=.bool b:=r1;subst r1
    split at h
    ·rename_i q;have q:=bc q;subst q;have h:=ak h;subst h;exact .inl ⟨_,rfl,call_int_bool ⟨S.tok,ag.toks,⟨_,rfl⟩⟩⟩
    ·exact .inr h
  |int i=>
   induction as using aF with
   |nil=>
    delta bX at h;dsimp only at h;refine bw r λv u e2_ r1 e4_=>?_;clear r;subst e2_;subst e4_;refine ay r1 λt e1_=>?_;clear r1;subst e1_
    split at h
    ·rename_i q;have q:=bc q;subst q
     split at h
     ·rename_i hl;have h:=ak h;subst h;exact .inl ⟨_,rfl,P.hex_of_int ⟨S.tok,ag.toks,⟨_,rfl⟩,dM hl⟩ (dM hl)⟩
     ·exact ab h
    ·exact .inr h
   |cons a1 as=>
    induction a1 using PV.casesOn with
    |int j=>
     induction as using aF with
     |cons _ _=>exact .inr h
     |nil=>
      delta bX at h;dsimp only at h;obtain ⟨v,u,rfl,r1,v2,u2,rfl,r2,rfl⟩:=r;obtain ⟨t,rfl⟩:=r1;obtain ⟨t2,rfl⟩:=r2
      split at h
      ·rename_i q;have q:=bc q;subst q;have h:=ak h;subst h;exact .inl ⟨_,rfl,(HQ S R1).mono λv s' ζ ζ h=>h⟩
      ·exact .inr h
    |_=>exact .inr h
  |_=>exact .inr h
theorem oI {f:Str} {x:Str} (hb:fH f=none) (hx:(fH x).isSome=true):(f==x)=false:=by
 cases q:f==x with
 |false=>rfl
 |true=>have:=bc q;subst this;replace hx:=hb▸hx;exact aU hx
theorem Ou {f:Str} {as:List PV} {d:PV} (hb:fH f=none) (h:bX O f as=some d):O.fn f as=some d:=by
 have n1:=oI (x:= "sum") hb (by decide+kernel);have n2:=oI (x:= "len") hb (by decide+kernel);have n3:=oI (x:= "max") hb (by decide+kernel);have n4:=oI (x:= "sorted") hb (by decide+kernel);have n5:=oI (x:= "int") hb (by decide+kernel);have n6:=oI (x:= "hex") hb (by decide+kernel)
 induction as using aF with
 |nil=>exact h
 |cons a0 as=>
  induction a0 using PV.casesOn with
  |list xs=>
   induction as using aF with
   |cons _ _=>exact h
   |nil=>delta bX at h;dsimp only at h;replace h:=n1▸h;replace h:=n2▸h;replace h:=n3▸h;replace h:=n4▸h;exact h
  |str x=>
   induction as using aF with
   |cons _ _=>exact h
   |nil=>delta bX at h;dsimp only at h;replace h:=n2▸h;exact h
  |tup xs=>
   induction as using aF with
   |cons _ _=>exact h
   |nil=>delta bX at h;dsimp only at h;replace h:=n2▸h;exact h
  |bool b=>
   induction as using aF with
   |cons _ _=>exact h
   |nil=>delta bX at h;dsimp only at h;replace h:=n5▸h;exact h
  |int i=>
   induction as using aF with
   |nil=>delta bX at h;dsimp only at h;replace h:=n6▸h;exact h
   |cons a1 as=>
    induction a1 using PV.casesOn with
    |int j=>
     induction as using aF with
     |cons _ _=>exact h
     |nil=>delta bX at h;dsimp only at h;replace h:=n3▸h;exact h
    |_=>exact h
  |_=>exact h
theorem xV {f:Str} {fp pos:Pos} {es:List ac} {as:List PV} {d:PV} (OK:bg X O k) (S:ai X s) (V':ap X sc env σ own P s.heap) (R:aK A (k+2)) (hg:bS sc f=true) (w:b8 W s.heap) (hn:∀e∈es,dB e=true) (hO:V=W\/d.flat=true) (he:∀s',ai X s'->ag [] s s'->Ev X A s' (d6 (bW pos (bV es env))) (λvs s'=>ar V s'.heap as vs)) (wV:b8 V s.heap) (hbn:∀f v,fH f=some v->cy f=true) (h:bX O f as=some d):Ev X A s (aJ (.Call (.Name f fp) es [] pos) env) (λv s'=>am W s'.heap d v):=by
 refine (?_:Ev X A s (aJ (.Name f fp) env>>=λg=>gX pos g [] (bW pos (bV es env)) []) _);have fin:∀{g:Value},(∀a,g≠.ref a)->fH f=some g->(∀vs s',ai X s'->ag [] s s'->ar V s'.heap as vs->Ev X A s' (call g vs) (λv s'=>am W s'.heap d v))->
   Ev X A s (aJ (.Name f fp) env>>=λg=>gX pos g [] (bW pos (bV es env)) []) (λv s'=>am W s'.heap d v):=by
  intro g hg' hb hc;refine Ev.bind (nn S V' hg (hbn f g hb) (.inr (OK.bi f g hb))) λg' s1 S1 k1 h_0=>bf h_0 λe1 e2=>?_;subst e1 e2;exact wb hg' hn (he s1 S1 k1) λvs s' S' k' r'=>hc vs s' S' (k1.trans k') r'
 cases hb:fH f with
 |some g=>
  have hg':=Dn hb;refine fin hg' hb λvs s' S' k' r'=>?_;rcases Mm (W:=W) S' (R.mono (b7 _ _)) (w.step k') r' h with ⟨bv,h1,h2⟩|h2
  ·replace h1:=hb▸h1;have h_:=ak h1;clear h1;subst h_;exact h2
  ·have:=(OK.fn f as d h2).1;replace this:=hb▸this;cases this
 |none=>
  have h2:O.fn f as=some d:=Ou hb h;obtain ⟨_,hnm,fa,hm,⟨o,fd,ho,hcl,hd⟩,hc⟩:=OK.fn f as d h2;refine Ev.bind (nn S V' hg hnm (.inl hm)) λg' s1 S1 k1 h_1=>bf h_1 λe1 e2=>?_;subst e1 e2;refine A6 ho hcl hd hn (he s1 S1 k1) λvs s' S' k' r'=>?_;refine (hc A s' V vs (R.mono (gy _ _)) S' (wV.step (k1.trans k')) r').mono λv s2 ζ k2 rv=>?_;rcases hO with hO|hO
  ·exact hO▸rv
  ·exact rv.flat hO
end
noncomputable def my (X:Cx) (A:aM) (tgt:ac) (sc:Scope) (env:Env) (own:List (Str×Addr)) (W:List Addr) (s:ae) (xs:List PV) (it:Value) (s2:ae):Prop:=
 ∃cs cvs St fp wr,iy X A tgt it xs cs cvs St fp wr s.gens.size/\St 0 s2/\ar (wr++W) s2.heap cs cvs/\(∀b∈wr,s.heap.get? b=none)/\(∀b∈fp,b∉W/\b∉aV sc env own)
section
variable {X:Cx} {A:aM} {s s1:ae} {env:Env} {sc:Scope} {σ:Sg} {own:List (Str×Addr)} {P:List Addr} {O:Orc} {k:Nat} {W V:List Addr} {tgt:ac}
theorem ap.wenv_in (V:ap X sc env σ own P s.heap):∀b∈aV sc env own,∃o,s.heap.get? b=some o/\cG o=false:=λb hb=>by
 unfold aV at hb;rcases ao.mp hb with rfl|hb
 ·obtain ⟨m,o,_,_,e,hd,_⟩:=V.ns;exact au o e (fe λvs z=>by replace z:=hd▸z;cases z)
 ·rcases be.mp hb with hb|hb
  ·refine ah (ea hb) λx hm ζ=>?_;refine bN (V.cells x _ hm) λv o e hd=>?_;exact au o e (fe λvs z=>by replace z:=hd▸z;cases z)
  ·obtain ⟨⟨x,a⟩,hm,rfl⟩:=dQ.mp hb;obtain ⟨_,its,n,e⟩:=V.ownF x a hm;exact au _ e rfl
theorem ap.new_out (V:ap X sc env σ own P s.heap) {a:Addr} (h:s.heap.get? a=none):a∉P++av own/\a∉aV sc env own:=by refine⟨λq=>by (refine ah (V.win a q) λo e ζ=>?_;replace e:=h▸e;exact ab e),λq=>?_⟩;refine ah (V.wenv_in a q) λo e ζ=>?_;replace e:=h▸e;exact ab e
theorem ap.seq_out (V:ap X sc env σ own P s.heap) {a:Addr} {o:d5} {its n} (e:s.heap.get? a=some o) (hd:o.data=.seq its n) (ha:a∉P++av own):a∉P++av own/\a∉aV sc env own:=by
 refine⟨ha,λq=>?_⟩;unfold aV at q;rcases ao.mp q with rfl|q
 ·obtain ⟨m,o',_,_,e',hd',_⟩:=V.ns;replace e':=e▸e';have h_:=ak e';clear e';subst h_;replace hd':=hd▸hd';cases hd'
 ·rcases be.mp q with q|q
  ·refine ah (ea q) λx hm ζ=>?_;refine bN (V.cells x _ hm) λv o' e' hd'=>?_;replace e':=e▸e';have h_:=ak e';clear e';subst h_;replace hd':=hd▸hd';cases hd'
  ·exact ha (bG _ q)
theorem kz {W':List Addr} {h h':aP} {ds vs} (r:ar W h ds vs) (k:∀b o,h.get? b=some o->h'.get? b=some o) (hn:∀b∈W',h.get? b=none):ar (W'++W) h' ds vs:=
 ar.kb (V:=[]) (Kb.of_keep k) (λζ q=>nomatch q) (λb hb=>(be.mp hb).elim (λq=>.inr (hn b q)) .inl) ds vs r
theorem QE {d:PV} {x:Value} {xs:List PV} (S:ai X s1) (R:aK A 1) (V:ap X sc env σ own P s1.heap) (kk:ag [] s s1) (r:am (P++av own) s1.heap d x) (h:ny d=some xs):Ev X A s1 (fY x) (λit s2=>my X A tgt sc env own (P++av own) s xs it s2):=by
 have hn:=d9 (h:=s1.heap)
 induction d using PV.casesOn with
 |list ys=>
  have h_:=ak h;clear h;subst h_;refine eQ r λl vs e2_ hl1 hl hlen rr=>?_;clear r;subst e2_;have hne:l≠s1.heap.objs.size:=λq=>by refine ay hl λn e=>?_;clear hl;replace e:=q▸e;replace e:=hn▸e;exact ab e
  refine E4 hl.isList ⟨S.keep bz,ag.keep bz,?_⟩;refine⟨_,vs,_,_,_,Hz R.hh S.new hne rr.length,⟨⟨_,dT _ rfl,rfl,rfl⟩,ay hl λn e=>⟨n,bz _ _ e⟩⟩,kz rr bz (λb hb=>?_),λb hb=>?_,λb hb=>?_⟩
  ·simp at hb;exact hb▸hn
  ·simp at hb;exact hb▸kk.none hn
  ·simp only[ao,ba,or_false] at hb;rcases hb with rfl|rfl
   ·exact V.new_out hn
   ·refine ay hl λn e=>?_;clear hl;exact V.seq_out e rfl hl1
 |tup ys=>
  have h_:=ak h;clear h;subst h_;refine eQ r λl vs e2_ hl1 hl hlen rr=>?_;clear r;subst e2_;have hne:l≠s1.heap.objs.size:=λq=>by refine ah hl λn e ζ=>?_;clear hl;replace e:=q▸e;replace e:=hn▸e;exact ab e
  refine Fa hl ⟨S.keep bz,ag.keep bz,?_⟩;refine⟨_,vs,_,_,_,QU R.hh S.new hne rr.length,⟨⟨_,dT _ rfl,rfl,rfl⟩,ah hl λn e r=>⟨n,bz _ _ e,r⟩⟩,kz rr bz (λb hb=>?_),λb hb=>?_,λb hb=>?_⟩
  ·simp at hb;exact hb▸hn
  ·simp at hb;exact hb▸kk.none hn
  ·simp only[ao,ba,or_false] at hb;rcases hb with rfl|rfl
   ·exact V.new_out hn
   ·obtain ⟨o,e,hc,n,hd⟩:=hl;exact V.seq_out e hd hl1
 |str ys=>
  have h_:=ak h;clear h;subst h_;obtain ⟨⟨t,rfl⟩,hlen⟩:=r;refine wpAny_pyIter_strU ⟨S.keep bz,ag.keep bz,?_⟩;refine⟨[],[],_,_,_,K5 R.hh S.new,⟨_,dT _ rfl,rfl,rfl⟩,rfl,λb hb=>?_,λb hb=>?_⟩
  ·simp at hb;exact hb▸kk.none hn
  ·simp at hb;exact hb▸V.new_out hn
 |_=>exact ab h
theorem Al {r:Addr} {a b:Int} {t u v:cJ} (S:ai X s1) (R:aK A 1) (V:ap X sc env σ own P s1.heap) (kk:ag [] s s1) (hr:Fd s1.heap r a b 1 t u v) (h1:a<=1000000) (h2: -1000000<=a) (h3:b<=1000000) (h4: -1000000<=b):Ev X A s1 (fY (.ref r)) (λit s2=>my X A tgt sc env own (P++av own) s (fU a b) it s2):=by
 have hn:=d9 (h:=s1.heap);refine wpAny_pyIter_range hr (small_one (by lia) (mH (by assumption) (by decide)) (by lia) (mH (by assumption) (by decide))) ⟨S.keep bz,ag.keep bz,?_⟩;refine⟨[],[],_,_,_,OT R.hh S.new,?_,rfl,λc hb=>?_,λc hb=>?_⟩
 ·refine (?_:(s1.heap.push _).get? s1.heap.objs.size=_);refine aa (dT _ rfl) ?_;rw[rangeSize_nat];simp
 ·simp at hb;exact hb▸kk.none hn
 ·simp at hb;exact hb▸V.new_out hn
theorem Iv {n:Int} {t:cJ} (S:ai X s):Ev X A s (call (.type "range") [.int n t]) (λx s1=>∃r t u v,x=.ref r/\Fd s1.heap r 0 n 1 t u v):=
 call_range_1 ⟨S.keep bz,ag.keep bz,_,_,_,_,rfl,dT _ rfl⟩
theorem Us {m n:Int} {t u:cJ} (S:ai X s):Ev X A s (call (.type "range") [.int m t,.int n u]) (λx s1=>∃r t u v,x=.ref r/\Fd s1.heap r m n 1 t u v):=
 call_range_2 ⟨S.keep bz,ag.keep bz,_,_,_,_,rfl,dT _ rfl⟩
theorem TQ {d:PV} {x:Value} {xs:List PV} {ts:List ac} {tn:Nat} {tp:Pos} (S:ai X s1) (R:aK A 1) (V:ap X sc env σ own P s1.heap) (kk:ag [] s s1) (r:am (P++av own) s1.heap d x) (h:ny d=some xs):Ev X A s1 (call (.type "enumerate") [x]) (λy s2=>Ev X A s2 (fY y) (λit s3=>my X A (.Tuple ts tn tp) sc env own (P++av own) s (d8 0 xs) it s3)):=by
 have hn:=d9 (h:=s1.heap);have hn1:s1.heap.get? (s1.heap.objs.size+1)=none:=by
  cases e:s1.heap.get? (s1.heap.objs.size+1) with
  |none=>rfl
  |some o=>exact absurd (fm e) (Vs (eH _))
 have hs:∀b∈[s1.heap.objs.size+1,s1.heap.objs.size],s1.heap.get? b=none:=λb hb=>by
  simp only[ao,ba,or_false] at hb;rcases hb with rfl|rfl
  ·exact hn1
  ·exact hn
 have h1:s1.heap.objs.size+1≠s1.heap.objs.size:=Vt _
 induction d using PV.casesOn with
 |list ys=>
  have h_:=ak h;clear h;subst h_;refine eQ r λl vs e2_ hl1 hl hlen rr=>?_;clear r;subst e2_;have e2:s1.heap.objs.size+1≠l:=λq=>by refine ay hl λn e=>?_;clear hl;replace e:=(c5 q)▸e;replace e:=hn1▸e;exact ab e
  have e3:l≠s1.heap.objs.size:=λq=>by refine ay hl λn e=>?_;clear hl;replace e:=q▸e;replace e:=hn▸e;exact ab e
  refine call_enumerate_list hl.isList λh' he hi ζ hk=>⟨S.keep hk,ag.keep hk,vz he ⟨S.keep hk,ag.refl,?_⟩⟩
  refine⟨_,vs,_,_,_,P6 R.hh (S.fresh hn) (S.fresh hn1) h1 e2 e3 rr.length,⟨⟨_,he⟩,hi,ay hl λn q=>⟨_,hk _ _ q,rfl,n,rfl⟩⟩,kz rr hk hs,λb hb=>kk.none (hs b hb),λb hb=>?_⟩;simp only[ao,ba,or_false] at hb;rcases hb with rfl|rfl|rfl
  ·exact V.new_out hn1
  ·exact V.new_out hn
  ·refine ay hl λn e=>?_;clear hl;exact V.seq_out e rfl hl1
 |tup ys=>
  have h_:=ak h;clear h;subst h_;refine eQ r λl vs e2_ hl1 hl hlen rr=>?_;clear r;subst e2_;have e2:s1.heap.objs.size+1≠l:=λq=>by refine ah hl λn e ζ=>?_;clear hl;replace e:=(c5 q)▸e;replace e:=hn1▸e;exact ab e
  have e3:l≠s1.heap.objs.size:=λq=>by refine ah hl λn e ζ=>?_;clear hl;replace e:=q▸e;replace e:=hn▸e;exact ab e
  refine Oq hl λh' he hi hk=>⟨S.keep hk,ag.keep hk,vz he ⟨S.keep hk,ag.refl,?_⟩⟩
  refine⟨_,vs,_,_,_,J7 R.hh (S.fresh hn) (S.fresh hn1) h1 e2 e3 rr.length,⟨⟨_,he⟩,hi,ah hl λn q r=>⟨_,hk _ _ q,r⟩⟩,kz rr hk hs,λb hb=>kk.none (hs b hb),λb hb=>?_⟩;simp only[ao,ba,or_false] at hb;rcases hb with rfl|rfl|rfl
  ·exact V.new_out hn1
  ·exact V.new_out hn
  ·obtain ⟨o,e,hc,n,hd⟩:=hl;exact V.seq_out e hd hl1
 |str ys=>
  have h_:=ak h;clear h;subst h_;obtain ⟨⟨t,rfl⟩,hlen⟩:=r;refine Vu λh' he hi ζ hk=>⟨S.keep hk,ag.keep hk,vz he ⟨S.keep hk,ag.refl,?_⟩⟩
  refine⟨[],[],_,_,_,C3 R.hh (S.fresh hn) (S.fresh hn1) h1,⟨⟨_,he⟩,hi⟩,rfl,λb hb=>kk.none (hs b hb),λb hb=>V.new_out (hs b hb)⟩
 |_=>exact ab h
theorem QG {x y:Value} {xs ys:List PV} {ts:List ac} {tn:Nat} {tp:Pos} (S:ai X s1) (R:aK A 1) (V:ap X sc env σ own P s1.heap) (kk:ag [] s s1) (r1:am (P++av own) s1.heap (.list xs) x) (r2:am (P++av own) s1.heap (.list ys) y):Ev X A s1 (call (.type "zip") [x,y]) (λz s2=>Ev X A s2 (fY z) (λit s3=>my X A (.Tuple ts tn tp) sc env own (P++av own) s (bT xs ys) it s3)):=by
 have hnew:∀j,s1.heap.get? (s1.heap.objs.size+j)=none:=λj=>by
  cases e:s1.heap.get? (s1.heap.objs.size+j) with
  |none=>rfl
  |some o=>exact absurd (fm e) (pY (gy _ _))
 refine eQ r1 λl1 us e2_ a1 hl1 n1 q1=>?_;clear r1;subst e2_;refine eQ r2 λl2 vs e2_ a2 hl2 n2 q2=>?_;clear r2;subst e2_;have ne:∀{l:Addr} {o:d5} {j:Nat},s1.heap.get? l=some o->l≠s1.heap.objs.size+j:=λe q=>by rw[q,hnew] at e;exact ab e
 refine ay hl1 λm1 e1=>?_;clear hl1;refine ay hl2 λm2 e2=>?_;clear hl2;have hs:∀b∈[s1.heap.objs.size+4,s1.heap.objs.size+3,s1.heap.objs.size+0,s1.heap.objs.size+1],s1.heap.get? b=none:=λb hb=>by
  simp only[ao,ba,or_false] at hb;rcases hb with rfl|rfl|rfl|rfl<;>exact hnew _
 refine Vv ⟨_,e1,rfl,_,rfl⟩ ⟨_,e2,rfl,_,rfl⟩ λh' z1 z2 z3 z4 z5 ζ hk=>⟨S.keep hk,ag.keep hk,Fb z1 ⟨S.keep hk,ag.refl,?_⟩⟩
 have D:kL (s1.heap.objs.size+4) (s1.heap.objs.size+2) (s1.heap.objs.size+3) (s1.heap.objs.size+0) (s1.heap.objs.size+1) l1 l2:=by
  constructor<;>first|exact ne e1|exact ne e2|(intro q;have:=Vw q;lia)
 refine⟨xs++ys,us++vs,_,_,_,Np R.hh D (S.fresh (hnew 4)) (S.fresh (hnew 3)) (S.fresh (hnew 0)) (S.fresh (hnew 1)) q1.length q2.length,?_,kz (q1.append q2) hk hs,λb hb=>kk.none (hs b hb),λb hb=>?_⟩
 ·have:bL 0 (bT xs ys).length=0:=Nat.zero_min _;refine aa this ?_;exact⟨z1,z2,⟨_,_,z3⟩,z4,z5,⟨m1,hk _ _ e1⟩,⟨m2,hk _ _ e2⟩⟩
 ·simp only[ao,ba,or_false] at hb;rcases hb with rfl|rfl|rfl|rfl|rfl|rfl|rfl
  ·exact V.new_out (hnew 4)
  ·exact V.new_out (hnew 2)
  ·exact V.new_out (hnew 3)
  ·exact V.new_out (hnew 0)
  ·exact V.new_out (hnew 1)
  ·exact V.seq_out e1 rfl a1
  ·exact V.seq_out e2 rfl a2
end
section
variable {X:Cx} {A:aM} {s s':ae} {env:Env} {sc:Scope} {σ:Sg} {own own':List (Str×Addr)} {P:List Addr}
theorem ap.wseq (V:ap X sc env σ own P s.heap):∀b∈aV sc env own,b∈P++av own\/s.heap.get? b=none\/∀o,s.heap.get? b=some o->∀its n,o.data≠.seq its n:=by
 intro b hb;unfold aV at hb;rcases ao.mp hb with rfl|hb
 ·obtain ⟨m,o,_,_,e,hd,_⟩:=V.ns;exact .inr (.inr λo' e' its n q=>by replace e':=e▸e';have h_:=ak e';clear e';subst h_;replace q:=hd▸q;cases q)
 ·rcases be.mp hb with hb|hb
  ·refine ah (ea hb) λx hm ζ=>?_;refine bN (V.cells x _ hm) λv o e hd=>?_;exact .inr (.inr λo' e' its n q=>by replace e':=e▸e';have h_:=ak e';clear e';subst h_;replace q:=hd▸q;cases q)
  ·exact .inl (bG _ hb)
theorem SS (h:de own own' s):∀b∈P++av own',b∈P++av own\/s.heap.get? b=none:=λb hb=>
 (be.mp hb).elim (λq=>.inl (bC _ q)) λq=>(h b q).imp (λz=>bG _ z) id
theorem ar.stp {d v} (r:ar (P++av own) s.heap d v) (V:ap X sc env σ own P s.heap) (k:ag (aV sc env own) s s') (h:de own own' s):ar (P++av own') s'.heap d v:=
 ar.kb k.kb V.wseq (SS h) d v r
theorem Ed {it t:Addr} {items:Array Value} (hne:t≠it):∀(n i:Nat) (s:ae) (Q:List Value->ae->Prop),s.heap.IsListIter it t i->s.heap.IsList t items->i+n<=items.size->(∀h',h'.IsListIter it t (i+n)->io it s.heap h'->Q ((items.toList.drop i).take n) {s with heap:=h'})->al (aq X.prog X.w) A (draw (.ref it) n) Q (λζ ζ=>False) s
 |0,i,s,Q,hit,_,_,hQ=>by refine (?_:al _ _ (pure []) Q _ s);exact aI (by simpa using hQ s.heap hit (XN ..))
 |n+1,i,s,Q,hit,ht,hle,hQ=>by
  have hlt:i<items.size:=MA hle;refine (?_:al _ _ (em (.ref it)>>=_) Q _ s);refine aj (Ve hit ht (x:=items[i]) (by simp[hlt]) λh₁ hit₁ hs₁=>?_);refine aj (dA (Ed hne n (i+1) _ _ hit₁ (ht.extBut hs₁.extBut hne) (Ip hle) λh₂ hit₂ hs₂=>aI ?_));have hd:items.toList.drop i=items[i]::items.toList.drop (i+1):=by simp[pZ,hlt]
  have:=hQ h₂ (by rw[show i+(n+1)=i+1+n by exact H0];exact hit₂) (hs₁.trans hs₂);replace this:=hd▸this;replace this:=EW▸this;exact this
theorem Pn {t:Addr} {items:Array Value} {Q:List Value->ae->Prop} (hh:A.handled=none) (ht:s.heap.IsList t items) (hQ:∀h',oo s.heap.objs.size s.heap h'->Q items.toList {s with heap:=h'}):al (aq X.prog X.w) A (Fe (.ref t) items.size none) Q (λζ ζ=>False) s:=by
 have hlt:t≠s.heap.objs.size:=by refine ah ht λo ho ζ=>?_;clear ht;exact ly (fm ho)
 have kk:∀b o,s.heap.get? b=some o->(s.heap.push {cls:=.type "list_iterator",data:=.fields #[.ref t,.int 0 0]}).get? b=some o:=λb o e=>gS _ e;unfold Fe;refine aj ?_;unfold notIterableAtAll;refine aj (yZ ht.typeIs slot_list_iter.lookup ?_);refine aI ?_;simp only[dp,if_false];refine aj (dA (E4 ht ?_));have ht0:(s.heap.push {cls:=.type "list_iterator",data:=.fields #[.ref t,.int 0 0]}).IsList t items:=ah ht λo e r=>⟨o,kk _ _ e,r⟩
 refine aj (dA (Ed hlt items.size 0 _ _ ⟨_,dT _ rfl,rfl,rfl⟩ ht0 (TS) λh₁ hit₁ hs₁=>?_));have hall:UO items.size (List.drop 0 items.toList)=items.toList:=by refine aa qc ?_;exact oh (by simp)
 refine aa hall ?_;rw[if_neg (by simp)];have ht₁:h₁.IsList t items:=ht0.extBut hs₁.extBut hlt;refine aj (dA (Vf hh hit₁ ht₁ (by simp) λh₂ he₂=>?_));simp only[y0,dp,if_false];refine aI (hQ h₂ λb o hb e=>he₂ b o hb (hs₁.extBut b o hb (kk _ _ e)))
noncomputable def ya (X:Cx) (sc:Scope) (env:Env) (own:List (Str×Addr)) (P:List Addr) (s:ae) (σ':Sg) (s':ae):Prop:=
 ∃own',ai X s'/\ag (aV sc env own) s s'/\(∀p∈own',p∈own)/\ap X sc env σ' own' P s'.heap
theorem nM (h:∀p∈own',p∈own):de own own' s:=λb hb=>by refine ah (dQ.mp hb) λp hp e2_=>?_;subst e2_;exact .inl (mJ (h p hp))
theorem wn {t:ac} {r:List ac} (h:dB t=true):gB (t::r) env=(false,js t env)::gB r env:=by
 induction t using bt<;>first|rfl|exact aU h
theorem C6 {fr n} {t:ac} {d:PV} {σ':Sg} (h:bD fr sc n σ t d=some σ'):dB t=true:=by
 induction n using dq with
 |zero=>exact ab h
 |succ n=>induction t using bt<;>first|rfl|exact ab h
theorem Aa {f:Sg->ac->PV->Option Sg}:∀{σ ts xs σ'},gh f σ ts xs=some σ'->ts.length=xs.length
 |_,[],[],_,_=>rfl
 |_,[],_::_,_,h=>ab h
 |_,_::_,[],_,h=>ab h
 |σ,t::ts,x::xs,σ',h=>by
  have h:(match f σ t x with|some σ'=>gh f σ' ts xs|none=>none)=some σ':=h
  set_option smartUnfolding false in refine om h λζ ζ h=>?_
  exact congrArg pM (Aa h)
theorem uC {fr n}:∀{σ ts xs σ'},gh (bD fr sc n) σ ts xs=some σ'->∀t∈ts,dB t=true
 |_,[],_,_,_=>λζ q=>nomatch q
 |_,_::_,[],_,h=>ab h
 |σ,t::ts,x::xs,σ',h=>by
  have h:(match bD fr sc n σ t x with|some σ'=>gh (bD fr sc n) σ' ts xs|none=>none)=some σ':=h
  set_option smartUnfolding false in refine om h λζ h1 h=>?_
  intro t' ht';rcases ao.mp ht' with rfl|q
  ·exact C6 h1
  ·exact uC h t' q
theorem wG {ts:List ac} (h:∀t∈ts,dB t=true):(gB ts env).length=ts.length/\(gB ts env).findIdx? (·.1)=none:=by
 induction ts with
 |nil=>exact⟨rfl,rfl⟩
 |cons t r ih=>rw[wn (h t (.head _))];refine bf (ih λt q=>h t (.tail _ q)) λh1 h2=>?_;refine⟨by simp[h1],?_⟩;refine aa Vx ?_;simp[h2]
noncomputable def w2 (X:Cx) (A:aM) (sc:Scope) (env:Env) (P:List Addr) (f:Sg->ac->PV->Option Sg):Prop:=
 ∀(σ:Sg) (t:ac) (d:PV) (σ':Sg) (s:ae) (own:List (Str×Addr)) (v:Value),f σ t d=some σ'->ai X s->ap X sc env σ own P s.heap->
  am (P++av own) s.heap d v->al (aq X.prog X.w) A (js t env v) (λζ s'=>ya X sc env own P s σ' s') (λζ ζ=>False) s
theorem AI {fr:Bool} {n:Nat} (H:w2 X A sc env P (bD fr sc n)):∀(ts:List ac) (xs:List PV) (σ:Sg) (σ':Sg) (s:ae) (own:List (Str×Addr)) (vs:List Value),gh (bD fr sc n) σ ts xs=some σ'->ai X s->ap X sc env σ own P s.heap->ar (P++av own) s.heap xs vs->al (aq X.prog X.w) A (qd ((gB ts env).map (·.2)) vs) (λζ s'=>ya X sc env own P s σ' s') (λζ ζ=>False) s
 |[],[],σ,σ',s,own,vs,h,S,V,r=>by have h:=jm h;have r:vs=[]:=r;subst h r;exact aI ⟨own,S,ag.refl,λζ q=>q,V⟩
 |[],_::_,_,_,_,_,_,h,_,_,_=>nomatch h
 |_::_,[],_,_,_,_,_,h,_,_,_=>nomatch h
 |t::ts,x::xs,σ,σ',s,own,vs,h,S,V,r=>by
  have h:(match bD fr sc n σ t x with|some σ'=>gh (bD fr sc n) σ' ts xs|none=>none)=some σ':=h;cases h1:bD fr sc n σ t x with
  |none=>replace h:=h1▸h;nomatch h
  |some σ1=>
   replace h:=h1▸h;refine bw r λv vs e2_ r1 r2=>?_;clear r;subst e2_;refine aa (wn (C6 h1)) ?_
   exact aj (dA (ax (H σ t x σ1 s own v h1 S V r1) (λζ s1 h_0=>dI h_0 λown1 S1 k1 ho1 V1=>
    ax (AI H ts xs σ1 σ' s1 own1 vs h S1 V1 (r2.stp V k1 (nM ho1))) (λζ s2 h_1=>dI h_1 λown2 S2 k2 ho2 V2=>⟨own2,S2,k1.trans_own (nM ho1) k2,λp hp=>ho1 p (ho2 p hp),V2⟩) λζ ζ f=>f) λζ ζ f=>f))
theorem An {fr:Bool} {n:Nat} (H:w2 X A sc env P (bD fr sc n)) {ts:List ac} {xs:List PV} {σ σ':Sg} {s:ae} {own:List (Str×Addr)} {vs:List Value} {h':aP} (h:gh (bD fr sc n) σ ts xs=some σ') (S:ai X s) (V:ap X sc env σ own P s.heap) (r:ar (P++av own) s.heap xs vs) (k1:∀b o,s.heap.get? b=some o->h'.get? b=some o):al (aq X.prog X.w) A (qd ((gB ts env).map (·.2)) vs) (λζ s'=>ya X sc env own P s σ' s') (λζ ζ=>False) {s with heap:=h'}:=
 ax (AI H ts xs σ σ' {s with heap:=h'} own vs h (S.keep (tk:=s.toks) k1) (V.keep (Kb.of_keep k1)) (r.keep (Kb.of_keep k1))) (λζ ζ h_2=>dI h_2 λown2 S2 k2 ho V2=>⟨own2,S2,(ag.keep (tk:=s.toks) k1).trans k2,ho,V2⟩) λζ ζ f=>f
theorem Cs {fr:Bool} {n:Nat} {ts:List ac} {xs:List PV} {σ σ':Sg} {W:List Addr} {h0:aP} {vs:List Value} (h:gh (bD fr sc n) σ ts xs=some σ') (r:ar W h0 xs vs):(gB ts env).length=vs.toArray.size:=
 (wG (uC h)).1.trans ((Aa h).trans r.length.symm)
theorem nD {fr:Bool} (hh:A.handled=none):∀(n:Nat),w2 X A sc env P (bD fr sc n)
 |0=>λζ ζ ζ ζ ζ ζ ζ h ζ ζ ζ=>nomatch h
 |n+1=>λσ t d σ' s own v h S V r=>by
  have H:=nD (fr:=fr) hh n
  induction t using bt with
  |Name x p=>
   have h:(if (bb sc x&&(!fr||(σ.lookup x).isNone))=true then some (put σ x (.sh d)) else none)=some σ':=h
   by_cases hx:(bb sc x&&(!fr||(σ.lookup x).isNone))=true
   ·replace h:=(if_pos hx)▸h;have h:=jm h;subst h;exact Ff (oH S V ((bn ..).mp hx).1 r λs' S' k V'=>⟨_,S',k,λp hp=>(cQ hp).1,V'⟩)
   ·replace h:=(if_neg hx)▸h;exact ab h
  |Tuple ts tn tp=>
   induction d using PV.casesOn with
   |tup xs=>refine eQ r λa vs e2_ ha ht hlen rl=>?_;clear r;subst e2_;exact Vy hh ht (Cs h rl) (wG (uC h)).2 λh' hk=>An H h S V rl λb o e=>hk b o (ly (fm e)) e
   |list xs=>refine eQ r λa vs e2_ ha ht hlen rl=>?_;clear r;subst e2_;rw[arm_assign_Tuple];refine aj (dS ?_);unfold unpack;rw[Cs h rl,(wG (uC h)).2];exact aj (dA (Pn hh ht.isList λh' hk=>An H h S V rl λb o e=>hk b o (ly (fm e)) e))
   |_=>exact ab h
  |_=>exact ab h
end
noncomputable def fv (X:Cx) (A:aM) (O:Orc) (n:Nat):Prop:=∀sc σ env own P e d s,pe O n sc σ e=some d->ai X s->ap X sc env σ own P s.heap->Ev X A s (aJ e env) (λv s'=>am (P++av own) s'.heap d v)
noncomputable def iI (X:Cx) (A:aM) (O:Orc) (n:Nat):Prop:=∀sc σ env own P e d s,pa O n sc σ e=some d->ai X s->ap X sc env σ own P s.heap->Ev X A s (aJ e env) (λv s'=>am [] s'.heap d v/\(cz σ e=false->am (P++av own) s'.heap d v))
noncomputable def i5 (X:Cx) (A:aM) (O:Orc) (n:Nat):Prop:=∀sc σ env own P e c s,pT O n sc σ e=some c->ai X s->ap X sc env σ own P s.heap->Ev X A s (isTrue e env (aJ e env)) (λb ζ=>b=c)
noncomputable def yl (X:Cx) (A:aM) (O:Orc) (n:Nat):Prop:=∀sc σ env own P e c s,jh O n sc σ e=some c->ai X s->ap X sc env σ own P s.heap->Ev X A s (y1 e env) (λv ζ=>j4 v c)
noncomputable def kR (X:Cx) (A:aM) (O:Orc) (n:Nat):Prop:=∀sc σ env own P tgt e xs s,cS O n sc σ (dm tgt) e=some xs->ai X s->ap X sc env σ own P s.heap->
 (∀x,qe e env x=pure x)/\Ev X A s (aJ e env) (λx s1=>Ev X A s1 (fY x) (λit s2=>my X A tgt sc env own (P++av own) s xs it s2))
theorem tV {O n sc σ} {e:ac} {d} (h:pe O n sc σ e=some d):dB e=true:=by
 induction n using dq with
 |zero=>exact ab h
 |succ n=>induction e using bt<;>first|rfl|exact ab h
theorem w9 {O n sc σ} {e:ac} {d} (h:pa O n sc σ e=some d):dB e=true:=by
 induction n using dq with
 |zero=>exact ab h
 |succ n=>
  induction e using bt<;>first|rfl|skip
  skip;exact tV h
section
variable {X:Cx} {A:aM} {s:ae} {env:Env} {sc:Scope} {σ:Sg} {own:List (Str×Addr)} {P:List Addr} {O:Orc} {k n:Nat} {W:List Addr}
theorem MK {d:PV} {v:Value} {h:aP} {c:Option Int} (r:am W h d v) (hp:uk (some d)=some c):j4 v c:=by
 induction d using PV.casesOn with
 |none=>have hp:=ak hp;subst hp;subst (r:_=_);exact .none
 |int i=>
  have hp:(if (decide (-2^62<i)&&decide (i<2^62))=true then some (some i) else none)=some c:=hp
  by_cases hc:(decide (-2^62<i)&&decide (i<2^62))=true
  ·replace hp:=(if_pos hc)▸hp;have hp:=ak hp;subst hp;obtain ⟨t,rfl⟩:=r;exact .int i t
  ·replace hp:=(if_neg hc)▸hp;exact ab hp
 |_=>exact ab hp
theorem pr (V:ap X sc env σ own P s.heap) {x:Str} (h:br sc x=true):cy x=true:=by
 cases e:sc.names.lookup x with
 |none=>delta br at h;replace h:=e▸h;exact aU h
 |some k=>exact V.nm x k e
theorem SI {x:Str} {pos:Pos} {d:PV} (S:ai X s) (V:ap X sc env σ own P s.heap) (hx:br sc x=true) (h:gx σ x=some d):Ev X A s (aJ (.Name x pos) env) (λv s'=>am (P++av own) s'.heap d v):=by exact ah (V.vars x d (BD h)) λv hv r=>iH V hv (pr V hx) ⟨S,ag.refl,r⟩
theorem qZ {W:List Addr}:∀b,b∈([]:List Addr)->b∈W:=λζ q=>nomatch q
theorem u4 {x:Str} {pos:Pos} {d:PV} (S:ai X s) (V:ap X sc env σ own P s.heap) (hx:br sc x=true) (h:fW σ x=some d):Ev X A s (aJ (.Name x pos) env) (λv s'=>am [] s'.heap d v/\(cz σ (.Name x pos)=false->am (P++av own) s'.heap d v)):=by
 refine Hd h (λe=>?_) λxs e h_=>?_
 ·refine ah (V.vars x d e) λv hv r=>?_;exact iH V hv (pr V hx) ⟨S,ag.refl,r.sub qZ,λζ=>r⟩
 ·subst h_;refine fb (V.owns x xs e) λa vs n h1 h2 h3 h4 h5=>?_;refine iH V h2 (pr V hx) ⟨S,ag.refl,?_,λq=>?_⟩
  ·skip;exact iE a vs rfl (λq=>nomatch q) ⟨n,h3⟩ h4 (h5.sub qZ)
  ·have q:(match σ.lookup x with|some (.own _)=>true|_=>false)=false:=q;replace q:=e▸q;exact cL q
theorem TH {d:PV} {v:Value} {h:aP} {s:ae} (hs:s.heap=h) (r:am W h d v) (hd:(∃xs,d=.list xs)\/(∃xs,d=.tup xs)\/∃x,d=.str x):∃T id,Fg (.type T) "__getitem__" =pure (some (.builtin id))/\s.TypeIs v T:=by
 subst hs;rcases hd with ⟨xs,rfl⟩|⟨xs,rfl⟩|⟨x,rfl⟩
 ·refine xk r λa vs e2_ ζ hl ζ=>?_;clear r;subst e2_;exact eT ("list") _ XQ.lookup hl.isList.typeIs
 ·refine xk r λa vs e2_ ζ hl ζ=>?_;clear r;subst e2_;exact eT ("tuple") _ XR.lookup hl.typeIs
 ·obtain ⟨⟨t,rfl⟩,_⟩:=r;exact eT ("str") _ XS.lookup rfl
theorem JF {a k d:PV} (h:fL a k=some d):(∃xs,a=.list xs)\/(∃xs,a=.tup xs)\/∃x,a=.str x:=by
 induction a using PV.casesOn with
 |list xs=>exact .inl ⟨_,rfl⟩
 |tup xs=>exact .inr (.inl ⟨_,rfl⟩)
 |str x=>exact .inr (.inr ⟨_,rfl⟩)
 |_=>exact ab h
theorem MQ {a d:PV} {lo hi st} (h:eG a lo hi st=some d):(∃xs,a=.list xs)\/(∃xs,a=.tup xs)\/∃x,a=.str x:=by
 delta eG at h;refine B0 h λζ h=>?_
 induction a using PV.casesOn with
 |list xs=>exact .inl ⟨_,rfl⟩
 |str xs=>exact .inr (.inr ⟨_,rfl⟩)
 |tup xs=>exact .inr (.inl ⟨_,rfl⟩)
 |_=>exact ab h
theorem CM {value slice:ac} {pos:Pos} {o i:Value} {d d':PV} {V:List Addr} (S:ai X s) (ro:am V s.heap d' o) (hk:(∃xs,d'=.list xs)\/(∃xs,d'=.tup xs)\/∃x,d'=.str x) (h:Ev X A s (sk o i) (λv s'=>am W s'.heap d v)):Ev X A s (do
   dR pos
   let r <- Vz slice (<- getitemInPython o) o i
   letTemporaryGo value o r
   pure r) (λv s'=>am W s'.heap d v):=by
 refine bN (TH rfl ro hk) λT id hl hT=>?_;refine aj (dS (aj ?_));refine aa (getitemInPython_of_ne hT.not_modules) ?_;refine aj (yZ hT hl (aI (aj ?_)));have fin:∀l,Ev X A s (vt l (sk o i)) (λv s'=>am W s'.heap d v):=λl=>xb h;have key:Ev X A s (Vz slice false o i) (λv s'=>am W s'.heap d v):=by
  induction slice using bt with
  |Slice a b c p=>induction c using bO<;>exact fin _
  |_=>exact fin _
 exact ax key (λv s' h_0=>aL h_0 λh1 h2 h3=>aj (wpAny_letTemporaryGo (aI ⟨h1,h2,h3⟩))) λζ ζ f=>f
end
section
variable {X:Cx} {A:aM} {s:ae} {env:Env} {sc:Scope} {σ:Sg} {own:List (Str×Addr)} {P:List Addr} {O:Orc} {k n:Nat} {W:List Addr}
theorem HR {c:Const} {kd:Nat} {pos:Pos} {d:PV} (S:ai X s) (h:yc c=some d):Ev X A s (aJ (.Constant c kd pos) env) (λv s'=>am W s'.heap d v):=by
 induction c using Const.casesOn with
 |none=>have h:=ak h;subst h;exact wpAny_Constant_none ⟨S,ag.refl,rfl⟩
 |bool=>have h:=ak h;subst h;exact wpAny_Constant_bool ⟨S,ag.refl,rfl⟩
 |int=>have h:=ak h;subst h;exact wpAny_Constant_int ⟨S.tok,ag.toks,⟨_,rfl⟩⟩
 |str x=>
  have h:(if aZ x.length=true then some (PV.str x) else none)=some d:=h
  by_cases hl:aZ x.length=true
  ·replace h:=(if_pos hl)▸h;have h:=ak h;subst h;exact wpAny_Constant_str ⟨S.tok,ag.toks,⟨_,rfl⟩,dM hl⟩
  ·replace h:=(if_neg hl)▸h;exact ab h
 |_=>exact ab h
theorem oP {l r:ac} {op:kE} {pos:Pos} {a b d:PV} (R:aK A 1) (S:ai X s) (V:ap X sc env σ own P s.heap) (h1:Ev X A s (aJ l env) (λv s'=>am (P++av own) s'.heap a v)) (h2:∀s',ai X s'->ag [] s s'->Ev X A s' (aJ r env) (λv s'=>am (P++av own) s'.heap b v)) (h:bU op a b=some d):Ev X A s (aJ (.BinOp l op r pos) env) (λv s'=>am (P++av own) s'.heap d v):=by refine VA (ax h1 (λva s1 h_0=>aL h_0 λS1 k1 r1=>?_) λζ ζ f=>f);refine ax (h2 s1 S1 k1) (λvb s2 h_1=>aL h_1 λS2 k2 r2=>?_) λζ ζ f=>f;refine ax (Lj S2 R ((V.keep k1.kb).keep k2.kb).win (r1.keep k2.kb) r2 h) (λv s3 h_2=>aL h_2 λS3 k3 r3=>⟨S3,(k1.trans k2).trans k3,r3⟩) λζ ζ f=>f
theorem IS {x:ac} {pos:Pos} {i:Int} (h1:Ev X A s (aJ x env) (λv s'=>am W s'.heap (.int i) v)):Ev X A s (aJ (.UnaryOp .USub x pos) env) (λv s'=>am W s'.heap (.int (-i)) v):=by refine wpAny_UnaryOp (ax h1 (λva s1 h_3=>aL h_3 λS1 k1 r1=>?_) λζ ζ f=>f);refine ay r1 λt e1_=>?_;clear r1;subst e1_;exact XT ⟨S1.tok,k1.trans ag.toks,⟨_,rfl⟩⟩
theorem RX {op:BoolOp} {f:ac->Option PV} {e e':ac} {es:List ac} {d:PV} (h:lS f op (e::e'::es)=some d):∃d1 c,f e=some d1/\eO d1=some c/\(bif c==(op==.Or) then some d1 else lS f op (e'::es))=some d:=by
 have h:(match f e with|none=>none|some d1=>(match (generalizing:=false) op,eO d1 with|.And,some false=>some d1|.Or,some true=>some d1|_,some _=>lS f op (e'::es)|_,none=>none))=some d:=h
 set_option smartUnfolding false in refine om h λd1 h1 h=>?_
 revert h;refine (?_:(match (generalizing:=false) op,eO d1 with|.And,some false=>some d1|.Or,some true=>some d1|_,some _=>lS f op (e'::es)|_,none=>none)=some d->_);refine bY (eO d1) λt ht=>?_
 induction t using bO with
 |none=>cases op<;>exact ab
 |some c=>exact λh=>⟨d1,c,h1,ht,by cases op<;>induction c using dF<;>exact h⟩
theorem Sa {op:BoolOp} {f:ac->Option Bool} {e:ac} {es:List ac} {d:Bool} (h:nX f op (e::es)=some d):∃c,f e=some c/\(bif c==(op==.Or) then some c else nX f op es)=some d:=by
 revert h;refine (?_:(match (generalizing:=false) op,f e with|.And,some false=>some false|.Or,some true=>some true|_,some _=>nX f op es|_,none=>none)=some d->_);refine bY (f e) λt ht=>?_
 induction t using bO with
 |none=>cases op<;>exact ab
 |some c=>exact λh=>⟨c,rfl,by cases op<;>induction c using dF<;>exact h⟩
set_option backward.match.sparseCases true in
theorem DS {op:BoolOp} {pos:Pos} {f:ac->Option PV} (hf:∀e d s,f e=some d->ai X s->ap X sc env σ own P s.heap->Ev X A s (aJ e env) (λv s'=>am (P++av own) s'.heap d v)):∀(es:List ac) (d:PV) (s:ae),lS f op es=some d->ai X s->ap X sc env σ own P s.heap->Ev X A s (vC pos op (sr es env)) (λv s'=>am (P++av own) s'.heap d v)
 |[],d,s,h,S,V=>ab h
 |[e],d,s,h,S,V=>hf e d s h S V
 |e::e'::es,d,s,h,S,V=>by
  refine bw (RX h) λd1 c h1 hc h=>?_
  ·show Ev X A s (do
    let v <- aJ e env
    dR pos
    let t <- holding [v] (truthy v)
    match op,t with
    |.And,false|.Or,true=>pure v
    |_,_=>vC pos op (sr (e'::es) env)) _
   refine Ev.bind (hf e d1 s h1 S V) λv s1 S1 k1 r1=>?_;refine Ev.bind (Ev.at (P:=λζ s'=>s'=s1) S1 rfl) λζ s2 S2 k2 e2=>?_;subst e2;have V2:=V.keep k1.kb
   have go:∀c,eO d1=some c->(∀s3,ai X s3->ag [] s2 s3->Ev X A s3 (match op,c with
    |.And,false|.Or,true=>pure v
    |_,_=>vC pos op (sr (e'::es) env)) (λv s'=>am (P++av own) s'.heap d v))->Ev X A s2 (do
    let t <- holding [v] (truthy v)
    match op,t with
    |.And,false|.Or,true=>pure v
    |_,_=>vC pos op (sr (e'::es) env)) (λv s'=>am (P++av own) s'.heap d v):=by
    intro c hc hk;refine Ev.bind (Ev.holding (vW S2 r1 hc)) λt s3 S3 k3 e3=>?_;subst e3;exact hk s3 S3 k3
   have more:lS f op (e'::es)=some d->∀s3,ai X s3->ag [] s2 s3->Ev X A s3 (vC pos op (sr (e'::es) env)) (λv s'=>am (P++av own) s'.heap d v):=
    λh s3 S3 k3=>DS hf (e'::es) d s3 h S3 (V2.keep k3.kb)
   ·refine go c hc λs3 S3 k3=>?_;cases op<;>induction c using dF
    ·have h:=ak h;subst h;exact Ev.pure S3 (r1.keep k3.kb)
    ·exact more h s3 S3 k3
    ·exact more h s3 S3 k3
    ·have h:=ak h;subst h;exact Ev.pure S3 (r1.keep k3.kb)
set_option backward.match.sparseCases true in
theorem vZ {op:BoolOp} {f:ac->Option Bool} (hf:∀e d s,f e=some d->ai X s->ap X sc env σ own P s.heap->Ev X A s (isTrue e env (aJ e env)) (λb ζ=>b=d)):∀(es:List ac) (d:Bool) (s:ae),nX f op es=some d->ai X s->ap X sc env σ own P s.heap->Ev X A s (allTrue op es env) (λb ζ=>b=d)
 |[],d,s,h,S,V=>by have h:=ak (show some (op==.And)=some d from h);subst h;exact Ev.pure S rfl
 |e::es,d,s,h,S,V=>by
  show Ev X A s (do
   match op,<- isTrue e env (aJ e env) with
   |.And,false=>pure false
   |.Or,true=>pure true
   |_,_=>allTrue op es env) _
  refine ah (Sa h) λc hc h=>?_
  ·refine Ev.bind (hf e c s hc S V) λb s1 S1 k1 e1=>?_;subst e1;cases op<;>induction b using dF
   ·have h_:=ak h;clear h;subst h_;exact Ev.pure S1 rfl
   ·exact vZ hf es d s1 h S1 (V.keep k1.kb)
   ·exact vZ hf es d s1 h S1 (V.keep k1.kb)
   ·have h_:=ak h;clear h;subst h_;exact Ev.pure S1 rfl
theorem we {t b o:ac} {pos:Pos} {c:Bool} {Q:Value->ae->Prop} (h1:Ev X A s (isTrue t env (aJ t env)) (λx ζ=>x=c)) (h2:∀s',ai X s'->ag [] s s'->Ev X A s' (aJ (if c then b else o) env) Q):Ev X A s (aJ (.IfExp t b o pos) env) Q:=by
 refine wpAny_IfExp (ax h1 (λx s1 h_4=>aL h_4 λS1 k1 e1=>?_) λζ ζ f=>f);subst e1;have:=h2 s1 S1 k1
 induction x using dF
 ·exact ax this (λζ ζ h_5=>aL h_5 λq1 q2 q3=>⟨q1,k1.trans q2,q3⟩) λζ ζ f=>f
 ·exact ax this (λζ ζ h_6=>aL h_6 λq1 q2 q3=>⟨q1,k1.trans q2,q3⟩) λζ ζ f=>f
noncomputable def oL:ac->Bool
 |.Set .. =>false
 |_=>true
theorem Bo {op:nZ} {r:ac} (h:oL r=true):behindInMarks op r=false:=by
 induction r using bt<;>first|rfl|exact aU h
theorem Bz {O n sc σ} {e:ac} {d} (h:pa O n sc σ e=some d):oL e=true:=by
 induction n using dq with
 |zero=>exact ab h
 |succ n=>
  induction e using bt<;>first|rfl|skip
  skip
  induction n using dq with
  |zero=>exact ab h
  |succ n=>exact ab h
theorem Uq {l r:ac} {op:nZ} {pos:Pos} {a b:PV} {c:Bool} (R:aK A 2) (hr:oL r=true) (h1:Ev X A s (aJ l env) (λv s'=>am [] s'.heap a v)) (h2:∀s',ai X s'->ag [] s s'->Ev X A s' (aJ r env) (λv s'=>am [] s'.heap b v)) (h:iA op a b=some c):Ev X A s (aJ (.Compare l [op] [r] pos) env) (λv ζ=>v=.bool c):=by refine wpAny_Compare1 (ax h1 (λva s1 h_7=>aL h_7 λS1 k1 r1=>?_) λζ ζ f=>f) (Bo hr);refine ax (h2 s1 S1 k1) (λvb s2 h_8=>aL h_8 λS2 k2 r2=>?_) λζ ζ f=>f;refine ax (Ci S2 R (r1.keep k2.kb) r2 h) (λv s3 h_9=>aL h_9 λS3 k3 r3=>⟨S3,(k1.trans k2).trans k3,r3⟩) λζ ζ f=>f
theorem IE {l r:ac} {op:nZ} {pos:Pos} {w:bp Value} {a b:PV} {c:Bool} (R:aK A 2) (hr:oL r=true) (h1:Ev X A s (aJ l env) (λv s'=>am [] s'.heap a v)) (h2:∀s',ai X s'->ag [] s s'->Ev X A s' (aJ r env) (λv s'=>am [] s'.heap b v)) (h:iA op a b=some c):Ev X A s (isTrue (.Compare l [op] [r] pos) env w) (λb ζ=>b=c):=by
 rw[arm_isTrue_Compare];refine Ev.bind h1 λva s1 S1 k1 r1=>?_;have e:markedEach [op] [r] (sr [r] env)=[aJ r env]:=by refine (?_:[VB op r (aJ r env)]=_);unfold VB;exact aa (Bo hr) rfl
 refine aa e ?_
 show Ev X A s1 (do
  let rv <- holding [va] (aJ r env)
  dR pos
  let c <- vt [va,rv] (lB op va rv)
  holding [c] (truthy c)) _
 refine Ev.bind (Ev.holding (h2 s1 S1 k1)) λvb s2 S2 k2 r2=>?_;refine Ev.bind (Ev.at (P:=λζ s'=>s'=s2) S2 rfl) λζ s3 S3 k3 e3=>?_;subst e3;refine Ev.bind (xb (Ci S3 R (r1.keep k2.kb) r2 h)) λv s4 S4 k4 e4=>?_;subst e4;exact Ev.holding (vW (W:=[]) (d:=.bool c) S4 rfl rfl)
theorem K7 {es:List ac} {pos:Pos} {ds:List PV} (V:ap X sc env σ own P s.heap) (h:Ev X A s (d6 (bW pos (bV es env))) (λvs s'=>ar (P++av own) s'.heap ds vs)) (hl:aZ ds.length=true):Ev X A s (aJ (.List es pos) env) (λv s'=>am (P++av own) s'.heap (.list ds) v):=
 VC (ax h (λvs s1 h_10=>aL h_10 λS1 k1 r1=>by
  have hle:vs.length<=sizeLine:=by refine aa r1.length ?_;exact dM hl
  exact iM hle (S1.keep bz) (k1.trans (ag.keep bz)) (rG (V.keep k1.kb).win r1 hle)) λζ ζ f=>f)
theorem Om {es:List ac} {kd:Nat} {pos:Pos} {ds:List PV} (V:ap X sc env σ own P s.heap) (h:Ev X A s (d6 (bW pos (bV es env))) (λvs s'=>ar (P++av own) s'.heap ds vs)) (hl:aZ ds.length=true):Ev X A s (aJ (.Tuple es kd pos) env) (λv s'=>am (P++av own) s'.heap (.tup ds) v):=
 VD (ax h (λvs s1 h_11=>aL h_11 λS1 k1 r1=>by
  have hle:vs.length<=sizeLine:=by refine aa r1.length ?_;exact dM hl
  exact iM hle (S1.keep bz) (k1.trans (ag.keep bz)) (Cq (V.keep k1.kb).win r1 hle)) λζ ζ f=>f)
theorem Hv {v:ac} {lo hi st:Option ac} {sp pos:Pos} {a d:PV} {cl ch cs:Option Int} (S:ai X s) (V:ap X sc env σ own P s.heap) (h1:Ev X A s (aJ v env) (λv s'=>am (P++av own) s'.heap a v)) (h2:∀s',ai X s'->ag [] s s'->Ev X A s' (y1 lo env) (λv ζ=>j4 v cl)) (h3:∀s',ai X s'->ag [] s s'->Ev X A s' (y1 hi env) (λv ζ=>j4 v ch)) (h4:∀s',ai X s'->ag [] s s'->Ev X A s' (y1 st env) (λv ζ=>j4 v cs)) (h:eG a cl ch cs=some d):Ev X A s (aJ (.Subscript v (.Slice lo hi st sp) pos) env) (λv s'=>am (P++av own) s'.heap d v):=by
 rw[VE];refine Ev.bind h1 λo s1 S1 k1 r1=>?_;have V1:=V.keep k1.kb;have hsl:Ev X A s1 (aJ (.Slice lo hi st sp) env) (λi s2=>∃sl vl vu vs,i=.ref sl/\s2.heap.IsSliceOf sl vl vu vs/\j4 vl cl/\j4 vu ch/\j4 vs cs):=by refine wpAny_Slice (ax (h2 s1 S1 k1) (λvl s2 h_12=>aL h_12 λS2 k2 p2=>?_) λζ ζ f=>f);refine ax (h3 s2 S2 (k1.trans k2)) (λvu s3 h_13=>aL h_13 λS3 k3 p3=>?_) λζ ζ f=>f;refine ax (h4 s3 S3 ((k1.trans k2).trans k3)) (λvs s4 h_14=>aL h_14 λS4 k4 p4=>?_) λζ ζ f=>f;exact⟨S4.keep bz,((k2.trans k3).trans k4).trans (ag.keep bz),_,vl,vu,vs,rfl,⟨_,dT _ rfl,rfl,rfl⟩,p2,p3,p4⟩
 refine Ev.bind (Ev.holding hsl) λi s2 S2 k2 hi=>?_;obtain ⟨sl,vl,vu,vs,rfl,hs,p1,p2,p3⟩:=hi;have r2:=r1.keep k2.kb;exact CM S2 r2 (MQ h) (Iq S2 (V1.keep k2.kb).win r2 hs p1 p2 p3 h)
theorem DR {v i:ac} {pos:Pos} {a kk d:PV} {W W':List Addr} (hW:∀b,b∈W->b∈W') (h1:Ev X A s (aJ v env) (λv s'=>am W s'.heap a v)) (h2:∀s',ai X s'->ag [] s s'->Ev X A s' (aJ i env) (λv s'=>am W' s'.heap kk v)) (h:fL a kk=some d):Ev X A s (aJ (.Subscript v i pos) env) (λv s'=>am W s'.heap d v):=by rw[VE];refine Ev.bind h1 λo s1 S1 k1 r1=>?_;refine Ev.bind (Ev.holding (h2 s1 S1 k1)) λiv s2 S2 k2 r2=>?_;have r3:=r1.keep k2.kb;exact CM S2 r3 (JF h) (RN S2 r3 (r2.sub hW) h)
end
section
variable {X:Cx} {A:aM} {s:ae} {env:Env} {sc:Scope} {σ:Sg} {own:List (Str×Addr)} {P:List Addr} {O:Orc} {k n:Nat} {W V:List Addr}
theorem Nb {r d:PV} {name:Str} {as:List PV} (h:bM r name as=some d):∃id,uP r name=some id:=by
 induction r using PV.casesOn with
 |str x=>
  induction as using aF with
  |nil=>delta bM at h;dsimp only at h;refine ifs h λq h=>?_;simp only[bn] at q;have hn:=bc q.1.1.1;exact⟨"str.split",by refine aa hn ?_;rfl⟩
  |cons a0 as=>
   induction a0 using PV.casesOn with
   |str y=>
    induction as using aF with
    |nil=>
     delta bM at h;dsimp only at h
     split at h
     ·rename_i q;have hn:=bc q;refine ifs h λq2 h=>?_;simp only[bn] at q2;exact⟨"str.split",by refine aa hn ?_;rfl⟩
     split at h
     ·rename_i q;have hn:=bc q;exact⟨"str.count",by refine aa hn ?_;rfl⟩
     split at h
     ·rename_i q;have hn:=bc q;exact⟨"str.startswith",by refine aa hn ?_;rfl⟩
     split at h
     ·rename_i q;have hn:=bc q;exact⟨"str.endswith",by refine aa hn ?_;rfl⟩
     refine ifs h λq h=>?_;have hn:=bc q;refine ifs h λq2 h=>?_;simp only[bn] at q2;exact⟨"str.join",by refine aa hn ?_;rfl⟩
    |cons a1 as=>
     induction a1 using PV.casesOn with
     |int i=>
      induction as using aF with
      |nil=>exact ab h
      |cons a2 as=>
       induction a2 using PV.casesOn with
       |int j=>
        induction as using aF with
        |nil=>delta bM at h;dsimp only at h;refine ifs h λq h=>?_;simp only[bn,decide_eq_true_eq] at q;have hn:=bc q.1.1.1.1;exact⟨"str.find",by refine aa hn ?_;rfl⟩
        |cons _ _=>exact ab h
       |_=>exact ab h
     |_=>exact ab h
   |list ys=>
    induction as using aF with
    |nil=>
     delta bM at h;dsimp only at h;refine ifs h λq h=>?_;have hn:=bc q
     set_option smartUnfolding false in refine om h λl' hl' h=>?_
     refine ifs h λq2 h=>?_;simp only[bn] at q2;exact⟨"str.join",by refine aa hn ?_;rfl⟩
    |cons _ _=>exact ab h
   |_=>exact ab h
 |list xs=>
  induction as using aF with
  |nil=>exact ab h
  |cons a0 as=>
   induction a0 using PV.casesOn with
   |int k=>
    induction as using aF with
    |nil=>delta bM at h;dsimp only at h;refine ifs h λq h=>?_;have hn:=bc q;exact⟨"list.count",by refine aa hn ?_;rfl⟩
    |cons _ _=>exact ab h
   |str k=>
    induction as using aF with
    |nil=>
     delta bM at h;dsimp only at h;refine ifs h λq h=>?_;have hn:=bc q
     set_option smartUnfolding false in refine om h λl' hl' h=>?_
     exact⟨"list.index",by refine aa hn ?_;rfl⟩
    |cons _ _=>exact ab h
   |_=>exact ab h
 |_=>exact ab h
theorem Cd {o:ac} {name:Str} {m:bp Value} (h:jM o=false):Fh o name env m=m:=by
 induction o using bt with
 |Call f a k p=>
  induction f using bt with
  |Name id q=>
   induction a using aF with
   |nil=>
    induction k using aF with
    |nil=>exact cL h
    |cons _ _=>rfl
   |cons _ _=>rfl
  |_=>rfl
 |_=>rfl
theorem xa {pos:Pos}:∀{es:List ac},(∀e∈es,dB e=true)->(bW pos (bV es env)).all (λx=> !x.1)=true
 |[],_=>rfl
 |e::r,h=>by rewrite[rE (h e (.head _))];refine aa qu ?_;simp only[mO,Bool.not_false,ET];exact xa λx hx=>h x (.tail _ hx)
theorem tY {o:ac} {name:Str} {apos pos:Pos} {args:List ac} {id:String} {Q:List Value->ae->Prop} {QO QF:Value->ae->Prop} (h0:jM o=false) (hp:(apos.endLine==pos.line)=true) (hl:args.length<30) (hn:∀e∈args,dB e=true) (h1:Ev X A s (aJ o env) QO) (hg:∀ov s1 pl (Q:Value×List Value->ae->Prop),ai X s1->ag [] s s1->QO ov s1->Q (.builtin id,[ov]) s1->al (aq X.prog X.w) A (mK ov name pl) Q (λζ ζ=>False) s1) (he:∀ov s',ai X s'->ag [] s s'->QO ov s'->Ev X A s' (d6 (bW pos (bV args env))) Q) (hc:∀ov vs s1 s2,ai X s1->ag [] s s1->QO ov s1->ai X s2->ag [] s1 s2->Q vs s2->Ev X A s2 (call (.builtin id) (ov::vs)) QF):Ev X A s (aJ (.Call (.Attribute o name apos) args [] pos) env) QF:=by
 refine (?_:Ev X A s (Fh o name env (aJ o env)>>=λov=>dR apos.atName>>=λζ=>y2 o name apos pos env ov (args.length+0) (bW pos (bV args env)) []) _);refine aa (Cd h0) ?_;refine Ev.bind h1 λov s1 S1 k1 r1=>?_;refine Ev.bind (Ev.at (P:=λζ s'=>s'=s1) S1 rfl) λζ s2 S2 k2 e2=>?_;subst e2;have hf:y3 (args.length+0) (bW pos (bV args env)) []=true:=by unfold y3;refine aa (xa hn) ?_;exact decide_eq_true hl
 unfold y2;refine aa hf ?_;have hcal:∀ov,calleeOf true o env ov name=mK ov name (do return (<- VF o env).getD true):=λζ=>rfl;rw[hcal];refine aj (dA (hg ov s2 _ _ S2 k1 r1 ?_));have hpos:ss true o env apos pos=pure pos:=by unfold ss;refine aa hp ?_;rfl
 refine (?_:al _ A (ss true o env apos pos>>=_) _ _ s2);refine aa hpos ?_;refine aj (aI ?_);exact wb (λa q=>by cases q) hn (he ov s2 S2 k1 r1) λvs s' S' k' q=>hc ov vs s2 s' S2 k1 r1 S' k' q
theorem u6 {o:ac} {name:Str} {apos pos:Pos} {args:List ac} {r d:PV} {ds:List PV} (R:aK A 2) (w:b8 W s.heap) (h0:jM o=false) (hp:(apos.endLine==pos.line)=true) (hl:args.length<30) (hn:∀e∈args,dB e=true) (h1:Ev X A s (aJ o env) (λv s'=>am V s'.heap r v)) (he:∀s',ai X s'->ag [] s s'->Ev X A s' (d6 (bW pos (bV args env))) (λvs s2=>ar V s2.heap ds vs)) (h:bM r name ds=some d):Ev X A s (aJ (.Call (.Attribute o name apos) args [] pos) env) (λv s'=>am W s'.heap d v):=by refine ay (Nb h) λid hid=>?_;refine tY (id:=id) h0 hp hl hn h1 (λov s1 pl Q ζ ζ r1 q=>D4 r1 hid q) (λov s' S' k' ζ=>he s' S' k') λov vs s1 s2 S1 k1 r1 S2 k2 r2=>?_;refine ah (R9 (W:=W) S2 R ((w.step k1).step k2) (r1.keep k2.kb) r2 h) λid' hid' hc=>?_;replace hid':=hid▸hid';have h_:=ak hid';clear hid';subst h_;exact hc
theorem Gk {x:Str} {xp apos pos:Pos} {args:List ac} {d:PV} {ds:List PV} (OK:bg X O k) (S:ai X s) (VV:ap X sc env σ own P s.heap) (R:aK A 2) (hg:bS sc x=true) (w:b8 V s.heap) (hp:(apos.endLine==pos.line)=true) (hl:args.length<30) (hn:∀e∈args,dB e=true) (hd:d.flat=true) (he:∀s',ai X s'->ag [] s s'->Ev X A s' (d6 (bW pos (bV args env))) (λvs s2=>ar V s2.heap ds vs)) (h:O.dget x ds=some d):Ev X A s (aJ (.Call (.Attribute (.Name x xp) "get" apos) args [] pos) env) (λv s'=>am W s'.heap d v):=by
 obtain ⟨hnm,da,hm,hgm,hc⟩:=OK.dget x ds d h;refine tY (id:= "dict.get") (QO:=λov ζ=>ov=.ref da) rfl hp hl hn ((nn S VV hg hnm (.inl hm)).mono λζ ζ ζ ζ q=>q.1) (λov s1 pl Q S1 ζ r1 q=>?_) (λov s' S' k' ζ=>he s' S' k') λov vs s1 s2 S1 k1 r1 S2 k2 r2=>?_
 ·subst r1;exact hgm A s1 pl Q _ S1 q
 ·subst r1;exact (hc A s2 V vs R S2 ((w.step k1).step k2) r2).mono λv s' ζ ζ rv=>rv.flat hd
end
section
variable {X:Cx} {A:aM} {s s':ae} {env:Env} {sc:Scope} {σ σ':Sg} {own:List (Str×Addr)} {P P' V:List Addr} {O:Orc} {k n:Nat} {W:List Addr}
theorem ap.weaken (VV:ap X sc env σ' [] P s.heap) (h:∀x e,σ.lookup x=some e->σ'.lookup x=some e):ap X sc env σ [] P s.heap:=
 {VV with
  vars:=λx d e=>VV.vars x d (h x _ e)
  owns:=λx xs e=>VV.owns x xs (h x _ e)}
theorem ap.move {h h':aP} (VV:ap X sc env σ [] P h) (k:Kb V h h') (hv:∀b∈V,b∈P\/h.get? b=none\/∀o,h.get? b=some o->∀its n,o.data≠.seq its n) (hl:env.locals∉V) (hc:∀x c,(x,c)∈env.cells->c∉V) (hp:∀b∈P',∃o,h'.get? b=some o/\cG o=false) (hs:∀b∈P',b∈P\/h.get? b=none):ap X sc env σ [] P' h':=
 have e0:∀Q:List Addr,Q++av []=Q:=λQ=>kM Q
 have rep:∀{d v},am (P++av []) h d v->am (P'++av []) h' d v:=λ{d v} r=>by
  rw[e0] at r⊢
  exact am.kb k hv hs d v r
 have va:∀{x v},dv env h x v->dv env h' x v:=λ{x v} r=>by
  rcases r with ⟨h1,m,n,h2⟩|⟨h1,c,e,h2⟩
  ·exact .inl ⟨h1,m,nb n k hl,h2⟩
  ·exact .inr ⟨h1,c,e,ja h2 k (hc x c (ck e))⟩
 {VV with
  pin:=hp
  ns:=ay VV.ns λm n=>⟨m,nb n k hl⟩
  cells:=λx c hm=>ay (VV.cells x c hm) λv n=>⟨v,ja n k (hc x c hm)⟩
  vars:=λx d e=>ah (VV.vars x d e) λv h1 h2=>⟨v,va h1,rep h2⟩
  owns:=λx xs e=>by refine jP (VV.owns x xs e) λa vs n h1 ζ=>?_;exact ab h1
  ownA:=λx y a h=>nomatch h
  ownF:=λx a h=>nomatch h
  ownU:=λx a b h=>nomatch h
  ownP:=λx a h=>nomatch h}
noncomputable def ku (D:Addr) (P:List Addr) (acc:List PV) (s:ae):Prop:=∃vs n,s.heap.get? D=some {cls:=.type "list",data:=.seq vs.toArray n}/\ar P s.heap acc vs
theorem ku.move {D:Addr} {acc:List PV} (a:ku D P acc s) (k:Kb V s.heap s'.heap) (hv:∀b∈V,b∈P\/s.heap.get? b=none\/∀o,s.heap.get? b=some o->∀its n,o.data≠.seq its n) (hD:D∉V) (hs:∀b∈P',b∈P\/s.heap.get? b=none):ku D P' acc s':=by refine bN a λvs n e r=>?_;clear a;exact eT vs n (k D _ hD rfl e) (ar.kb k hv hs acc vs r)
theorem bx.trans {wr gm s s' s''} (a:bx wr gm s s') (b:bx wr gm s' s''):bx wr gm s s'':=
 ⟨a.kb.trans b.kb,λx o hx e=>ay (a.th x o hx e) λo1 e1=>b.th x o1 hx e1,aB a.gsz b.gsz,λi hi=>(b.gk i hi).trans (a.gk i hi)⟩
theorem bx.mono {wr wr' gm gm' s s'} (a:bx wr gm s s') (h:∀b∈wr,b∈wr') (hg:gm'<=gm):bx wr' gm' s s':=
 ⟨a.kb.mono h,λx o hx e=>a.th x o (λq=>hx (h x q)) e,a.gsz,λi hi=>a.gk i (cV hi hg)⟩
theorem bx.of {wr gm s s'} (a:jX wr gm s s'):bx wr gm s s':=⟨a.kb,λx o ζ e=>a.th x o e,a.gsz,a.gk⟩
theorem bx.drop {wr wr' gm s s'} (a:bx wr gm s s') (h:∀b∈wr,b∈wr'\/s.heap.get? b=none):bx wr' gm s s':=
 have ne:∀b o,b∉wr'->s.heap.get? b=some o->b∉wr:=λb o hb e q=>(h b q).elim hb λz=>by replace e:=z▸e;exact ab e
 ⟨λb o hb ht e=>a.kb b o (ne b o hb e) ht e,λb o hb e=>a.th b o (ne b o hb e) e,a.gsz,a.gk⟩
theorem QH {D:Addr} {acc:List PV} {d:PV} {v:Value} {Q:Value->ae->Prop} (S:ai X s) (hD0:X.h0.get? D=none) (hDP:D∈P) (a:ku D P acc s) (r:am P s.heap d v) (hl:acc.length+1<=sizeLine) (h:∀s',ai X s'->bx [D] s.gens.size s s'->ku D P (acc++[d]) s'->s'.gens=s.gens->(∃o,s'.heap.get? D=some o/\cG o=false)->Q .none s'):al (aq X.prog X.w) A (call (.builtin "list.append") [.ref D,v]) Q (λζ ζ=>False) s:=by
 refine bN a λvs n e rl=>?_;clear a;have hle:vs.toArray.size<=sizeLine:=by have:=rl.length;simp;exact TD hl this
 refine VG (items:=vs.toArray) ⟨n,e⟩ (λh' hp hs=>?_) hle;refine ay hp λn' e'=>?_;clear hp;have e2:vs.toArray.push v=(vs++[v]).toArray:=by simp
 replace e':=e2▸e';have kb:Kb [D] s.heap h':=λb o hb ζ q=>(hs.2 b (λz=>hb (gW.mpr (by assumption)))).trans q;have hv:∀b∈[D],b∈P\/s.heap.get? b=none\/∀o,s.heap.get? b=some o->∀its n,o.data≠.seq its n:=λb hb=>by simp at hb;exact .inl (hb▸hDP)
 refine h _ (S.same hD0 (λo q=>by replace q:=e▸q;have h_:=ak q;clear q;subst h_;exact dW rfl (by decide)) hs) (m9 (tk:=s.toks) hs) ⟨vs++[v],n',e',?_⟩ rfl ⟨_,e',rfl⟩;exact ar.kb kb hv (λb hb=>.inl hb) _ _ (rl.append (ar.one r))
theorem uZ {f:ac->Option Bool} (hf:∀e c s,f e=some c->ai X s->ap X sc env σ own P s.heap->Ev X A s (isTrue e env (aJ e env)) (λb ζ=>b=c)):∀(es:List ac) (c0 c:Bool) (s:ae),(c0=true->iG f es=some c)->(c0=false->c=false)->ai X s->ap X sc env σ own P s.heap->
   Ev X A s (lI es c0 λc r=>if r=true then do let ok <- isTrue c env (aJ c env);pure (mP ok) else pure (mP r)) (λb ζ=>b=c)
 |[],c0,c,s,h,h',S,VV=>by
  refine aa vE ?_
  induction c0 using dF
  ·exact Ev.pure S (h' rfl).symm
  ·exact Ev.pure S (ak (show some true=some c from h rfl))
 |e::es,c0,c,s,h,h',S,VV=>by
  rw[sv]
  induction c0 using dF
  ·refine aj ?_;rw[if_neg (by decide)];exact aI (uZ hf es false c s (λq=>aU q) h' S VV)
  ·have h1:=h rfl;refine aa (if_pos rfl) ?_;have h1:(match f e with|some true=>iG f es|some false=>some false|none=>none)=some c:=h1;refine yn h1 (λh2 h1=>?_) λh2 h1=>?_
   ·refine aj (aj (ax (hf e true s h2 S VV) (λb s1 h_0=>aL h_0 λS1 k1 e1=>?_) λζ ζ f=>f));subst e1;exact aI (ax (uZ hf es true c s1 (λζ=>h1) (λq=>cL q) S1 (VV.keep k1.kb)) (λζ ζ h_1=>aL h_1 λq1 q2 q3=>⟨q1,k1.trans q2,q3⟩) λζ ζ f=>f)
   ·have h_:=ak h1;clear h1;subst h_;refine aj (aj (ax (hf e false s h2 S VV) (λb s1 h_2=>aL h_2 λS1 k1 e1=>?_) λζ ζ f=>f));subst e1;exact aI (ax (uZ hf es false false s1 (λq=>aU q) (λζ=>rfl) S1 (VV.keep k1.kb)) (λζ ζ h_3=>aL h_3 λq1 q2 q3=>⟨q1,k1.trans q2,q3⟩) λζ ζ f=>f)
theorem Dx:∀(n:Nat) (σ:Sg) (t:ac) (d:PV) (σ':Sg),bD true sc n σ t d=some σ'->∀x e,σ.lookup x=some e->σ'.lookup x=some e
 |0,_,_,_,_,h=>ab h
 |n+1,σ,t,d,σ',h=>by
  have hL:∀(ts:List ac) (xs:List PV) (σ σ':Sg),gh (bD true sc n) σ ts xs=some σ'->∀x e,σ.lookup x=some e->σ'.lookup x=some e:=by
   intro ts
   induction ts with
   |nil=>
    intro xs σ σ' h x e q
    induction xs using aF with
    |nil=>have h:=ak h;subst h;exact q
    |cons=>exact ab h
   |cons t ts ih=>
    intro xs σ σ' h x e q
    induction xs using aF with
    |nil=>exact ab h
    |cons y ys=>
     have h:(match bD true sc n σ t y with|some σ'=>gh (bD true sc n) σ' ts ys|none=>none)=some σ':=h;cases h1:bD true sc n σ t y with
     |none=>replace h:=h1▸h;exact ab h
     |some σ1=>replace h:=h1▸h;exact ih ys σ1 σ' h x e (Dx n σ t y σ1 h1 x e q)
  induction t using bt with
  |Name y p=>
   have h:(if (bb sc y&&(!true||(σ.lookup y).isNone))=true then some (put σ y (.sh d)) else none)=some σ':=h
   by_cases hx:(bb sc y&&(!true||(σ.lookup y).isNone))=true
   ·replace h:=(if_pos hx)▸h;have h:=ak h;subst h;intro x e q;simp only[bn,Bool.not_true,yY,Option.isNone_iff_eq_none] at hx;rw[cE,if_neg (λz=>by (replace q:=z▸q;replace q:=hx.2▸q);exact ab q)];exact q
   ·replace h:=(if_neg hx)▸h;exact ab h
  |Tuple ts tn tp=>
   induction d using PV.casesOn with
   |tup xs=>exact hL _ _ _ _ h
   |list xs=>exact hL _ _ _ _ h
   |_=>exact ab h
  |_=>exact ab h
noncomputable def oM (g:c9) (env:Env) (it:Value) (loop:bp Fin) (body:bp Fin):bp Fin:=do
 dR g.iter.pos
 match <- em it with
 |none=>pure (.done .next)
 |some v=>
  lH g.target it v
  js g.target env v
  let ok <- lI g.ifs true λc r=>if r=true then do let ok <- isTrue c env (aJ c env);pure (mP ok) else pure (mP r)
  if ok then body else loop
theorem PI (elt:ac) (gens:List c9) (scp:Scope) (pos:Pos) (depth:Nat) (it acc:Value) (env:Env) (g:c9) (hg:gens[depth]?=some g) (ha:(g.is_async==0)=true) (hgs:gens[depth+1]?=none):sw (.ListComp elt gens scp pos) depth it acc env=oM g env it (again (.compLoop (.ListComp elt gens scp pos) depth it acc env))
   ((do let _ <- call (.builtin "list.append") [acc,<- aJ elt env])>>=λ(_:Unit)=>again (.compLoop (.ListComp elt gens scp pos) depth it acc env)):=by
 have h1:(g.is_async != 0)=false:=by simp only[bne,ha];rfl
 unfold sw;simp only[hg,hgs,h1];rfl
theorem OB (elt:ac) (gens:List c9) (scp:Scope) (pos:Pos) (depth:Nat) (it acc:Value) (env:Env) (g g':c9) (hg:gens[depth]?=some g) (ha:(g.is_async==0)=true) (hgs:gens[depth+1]?=some g') (ha':(g'.is_async==0)=true):sw (.ListComp elt gens scp pos) depth it acc env=oM g env it (again (.compLoop (.ListComp elt gens scp pos) depth it acc env)) (do
   let x <- aJ g'.iter env
   dR g'.iter.pos
   let x <- qe g'.iter env x
   let _ <- Fi (.compStart (.ListComp elt gens scp pos) (depth+1) (<- holding [x] (fY x)) acc env) env
   again (.compLoop (.ListComp elt gens scp pos) depth it acc env)):=by
 have h1:(g.is_async != 0)=false:=by simp only[bne,ha];rfl
 have h2:(g'.is_async != 0)=false:=by simp only[bne,ha'];rfl
 unfold sw;simp only[hg,hgs,h1,h2];rfl
end
structure Lp where
 X:Cx
 A:aM
 sc:Scope
 env:Env
 P:List Addr
 D:Addr
 tgt:ac
 it:Value
 xs:List PV
 cs:List PV
 cvs:List Value
 St:Nat->ae->Prop
 fp:List Addr
 wr:List Addr
 gm:Nat
 s0:ae
structure gO (L:Lp):Prop where
 it:iy L.X L.A L.tgt L.it L.xs L.cs L.cvs L.St L.fp L.wr L.gm
 D0:L.X.h0.get? L.D=none
 DP:L.D∈L.P
 fp:∀b∈L.fp,b∉L.P/\b∉aV L.sc L.env []
 Dl:L.D≠L.env.locals
 Dc:∀x,(x,L.D)∉L.env.cells
 wl:∀b∈L.wr,b≠L.env.locals/\∀x,(x,b)∉L.env.cells
 gm:L.gm<=L.s0.gens.size
 hh:L.A.handled=none
structure cT (L:Lp) (σ:Sg) (j:Nat) (acc:List PV) (s:ae):Prop where
 S:ai L.X s
 V:ap L.X L.sc L.env σ [] (L.wr++L.P) s.heap
 st:L.St j s
 cs:ar (L.wr++L.P) s.heap L.cs L.cvs
 acc:ku L.D (L.wr++L.P) acc s
 stp:bx (L.D::(aV L.sc L.env []++L.wr)) L.gm L.s0 s
section
variable {L:Lp} {σ σ':Sg} {j:Nat} {acc acc':List PV} {s s':ae} {wr':List Addr}
theorem gO.Dw (K:gO L):L.D∉L.wr:=λq=>(K.fp L.D (K.it.sub L.D q)).1 K.DP
theorem cT.gm (K:gO L) (F:cT L σ j acc s):L.gm<=s.gens.size:=aB K.gm F.stp.gsz
theorem cT.D_out (K:gO L) (F:cT L σ j acc s):L.D∉aV L.sc L.env []:=λq=>by
 unfold aV at q;rcases ao.mp q with q|q
 ·exact K.Dl q
 ·rcases be.mp q with q|q
  ·refine ah (ea q) λx hm ζ=>?_;exact K.Dc x hm
  ·exact nomatch q
theorem cT.go (K:gO L) (F:cT L σ j acc s) (S':ai L.X s') (V':ap L.X L.sc L.env σ' [] (L.wr++L.P) s'.heap) (a':ku L.D (L.wr++L.P) acc' s') (k:bx (L.D::(aV L.sc L.env []++wr')) s.gens.size s s') (hw:∀b∈wr',s.heap.get? b=none):cT L σ' j acc' s' where
 S:=S'
 V:=V'
 acc:=a'
 st:=K.it.frame j s s' F.st k.gsz (λb hb o e=>by
  refine ah (K.it.live j s F.st b hb) λo' e' ht=>?_;replace e':=e▸e';have h_:=ak e';clear e';subst h_;refine k.kb b o (λq=>?_) ht e;rcases ao.mp q with q|q
  ·exact (K.fp b hb).1 (q▸K.DP)
  ·rcases be.mp q with q|q
   ·exact (K.fp b hb).2 q
   ·replace e:=(hw b q)▸e;exact ab e) k.gk
 cs:=ar.kb k.kb (λb hb=>by
  rcases ao.mp hb with q|q
  ·exact .inl (q▸bG _ K.DP)
  ·rcases be.mp q with q|q
   ·exact (F.V.wseq b q).imp_left λz=>by simpa [av] using z
   ·exact .inr (.inl (hw b q))) (λb hb=>.inl hb) _ _ F.cs
 stp:=F.stp.trans ((k.drop (wr':=L.D::(aV L.sc L.env []++L.wr)) λb hb=>by
  rcases ao.mp hb with q|q
  ·exact .inl (q▸iq)
  ·rcases be.mp q with q|q
   ·exact .inl (bP _ (bC _ q))
   ·exact .inr (hw b q)).mono (λb hb=>hb) (F.gm K))
theorem cT.keep (K:gO L) (F:cT L σ j acc s) (S':ai L.X s') (k:ag [] s s'):cT L σ j acc s':=
 F.go (wr':=[]) K S' (F.V.keep k.kb) (F.acc.move k.kb (λζ q=>nomatch q) (λq=>nomatch q) λb hb=>.inl hb) ((bx.of k).mono (λb hb=>nomatch hb) (aT _)) λζ q=>nomatch q
theorem cT.asg (K:gO L) (F:cT L σ j acc s) {own':List (Str×Addr)} (S':ai L.X s') (k:ag (aV L.sc L.env []) s s') (ho:∀p∈own',p∈([]:List (Str×Addr))) (V':ap L.X L.sc L.env σ' own' (L.wr++L.P) s'.heap):cT L σ' j acc s':=by have e:own'=[]:=List.eq_nil_iff_forall_not_mem.mpr λp hp=>nomatch ho p hp;subst e;refine F.go (wr':=[]) K S' V' (F.acc.move k.kb (λb hb=>(F.V.wseq b hb).imp_left λz=>by simpa [av] using z) (F.D_out K) λb hb=>.inl hb) ((bx.of k).mono (λb hb=>?_) (aT _)) λζ q=>nomatch q;exact bP _ (bC _ hb)
theorem cT.item (K:gO L) (F:cT L σ j acc s) {d:PV} {Q:Option Value->ae->Prop} (hd:L.xs[j]?=some d) (h:∀v s1,al (aq L.X.prog L.X.w) L.A (lH L.tgt L.it v) (λζ s'=>cT L σ (j+1) acc s'/\am (L.wr++L.P) s'.heap d v) (λζ ζ=>False) s1->Q (some v) s1):al (aq L.X.prog L.X.w) L.A (em L.it) Q (λζ ζ=>False) s:=by
 have e0:(L.wr++L.P)++av []=L.wr++L.P:=kM _;have hwin:b8 (L.wr++L.P) s.heap:=e0▸F.V.win;refine ax (K.it.item j d (L.wr++L.P) s hd F.st F.S hwin F.cs (λb hb=>bC _ hb)) (λr s1 h_0=>ah h_0 λv e q=>?_) λζ ζ f=>f;subst e;refine h v s1 (ax q (λζ s' h_1=>eZ h_1 λr st S' k=>⟨?_,r⟩) λζ ζ f=>f);have hv:∀b∈L.wr,b∈L.wr++L.P\/s.heap.get? b=none\/∀o,s.heap.get? b=some o->∀its n,o.data≠.seq its n:=λb hb=>.inl (bC _ hb)
 refine⟨S',F.V.move k.kb hv (λq=>(K.wl _ q).1 rfl) (λx c hm q=>(K.wl c q).2 x hm) (λb hb=>?_) (λb hb=>.inl hb),st,ar.kb k.kb hv (λb hb=>.inl hb) _ _ F.cs,
  F.acc.move k.kb hv K.Dw (λb hb=>.inl hb),F.stp.trans (k.mono (λb hb=>?_) (aT _))⟩
 ·rcases be.mp hb with q|q
  ·exact K.it.live _ _ st b (K.it.sub b q)
  ·refine ah (F.V.pin b hb) λo e ht=>?_;exact au o (k.kb b o (λz=>(K.fp b (K.it.sub b z)).1 q) ht e) ht
 ·exact bP _ (bG _ hb)
structure pq (L:Lp) (σ:Sg) (acc:List PV) (s:ae):Prop where
 S:ai L.X s
 V:ap L.X L.sc L.env σ [] L.P s.heap
 acc:ku L.D L.P acc s
 stp:bx (L.D::(aV L.sc L.env []++L.wr)) L.gm L.s0 s
theorem cT.done (K:gO L) (F:cT L σ L.xs.length acc s) {Q:Option Value->ae->Prop} (h:∀s',pq L σ acc s'->Q none s'):al (aq L.X.prog L.X.w) L.A (em L.it) Q (λζ ζ=>False) s:=by
 refine ax (K.it.done s F.st F.S) (λr s' h_2=>aL h_2 λe S' k=>?_) λζ ζ f=>f;subst e;have hv:∀b∈L.wr,b∈L.wr++L.P\/s.heap.get? b=none\/∀o,s.heap.get? b=some o->∀its n,o.data≠.seq its n:=λb hb=>.inl (bC _ hb)
 refine h s' ⟨S',F.V.move k.kb hv (λq=>(K.wl _ q).1 rfl) (λx c hm q=>(K.wl c q).2 x hm) (λb hb=>?_) (λb hb=>.inl (bG _ hb)),F.acc.move k.kb hv K.Dw (λb hb=>.inl (bG _ hb)),
  F.stp.trans (k.mono (λb hb=>?_) (aT _))⟩
 ·refine ah (F.V.pin b (bG _ hb)) λo e ht=>?_;exact au o (k.kb b o (λz=>(K.fp b (K.it.sub b z)).1 hb) ht e) ht
 ·exact bP _ (bG _ hb)
theorem cT.push (K:gO L) (F:cT L σ j acc s) {d:PV} {v:Value} {Q:Value->ae->Prop} (r:am (L.wr++L.P) s.heap d v) (hl:acc.length+1<=sizeLine) (h:∀s',cT L σ j (acc++[d]) s'->Q .none s'):al (aq L.X.prog L.X.w) L.A (call (.builtin "list.append") [.ref L.D,v]) Q (λζ ζ=>False) s:=
 QH F.S K.D0 (bG _ K.DP) F.acc r hl λs' S' k a' hg hex=>h s' (F.go (wr':=[]) K S'
  (F.V.move k.kb (λb hb=>.inl (by simp at hb;exact hb▸bG _ K.DP)) (λq=>K.Dl (by simp at q;exact q.symm)) (λx c hm q=>K.Dc x (by simp at q;exact q▸hm)) (λb hb=>by
   by_cases q:b=L.D
   ·exact q▸hex
   ·refine ah (F.V.pin b hb) λo e ht=>?_;exact au o (k.kb b o (by simp[q]) ht e) ht) λb hb=>.inl hb) a' (k.mono (λb hb=>by simp at hb;exact hb▸iq) (aT _)) λζ q=>nomatch q)
end
noncomputable def uK (O:Orc) (n:Nat):Prop:=∀(L:Lp) (σ:Sg) (elt:ac) (gens:List c9) (scp:Scope) (pos:Pos) (depth:Nat) (g:c9) (gs:List c9) (ys acc:List PV) (s:ae),
 gM O n L.sc σ elt g gs L.xs=some ys->gens.drop depth=g::gs->L.tgt=g.target->gO L->cT L σ 0 acc s->acc.length+ys.length<=sizeLine->
 (∀m,m<n->fv L.X L.A O m/\i5 L.X L.A O m/\kR L.X L.A O m)->
 j7 (aq L.X.prog L.X.w) L.A (.compLoop (.ListComp elt gens scp pos) depth L.it (.ref L.D) L.env) (λr s'=>r=.ok .next/\pq L σ (acc++ys) s') s
theorem Oo {α:Type} {l:List α} {d:Nat} {g:α} {gs:List α} (h:l.drop d=g::gs):l[d]?=some g/\l.drop (d+1)=gs/\l[d+1]?=gs.head?:=by
 have h1:l[d]?=some g:=by have:=congrArg List.head? h;simpa [Fj] using this
 have h2:l.drop (d+1)=gs:=by
  have:(l.drop d).drop 1=gs:=by refine aa h ?_;rfl
  replace this:=kN▸this;exact this
 exact dX h1 h2 (aA h2 (aa Fj rfl))
section
variable {L:Lp} {σ:Sg} {j:Nat} {acc:List PV} {s:ae} {O:Orc} {n:Nat}
theorem IL {g:c9} {loop body:bp Fin} {Post:Fin->ae->Prop} {d:PV} {σ':Sg} {c:Bool} (K:gO L) (F:cT L σ j acc s) (ht:L.tgt=g.target) (hd:L.xs[j]?=some d) (hT:i5 L.X L.A O n) (h1:bD true L.sc 4 σ g.target d=some σ') (h2:iG (pT O n L.sc σ') g.ifs=some c) (hb:∀s',cT L σ' (j+1) acc s'->al (aq L.X.prog L.X.w) L.A (if c then body else loop) Post (λζ ζ=>False) s'):al (aq L.X.prog L.X.w) L.A (oM g L.env L.it loop body) Post (λζ ζ=>False) s:=by unfold oM;refine aj (dS (aj (F.item K hd λv s1 hlet=>?_)));simp only;refine aj ?_;refine aA ht ?_;refine ax hlet (λζ s2 h_=>bf h_ λF2 r2=>?_) λζ ζ f=>f;have e0:∀Q:List Addr,Q++av []=Q:=λQ=>kM Q;refine aj ?_;refine aa ht ?_;refine ax (nD K.hh 4 σ g.target d σ' s2 [] v h1 F2.S F2.V (by rw[e0];exact r2)) (λζ s3 h_=>dI h_ λown' S3 k3 ho V3=>?_) λζ ζ f=>f;have F3:=F2.asg K S3 k3 ho V3;refine aj ?_;refine ax (uZ (P:=L.wr++L.P) (own:=[]) (σ:=σ') (sc:=L.sc) (f:=pT O n L.sc σ') (λe c s q1 q2 q3=>hT L.sc σ' L.env [] (L.wr++L.P) e c s q1 q2 q3) g.ifs true c s3 (λζ=>h2) (λq=>cL q) F3.S F3.V) (λb s4 h_=>aL h_ λS4 k4 e4=>?_) λζ ζ f=>f;subst e4;exact hb s4 (F3.keep K S4 k4)
set_option tactic.hygienic true in
theorem M9 {asg:Sg->PV->Option Sg} {tst:Sg->Option Bool} {body:Sg->Option (List PV)} {d:PV} {ds:List PV} {ys:List PV} (h:gj asg tst body (d::ds) σ=some ys):∃σ' c,asg σ d=some σ'/\tst σ'=some c/\((c=true/\∃r q,body σ'=some r/\gj asg tst body ds σ=some q/\ys=r++q)\/(c=false/\gj asg tst body ds σ=some ys)):=by
 rw[xA] at h
 split at h
 ·exact ab h
 ·rename_i σ' h1
  split at h
  ·exact ab h
  ·rename_i h2
   set_option smartUnfolding false in refine km h λr q h3 h4 h=>?_
   have h_:=ak h;clear h;subst h_;exact gw σ' true h1 h2 (.inl ⟨rfl,r,q,h3,h4,rfl⟩)
  ·rename_i h2;exact gw σ' false h1 h2 (.inr ⟨rfl,h⟩)
theorem zE {elt:ac} {gens:List c9} {scp:Scope} {pos:Pos} {depth:Nat} {g:c9} {ys:List PV} {body:bp Fin} {pb:Sg->Option (List PV)} (K:gO L) (F:cT L σ 0 acc s) (ht:L.tgt=g.target) (hT:i5 L.X L.A O n) (he:sw (.ListComp elt gens scp pos) depth L.it (.ref L.D) L.env=oM g L.env L.it (again (.compLoop (.ListComp elt gens scp pos) depth L.it (.ref L.D) L.env)) body) (hp:gj (λσ d=>bD true L.sc 4 σ g.target d) (λσ=>iG (pT O n L.sc σ) g.ifs) pb L.xs σ=some ys) (hlen:acc.length+ys.length<=sizeLine) (hb:∀σ' r j acc' s',pb σ'=some r->cT L σ' j acc' s'->acc'.length+r.length<=sizeLine->al (aq L.X.prog L.X.w) L.A body (λfin s''=>fin=.again (.compLoop (.ListComp elt gens scp pos) depth L.it (.ref L.D) L.env)/\cT L σ' j (acc'++r) s'') (λζ ζ=>False) s'):j7 (aq L.X.prog L.X.w) L.A (.compLoop (.ListComp elt gens scp pos) depth L.it (.ref L.D) L.env) (λr s'=>r=.ok .next/\pq L σ (acc++ys) s') s:=by
 refine codeAny_loop rfl (λm s'=>∃i r acc',i+m=L.xs.length/\gj (λσ d=>bD true L.sc 4 σ g.target d) (λσ=>iG (pT O n L.sc σ) g.ifs) pb (L.xs.drop i) σ=some r/\acc'++r=acc++ys/\cT L σ i acc' s')
  (λm s1 h=>?_) L.xs.length ⟨0,ys,acc,jr _,by simpa using hp,rfl,F⟩
 refine (?_:al _ L.A ((sw (.ListComp elt gens scp pos) depth L.it (.ref L.D) L.env).onRaise (λx=>do vF x L.env;y4 x)) _ _ s1);refine wpAny_noted ?_;refine aa he ?_;refine qY h λi r acc' hi hr hacc F1=>?_;clear h
 induction m using dq with
 |zero=>have hi:i=L.xs.length:=GD hi;subst hi;replace hr:=y5▸hr;simp only[gj,VH] at hr;subst hr;unfold oM;refine aj (dS (aj (ax (F1.done K λs' h=>?_) (λζ ζ q=>q) λζ ζ f=>f.elim)));rw[kM] at hacc;exact aI ⟨rfl,hacc▸h⟩
 |succ m=>
  have hlt:i<L.xs.length:=qR hi;replace hr:=(pZ hlt)▸hr;refine bw (M9 hr) λσ' c h1 h2 h3=>?_;refine ax (IL K F1 ht (gQ hlt) hT h1 h2 λs2 F2=>?_) (λζ ζ q=>q) λζ ζ f=>f.elim;have weak:∀{acc s},cT L σ' (i+1) acc s->cT L σ (i+1) acc s:=λF=>{F with V:=F.V.weaken (Dx 4 σ g.target _ σ' h1)}
  rcases h3 with ⟨rfl,r1,q,hr1,hq,rfl⟩|⟨rfl,hq⟩
  ·refine aa (if_pos rfl) ?_;have hl:acc'.length+r1.length<=sizeLine:=by have:=congrArg eI hacc;simp only[cm] at this;exact G0 hlen this
   refine ax (hb σ' r1 (i+1) acc' s2 hr1 F2 hl) (λfin s3 h_=>bf h_ λe3 F3=>?_) λζ ζ f=>f;subst e3;exact⟨rfl,m,eH _,i+1,q,acc'++r1,nP hi,hq,by rw[ga];exact hacc,weak F3⟩
  ·rw[if_neg (by decide)];exact aI ⟨rfl,m,eH _,i+1,r,acc',nP hi,hq,hacc,weak F2⟩
theorem AY {X:Cx} {A:aM} {elt:ac} {gens:List c9} {scp:Scope} {pos:Pos} {depth:Nat} {it acc:Value} {env:Env} {g:c9} {R:ou->ae->Prop} (hg:gens[depth]?=some g) (ha:(g.is_async==0)=true) (h0:j7 (aq X.prog X.w) A (.compLoop (.ListComp elt gens scp pos) depth it acc env) R s) (h:al (aq X.prog X.w) A (fY it) (λit' s'=>j7 (aq X.prog X.w) A (.compLoop (.ListComp elt gens scp pos) depth it' acc env) R s') (λζ ζ=>False) s):j7 (aq X.prog X.w) A (.compStart (.ListComp elt gens scp pos) depth it acc env) R s:=by
 have h1:(g.is_async != 0)=false:=by simp only[bne,ha];rfl
 refine codeAny_of_tree ?_;refine (?_:al _ _ ((compStart (.ListComp elt gens scp pos) depth it acc env).onRaise (λx=>do vF x env;dR theWindowsPlace)) _ _ s);refine wpAny_notedAt ?_;unfold compStart;have hcl:clausesOf (.ListComp elt gens scp pos)=gens:=rfl;refine aa hcl (aa hg ?_);simp only[Option.elim,h1,dp,if_false];refine (?_:al _ _ (ask>>=_) _ _ s);refine aj (wpAny_askSetting (wpAny_ite ?_))
 split
 ·first
   |exact aj (aI (aI (And.intro rfl h0)))
   |exact aI (And.intro rfl h0)
 ·refine aj (vx ?_);refine (?_:al _ _ (dR g.iter.pos>>=_) _ _ s);exact aj (dS (aj (ax h (λit' s' h'=>aI (And.intro rfl h')) λζ ζ x=>x.elim)))
theorem NC (ih:uK O n):uK O (n+1):=by
 intro L σ elt gens scp pos depth g gs ys acc s h hg ht K F hl hA;skip;refine ifs h λha h=>?_;refine aL (Oo hg) λg1 g2 g3=>?_;refine aL (hA n (eH _)) λhE hT hI=>?_;simp only[bn] at ha;rcases ha with ⟨ha,hall⟩
 have e0:∀Q:List Addr,Q++av []=Q:=λQ=>kM Q
 induction gs using aF with
 |nil=>
  refine zE K F ht hT (PI elt gens scp pos depth L.it (.ref L.D) L.env g g1 ha g3) h hl λσ' r j acc' s' hb F1 hl1=>?_;simp only at hb
  set_option smartUnfolding false in refine om hb λd hd hb=>?_
  have h_:=ak hb;clear hb;subst h_;refine aj (aj (ax (hE L.sc σ' L.env [] (L.wr++L.P) elt d s' hd F1.S F1.V) (λv s2 h_=>aL h_ λS2 k2 r2=>?_) λζ ζ f=>f));rw[e0] at r2;have F2:=F1.keep K S2 k2;refine aj (F2.push K r2 (by simpa using hl1) λs3 F3=>aI ?_);exact aI ⟨rfl,F3⟩
 |cons g' gs'=>
  have haa:(g'.is_async==0)=true:=by simp only[mO,bn] at hall;exact hall.1
  ·refine zE K F ht hT (OB elt gens scp pos depth L.it (.ref L.D) L.env g g' g1 ha g3 haa) h hl λσ' r j acc' s' hb F1 hl1=>?_;simp only at hb
   set_option smartUnfolding false in refine om hb λxs hxs hb=>?_
   refine bf (hI L.sc σ' L.env [] (L.wr++L.P) g'.target g'.iter xs s' hxs F1.S F1.V) λhf hev=>?_;refine aj (ax hev (λx s2 h_=>aL h_ λS2 k2 q2=>?_) λζ ζ f=>f);refine aj (dS (aj (E9 (hf x) (aj (dA (ax q2 (λit s3 h_=>aL h_ λS3 k3 q3=>?_) λζ ζ f=>f))))));rcases q3 with ⟨cs,cvs,St,fp,wr,hit,hst,hcs,hwr,hfp⟩
   rw[e0] at hcs hfp;have k23:=k2.trans k3;have F3:=F1.keep K S3 k23
   let L':Lp:={L with P:=L.wr++L.P,tgt:=g'.target,it:=it,xs:=xs,cs:=cs,cvs:=cvs,St:=St,fp:=fp,wr:=wr,gm:=s'.gens.size,s0:=s3}
   have hloc:∃o,s'.heap.get? L.env.locals=some o:=ay F1.V.ns λm h_=>jP h_ λo ζ ζ e ζ=>⟨o,e⟩
   have K':gO L':=
    {it:=hit,D0:=K.D0,DP:=bG _ K.DP,fp:=hfp,Dl:=K.Dl,Dc:=K.Dc,gm:=k23.gsz,hh:=K.hh,
     wl:=λb hb=>⟨λq=>(by refine ay hloc λo e=>?_;clear hloc;replace e:=(c5 q)▸e;replace e:=(hwr b hb)▸e;exact ab e),λx hm=>(by refine bN (F1.V.cells x b hm) λv o e ζ=>?_;replace e:=(hwr b hb)▸e;exact ab e)⟩}
   have hpin:∀b∈wr++(L.wr++L.P),∃o,s3.heap.get? b=some o/\cG o=false:=λb hb=>by
    rcases be.mp hb with q|q
    ·exact hit.live 0 s3 hst b (hit.sub b q)
    ·exact F3.V.pin b q
   have hsub:∀b∈wr++(L.wr++L.P),b∈L.wr++L.P\/s'.heap.get? b=none:=λb hb=>(be.mp hb).elim (λq=>.inr (hwr b q)) .inl;have F':cT L' σ' 0 acc' s3:=
    {S:=S3,V:=F1.V.move k23.kb (λb hb=>nomatch hb) (λq=>nomatch q) (λx c ζ q=>nomatch q) hpin hsub,st:=hst,cs:=hcs,
     acc:=F1.acc.move k23.kb (λb hb=>nomatch hb) (λq=>nomatch q) hsub,stp:=⟨Kb.refl,λb o ζ e=>⟨o,e⟩,aT _,λζ ζ=>rfl⟩}
   have hin:=ih L' σ' elt gens scp pos (depth+1) g' gs' r acc' s3 hb g2 rfl K' F' hl1 λm hm=>hA m (yS hm);have done:∀s4,pq L' σ' (acc'++r) s4->cT L σ' j (acc'++r) s4:=λs4 H=>by
    have hk:bx (L.D::(aV L.sc L.env []++wr)) s'.gens.size s' s4:=
     ((bx.of k23).mono (λb hb=>nomatch hb) (aT _)).trans H.stp
    exact F1.go (wr':=wr) K H.S H.V H.acc hk hwr
   refine aj (wpAny_runOwn ?_);have hcs:=hit.again 0 s3 (Q:=λit' s'=>j7 (aq L.X.prog L.X.w) L.A (.compLoop (.ListComp elt gens scp pos) (depth+1) it' (.ref L.D) L.env) (λr' s'=>r'=.ok .next/\pq L' σ' (acc'++r) s') s') hst hin;refine y6 (AY g3 haa hin hcs) λr' s4 h_=>bf h_ λe4 H=>?_;subst e4;exact aI ⟨rfl,done s4 H⟩
end
theorem l7:∀{names:List (Str×fq)} {x:Str} {k:fq},ew names=true->(x,k)∈names->names.lookup x=some k
 |[],_,_,_,h=>nomatch h
 |(y,k')::r,x,k,hn,h=>by
  rw[Cz] at hn;simp only[bn,kK,Fk,beq_iff_eq] at hn;rcases ao.mp h with q|q
  ·cases q;simp[dP]
  ·have hne:(x==y)=false:=by have:=hn.1 (x,k) q;exact decide_eq_false this
   refine aa cX (aa hne ?_);exact l7 hn.2 q
theorem wq:∀(names:List (Str×fq)) (n:Nat) (acc:List (Str×Addr)),(∀p∈acc,p.2<n)->(∀x y c,(x,c)∈acc->(y,c)∈acc->x=y)->∀x y c,(x,c)∈d7 n names acc->(y,c)∈d7 n names acc->x=y
 |[],n,acc,_,h=>h
 |(name,kind)::r,n,acc,hb,h=>by
  unfold d7
  split
  ·refine wq r (n+1) _ (λp hp=>?_) (λx y c h1 h2=>?_)
   ·rcases ao.mp hp with q|q
    ·subst q;exact eH _
    ·exact yS (hb p q)
   ·rcases ao.mp h1 with q1|q1<;>rcases ao.mp h2 with q2|q2
    ·cases q1;cases q2;rfl
    ·cases q1;exact absurd (hb _ q2) (vi _)
    ·cases q2;exact absurd (hb _ q1) (vi _)
    ·exact h x y c q1 q2
  ·exact wq r n acc hb h
theorem xu:∀(names:List (Str×fq)) (h:aP) (acc:List (Str×Addr)),(∀x c,(x,c)∈acc->∃v,h.IsCell c v)->∀x c,(x,c)∈d7 h.objs.size names acc->∃v,(mQ h names).IsCell c v
 |[],h,acc,ha=>ha
 |(name,kind)::r,h,acc,ha=>by
  unfold d7 mQ
  split
  ·have:=xu r (h.push {cls:=.type "cell",data:=.cell none}) ((name,h.objs.size)::acc) (λx c hm=>?_)
   ·rwa [lG] at this
   ·rcases ao.mp hm with q|q
    ·cases q;exact eT none _ (dT _ rfl) rfl
    ·refine bN (ha x c q) λv o e hd=>?_;exact eT v o (bz _ _ e) hd
  ·exact xu r h acc ha
theorem oX:∀(names:List (Str×fq)) (n:Nat) (acc:List (Str×Addr)) (x:Str) (c:Addr),(x,c)∈d7 n names acc->(x,c)∈acc\/(n<=c/\(x,.cell)∈names)
 |[],n,acc,x,c,h=>.inl h
 |(name,kind)::r,n,acc,x,c,h=>by
  unfold d7 at h
  split at h
  ·rename_i hk;rcases oX r (n+1) _ x c h with q|q
   ·rcases ao.mp q with q|q
    ·cases q;exact .inr ⟨aT _,by refine aa (bc hk) ?_;exact iq⟩
    ·exact .inl q
   ·exact .inr ⟨lE q.1,bP _ q.2⟩
  ·rcases oX r n acc x c h with q|q
   ·exact .inl q
   ·exact .inr ⟨q.1,bP _ q.2⟩
theorem ye:∀(names:List (Str×fq)) (n:Nat) (acc:List (Str×Addr)) (x:Str),((∃c,acc.lookup x=some c)\/(x,.cell)∈names)->∃c,(d7 n names acc).lookup x=some c
 |[],n,acc,x,h=>h.elim id λq=>nomatch q
 |(name,kind)::r,n,acc,x,h=>by
  unfold d7
  split
  ·rename_i hk;refine ye r (n+1) _ x ?_;rcases h with ⟨c,h⟩|h
   ·left;refine aa cX ?_;cases x==name
    ·exact⟨c,h⟩
    ·exact⟨n,rfl⟩
   ·rcases ao.mp h with q|q
    ·cases q;left;exact⟨n,by simp[dP]⟩
    ·exact .inr q
  ·rename_i hk;refine ye r n acc x ?_;rcases h with h|h
   ·exact .inl h
   ·rcases ao.mp h with q|q
    ·cases q;exact absurd rfl hk
    ·exact .inr q
theorem xr:∀(names:List (Str×fq)) (n:Nat) (acc:List (Str×Addr)) (x:Str),(∀k,(x,k)∈names->k≠.cell)->(d7 n names acc).lookup x=acc.lookup x
 |[],n,acc,x,h=>rfl
 |(name,kind)::r,n,acc,x,h=>by
  unfold d7
  split
  ·rename_i hk;refine aa (xr r (n+1) _ x λk q=>h k (bP _ q)) ?_;have hne:(x==name)=false:=by
    cases e:x==name with
    |false=>rfl
    |true=>exact absurd (bc hk) (h kind (by refine aa (bc e) ?_;exact iq))
   exact aa cX (aa hne rfl)
  ·exact xr r n acc x λk q=>h k (bP _ q)
section
variable {X:Cx} {A:aM} {s s':ae} {env:Env} {sc:Scope} {σ σ':Sg} {P:List Addr}
theorem tm {c0:Value} {cl:List (Str×Addr)} (S:ai X s) (hn:ew sc.names=true) (hnm:∀x k,(x,k)∈sc.names->cy x=true) (e1:env.scope.kind=.function) (e2:env.globals=df) (e3:env.builtins=kG) (e4:env.locals=s.heap.objs.size) (e5:env.cells=d7 (s.heap.objs.size+1) sc.names cl) (k1:∀x,sc.names.lookup x=some .local->env.kindOf x=some .local) (k2:∀x,dZ sc x=true->env.kindOf x=some .cell\/env.kindOf x=some .free) (k3:∀x,bS sc x=true->env.kindOf x=some .globalImplicit) (c1:∀x c,(x,c)∈cl->sc.names.lookup x=some .free/\(∃v,s.heap.IsCell c v)/\X.h0.get? c=none) (c2:∀x y c,(x,c)∈cl->(y,c)∈cl->x=y) (c3:∀x,sc.names.lookup x=some .free->∃c,cl.lookup x=some c) (hp:∀b∈P,∃o,s.heap.get? b=some o/\cG o=false) (hv:∀x e,σ.lookup x=some e->sc.names.lookup x=some .free/\∃d c v,e=.sh d/\cl.lookup x=some c/\s.heap.IsCell c (some v)/\am P s.heap d v):ap X sc env σ [] P (mQ (s.heap.push {cls:=c0,data:=.dict #[]}) sc.names):=by
 have kk:∀b o,s.heap.get? b=some o->(mQ (s.heap.push {cls:=c0,data:=.dict #[]}) sc.names).get? b=some o:=λb o e=>sx _ _ _ _ (bz _ _ e)
 have hfresh:∀c,s.heap.objs.size<=c->X.h0.get? c=none:=λc hc=>S.fresh (by
  cases e:s.heap.get? c with
  |none=>rfl
  |some o=>exact absurd (fm e) (pY hc))
 have hmem:∀x c,(x,c)∈env.cells->(x,c)∈cl\/(s.heap.objs.size+1<=c/\(x,.cell)∈sc.names):=λx c hm=>oX _ _ _ _ _ (e5▸hm);have hlt:∀p∈cl,p.2<s.heap.objs.size+1:=λp hp=>by obtain ⟨_,⟨v,o,e,_⟩,_⟩:=c1 p.1 p.2 hp;exact yS (fm e)
 have hsz2:(s.heap.push {cls:=c0,data:=.dict #[]}).objs.size=s.heap.objs.size+1:=lG ..;have e0:∀Q:List Addr,Q++av []=Q:=λQ=>kM Q;have freeLk:∀x,sc.names.lookup x=some .free->env.cells.lookup x=cl.lookup x:=λx hx=>by refine aa e5 ?_;refine xr _ _ _ _ λk hk q=>?_;subst q;have:=l7 hn hk;replace this:=hx▸this;cases this
 exact
 {kind:=e1,glob:=e2,bi:=e3,loc:=k1,gl:=k3
  cel:=λx hx=>⟨k2 x hx,by
   refine aa e5 ?_;refine ye _ _ _ _ ?_
   exact rz hx (λq=>.inr (ck q)) λq=>.inl (c3 x q)⟩
  nm:=λx k hx=>hnm x k (ck hx)
  ns:=⟨λζ=>none,by
   refine aa e4 ?_
   exact v7 _ (#[]) _ (sx _ _ _ _ (dT _ rfl)) rfl (λζ he=>by simp at he) (λζ=>rfl)⟩
  cells:=λx c hm=>by rw[e5,<- hsz2] at hm;exact xu sc.names (s.heap.push {cls:=c0,data:=.dict #[]}) cl (λx c q=>by obtain ⟨_,⟨v,o,e,hd⟩,_⟩:=c1 x c q;exact eT v o (bz _ _ e) hd) x c hm
  apart:=λx y c h1 h2=>by rw[e5] at h1 h2;exact wq _ _ _ hlt c2 x y c h1 h2
  fl:=e4▸hfresh _ (aT _)
  fc:=λx c hm=>(hmem x c hm).elim (λq=>(c1 x c q).2.2) λq=>hfresh c (lE q.1)
  vars:=λx d e=>by
   obtain ⟨hx,d',c,v,q,h1,h2,h3⟩:=hv x _ e;cases q;refine au v (.inr ⟨k2 x (by unfold dZ;exact aa hx rfl),c,(freeLk x hx).trans h1,?_⟩) ?_
   ·refine ah h2 λo e hd=>?_;clear h2;exact au o (kk _ _ e) hd
   ·rw[e0];exact h3.keep (Kb.of_keep kk)
  owns:=λx xs e=>by obtain ⟨_,d',c,v,q,_⟩:=hv x _ e;cases q
  ownA:=λx y a h=>nomatch h
  ownF:=λx a h=>nomatch h
  ownU:=λx a b h=>nomatch h
  ownP:=λx a h=>nomatch h
  pin:=λb hb=>ah (hp b hb) λo e ht=>⟨o,kk _ _ e,ht⟩}
end
noncomputable def fw (env:Env):List (Str×fq)->List (Str×Addr)->List (Str×Addr)
 |[],acc=>acc
 |(x,k)::r,acc=>if k==.free then fw env r ((x,(env.cells.lookup x).getD 0)::acc) else fw env r acc
theorem xH {env x k r acc}:fw env ((x,k)::r) acc=if k==.free then fw env r ((x,(env.cells.lookup x).getD 0)::acc) else fw env r acc:=rfl
theorem wo {env:Env}:∀(names:List (Str×fq)) (acc:List (Str×Addr)) (x:Str) (c:Addr),(x,c)∈fw env names acc->(x,c)∈acc\/((x,.free)∈names/\c=(env.cells.lookup x).getD 0)
 |[],_,_,_,h=>.inl h
 |(y,k)::r,acc,x,c,h=>by
  rw[xH] at h
  split at h
  ·rename_i hk;rcases wo r _ x c h with q|q
   ·rcases ao.mp q with q|q
    ·cases q;exact .inr ⟨by refine aa (bc hk) ?_;exact iq,rfl⟩
    ·exact .inl q
   ·exact .inr ⟨bP _ q.1,q.2⟩
  ·rcases wo r acc x c h with q|q
   ·exact .inl q
   ·exact .inr ⟨bP _ q.1,q.2⟩
theorem wy {env:Env}:∀(names:List (Str×fq)) (acc:List (Str×Addr)) (x:Str),((∃c,acc.lookup x=some c)\/(x,.free)∈names)->∃c,(fw env names acc).lookup x=some c
 |[],_,_,h=>h.elim id λq=>nomatch q
 |(y,k)::r,acc,x,h=>by
  refine aa xH ?_
  split
  ·refine wy r _ x ?_;rcases h with ⟨c,h⟩|h
   ·left;refine aa cX ?_;cases x==y
    ·exact⟨c,h⟩
    ·exact⟨_,rfl⟩
   ·rcases ao.mp h with q|q
    ·cases q;left;exact⟨_,by simp[dP];rfl⟩
    ·exact .inr q
  ·rename_i hk;refine wy r acc x ?_;rcases h with h|h
   ·exact .inl h
   ·rcases ao.mp h with q|q
    ·cases q;exact absurd rfl hk
    ·exact .inr q
theorem DG {env:Env} {scope:Scope} (h:∀x,(x,.free)∈scope.names->∃c,env.cells.lookup x=some c):sy scope env=pure (fw env scope.names []):=by
 simp only[sy];have go:∀(names:List (Str×fq)) (acc:List (Str×Addr)),(∀x,(x,.free)∈names->∃c,env.cells.lookup x=some c)->
   (lI names acc (λx r=>if (x.2==jt)=true then do let a <- sA env x.1;pure (mP ((x.1,a)::r)) else pure (mP r)):bp _)=pure (fw env names acc):=by
  intro names
  induction names with
  |nil=>intro acc _;rfl
  |cons p r ih=>
   intro acc hc;obtain ⟨x,k⟩:=p;rw[sv];refine aa xH ?_
   by_cases hk:(k==jt)=true
   ·simp only[hk,if_true];refine ay (hc x (by refine aa (bc hk) ?_;exact iq)) λc e=>?_;have e2:sA env x=pure c:=by unfold sA;exact aa e rfl
    refine aa e2 (aa e ?_);exact ih _ λy hy=>hc y (bP _ hy)
   ·simp only[hk,dp,if_false];exact ih _ λy hy=>hc y (bP _ hy)
 have e:=go scope.names [] h
 first
  |(refine aa e ?_;rfl)
  |(refine VI ?_ e;rfl)
  |skip
theorem Es {env:Env} {f:Str×fq->Str×fq} (hf:f=λ(n,k)=>if (k==jt&&env.scope.kind==.function&&env.kindOf n==some .cell) then (n,pQ) else (n,k)):∀{names:List (Str×fq)} {x:Str} {k:fq},names.lookup x=some k->(names.map f).lookup x=some k\/(k=.free/\(names.map f).lookup x=some .cell)
 |[],_,_,h=>ab h
 |(n,k')::r,x,k,h=>by
  have ih:=@Es env f hf r x k;subst hf;refine (?_:dP x ((if (k'==jt&&env.scope.kind==.function&&env.kindOf n==some .cell)=true then (n,pQ) else (n,k'))::_)=_\/_/\dP x ((if (k'==jt&&env.scope.kind==.function&&env.kindOf n==some .cell)=true then (n,pQ) else (n,k'))::_)=_);cases hx:x==n with
  |true=>
   simp only[cX,hx] at h;have h_:=ak h;clear h;subst h_
   by_cases hc:(k'==jt&&env.scope.kind==.function&&env.kindOf n==some .cell)=true
   ·refine aa (if_pos hc) ?_;simp only[bn,beq_iff_eq] at hc;exact .inr ⟨hc.1.1,by simp only[cX,hx]⟩
   ·refine aa (if_neg hc) ?_;exact .inl (by simp only[cX,hx])
  |false=>
   simp only[cX,hx] at h
   by_cases hc:(k'==jt&&env.scope.kind==.function&&env.kindOf n==some .cell)=true
   ·refine aa (if_pos hc) ?_;simp only[cX,hx];exact ih h
   ·refine aa (if_neg hc) ?_;simp only[cX,hx];exact ih h
theorem TZ {sc':Scope} {σ:Sg} {x:Str} {e:Ent} (hn:ew sc'.names=true) (h:(dK sc' σ).lookup x=some e):sc'.names.lookup x=some .free/\∃d,e=.sh d/\σ.lookup x=some (.sh d):=by
 have hm:=ck h;unfold dK at hm;obtain ⟨⟨y,k⟩,hy,hs⟩:=Fl.mp hm
 induction k using yB with
 |free=>
  revert hs;refine (?_:(match σ.lookup y with|some (.sh d)=>some (y,Ent.sh d)|_=>none)=some (x,e)->_);refine bY (σ.lookup y) λo q=>?_
  induction o using bO with
  |none=>exact ab
  |some f=>induction f using Ent.casesOn with
   |sh d=>intro hs;cases hs;exact⟨l7 hn hy,d,rfl,q⟩
   |own xs=>exact ab
 |_=>exact ab hs
section
variable {X:Cx} {A:aM} {s:ae} {E:Value->ae->Prop}
theorem Li {scope:Scope} {cl:List (Str×Addr)} {globals:Addr} {qual:Str} {outer:Env} {Q:Env->ae->Prop} (h:Q {scope,locals:=s.heap.objs.size,globals,cells:=d7 (s.heap.objs.size+1) scope.names cl,qual,func:=none,code:=outer.code,frame:=outer.frame,builtins:=outer.builtins}
   {s with heap:=mQ (s.heap.push {cls:=.type "dict",data:=.dict #[]}) scope.names}):
  al (aq X.prog X.w) A (sB scope globals cl [] qual none .none (some outer)) Q E s:=by
 simp only[sB,Option.isSome_some,if_true];refine aj (y7 ?_);refine aj (y8 _ (λζ ζ ζ=>rfl) _ _ _ _ ?_);refine aj ?_;refine aa vE ?_;refine aI (aI ?_);refine aa (show ({s with heap:=s.heap.push {cls:=.type "dict",data:=.dict #[]}}:ae).heap.objs.size=s.heap.objs.size+1 from lG ..) ?_;exact h
end
section
variable {X:Cx} {A:aM} {s:ae} {env:Env} {sc:Scope} {σ:Sg} {own:List (Str×Addr)} {P:List Addr} {O:Orc} {n:Nat} {E:Value->ae->Prop}
theorem xe {sc sc':Scope} (h:nU sc sc'=true):sc'.kind=.function/\ew sc'.names=true/\(∀x k,(x,k)∈sc'.names->cy x=true)/\(∀x,(x,.free)∈sc'.names->dZ sc x=true):=by
 refine o9 h λh1 h2 h3=>?_;have h3:=dG.mp h3;refine iM ?_ h2 (λx k hm=>(od.mp (h3 (x,k) hm)).1) (λx hm=>?_)
 ·revert h1;refine bB sc'.kind λk=>?_;induction k using XU with
  |function=>exact λζ=>rfl
  |_=>exact aU
 ·exact (od.mp (h3 (x,.free) hm)).2
theorem AR {elt:ac} {gens:List c9} {g:c9} {gs:List c9} {scope:Scope} {pos:Pos} {xs ys:List PV} {RR:Value->Addr->ou->ae->Prop} (hg:gens=g::gs) (hsc:nU sc scope=true) (hh:A.handled=none) (S:ai X s) (V:ap X sc env σ own P s.heap) (hI:(∀x,qe g.iter env x=pure x)/\Ev X A s (aJ g.iter env) (λx s1=>Ev X A s1 (fY x) (λit s2=>my X A g.target sc env own (P++av own) s xs it s2))) (ihG:uK O n) (hA:∀m,m<n->fv X A O m/\i5 X A O m/\kR X A O m) (h2:gM O n scope (dK scope σ) elt g gs xs=some ys) (hl:aZ ys.length=true) (hRR:∀D C s',ai X s'->ag [] s s'->s.heap.get? D=none->s.heap.get? C=none->D≠C->(∃m,s'.heap.Ns C m)->ku D (D::(P++av own)) ys s'->RR (.ref D) C (.ok .next) s'):al (aq X.prog X.w) A (aJ g.iter env) (λx s1=>al (aq X.prog X.w) A (fY x) (λit s2=>al (aq X.prog X.w) A (newList []) (λacc s3=>
   al (aq X.prog X.w) A (sB scope env.globals (fw env scope.names []) [] env.qual none .none (some env)) (λcenv s4=>
    j7 (aq X.prog X.w) A (.compStart (.ListComp elt gens scope pos) 0 it acc {cenv with scope:=relabel scope env}) (RR acc cenv.locals) s4) E s3) E s2) E s1) E s:=by
 refine eZ (xe hsc) λq1 q2 q3 q4=>?_;refine ax hI.2 (λx s1 h_0=>aL h_0 λS1 k1 hx=>?_) λζ ζ f=>f.elim;refine ax hx (λit s2 h_1=>aL h_1 λS2 k2 hit=>?_) λζ ζ f=>f.elim;obtain ⟨cs,cvs,St,fp,wr,It,hst,hcs,hwr,hfp⟩:=hit;have k02:=k1.trans k2;have V2:=V.keep k02.kb;refine kJ ?_ (by size_fits);refine bY (({s2 with heap:=s2.heap.push {cls:=.type "list",data:=.seq ([]:List Value).toArray}}:ae)) λs3 hs3=>?_;have S3:ai X s3:=hs3▸S2.keep bz;have k23:ag [] s2 s3:=hs3▸ag.keep bz;have hDn:s2.heap.get? s2.heap.objs.size=none:=d9;have hD3:s3.heap.get? s2.heap.objs.size=some {cls:=.type "list",data:=.seq #[]}:=by refine aA hs3 ?_;exact dT _ rfl
 have hsz3:s3.heap.objs.size=s2.heap.objs.size+1:=by refine aA hs3 ?_;exact lG ..
 have kk23:∀b o,s2.heap.get? b=some o->s3.heap.get? b=some o:=λb o e=>by refine aA hs3 ?_;exact bz b o e
 refine Li ?_;refine bY (({s3 with heap:=mQ (s3.heap.push {cls:=.type "dict",data:=.dict #[]}) scope.names}:ae)) λs4 hs4=>?_;refine bY (({scope,locals:=s3.heap.objs.size,globals:=env.globals,cells:=d7 (s3.heap.objs.size+1) scope.names (fw env scope.names []),qual:=env.qual,func:=none,code:=env.code,frame:=env.frame,builtins:=env.builtins}:Env)) λcenv hce=>?_;have kk34:∀b o,s3.heap.get? b=some o->s4.heap.get? b=some o:=λb o e=>by refine aA hs4 ?_;exact sx _ _ _ _ (bz _ _ e)
 have S4:ai X s4:=by have:=S3.keep (tk:=s3.toks) (h':=s4.heap) kk34;rw[<- hs4] at this ⊢;exact this
 have k34:ag [] s3 s4:=by have:=ag.keep (W:=[]) (s:=s3) (tk:=s3.toks) (h':=s4.heap) kk34;rw[<- hs4] at this ⊢;exact this
 have k03:=k02.trans k23;have k04:=k03.trans k34;have hCn:s3.heap.get? s3.heap.objs.size=none:=d9;have hcl:cenv.locals=s3.heap.objs.size:=aA hce rfl;have hcc:cenv.cells=d7 (s3.heap.objs.size+1) scope.names (fw env scope.names []):=aA hce rfl
 let ce2:Env:={cenv with scope:=relabel scope env}
 have hlk:∀x,(x,jt)∈scope.names->∃c,env.cells.lookup x=some c:=λx hm=>(V.cel x (q4 x hm)).2;have hclo:∀x c,(x,c)∈fw env scope.names []->(x,jt)∈scope.names/\env.cells.lookup x=some c:=λx c hm=>by
  rcases wo _ _ _ _ hm with q|⟨q,e⟩
  ·exact nomatch q
  ·refine ay (hlk x q) λc' e'=>?_;replace e:=e'▸e;exact⟨q,by refine aa e' (aa e ?_);rfl⟩
 have hcl3:∀x,scope.names.lookup x=some .free->(fw env scope.names []).lookup x=env.cells.lookup x:=λx hx=>by refine ay (wy (env:=env) scope.names [] x (.inr (ck hx))) λc hc=>?_;exact aa hc (aa ((hclo x c (ck hc)).2) rfl)
 have fresh3:∀b,s3.heap.objs.size<=b->s2.heap.get? b=none:=λb hb=>by
  cases e:s2.heap.get? b with
  |none=>rfl
  |some o=>have:=fm (kk23 b o e);exact absurd this (pY hb)
 have hkind:∀x k,scope.names.lookup x=some k->(k≠.free->ce2.kindOf x=some k)/\(k=.free->ce2.kindOf x=some .cell\/ce2.kindOf x=some .free):=λx k hx=>by
  rcases Es (env:=env) rfl hx with r|⟨r1,r2⟩
  ·exact⟨λζ=>r,λz=>.inr (z▸r)⟩
  ·exact⟨λz=>absurd r1 z,λζ=>.inl r2⟩
 have oldCell:∀x c,(x,c)∈fw env scope.names []->∃v,s3.heap.IsCell c v:=λx c hm=>by refine ay (V.cells x c (ck (hclo x c hm).2)) λv n=>?_;exact⟨v,ja n k03.kb (λq=>nomatch q)⟩
 have live2:∀b∈fp,∃o,s2.heap.get? b=some o:=λb hb=>ah (It.live 0 s2 hst b hb) λo e ζ=>⟨o,e⟩
 have fpD:∀b∈fp,b≠s2.heap.objs.size:=λb hb q=>by refine ay (live2 b hb) λo e=>?_;replace e:=q▸e;replace e:=hDn▸e;exact ab e
 have fpC:∀b∈fp,¬ s3.heap.objs.size<=b:=λb hb q=>by refine ay (live2 b hb) λo e=>?_;replace e:=(fresh3 b q)▸e;exact ab e
 have hsubW:∀b∈wr++(s2.heap.objs.size::(P++av own)),b∈P++av own\/s.heap.get? b=none:=λb hb=>by
  rcases be.mp hb with q|q
  ·exact .inr (hwr b q)
  ·rcases ao.mp q with q|q
   ·exact .inr (q▸k02.none hDn)
   ·exact .inl q
 have hpin3:∀b∈wr++(s2.heap.objs.size::(P++av own)),∃o,s3.heap.get? b=some o/\cG o=false:=λb hb=>by
  rcases be.mp hb with q|q
  ·refine ah (It.live 0 s2 hst b (It.sub b q)) λo e ht=>?_;exact au o (kk23 b o e) ht
  ·rcases ao.mp q with q|q
   ·exact au _ (q▸hD3) rfl
   ·rcases be.mp q with q|q
    ·refine ah (V2.pin b q) λo e ht=>?_;exact au o (kk23 b o e) ht
    ·obtain ⟨⟨x,a⟩,hm,rfl⟩:=dQ.mp q;obtain ⟨_,its,m,e⟩:=V2.ownF x a hm;exact au _ (kk23 _ _ e) rfl
 have V4:ap X scope ce2 (dK scope σ) [] (wr++(s2.heap.objs.size::(P++av own))) s4.heap:=by
  refine aA hs4 ?_;refine tm (cl:=fw env scope.names []) S3 q2 q3 q1 ?_ ?_ hcl hcc (λx hx=>(hkind x _ hx).1 (by decide)) (λx hx=>?_) (λx hx=>?_) (λx c hm=>?_) (λx y c h1 h2=>?_) (λx hx=>?_) hpin3 (λx e he=>?_)
  ·refine (?_:cenv.globals=_);refine aA hce ?_;exact V.glob
  ·refine (?_:cenv.builtins=_);refine aA hce ?_;exact V.bi
  ·exact rz hx (λe=>.inl ((hkind x _ e).1 (by decide))) λe=>(hkind x _ e).2 rfl
  ·exact (hkind x _ (tH hx)).1 (by decide)
  ·refine bf (hclo x c hm) λh1 h2=>?_;exact dX (l7 q2 h1) (oldCell x c hm) (V.fc x c (ck h2))
  ·exact V.apart x y c (ck (hclo x c h1).2) (ck (hclo y c h2).2)
  ·refine ay (hlk x (ck hx)) λc hc=>?_;exact⟨c,(hcl3 x hx).trans hc⟩
  ·obtain ⟨h1,d,rfl,h3⟩:=TZ q2 he;refine ah (V.vars x d h3) λv hv r=>?_;refine⟨h1,d,?_⟩;rcases hv with ⟨hv,_⟩|⟨_,c,hc,hcell⟩
   ·rcases (V.cel x (q4 x (ck h1))).1 with z|z<;>replace z:=hv▸z<;>cases z
   ·exact Eh c v rfl ((hcl3 x h1).trans hc) (ja hcell k03.kb (λq=>nomatch q)) (am.kb k03.kb (λζ q=>nomatch q) hsubW d v r)
 let L:Lp:={X:=X,A:=A,sc:=scope,env:=ce2,P:=s2.heap.objs.size::(P++av own),D:=s2.heap.objs.size,tgt:=g.target,it:=it,xs:=xs,cs:=cs,cvs:=cvs,St:=St,fp:=fp,wr:=wr,gm:=s.gens.size,s0:=s4}
 have hnewc:∀x c,(x,c)∈ce2.cells->((x,c)∈fw env scope.names []/\∃o,s.heap.get? c=some o)\/s3.heap.objs.size+1<=c:=λx c hm=>by
  have hm:(x,c)∈d7 (s3.heap.objs.size+1) scope.names (fw env scope.names []):=hcc▸hm;rcases oX _ _ _ _ _ hm with q|q
  ·refine bN (V.cells x c (ck (hclo x c q).2)) λv o e ζ=>?_;exact .inl ⟨q,o,e⟩
  ·exact .inr q.1
 have wenv4:∀b∈aV scope ce2 [],s3.heap.objs.size<=b:=λb hb=>by
  unfold aV at hb;rcases ao.mp hb with q|q
  ·exact eh (q.trans hcl).symm
  ·rcases be.mp q with q|q
   ·refine ah (ea q) λx hm hst=>?_;rcases hnewc x b hm with ⟨h1,_⟩|h1
    ·have:=l7 q2 (hclo x b h1).1;unfold bb at hst;replace hst:=this▸hst;exact aU hst
    ·exact lE (by assumption)
   ·exact nomatch q
 have hst4:St 0 s4:=It.frame 0 s2 s4 hst (k23.trans k34).gsz (λb ζ o e=>kk34 b o (kk23 b o e)) (k23.trans k34).gk;have K:gO L:=
  {it:=It,D0:=S2.fresh hDn,DP:=iq,hh:=hh,gm:=k04.gsz
   fp:=λb hb=>⟨λq=>(ao.mp q).elim (fpD b hb) (hfp b hb).1,λq=>fpC b hb (wenv4 b q)⟩
   Dl:=by refine (?_:s2.heap.objs.size≠cenv.locals);refine aa hcl (aa hsz3 ?_);exact Nl
   Dc:=λx hm=>by
    rcases hnewc x _ hm with ⟨_,o,e⟩|h1
    ·replace e:=(k02.none hDn)▸e;exact ab e
    ·replace h1:=hsz3▸h1;have h1:s2.heap.objs.size+1+1<=s2.heap.objs.size:=h1;lia
   wl:=λb hb=>⟨λq=>fpC b (It.sub b hb) (eh (q.trans hcl).symm),λx hm=>by
    rcases hnewc x b hm with ⟨_,o,e⟩|h1
    ·replace e:=(hwr b hb)▸e;exact ab e
    ·exact fpC b (It.sub b hb) (lE (by assumption))⟩}
 have F:cT L (dK scope σ) 0 [] s4:=
  {S:=S4,V:=V4,st:=hst4
   cs:=kz (W':=[s2.heap.objs.size]) hcs (λb o e=>kk34 b o (kk23 b o e)) (λb hb=>by simp at hb;exact hb▸hDn) |>.sub (λb hb=>by
    rcases be.mp hb with q|q
    ·exact bG [s2.heap.objs.size] (bC _ q)
    ·rcases ao.mp q with q|q
     ·exact q▸iq
     ·exact bG [s2.heap.objs.size] (bG wr q))
   acc:=⟨[],_,kk34 _ _ hD3,rfl⟩
   stp:=⟨Kb.refl,λb o ζ e=>⟨o,e⟩,aT _,λζ ζ=>rfl⟩}
 have hin:=ihG L (dK scope σ) elt gens scope pos 0 g gs ys [] s4 h2 (by simpa using hg) rfl K F (by simpa using dM hl) hA;have haa:(g.is_async==0)=true:=by
  induction n using dq with
  |zero=>exact ab h2
  |succ n=>skip;refine ifs h2 λq h2=>?_;simp only[bn] at q;exact q.1
 have hcs:=It.again 0 s4 (Q:=λit' s'=>j7 (aq X.prog X.w) A (.compLoop (.ListComp elt gens scope pos) 0 it' (.ref s2.heap.objs.size) ce2) (λr' s'=>r'=.ok .next/\pq L (dK scope σ) ([]++ys) s') s') hst4 hin;refine y6 (AY (by refine aa hg ?_;rfl) haa hin hcs) λr s5 h_2=>bf h_2 λe5 H=>?_;subst e5
 have hs45:=bx.after k04 H.stp (λb hb=>by
  rcases ao.mp hb with q|q
  ·exact q▸k02.none hDn
  ·rcases be.mp q with q|q
   ·exact k02.none (fresh3 b (wenv4 b q))
   ·exact hwr b q) (aT _)
 refine hRR _ _ s5 H.S hs45 (k02.none hDn) (hcl▸k02.none (fresh3 _ (aT _))) (λq=>(ly (eH _)) (show s2.heap.objs.size=s2.heap.objs.size+1 from q.trans (hcl.trans hsz3))) ?_ (by have:=H.acc;rwa [sC] at this);exact H.V.ns
end
theorem xh (O:Orc):∀n,uK O n
 |0=>λL σ elt gens scp pos depth g gs ys acc s h=>by skip;exact ab h
 |n+1=>NC (xh O n)
section
variable {X:Cx} {A:aM} {s:ae} {env:Env} {sc:Scope} {σ:Sg} {own:List (Str×Addr)} {P:List Addr} {O:Orc} {k n:Nat}
theorem Bf {scp:Scope} {elt:ac} {g:c9} {gs:List c9} {xs ys:List PV} (h:gM O n scp σ elt g gs xs=some ys):(g.is_async==0)=true:=by
 induction n using dq with
 |zero=>skip;exact ab h
 |succ n=>skip;refine ifs h λq h=>?_;simp only[bn] at q;exact q.1
theorem RZ {C D:Addr} {ys:List PV} {s':ae} {h':aP} (S':ai X s') (k:ag [] s s') (V:ap X sc env σ own P s.heap) (hl:aZ ys.length=true) (hD:s.heap.get? D=none) (hC:s.heap.get? C=none) (hne:D≠C) (hn:∃m,s'.heap.Ns C m) (ha:ku D (D::(P++av own)) ys s') (S0:ai X s) (hs:io C s'.heap h'):ai X {s' with heap:=h'}/\ag [] s {s' with heap:=h'}/\∃vs n,h'.get? D=some {cls:=.type "list",data:=.seq vs.toArray n}/\vs.length<=sizeLine/\ar (D::(P++av own)) h' ys vs:=by
 obtain ⟨m,o,es,ep,e,hd,_⟩:=hn;refine bN ha λvs n ha hr=>?_;have hnc:∀o',s'.heap.get? C=some o'->gt o':=λo' e'=>by replace e':=e▸e';have h_:=ak e';clear e';subst h_;exact .inr λvs q=>by replace q:=hd▸q;cases q
 refine⟨S'.same (S0.fresh hC) hnc hs,bx.after k (m9 (gm:=s.gens.size) hs) (λb hb=>by simp at hb;exact hb▸hC) (aT _),vs,n,(hs.2 D hne).trans ha,by refine aa hr.length ?_;exact dM hl,?_⟩;refine ar.kb (V:=[C]) (λb o hb ζ q=>(hs.2 b (λz=>hb (gW.mpr (by assumption)))).trans q) (λb hb=>.inr (.inr λo' e' its n q=>?_)) (λb hb=>.inl hb) ys vs hr;simp at hb;subst hb;replace e':=e▸e';have h_:=ak e';clear e';subst h_;replace q:=hd▸q;cases q
theorem Q7 {elt:ac} {g:c9} {gs:List c9} {scope:Scope} {pos:Pos} {xs ys:List PV} (hh:A.handled=none) (hsc:nU sc scope=true) (S:ai X s) (V:ap X sc env σ own P s.heap) (hI:(∀x,qe g.iter env x=pure x)/\Ev X A s (aJ g.iter env) (λx s1=>Ev X A s1 (fY x) (λit s2=>my X A g.target sc env own (P++av own) s xs it s2))) (hA:∀m,m<n->fv X A O m/\i5 X A O m/\kR X A O m) (h2:gM O n scope (dK scope σ) elt g gs xs=some ys) (hl:aZ ys.length=true):Ev X A s (aJ (.ListComp elt (g::gs) scope pos) env) (λv s'=>am (P++av own) s'.heap (.list ys) v):=by
 refine eZ (xe hsc) λq1 q2 q3 q4=>?_;have hga:vG (g::gs)=false:=by have:=Bf h2;cases g;simp only[vG,bne];refine aa this ?_;rfl
 have hfi:Fm (g::gs) env=aJ g.iter env:=by cases g;rfl
 rewrite[eval_ListComp];refine aa hga ?_
 refine VJ (use:=none) (g:=g) (gs:=gs) rfl hI.1 (DG λx hm=>(V.cel x (q4 x hm)).2) q1 (λx hx hl=>by
  obtain ⟨a,b⟩:=x;subst hl
  exact l7 q2 hx) ?_
 refine aa hfi ?_;refine AR (n:=n) (RR:=λacc C=>compPost (aq X.prog X.w) A (λζ ζ=>False) none (λa s'=>ai X s'/\ag [] s s'/\am (P++av own) s'.heap (.list ys) a) acc C) rfl hsc hh S V hI (xh O n) hA h2 hl λD C s' S' k' hD hC hne hn ha=>?_;refine au hn.choose hn.choose_spec (λh' hs=>?_);obtain ⟨r1,r2,vs,m,r3,r4,r5⟩:=RZ S' k' V hl hD hC hne hn ha S hs;refine dX r1 r2 ?_;skip;refine iE D vs rfl (λq=>?_) ⟨m,r3⟩ r4 (r5.sub λb hb=>bP _ hb);refine ah (V.win D q) λo e ζ=>?_;replace e:=hD▸e;exact ab e
end
theorem tD {f:Str} {v:Value} (h:fH f=some v):cy f=true/\∀a,v≠.ref a:=by
 have h1:∀p∈tB,cy p.1=true:=by decide+kernel
 exact⟨h1 _ (sT h),Dn h⟩
section
variable {X:Cx} {A:aM} {s:ae} {env:Env} {sc:Scope} {σ:Sg} {own:List (Str×Addr)} {P:List Addr} {O:Orc} {k n:Nat} {V':List Addr}
theorem oY {f:Str} {g:Value} {fp pos:Pos} {es:List ac} {QV:List Value->ae->Prop} {Q:Value->ae->Prop} (OK:bg X O k) (S:ai X s) (V:ap X sc env σ own P s.heap) (hg:bS sc f=true) (hb:fH f=some g) (hn:∀e∈es,dB e=true) (he:∀s',ai X s'->ag [] s s'->Ev X A s' (d6 (bW pos (bV es env))) QV) (hc:∀vs s',ai X s'->ag [] s s'->QV vs s'->Ev X A s' (call g vs) Q):Ev X A s (aJ (.Call (.Name f fp) es [] pos) env) Q:=by refine (?_:Ev X A s (aJ (.Name f fp) env>>=λg=>gX pos g [] (bW pos (bV es env)) []) _);refine bf (tD hb) λh1 h2=>?_;refine Ev.bind (nn S V hg h1 (.inr (OK.bi f g hb))) λg' s1 S1 k1 h_3=>bf h_3 λe1 e2=>?_;subst e1 e2;exact wb h2 hn (he s1 S1 k1) λvs s' S' k' r'=>hc vs s' S' (k1.trans k') r'
theorem MZ {f:Str} {fa:Addr} {o:d5} {fd:fZ} {fp pos:Pos} {es:List ac} {QV:List Value->ae->Prop} {Q:Value->ae->Prop} (S:ai X s) (V:ap X sc env σ own P s.heap) (hg:bS sc f=true) (hnm:cy f=true) (hm:X.mg f=some (.ref fa)) (ho:X.h0.get? fa=some o) (hcl:o.cls=.type "function") (hd:o.data=.func fd) (hn:∀e∈es,dB e=true) (he:∀s',ai X s'->ag [] s s'->Ev X A s' (d6 (bW pos (bV es env))) QV) (hc:∀vs s',ai X s'->ag [] s s'->QV vs s'->Ev X A s' (call (.ref fa) vs) Q):Ev X A s (aJ (.Call (.Name f fp) es [] pos) env) Q:=by refine (?_:Ev X A s (aJ (.Name f fp) env>>=λg=>gX pos g [] (bW pos (bV es env)) []) _);refine Ev.bind (nn S V hg hnm (.inl hm)) λg' s1 S1 k1 h_4=>bf h_4 λe1 e2=>?_;subst e1 e2;exact A6 ho hcl hd hn (he s1 S1 k1) λvs s' S' k' r'=>hc vs s' S' (k1.trans k') r'
theorem Ep {f:Value} {first:List Value} {es:List ac} {pos pos':Pos} {Q:List Value->ae->Prop} {Q':Value->ae->Prop} (hf:∀a,f≠.ref a) (hn:∀e∈es,dB e=true) (h:Ev X A s (d6 (bW pos (bV es env))) Q) (hc:∀vs s',ai X s'->ag [] s s'->Q vs s'->al (aq X.prog X.w) A (call f (first++vs)) Q' (λζ ζ=>False) s'):al (aq X.prog X.w) A (gX pos' f first (bW pos (bV es env)) []) Q' (λζ ζ=>False) s:=by
 unfold gX;refine aj (dA (ax (sY hn h) (λa s1 h_5=>eZ h_5 λS1 k1 ha hq=>?_) λζ ζ f=>f));refine aj (dS ?_);have hany:=xO (env:=env) (pos:=pos) es hn;have hk:keeperOf f=pure Vq:=by
  induction f using oe with
  |ref a=>exact absurd rfl (hf a)
  |_=>rfl
 refine aa hk ?_;refine aa hany ?_;refine aj (aI ?_);have:=hc a.pos s1 S1 k1 hq;refine aa ha ?_;exact aj (ax this (λζ ζ hr=>aj (dA (yE (aI hr)))) λζ ζ x=>x)
theorem CX {e:ac} (h:dm e=true):∃ts n p,e=.Tuple ts n p:=by
 induction e using bt<;>first|exact⟨_,_,_,rfl⟩|exact aU h
theorem Hr {e:ac} (h:oL e=true):∀x,qe e env x=pure x:=by
 intro x
 induction e using bt<;>first|rfl|exact aU h
theorem Gu {e:ac} {d} (h:pe O n sc σ e=some d):oL e=true:=by
 induction n using dq with
 |zero=>exact ab h
 |succ n=>induction e using bt<;>first|rfl|exact ab h
theorem jf {es:List ac} {ds:List PV} (h:aX (pe O n sc σ) es=some ds):∀e∈es,dB e=true:=by
 induction es generalizing ds with
 |nil=>intro e h;nomatch h
 |cons e es ih=>
  refine bw (lQ h) λy r h1 h2 ζ=>?_;intro e' he;rcases ao.mp he with rfl|q
  ·exact tV h1
  ·exact ih h2 e' q
theorem mA {es:List ac} {ds:List PV} (h:aX (pa O n sc σ) es=some ds):∀e∈es,dB e=true:=by
 induction es generalizing ds with
 |nil=>intro e h;nomatch h
 |cons e es ih=>
  refine bw (lQ h) λy r h1 h2 ζ=>?_;intro e' he;rcases ao.mp he with rfl|q
  ·exact w9 h1
  ·exact ih h2 e' q
theorem fP (hE:fv X A O n) {es:List ac} {ds:List PV} {pos:Pos} (h:aX (pe O n sc σ) es=some ds) (S:ai X s) (V:ap X sc env σ own P s.heap):Ev X A s (d6 (bW pos (bV es env))) (λvs s'=>ar (P++av own) s'.heap ds vs):=
 yr es ds (λe ζ d q=>⟨tV q,λs S V=>hE sc σ env own P e d s q S V⟩) h s S V
theorem rd (hA:iI X A O n) {es:List ac} {ds:List PV} {pos:Pos} (h:aX (pa O n sc σ) es=some ds) (S:ai X s) (V:ap X sc env σ own P s.heap):Ev X A s (d6 (bW pos (bV es env))) (λvs s'=>ar [] s'.heap ds vs):=
 yr es ds (λe ζ d q=>⟨w9 q,λs S V=>(hA sc σ env own P e d s q S V).mono λv s' ζ ζ z=>z.1⟩) h s S V
theorem xR (hA:iI X A O n) {es:List ac} {ds:List PV} {pos:Pos} (ho:es.any (cz σ)=false) (h:aX (pa O n sc σ) es=some ds) (S:ai X s) (V:ap X sc env σ own P s.heap):Ev X A s (d6 (bW pos (bV es env))) (λvs s'=>ar (P++av own) s'.heap ds vs):=
 yr es ds (λe he d q=>⟨w9 q,λs S V=>(hA sc σ env own P e d s q S V).mono λv s' ζ ζ z=>z.2 (by
  rw[Fk] at ho
  simpa using ho e he)⟩) h s S V
noncomputable def rV (X:Cx) (A:aM) (sc:Scope) (env:Env) (own:List (Str×Addr)) (P:List Addr) (s:ae) (tgt e:ac) (xs:List PV):Prop:=
 Ev X A s (aJ e env) (λx s1=>Ev X A s1 (fY x) (λit s2=>my X A tgt sc env own (P++av own) s xs it s2))
section
variable {tgt:ac} {f:Str} {fp pos:Pos} {args:List ac} {xs:List PV} (OK:bg X O k) (R1:aK A 1) (hE:fv X A O n) (hg:bS sc f=true) (S:ai X s) (V:ap X sc env σ own P s.heap)
include OK R1 hE hg S V
theorem xY {dd:PV} {ys:List PV} (hm:aX (pe O n sc σ) args=some [dd]) (hy:ny dd=some ys) (h:(if (f== "enumerate" &&dm tgt)=true then some (d8 0 ys) else none)=some xs):rV X A sc env own P s tgt (.Call (.Name f fp) args [] pos) xs:=by refine ifs h λhf h=>jE hf λhf htt=>?_;have hf:=bc hf;have h:=ak h;subst h;subst hf;refine i8 (CX htt) λts tn tp e3_=>?_;subst e3_;refine oY (g:=.type "enumerate") OK S V hg rfl (jf hm) (λs' S' k'=>fP hE hm S' (V.keep k'.kb)) λvs s' S' k' r=>?_;refine bw r λv u e2_ r1 e4_=>?_;clear r;subst e2_;subst e4_;exact TQ S' R1 (V.keep k'.kb) k' r1 hy
theorem Ti {b:Int} (hm:aX (pe O n sc σ) args=some [.int b]) (h:(if (f== "range")=true then (if (decide (b<=1000000)&&decide (-1000000<=b))=true then some (fU 0 b) else none) else none)=some xs):rV X A sc env own P s tgt (.Call (.Name f fp) args [] pos) xs:=by refine ifs h λhf h=>ifs h λhb h=>jE hb λhb1 hb2=>?_;have hf:=bc hf;have h:=ak h;subst h;subst hf;refine oY (g:=.type "range") OK S V hg rfl (jf hm) (λs' S' k'=>fP hE hm S' (V.keep k'.kb)) λvs s' S' k' r=>?_;refine bw r λv u e1 r1 e2=>ay r1 λt e3=>?_;subst e1 e2 e3;refine ax (Iv S') (λx s2 h_=>aL h_ λS2 k2 h_=>i8 h_ λr t u h_=>ah h_ λv e hr=>?_) λζ ζ f=>f;subst e;exact dX S2 k2 (Al S2 R1 (V.keep (k'.trans k2).kb) (k'.trans k2) hr (by decide) (by decide) (of_decide_eq_true hb1) (of_decide_eq_true hb2))
theorem OF {a b:Int} (hm:aX (pe O n sc σ) args=some [.int a,.int b]) (h:(if (f== "range")=true then (if (decide (b<=1000000)&&decide (-1000000<=b)&&decide (a<=1000000)&&decide (-1000000<=a))=true then some (fU a b) else none) else none)=some xs):rV X A sc env own P s tgt (.Call (.Name f fp) args [] pos) xs:=by refine ifs h λhf h=>ifs h λhb h=>T8 hb λhb1 hb2 hb3 hb4=>?_;have hf:=bc hf;have h:=ak h;subst h;subst hf;refine oY (g:=.type "range") OK S V hg rfl (jf hm) (λs' S' k'=>fP hE hm S' (V.keep k'.kb)) λvs s' S' k' r=>?_;refine bw r λv u e1 r1 r=>ay r1 λt e3=>bw r λv2 u2 e4 r2 e6=>ay r2 λt2 e5=>?_;subst e1 e4 e3 e5 e6;refine ax (Us S') (λx s2 h_=>aL h_ λS2 k2 h_=>i8 h_ λr t u h_=>ah h_ λv e hr=>?_) λζ ζ f=>f;subst e;exact dX S2 k2 (Al S2 R1 (V.keep (k'.trans k2).kb) (k'.trans k2) hr (of_decide_eq_true hb3) (of_decide_eq_true hb4) (of_decide_eq_true hb1) (of_decide_eq_true hb2))
theorem Qj {ys zs:List PV} (hm:aX (pe O n sc σ) args=some [.list ys,.list zs]) (h:(if (f== "zip" &&dm tgt)=true then some (bT ys zs) else none)=some xs):rV X A sc env own P s tgt (.Call (.Name f fp) args [] pos) xs:=by refine ifs h λhf h=>jE hf λhf htt=>?_;have hf:=bc hf;have h:=ak h;subst h;subst hf;refine i8 (CX htt) λts tn tp e3_=>?_;subst e3_;refine oY (g:=.type "zip") OK S V hg rfl (jf hm) (λs' S' k'=>fP hE hm S' (V.keep k'.kb)) λvs s' S' k' r=>?_;refine bw r λv u e1 r1 r=>bw r λv2 u2 e2 r2 e3=>?_;subst e1 e2 e3;exact QG S' R1 (V.keep k'.kb) k' r1 r2
end
theorem Nq {tgt:ac} {f:Str} {fp pos:Pos} {args:List ac} {xs:List PV} (OK:bg X O k) (R1:aK A 1) (hE:fv X A O n) (S:ai X s) (V:ap X sc env σ own P s.heap) (h:cS O (n+1) sc σ (dm tgt) (.Call (.Name f fp) args [] pos)=some xs):rV X A sc env own P s tgt (.Call (.Name f fp) args [] pos) xs:=by
 replace h:=qS▸h;refine ifs h λhg h=>?_;cases hm:aX (pe O n sc σ) args with
 |none=>replace h:=hm▸h;exact ab h
 |some ds=>
  replace h:=hm▸h
  induction ds using aF with
  |nil=>exact ab h
  |cons a r=>
   induction a using PV.casesOn with
   |int i=>
    induction r using aF with
    |nil=>exact Ti OK R1 hE hg S V hm h
    |cons b r=>
     induction b using PV.casesOn with
     |int i2=>
      induction r using aF with
      |nil=>exact OF OK R1 hE hg S V hm h
      |cons _ _=>exact ab h
     |_=>exact ab h
   |str x=>
    induction r using aF with
    |nil=>exact xY OK R1 hE hg S V hm rfl h
    |cons _ _=>exact ab h
   |tup ys=>
    induction r using aF with
    |nil=>exact xY OK R1 hE hg S V hm rfl h
    |cons _ _=>exact ab h
   |list ys=>
    induction r using aF with
    |nil=>exact xY OK R1 hE hg S V hm rfl h
    |cons b r=>
     induction b using PV.casesOn with
     |list zs=>
      induction r using aF with
      |nil=>exact Qj OK R1 hE hg S V hm h
      |cons _ _=>exact ab h
     |_=>exact ab h
   |_=>exact ab h
theorem RG (OK:bg X O k) (R:aK A (k+2)) (hE:fv X A O n):kR X A O (n+1):=by
 intro sc σ env own P tgt e xs s h S V;have R1:aK A 1:=R.mono (b7 _ _);cases hc:CE e with
 |true=>
  induction e using bt with
  |Call f args kws pos=>
   induction f using bt with
   |Name f fp=>
    induction kws using aF with
    |nil=>exact⟨λx=>rfl,Nq OK R1 hE S V h⟩
    |cons _ _=>first|exact aU hc|exact cL hc
   |_=>first|exact aU hc|exact cL hc
  |Set=>exact ab h
  |_=>first|exact aU hc|exact cL hc
 |false=>
  replace h:=(o0 hc)▸h
  set_option smartUnfolding false in refine om h λd hd h=>?_
  exact⟨Hr (Gu hd),ax (hE sc σ env own P e d s hd S V) (λx s1 h_8=>aL h_8 λS1 k1 r1=>⟨S1,k1,QE S1 R1 (V.keep k1.kb) k1 r1 h⟩) λζ ζ f=>f⟩
end
noncomputable def bR (X:Cx):Prop:=∀(A:aM) (s:ae) (W:List Addr) (xs ys:List PV) (x y:Value),aK A 2->ai X s->b8 W s.heap->am W s.heap (.list xs) x->am W s.heap (.list ys) y->aZ (bT xs ys).length=true->
 Ev X A s (call (.type "zip") [x,y]) (λz s1=>al (aq X.prog X.w) A (call (.type "list") [z]) (λv s2=>ai X s2/\ag [] s s2/\am W s2.heap (.list (bT xs ys)) v) (λζ ζ=>False) s1)
section
variable {X:Cx} {A:aM} {s:ae} {env:Env} {sc:Scope} {σ:Sg} {own:List (Str×Addr)} {P:List Addr} {O:Orc} {k n:Nat}
theorem pJ {o:Bool} {d:Option PV} {r:PV} (h:dw o d=some r):d=some r/\(o=true->r.flat=true):=by
 cases o with
 |false=>exact⟨h,aU⟩
 |true=>
  cases d with
  |none=>exact ab h
  |some d=>exact ifs (show (if d.flat=true then some d else none)=some r from h) λhf h=>⟨h,λζ=>ak h▸hf⟩
theorem rh {d:Option (List PV)} {f:List PV->PV} {r:PV} (h:ka d f=some r):∃xs,d=some xs/\aZ xs.length=true/\r=f xs:=by
 cases d with
 |none=>exact ab h
 |some xs=>exact ifs (show (if aZ xs.length=true then some (f xs) else none)=some r from h) λhl h=>jD _ rfl hl (ak h).symm
theorem s7 {h:aP}:b8 [] h:=λζ q=>nomatch q
theorem NV {fp zp p pos:Pos} {as:List ac} {xs ys:List PV} (OK:bg X O k) (LZ:bR X) (R:aK A (k+2)) (hE:fv X A O n) (S:ai X s) (V:ap X sc env σ own P s.heap) (hg:bS sc "list" =true) (hz:bS sc "zip" =true) (hm:aX (pe O n sc σ) as=some [.list xs,.list ys]) (hl:aZ (bT xs ys).length=true):Ev X A s (aJ (.Call (.Name "list" fp) [.Call (.Name "zip" zp) as [] p] [] pos) env) (λv s'=>am (P++av own) s'.heap (.list (bT xs ys)) v):=by
 refine (?_:Ev X A s (aJ (.Name "list" fp) env>>=λg=>gX pos g [] (bW pos (bV [.Call (.Name "zip" zp) as [] p] env)) []) _);refine aj (ax (nn S V hg (by decide+kernel) (.inr (OK.bi "list" (.type "list") rfl))) (λg' s0 h_0=>eZ h_0 λS0 k0 e1 e2=>?_) λζ ζ f=>f);subst e1 e2;refine Ep (Q:=λvs s'=>∃z,vs=[z]/\al (aq X.prog X.w) A (call (.type "list") [z]) (λv s2=>ai X s2/\ag [] s0 s2/\am (P++av own) s2.heap (.list (bT xs ys)) v) (λζ ζ=>False) s')
  (λa q=>by cases q) (λe he=>by simp at he;subst he;rfl) ?_ λvs s' S' k' h_1=>ah h_1 λz e r=>by subst e;exact r
 show Ev X A s0 (do
  let v <- aJ (.Call (.Name "zip" zp) as [] p) env
  let here <- (pure [v]:bp (List Value))
  return here++(<- holding here (d6 []))) _
 refine Ev.bind (P:=λz s1=>al (aq X.prog X.w) A (call (.type "list") [z]) (λv s2=>ai X s2/\ag [] s0 s2/\am (P++av own) s2.heap (.list (bT xs ys)) v) (λζ ζ=>False) s1) ?_ λv s1 S1 k1 rv=>?_
 ·refine oY (g:=.type "zip") OK S0 V hz rfl (jf hm) (λs2 S2 k2=>fP hE hm S2 (V.keep k2.kb)) λvs s2 S2 k2 r=>?_;obtain ⟨v,u,rfl,r1,v2,u2,rfl,r2,rfl⟩:=r;refine (LZ A s2 (P++av own) xs ys v v2 (R.mono (b7 _ _)) S2 (V.keep k2.kb).win r1 r2 hl).mono λz s3 ζ ζ q=>?_;exact ax q (λv s4 h_2=>aL h_2 λa b c=>⟨a,k2.trans b,c⟩) λζ ζ f=>f
 ·exact aj (aI (aj (dA (aI (aI ⟨S1,ag.refl,v,rfl,rv⟩)))))
theorem TP {f:Str} {fp pos:Pos} {es:List ac} {as:List PV} {d:PV} (OK:bg X O k) (R:aK A (k+2)) (hA:iI X A O n) (S:ai X s) (V:ap X sc env σ own P s.heap) (hg:bS sc f=true) (hm:aX (pa O n sc σ) es=some as) (h:dw (es.any (cz σ)) (bX O f as)=some d):Ev X A s (aJ (.Call (.Name f fp) es [] pos) env) (λv s'=>am (P++av own) s'.heap d v):=by
 refine bf (pJ h) λh1 h2=>?_;cases ho:es.any (cz σ)
 ·exact xV OK S V R hg V.win (mA hm) (.inl rfl) (λs' S' k'=>xR hA ho hm S' (V.keep k'.kb)) V.win (λf v h=>(tD h).1) h1
 ·exact xV (V:=[]) OK S V R hg V.win (mA hm) (.inr (h2 ho)) (λs' S' k'=>rd hA hm S' (V.keep k'.kb)) s7 (λf v h=>(tD h).1) h1
end
section
variable {prog:Program} {w:jo} {A:aM} {E:Value->ae->Prop} {s:ae}
theorem Cf {M:qf} {a:Addr} {Q:Option d5->ae->Prop} (h:Q (s.heap.get? a) s):al M A (Fn a) Q E s:=λζ ζ ζ=>h
theorem MN:Fg (.type "zip") "__len__" =pure none:=by (rewrite[VK];refine aa VL ?_);kernel_rfl
theorem Tw:Fg (.type "zip") "__length_hint__" =pure none:=by (rewrite[VK];refine aa VL ?_);kernel_rfl
noncomputable abbrev kQ (h:aP) (z TI TO:Addr) (T:Addr) (b:Bool):Prop:=
 h.get? z=some {cls:=.type "zip",dict:=none,data:=.fields #[im T,.bool b,.bool false,.ref TI,.ref TO],slots:= #[]}
theorem KP {z TI TO T i1 i2 l1 l2:Addr} {b:Bool} {k:Nat} {xs ys:Array Value} {x y:Value} {Q:Value->ae->Prop} (D:kL z TI TO i1 i2 l1 l2) (hz:kQ s.heap z TI TO T b) (hT:∃o,s.heap.get? T=some o) (hTI:j5 s.heap TI (.ref i1) (.ref i2)) (h1:s.heap.IsListIter i1 l1 k) (h2:s.heap.IsListIter i2 l2 k) (hl1:s.heap.IsList l1 xs) (hl2:s.heap.IsList l2 ys) (hx:xs[k]?=some x) (hy:ys[k]?=some y) (hQ:∀h' t,kQ h' z TI TO T true->h'.IsListIter i1 l1 (k+1)->h'.IsListIter i2 l2 (k+1)->t=s.heap.objs.size->j5 h' t x y->
   (∀c o,c≠z->c≠i1->c≠i2->s.heap.get? c=some o->h'.get? c=some o)->Q (.ref t) {s with heap:=h'}):al (aq prog w) A (yO.«zip.__next__» ⟨[.ref z],[]⟩) (λfin s'=>∃v,fin=.done (.ret v)/\Q v s') E s:=by
 refine ay hT λoT hT=>?_;refine (?_:al _ _ (mN (.ref z) 2>>=_) _ _ _);refine aj (ir hz rfl (x:=.bool false) rfl ?_);refine (?_:al _ _ (mN (.ref z) 3>>=_) _ _ _);refine aj (ir hz rfl (x:=.ref TI) rfl ?_);refine aj (vA hTI rfl ?_);refine (?_:al _ _ (y9 (.ref z)>>=_) _ _ _);refine aj ?_;unfold y9;refine aj (ir hz rfl (x:=im T) rfl ?_);refine (?_:al _ _ (Fn (T:Int).toNat>>=_) _ _ _);refine aj (Cf ?_);refine aa (show (T:Int).toNat=T from er T) (aa hT ?_);simp only[VM,dp,if_false];refine aj (ir hz rfl (x:=.bool b) rfl ?_);refine ax (Q:=λa s'=>a=false/\∃h₁,s'={s with heap:=h₁}/\kQ h₁ z TI TO T true/\h₁.objs.size=s.heap.objs.size/\∀c o,c≠z->s.heap.get? c=some o->h₁.get? c=some o) ?_ (λa s' q=>?_) λζ ζ e=>e
 ·induction b using dF
  ·rw[if_pos (by decide)];refine aj (VN hz (b7 _ _) λh₁ hz₁ hs₁=>aI ⟨rfl,h₁,rfl,hz₁,hs₁.1,λc o hc e=>hs₁.extBut _ _ hc e⟩)
  ·rw[if_neg (by decide)];exact aI ⟨rfl,s.heap,rfl,hz,rfl,λc o ζ e=>e⟩
 ·obtain ⟨rfl,h₁,rfl,hz₁,hsz₁,hk₁⟩:=q;refine aa (if_neg gz) ?_;refine aj ?_;refine aA VO ?_;simp only[sv,vE];refine aj (aj (dA ?_));refine (?_:al _ _ (ot (.ref i1)>>=_) _ _ _);refine aj (Fo (h1.at λo e=>hk₁ i1 o D.i1z e) (hl1.at λo e=>hk₁ l1 o D.l1z e) hx λh₂ h1₂ hs₂=>aI ?_);refine aI ?_;refine aj (aj (dA ?_));refine (?_:al _ _ (ot (.ref i2)>>=_) _ _ _);refine aj (Fo ((h2.at λo e=>hk₁ i2 o D.i2z e).extBut hs₂.extBut D.i12.symm) ((hl2.at λo e=>hk₁ l2 o D.l2z e).extBut hs₂.extBut D.l2i1) hy λh₃ h2₃ hs₃=>aI ?_);refine aI (aI ?_);refine (?_:al _ _ (E8 [x,y]>>=λt=>ret t) _ _ _);refine aj (wpAny_newTuple (aI ⟨_,rfl,?_⟩));have hsz₃:h₃.objs.size=s.heap.objs.size:=by rw[hs₃.1,hs₂.1];exact hsz₁
  have up:∀c o,c≠i1->c≠i2->h₁.get? c=some o->(h₃.push {cls:=.type "tuple",data:=.seq #[x,y]}).get? c=some o:=λc o c1 c2 e=>gS _ (hs₃.extBut _ _ c2 (hs₂.extBut _ _ c1 e));refine hQ _ h₃.objs.size (up _ _ (ek D.i1z) (ek D.i2z) hz₁) ((h1₂.extBut hs₃.extBut D.i12).at λo e=>gS _ e) (h2₃.at λo e=>gS _ e) hsz₃ (dT _ rfl)
   λc o c1 c2 c3 e=>up c o c2 c3 (hk₁ c o c1 e)
theorem Mg {z TI TO T i1 i2 l1 l2:Addr} {b:Bool} {k:Nat} {xs ys:Array Value} {Q:Fin->ae->Prop} (hh:A.handled=none) (D:kL z TI TO i1 i2 l1 l2) (hz:kQ s.heap z TI TO T b) (hT:∃o,s.heap.get? T=some o) (hTI:j5 s.heap TI (.ref i1) (.ref i2)) (h1:s.heap.IsListIter i1 l1 k) (h2:s.heap.IsListIter i2 l2 k) (hl1:s.heap.IsList l1 xs) (hl2:s.heap.IsList l2 ys) (hend:xs[k]?=none\/ys[k]?=none) (hE:∀h' e,(∀c o,c≠z->c≠i1->c≠i2->s.heap.get? c=some o->h'.get? c=some o)->(∃o,h'.get? e=some o/\o.cls=.type "StopIteration")->E (.ref e) {s with heap:=h'}):
  al (aq prog w) A (yO.«zip.__next__» ⟨[.ref z],[]⟩) Q E s:=by
 refine ay hT λoT hT=>?_;refine (?_:al _ _ (mN (.ref z) 2>>=_) _ _ _);refine aj (ir hz rfl (x:=.bool false) rfl ?_);refine (?_:al _ _ (mN (.ref z) 3>>=_) _ _ _);refine aj (ir hz rfl (x:=.ref TI) rfl ?_);refine aj (vA hTI rfl ?_);refine (?_:al _ _ (y9 (.ref z)>>=_) _ _ _);refine aj ?_;unfold y9;refine aj (ir hz rfl (x:=im T) rfl ?_);refine (?_:al _ _ (Fn (T:Int).toNat>>=_) _ _ _);refine aj (Cf ?_);refine aa (show (T:Int).toNat=T from er T) (aa hT ?_);simp only[VM,dp,if_false];refine aj (ir hz rfl (x:=.bool b) rfl ?_);refine ax (Q:=λa s'=>a=false/\∃h₁,s'={s with heap:=h₁}/\kQ h₁ z TI TO T true/\h₁.objs.size=s.heap.objs.size/\∀c o,c≠z->s.heap.get? c=some o->h₁.get? c=some o) ?_ (λa s' q=>?_) λζ ζ e=>e
 ·induction b using dF
  ·rw[if_pos (by decide)];refine aj (VN hz (b7 _ _) λh₁ hz₁ hs₁=>aI ⟨rfl,h₁,rfl,hz₁,hs₁.1,λc o hc e=>hs₁.extBut _ _ hc e⟩)
  ·rw[if_neg (by decide)];exact aI ⟨rfl,s.heap,rfl,hz,rfl,λc o ζ e=>e⟩
 ·obtain ⟨rfl,h₁,rfl,hz₁,hsz₁,hk₁⟩:=q;refine aa (if_neg gz) ?_;refine aj ?_;refine aA VO ?_;simp only[sv,vE];refine aj (aj (dA ?_));refine (?_:al _ _ (ot (.ref i1)>>=_) _ _ _);cases hx:xs[k]? with
  |none=>refine aj (VQ hh (h1.at λo e=>hk₁ i1 o D.i1z e) (hl1.at λo e=>hk₁ l1 o D.l1z e) hx λh₂ e hs₂ he=>?_);exact hE h₂ e (λc o c1 c2 c3 q=>hs₂ _ _ c2 (hk₁ c o c1 q)) he
  |some x=>
   have hy:ys[k]?=none:=by rcases hend with h|h;replace h:=hx▸h;cases h;exact h
   refine aj (Fo (h1.at λo e=>hk₁ i1 o D.i1z e) (hl1.at λo e=>hk₁ l1 o D.l1z e) hx λh₂ h1₂ hs₂=>aI ?_);refine aI ?_;refine aj (aj (dA ?_));refine (?_:al _ _ (ot (.ref i2)>>=_) _ _ _);refine aj (VQ hh ((h2.at λo e=>hk₁ i2 o D.i2z e).extBut hs₂.extBut D.i12.symm) ((hl2.at λo e=>hk₁ l2 o D.l2z e).extBut hs₂.extBut D.l2i1) hy λh₃ e hs₃ he=>?_);exact hE h₃ e (λc o c1 c2 c3 q=>hs₃ _ _ c3 (hs₂.extBut _ _ c2 (hk₁ c o c1 q))) he
theorem Ur {z TI TO T i1 i2 l1 l2:Addr} {b:Bool} {k:Nat} {xs ys:Array Value} {x y:Value} {Q:Option Value->ae->Prop} (D:kL z TI TO i1 i2 l1 l2) (hz:kQ s.heap z TI TO T b) (hT:∃o,s.heap.get? T=some o) (hTI:j5 s.heap TI (.ref i1) (.ref i2)) (h1:s.heap.IsListIter i1 l1 k) (h2:s.heap.IsListIter i2 l2 k) (hl1:s.heap.IsList l1 xs) (hl2:s.heap.IsList l2 ys) (hx:xs[k]?=some x) (hy:ys[k]?=some y) (hQ:∀h' t,kQ h' z TI TO T true->h'.IsListIter i1 l1 (k+1)->h'.IsListIter i2 l2 (k+1)->t=s.heap.objs.size->j5 h' t x y->
   (∀c o,c≠z->c≠i1->c≠i2->s.heap.get? c=some o->h'.get? c=some o)->Q (some (.ref t)) {s with heap:=h'}):al (aq prog w) A (em (.ref z)) Q E s:=by
 have hTy:s.TypeIs (.ref z) "zip" :=⟨_,hz,rfl⟩
 unfold em
 exact aj (Fp (sm (name:=af "__next__") hTy za
  (sn za hTy VR
   (KP D hz hT hTI h1 h2 hl1 hl2 hx hy λh' t a1 a2 a3 a4 a5 a6=>aI (hQ h' t a1 a2 a3 a4 a5 a6)) (VS _))))
theorem SP {z TI TO T i1 i2 l1 l2:Addr} {b:Bool} {k:Nat} {xs ys:Array Value} {Q:Option Value->ae->Prop} (hh:A.handled=none) (D:kL z TI TO i1 i2 l1 l2) (hz:kQ s.heap z TI TO T b) (hT:∃o,s.heap.get? T=some o) (hTI:j5 s.heap TI (.ref i1) (.ref i2)) (h1:s.heap.IsListIter i1 l1 k) (h2:s.heap.IsListIter i2 l2 k) (hl1:s.heap.IsList l1 xs) (hl2:s.heap.IsList l2 ys) (hend:xs[k]?=none\/ys[k]?=none) (hQ:∀h',(∀c o,c≠z->c≠i1->c≠i2->s.heap.get? c=some o->h'.get? c=some o)->Q none {s with heap:=h'}):
  al (aq prog w) A (em (.ref z)) Q E s:=by
 have hTy:s.TypeIs (.ref z) "zip" :=⟨_,hz,rfl⟩
 unfold em
 refine aj (Fp (sm (name:=af "__next__") hTy za
  (sn za hTy VR (Mg hh D hz hT hTI h1 h2 hl1 hl2 hend λh' e hk he=>?_) (VS _))))
 refine ah he λo ho hc=>?_;clear he;refine aj (VT (T:= "StopIteration") (b:=true) ⟨o,ho,hc⟩ VU ?_);exact aI (hQ _ hk)
end
structure kg (h:aP) (z TI TO i1 i2 l1 l2:Addr) (us vs:List Value) (i:Nat):Prop where
 m:(IsZip h z TI TO .none/\∃a b,j5 h TO a b)\/((∃a b,j5 h TO a b)/\∃T b,kQ h z TI TO T b/\∃o,h.get? T=some o)
 TI:j5 h TI (.ref i1) (.ref i2)
 i1:h.IsListIter i1 l1 i
 i2:h.IsListIter i2 l2 i
 l1:iQ h l1 us.toArray
 l2:iQ h l2 vs.toArray
section
variable {X:Cx} {A:aM} {s:ae} {W:List Addr} {E:Value->ae->Prop}
theorem kg.keep {h h':aP} {z TI TO i1 i2 l1 l2:Addr} {us vs:List Value} {i:Nat} {S:Addr} (st:kg h z TI TO i1 i2 l1 l2 us vs i) (hs:io S h h') (hex:∃o,h'.get? S=some o) (hS:S∉[z,TI,TO,i1,i2,l1,l2]):kg h' z TI TO i1 i2 l1 l2 us vs i:=by
 simp only[ao,not_or,ba,not_false_eq_true,and_true] at hS;refine yi hS λq1 q2 q3 q4 q5 q6 q7=>?_;clear hS;have k:∀{c o},S≠c->h.get? c=some o->h'.get? c=some o:=λhc e=>(hs.2 _ (ek hc)).trans e;refine⟨?_,k q2 st.TI,ah st.i1 λo e r=>⟨o,k q4 e,r⟩,ah st.i2 λo e r=>⟨o,k q5 e,r⟩,ay st.l1 λn e=>⟨n,k q6 e⟩,ay st.l2 λn e=>⟨n,k q7 e⟩⟩;rcases st.m with ⟨h1,a,b,h2⟩|⟨⟨a,b,h2⟩,T,c,h3,o,h4⟩
 ·exact .inl ⟨k q1 h1,a,b,k q3 h2⟩
 ·refine .inr ⟨⟨a,b,k q3 h2⟩,T,c,k q1 h3,?_⟩
  by_cases q:T=S
  ·exact q▸hex
  ·exact⟨o,k (ek q) h4⟩
theorem Hj {z TI TO i1 i2 l1 l2:Addr} {us vs:List Value} {i:Nat} {x y:Value} {Q:Option Value->ae->Prop} (D:kL z TI TO i1 i2 l1 l2) (st:kg s.heap z TI TO i1 i2 l1 l2 us vs i) (hx:us[i]?=some x) (hy:vs[i]?=some y) (hQ:∀h',kg h' z TI TO i1 i2 l1 l2 us vs (i+1)->j5 h' s.heap.objs.size x y->(∀c o,c∉[z,TO,i1,i2]->s.heap.get? c=some o->h'.get? c=some o)->Q (some (.ref s.heap.objs.size)) {s with heap:=h'}):
  al (aq X.prog X.w) A (em (.ref z)) Q E s:=by
 have hx':us.toArray[i]?=some x:=by simpa using hx
 have hy':vs.toArray[i]?=some y:=by simpa using hy
 rcases st.m with ⟨h1,a,b,h2⟩|⟨⟨a,b,h2⟩,T,c,h3,h4⟩
 ·refine Vo D h1 st.TI h2 st.i1 st.i2 st.l1.isList st.l2.isList hx' hy' λh' a1 a2 a3 a4 a5 a6 hk=>hQ h' ?_ a5 λc o hc e=>?_
  ·exact⟨.inr ⟨⟨_,_,a2⟩,_,false,a1,_,a5⟩,hk _ _ D.TIz D.TITO D.TIi1 D.TIi2 st.TI,a3,a4,ay st.l1 λn e=>⟨n,hk _ _ D.l1z D.l1TO D.l1i1 D.l1i2 e⟩,ay st.l2 λn e=>⟨n,hk _ _ D.l2z D.l2TO D.l2i1 D.l2i2 e⟩⟩
  ·simp only[ao,not_or,ba,not_false_eq_true,and_true] at hc;exact hk c o hc.1 hc.2.1 hc.2.2.1 hc.2.2.2 e
 ·refine Ur D h3 h4 st.TI st.i1 st.i2 st.l1.isList st.l2.isList hx' hy' λh' t a1 a2 a3 e a5 hk=>?_;subst e;refine hQ h' ⟨.inr ⟨⟨a,b,hk _ _ D.TOz D.TOi1 D.TOi2 h2⟩,T,true,a1,?_⟩,hk _ _ D.TIz D.TIi1 D.TIi2 st.TI,a2,a3,ay st.l1 λn e=>⟨n,hk _ _ D.l1z D.l1i1 D.l1i2 e⟩,ay st.l2 λn e=>⟨n,hk _ _ D.l2z D.l2i1 D.l2i2 e⟩⟩ a5 λc o hc e=>?_
  ·refine ay h4 λo e=>?_;clear h4
   by_cases q1:T=z
   ·refine aa q1 ?_;exact⟨_,a1⟩
   ·by_cases q2:T=i1
    ·refine ah a2 λo1 e1 ζ=>?_;clear a2;exact⟨o1,q2▸e1⟩
    ·by_cases q3:T=i2
     ·refine ah a3 λo1 e1 ζ=>?_;clear a3;exact⟨o1,q3▸e1⟩
     ·exact⟨o,hk _ _ q1 q2 q3 e⟩
  ·simp only[ao,not_or,ba,not_false_eq_true,and_true] at hc;exact hk c o hc.1 hc.2.2.1 hc.2.2.2 e
theorem Og {z TI TO i1 i2 l1 l2:Addr} {us vs:List Value} {i:Nat} {Q:Option Value->ae->Prop} (hh:A.handled=none) (D:kL z TI TO i1 i2 l1 l2) (st:kg s.heap z TI TO i1 i2 l1 l2 us vs i) (hend:us[i]?=none\/vs[i]?=none) (hQ:∀h',(∀c o,c∉[z,TO,i1,i2]->s.heap.get? c=some o->h'.get? c=some o)->Q none {s with heap:=h'}):
  al (aq X.prog X.w) A (em (.ref z)) Q E s:=by
 have hend':us.toArray[i]?=none\/vs.toArray[i]?=none:=by simpa using hend
 rcases st.m with ⟨h1,a,b,h2⟩|⟨⟨a,b,h2⟩,T,c,h3,h4⟩
 ·refine Vp hh D h1 st.TI h2 st.i1 st.i2 st.l1.isList st.l2.isList hend' λh' hk=>hQ h' λc o hc e=>?_;simp only[ao,not_or,ba,not_false_eq_true,and_true] at hc;exact hk c o hc.1 hc.2.1 hc.2.2.1 hc.2.2.2 e
 ·refine SP hh D h3 h4 st.TI st.i1 st.i2 st.l1.isList st.l2.isList hend' λh' hk=>hQ h' λc o hc e=>?_;simp only[ao,not_or,ba,not_false_eq_true,and_true] at hc;exact hk c o hc.1 hc.2.2.1 hc.2.2.2 e
end
section
variable {X:Cx} {A:aM} {s:ae} {W:List Addr} {E:Value->ae->Prop}
theorem RW {xs ys:List PV} {i:Nat} {x y:PV} (hx:xs[i]?=some x) (hy:ys[i]?=some y):(bT xs ys)[i]?=some (.tup [x,y]):=by
 induction xs generalizing ys i with
 |nil=>exact ab hx
 |cons a xs ih=>
  induction ys using aF with
  |nil=>exact ab hy
  |cons b ys=>
   induction i using dq with
   |zero=>rw[ak (show some a=some x from hx),ak (show some b=some y from hy)];rfl
   |succ i=>exact ih (ys:=ys) (i:=i) hx hy
set_option maxHeartbeats 1000000 in
theorem GB {z TI TO i1 i2 l1 l2 S:Addr} {us vs:List Value} {xs ys:List PV} {R:ou->ae->Prop} (hh:A.handled=none) (D:kL z TI TO i1 i2 l1 l2) (hS:S∉[z,TI,TO,i1,i2,l1,l2]) (hW:∀b∈[S,z,TO,i1,i2],b∈W/\X.h0.get? b=none) (hlx:us.length=xs.length) (hly:vs.length=ys.length) (hlen:(bT xs ys).length<=sizeLine):∀(m i:Nat) (s:ae) (acc:List Value) (n:Nat),i+m=(bT xs ys).length->kg s.heap z TI TO i1 i2 l1 l2 us vs i->s.heap.get? S=some {cls:=.type "list",data:=.seq acc.toArray n}->
   ar W s.heap ((bT xs ys).take i) acc->ar W s.heap xs us->ar W s.heap ys vs->ai X s->b8 W s.heap->
   (∀s' acc' n',ai X s'->bx [S,z,TO,i1,i2] s.gens.size s s'->s'.heap.get? S=some {cls:=.type "list",data:=.seq (acc':List Value).toArray n'}->ar W s'.heap (bT xs ys) acc'->R (.ok (.ret .none)) s')->
   j7 (aq X.prog X.w) A (.builtin "list.extend.loop" ⟨[.ref S,.ref z,.none],[]⟩) R s:=by
 have hSz:S∉[z,TO,i1,i2]:=λq=>hS (by
  simp only[ao,ba,or_false] at q⊢
  rcases q with q|q|q|q<;>simp[q])
 have ok4:∀{s:ae} {h':aP} {i:Nat},ai X s->kg s.heap z TI TO i1 i2 l1 l2 us vs i->(∀c o,c∉[z,TO,i1,i2]->s.heap.get? c=some o->h'.get? c=some o)->ai X {s with heap:=h'}:=λ{s h' i} S' st hk=>
  S'.extZ (Z:=[z,TO,i1,i2]) (λb hb=>(hW b (bP _ hb)).2) (λb hb o q=>by
   have tz:∀o,s.heap.get? z=some o->gt o:=λo q=>by
    rcases st.m with ⟨h1,_⟩|⟨_,T,c,h3,_⟩
    ·replace q:=h1▸q;have h_:=ak q;clear q;subst h_;exact dW rfl (by decide)
    ·replace q:=h3▸q;have h_:=ak q;clear q;subst h_;exact dW rfl (by decide)
   have tO:∀o,s.heap.get? TO=some o->gt o:=λo q=>by
    rcases st.m with ⟨_,a,b,h2⟩|⟨⟨a,b,h2⟩,_⟩<;>(replace q:=h2▸q;have h_:=ak q;clear q;subst h_;exact dW rfl (by decide))
   simp only[ao,ba,or_false] at hb;rcases hb with rfl|rfl|rfl|rfl
   ·exact tz o q
   ·exact tO o q
   ·refine bo st.i1 λo1 e1 c1 ζ=>?_;replace q:=e1▸q;have h_:=ak q;clear q;subst h_;exact dW c1 (by decide)
   ·refine bo st.i2 λo2 e2 c2 ζ=>?_;replace q:=e2▸q;have h_:=ak q;clear q;subst h_;exact dW c2 (by decide)) hk
 intro m
 induction m with
 |zero=>
  intro i s acc n hi st hl ra rx ry S' w hR;refine VW VX ?_;refine aa (VY zb _) ?_;refine (?_:al _ A.in1 (em (.ref z)>>=_) _ _ s);have hend:us[i]?=none\/vs[i]?=none:=by
   have hz:=ty xs ys
   by_cases q:xs.length<=ys.length
   ·left;simp;exact IM hlx hi hz q
   ·right;simp;exact Kg hly hi hz q
  refine aj (Og hh D st hend λh' hk=>?_);have hfull:(bT xs ys).take i=bT xs ys:=oh (TU hi);replace ra:=hfull▸ra;refine aI (hR {s with heap:=h'} acc n (ok4 S' st hk) ⟨λb o hb ζ e=>hk b o (λq=>hb (bP _ q)) e,λb o hb e=>⟨o,hk b o (λq=>hb (bP _ q)) e⟩,aT _,λζ ζ=>rfl⟩ (hk S _ hSz hl) ?_);exact ar.kb (V:=[z,TO,i1,i2]) (λb o hb ζ e=>hk b o hb e) (λb hb=>.inl (hW b (bP _ hb)).1) (λb hb=>.inl hb) _ _ ra
 |succ m ih=>
  intro i s acc n hi st hl ra rx ry S' w hR;have hlt:i<(bT xs ys).length:=qR hi;have hz:=ty xs ys;refine bw (rx.some_get (k:=i) (Hq hi hz)) λx u hx hu ru=>?_;refine bw (ry.some_get (k:=i) (Qv hi hz)) λy v hy hv rv=>?_;refine VW VX ?_;refine aa (VY zb _) ?_;refine (?_:al _ A.in1 (em (.ref z)>>=_) _ _ s);refine aj (Hj D st hu hv λh' st' hp hk=>?_);have hl':h'.get? S=some {cls:=.type "list",data:=.seq acc.toArray n}:=hk S _ hSz hl;have kb4:Kb [z,TO,i1,i2] s.heap h':=λb o hb ζ e=>hk b o hb e;have in4:∀b∈[z,TO,i1,i2],b∈W\/s.heap.get? b=none\/∀o,s.heap.get? b=some o->∀its n,o.data≠.seq its n:=λb hb=>.inl (hW b (bP _ hb)).1;have S1:ai X {s with heap:=h'}:=ok4 S' st hk;have hal:acc.length=i:=by refine aa ra.length (aa fJ ?_);exact SW hi
  refine (?_:al _ A.in1 (zc S (·.push (gV s.heap.objs.size))>>=_) _ _ _);refine aj ?_;refine zd hl' rfl (aI ⟨VZ zb _,?_⟩) (by simp;exact CS hlen hi hal) (by simp;exact CS hlen hi hal);have hu':(h'.update S (j8 (·.push (gV s.heap.objs.size)))).get? S=some {cls:=.type "list",data:=.seq (acc++[gV s.heap.objs.size]).toArray (n+1)}:=by rw[pW _ hl' (by rw[Wa];rfl),Wa];simp
  revert hu';refine bY (h'.update S (j8 (·.push (gV s.heap.objs.size)))) λh2 hh2=>?_;intro hu';have hs2:io S h' h2:=hh2▸vB ..;have kbS:Kb [S] h' h2:=λb o hb ζ e=>(hs2.2 b (λq=>hb (by simp[q]))).trans e;have inS:∀b∈[S],b∈W\/h'.get? b=none\/∀o,h'.get? b=some o->∀its n,o.data≠.seq its n:=λb hb=>by simp at hb;subst hb;exact .inl (hW _ iq).1
  have both:∀{ds us},ar W s.heap ds us->ar W h2 ds us:=λ{ds us} r=>ar.kb kbS inS (λb hb=>.inl hb) _ _ (ar.kb kb4 in4 (λb hb=>.inl hb) _ _ r);have bothR:∀{d v},am W s.heap d v->am W h2 d v:=λ{d v} r=>am.kb kbS inS (λb hb=>.inl hb) _ _ (am.kb kb4 in4 (λb hb=>.inl hb) _ _ r);have hSn:s.heap.objs.size≠S:=λq=>by (replace hl:=(c5 q)▸hl;replace hl:=d9▸hl);exact ab hl
  have S2:ai X {s with heap:=h2}:=S1.same (tk:=s.toks) (hW S iq).2 (λo e=>by
   have e:h'.get? S=some o:=e
   replace e:=hl'▸e;have h_:=ak e;clear e;subst h_;exact dW rfl (by decide)) hs2
  have k5:bx [S,z,TO,i1,i2] s.gens.size s {s with heap:=h2}:=
   ⟨λb o hb ζ e=>(hs2.2 b (λq=>hb (by simp[q]))).trans (hk b o (λq=>hb (bP _ q)) e),λb o hb e=>⟨o,(hs2.2 b (λq=>hb (by simp[q]))).trans (hk b o (λq=>hb (bP _ q)) e)⟩,aT _,λζ ζ=>rfl⟩
  refine ih (i+1) {s with heap:=h2} (acc++[gV s.heap.objs.size]) (n+1) (nP hi) (st'.keep hs2 ⟨_,hu'⟩ hS) hu' ?_ (both rx) (both ry) S2 (λb hb=>?_) λs' acc' n' q1 q2 q3 q4=>hR s' acc' n' q1 (k5.trans q2) q3 q4
  ·refine aa List.take_add_one (aa (RW hx hy) ?_);refine (both ra).append (ar.one ?_);skip;refine⟨s.heap.objs.size,[u,v],rfl,w.new,⟨_,(hs2.2 _ hSn).trans hp,rfl,_,rfl⟩,by refine (?_:2<=sizeLine);decide,u,[v],rfl,bothR ru,v,[],rfl,bothR rv,rfl⟩
  ·refine ah (w b hb) λo e ht=>?_
   by_cases q1:b=S
   ·exact au _ (q1▸hu') rfl
   ·have go:(∃o,h'.get? b=some o/\cG o=false)->∃o,h2.get? b=some o/\cG o=false:=λh_0=>ah h_0 λo e ht=>⟨o,(hs2.2 b q1).trans e,ht⟩
    by_cases q2:b∈[z,TO,i1,i2]
    ·refine go ?_;simp only[ao,ba,or_false] at q2;rcases q2 with rfl|rfl|rfl|rfl
     ·rcases st'.m with ⟨h1,_⟩|⟨_,T,c,h3,_⟩
      ·exact au _ h1 rfl
      ·exact au _ h3 rfl
     ·rcases st'.m with ⟨_,a,b,h2⟩|⟨⟨a,b,h2⟩,_⟩<;>exact au _ h2 rfl
     ·refine bo st'.i1 λo e hc ζ=>?_;exact au o e (ee hc)
     ·refine bo st'.i2 λo e hc ζ=>?_;exact au o e (ee hc)
    ·exact go ⟨o,hk b o q2 e,ht⟩
end
section
variable {X:Cx} {A:aM} {s:ae} {W:List Addr} {E:Value->ae->Prop}
set_option maxHeartbeats 1000000 in
theorem OL {z TI TO i1 i2 l1 l2:Addr} {us vs:List Value} {xs ys:List PV} (hh:A.handled=none) (D:kL z TI TO i1 i2 l1 l2) (S:ai X s) (w:b8 W s.heap) (st:kg s.heap z TI TO i1 i2 l1 l2 us vs 0) (hz:IsZip s.heap z TI TO .none) (rx:ar ([z,TO,i1,i2]++W) s.heap xs us) (ry:ar ([z,TO,i1,i2]++W) s.heap ys vs) (h0:∀b∈[z,TO,i1,i2],X.h0.get? b=none) (hlen:(bT xs ys).length<=sizeLine) {s0:ae} (k0:ag [] s0 s) (hf:∀b∈[z,TO,i1,i2],s0.heap.get? b=none):al (aq X.prog X.w) A (call (.type "list") [.ref z]) (λv s2=>ai X s2/\ag [] s0 s2/\am W s2.heap (.list (bT xs ys)) v) (λζ ζ=>False) s:=by
 have hSn:s.heap.get? s.heap.objs.size=none:=d9;refine callType_codes (Q₁:=λobj s₁=>obj=.ref s.heap.objs.size/\s₁={s with heap:=s.heap.push {cls:=.type "list",data:=.seq #[]}}) F.called_list (F.typeCall_list_1 _) F.entry_list_init
  (code_list_new _ ⟨rfl,rfl⟩) λobj s₁ h₁=>?_
 refine bf h₁ λe0_ e1_=>?_;clear h₁;subst e0_;subst e1_;have hS:(s.heap.push {cls:=.type "list",data:=.seq #[]}).get? s.heap.objs.size=some {cls:=.type "list",data:=.seq #[]}:=dT _ rfl;refine dX ⟨_,hS,rfl⟩ (F.args_list_init_2 _ _) ?_;refine bY ((wants (λr s₂=>r=Value.none/\(ai X s₂/\ag [] s0 s₂/\am W s₂.heap (.list (bT xs ys)) (.ref s.heap.objs.size))) (λζ ζ=>False):ou->ae->Prop)) λR hR=>?_;refine (?_:al _ A.in1.in1 (do let old <- Wb (.ref s.heap.objs.size);XV (.ref s.heap.objs.size) (λζ=> #[]);letGo old.toList.reverse;Fq (.ref s.heap.objs.size) (.ref z) .none) _ _ _);have ne:∀{b o},s.heap.get? b=some o->s.heap.objs.size≠b:=λe q=>by (replace e:=(c5 q)▸e;replace e:=hSn▸e);exact ab e
 have hSout:s.heap.objs.size∉[z,TI,TO,i1,i2,l1,l2]:=λq=>by
  simp only[ao,ba,or_false] at q;rcases q with q|q|q|q|q|q|q
  ·exact ne hz q
  ·exact ne st.TI q
  ·rcases st.m with ⟨_,a,b,h2⟩|⟨⟨a,b,h2⟩,_⟩<;>exact ne h2 q
  ·refine ah st.i1 λo e ζ=>?_;exact ne e q
  ·refine ah st.i2 λo e ζ=>?_;exact ne e q
  ·refine ay st.l1 λn e=>?_;exact ne e q
  ·refine ay st.l2 λn e=>?_;exact ne e q
 have main:∀(h:aP) (n:Nat),(∀b o,s.heap.get? b=some o->h.get? b=some o)->h.get? s.heap.objs.size=some {cls:=.type "list",data:=.seq #[] n}->
   j7 (aq X.prog X.w) A.in1 (.builtin "list.extend.loop" ⟨[.ref s.heap.objs.size,.ref z,.none],[]⟩) R {s with heap:=h}:=by
  intro h n hk hl;have S1:ai X {s with heap:=h}:=S.keep (tk:=s.toks) hk;have st1:kg h z TI TO i1 i2 l1 l2 us vs 0:=by
   refine⟨?_,hk _ _ st.TI,ah st.i1 λo e r=>⟨o,hk _ _ e,r⟩,ah st.i2 λo e r=>⟨o,hk _ _ e,r⟩,ay st.l1 λn e=>⟨n,hk _ _ e⟩,ay st.l2 λn e=>⟨n,hk _ _ e⟩⟩;rcases st.m with ⟨h1,a,b,h2⟩|⟨_,T,c,h3,_⟩
   ·exact .inl ⟨hk _ _ h1,a,b,hk _ _ h2⟩
   ·have h3':s.heap.get? z=some _:=h3;replace h3':=hz▸h3';cases h3'
  have up:∀{ds us},ar ([z,TO,i1,i2]++W) s.heap ds us->ar ([s.heap.objs.size,z,TO,i1,i2]++W) h ds us:=λ{ds us} r=>
   kz (W':=[s.heap.objs.size]) r hk λb hb=>by simp at hb;exact hb▸hSn
  refine GB (A:=A.in1) (W:=[s.heap.objs.size,z,TO,i1,i2]++W) hh D hSout (λb hb=>⟨bC _ hb,?_⟩) (rx.length) (ry.length) hlen (bT xs ys).length 0 {s with heap:=h} [] n (jr _) st1 hl (by rfl) (up rx) (up ry) S1 (λb hb=>?_)
   λs' acc' n' q1 q2 q3 q4=>?_
  ·rcases ao.mp hb with q|q
   ·exact q▸S.fresh hSn
   ·exact h0 b q
  ·rcases be.mp hb with q|q
   ·simp only[ao,ba,or_false] at q;rcases q with rfl|rfl|rfl|rfl|rfl
    ·exact au _ hl rfl
    ·exact au _ (hk _ _ hz) rfl
    ·rcases st.m with ⟨_,a,b,h2⟩|⟨⟨a,b,h2⟩,_⟩<;>exact au _ (hk _ _ h2) rfl
    ·refine bo st.i1 λo e hc ζ=>?_;exact au o (hk _ _ e) (ee hc)
    ·refine bo st.i2 λo e hc ζ=>?_;exact au o (hk _ _ e) (ee hc)
   ·refine ah (w b q) λo e ht=>?_;exact au o (hk _ _ e) ht
  ·refine aA hR ?_;refine iM rfl q1 (bx.after (k0.trans (ag.keep (tk:=s.toks) hk)) q2 (λb hb=>?_) k0.gsz) ?_
   ·rcases ao.mp hb with q|q
    ·exact q▸k0.none hSn
    ·exact hf b q
   ·skip;refine iE _ acc' rfl w.new ⟨n',q3⟩ (by refine aa q4.length ?_;exact hlen) (q4.sub λb hb=>bG _ hb)
 have zT:∀{h:aP},(∀b o,s.heap.get? b=some o->h.get? b=some o)->({s with heap:=h}:ae).TypeIs (.ref z) "zip" :=λhk=>⟨_,hk _ _ hz,rfl⟩
 refine aj ?_;unfold Wb;refine aj (vA hS rfl (aI ?_));refine (?_:al _ A.in1.in1 (zc s.heap.objs.size (λζ=> #[])>>=λζ=>letGo (#[]:Array Value).toList.reverse>>=λζ=>Fq (.ref s.heap.objs.size) (.ref z) .none) _ _ _);refine aj (zd hS rfl ?_);have hS₂:=pW (j8 (λζ=>(#[]:Array Value))) hS rfl;revert hS₂;refine bY ((s.heap.push {cls:=.type "list",data:=.seq #[]}).update s.heap.objs.size (j8 (λζ=>(#[]:Array Value)))) λh2 hh2=>?_;intro hS₂;have k2:∀b o,s.heap.get? b=some o->h2.get? b=some o:=λb o e=>by refine aA hh2 ?_;exact (Fs _ _ (ne e)).trans (bz b o e)
 refine aj (wpAny_letGo ?_);unfold Fq;refine aj (EY (zT k2) ?_);have e1:XW (.ref s.heap.objs.size) (.ref z)=false:=by have:s.heap.objs.size≠z:=ne hz;exact decide_eq_false (by assumption)
 have e2:(Value.type "zip" ==Value.type "list")=false:=by decide
 have e3:(Value.type "zip" ==Value.type "tuple")=false:=by decide
 simp only[e1,e2,e3,Ft,dp,if_false];refine aj (Fb (k2 _ _ hz) ?_);refine aj (dA ?_);unfold XX;refine aj (yZ (zT k2) MN ?_);refine (?_:al _ A.in1.in1 (specialOf (gV z) (af "__length_hint__")>>=_) _ _ _);refine aj (yZ (zT k2) Tw ?_);refine aI ?_
 show al _ A.in1.in1 (E6 "list.extend.makes-room" >>=λζ=>XY (.ref s.heap.objs.size)>>=λζ=>
  again (.builtin "list.extend.loop" ⟨[.ref s.heap.objs.size,.ref z,.none],[]⟩)) _ _ _
 refine aj (vx ?_);refine aj ?_;refine (?_:al _ A.in1.in1 (zc s.heap.objs.size (·.push .none)>>=λζ=>zc s.heap.objs.size (·.pop)) _ _ _);refine aj (zd hS₂ rfl ?_);have hS₃:=pW (j8 (·.push Value.none)) hS₂ rfl;refine zd (hz:=by seq_fits) hS₃ rfl ?_;have hS₄:=pW (j8 (·.pop)) hS₃ rfl;refine aI ⟨VZ zb _,main _ _ (λb o e=>?_) hS₄⟩;exact (Fs _ _ (ne e)).trans ((Fs _ _ (ne e)).trans (k2 b o e))
theorem So:bR X:=by
 intro A s W xs ys x y R S w r1 r2 hlen;have hnew:∀j,s.heap.get? (s.heap.objs.size+j)=none:=λj=>by
  cases e:s.heap.get? (s.heap.objs.size+j) with
  |none=>rfl
  |some o=>exact absurd (fm e) (pY (gy _ _))
 refine eQ r1 λl1 us e2_ a1 hl1 n1 q1=>?_;clear r1;subst e2_;refine eQ r2 λl2 vs e2_ a2 hl2 n2 q2=>?_;clear r2;subst e2_;have ne:∀{l:Addr} {o:d5} {j:Nat},s.heap.get? l=some o->l≠s.heap.objs.size+j:=λe q=>by rw[q,hnew] at e;exact ab e
 refine ay hl1 λm1 e1=>?_;clear hl1;refine ay hl2 λm2 e2=>?_;clear hl2;have hs:∀b∈[s.heap.objs.size+4,s.heap.objs.size+3,s.heap.objs.size+0,s.heap.objs.size+1],s.heap.get? b=none:=λb hb=>by
  simp only[ao,ba,or_false] at hb;rcases hb with rfl|rfl|rfl|rfl<;>exact hnew _
 have D:kL (s.heap.objs.size+4) (s.heap.objs.size+2) (s.heap.objs.size+3) (s.heap.objs.size+0) (s.heap.objs.size+1) l1 l2:=by
  constructor<;>first|exact ne e1|exact ne e2|(intro q;have:=Vw q;lia)
 refine Vv ⟨_,e1,rfl,_,rfl⟩ ⟨_,e2,rfl,_,rfl⟩ λh' z1 z2 z3 z4 z5 ζ hk=>⟨S.keep hk,ag.keep hk,?_⟩
 exact OL (s0:=s) (s:={s with heap:=h'}) R.hh D (S.keep hk) (w.step (ag.keep (s:=s) (tk:=s.toks) hk)) ⟨.inl ⟨z1,_,_,z3⟩,z2,z4,z5,⟨m1,hk _ _ e1⟩,⟨m2,hk _ _ e2⟩⟩ z1 (kz q1 hk hs) (kz q2 hk hs) (λb hb=>S.fresh (hs b hb)) (dM hlen) (ag.keep hk) hs
end
section
variable {X:Cx} {A:aM} {s:ae} {env:Env} {sc:Scope} {σ:Sg} {own:List (Str×Addr)} {P:List Addr} {O:Orc} {k n:Nat}
theorem lh (Q:List Addr):Q++av []=Q:=kM Q
theorem HA {e:ac} {d:PV} (h:pa O (n+1) sc σ e=some d):(∃x p,e=.Name x p/\br sc x=true/\fW σ x=some d)\/pe O n sc σ e=some d:=by
 induction e using bt with
 |Name x p=>exact nv (show (if br sc x=true then fW σ x else pe O n sc σ (.Name x p))=some d from h) (λq h=>.inl ⟨x,p,rfl,q,h⟩) λζ h=>.inr h
 |_=>exact .inr h
theorem MX (hE:fv X A O n):iI X A O (n+1):=by
 intro sc σ env own P e d s h S V;rcases HA h with ⟨x,p,rfl,hx,h⟩|h
 ·exact u4 S V hx h
 ·exact (hE sc σ env own P e d s h S V).mono λv s' ζ ζ r=>⟨r.sub qZ,λζ=>r⟩
theorem JS (hE:fv X A O n):yl X A O (n+1):=by
 intro sc σ env own P e c s h S V
 induction e using bO with
 |none=>have h_:=ak h;clear h;subst h_;exact aI ⟨S,ag.refl,.none⟩
 |some e=>
  have h:(match pe O n sc σ e with|some d=>uk (some d)|none=>none)=some c:=h
  set_option smartUnfolding false in refine om h λd hd h=>?_
  exact (hE sc σ env own P e d s hd S V).mono λv s' ζ ζ r=>MK r h
theorem KB {e:ac} {d:PV} {c:Bool} {W:List Addr} (he:isTrue e env (aJ e env)=(do let v <- aJ e env;dR e.pos;holding [v] (truthy v))) (h1:Ev X A s (aJ e env) (λv s'=>am W s'.heap d v)) (h:eO d=some c):Ev X A s (isTrue e env (aJ e env)) (λb ζ=>b=c):=by refine wpAny_isTrue_value (ax h1 (λv s1 h_0=>aL h_0 λS1 k1 r1=>?_) λζ ζ f=>f) he;exact ax (vW S1 r1 h) (λb s2 h_1=>aL h_1 λS2 k2 e2=>⟨S2,k1.trans k2,e2⟩) λζ ζ f=>f
theorem Q5 {b c:Bool} (h:eO (.bool b)=some c):b=c:=by exact ak h
theorem Rw {l:ac} {ops:List nZ} {rs:List ac} {pos:Pos} {d:PV} (h:pe O (n+1) sc σ (.Compare l ops rs pos)=some d):∃op r a b c,ops=[op]/\rs=[r]/\pa O n sc σ l=some a/\pa O n sc σ r=some b/\iA op a b=some c/\d=.bool c:=by
 induction ops using aF with
 |nil=>exact ab h
 |cons op ops=>
  induction ops using aF with
  |cons=>exact ab h
  |nil=>
   induction rs using aF with
   |nil=>exact ab h
   |cons r rs=>
    induction rs using aF with
    |cons=>exact ab h
    |nil=>
     replace h:=uM▸h
     set_option smartUnfolding false in refine km h λa b ha hb h=>?_
     refine ah (gA.mp h) λc h1 e2_=>?_;subst e2_;exact⟨op,r,a,b,c,rfl,rfl,ha,hb,h1,rfl⟩
theorem DK {e:ac} {c:Bool} (hA:iI X A O n) (S:ai X s) (V:ap X sc env σ own P s.heap) (he:isTrue e env (aJ e env)=(do let v <- aJ e env;dR e.pos;holding [v] (truthy v))) (h:(match pa O n sc σ e with|some d=>eO d|none=>none)=some c):Ev X A s (isTrue e env (aJ e env)) (λb ζ=>b=c):=by
 set_option smartUnfolding false in refine om h λd hd h=>?_
 exact KB he ((hA sc σ env own P e d s hd S V).mono λv s' ζ ζ r=>r.1) h
theorem Ss {l:ac} {ops:List nZ} {rs:List ac} {pos:Pos} {c:Bool} (R:aK A (k+2)) (hE':∀m,m<n->iI X A O m) (S:ai X s) (V:ap X sc env σ own P s.heap) (h:(match pa O n sc σ (.Compare l ops rs pos) with|some d=>eO d|none=>none)=some c):Ev X A s (isTrue (.Compare l ops rs pos) env (aJ (.Compare l ops rs pos) env)) (λb ζ=>b=c):=by
 set_option smartUnfolding false in refine om h λd hd h=>?_
 induction n using dq with
 |zero=>exact ab hd
 |succ n=>
  induction n using dq with
  |zero=>exact ab hd
  |succ n=>
   obtain ⟨op,r,a,b,c',rfl,rfl,ha,hb,h1,rfl⟩:=Rw (n:=n) hd;have:=Q5 h;subst this;exact IE (R.mono (b7 _ _)) (Bz hb) ((hE' n (BF) sc σ env own P l a s ha S V).mono λv s' ζ ζ r=>r.1)
    (λs' S' k'=>(hE' n (BF) sc σ env own P r b s' hb S' (V.keep k'.kb)).mono λv s' ζ ζ r=>r.1) h1
theorem Ud (R:aK A (k+2)) (hE':∀m,m<n->iI X A O m) (hA:iI X A O n) (hT:i5 X A O n):i5 X A O (n+1):=by
 intro sc σ env own P e c s h S V
 induction e using bt with
 |UnaryOp op x pos=>
  cases op with
  |Not=>refine ah (gA.mp (show (pT O n sc σ x).map (!·)=some c from h)) λc' h1 e2_=>?_;subst e2_;exact wpAny_isTrue_Not (ax (hT sc σ env own P x c' s h1 S V) (λb s1 h_2=>aL h_2 λS1 k1 e1=>⟨S1,k1,aa e1 rfl⟩) λζ ζ f=>f)
  |_=>exact DK hA S V rfl h
 |BoolOp op vs pos=>exact wpAny_isTrue_BoolOp (vZ (λe d s q S V=>hT sc σ env own P e d s q S V) vs c s h S V)
 |IfExp t b o pos=>exact ab h
 |Compare l ops rs pos=>exact Ss R hE' S V h
 |_=>exact DK hA S V rfl h
end
section
variable {X:Cx} {A:aM} {s:ae} {env:Env} {sc:Scope} {σ:Sg} {own:List (Str×Addr)} {P:List Addr} {O:Orc} {k n:Nat}
theorem Nj {d:PV} {o:ac} {name:Str} {apos pos:Pos} {args:List ac} (OK:bg X O k) (R2:aK A 2) (hE:fv X A O n) (hA:iI X A O n) (S:ai X s) (V:ap X sc env σ own P s.heap) (h:pe O (n+1) sc σ (.Call (.Attribute o name apos) args [] pos)=some d):Ev X A s (aJ (.Call (.Attribute o name apos) args [] pos) env) (λv s'=>am (P++av own) s'.heap d v):=by
 cases hn:oW o with
 |false=>
  induction o using bt with
  |Name x xp=>
   replace h:=uR▸h;refine ifs h λhc h=>o9 hc λhp hl h0=>?_;have h0:=(kK _).mp h0;have hl:args.length<30:=vq hl;refine nv h (λhx h=>?_) λζ h=>?_
   ·set_option smartUnfolding false in refine km h λr ds h1 h2 h=>?_
    refine bf (pJ h) λh3 h4=>?_;cases ho:(cz σ (.Name x xp)||args.any (cz σ))
    ·refine bf (ER.mp ho) λho1 ho2=>?_;exact u6 (V:=P++av own) R2 V.win h0 hp hl (mA h2) ((u4 S V hx h1).mono λv s' ζ ζ r=>r.2 ho1) (λs' S' k'=>xR hA ho2 h2 S' (V.keep k'.kb)) h3
    ·refine (u6 (V:=[]) (W:=[]) R2 s7 h0 hp hl (mA h2) ((u4 S V hx h1).mono λv s' ζ ζ r=>r.1) (λs' S' k'=>rd hA h2 S' (V.keep k'.kb)) h3).mono λv s' ζ ζ r=>r.flat (h4 ho)
   ·refine ifs h λhg h'=>jE hg λhg1 hn=>?_;have hn:=bc hn;subst hn
    set_option smartUnfolding false in refine om h' λds h2 h=>?_
    exact bf (pJ h) λh3 h4=>Gk (V:=[]) OK S V R2 hg1 s7 hp hl (mA h2) (h4 rfl) (λs' S' k'=>rd hA h2 S' (V.keep k'.kb)) h3
  |_=>first|exact aU hn|exact cL hn
 |true=>
  replace h:=(x5 hn)▸h;refine ifs h λhc h=>o9 hc λhp hl h0=>?_;have h0:=(kK _).mp h0;have hl:args.length<30:=vq hl
  set_option smartUnfolding false in refine km h λr ds h1 h2 h=>?_
  refine bf (pJ h) λh3 h4=>?_;cases ho:args.any (cz σ)
  ·exact u6 (V:=P++av own) R2 V.win h0 hp hl (mA h2) (hE sc σ env own P o r s h1 S V) (λs' S' k'=>xR hA ho h2 S' (V.keep k'.kb)) h3
  ·refine (u6 (V:=[]) (W:=[]) R2 s7 h0 hp hl (mA h2) ((hE sc σ env own P o r s h1 S V).mono λv s' ζ ζ r=>r.sub qZ) (λs' S' k'=>rd hA h2 S' (V.keep k'.kb)) h3).mono λv s' ζ ζ r=>r.flat (h4 ho)
theorem Qn {d:PV} {f:Str} {fp pos:Pos} {args:List ac} (OK:bg X O k) (LZ:bR X) (R:aK A (k+2)) (hE:fv X A O n) (hA:iI X A O n) (S:ai X s) (V:ap X sc env σ own P s.heap) (h:pe O (n+1) sc σ (.Call (.Name f fp) args [] pos)=some d):Ev X A s (aJ (.Call (.Name f fp) args [] pos) env) (λv s'=>am (P++av own) s'.heap d v):=by
 cases hc:qQ args with
 |true=>
  replace h:=(BE hc)▸h;refine ifs h λhg h=>?_
  set_option smartUnfolding false in refine om h λds hm h=>?_
  exact TP OK R hA S V hg hm h
 |false=>
  obtain ⟨z,pz,as,p,rfl⟩:=R5 hc;replace h:=Cu▸h;refine ifs h λhg h=>nv h (λhz h'=>o9 hz λhz1 hz2 hz3=>?_) λζ h=>?_
  ·have hz1:=bc hz1;have hz2:=bc hz2;subst hz1 hz2;refine LN h' λxs ys hm h=>?_;refine bo (rh h) λzs h1 hl e3_=>?_;subst e3_;have h1:=ak h1;subst h1;exact NV OK LZ R hE S V hg hz3 hm hl
  ·set_option smartUnfolding false in refine om h λd' hd h=>?_
   refine xV OK S V R hg V.win (λe he=>by simp at he;subst he;rfl) (.inl rfl) (λs' S' k'=>?_) V.win (λf v h=>(tD h).1) h;have hm:aX (pe O n sc σ) [.Call (.Name z pz) as [] p]=some [d']:=aG hd a7;exact fP hE hm S' (V.keep k'.kb)
theorem JQ (OK:bg X O k) (LZ:bR X) (R:aK A (k+2)) (hlt:∀m,m<n->fv X A O m/\i5 X A O m/\kR X A O m) (hE:fv X A O n) (hA:iI X A O n) (hT:i5 X A O n) (hO:yl X A O n) (hI:kR X A O n):fv X A O (n+1):=by
 intro sc σ env own P e d s h S V;have R1:aK A 1:=R.mono (b7 _ _);have R2:aK A 2:=R.mono (b7 _ _)
 induction e using bt with
 |Constant c kd pos=>exact HR S h
 |Name x pos=>
  replace h:=rg▸h;refine nv h (λhx h=>SI S V hx h) λζ h=>?_
  ·refine ifs h λhg h=>?_;obtain ⟨hnm,v,hm,hr⟩:=OK.gc x d h;exact (nn S V hg hnm (.inl hm)).mono λu s' ζ ζ h_=>bf h_ λe1 ζ=>e1▸hr _ _
 |BinOp l op r pos=>
  replace h:=rF▸h
  set_option smartUnfolding false in refine km h λa b ha hb h=>?_
  exact oP R1 S V (hE sc σ env own P l a s ha S V) (λs' S' k'=>hE sc σ env own P r b s' hb S' (V.keep k'.kb)) h
 |UnaryOp op x pos=>
  cases op with
  |USub=>replace h:=DT▸h;refine HB h λi hi h=>?_;have h:=ak h;subst h;exact IS (hE sc σ env own P x _ s hi S V)
  |_=>exact ab h
 |BoolOp op vs pos=>exact DS (λe d s q S V=>hE sc σ env own P e d s q S V) vs d s h S V
 |IfExp t b o pos=>replace h:=A9▸h;exact yn h (λht h=>we (hT sc σ env own P t true s ht S V) λs' S' k'=>hE sc σ env own P b d s' h S' (V.keep k'.kb)) λht h=>we (hT sc σ env own P t false s ht S V) λs' S' k'=>hE sc σ env own P o d s' h S' (V.keep k'.kb)
 |Compare l ops rs pos=>
  induction ops using aF with
  |nil=>exact ab h
  |cons op r2=>
   induction r2 using aF with
   |cons _ _=>exact ab h
   |nil=>
    induction rs using aF with
    |nil=>exact ab h
    |cons r r3=>
     induction r3 using aF with
     |cons _ _=>exact ab h
     |nil=>
      replace h:=uM▸h
      set_option smartUnfolding false in refine km h λa b ha hb h=>?_
      refine ah (gA.mp h) λc h1 e2_=>?_;subst e2_;exact (Uq R2 (Bz hb) ((hA sc σ env own P l a s ha S V).mono λv s' ζ ζ r=>r.1) (λs' S' k'=>(hA sc σ env own P r b s' hb S' (V.keep k'.kb)).mono λv s' ζ ζ r=>r.1) h1).mono λv s' ζ ζ e=>e
 |List es pos=>refine bo (rh h) λds h1 hl e3_=>?_;subst e3_;exact K7 V (fP hE h1 S V) hl
 |Tuple es kd pos=>refine bo (rh h) λds h1 hl e3_=>?_;subst e3_;exact Om V (fP hE h1 S V) hl
 |Subscript v i pos=>
  cases hsl:po i with
  |false=>
   induction i using bt with
   |Slice lo hi st sp=>
    replace h:=C9▸h
    ·set_option smartUnfolding false in refine om h λa h1 h=>om h λcl h2 h=>om h λch h3 h=>om h λcs h4 h=>?_
     exact Hv S V (hE sc σ env own P v a s h1 S V) (λs' S' k'=>hO sc σ env own P lo cl s' h2 S' (V.keep k'.kb)) (λs' S' k'=>hO sc σ env own P hi ch s' h3 S' (V.keep k'.kb)) (λs' S' k'=>hO sc σ env own P st cs s' h4 S' (V.keep k'.kb)) h
   |_=>first|exact aU hsl|exact cL hsl
  |true=>
   replace h:=(u8 hsl)▸h
   set_option smartUnfolding false in refine km h λa kk h1 h2 h=>?_
   refine bf (pJ h) λh3 h4=>?_;cases ho:cz σ v
   ·exact DR (W':=P++av own) (λb hb=>hb) ((hA sc σ env own P v a s h1 S V).mono λv s' ζ ζ r=>r.2 ho) (λs' S' k'=>hE sc σ env own P i kk s' h2 S' (V.keep k'.kb)) h3
   ·refine (DR (W:=[]) (W':=P++av own) qZ ((hA sc σ env own P v a s h1 S V).mono λv s' ζ ζ r=>r.1) (λs' S' k'=>hE sc σ env own P i kk s' h2 S' (V.keep k'.kb)) h3).mono λv s' ζ ζ r=>r.flat (h4 ho)
 |ListComp elt gens sc' pos=>
  induction gens using aF with
  |nil=>exact ab h
  |cons g gs=>
   replace h:=uW▸h;refine ifs h λhsc h=>?_
   set_option smartUnfolding false in refine om h λxs hx h=>?_
   refine bo (rh h) λys h1 hl e3_=>?_;subst e3_;exact Q7 R.hh hsc S V (hI sc σ env own P g.target g.iter xs s hx S V) hlt h1 hl
 |Call f args kws pos=>
  induction f using bt with
  |Attribute o name apos=>
   induction kws using aF with
   |cons _ _=>exact ab h
   |nil=>exact Nj OK R2 hE hA S V h
  |Name f fp=>
   induction kws using aF with
   |cons _ _=>exact ab h
   |nil=>exact Qn OK LZ R hE hA S V h
  |_=>exact ab h
 |_=>exact ab h
theorem tl (OK:bg X O k) (LZ:bR X) (R:aK A (k+2)):∀n,(∀m,m<=n->fv X A O m/\iI X A O m/\i5 X A O m/\yl X A O m/\kR X A O m):=by
 intro n
 induction n with
 |zero=>
  intro m hm;have:m=0:=Nat.eq_zero_of_le_zero (by assumption);subst this;refine xQ ?_ ?_ ?_ ?_ ?_
  ·intro sc σ env own P e d s h;exact ab h
  ·intro sc σ env own P e d s h;exact ab h
  ·intro sc σ env own P e d s h;exact ab h
  ·intro sc σ env own P e d s h;exact ab h
  ·intro sc σ env own P tgt e d s h;exact ab h
 |succ n ih=>
  intro m hm
  by_cases hle:m<=n
  ·exact ih m hle
  ·have:m=n+1:=I1 hm hle;subst this;refine uv (ih n (aT _)) λhE hA hT hO hI=>?_;refine xQ (JQ OK LZ R (λm hm=>?_) hE hA hT hO hI) (MX hE) (Ud R (λm hm=>(ih m (ej (by assumption))).2.1) hA hT) (JS hE) (RG OK R hE);refine uv (ih m (ej (by assumption))) λq1 ζ q3 ζ q5=>?_;exact dX q1 q3 q5
theorem du (OK:bg X O k) (LZ:bR X) (R:aK A (k+2)) (n:Nat):fv X A O n:=(tl OK LZ R n n (aT _)).1
theorem Mk (OK:bg X O k) (LZ:bR X) (R:aK A (k+2)) (n:Nat):iI X A O n:=(tl OK LZ R n n (aT _)).2.1
theorem li (OK:bg X O k) (LZ:bR X) (R:aK A (k+2)) (n:Nat):i5 X A O n:=(tl OK LZ R n n (aT _)).2.2.1
theorem wx (OK:bg X O k) (LZ:bR X) (R:aK A (k+2)) (n:Nat):kR X A O n:=(tl OK LZ R n n (aT _)).2.2.2.2
end
inductive Out where
 |nx (σ:Sg)
 |bk (σ:Sg)
 |rt (d:PV)
noncomputable def cj (step:Sg->PV->Option Out):List PV->Sg->Option Out
 |[],σ=>some (.nx σ)
 |d::ds,σ=>match step σ d with
  |some (.nx σ')=>cj step ds σ'
  |r=>r
theorem u7 {f d ds σ}:cj f (d::ds) σ=(match f σ d with|some (.nx σ1)=>cj f ds σ1|r=>r):=rfl
noncomputable def kh:ac->Bool
 |.Call (.Attribute (.Name _ _) m _) [_] [] _=>m== "split"
 |_=>false
noncomputable def eU (O:Orc) (n:Nat) (sc:Scope) (σ:Sg) (e:ac):Option Ent:=match e with
 |.List es _=>(match aX (pe O n sc σ) es with|some ds=>if aZ ds.length then some (.own ds) else none|none=>none)
 |e=>(match pe O n sc σ e with
  |some (.list xs)=>if kh e then some (.own xs) else some (.sh (.list xs))
  |some d=>some (.sh d)
  |none=>none)
noncomputable def fu:ac->Option Str
 |.Name x _=>some x
 |_=>none
noncomputable def jN:List Str->Bool
 |[]=>true
 |x::r=> !r.contains x&&jN r
theorem A2 {x r}:jN (x::r)=(!r.contains x&&jN r):=rfl
noncomputable def bI:Sg->List (Str×Ent)->Sg
 |σ,[]=>σ
 |σ,(x,e)::r=>bI (put σ x e) r
theorem KV {σ x e r}:bI σ ((x,e)::r)=bI (put σ x e) r:=rfl
noncomputable def lW (op:kE) (a b:PV):Option PV:=match op,a,b with
 |.Add,.int x,.int y=>some (.int (x+y))
 |.Sub,.int x,.int y=>some (.int (x - y))
 |.BitXor,.int x,.int y=>some (.int (sb x y))
 |_,_,_=>none
noncomputable def fM (σ:Sg) (x:Str):Option (List PV):=match σ.lookup x with
 |some (.own xs)=>some xs
 |_=>none
noncomputable def kj (O:Orc) (n:Nat) (sc:Scope) (σ:Sg) (e:ac):Option (List PV):=match e with
 |.Call (.Name f _) [a] [] _=>if bS sc f then (match pe O n sc σ a with|some d=>O.gen f [d]|none=>none) else none
 |_=>none
theorem SX {O:Orc} {n:Nat} {sc:Scope} {σ:Sg} {e:ac} {xs:List PV} (h:kj O n sc σ e=some xs):∃f q a p,e=.Call (.Name f q) [a] [] p/\bS sc f=true/\∃d,pe O n sc σ a=some d/\O.gen f [d]=some xs:=by
 induction e using bt with
 |Call f a k p=>
  induction f using bt with
  |Name f q=>
   induction a using aF with
   |nil=>exact ab h
   |cons a r=>
    induction r using aF with
    |nil=>
     induction k using aF with
     |nil=>
      have h:(if bS sc f=true then (match pe O n sc σ a with|some d=>O.gen f [d]|none=>none) else none)=some xs:=h
      by_cases hg:bS sc f=true
      ·replace h:=(if_pos hg)▸h;cases hd:pe O n sc σ a with
       |none=>replace h:=hd▸h;exact ab h
       |some d=>replace h:=hd▸h;exact⟨f,q,a,p,rfl,hg,d,hd,h⟩
      ·replace h:=(if_neg hg)▸h;exact ab h
     |cons _ _=>exact ab h
    |cons _ _=>exact ab h
  |_=>exact ab h
 |_=>exact ab h
noncomputable def unown1 (σ:Sg) (x:Str):Sg:=match σ.lookup x with
 |some (.own xs)=>put σ x (.sh (.list xs))
 |_=>σ
noncomputable def mj:aN->Str
 |.Assign [.Name x _] _ _=>x
 |.For _ (.Name x _) _ _ _=>x
 |_=>Str.empty
mutual
noncomputable def px (O:Orc):Nat->Scope->Sg->aN->Option Out
 |0,_,_,_=>none
 |n+1,sc,σ,st=>match st with
  |.Assign [.Name x _] e _=>if bb sc x then (match eU O n sc σ e with|some d=>some (.nx (put σ x d))|none=>none) else none
  |.Assign [.Tuple ts tn tp] (.Tuple vs vn vp) _=>(match aX fu ts with
    |some xs=>if xs.all (bb sc)&&jN xs&&xs.length==vs.length&&(!(vs.all (mR 8))||vs.all (mS 8))&&ve vs.length 1000
      then (match aX (eU O n sc σ) vs with|some ents=>some (.nx (bI σ (xs.zip ents)))|none=>none) else none
    |none=>(match pe O n sc σ (.Tuple vs vn vp) with
      |some d=>(match bD false sc 4 σ (.Tuple ts tn tp) d with|some σ'=>some (.nx σ')|none=>none)
      |none=>none))
  |.Assign [.Tuple ts tn tp] e _=>if dm e then none else (match pe O n sc σ e with
    |some d=>(match bD false sc 4 σ (.Tuple ts tn tp) d with|some σ'=>some (.nx σ')|none=>none)
    |none=>none)
  |.AugAssign (.Name x _) op e _=>if bb sc x&&br sc x then (match gx σ x,pe O n sc σ e with
    |some a,some b=>(match lW op a b with|some d=>some (.nx (put σ x (.sh d)))|none=>none)
    |_,_=>none) else none
  |.Expr (.Call (.Attribute (.Name x _) m apos) [e] [] pos) _=>if br sc x&&apos.endLine==pos.line then (match fM σ x,pe O n sc σ e with
    |some xs,some d=>if m== "append" then (if aZ (xs.length+1) then some (.nx (put σ x (.own (xs++[d])))) else none)
      else if m== "extend" then (match d with|.list ys=>if aZ (xs.length+ys.length) then some (.nx (put σ x (.own (xs++ys)))) else none|_=>none) else none
    |_,_=>none) else none
  |.Delete [.Subscript (.Name x _) i _] _=>if br sc x then (match fM σ x,pe O n sc σ i with
    |some xs,some (.int k)=>(match iW k xs.length with|some j=>if decide (-1000<=k)&&decide (k<1000) then some (.nx (put σ x (.own (xs.eraseIdx j)))) else none|none=>none)
    |_,_=>none) else none
  |.If t b o _=>(match pT O n sc σ t with
    |some true=>aO O n sc σ b
    |some false=>aO O n sc σ o
    |none=>none)
  |.For t it b o _=>(match (match cS O n sc σ (dm t) it with|some xs=>some (false,xs)|none=>(match kj O n sc σ it with|some xs=>some (true,xs)|none=>none)) with
    |some (_,xs)=>(match cj (λσ d=>match bD false sc 4 σ t d with|some σ1=>aO O n sc σ1 b|none=>none) xs σ with
      |some (.nx σ')=>aO O n sc σ' o
      |some (.bk σ')=>some (.nx σ')
      |r=>r)
    |none=>none)
  |.Return (some e) _=>(match pe O n sc σ e with|some d=>some (.rt d)|none=>none)
  |.Return none _=>some (.rt .none)
  |.Assert t _ _=>(match pT O n sc σ t with|some true=>some (.nx σ)|_=>none)
  |.Break _=>some (.bk σ)
  |.Pass _=>some (.nx σ)
  |_=>none
noncomputable def aO (O:Orc):Nat->Scope->Sg->List aN->Option Out
 |0,_,_,_=>none
 |n+1,sc,σ,sts=>match sts with
  |[]=>some (.nx σ)
  |st::r=>(match (match px O n sc σ st with|some o=>some o|none=>(match px O n sc (unown1 σ (mj st)) st with|some o=>some o|none=>px O n sc (unown σ) st)) with
   |some (.nx σ')=>aO O n sc σ' r
   |o=>o)
end
section
variable {O:Orc} {n:Nat} {sc:Scope} {σ:Sg} {p q apos pos:Pos} {x:Str} {e:ac}
theorem qO:px O (n+1) sc σ (.Assign [.Name x q] e p)=(if bb sc x=true then (match eU O n sc σ e with|some d=>some (.nx (put σ x d))|none=>none) else none):=rfl
theorem Sb {ts vs:List ac} {tn vn:Nat} {tp vp:Pos}:px O (n+1) sc σ (.Assign [.Tuple ts tn tp] (.Tuple vs vn vp) p)=(match aX fu ts with
    |some xs=>if (xs.all (bb sc)&&jN xs&&xs.length==vs.length&&(!(vs.all (mR 8))||vs.all (mS 8))&&ve vs.length 1000)=true
      then (match aX (eU O n sc σ) vs with|some ents=>some (.nx (bI σ (xs.zip ents)))|none=>none) else none
    |none=>(match pe O n sc σ (.Tuple vs vn vp) with
      |some d=>(match bD false sc 4 σ (.Tuple ts tn tp) d with|some σ'=>some (.nx σ')|none=>none)
      |none=>none)):=rfl
theorem SK {op:kE}:px O (n+1) sc σ (.AugAssign (.Name x q) op e p)=(if (bb sc x&&br sc x)=true then (match gx σ x,pe O n sc σ e with
    |some a,some b=>(match lW op a b with|some d=>some (.nx (put σ x (.sh d)))|none=>none)
    |_,_=>none) else none):=rfl
theorem C2 {m:Str}:px O (n+1) sc σ (.Expr (.Call (.Attribute (.Name x q) m apos) [e] [] pos) p)=(if (br sc x&&apos.endLine==pos.line)=true then (match fM σ x,pe O n sc σ e with
    |some xs,some d=>if (m== "append")=true then (if aZ (xs.length+1)=true then some (.nx (put σ x (.own (xs++[d])))) else none)
      else if (m== "extend")=true then (match d with|.list ys=>if aZ (xs.length+ys.length)=true then some (.nx (put σ x (.own (xs++ys)))) else none|_=>none) else none
    |_,_=>none) else none):=rfl
theorem SL {sp:Pos}:px O (n+1) sc σ (.Delete [.Subscript (.Name x q) e sp] p)=(if br sc x=true then (match fM σ x,pe O n sc σ e with
    |some xs,some (.int k)=>(match iW k xs.length with|some j=>if (decide (-1000<=k)&&decide (k<1000))=true then some (.nx (put σ x (.own (xs.eraseIdx j)))) else none|none=>none)
    |_,_=>none) else none):=rfl
theorem MW {b o:List aN}:px O (n+1) sc σ (.If e b o p)=(match pT O n sc σ e with
    |some true=>aO O n sc σ b
    |some false=>aO O n sc σ o
    |none=>none):=rfl
theorem pd {t:ac} {b o:List aN}:px O (n+1) sc σ (.For t e b o p)=(match (match cS O n sc σ (dm t) e with|some xs=>some (false,xs)|none=>(match kj O n sc σ e with|some xs=>some (true,xs)|none=>none)) with
    |some (_,xs)=>(match cj (λσ d=>match bD false sc 4 σ t d with|some σ1=>aO O n sc σ1 b|none=>none) xs σ with
      |some (.nx σ')=>aO O n sc σ' o
      |some (.bk σ')=>some (.nx σ')
      |r=>r)
    |none=>none):=rfl
theorem Tf:px O (n+1) sc σ (.Return (some e) p)=(match pe O n sc σ e with|some d=>some (.rt d)|none=>none):=rfl
theorem OJ {m:Option ac}:px O (n+1) sc σ (.Assert e m p)=(match pT O n sc σ e with|some true=>some (.nx σ)|_=>none):=rfl
theorem oz {st:aN} {r:List aN}:aO O (n+1) sc σ (st::r)=(match (match px O n sc σ st with|some o=>some o|none=>(match px O n sc (unown1 σ (mj st)) st with|some o=>some o|none=>px O n sc (unown σ) st)) with
   |some (.nx σ')=>aO O n sc σ' r
   |o=>o):=rfl
noncomputable def oK:ac->Bool
 |.List .. =>false
 |_=>true
theorem qE (h:oK e=true):eU O n sc σ e=(match pe O n sc σ e with
  |some (.list xs)=>if kh e=true then some (.own xs) else some (.sh (.list xs))
  |some d=>some (.sh d)
  |none=>none):=by induction e using bt<;>first|rfl|exact aU h|exact cL h
end
section
variable {X:Cx} {A:aM} {E:Value->ae->Prop} {s:ae} {env:Env} {sc:Scope} {σ σ':Sg} {own:List (Str×Addr)} {P P' V:List Addr} {W:List Addr} {O:Orc} {k n:Nat}
theorem ap.moveO {h h':aP} (VV:ap X sc env σ own P h) (k:Kb V h h') (hv:∀b∈V,b∈P\/h.get? b=none\/∀o,h.get? b=some o->∀its n,o.data≠.seq its n) (ho:∀b∈V,b∉av own) (hl:env.locals∉V) (hc:∀x c,(x,c)∈env.cells->c∉V) (hp:∀b∈P',∃o,h'.get? b=some o/\cG o=false) (hs:∀b∈P',b∈P\/h.get? b=none):ap X sc env σ own P' h':=
 have hv2:∀b∈V,b∈P++av own\/h.get? b=none\/∀o,h.get? b=some o->∀its n,o.data≠.seq its n:=λb hb=>(hv b hb).imp_left λq=>bC _ q
 have hs2:∀b∈P'++av own,b∈P++av own\/h.get? b=none:=λb hb=>(be.mp hb).elim (λq=>(hs b q).imp_left λz=>bC _ z) λq=>.inl (bG _ q)
 have va:∀{x v},dv env h x v->dv env h' x v:=λ{x v} r=>by
  rcases r with ⟨h1,m,n,h2⟩|⟨h1,c,e,h2⟩
  ·exact .inl ⟨h1,m,nb n k hl,h2⟩
  ·exact .inr ⟨h1,c,e,ja h2 k (hc x c (ck e))⟩
 have onv:∀{x a},(x,a)∈own->a∉V:=λ{x a} hm q=>ho a q (mJ hm)
 {VV with
  pin:=hp
  ns:=ay VV.ns λm n=>⟨m,nb n k hl⟩
  cells:=λx c hm=>ay (VV.cells x c hm) λv n=>⟨v,ja n k (hc x c hm)⟩
  vars:=λx d e=>ah (VV.vars x d e) λv h1 h2=>⟨v,va h1,am.kb k hv2 hs2 d v h2⟩
  owns:=λx xs e=>fb (VV.owns x xs e) λa vs n h1 h2 h3 h4 h5=>⟨a,vs,n,h1,va h2,k a _ (onv (ck h1)) rfl h3,h4,ar.kb k hv2 hs2 xs vs h5⟩
  ownP:=λx a hm q=>(hs a q).elim (VV.ownP x a hm) λz=>by obtain ⟨_,its,n,e⟩:=VV.ownF x a hm;replace e:=z▸e;exact ab e
  ownF:=λx a hm=>bf (VV.ownF x a hm) λh1 h_=>jy h_ λits n h2=>⟨h1,its,n,k a _ (onv hm) rfl h2⟩}
theorem ap.sub {h:aP} (VV:ap X sc env σ own P h) (hs:∀b∈P',b∈P):ap X sc env σ own P' h:=
 VV.moveO (V:=[]) Kb.refl (λζ q=>nomatch q) (λζ q=>nomatch q) (λq=>nomatch q) (λζ ζ ζ q=>nomatch q) (λb hb=>VV.pin b (hs b hb)) λb hb=>.inl (hs b hb)
theorem ap.pins {s':ae} (VV:ap X sc env σ own P s.heap) (k:Kb [] s.heap s'.heap) (hp:∀b∈P',∃o,s'.heap.get? b=some o/\cG o=false) (hs:∀b∈P',b∈P\/s.heap.get? b=none):ap X sc env σ own P' s'.heap:=
 VV.moveO k (λζ q=>nomatch q) (λζ q=>nomatch q) (λq=>nomatch q) (λζ ζ ζ q=>nomatch q) hp hs
theorem ap.congr {h:aP} (VV:ap X sc env σ own P h) (he:∀x,σ'.lookup x=σ.lookup x):ap X sc env σ' own P h:=
 {VV with
  vars:=λx d e=>VV.vars x d ((he x).symm.trans e)
  owns:=λx xs e=>VV.owns x xs ((he x).symm.trans e)}
theorem qN:∀(σ:Sg) (x:Str),(unown σ).lookup x=(match σ.lookup x with|some (.own xs)=>some (.sh (.list xs))|r=>r)
 |[],x=>rfl
 |(y,.own xs)::r,x=>by
  simp only[zL,Cv,cX];cases x==y
  ·exact qN r x
  ·rfl
 |(y,.sh d)::r,x=>by
  simp only[zL,Cv,cX];cases x==y
  ·exact qN r x
  ·rfl
theorem ap.unown {h:aP} (VV:ap X sc env σ own P h):ap X sc env (unown σ) [] P h:=
 {VV with
  vars:=λx d e=>by
   rw[qN] at e
   revert e;refine bY (σ.lookup x) λu he=>?_
   induction u using bO with
   |none=>exact ab
   |some f=>induction f using Ent.casesOn with
   |own xs=>
    intro e;cases e
    refine fb (VV.owns x xs he) λa vs n h1 h2 h3 h4 h5=>?_
    refine au _ h2 ?_
    skip
    exact iE a vs rfl (by rw[lh];exact VV.ownP x a (ck h1)) ⟨n,h3⟩ h4 (h5.sub λb hb=>bC _ (by rw[lh] at hb;exact hb))
   |sh d'=>
    intro e;refine ah (VV.vars x d (he.trans e)) λv h1 h2=>?_
    exact au v h1 (h2.sub λb hb=>bC _ (by rw[lh] at hb;exact hb))
  owns:=λx xs e=>by
   rw[qN] at e
   revert e;refine bB (σ.lookup x) λu=>?_
   induction u using bO with
   |none=>exact ab
   |some f=>induction f using Ent.casesOn<;>(intro e;cases e)
  ownA:=λx y a h=>nomatch h
  ownF:=λx a h=>nomatch h
  ownU:=λx a b h=>nomatch h
  ownP:=λx a h=>nomatch h}
theorem ap.unown1 {h:aP} (VV:ap X sc env σ own P h) (x:Str):∃own',ap X sc env (Mine.unown1 σ x) own' P h/\∀b∈av own',b∈av own:=by
 delta Mine.unown1;refine bY (σ.lookup x) λu hx=>?_
 induction u using bO with
 |none=>exact au own VV (λb hb=>hb)
 |some f=>induction f using Ent.casesOn with
 |sh d=>exact au own VV (λb hb=>hb)
 |own xs=>
  refine fb (VV.owns x xs hx) λa vs n h1 h2 h3 h4 h5=>?_;have hm:=ck h1;have sub:∀b∈P++av (dU own x),b∈P++av own:=λb hb=>(be.mp hb).elim (λq=>bC _ q) λq=>bG _ (fR q);refine au (dU own x) ?_ (λb hb=>fR hb)
  exact {VV with
   vars:=λz d e=>by
    rw[cE] at e
    by_cases q:z=x
    ·replace e:=(if_pos q)▸e;cases e;refine au _ (q▸h2) ?_;skip;refine iE a vs rfl (λhz=>?_) ⟨n,h3⟩ h4 (h5.sub sub);rcases be.mp hz with hz|hz
     ·exact VV.ownP x a hm hz
     ·obtain ⟨⟨y,c⟩,hy,rfl⟩:=dQ.mp hz;refine bf (cQ hy) λhy1 hy2=>?_;exact hy2 (VV.ownA y x _ hy1 hm)
    ·replace e:=(if_neg q)▸e;refine ah (VV.vars z d e) λu g1 g2=>?_;exact au u g1 (g2.sub sub)
   owns:=λz zs e=>by
    rw[cE] at e
    by_cases q:z=x
    ·replace e:=(if_pos q)▸e;cases e
    ·replace e:=(if_neg q)▸e;refine fb (VV.owns z zs e) λc us n' g1 g2 g3 g4 g5=>?_;exact ji c us n' ((mB q).trans g1) g2 g3 g4 (g5.sub sub)
   ownA:=λz y c g1 g2=>VV.ownA z y c (cQ g1).1 (cQ g2).1
   ownF:=λz c g1=>VV.ownF z c (cQ g1).1
   ownU:=λz c e g1 g2=>VV.ownU z c e (cQ g1).1 (by refine aA (mB (cQ g1).2) ?_;exact g2)
   ownP:=λz c g1=>VV.ownP z c (cQ g1).1}
end
section
variable {X:Cx} {A:aM} {E:Value->ae->Prop} {s:ae} {env:Env} {sc:Scope} {σ σ':Sg} {own:List (Str×Addr)} {P P' V:List Addr} {W:List Addr} {O:Orc} {k n:Nat}
theorem Pk {x:Str} {a:Addr} {n:Nat} {xs:List PV} {vs:List Value} {Q:Unit->ae->Prop} (S:ai X s) (VV:ap X sc env σ own (a::P) s.heap) (hx:bb sc x=true) (h0:X.h0.get? a=none) (haP:a∉P) (ha1:s.heap.get? a=some {cls:=.type "list",data:=.seq vs.toArray n}) (hlen:vs.length<=sizeLine) (r:ar ((a::P)++av own) s.heap xs vs)
  (h:∀s',ai X s'->ag (aV sc env own) s s'->ap X sc env (put σ x (.own xs)) ((x,a)::dU own x) P s'.heap->Q () s'):
  al (aq X.prog X.w) A (j3 env x (.ref a)) Q E s:=by
 refine uX VV hx λh' tk b hb hs hv hz hn hcel ho=>?_;have hex2:∃o,h'.get? b=some o/\cG o=false:=by
  rcases ao.mp hb with q|q
  ·obtain ⟨m,o,_,_,e,hd,_⟩:=hn;exact au o (q▸e) (fe λvs z=>by replace z:=hd▸z;cases z)
  ·refine ah (ea q) λy hm ζ=>?_;refine bN (hcel y _ hm) λv o e hd=>?_;exact au o e (fe λvs z=>by replace z:=hd▸z;cases z)
 have hex:∃o,h'.get? b=some o:=ah hex2 λo e ζ=>⟨o,e⟩
 have hfr:X.h0.get? b=none:=by
  rcases ao.mp hb with q|q
  ·exact q▸VV.fl
  ·refine ah (ea q) λy hm ζ=>?_;exact VV.fc y _ hm
 have hkb:Kb [b] s.heap h':=λc o hc ζ e=>(hs.2 c (λq=>hc (by simp[q]))).trans e;have hbW:b∈aV sc env own:=by
  unfold aV;rcases ao.mp hb with q|q
  ·exact ao.mpr (.inl q)
  ·exact bP _ (bC _ q)
 have hsub:∀c,c∈P++av ((x,a)::dU own x)->c∈(a::P)++av own:=λc hc=>by
  rcases be.mp hc with q|q
  ·exact bC _ (bP _ q)
  ·rcases ao.mp q with q|q
   ·exact bC _ (ao.mpr (.inl q))
   ·exact bG _ (fR q)
 have rep:∀{d v},am ((a::P)++av own) s.heap d v->am (P++av ((x,a)::dU own x)) h' d v:=λ{d v} r=>
  am.kb hkb (λc hc=>.inr (.inr λo e=>(ho o (by simp at hc;exact hc▸e)).2)) (λc hc=>.inl (hsub c hc)) d v r
 have repL:∀{d v},ar ((a::P)++av own) s.heap d v->ar (P++av ((x,a)::dU own x)) h' d v:=λ{d v} r=>
  ar.kb hkb (λc hc=>.inr (.inr λo e=>(ho o (by simp at hc;exact hc▸e)).2)) (λc hc=>.inl (hsub c hc)) d v r
 have lst:∀{b its n},s.heap.get? b=some {cls:=.type "list",data:=.seq its n}->h'.get? b=some {cls:=.type "list",data:=.seq its n}:=λ{b its n} e=>
  (hs.2 b (λq=>(ho _ (q▸e)).2 _ _ rfl)).trans e
 have oldne:∀z c,(z,c)∈own->c≠a:=λz c hm q=>VV.ownP z c hm (q▸iq);refine h _ (S.same hfr (λo e=>(ho o e).1) hs) (ag.but hbW hs hex) ?_
 exact {VV with
  ns:=hn
  pin:=λc hc=>by
   by_cases q:c=b
   ·exact q▸hex2
   ·refine ah (VV.pin c (bP _ hc)) λo e ht=>?_;exact au o ((hs.2 c q).trans e) ht
  cells:=hcel
  vars:=λz d' e=>by
   rw[cE] at e
   by_cases q:z=x
   ·replace e:=(if_pos q)▸e;cases e
   ·replace e:=(if_neg q)▸e;refine ah (VV.vars z d' e) λu h1 h2=>?_;exact au u (hz z u q h1) (rep h2)
  owns:=λz ys e=>by
   rw[cE] at e
   by_cases q:z=x
   ·replace e:=(if_pos q)▸e;cases e;exact ji a vs n (by refine aa q ?_;simp[dP]) (q▸hv) (lst ha1) hlen (repL r)
   ·replace e:=(if_neg q)▸e;refine fb (VV.owns z ys e) λc us n' h1 h2 h3 h4 h5=>?_;refine ji c us n' ?_ (hz z _ q h2) (lst h3) h4 (repL h5);have h6:(z==x)=false:=by simpa using q
    simp only[cX,h6];exact (mB q).trans h1
  ownA:=λz y c h1 h2=>by
   rcases ao.mp h1 with q|q<;>rcases ao.mp h2 with q2|q2
   ·cases q;cases q2;rfl
   ·cases q;exact absurd rfl (oldne y _ (cQ q2).1)
   ·cases q2;exact absurd rfl (oldne z _ (cQ q).1)
   ·exact VV.ownA z y c (cQ q).1 (cQ q2).1
  ownF:=λz c h1=>by
   rcases ao.mp h1 with q|q
   ·cases q;exact⟨h0,vs.toArray,n,lst ha1⟩
   ·obtain ⟨h2,its,n',h3⟩:=VV.ownF z c (cQ q).1;exact⟨h2,its,n',lst h3⟩
  ownU:=λz c e h1 h2=>by
   rcases ao.mp h1 with q|q
   ·cases q;simp[dP] at h2;exact h2
   ·have h6:(z==x)=false:=by simpa using (cQ q).2
    simp only[cX,h6] at h2;exact VV.ownU z c e (cQ q).1 (by refine aA (mB (cQ q).2) ?_;exact h2)
  ownP:=λz c h1=>by
   rcases ao.mp h1 with q|q
   ·cases q;exact haP
   ·exact λhz=>VV.ownP z c (cQ q).1 (bP _ hz)}
theorem CA {x:Str} {a:Addr} {xs ys:List PV} {ws:List Value} {n':Nat} {h':aP} (S:ai X s) (VV:ap X sc env σ own P s.heap) (hx:σ.lookup x=some (.own xs)) (ha:own.lookup x=some a) (hs:io a s.heap h') (he:h'.get? a=some {cls:=.type "list",data:=.seq ws.toArray n'}) (hl:ws.length<=sizeLine) (r:ar (P++av own) s.heap ys ws):
  ai X {s with heap:=h'}/\ag (aV sc env own) s {s with heap:=h'}/\ap X sc env (put σ x (.own ys)) own P h':=by
 refine fb (VV.owns x xs hx) λa' vs n h1 h2 h3 h4 h5=>?_;replace h1:=ha▸h1;have h_:=ak h1;clear h1;subst h_;have hm:=ck ha;refine bf (VV.ownF x a hm) λf1 ζ=>?_;have hw:a∈av own:=mJ hm;have hkb:Kb [a] s.heap h':=λc o hc ζ e=>(hs.2 c (λq=>hc (by simp[q]))).trans e;have rep:∀{d v},am (P++av own) s.heap d v->am (P++av own) h' d v:=λ{d v} r=>
  am.kb hkb (λc hc=>.inl (by simp at hc;exact hc▸bG _ hw)) (λc hc=>.inl hc) d v r
 have repL:∀{d v},ar (P++av own) s.heap d v->ar (P++av own) h' d v:=λ{d v} r=>
  ar.kb hkb (λc hc=>.inl (by simp at hc;exact hc▸bG _ hw)) (λc hc=>.inl hc) d v r
 have hln:env.locals≠a:=λq=>by obtain ⟨m,o,_,_,e,hd,_⟩:=VV.ns;rw[q,h3] at e;have h_:=ak e;clear e;subst h_;cases hd
 have hcn:∀y c,(y,c)∈env.cells->c≠a:=λy c hm q=>by refine bN (VV.cells y c hm) λv o e hd=>?_;rw[q,h3] at e;have h_:=ak e;clear e;subst h_;cases hd
 have va:∀{z v},dv env s.heap z v->dv env h' z v:=λ{z v} r=>by
  rcases r with ⟨h1,m,n,h2⟩|⟨h1,c,e,h2⟩
  ·exact .inl ⟨h1,m,n.sameBut hs hln,h2⟩
  ·exact .inr ⟨h1,c,e,h2.sameBut hs (hcn z c (ck e))⟩
 refine dX (S.same f1 (λo e=>by replace e:=h3▸e;have h_:=ak e;clear e;subst h_;exact dW rfl (by decide)) hs) (ag.but (bP _ (bG _ hw)) hs ⟨_,he⟩) ?_
 exact {VV with
  ns:=ay VV.ns λm n=>⟨m,n.sameBut hs hln⟩
  cells:=λy c hm=>ay (VV.cells y c hm) λv n=>⟨v,n.sameBut hs (hcn y c hm)⟩
  pin:=λc hc=>by
   by_cases q:c=a
   ·exact au _ (q▸he) rfl
   ·refine ah (VV.pin c hc) λo e ht=>?_;exact au o ((hs.2 c q).trans e) ht
  vars:=λz d e=>by
   rw[cE] at e
   by_cases q:z=x
   ·replace e:=(if_pos q)▸e;cases e
   ·replace e:=(if_neg q)▸e;refine ah (VV.vars z d e) λu h1 h2=>?_;exact au u (va h1) (rep h2)
  owns:=λz zs e=>by
   rw[cE] at e
   by_cases q:z=x
   ·replace e:=(if_pos q)▸e;cases e;exact ji a ws n' (q▸ha) (q▸va h2) he hl (repL r)
   ·replace e:=(if_neg q)▸e;refine fb (VV.owns z zs e) λc us n2 h1 h2 h3 h4 h5=>?_;have hca:c≠a:=λe=>q (VV.ownA z x a (e▸ck h1) hm);exact ji c us n2 h1 (va h2) ((hs.2 c hca).trans h3) h4 (repL h5)
  ownF:=λz c hm2=>by
   obtain ⟨h1,its,n2,h2⟩:=VV.ownF z c hm2
   by_cases q:c=a
   ·exact⟨h1,_,_,q▸he⟩
   ·exact⟨h1,its,n2,(hs.2 c q).trans h2⟩}
end
section
variable {X:Cx} {A:aM} {s s0:ae} {env:Env} {sc:Scope} {σ σ':Sg} {own:List (Str×Addr)} {P P' V:List Addr} {W:List Addr} {O:Orc} {k n:Nat}
theorem yp {z:List (Str×cJ)} {l:List Str} {tk:cJ} (S:ai X s) (hz:z.map (·.1)=l) (hl:l.length<=sizeLine) (hp:∀y∈l,y.length<=sizeLine):ai X {s with toks:=tk,heap:=s.heap.push {cls:=.type "list",data:=.seq (lC z).toArray}}/\
  ag [] s {s with toks:=tk,heap:=s.heap.push {cls:=.type "list",data:=.seq (lC z).toArray}}/\
  ∃a vs m,gV s.heap.objs.size=.ref a/\s.heap.get? a=none/\(s.heap.push {cls:=.type "list",data:=.seq (lC z).toArray}).get? a=some {cls:=.type "list",data:=.seq (vs:List Value).toArray m}/\vs.length<=sizeLine/\
   ∀W h,ar W h (l.map .str) vs:=by
 subst hz;refine⟨S.keep bz,ag.keep bz,_,lC z,_,rfl,d9,dT _ rfl,by rw[Bj];exact (ca ..)▸hl,λW h=>wF λp hpz=>hp _ (mJ hpz)⟩
theorem Ic {x y:Str} {t u:cJ} (S:ai X s) (hx:x.length<=sizeLine) (hy:(y.length != 0)=true) (hl:aZ (x.length+2)=true):Ev X A s (call (.builtin "str.split") [.str x t,.str y u]) (λv s'=>∃a vs m,v=.ref a/\s.heap.get? a=none/\s'.heap.get? a=some {cls:=.type "list",data:=.seq (vs:List Value).toArray m}/\vs.length<=sizeLine/\
   ∀W h,ar W h ((Txt.split x y).map .str) vs):=by
 have hy0:(y.length==0)=false:=(kK _).mp hy;have hy1:1<=y.length:=EZ (of_decide_eq_false hy0);have hlen:(Txt.split x y).length<=sizeLine:=aB (split_le x y) (dM hl);have hpart:∀p∈Txt.split x y,p.length<=sizeLine:=λp hp=>aB (Au hy1 p hp) hx;cases h1:(decide (x.length<y.length)||decide (i0 x<i0 y))
 ·cases hf:(gR x y 0 x.length (x.length+1)).isEmpty
  ·have e:Txt.split x y=yM x (gR x y 0 x.length (x.length+1)) y.length:=by unfold Txt.split;rw[if_neg (by refine aa h1 ?_;exact gz),if_neg (by refine aa hf ?_;exact gz)]
   refine kI pS (on _ _ _) pU (sq _ _) (U7 x y t u h1 hy0 hf hx (by refine aA e ?_;exact hlen)) ?_;have:=yp (tk:=s.toks+(yM x (gR x y 0 x.length (x.length+1)) y.length).length) (z:=E0 s.toks (Txt.split x y)) S (E1 _ _) hlen hpart;rw[<- E2,e] at this;refine aa e ?_;exact this
  ·have e:Txt.split x y=[x]:=by unfold Txt.split;rw[if_neg (by refine aa h1 ?_;exact gz),if_pos hf]
   refine aa e ?_;exact kI pS (on _ _ _) pU (sq _ _) (U8 x y t u h1 hy0 hf)
    (yp (tk:=s.toks) (z:=[(x,t)]) S rfl (by refine (?_:1<=sizeLine);decide) (by simpa using hx))
 ·have e:Txt.split x y=[x]:=by unfold Txt.split;exact aa (if_pos h1) rfl
  refine aa e ?_;exact kI pS (on _ _ _) pU (sq _ _) (U9 x y t u h1)
    (yp (tk:=s.toks) (z:=[(x,t)]) S rfl (by refine (?_:1<=sizeLine);decide) (by simpa using hx))
noncomputable def vY (s:ae) (W:List Addr) (xs:List PV) (v:Value) (s':ae):Prop:=
 ∃a vs m,v=.ref a/\s.heap.get? a=none/\s'.heap.get? a=some {cls:=.type "list",data:=.seq (vs:List Value).toArray m}/\vs.length<=sizeLine/\ar (a::W) s'.heap xs vs
noncomputable def Ey (s:ae) (W:List Addr) (e:Ent) (v:Value) (s':ae):Prop:=match e with
 |.sh d=>am W s'.heap d v
 |.own xs=>vY s W xs v s'
set_option backward.match.sparseCases true in
theorem RQ {o:ac} {apos pos:Pos} {args:List ac} {r:PV} {ds xs:List PV} (hds:ds.length=1) (h0:jM o=false) (hp:(apos.endLine==pos.line)=true) (hl:args.length<30) (hn:∀e∈args,dB e=true) (h1:Ev X A s (aJ o env) (λv s'=>am V s'.heap r v)) (he:∀s',ai X s'->ag [] s s'->Ev X A s' (d6 (bW pos (bV args env))) (λvs s2=>ar V s2.heap ds vs)) (h:bM r "split" ds=some (.list xs)):Ev X A s (aJ (.Call (.Attribute o "split" apos) args [] pos) env) (λv s'=>vY s W xs v s'):=by
 obtain ⟨d0,rfl⟩:∃d0,ds=[d0]:=List.length_eq_one_iff.mp hds
 induction r using PV.casesOn with
 |str x=>
  induction d0 using PV.casesOn with
  |str y=>have h:(if (y.length != 0&&aZ (x.length+2))=true then some (PV.list ((Txt.split x y).map .str)) else none)=some (.list xs):=h;refine ifs h λhc h=>?_;have h:=Ny (ak h);subst h;simp only[bn] at hc;refine tY (id:= "str.split") h0 hp hl hn h1 (λov s1 pl Q ζ ζ r1 q=>D4 r1 rfl q) (λov s' S' k' ζ=>he s' S' k') λov vs s1 s2 S1 k1 r1 S2 k2 r2=>?_;obtain ⟨⟨t,rfl⟩,hx⟩:=r1;obtain ⟨v,u,rfl,⟨⟨t2,rfl⟩,_⟩,rfl⟩:=r2;refine (Ic S2 hx hc.1 hc.2).mono λv s' ζ k' h_0=>fb h_0 λa vs m e1 e2 e3 e4 e5=>?_;exact ji a vs m e1 ((k1.trans k2).none e2) e3 e4 (e5 _ _)
  |list ys=>delta bM at h;dsimp only at h;rw[if_neg (by decide)] at h;exact ab h
  |_=>exact ab h
 |list ys=>
  induction d0 using PV.casesOn with
  |int k=>delta bM at h;dsimp only at h;rw[if_neg (by decide)] at h;exact ab h
  |str k=>delta bM at h;dsimp only at h;rw[if_neg (by decide)] at h;exact ab h
  |_=>exact ab h
 |_=>exact ab h
theorem SZ {e:ac} (h:kh e=true):∃x xp m apos a pos,e=.Call (.Attribute (.Name x xp) m apos) [a] [] pos/\(m== "split")=true:=by
 induction e using bt with
 |Call f args kws pos=>
  induction f using bt with
  |Attribute v m apos=>
   induction v using bt with
   |Name x xp=>
    induction args using aF with
    |nil=>first|exact aU h|exact cL h
    |cons a r=>
     induction r using aF with
     |cons _ _=>first|exact aU h|exact cL h
     |nil=>
      induction kws using aF with
      |cons _ _=>first|exact aU h|exact cL h
      |nil=>exact⟨_,_,_,_,_,_,rfl,h⟩
   |_=>first|exact aU h|exact cL h
  |_=>first|exact aU h|exact cL h
 |_=>first|exact aU h|exact cL h
theorem BI {o:Option PV} {b:Bool} {ent:Ent} {G:Prop} (h:(match o with|some (.list xs)=>if b=true then some (Ent.own xs) else some (.sh (.list xs))|some d=>some (.sh d)|none=>none)=some ent) (k1:∀xs,o=some (.list xs)->b=true->ent=.own xs->G) (k2:∀d,o=some d->ent=.sh d->G):G:=by
 induction o using bO with
 |none=>exact ab h
 |some d=>
  induction d using PV.casesOn with
  |list xs=>cases b with
   |true=>exact k1 xs rfl rfl (ak h).symm
   |false=>exact k2 _ rfl (ak h).symm
  |_=>exact k2 _ rfl (ak h).symm
theorem BS (OK:bg X O k) (LZ:bR X) (R:aK A (k+2)) {e:ac} {ent:Ent} (h:eU O n sc σ e=some ent) (S:ai X s) (VV:ap X sc env σ own P s.heap):Ev X A s (aJ e env) (λv s'=>Ey s (P++av own) ent v s'):=by
 cases hn:oK e with
 |false=>
  induction e using bt with
  |List es pos=>
   have h:(match aX (pe O n sc σ) es with|some ds=>if aZ ds.length=true then some (Ent.own ds) else none|none=>none)=some ent:=h
   set_option smartUnfolding false in refine om h λds hm h=>?_
   refine ifs h λhl h=>?_;have h_:=ak h;clear h;subst h_;refine VC (ax (fP (du OK LZ R n) hm S VV) (λvs s1 h_1=>aL h_1 λS1 k1 r1=>?_) λζ ζ f=>f);have hle:vs.length<=sizeLine:=by refine aa r1.length ?_;exact dM hl
   refine⟨hle,S1.keep bz,k1.trans (ag.keep bz),_,vs,_,rfl,k1.none d9,dT _ rfl,hle,?_⟩;exact kz (W':=[s1.heap.objs.size]) r1 bz λb hb=>by simp at hb;exact hb▸d9
  |_=>first|exact aU hn|exact cL hn
 |true=>
  replace h:=(qE hn)▸h;refine BI h (λxs hd hs h'=>?_) λd hd h'=>?_
  ·subst h'
   ·obtain ⟨x,xp,m,apos,arg,pos,rfl,hs⟩:=SZ hs;have hs:=bc hs;subst hs
    induction n using dq with
    |zero=>exact ab hd
    |succ n=>
     replace hd:=uR▸hd;refine ifs hd λhc hd=>?_;refine o9 hc λhp hl h0=>?_;have h0:=(kK _).mp h0;have hA:=Mk OK LZ R n;refine nv hd (λhx hd=>?_) λζ hd=>?_
     ·set_option smartUnfolding false in refine km hd λr ds h1 h2 hd=>?_
      refine bf (pJ hd) λh3 ζ=>?_;have hds:ds.length=1:=by refine bw (lQ h2) λy r' ζ hr e4_=>?_;subst e4_;exact congrArg (λz=>pM (eI z)) (ak hr).symm
      exact RQ (V:=[]) hds h0 hp (vq hl) (mA h2) ((u4 S VV hx h1).mono λv s' ζ ζ r=>r.1) (λs' S' k'=>rd hA h2 S' (VV.keep k'.kb)) h3
     ·exact ifs hd λhg hd=>jE hg λζ hg=>absurd hg (by decide)
  ·subst h';exact du OK LZ R n sc σ env own P e _ s hd S VV
end
noncomputable def fz (X:Cx) (sc:Scope) (env:Env) (own:List (Str×Addr)) (P:List Addr) (s:ae) (σ':Sg) (s':ae):Prop:=
 ∃own',ai X s'/\ag (aV sc env own) s s'/\de own own' s/\ap X sc env σ' own' P s'.heap
noncomputable def c6 (X:Cx) (sc:Scope) (env:Env) (own:List (Str×Addr)) (P:List Addr) (s:ae) (o:Out) (f:eW) (s':ae):Prop:=match o with
 |.nx σ'=>f=.next/\fz X sc env own P s σ' s'
 |.bk σ'=>f=.brk/\fz X sc env own P s σ' s'
 |.rt d=>∃v,f=.ret v/\ai X s'/\ag (aV sc env own) s s'/\am P s'.heap d v
section
variable {X:Cx} {A:aM} {s s0 s':ae} {env:Env} {sc:Scope} {σ σ':Sg} {own own':List (Str×Addr)} {P P' V:List Addr} {W:List Addr} {O:Orc} {k n:Nat}
theorem fz.keep (k1:ag [] s0 s) (h:fz X sc env own P s σ' s'):fz X sc env own P s0 σ' s':=
 let ⟨own',h1,h2,h3,h4⟩:=h
 ⟨own',h1,k1.nil.trans h2,λb hb=>(h3 b hb).imp_right λz=>k1.none z,h4⟩
theorem c6.keep {o:Out} {f:eW} (k1:ag [] s0 s) (h:c6 X sc env own P s o f s'):c6 X sc env own P s0 o f s':=by
 cases o with
 |nx σ'=>exact⟨h.1,h.2.keep k1⟩
 |bk σ'=>exact⟨h.1,h.2.keep k1⟩
 |rt d=>refine dI h λv e h1 h2 h3=>?_;clear h;exact pi v e h1 (k1.nil.trans h2) h3
theorem c6.after {o:Out} {f:eW} {own1:List (Str×Addr)} (k1:ag (aV sc env own) s0 s) (o1:de own own1 s0) (h:c6 X sc env own1 P s o f s'):c6 X sc env own P s0 o f s':=by
 cases o with
 |nx σ'=>obtain ⟨e,own2,S2,k2,o2,V2⟩:=h;exact⟨e,own2,S2,k1.trans_own o1 k2,o1.trans k1 o2,V2⟩
 |bk σ'=>obtain ⟨e,own2,S2,k2,o2,V2⟩:=h;exact⟨e,own2,S2,k1.trans_own o1 k2,o1.trans k1 o2,V2⟩
 |rt d=>refine dI h λv e h1 h2 h3=>?_;clear h;exact pi v e h1 (k1.trans_own o1 h2) h3
theorem PA {x:Str} {ent:Ent} {v:Value} (S0:ai X s0) (V0:ap X sc env σ own P s0.heap) (S:ai X s) (k1:ag [] s0 s) (hx:bb sc x=true) (r:Ey s0 (P++av own) ent v s):al (aq X.prog X.w) A (j3 env x v) (λζ s'=>fz X sc env own P s0 (put σ x ent) s') (λζ ζ=>False) s:=by
 induction ent using Ent.casesOn with
 |sh d=>exact oH S (V0.keep k1.kb) hx r λs' S' k' V'=>⟨_,S',k1.nil.trans k',λb hb=>.inl (fR hb),V'⟩
 |own xs=>refine fb r λa vs m e3_ h1 h2 h3 h4=>?_;clear r;subst e3_;exact JU S0 S V0 k1 hx h1 h2 h3 h4 λs' S' k' o' V'=>⟨_,S',k1.nil.trans k',o',V'⟩
noncomputable def xt:ac->Bool
 |.ListComp .. =>true
 |.SetComp .. =>true
 |.DictComp .. =>true
 |_=>false
theorem D2 {e:ac} {t:Option ac} {l:Nat} (h:xt e=false):sD e t l env=pure false:=by
 induction e using bt<;>first|rfl|exact cL h
theorem Eg {elt:ac} {gens:List c9} {scp:Scope} {cp:Pos} {t:Str} {tp:Pos} {l:Nat}:sD (.ListComp elt gens scp cp) (some (.Name t tp)) l env=pure (env.blockKind==.function&&env.kindOf t==some .local&&tp.line==cp.line&& !(scp.names.any λ(n,k)=>n==t&&(k==.local||k==.cell))):=rfl
theorem Po {elt:ac} {gens:List c9} {scp:Scope} {cp:Pos} {d:PV} (h:pe O n sc σ (.ListComp elt gens scp cp)=some d):∃m g gs xs ys,n=m+1/\gens=g::gs/\nU sc scp=true/\cS O m sc σ (dm g.target) g.iter=some xs/\gM O m scp (dK scp σ) elt g gs xs=some ys/\aZ ys.length=true/\d=.list ys:=by
 induction n using dq with
 |zero=>exact ab h
 |succ n=>
  induction gens using aF with
  |nil=>exact ab h
  |cons g gs=>
   replace h:=uW▸h;refine ifs h λhsc h=>?_
   set_option smartUnfolding false in refine om h λxs hx h=>?_
   refine bo (rh h) λys h1 hl e3_=>?_;subst e3_;exact⟨n,g,gs,xs,ys,rfl,rfl,hsc,hx,h1,hl,rfl⟩
theorem QR (OK:bg X O k) (LZ:bR X) (R:aK A (k+2)) {elt:ac} {gens:List c9} {scp:Scope} {cp xp:Pos} {x:Str} {d:PV} (hx:bb sc x=true) (h:pe O n sc σ (.ListComp elt gens scp cp)=some d) (S:ai X s) (VV:ap X sc env σ own P s.heap):al (aq X.prog X.w) A (Wc (.ListComp elt gens scp cp) env (js (.Name x xp) env)) (λζ s'=>fz X sc env own P s (put σ x (.sh d)) s') (λζ ζ=>False) s:=by
 obtain ⟨m,g,gs,xs,ys,rfl,rfl,hsc,h1,h2,hl,rfl⟩:=Po h;refine eZ (xe hsc) λq1 q2 q3 q4=>?_;have hI:=wx OK LZ R m sc σ env own P g.target g.iter xs s h1 S VV;have hlt:∀j,j<m->fv X A O j/\i5 X A O j/\kR X A O j:=λj ζ=>⟨du OK LZ R j,li OK LZ R j,wx OK LZ R j⟩
 have hga:vG (g::gs)=false:=by have:=Bf h2;cases g;simp only[vG,bne];refine aa this ?_;rfl
 have hfi:Fm (g::gs) env=aJ g.iter env:=by cases g;rfl
 refine (?_:al _ A (do let _ <- comprehension (.ListComp elt (g::gs) scp cp) scp env _ (newList []) (vG (g::gs)) (Fm (g::gs) env) (some (js (.Name x xp) env))) _ _ s);refine aa hga ?_
 refine aj (ax (VJ (use:=some (js (.Name x xp) env)) (Q:=λζ s'=>fz X sc env own P s (put σ x (.sh (.list ys))) s') (g:=g) (gs:=gs) rfl hI.1
  (DG λx hm=>(VV.cel x (q4 x hm)).2) q1 (λx hx hl=>by
   obtain ⟨a,b⟩:=x;subst hl
   exact l7 q2 hx) ?_) (λζ s' hq=>aI hq) λζ ζ f=>f)
 refine aa hfi ?_;refine AR (n:=m) (RR:=λacc C=>compPost (aq X.prog X.w) A (λζ ζ=>False) (some (js (.Name x xp) env)) (λζ s'=>fz X sc env own P s (put σ x (.sh (.list ys))) s') acc C) rfl hsc R.hh S VV hI (xh O m) hlt h2 hl
  λD C s' S' k' hD hC hne hn ha=>?_
 refine ay hn λmC hn=>?_;refine bN ha λvs j ha hr=>?_;have hDW:D∉P++av own:=λq=>by refine ah (VV.win D q) λo e ζ=>?_;replace e:=hD▸e;exact ab e
 have rv:am (P++av own) s'.heap (.list ys) (.ref D):=by skip;exact iE D vs rfl hDW ⟨j,ha⟩ (by refine aa hr.length ?_;exact dM hl) (hr.sub λb hb=>bP _ hb)
 have V':=VV.keep k'.kb;refine Ff (oH S' V' hx rv λs2 S2 k2 V2=>?_);have hCW:C∉aV sc env own:=(VV.new_out hC).2;have hCP:C∉P++av own:=(VV.new_out hC).1;have hn2:s2.heap.Ns C mC:=nb hn k2.kb hCW;refine au mC hn2 (λh' hs=>?_);refine jQ (id hn2) λoC es ep eC hdC ζ=>?_;have S3:ai X {s2 with heap:=h'}:=S2.same (S.fresh hC) (λo' e'=>by replace e':=eC▸e';have h_:=ak e';clear e';subst h_;exact .inr λvs q=>by replace q:=hdC▸q;cases q) hs;have k02:ag (aV sc env own) s s2:=k'.nil.trans k2;refine pi (dU own x) S3 (bx.after k02 (m9 (gm:=s.gens.size) hs) (λb hb=>by simp at hb;exact hb▸hC) (aT _)) (λb hb=>.inl (fR hb)) ?_;have kC:Kb [C] s2.heap h':=λb o hb ζ e=>(hs.2 b (λq=>hb (gW.mpr (by assumption)))).trans e;refine V2.moveO kC (λb hb=>.inr (.inr λo e its j q=>?_)) (λb hb q=>?_) (λq=>?_) (λy c hm q=>?_) (λb hb=>?_) λb hb=>.inl hb
 ·simp at hb;subst hb;replace e:=eC▸e;have h_:=ak e;clear e;subst h_;replace q:=hdC▸q;cases q
 ·simp at hb;subst hb;exact hCP (bG _ (fR q))
 ·simp at q;exact hCW (q▸iq)
 ·simp at q;subst q;refine bN (VV.cells y c hm) λv o e ζ=>?_;replace e:=hC▸e;exact ab e
 ·refine ah (V2.pin b hb) λo e ht=>?_;exact au o (kC b o (λq=>hCP (by simp at q;exact q▸bC _ hb)) ht e) ht
theorem H8 (VV:ap X sc env σ own P s.heap):env.blockKind=.function:=by unfold Env.blockKind;refine aa VV.kind ?_;rfl
theorem On (OK:bg X O k) (LZ:bR X) (R:aK A (k+2)) {e:ac} {x:Str} {xp pos:Pos} {ent:Ent} (hx:bb sc x=true) (h:eU O n sc σ e=some ent) (S:ai X s) (VV:ap X sc env σ own P s.heap):al (aq X.prog X.w) A (dr (.Assign [.Name x xp] e pos) env) (λf s'=>c6 X sc env own P s (.nx (put σ x ent)) f s') (λζ ζ=>False) s:=by
 have plain:sD e (some (.Name x xp)) pos.line env=pure false->al (aq X.prog X.w) A (dr (.Assign [.Name x xp] e pos) env) (λf s'=>c6 X sc env own P s (.nx (put σ x ent)) f s') (λζ ζ=>False) s:=λhs=>
  Wd (ax (BS OK LZ R h S VV) (λv s1 h_=>aL h_ λS1 k1 r1=>ax (PA S VV S1 k1 hx r1) (λζ s2 h2=>⟨rfl,h2⟩) λζ ζ f=>f) λζ ζ f=>f) hs
 cases hc:xt e
 ·exact plain (D2 hc)
 ·induction e using bt with
  |ListComp elt gens scp cp=>
   cases hb:(env.blockKind==.function&&env.kindOf x==some .local&&xp.line==cp.line&& !(scp.names.any λ(n,k)=>n==x&&(k==.local||k==.cell)))
   ·exact plain (aa Eg (aa hb rfl))
   ·have hd:∃d,ent=.sh d/\pe O n sc σ (.ListComp elt gens scp cp)=some d:=by exact BI (b:=kh (.ListComp elt gens scp cp)) h (λζ ζ hs=>aU hs) λd hd h=>⟨d,h,hd⟩
    rcases hd with ⟨d,rfl,hd⟩
    rw[exec_Assign_Name_used _ _ _ _ (aa Eg (aa hb rfl))];refine aj (dS (aj (ax (QR OK LZ R hx hd S VV) (λζ s' h'=>aI ⟨rfl,h'⟩) λζ ζ f=>f)))
  |SetComp e1 e2 e3 e4=>induction n using dq<;>exact ab h
  |DictComp e1 e2 e3 e4 e5=>induction n using dq<;>exact ab h
  |_=>exact aU hc
end
structure kr where
 x:Str
 e:Ent
 v:Value
 f:Value->bp Unit
noncomputable def mm (e:Ent) (v:Value):Option Addr:=match e,v with
 |.own _,.ref a=>some a
 |_,_=>none
noncomputable def cU (L:List kr):List Addr:=L.filterMap λt=>mm t.e t.v
noncomputable def kf (W:List Addr) (h:aP) (e:Ent) (v:Value):Prop:=match e with
 |.sh d=>am W h d v
 |.own xs=>∃a vs m,v=.ref a/\h.get? a=some {cls:=.type "list",data:=.seq (vs:List Value).toArray m}/\vs.length<=sizeLine/\ar W h xs vs
theorem kf.kb {W W' V:List Addr} {h h':aP} {e:Ent} {v:Value} (r:kf W h e v) (k:Kb V h h') (hv:∀b∈V,b∈W\/h.get? b=none\/∀o,h.get? b=some o->∀its n,o.data≠.seq its n) (hs:∀b∈W',b∈W\/h.get? b=none) (ha:∀a,mm e v=some a->a∉V):kf W' h' e v:=by
 induction e using Ent.casesOn with
 |sh d=>exact am.kb k hv hs d v r
 |own xs=>refine qY r λa vs m e3_ h1 h2 h3=>?_;clear r;subst e3_;exact v7 a vs m rfl (k a _ (ha a rfl) rfl h1) h2 (ar.kb k hv hs xs vs h3)
section
variable {X:Cx} {A:aM} {s s0 s':ae} {env:Env} {sc:Scope} {σ σ':Sg} {own own':List (Str×Addr)} {P P' V:List Addr} {W:List Addr} {O:Orc} {k n:Nat}
theorem ap.seq_wenv (VV:ap X sc env σ own P s.heap) {a:Addr} {o:d5} {its n} (e:s.heap.get? a=some o) (hd:o.data=.seq its n) (ha:a∉av own):a∉aV sc env own:=λq=>by
 unfold aV at q;rcases ao.mp q with rfl|q
 ·obtain ⟨m,o',_,_,e',hd',_⟩:=VV.ns;replace e':=e▸e';have h_:=ak e';clear e';subst h_;replace hd':=hd▸hd';cases hd'
 ·rcases be.mp q with q|q
  ·refine ah (ea q) λx hm ζ=>?_;refine bN (VV.cells x _ hm) λv o' e' hd'=>?_;replace e':=e▸e';have h_:=ak e';clear e';subst h_;replace hd':=hd▸hd';cases hd'
  ·exact ha q
theorem ap.own_pin (VV:ap X sc env σ own P s.heap) {a:Addr} (ha:a∈P):a∉av own:=λq=>by obtain ⟨⟨x,b⟩,hm,rfl⟩:=dQ.mp q;exact VV.ownP x _ hm ha
theorem yv {t:kr} {L:List kr}:cU (t::L)=(match mm t.e t.v with|some a=>a::cU L|none=>cU L):=by unfold cU;refine aa lz ?_;cases mm t.e t.v<;>rfl
theorem Oz {t:kr} {L:List kr} {a:Addr} (ht:t∈L) (h:mm t.e t.v=some a):a∈cU L:=Fl.mpr ⟨t,ht,h⟩
theorem xZ (h:∀c∈av own',c∈av own) {b:Addr} (hb:b∈aV sc env own'):b∈aV sc env own:=by
 unfold aV at hb ⊢;rcases ao.mp hb with q|q
 ·exact ao.mpr (.inl q)
 ·rcases be.mp q with q|q
  ·exact bP _ (bC _ q)
  ·exact bP _ (bG _ (h b q))
theorem xD:∀(L:List kr) (σ:Sg) (own:List (Str×Addr)) (s:ae),ai X s->ap X sc env σ own (cU L++P) s.heap->(∀t∈L,bb sc t.x=true/\kf ((cU L++P)++av own) s.heap t.e t.v)->(cU L).Nodup->(∀a∈cU L,a∉P/\X.h0.get? a=none)->(∀t∈L,∀v Q E s,al (aq X.prog X.w) A (j3 env t.x v) Q E s->al (aq X.prog X.w) A (t.f v) Q E s)->al (aq X.prog X.w) A (qd (L.map (·.f)) (L.map (·.v))) (λζ s'=>∃own',ai X s'/\ag (aV sc env own++cU L) s s'/\(∀b∈av own',b∈av own\/b∈cU L)/\ap X sc env (bI σ (L.map λt=>(t.x,t.e))) own' P s'.heap) (λζ ζ=>False) s
 |[],σ,own,s,S,VV,_,_,_,_=>aI ⟨own,S,ag.refl,λb hb=>.inl hb,VV⟩
 |t::L,σ,own,s,S,VV,hp,hnd,hz,hf=>by
  refine bf (hp t (.head _)) λhx r=>?_;have hfr:=hf t (.head _) t.v;have hrest:∀u∈L,∀v Q E s,al (aq X.prog X.w) A (j3 env u.x v) Q E s->al (aq X.prog X.w) A (u.f v) Q E s:=λu hu=>hf u (.tail _ hu);have more:∀{s1:ae} {own1:List (Str×Addr)},ag (aV sc env own) s s1->(∀b∈(cU L++P)++av own1,b∈(cU (t::L)++P)++av own)->∀u∈L,bb sc u.x=true/\kf ((cU L++P)++av own1) s1.heap u.e u.v:=λ{s1 own1} k1 hs u hu=>by
   refine bf (hp u (.tail _ hu)) λhx' r'=>?_;refine⟨hx',r'.kb k1.kb VV.wseq (λb hb=>.inl (hs b hb)) λa ha=>?_⟩;have haz:a∈cU (t::L)++P:=bC _ (Oz (.tail _ hu) ha);have hobj:∃o its n,s.heap.get? a=some o/\o.data=.seq its n:=by
    revert ha r';refine bB u.v λv=>bB u.e λe=>?_
    induction e using Ent.casesOn with
    |sh d=>exact λζ=>ab
    |own xs=>exact λr' ha=>jQ r' λc vs m q h1 ζ=>JP _ _ _ (ak ((congrArg (mm (.own xs)) q).symm.trans ha)▸h1) rfl
   refine jP hobj λo its n e hd=>?_;clear hobj;exact VV.seq_wenv e hd (VV.own_pin haz)
  refine (?_:al _ A (holding (L.map (·.v)) (t.f t.v)>>=λζ=>qd (L.map (·.f)) (L.map (·.v))) _ _ s);refine aj (dA (hfr _ _ _ ?_));obtain ⟨x,e,v,f⟩:=t
  induction e using Ent.casesOn with
  |sh d=>
   have hzc:cU (⟨x,.sh d,v,f⟩::L)=cU L:=by refine aa yv ?_;try rfl
   have more:=@more;rw[hzc] at VV hnd hz more;have r:am ((cU L++P)++av own) s.heap d v:=by replace r:=hzc▸r;exact r
   refine oH S VV hx r λs1 S1 k1 V1=>?_;refine ax (xD L (put σ x (.sh d)) (dU own x) s1 S1 V1 (more k1 λb hb=>(be.mp hb).elim (λq=>bC _ q) λq=>bG _ (fR q)) hnd hz hrest) (λζ s2 h_0=>dI h_0 λown2 S2 k2 o2 V2=>?_) λζ ζ f=>f;refine pi own2 S2 ((k1.mono λb hb=>bC _ hb).trans (k2.mono λb hb=>?_)) (λb hb=>?_) V2
   ·refine aa hzc ?_;exact (be.mp hb).elim (λq=>bC _ (xZ (λc hc=>fR hc) q)) λq=>bG _ q
   rcases o2 b hb with q|q
   ·exact .inl (fR q)
   ·exact .inr (by refine aa hzc ?_;exact q)
  |own xs=>
   refine qY r λa vs m e3_ h1 h2 h3=>?_;clear r;subst e3_;have hzc:cU (⟨x,.own xs,.ref a,f⟩::L)=a::cU L:=by refine aa yv ?_;try rfl
   have more:=@more;rw[hzc] at VV hnd hz more h3;refine bf (vH.mp hnd) λn1 n2=>?_;refine bf (hz a (.head _)) λz1 z2=>?_;refine Pk (P:=cU L++P) S VV hx z2 (λq=>(be.mp q).elim n1 z1) h1 h2 h3 λs1 S1 k1 V1=>?_;refine ax (xD L (put σ x (.own xs)) ((x,a)::dU own x) s1 S1 V1 (more k1 λb hb=>?_) n2 (λb hb=>hz b (.tail _ hb)) hrest) (λζ s2 h_1=>dI h_1 λown2 S2 k2 o2 V2=>?_) λζ ζ f=>f
   ·rcases be.mp hb with q|q
    ·exact bC _ (bP _ q)
    ·rcases ao.mp q with q|q
     ·exact bC _ (ao.mpr (.inl q))
     ·exact bG _ (fR q)
   ·refine pi own2 S2 ((k1.mono λb hb=>bC _ hb).trans (k2.mono λb hb=>?_)) (λb hb=>?_) V2
    ·refine aa hzc ?_;rcases be.mp hb with q|q
     ·unfold aV at q ⊢;rcases ao.mp q with q|q
      ·exact bC _ (ao.mpr (.inl q))
      ·rcases be.mp q with q|q
       ·exact bC _ (bP _ (bC _ q))
       ·rcases ao.mp q with q|q
        ·exact bG _ (ao.mpr (.inl q))
        ·exact bC _ (bP _ (bG _ (fR q)))
     ·exact bG _ (bP _ q)
    ·rcases o2 b hb with q|q
     ·rcases ao.mp q with q|q
      ·exact .inr (by refine aa hzc ?_;exact ao.mpr (.inl q))
      ·exact .inl (fR q)
     ·exact .inr (by refine aa hzc ?_;exact bP _ q)
theorem JX {e:ac} {ent:Ent} (h:eU O n sc σ e=some ent):dB e=true:=by
 induction e using bt with
 |Starred v p=>
  have h:(match pe O n sc σ (.Starred v p) with|some (.list xs)=>some (.sh (.list xs))|some d=>some (.sh d)|none=>none)=some ent:=h;have q:pe O n sc σ (.Starred v p)=none:=by induction n using dq<;>rfl
  replace h:=q▸h;exact ab h
 |_=>rfl
noncomputable def iC (W:List Addr) (h:aP):List Ent->List Value->List Addr->Prop
 |[],vs,Z=>vs=[]/\Z=[]
 |e::es,vs,Z=>∃v r,vs=v::r/\kf W h e v/\match mm e v with
  |some a=>∃Z',Z=a::Z'/\iC W h es r Z'
  |none=>iC W h es r Z
set_option tactic.hygienic true in
theorem iC.kb {W W' V:List Addr} {h h':aP} (k:Kb V h h') (hv:∀b∈V,b∈W\/h.get? b=none\/∀o,h.get? b=some o->∀its n,o.data≠.seq its n) (hs:∀b∈W',b∈W\/h.get? b=none):∀(es:List Ent) (vs:List Value) (Z:List Addr),(∀a∈Z,a∉V)->iC W h es vs Z->iC W' h' es vs Z
 |[],vs,Z,_,r=>r
 |e::es,vs,Z,hz,r=>by
  skip;refine bw r λv u e2_ h1 h2=>?_;clear r;subst e2_;refine gw v u rfl (h1.kb k hv hs λa ha=>?_) ?_
  ·replace h2:=ha▸h2;refine ah h2 λZ' e1_ ζ=>?_;clear h2;subst e1_;exact hz a (.head _)
  ·split
   ·rename_i a ha;replace h2:=ha▸h2;refine ah h2 λZ' e1_ h3=>?_;clear h2;subst e1_;exact au Z' rfl (iC.kb k hv hs es u Z' (λb hb=>hz b (.tail _ hb)) h3)
   ·rename_i ha;replace h2:=ha▸h2;exact iC.kb k hv hs es u Z hz h2
theorem wh (OK:bg X O k) (LZ:bR X) (R:aK A (k+2)) {pos:Pos}:∀(es:List ac) (ents:List Ent) (P:List Addr) (s:ae),aX (eU O n sc σ) es=some ents->ai X s->ap X sc env σ own P s.heap->Ev X A s (d6 (bW pos (bV es env))) (λvs s'=>∃Z,(∀a∈Z,s.heap.get? a=none)/\Z.Nodup/\ap X sc env σ own (Z++P) s'.heap/\iC ((Z++P)++av own) s'.heap ents vs Z)
 |[],ents,P,s,h,S,VV=>by have h_:=ak h;clear h;subst h_;exact Ev.pure S ⟨[],λζ q=>(nomatch q),We,VV,rfl,rfl⟩
 |e::es,ents,P,s,h,S,VV=>by
  refine bw (lQ h) λent r h1 h2 e4_=>?_;subst e4_;refine aa (rE (JX h1)) (aa qu ?_)
  show Ev X A s (do
   let v <- aJ e env
   let here <- (pure [v]:bp (List Value))
   return here++(<- holding here (d6 (bW pos (bV es env))))) _
  refine Ev.bind (BS OK LZ R h1 S VV) λv s1 S1 k1 rv=>?_;refine Ev.bind (P:=λl s'=>l=[v]/\s'=s1) (Ev.pure S1 ⟨rfl,rfl⟩) λl s2 S2 k2 h_2=>bf h_2 λe1 e2=>?_;subst e1 e2;have V2:=VV.keep k1.kb
  induction ent using Ent.casesOn with
  |sh d=>
   refine Ev.bind (Ev.holding (wh OK LZ R es r P s2 h2 S2 V2)) λvs s3 S3 k3 h_3=>dI h_3 λZ z1 z2 z3 z4=>?_;refine Ev.pure S3 ⟨Z,λa ha=>k1.none (z1 a ha),z2,z3,?_⟩;refine gw v vs rfl (am.kb k3.kb (λζ q=>nomatch q) (λb hb=>?_) d v rv) z4;rcases be.mp hb with q|q
   ·rcases be.mp q with q|q
    ·exact .inr (z1 b q)
    ·exact .inl (bC _ q)
   ·exact .inl (bG _ q)
  |own xs=>
   refine fb rv λa us m e3_ a1 a2 a3 a4=>?_;clear rv;subst e3_
   have V3:ap X sc env σ own (a::P) s2.heap:=VV.pins k1.kb (λb hb=>by
    rcases ao.mp hb with q|q
    ·exact au _ (q▸a2) rfl
    ·exact V2.pin b q) λb hb=>(ao.mp hb).elim (λq=>.inr (q▸a1)) .inl
   refine Ev.bind (Ev.holding (wh OK LZ R es r (a::P) s2 h2 S2 V3)) λvs s3 S3 k3 h_4=>dI h_4 λZ z1 z2 z3 z4=>?_;have haZ:a∉Z:=λq=>by have:=z1 a q;replace this:=a2▸this;cases this
   have sub:∀b,b∈(a::Z)++P->b∈Z++(a::P):=λb hb=>by
    rcases be.mp hb with q|q
    ·rcases ao.mp q with q|q
     ·exact bG _ (ao.mpr (.inl q))
     ·exact bC _ q
    ·exact bG _ (bP _ q)
   refine Ev.pure S3 ⟨a::Z,λb hb=>?_,vH.mpr ⟨haZ,z2⟩,z3.sub sub,?_⟩
   ·rcases ao.mp hb with q|q
    ·exact q▸a1
    ·exact k1.none (z1 b q)
   ·refine⟨.ref a,vs,rfl,⟨a,us,m,rfl,k3.kb a _ (λq=>nomatch q) rfl a2,a3,ar.kb k3.kb (λζ q=>nomatch q) (λb hb=>?_) xs us a4⟩,Z,rfl,?_⟩
    ·rcases be.mp hb with q|q
     ·rcases be.mp (sub b q) with q|q
      ·exact .inr (z1 b q)
      ·rcases ao.mp q with q|q
       ·exact .inl (ao.mpr (.inl q))
       ·exact .inl (bP _ (bC _ q))
     ·exact .inl (bP _ (bG _ q))
    ·refine iC.kb (V:=[]) Kb.refl (λζ q=>nomatch q) (λb hb=>.inl ?_) r vs Z (λζ ζ q=>nomatch q) z4;rcases be.mp hb with q|q
     ·exact bC _ (sub b q)
     ·exact bG _ q
end
theorem BU {α:Type} {l:List α} (h:l.Nodup):l.reverse.Nodup:=by unfold List.Nodup at h ⊢;rw[List.pairwise_reverse];exact h.imp λq z=>q z.symm
theorem L4 {t:ac} {x:Str} (h:fu t=some x):∃p,t=.Name x p:=by
 induction t using bt with
 |Name y p=>exact⟨p,congrArg (λz=>Wf z p) (ak h)⟩
 |_=>exact ab h
theorem CP {α β:Type} {f:α->Option β}:∀{l:List α} {r:List β},aX f l=some r->r.length=l.length
 |[],r,h=>by have h:=ak h;subst h;rfl
 |a::l,r,h=>by refine bw (lQ h) λy r' ζ h2 e4_=>?_;subst e4_;simp[CP h2]
theorem wu {f:ac->Option Str}:∀(ts:List ac),(ts.filterMap f).length<=ts.length
 |[]=>aT _
 |t::ts=>by
  refine aa lz ?_;have:=wu (f:=f) ts;cases f t
  ·simp;exact sg (by assumption)
  ·exact vI this
theorem Bl {f:ac->Option Str} (hf:∀t x,f t=some x->fu t=some x):∀{ts:List ac} {xs:List Str},aX fu ts=some xs->(ts.filterMap f).length=ts.length->ts.filterMap f=xs
 |[],xs,h,_=>by have h:=ak h;subst h;rfl
 |t::ts,xs,h,hl=>by
  refine bw (lQ h) λy r' h1 h2 e4_=>?_;subst e4_;rw[lz] at hl ⊢;cases hft:f t with
  |none=>replace hl:=hft▸hl;have:=wu (f:=f) ts;simp at hl;exact (Ae hl this).elim
  |some z=>replace hl:=hft▸hl;have e:=hf t z hft;replace e:=h1▸e;have h_:=ak e;clear e;subst h_;have:=Bl hf h2 (lx hl);exact aa this rfl
theorem v5:∀(l:List (Str×Ent)) (σ:Sg) (x:Str),jN (l.map (·.1))=true->(bI σ l).lookup x=(match l.lookup x with|some e=>some e|none=>σ.lookup x)
 |[],σ,x,_=>rfl
 |(y,e)::l,σ,x,h=>by
  simp only[bQ,A2,bn,kK] at h;refine aa KV ?_;refine aa (v5 l _ x h.2) ?_;rewrite[cE];refine aa cX ?_
  by_cases hxy:x=y
  ·subst hxy;have:l.lookup x=none:=by
    rw[List.lookup_eq_none_iff];intro p hp;rw[bne_iff_ne];intro q;have h1:=h.1;have:(l.map (·.1)).contains x=true:=by rw[List.contains_iff_exists_mem_beq];exact au p.1 (mJ hp) (decide_eq_true q)
    replace h1:=this▸h1;exact cL h1
   refine aa this ?_;simp
  ·have h6:(x==y)=false:=decide_eq_false hxy;exact aa h6 (aa (if_neg hxy) rfl)
theorem xw:∀(l:List Str),jN l=true↔l.Nodup
 |[]=>by decide
 |x::r=>by
  simp only[A2,bn,kK,vH,xw r];constructor
  ·rintro ⟨h1,h2⟩;exact⟨λq=>by simp[q] at h1,h2⟩
  ·rintro ⟨h1,h2⟩;exact⟨by simpa using h1,h2⟩
theorem xB:∀{l:List (Str×Ent)} {x:Str} {e:Ent},(l.map (·.1)).Nodup->(x,e)∈l->l.lookup x=some e
 |(y,f)::l,x,e,hn,h=>by
  simp only[bQ,vH] at hn;rcases ao.mp h with q|q
  ·cases q;simp[dP]
  ·have hne:(x==y)=false:=by
    cases hb:x==y with
    |false=>rfl
    |true=>exact absurd (by refine aA (bc hb) ?_;exact mJ q) hn.1
   refine aa cX (aa hne ?_);exact xB hn.2 q
theorem KJ (l:List (Str×Ent)) (σ:Sg) (x:Str) (h:jN (l.map (·.1))=true):(bI σ l).lookup x=(bI σ l.reverse).lookup x:=by
 have hn:=(xw _).mp h;have hr:(l.reverse.map (·.1)).Nodup:=by refine aa vJ ?_;exact BU hn
 refine aa (v5 l σ x h) (aa (v5 l.reverse σ x ((xw _).mpr hr)) ?_);cases e:l.lookup x with
 |some f=>exact aa (xB hr (vK.mpr (ck e))) rfl
 |none=>
  cases e2:l.reverse.lookup x with
  |none=>rfl
  |some f=>have:=xB hn (vK.mp (ck e2));replace this:=e▸this;exact ab this
set_option backward.match.sparseCases true in
noncomputable def uB (env:Env) (l:Nat):ac->Option Str
 |.Name id pos=>if env.kindOf id==some .local&&pos.line==l then some id else none
 |_=>none
theorem Kh {env:Env} {l:Nat} (t:ac) (x:Str) (h:uB env l t=some x):fu t=some x:=by
 induction t using bt with
 |Name id q=>
  have h:(if (env.kindOf id==some .local&&q.line==l)=true then some id else none)=some x:=h;revert h;refine bB (env.kindOf id==some .local&&q.line==l) λc h=>?_
  induction c using dF
  ·exact ab h
  ·exact h
 |_=>exact ab h
set_option backward.match.sparseCases true in
theorem JR {env:Env} {ts vs:List ac} {tn vn:Nat} {tp vp:Pos}:∃(b1 b2 b3:Bool) (f:ac->Option Str) (m:bp (Option (List Str))),(∀t x,f t=some x->fu t=some x)/\j9 [.Tuple ts tn tp] (.Tuple vs vn vp) env=(if b1=true then pure none else if b2=true then pure none else if ((ts.filterMap f).length != ts.length||b3)=true then pure none else
   if vs.all (mS 8)=true then pure none else if vs.all (mR 8)=true then m else pure (some (ts.filterMap f))):=
 ⟨!(ts.length==2||ts.length==3)||vs.length != ts.length||env.blockKind != .function,_,(ts.filterMap (uB env ((ts.head?.map (·.pos.line)).getD 0))).eraseDups.length != (ts.filterMap (uB env ((ts.head?.map (·.pos.line)).getD 0))).length,uB env ((ts.head?.map (·.pos.line)).getD 0),_,Kh,by
  delta j9;dsimp only
  rfl⟩
theorem Cw {env:Env} {ts vs:List ac} {tn vn:Nat} {tp vp:Pos}:j9 [.Tuple ts tn tp] (.Tuple vs vn vp) env=pure none\/∃f:ac->Option Str,(∀t x,f t=some x->fu t=some x)/\(ts.filterMap f).length=ts.length/\((!(vs.all (mR 8))||vs.all (mS 8))=true->j9 [.Tuple ts tn tp] (.Tuple vs vn vp) env=pure none\/j9 [.Tuple ts tn tp] (.Tuple vs vn vp) env=pure (some (ts.filterMap f))):=by
 obtain ⟨b1,b2,b3,f,m,hf,e⟩:=JR (env:=env) (ts:=ts) (vs:=vs) (tn:=tn) (vn:=vn) (tp:=tp) (vp:=vp);refine aa e ?_;clear e
 induction b1 using dF
 ·induction b2 using dF
  ·refine aa (if_neg gz) (aa (if_neg gz) ?_);cases hl:((ts.filterMap f).length != ts.length||b3)
   ·refine .inr ⟨f,hf,of_decide_eq_true (by cases h:decide ((ts.filterMap f).length=ts.length) with|true=>rfl|false=>rw[bne,beq_false_of_ne (of_decide_eq_false h)] at hl;exact cL hl),?_⟩;cases vs.all (mS 8)
    ·cases vs.all (mR 8)
     ·exact λζ=>.inr rfl
     ·exact λh=>aU h
    ·exact λζ=>.inl rfl
   ·exact .inl rfl
  ·exact .inl rfl
 ·exact .inl rfl
section
variable {X:Cx} {A:aM} {s s0 s':ae} {env:Env} {sc:Scope} {σ σ':Sg} {own own':List (Str×Addr)} {P P' V:List Addr} {W:List Addr} {O:Orc} {k n:Nat}
theorem Rn {ts vs:List ac} {tn vn:Nat} {tp vp:Pos} {xs:List Str} (hb:env.blockKind=.function) (hx:aX fu ts=some xs) (hg:(!(vs.all (mR 8))||vs.all (mS 8))=true):j9 [.Tuple ts tn tp] (.Tuple vs vn vp) env=pure none\/j9 [.Tuple ts tn tp] (.Tuple vs vn vp) env=pure (some xs):=by
 rcases Cw (env:=env) (ts:=ts) (vs:=vs) (tn:=tn) (vn:=vn) (tp:=tp) (vp:=vp) with h|⟨f,hf,hl,h⟩
 ·exact .inl h
 ·replace h:=(Bl hf hx hl)▸h;exact h hg
noncomputable def fQ:List Str->List Ent->List Value->List (Value->bp Unit)->List kr
 |x::xs,e::es,v::vs,f::fs=>⟨x,e,v,f⟩::fQ xs es vs fs
 |_,_,_,_=>[]
theorem x7 {W h}:∀{es:List Ent} {vs:List Value} {Z:List Addr},iC W h es vs Z->vs.length=es.length
 |[],vs,Z,r=>by rw[r.1];rfl
 |e::es,vs,Z,r=>by
  skip;refine bw r λv u e2_ ζ h2=>?_;clear r;subst e2_
  split at h2
  ·refine ah h2 λZ' ζ h3=>?_;clear h2;simp[x7 h3]
  ·simp[x7 h2]
set_option tactic.hygienic true in
theorem ym {W h}:∀(xs:List Str) (es:List Ent) (vs:List Value) (fs:List (Value->bp Unit)) (Z:List Addr),xs.length=es.length->fs.length=es.length->iC W h es vs Z->cU (fQ xs es vs fs)=Z/\(fQ xs es vs fs).map (·.v)=vs/\(fQ xs es vs fs).map (·.f)=fs/\((fQ xs es vs fs).map λt=>(t.x,t.e))=xs.zip es/\(∀t∈fQ xs es vs fs,kf W h t.e t.v)/\(∀t∈fQ xs es vs fs,(t.x,t.f)∈xs.zip fs)
 |[],[],vs,fs,Z,_,hf,r=>by refine bf r λe0_ e1_=>?_;clear r;subst e0_;subst e1_;have:fs=[]:=Uu.mp hf;subst this;exact uQ rfl rfl rfl rfl (λζ q=>(nomatch q)) (λζ q=>(nomatch q))
 |[],e::es,_,_,_,hx,_,_=>pX hx
 |x::xs,[],_,_,_,hx,_,_=>pX hx
 |x::xs,e::es,vs,fs,Z,hx,hf,r=>by
  skip;refine bw r λv u e2_ h1 h2=>?_;clear r;subst e2_
  induction fs using aF with
  |nil=>exact pX hf
  |cons f fs=>
   have go:∀Z',iC W h es u Z'->_:=λZ' q=>ym xs es u fs Z' (lx hx) (lx hf) q;have fin:∀Z',iC W h es u Z'->(Z=match mm e v with|some a=>a::Z'|none=>Z')->
     cU (fQ (x::xs) (e::es) (v::u) (f::fs))=Z/\(fQ (x::xs) (e::es) (v::u) (f::fs)).map (·.v)=v::u/\(fQ (x::xs) (e::es) (v::u) (f::fs)).map (·.f)=f::fs/\
     ((fQ (x::xs) (e::es) (v::u) (f::fs)).map λt=>(t.x,t.e))=(x::xs).zip (e::es)/\(∀t∈fQ (x::xs) (e::es) (v::u) (f::fs),kf W h t.e t.v)/\(∀t∈fQ (x::xs) (e::es) (v::u) (f::fs),(t.x,t.f)∈(x::xs).zip (f::fs)):=by
    intro Z' q hZ;refine oD (go Z' q) λg1 g2 g3 g4 g5 g6=>?_;have et:fQ (x::xs) (e::es) (v::u) (f::fs)=⟨x,e,v,f⟩::fQ xs es u fs:=rfl;refine aa et ?_;refine uQ ?_ (congrArg (_:: ·) (by assumption)) (congrArg (_:: ·) (by assumption)) (congrArg (_:: ·) (by assumption)) (λt ht=>?_) (λt ht=>?_)
    ·refine aa yv (aa g1 (aa hZ ?_));try rfl
    ·rcases ao.mp ht with rfl|q
     ·exact h1
     ·exact g5 t q
    ·rcases ao.mp ht with rfl|q
     ·exact iq
     ·exact bP _ (g6 t q)
   split at h2
   ·rename_i a ha;refine ah h2 λZ' e1_ h3=>?_;clear h2;subst e1_;exact fin Z' h3 (aa ha rfl)
   ·rename_i ha;exact fin Z h2 (aa ha rfl)
theorem K8 (L:List kr):cU L.reverse=(cU L).reverse:=by unfold cU;exact aa List.filterMap_reverse rfl
theorem TB {L:List kr} {Z:List Addr} (S0:ai X s0) (V0:ap X sc env σ own P s0.heap) (S:ai X s) (k1:ag [] s0 s) (hz:cU L=Z\/cU L=Z.reverse) (hZ:∀a∈Z,s0.heap.get? a=none) (hn:Z.Nodup) (VV:ap X sc env σ own (Z++P) s.heap) (hp:∀t∈L,bb sc t.x=true/\kf ((Z++P)++av own) s.heap t.e t.v) (hf:∀t∈L,∀v Q E s,al (aq X.prog X.w) A (j3 env t.x v) Q E s->al (aq X.prog X.w) A (t.f v) Q E s) (hs:∀x,(bI σ (L.map λt=>(t.x,t.e))).lookup x=σ'.lookup x):al (aq X.prog X.w) A (qd (L.map (·.f)) (L.map (·.v))) (λζ s'=>fz X sc env own P s0 σ' s') (λζ ζ=>False) s:=by
 have hm:∀a,a∈cU L↔a∈Z:=λa=>by rcases hz with h|h<;>simp[h]
 have hnd:(cU L).Nodup:=by
  rcases hz with h|h
  ·exact h▸hn
  ·refine aa h ?_;exact BU hn
 have sub:∀b,b∈cU L++P->b∈Z++P:=λb hb=>(be.mp hb).elim (λq=>bC _ ((hm b).mp q)) λq=>bG _ q;refine ax (xD (P:=P) L σ own s S (VV.sub sub) (λt ht=>⟨(hp t ht).1,(hp t ht).2.kb (V:=[]) Kb.refl (λζ q=>nomatch q) (λb hb=>.inl ?_) λζ ζ q=>nomatch q⟩) hnd (λa ha=>?_) hf) (λζ s2 h_0=>dI h_0 λown2 S2 k2 o2 V2=>?_) λζ ζ f=>f
 ·exact (be.mp hb).elim (λq=>bC _ (sub b q)) λq=>bG _ q
 ·have h1:=hZ a ((hm a).mp ha);exact⟨λq=>(by refine ah (V0.pin a q) λo e ζ=>?_;replace e:=h1▸e;exact ab e),S0.fresh h1⟩
 ·refine pi own2 S2 ?_ (λb hb=>(o2 b hb).imp_right λq=>hZ b ((hm b).mp q)) (V2.congr λx=>(hs x).symm);refine⟨λb o hb ht e=>k2.kb b o (λq=>?_) ht (k1.kb b o (λq=>nomatch q) ht e),λb o e=>?_,aB k1.gsz k2.gsz,λi hi=>(k2.gk i (cV hi k1.gsz)).trans (k1.gk i hi)⟩
  ·rcases be.mp q with q|q
   ·exact hb q
   ·replace e:=(hZ b ((hm b).mp q))▸e;exact ab e
  ·refine ay (k1.th b o e) λo1 e1=>?_;exact k2.th b o1 e1
end
section
variable {X:Cx} {A:aM} {s s0 s':ae} {env:Env} {sc:Scope} {σ σ':Sg} {own own':List (Str×Addr)} {P P' V:List Addr} {W:List Addr} {O:Orc} {k n:Nat}
theorem C0:∀{ts:List ac} {xs:List Str},aX fu ts=some xs->(gB ts env).length=xs.length/\(gB ts env).findIdx? (·.1)=none/\∀x f,(x,f)∈xs.zip ((gB ts env).map (·.2))->∃p,f=js (.Name x p) env
 |[],xs,h=>by have h:=ak h;subst h;exact dX rfl rfl (λζ ζ q=>nomatch q)
 |t::ts,xs,h=>by
  refine bw (lQ h) λy r' h1 h2 e4_=>?_;subst e4_;refine ay (L4 h1) λp e1_=>?_;subst e1_;refine aL (C0 h2) λg1 g2 g3=>?_;refine aa (wn rfl) ?_;refine dX (congrArg pM (by assumption)) ?_ (λx f q=>?_)
  ·refine aa Vx ?_;simp[g2]
  ·rcases ao.mp q with q|q
   ·cases q;exact⟨p,rfl⟩
   ·exact g3 x f q
theorem DU {α β:Type} {l:List α} {r:List β} {a:α} {b:β} (h:(a,b)∈l.zip r):a∈l:=(List.of_mem_zip h).1
theorem Ht (OK:bg X O k) (LZ:bR X) (R:aK A (k+2)) {ts vs:List ac} {tn vn:Nat} {tp vp pos:Pos} {xs:List Str} {ents:List Ent} (hx:aX fu ts=some xs) (hst:xs.all (bb sc)=true) (hnd:jN xs=true) (hlen:xs.length=vs.length) (hg:(!(vs.all (mR 8))||vs.all (mS 8))=true) (hsz:vs.length<=1000) (h:aX (eU O n sc σ) vs=some ents) (S:ai X s) (VV:ap X sc env σ own P s.heap):al (aq X.prog X.w) A (dr (.Assign [.Tuple ts tn tp] (.Tuple vs vn vp) pos) env) (λf s'=>c6 X sc env own P s (.nx (bI σ (xs.zip ents))) f s') (λζ ζ=>False) s:=by
 have e:dr (.Assign [.Tuple ts tn tp] (.Tuple vs vn vp) pos) env=(do
   dR pos
   let v <- aJ (.Tuple vs vn vp) env
   Fu env v (<- j9 [.Tuple ts tn tp] (.Tuple vs vn vp) env) ((gB [.Tuple ts tn tp] env).map (·.2))):=rfl
 refine aa e ?_;have hle:ents.length=vs.length:=CP h;refine aj (dS (aj (VD (ax (wh OK LZ R vs ents P s h S VV) (λvals s1 h_=>aL h_ λS1 k1 h_=>dI h_ λZ z1 z2 V1 r1=>?_) λζ ζ f=>f))));have hvl:vals.length=ents.length:=x7 r1;have hle2:vals.length<=sizeLine:=by refine aa hvl (aa hle ?_);exact aB hsz (by decide)
 refine⟨hle2,?_⟩;have kp:∀b o,s1.heap.get? b=some o->(s1.heap.push {cls:=.type "tuple",data:=.seq vals.toArray}).get? b=some o:=bz;have ht:EK (s1.heap.push {cls:=.type "tuple",data:=.seq vals.toArray}) s1.heap.objs.size vals.toArray:=DM;refine bY (({s1 with heap:=s1.heap.push {cls:=.type "tuple",data:=.seq vals.toArray}}:ae)) λs2 hs2=>?_;have S2:ai X s2:=hs2▸S1.keep kp;have k2:ag [] s s2:=hs2▸k1.trans (ag.keep kp);have k12:∀b o,s1.heap.get? b=some o->s2.heap.get? b=some o:=λb o e=>by refine aA hs2 ?_;exact kp b o e
 have ht2:s2.heap.IsTuple s1.heap.objs.size vals.toArray:=hs2▸ht;have fin:∀(h3:aP) (L:List kr),oo s2.heap.objs.size s2.heap h3->(cU L=Z\/cU L=Z.reverse)->(∀t∈L,bb sc t.x=true/\kf ((Z++P)++av own) s1.heap t.e t.v)->
   (∀t∈L,∀v Q E s,al (aq X.prog X.w) A (j3 env t.x v) Q E s->al (aq X.prog X.w) A (t.f v) Q E s)->
   (∀x,(bI σ (L.map λt=>(t.x,t.e))).lookup x=(bI σ (xs.zip ents)).lookup x)->
   al (aq X.prog X.w) A (qd (L.map (·.f)) (L.map (·.v))) (λζ s'=>fz X sc env own P s (bI σ (xs.zip ents)) s') (λζ ζ=>False) {s2 with heap:=h3}:=by
  intro h3 L hk hz hp hf hs;have k3:∀b o,s1.heap.get? b=some o->h3.get? b=some o:=λb o e=>hk b o (ly (fm (k12 b o e))) (k12 b o e);have k23:∀b o,s2.heap.get? b=some o->h3.get? b=some o:=λb o e=>hk b o (ly (fm e)) e;exact TB S VV (S2.keep (tk:=s2.toks) k23) (k2.trans (ag.keep (tk:=s2.toks) k23)) hz z1 z2 (V1.keep (Kb.of_keep k3))
   (λt ht=>⟨(hp t ht).1,(hp t ht).2.kb (V:=[]) (Kb.of_keep k3) (λζ q=>nomatch q) (λb hb=>.inl hb) λζ ζ q=>nomatch q⟩) hf hs
 rcases Rn (tn:=tn) (tp:=tp) (vn:=vn) (vp:=vp) (H8 VV) hx hg with hsw|hsw
 ·refine aa hsw ?_;refine aj (aI ?_);refine (?_:al _ A (do ze (.ref s1.heap.objs.size) [js (.Tuple ts tn tp) env];pure Flow.next) _ _ s2);refine aL (C0 (env:=env) hx) λg1 g2 g3=>?_;have hfl:((gB ts env).map (·.2)).length=ents.length:=by (rewrite[ca];exact aa g1 (aa hlen (aa hle rfl)))
  refine oD (ym xs ents vals ((gB ts env).map (·.2)) Z (aa hlen (aa hle rfl)) hfl r1) λt1 t2 t3 t4 t5 t6=>?_;refine aj (Vy R.hh ht2 (by refine aa g1 (aa hlen (aA hle ?_));simp[hvl]) g2 λh3 hk=>?_);have:=fin h3 (fQ xs ents vals ((gB ts env).map (·.2))) hk (.inl t1) (λt ht=>⟨?_,t5 t ht⟩) (λt ht v Q E s q=>?_) (λx=>by exact aa t4 rfl)
  ·replace this:=t2▸this;replace this:=t3▸this;have e2:vals.toArray.toList=vals:=by rfl
   refine aa e2 ?_;exact ax this (λζ s' h'=>aI ⟨rfl,h'⟩) λζ ζ f=>f
  ·exact dG.mp hst _ (DU (t6 t ht))
  ·refine ay (g3 _ _ (t6 t ht)) λp e=>?_;refine aa e ?_;exact Ff q
 ·refine aa hsw ?_;refine aj (aI ?_);refine (?_:al _ A (E6 "assign.swapped-stores" >>=λζ=>Fe (.ref s1.heap.objs.size) xs.length none>>=λitems=>qd (xs.reverse.map λn=>vL env n) items.reverse>>=λζ=>pure Flow.next) _ _ s2);have hxl:xs.length=vals.toArray.size:=by refine aa hlen (aA hle ?_);simp[hvl]
  refine oD (ym xs ents vals (xs.map λn=>vL env n) Z (aa hlen (aa hle rfl)) (by (rewrite[ca];exact aa hlen (aa hle rfl))) r1) λt1 t2 t3 t4 t5 t6=>?_;refine aa hxl ?_;refine aj (vx (aj (wpAny_unpackItems_tuple R.hh ht2 λh3 hk=>?_)));have:=fin h3 (fQ xs ents vals (xs.map λn=>vL env n)).reverse hk (.inr (by (rewrite[K8];exact aa t1 rfl))) (λt ht=>⟨?_,t5 t (vK.mp ht)⟩) (λt ht v Q E s q=>?_) (λx=>?_)
  ·replace this:=vJ▸this;replace this:=vJ▸this;replace this:=t2▸this;replace this:=t3▸this;have e2:vals.toArray.toList=vals:=by rfl
   refine aa e2 (aa vJ ?_);exact aj (ax this (λζ s' h'=>aI ⟨rfl,h'⟩) λζ ζ f=>f)
  ·exact dG.mp hst _ (DU (t6 t (vK.mp ht)))
  ·have hm:=t6 t (vK.mp ht);have:t.f=vL env t.x:=by
    replace hm:=List.zip_map_right▸hm;obtain ⟨⟨a,b⟩,hab,e3⟩:=dQ.mp hm;have hab2:a=b:=by
     have:∀{l:List Str} {a b},(a,b)∈l.zip l->a=b:=by
      intro l
      induction l with
      |nil=>intro a b q;nomatch q
      |cons y l ih=>
       intro a b q;rcases ao.mp q with q|q
       ·cases q;rfl
       ·exact ih q
     exact this hab
    subst hab2;have e4:=Fv e3;refine aA e4.1 (aA e4.2 ?_);rfl
   refine aa this ?_;exact Wg q
  ·refine aa vJ (aa t4 ?_)
   exact (KJ _ σ x (by
    have:(xs.zip ents).map (·.1)=xs:=by rw[List.map_fst_zip];exact HJ hlen hle
    refine aa this ?_;exact hnd)).symm
end
section
variable {X:Cx} {A:aM} {s s0 s':ae} {env:Env} {sc:Scope} {σ σ':Sg} {own own':List (Str×Addr)} {P P' V:List Addr} {W:List Addr} {O:Orc} {k n:Nat} {E:Value->ae->Prop}
theorem B3 {f:ac->Option Str} (hf:∀t x,f t=some x->fu t=some x):∀{ts:List ac},(ts.filterMap f).length=ts.length->∃xs,aX fu ts=some xs
 |[],_=>⟨[],rfl⟩
 |t::ts,hl=>by
  replace hl:=lz▸hl;cases hft:f t with
  |none=>replace hl:=hft▸hl;have:=wu (f:=f) ts;simp at hl;exact (Ae hl this).elim
  |some z=>replace hl:=hft▸hl;refine ay (B3 hf (ts:=ts) (lx hl)) λxs h=>?_;exact⟨z::xs,aG (hf t z hft) h⟩
theorem K6 {ts vs:List ac} {tn vn:Nat} {tp vp:Pos} (hx:aX fu ts=none):j9 [.Tuple ts tn tp] (.Tuple vs vn vp) env=pure none:=by
 rcases Cw (env:=env) (ts:=ts) (vs:=vs) (tn:=tn) (vn:=vn) (tp:=tp) (vp:=vp) with h|⟨f,hf,hl,h⟩
 ·exact h
 ·refine ay (B3 hf hl) λxs q=>?_;replace q:=hx▸q;exact ab q
theorem Ki (OK:bg X O k) (LZ:bR X) (R:aK A (k+2)) {ts vs:List ac} {tn vn:Nat} {tp vp pos:Pos} {d:PV} (hx:aX fu ts=none) (h:pe O n sc σ (.Tuple vs vn vp)=some d) (h2:bD false sc 4 σ (.Tuple ts tn tp) d=some σ') (S:ai X s) (VV:ap X sc env σ own P s.heap):al (aq X.prog X.w) A (dr (.Assign [.Tuple ts tn tp] (.Tuple vs vn vp) pos) env) (λf s'=>c6 X sc env own P s (.nx σ') f s') (λζ ζ=>False) s:=by
 have e:dr (.Assign [.Tuple ts tn tp] (.Tuple vs vn vp) pos) env=(do
   dR pos
   let v <- aJ (.Tuple vs vn vp) env
   Fu env v (<- j9 [.Tuple ts tn tp] (.Tuple vs vn vp) env) ((gB [.Tuple ts tn tp] env).map (·.2))):=rfl
 refine aa e (aa (K6 hx) ?_);refine aj (dS (aj (ax (du OK LZ R n sc σ env own P _ d s h S VV) (λv s1 h_0=>aL h_0 λS1 k1 r1=>?_) λζ ζ f=>f)));refine aj (aI ?_);refine (?_:al _ A (do ze v [js (.Tuple ts tn tp) env];pure Flow.next) _ _ s1);refine aj (ax (nD R.hh 4 σ _ d σ' s1 own v h2 S1 (VV.keep k1.kb) r1) (λζ s2 h_1=>dI h_1 λown2 S2 k2 o2 V2=>aI ⟨rfl,own2,S2,k1.nil.trans k2,?_,V2⟩) λζ ζ f=>f);exact λb hb=>(nM (s:=s) o2) b hb
theorem Ks (OK:bg X O k) (LZ:bR X) (R:aK A (k+2)) {ts:List ac} {e:ac} {tn:Nat} {tp pos:Pos} {d:PV} (he:dm e=false) (h:pe O n sc σ e=some d) (h2:bD false sc 4 σ (.Tuple ts tn tp) d=some σ') (S:ai X s) (VV:ap X sc env σ own P s.heap):al (aq X.prog X.w) A (dr (.Assign [.Tuple ts tn tp] e pos) env) (λf s'=>c6 X sc env own P s (.nx σ') f s') (λζ ζ=>False) s:=by
 have hsw:Wh [.Tuple ts tn tp] e pos.line env=pure false:=by
  refine (?_:sD e (some (.Tuple ts tn tp)) pos.line env=pure false)
  induction e using bt<;>rfl
 have hss:j9 [.Tuple ts tn tp] e env=pure none:=by
  induction e using bt<;>first|rfl|exact cL he
 have e1:dr (.Assign [.Tuple ts tn tp] e pos) env=(do
   dR pos
   if <- Wh [.Tuple ts tn tp] e pos.line env then do
    Wc e env λv=>ze v ((gB [.Tuple ts tn tp] env).map (·.2))
    pure .next
   else do
    let v <- aJ e env
    Fu env v (<- j9 [.Tuple ts tn tp] e env) ((gB [.Tuple ts tn tp] env).map (·.2))):=rfl
 refine aa e1 (aa hsw (aa hss ?_));refine aj (dS (aj (aI ?_)));refine aa (if_neg gz) ?_;refine aj (ax (du OK LZ R n sc σ env own P _ d s h S VV) (λv s1 h_2=>aL h_2 λS1 k1 r1=>?_) λζ ζ f=>f);refine aj (aI ?_);refine (?_:al _ A (do ze v [js (.Tuple ts tn tp) env];pure Flow.next) _ _ s1);refine aj (ax (nD R.hh 4 σ _ d σ' s1 own v h2 S1 (VV.keep k1.kb) r1) (λζ s2 h_3=>dI h_3 λown2 S2 k2 o2 V2=>aI ⟨rfl,own2,S2,k1.nil.trans k2,?_,V2⟩) λζ ζ f=>f);exact λb hb=>(nM (s:=s) o2) b hb
theorem Ke (OK:bg X O k) (LZ:bR X) (R:aK A (k+2)) {x:Str} {np pos:Pos} {op:kE} {e:ac} {a b d:PV} (hx:bb sc x=true) (hv:br sc x=true) (ha:gx σ x=some a) (hb:pe O n sc σ e=some b) (h:lW op a b=some d) (S:ai X s) (VV:ap X sc env σ own P s.heap):al (aq X.prog X.w) A (dr (.AugAssign (.Name x np) op e pos) env) (λf s'=>c6 X sc env own P s (.nx (put σ x (.sh d))) f s') (λζ ζ=>False) s:=by
 have e1:dr (.AugAssign (.Name x np) op e pos) env=(do
  dR np
  let old <- loadName env x
  let v <- holding [old] (aJ e env)
  dR pos
  let new <- vt [old,v] (inplaceOp op old v)
  dR np
  vL env x new
  pure .next):=rfl
 refine aa e1 ?_
 ·have hlk:=BD ha;refine ah (VV.vars x a hlk) λv hv' r=>?_;have hnm:=pr VV hv;unfold cy at hnm;simp only[bn,bne_iff_ne,ne_eq] at hnm;refine aj (dS (aj (A8 VV hv' hnm.2 ?_)));refine aj (dA (ax (du OK LZ R n sc σ env own P e b s hb S VV) (λu s1 h_4=>aL h_4 λS1 k1 r1=>?_) λζ ζ f=>f));refine aj (dS (aj ?_));have key:Ev X A s1 (inplaceOp op v u) (λw s2=>am (P++av own) s2.heap d w):=by
   induction op using UW with
   |Add=>
    induction a using PV.casesOn with
    |int x=>
     induction b using PV.casesOn with
     |int y=>have h:=ak h;subst h;obtain ⟨t,rfl⟩:=r;obtain ⟨t2,rfl⟩:=r1;exact XZ ⟨S1.tok,ag.toks,⟨_,rfl⟩⟩
     |_=>exact ab h
    |_=>exact ab h
   |Sub=>
    induction a using PV.casesOn with
    |int x=>
     induction b using PV.casesOn with
     |int y=>have h:=ak h;subst h;obtain ⟨t,rfl⟩:=r;obtain ⟨t2,rfl⟩:=r1;exact X0 ⟨S1.tok,ag.toks,⟨_,rfl⟩⟩
     |_=>exact ab h
    |_=>exact ab h
   |BitXor=>
    induction a using PV.casesOn with
    |int x=>
     induction b using PV.casesOn with
     |int y=>have h:=ak h;subst h;obtain ⟨t,rfl⟩:=r;obtain ⟨t2,rfl⟩:=r1;exact X1 ⟨S1.tok,ag.toks,⟨_,rfl⟩⟩
     |_=>exact ab h
    |_=>exact ab h
   |_=>exact ab h
  refine ax (xb key) (λw s2 h_5=>aL h_5 λS2 k2 r2=>?_) λζ ζ f=>f;refine aj (dS (aj (Wg (oH S2 ((VV.keep k1.kb).keep k2.kb) hx r2 λs3 S3 k3 V3=>aI ?_))));exact⟨rfl,_,S3,(k1.trans k2).nil.trans k3,λb hb=>.inl (fR hb),V3⟩
theorem IY {o:ac} {name:Str} {apos pos:Pos} {args:List ac} {id:String} {Q:List Value->ae->Prop} {QO QF:Value->ae->Prop} (h0:jM o=false) (hp:(apos.endLine==pos.line)=true) (hl:args.length<30) (hn:∀e∈args,dB e=true) (h1:Ev X A s (aJ o env) QO) (hg:∀ov s1 pl (Q:Value×List Value->ae->Prop),ai X s1->ag [] s s1->QO ov s1->Q (.builtin id,[ov]) s1->al (aq X.prog X.w) A (mK ov name pl) Q (λζ ζ=>False) s1) (he:∀ov s',ai X s'->ag [] s s'->QO ov s'->Ev X A s' (d6 (bW pos (bV args env))) Q) (hc:∀ov vs s1 s2,ai X s1->ag [] s s1->QO ov s1->ai X s2->ag [] s1 s2->Q vs s2->al (aq X.prog X.w) A (call (.builtin id) (ov::vs)) QF (λζ ζ=>False) s2):al (aq X.prog X.w) A (aJ (.Call (.Attribute o name apos) args [] pos) env) QF (λζ ζ=>False) s:=by
 refine (?_:al _ A (Fh o name env (aJ o env)>>=λov=>dR apos.atName>>=λζ=>y2 o name apos pos env ov (args.length+0) (bW pos (bV args env)) []) _ _ s);refine aa (Cd h0) ?_;refine aj (ax h1 (λov s2 h_6=>aL h_6 λS2 k1 r1=>?_) λζ ζ f=>f);refine aj (dS ?_);have hf:y3 (args.length+0) (bW pos (bV args env)) []=true:=by unfold y3;refine aa (xa hn) ?_;exact decide_eq_true hl
 unfold y2;refine aa hf ?_;have hcal:∀ov,calleeOf true o env ov name=mK ov name (do return (<- VF o env).getD true):=λζ=>rfl;rw[hcal];refine aj (dA (hg ov s2 _ _ S2 k1 r1 ?_));have hpos:ss true o env apos pos=pure pos:=by unfold ss;refine aa hp ?_;rfl
 refine (?_:al _ A (ss true o env apos pos>>=_) _ _ s2);refine aa hpos ?_;refine aj (aI ?_);exact Ep (λa q=>by cases q) hn (he ov s2 S2 k1 r1) λvs s' S' k' q=>hc ov vs s2 s' S2 k1 r1 S' k' q
end
section
variable {X:Cx} {A:aM} {s s0 s':ae} {env:Env} {sc:Scope} {σ σ':Sg} {own own':List (Str×Addr)} {P P' V:List Addr} {W:List Addr} {O:Orc} {k n:Nat} {E:Value->ae->Prop}
theorem CY {x:Str} {xs:List PV} (h:fM σ x=some xs):σ.lookup x=some (.own xs):=by
 revert h;delta fM;refine bY (σ.lookup x) λo e=>?_
 induction o using bO with
 |none=>exact ab
 |some k=>induction k using Ent.casesOn with
  |own d=>exact λq=>congrArg (λz=>some (Ent.own z)) (ak q)
  |sh ds=>exact ab
theorem B4 (VV:ap X sc env σ own P s.heap):ow env=false:=by unfold ow;refine aa VV.kind ?_;rfl
theorem DL (OK:bg X O k) (LZ:bR X) (R:aK A (k+2)) {x m:Str} {id:String} {xp apos pos spos:Pos} {e:ac} {xs ys:List PV} {d:PV} (hx:br sc x=true) (hp:(apos.endLine==pos.line)=true) (ho:fM σ x=some xs) (hd:pe O n sc σ e=some d) (S:ai X s) (VV:ap X sc env σ own P s.heap) (hg:∀(a:Addr) (s1:ae) its j pl (Q:Value×List Value->ae->Prop),s1.heap.get? a=some {cls:=.type "list",data:=.seq its j}->Q (.builtin id,[.ref a]) s1->al (aq X.prog X.w) A (mK (.ref a) m pl) Q (λζ ζ=>False) s1)
  (hc:∀(a:Addr) (vs:List Value) (j:Nat) (v:Value) (s1:ae) (Q:Value->ae->Prop),s1.heap.get? a=some {cls:=.type "list",data:=.seq vs.toArray j}->vs.length=xs.length->am (P++av own) s1.heap d v->ar (P++av own) s1.heap xs vs->
   (∀h' ws j',io a s1.heap h'->h'.get? a=some {cls:=.type "list",data:=.seq (ws:List Value).toArray j'}->ws.length<=sizeLine->ar (P++av own) s1.heap ys ws->Q .none {s1 with heap:=h'})->
   al (aq X.prog X.w) A (call (.builtin id) [.ref a,v]) Q (λζ ζ=>False) s1):
  al (aq X.prog X.w) A (dr (.Expr (.Call (.Attribute (.Name x xp) m apos) [e] [] pos) spos) env) (λf s'=>c6 X sc env own P s (.nx (put σ x (.own ys))) f s') (λζ ζ=>False) s:=by
 have hlk:=CY ho;refine fb (VV.owns x xs hlk) λa vs0 j0 h1 h2 h3 h4 h5=>?_;refine zf (B4 VV |> λh=>?_) (B4 VV) rfl;refine IY (id:=id) (QO:=λov s1=>ov=.ref a) (Q:=λvs s2=>ar (P++av own) s2.heap [d] vs) rfl hp (show 1<30 by decide) (λe2 he=>by simp at he;subst he;exact tV hd)
  (iH VV h2 (pr VV hx) ⟨S,ag.refl,rfl⟩) (λov s1 pl Q S1 k1 r1 q=>?_) (λov s1 S1 k1 r1=>?_) λov us s1 s2 S1 k1 r1 S2 k2 r2=>?_
 ·subst r1;exact hg a s1 _ _ pl Q (k1.kb a _ (λq=>nomatch q) rfl h3) q
 ·exact fP (du OK LZ R n) (es:=[e]) (ds:=[d]) (aG hd a7) S1 (VV.keep k1.kb)
 ·subst r1;refine bw r2 λv r' e2_ r3 e4_=>?_;clear r2;subst e2_;subst e4_;have k12:=k1.trans k2;have V2:=VV.keep k12.kb;have h3':=k12.kb a _ (λq=>nomatch q) rfl h3;refine hc a vs0 j0 v s2 _ h3' h5.length r3 (h5.keep k12.kb) λh' ws j' hs he hl hr=>?_;refine aL (CA S2 V2 hlk h1 hs he hl hr) λS3 k3 V3=>?_;exact⟨rfl,own,S3,k12.nil.trans k3,de.refl,V3⟩
theorem JE (OK:bg X O k) (LZ:bR X) (R:aK A (k+2)) {x:Str} {xp apos pos spos:Pos} {e:ac} {xs:List PV} {d:PV} (hx:br sc x=true) (hp:(apos.endLine==pos.line)=true) (ho:fM σ x=some xs) (hd:pe O n sc σ e=some d) (hl:aZ (xs.length+1)=true) (S:ai X s) (VV:ap X sc env σ own P s.heap):al (aq X.prog X.w) A (dr (.Expr (.Call (.Attribute (.Name x xp) "append" apos) [e] [] pos) spos) env) (λf s'=>c6 X sc env own P s (.nx (put σ x (.own (xs++[d])))) f s') (λζ ζ=>False) s:=by
 refine DL (id:= "list.append") OK LZ R hx hp ho hd S VV (λa s1 its j pl Q e q=>?_) λa vs j v s1 Q e hvl rv rl hQ=>?_
 ·exact vy (T:= "list") ⟨_,e,rfl⟩ yL X2 X3 (λb q=>by cases q;exact au _ e rfl) q
 ·have hle:=dM hl;refine VG (items:=vs.toArray) ⟨j,e⟩ (λh' h_ hs=>ay h_ λj' e'=>?_) (by simp;exact JH hvl hle);refine hQ h' (vs++[v]) j' hs (by refine aa e' ?_;simp) (by simp;exact R4 hvl hle) (rl.append (ar.one rv))
theorem RJ (OK:bg X O k) (LZ:bR X) (R:aK A (k+2)) {x:Str} {xp apos pos spos:Pos} {e:ac} {xs ys:List PV} (hx:br sc x=true) (hp:(apos.endLine==pos.line)=true) (ho:fM σ x=some xs) (hd:pe O n sc σ e=some (.list ys)) (hl:aZ (xs.length+ys.length)=true) (S:ai X s) (VV:ap X sc env σ own P s.heap):al (aq X.prog X.w) A (dr (.Expr (.Call (.Attribute (.Name x xp) "extend" apos) [e] [] pos) spos) env) (λf s'=>c6 X sc env own P s (.nx (put σ x (.own (xs++ys)))) f s') (λζ ζ=>False) s:=by
 refine DL (id:= "list.extend") OK LZ R hx hp ho hd S VV (λa s1 its j pl Q e q=>?_) λa vs j v s1 Q e hvl rv rl hQ=>?_
 ·exact vy (T:= "list") ⟨_,e,rfl⟩ yL Wi X4 (λb q=>by cases q;exact au _ e rfl) q
 ·have hle:=dM hl;obtain ⟨b,us,rfl,hb,⟨jb,eb⟩,hbl,rb⟩:=rv;have hul:=rb.length;have e0:sizeLine=16777216:=rfl;have hlong:¬(!vs.toArray.isEmpty&&ES (vs.toArray.size+us.toArray.size))=true:=by
   intro q;simp only[bn] at q;have:=q.2;unfold ES at this;simp only[yI,decide_eq_true_eq] at this
   first|exact My hvl hle hul e0 this|(revert this;simp;omega)
  refine kI Wi ⟨_,e,rfl⟩ F.entry_list_extend (F.args_list_extend_2 _ _) (X5 a vs.toArray j b us.toArray jb hlong (by simp;exact MU hvl hle e0) (by simp;exact QI hvl hle hul e0)) ⟨e,eb,?_⟩;refine hQ _ (vs++us) _ (vB ..) ((pW _ e (by simp[j8];rfl)).trans (by simp[j8];rfl)) (by simp;exact M2 hvl hle hul e0) (rl.append rb)
theorem Pr (OK:bg X O k) (LZ:bR X) (R:aK A (k+2)) {x:Str} {xp ip pos:Pos} {i:ac} {xs:List PV} {kk:Int} {j:Nat} (hx:br sc x=true) (ho:fM σ x=some xs) (hd:pe O n sc σ i=some (.int kk)) (hj:iW kk xs.length=some j) (h1: -1000<=kk) (h2:kk<1000) (S:ai X s) (VV:ap X sc env σ own P s.heap):al (aq X.prog X.w) A (dr (.Delete [.Subscript (.Name x xp) i ip] pos) env) (λf s'=>c6 X sc env own P s (.nx (put σ x (.own (xs.eraseIdx j)))) f s') (λζ ζ=>False) s:=by
 have hlk:=CY ho;refine fb (VV.owns x xs hlk) λa vs0 j0 a1 a2 a3 a4 a5=>?_
 have e1:dr (.Delete [.Subscript (.Name x xp) i ip] pos) env=(do
  dR pos
  (do
   (do
    let ov <- aJ (.Name x xp) env
    let iv <- holding [ov] (aJ i env)
    dR ip
    holding [ov,iv] (delItem ov iv)
    EP [ov,iv] [])
   pure ())
  pure Flow.next):=rfl
 refine aa e1 ?_;refine aj (dS (aj (aj (aj (iH VV a2 (pr VV hx) ?_)))));refine aj (dA (ax (du OK LZ R n sc σ env own P i _ s hd S VV) (λiv s1 h_0=>aL h_0 λS1 k1 r1=>?_) λζ ζ f=>f));refine ay r1 λt e1_=>?_;clear r1;subst e1_;have a3':=k1.kb a _ (λq=>nomatch q) rfl a3;have hjl:vs0.toArray.size=xs.length:=by simp[a5.length]
 refine aj (dS (aj (dA ?_)));refine wpAny_delItem_plain (items:=vs0.toArray) (k:=j) ⟨j0,a3'⟩ (by unfold UV;simp;exact Oh h1 h2) (by refine aa hjl ?_;exact hj) (λh' h_ hs=>ay h_ λj' e'=>?_) (by simpa using a4);have hr:ar (P++av own) s1.heap (xs.eraseIdx j) (vs0.eraseIdx j):=by rw[Wj,Wj];exact ((a5.keep k1.kb).take j).append ((a5.keep k1.kb).drop (j+1))
 have he2:vs0.toArray.eraseIdxIfInBounds j=(vs0.eraseIdx j).toArray:=by simp
 replace e':=he2▸e'
 obtain ⟨S2,k2,V2⟩:=CA S1 (VV.keep k1.kb) hlk a1 hs e' (by
  have:=List.length_eraseIdx_le vs0 j
  exact aB (by assumption) (by assumption)) hr
 refine ax (D3 (X:=X) (A:=A) (P:=λζ s'=>s'={s1 with heap:=h'}) _ _ S2 rfl) (λζ s3 h_1=>aL h_1 λζ ζ e3=>?_) λζ ζ f=>f;subst e3;exact aI (aI ⟨rfl,own,S2,k1.nil.trans k2,de.refl,V2⟩)
end
structure Lq where
 X:Cx
 A:aM
 sc:Scope
 env:Env
 own:List (Str×Addr)
 P:List Addr
 tgt:ac
 it:Value
 xs:List PV
 cs:List PV
 cvs:List Value
 St:Nat->ae->Prop
 fp:List Addr
 wr:List Addr
 s0:ae
structure m5 (L:Lq):Prop where
 it:iy L.X L.A L.tgt L.it L.xs L.cs L.cvs L.St L.fp L.wr L.s0.gens.size
 fp:∀b∈L.fp,b∉L.P/\b≠L.env.locals/\b∉rU L.sc L.env
 wl:∀b∈L.wr,L.s0.heap.get? b=none
 wc:∀b∈L.wr,b≠L.env.locals/\∀x,(x,b)∉L.env.cells
 hh:L.A.handled=none
structure fO (L:Lq) (σ:Sg) (own:List (Str×Addr)) (j:Nat) (s:ae):Prop where
 S:ai L.X s
 V:ap L.X L.sc L.env σ own (L.wr++L.P) s.heap
 st:L.St j s
 cs:ar ((L.wr++L.P)++av own) s.heap L.cs L.cvs
 fo:∀b∈L.fp,b∉av own
 oin:de L.own own L.s0
 stp:ag (aV L.sc L.env L.own) L.s0 s
section
variable {L:Lq} {σ σ':Sg} {own own':List (Str×Addr)} {j:Nat} {s s':ae}
theorem fO.go (K:m5 L) (F:fO L σ own j s) (S':ai L.X s') (k:ag (aV L.sc L.env own) s s') (o:de own own' s) (V':ap L.X L.sc L.env σ' own' (L.wr++L.P) s'.heap):fO L σ' own' j s' where
 S:=S'
 V:=V'
 st:=K.it.frame j s s' F.st k.gsz (λb hb o e=>by
  refine ah (K.it.live j s F.st b hb) λo' e' ht=>?_;replace e':=e▸e';have h_:=ak e';clear e';subst h_;refine k.kb b o (λq=>?_) ht e;unfold aV at q;rcases ao.mp q with q|q
  ·exact (K.fp b hb).2.1 q
  ·rcases be.mp q with q|q
   ·exact (K.fp b hb).2.2 q
   ·exact F.fo b hb q) k.gk
 cs:=F.cs.stp F.V k o
 fo:=λb hb q=>(o b q).elim (F.fo b hb) λz=>by refine ah (K.it.live j s F.st b hb) λo' e' ζ=>?_;replace e':=z▸e';exact ab e'
 oin:=F.oin.trans F.stp o
 stp:=F.stp.trans_own F.oin k
theorem fO.nx (K:m5 L) (F:fO L σ own j s) (h:fz L.X L.sc L.env own (L.wr++L.P) s σ' s'):∃own',fO L σ' own' j s':=by refine dI h λown' S' k' o' V'=>?_;clear h;exact⟨own',F.go K S' k' o' V'⟩
theorem fO.item (K:m5 L) (F:fO L σ own j s) {d:PV} {Q:Option Value->ae->Prop} (hd:L.xs[j]?=some d) (h:∀v s1,al (aq L.X.prog L.X.w) L.A (lH L.tgt L.it v) (λζ s'=>fO L σ own (j+1) s'/\am ((L.wr++L.P)++av own) s'.heap d v) (λζ ζ=>False) s1->Q (some v) s1):al (aq L.X.prog L.X.w) L.A (em L.it) Q (λζ ζ=>False) s:=by
 have hwin:b8 ((L.wr++L.P)++av own) s.heap:=F.V.win;refine ax (K.it.item j d ((L.wr++L.P)++av own) s hd F.st F.S hwin F.cs (λb hb=>bC _ (bC _ hb))) (λr s1 h_=>ah h_ λv e q=>?_) λζ ζ f=>f;subst e;refine h v s1 (ax q (λζ s' h_=>eZ h_ λr st S' k=>⟨?_,r⟩) λζ ζ f=>f);have hv:∀b∈L.wr,b∈(L.wr++L.P)++av own\/s.heap.get? b=none\/∀o,s.heap.get? b=some o->∀its n,o.data≠.seq its n:=λb hb=>.inl (bC _ (bC _ hb))
 refine⟨S',F.V.moveO k.kb (λb hb=>.inl (bC _ hb)) (λb hb=>F.fo b (K.it.sub b hb)) (λq=>(K.wc _ q).1 rfl) (λx c hm q=>(K.wc c q).2 x hm) (λb hb=>?_) (λb hb=>.inl hb),st,ar.kb k.kb hv (λb hb=>.inl hb) _ _ F.cs,
  F.fo,F.oin,bx.after F.stp k K.wl (aT _)⟩
 rcases be.mp hb with q|q
 ·exact K.it.live _ _ st b (K.it.sub b q)
 ·refine ah (F.V.pin b (bG _ q)) λo e ht=>?_;exact au o (k.kb b o (λz=>(K.fp b (K.it.sub b z)).1 q) ht e) ht
theorem fO.nxp (F:fO L σ own j s):fz L.X L.sc L.env L.own L.P L.s0 σ s:=
 ⟨own,F.S,F.stp,F.oin,F.V.sub λb hb=>bG _ hb⟩
theorem fO.done (K:m5 L) (F:fO L σ own L.xs.length s) {Q:Option Value->ae->Prop} (h:∀s',fz L.X L.sc L.env L.own L.P L.s0 σ s'->Q none s'):al (aq L.X.prog L.X.w) L.A (em L.it) Q (λζ ζ=>False) s:=by refine ax (K.it.done s F.st F.S) (λr s' h_=>aL h_ λe S' k=>?_) λζ ζ f=>f;subst e;refine h s' ⟨own,S',bx.after F.stp k K.wl (aT _),F.oin,F.V.moveO k.kb (λb hb=>.inl (bC _ hb)) (λb hb=>F.fo b (K.it.sub b hb)) (λq=>(K.wc _ q).1 rfl) (λx c hm q=>(K.wc c q).2 x hm) (λb hb=>?_) (λb hb=>.inl (bG _ hb))⟩;refine ah (F.V.pin b (bG _ hb)) λo e ht=>?_;exact au o (k.kb b o (λz=>(K.fp b (K.it.sub b z)).1 hb) ht e) ht
noncomputable def ky (X:Cx) (A:aM) (sc:Scope) (env:Env) (body:List aN) (f:Sg->Option Out):Prop:=
 ∀σ own P s o,f σ=some o->ai X s->ap X sc env σ own P s.heap->al (aq X.prog X.w) A (db body env) (λfl s'=>c6 X sc env own P s o fl s') (λζ ζ=>False) s
noncomputable def lX (sc:Scope) (t:ac) (f g:Sg->Option Out) (xs:List PV) (σ:Sg) (o:Out):Prop:=
 (match cj (λσ d=>match bD false sc 4 σ t d with|some σ1=>f σ1|none=>none) xs σ with
   |some (.nx σ')=>g σ'
   |some (.bk σ')=>some (.nx σ')
   |r=>r)=some o
noncomputable def v6 (sc:Scope) (t:ac) (f g:Sg->Option Out) (ds:List PV) (o:Out):Out->Prop
 |.nx σ5=>lX sc t f g ds σ5 o
 |.bk σ5=>o=.nx σ5
 |.rt d=>o=.rt d
theorem lX.cons {sc:Scope} {t:ac} {f g:Sg->Option Out} {d:PV} {ds:List PV} {σ:Sg} {o:Out} (h:lX sc t f g (d::ds) σ o):∃σ2 o1,bD false sc 4 σ t d=some σ2/\f σ2=some o1/\v6 sc t f g ds o o1:=by
 unfold lX at h;rw[u7] at h;cases ha:bD false sc 4 σ t d with
 |none=>replace h:=ha▸h;exact ab h
 |some σ2=>
  replace h:=ha▸h;simp only at h;cases hf:f σ2 with
  |none=>replace h:=hf▸h;exact ab h
  |some o1=>
   replace h:=hf▸h;refine gw σ2 o1 rfl hf ?_;cases o1 with
   |nx σ5=>exact h
   |bk σ5=>exact (ak h).symm
   |rt d=>exact (ak h).symm
noncomputable def oZ (X:Cx) (sc:Scope) (env:Env) (own:List (Str×Addr)) (P:List Addr) (s0:ae) (o:Out) (r:Except Value eW) (s':ae):Prop:=∃fl,r=.ok fl/\c6 X sc env own P s0 o fl s'
noncomputable def C4 (L:Lq) (f g:Sg->Option Out) (o:Out) (m:Nat) (s':ae):Prop:=∃i σ1 own1,i+m=L.xs.length/\fO L σ1 own1 i s'/\lX L.sc L.tgt f g (L.xs.drop i) σ1 o
section
variable {body orelse:List aN} {f g:Sg->Option Out} {o:Out} {σ1 σ2:Sg} {own1 own4:List (Str×Addr)} {i:Nat} {m:Nat} {s1 s4:ae}
theorem Hu {o1:Out} {fl:eW} {s5:ae} {G:Prop} (K:m5 L) (hi:i+(m+1)=L.xs.length) (F4:fO L σ2 own4 (i+1) s4) (ht:v6 L.sc L.tgt f g (L.xs.drop (i+1)) o o1) (h5:c6 L.X L.sc L.env own4 (L.wr++L.P) s4 o1 fl s5) (nx:fl=.next->C4 L f g o m s5->G) (bk:fl=.brk->oZ L.X L.sc L.env L.own L.P L.s0 o (.ok .next) s5->G) (rt:∀w,fl=.ret w->oZ L.X L.sc L.env L.own L.P L.s0 o (.ok (.ret w)) s5->G):G:=by
 cases o1 with
 |nx σ5=>
  rcases h5 with ⟨rfl,h5⟩
  rcases F4.nx K h5 with ⟨own5,F5⟩
  exact nx rfl ⟨i+1,σ5,own5,nP hi,F5,ht⟩
 |bk σ5=>
  rcases h5 with ⟨rfl,h5⟩
  rcases F4.nx K h5 with ⟨own5,F5⟩
  have ht:o=.nx σ5:=ht;subst ht;exact bk rfl ⟨.next,rfl,rfl,F5.nxp⟩
 |rt d=>refine dI h5 λw e1_ S5 k5 r5=>?_;clear h5;subst e1_;have ht:o=.rt d:=ht;subst ht;exact rt w rfl ⟨.ret w,rfl,w,rfl,S5,F4.stp.trans_own F4.oin k5,r5.sub λb hb=>bG _ hb⟩
end
theorem LH {body orelse:List aN} {f g:Sg->Option Out} {o:Out} (K:m5 L) (F:fO L σ L.own 0 s) (hb:ky L.X L.A L.sc L.env body f) (hg:ky L.X L.A L.sc L.env orelse g) (h:lX L.sc L.tgt f g L.xs σ o):j7 (aq L.X.prog L.X.w) L.A (.forLoop L.tgt L.it body orelse L.env) (oZ L.X L.sc L.env L.own L.P L.s0 o) s:=by
 refine Wk (C4 L f g o) (λm s1 hI=>?_) L.xs.length ⟨0,σ,L.own,jr _,F,h⟩;refine jQ hI λi σ1 own1 hi F1 hr=>?_;clear hI
 induction m using dq with
 |zero=>have hi:i=L.xs.length:=hi;subst hi;replace hr:=y5▸hr;exact ax (F1.done K λs2 h_=>dI h_ λown2 S2 k2 o2 V2=>ax (hg σ1 own2 L.P s2 o hr S2 V2) (λfl s3 h3=>⟨fl,rfl,h3.after k2 o2⟩) λζ ζ f=>f.elim) (λζ ζ q=>q) λζ ζ f=>f.elim
 |succ m=>
  have hlt:i<L.xs.length:=qR hi;replace hr:=(pZ hlt)▸hr;refine bw hr.cons λσ2 o1 ha hf ht=>?_
  exact ax (F1.item K (gQ hlt) λv s2 hlet=>ax hlet (λζ s3 h_=>bf h_ λF3 r3=>
   ax (nD K.hh 4 σ1 L.tgt _ σ2 s3 own1 v ha F3.S F3.V r3) (λζ s4 h_=>dI h_ λown4 S4 k4 o4 V4=>
    ax (hb σ2 own4 (L.wr++L.P) s4 o1 hf S4 V4) (λfl s5 h5=>Hu K hi (F3.go K S4 k4 (nM o4) V4) ht h5 (λe q=>by subst e;exact au m (eH _) q) (λe q=>by subst e;exact q) λw e q=>by subst e;exact q) λζ ζ f=>f.elim)
    λζ ζ f=>f.elim) λζ ζ f=>f.elim) (λζ ζ q=>q) λζ ζ f=>f.elim
end
structure Lg where
 X:Cx
 A:aM
 sc:Scope
 env:Env
 own:List (Str×Addr)
 P:List Addr
 tgt:ac
 it:Value
 xs:List PV
 St:Nat->List Addr->List Addr->ae->Prop
 gm:Nat
 s0:ae
structure pf (L:Lg):Prop where
 it:mu L.X L.A L.it L.xs L.St L.gm
 gm:L.s0.gens.size<=L.gm
 hh:L.A.handled=none
structure h8 (L:Lg) (σ:Sg) (own:List (Str×Addr)) (j:Nat) (s:ae) (fp wr:List Addr):Prop where
 S:ai L.X s
 V:ap L.X L.sc L.env σ own L.P s.heap
 st:L.St j fp wr s
 fo:∀b∈fp,b∉L.P/\b≠L.env.locals/\(∀x,(x,b)∉L.env.cells)/\b∉av own
 wl:∀b∈wr,L.s0.heap.get? b=none
 oin:de L.own own L.s0
 stp:ag (aV L.sc L.env L.own) L.s0 s
section
variable {L:Lg} {σ σ':Sg} {own own':List (Str×Addr)} {j:Nat} {s s':ae} {fp wr:List Addr}
theorem mu.lower {X:Cx} {A:aM} {it:Value} {xs:List PV} {St gm gm'} (I:mu X A it xs St gm') (h:gm<=gm'):mu X A it xs St gm:=
 {I with
  item:=λi d fp wr W s h1 h2 h3 h4 h5=>ax (I.item i d fp wr W s h1 h2 h3 h4 h5) (λr s' h_=>i8 h_ λv fp' wr' h_=>oD h_ λa b c d e f=>⟨v,fp',wr',a,b,c,d,e.mono (λζ z=>z) h,f⟩) λζ ζ f=>f
  done:=λfp wr s h1 h2=>ax (I.done fp wr s h1 h2) (λr s' h_1=>aL h_1 λa b c=>⟨a,b,c.mono (λζ z=>z) h⟩) λζ ζ f=>f}
theorem h8.go (K:pf L) (F:h8 L σ own j s fp wr) (S':ai L.X s') (k:ag (aV L.sc L.env own) s s') (o:de own own' s) (V':ap L.X L.sc L.env σ' own' L.P s'.heap):h8 L σ' own' j s' fp wr where
 S:=S'
 V:=V'
 st:=K.it.frame j fp wr s s' F.st k.gsz (λb hb o e=>by
  refine ah (K.it.live j fp wr s F.st b hb) λo' e' ht=>?_;replace e':=e▸e';have h_:=ak e';clear e';subst h_;refine k.kb b o (λq=>?_) ht e;unfold aV at q;refine eZ (F.fo b hb) λζ f2 f3 f4=>?_;rcases ao.mp q with q|q
  ·exact f2 q
  ·rcases be.mp q with q|q
   ·refine ah (ea q) λx hm ζ=>?_;exact f3 x hm
   ·exact f4 q) k.gk
 fo:=λb hb=>by
  refine eZ (F.fo b hb) λf1 f2 f3 f4=>?_
  exact⟨f1,f2,f3,λq=>(o b q).elim f4 λz=>by
   refine ah (K.it.live j fp wr s F.st b hb) λo' e' ζ=>?_
   replace e':=z▸e';exact ab e'⟩
 wl:=F.wl
 oin:=F.oin.trans F.stp o
 stp:=F.stp.trans_own F.oin k
theorem h8.item (K:pf L) (F:h8 L σ own j s fp wr) {d:PV} {Q:Option Value->ae->Prop} (hd:L.xs[j]?=some d) (h:∀v s1 fp' wr',h8 L σ own (j+1) s1 fp' wr'->am (L.P++av own) s1.heap d v->Q (some v) s1):al (aq L.X.prog L.X.w) L.A (em L.it) Q (λζ ζ=>False) s:=by
 refine ax (K.it.item j d fp wr (L.P++av own) s hd F.st F.S F.V.win (λb hb q=>(be.mp q).elim (F.fo b hb).1 (F.fo b hb).2.2.2)) (λr s1 h_=>i8 h_ λv fp' wr' h_=>yi h_ λe r st S1 k hfp hwr=>?_) λζ ζ f=>f;subst e;have hns:=K.it.nseq j fp wr s F.st;have hsub:=K.it.sub j fp wr s F.st;have V1:ap L.X L.sc L.env σ own L.P s1.heap:=F.V.moveO k.kb (λb hb=>.inr (.inr (hns b hb))) (λb hb=>(F.fo b (hsub b hb)).2.2.2) (λq=>(F.fo _ (hsub _ q)).2.1 rfl) (λx c hm q=>(F.fo c (hsub c q)).2.2.1 x hm)
  (λb hb=>by
   refine ah (F.V.pin b hb) λo e ht=>?_
   exact au o (k.kb b o (λz=>(F.fo b (hsub b z)).1 hb) ht e) ht) λb hb=>.inl hb
 refine h v s1 fp' wr' ⟨S1,V1,st,λb hb=>?_,λb hb=>(hwr b hb).elim (F.wl b) λz=>F.stp.none z,F.oin,bx.after F.stp k F.wl K.gm⟩ r;rcases hfp b hb with q|q
 ·exact F.fo b q
 ·refine iM (λz=>by (refine ah (F.V.pin b z) λo e ζ=>?_;replace e:=q▸e;exact ab e)) (λz=>?_) (λx hm=>?_) (λz=>?_)
  ·obtain ⟨m,o,_,_,e,_⟩:=F.V.ns;replace e:=(c5 z)▸e;replace e:=q▸e;exact ab e
  ·refine bN (F.V.cells x b hm) λv o e ζ=>?_;replace e:=q▸e;exact ab e
  ·obtain ⟨⟨x,a⟩,hm,rfl⟩:=dQ.mp z;obtain ⟨_,its,n,e⟩:=F.V.ownF x a hm;replace e:=q▸e;exact ab e
theorem h8.nxp (F:h8 L σ own j s fp wr):fz L.X L.sc L.env L.own L.P L.s0 σ s:=⟨own,F.S,F.stp,F.oin,F.V⟩
theorem h8.done (K:pf L) (F:h8 L σ own L.xs.length s fp wr) {Q:Option Value->ae->Prop} (h:∀s',fz L.X L.sc L.env L.own L.P L.s0 σ s'->Q none s'):al (aq L.X.prog L.X.w) L.A (em L.it) Q (λζ ζ=>False) s:=by refine ax (K.it.done fp wr s F.st F.S) (λr s' h_3=>aL h_3 λe S' k=>?_) λζ ζ f=>f;subst e;have hns:=K.it.nseq _ fp wr s F.st;have hsub:=K.it.sub _ fp wr s F.st;refine h s' ⟨own,S',bx.after F.stp k F.wl K.gm,F.oin,F.V.moveO k.kb (λb hb=>.inr (.inr (hns b hb))) (λb hb=>(F.fo b (hsub b hb)).2.2.2) (λq=>(F.fo _ (hsub _ q)).2.1 rfl) (λx c hm q=>(F.fo c (hsub c q)).2.2.1 x hm) (λb hb=>?_) (λb hb=>.inl hb)⟩;refine ah (F.V.pin b hb) λo e ht=>?_;exact au o (k.kb b o (λz=>(F.fo b (hsub b z)).1 hb) ht e) ht
noncomputable def AB (L:Lg) (f g:Sg->Option Out) (o:Out) (m:Nat) (s':ae):Prop:=∃i σ1 own1 fp1 wr1,i+m=L.xs.length/\h8 L σ1 own1 i s' fp1 wr1/\lX L.sc L.tgt f g (L.xs.drop i) σ1 o
theorem Qa {f g:Sg->Option Out} {σ2:Sg} {own4:List (Str×Addr)} {i m:Nat} {s4 s5:ae} {fp3 wr3:List Addr} {o o1:Out} {fl:eW} {G:Prop} (K:pf L) (hi:i+(m+1)=L.xs.length) (F4:h8 L σ2 own4 (i+1) s4 fp3 wr3) (ht:v6 L.sc L.tgt f g (L.xs.drop (i+1)) o o1) (h5:c6 L.X L.sc L.env own4 L.P s4 o1 fl s5) (nx:fl=.next->AB L f g o m s5->G) (bk:fl=.brk->oZ L.X L.sc L.env L.own L.P L.s0 o (.ok .next) s5->G) (rt:∀w,fl=.ret w->oZ L.X L.sc L.env L.own L.P L.s0 o (.ok (.ret w)) s5->G):G:=by
 cases o1 with
 |nx σ5=>obtain ⟨rfl,own5,S5,k5,o5,V5⟩:=h5;exact nx rfl ⟨i+1,σ5,own5,fp3,wr3,nP hi,F4.go K S5 k5 o5 V5,ht⟩
 |bk σ5=>obtain ⟨rfl,own5,S5,k5,o5,V5⟩:=h5;have ht:o=.nx σ5:=ht;subst ht;exact bk rfl ⟨.next,rfl,rfl,(F4.go K S5 k5 o5 V5).nxp⟩
 |rt d=>refine dI h5 λw e1_ S5 k5 r5=>?_;clear h5;subst e1_;have ht:o=.rt d:=ht;subst ht;exact rt w rfl ⟨.ret w,rfl,w,rfl,S5,F4.stp.trans_own F4.oin k5,r5⟩
theorem Gw {body orelse:List aN} {f g:Sg->Option Out} {o:Out} (K:pf L) (F:h8 L σ L.own 0 s fp wr) (hb:ky L.X L.A L.sc L.env body f) (hg:ky L.X L.A L.sc L.env orelse g) (h:lX L.sc L.tgt f g L.xs σ o):j7 (aq L.X.prog L.X.w) L.A (.forLoop L.tgt L.it body orelse L.env) (oZ L.X L.sc L.env L.own L.P L.s0 o) s:=by
 refine Wk (AB L f g o) (λm s1 hI=>?_) L.xs.length ⟨0,σ,L.own,fp,wr,jr _,F,h⟩;obtain ⟨i,σ1,own1,fp1,wr1,hi,F1,hr⟩:=hI
 induction m using dq with
 |zero=>have hi:i=L.xs.length:=hi;subst hi;replace hr:=y5▸hr;exact ax (F1.done K λs2 h_4=>dI h_4 λown2 S2 k2 o2 V2=>ax (hg σ1 own2 L.P s2 o hr S2 V2) (λfl s3 h3=>⟨fl,rfl,h3.after k2 o2⟩) λζ ζ f=>f.elim) (λζ ζ q=>q) λζ ζ f=>f.elim
 |succ m=>
  have hlt:i<L.xs.length:=qR hi;replace hr:=(pZ hlt)▸hr;refine bw hr.cons λσ2 o1 ha hf ht=>?_
  exact ax (F1.item K (gQ hlt) λv s3 fp3 wr3 F3 r3=>ax (K.it.plain _ _ _ _ _ _ _ F3.st
   (ax (nD K.hh 4 σ1 L.tgt _ σ2 s3 own1 v ha F3.S F3.V r3) (λζ s4 h_=>dI h_ λown4 S4 k4 o4 V4=>
    ax (hb σ2 own4 L.P s4 o1 hf S4 V4) (λfl s5 h5=>Qa K hi (F3.go K S4 k4 (nM o4) V4) ht h5 (λe q=>by subst e;exact au m (eH _) q) (λe q=>by subst e;exact q) λw e q=>by subst e;exact q) λζ ζ f=>f.elim)
    λζ ζ f=>f.elim)) (λζ ζ z=>z) λζ ζ f=>f.elim) (λζ ζ q=>q) λζ ζ f=>f.elim
end
section
variable {X:Cx} {A:aM} {s s0 s':ae} {env:Env} {sc:Scope} {σ σ':Sg} {own own':List (Str×Addr)} {P P' V:List Addr} {W:List Addr} {O:Orc} {k n:Nat} {E:Value->ae->Prop}
noncomputable def v9 (X:Cx) (A:aM) (O:Orc) (n:Nat):Prop:=∀sc env σ own P st o s,px O n sc σ st=some o->ai X s->ap X sc env σ own P s.heap->
 al (aq X.prog X.w) A (dr st env) (λfl s'=>c6 X sc env own P s o fl s') (λζ ζ=>False) s
noncomputable def rK (X:Cx) (A:aM) (O:Orc) (n:Nat):Prop:=∀sc env σ own P sts o s,aO O n sc σ sts=some o->ai X s->ap X sc env σ own P s.heap->
 al (aq X.prog X.w) A (db sts env) (λfl s'=>c6 X sc env own P s o fl s') (λζ ζ=>False) s
theorem LJ (OK:bg X O k) (LZ:bR X) (R:aK A (k+2)) {t it:ac} {b orelse:List aN} {pos:Pos} {xs:List PV} {o:Out} {f g:Sg->Option Out} (hi:cS O n sc σ (dm t) it=some xs) (hb:ky X A sc env b f) (hg:ky X A sc env orelse g) (h:(match cj (λσ d=>match bD false sc 4 σ t d with|some σ1=>f σ1|none=>none) xs σ with
   |some (.nx σ')=>g σ'
   |some (.bk σ')=>some (.nx σ')
   |r=>r)=some o) (S:ai X s) (VV:ap X sc env σ own P s.heap):al (aq X.prog X.w) A (dr (.For t it b orelse pos) env) (λfl s'=>c6 X sc env own P s o fl s') (λζ ζ=>False) s:=by
 refine bf (wx OK LZ R n sc σ env own P t it xs s hi S VV) λhs hev=>?_;refine wpAny_For (ax hev (λx s1 h_0=>aL h_0 λS1 k1 h1=>ax h1 (λv s2 h_1=>aL h_1 λS2 k2 h2=>?_) λζ ζ f=>f.elim) λζ ζ f=>f.elim) hs;obtain ⟨cs,cvs,St,fp,wr,It,hst,hcs,hwr,hfp⟩:=h2;have k02:=k1.trans k2
 let L:Lq:={X:=X,A:=A,sc:=sc,env:=env,own:=own,P:=P,tgt:=t,it:=v,xs:=xs,cs:=cs,cvs:=cvs,St:=St,fp:=fp,wr:=wr,s0:=s}
 have K:m5 L:=
  {it:=It,wl:=hwr,hh:=R.hh
   fp:=λb hb=>⟨λq=>(hfp b hb).1 (bC _ q),λq=>(hfp b hb).2 (ao.mpr (.inl q)),λq=>(hfp b hb).2 (bP _ (bC _ q))⟩
   wc:=λb hb=>⟨λq=>(by
    have q:b=env.locals:=q;obtain ⟨m,o,_,_,e,_⟩:=VV.ns
    replace e:=(c5 q)▸e;replace e:=(hwr b hb)▸e;exact ab e),λx hm=>(by
    have hm:(x,b)∈env.cells:=hm;refine bN (VV.cells x b hm) λv o e ζ=>?_
    replace e:=(hwr b hb)▸e;exact ab e)⟩}
 have F:fO L σ own 0 s2:=
  {S:=S2
   V:=VV.pins k02.kb (λb hb=>(be.mp hb).elim (λq=>It.live 0 s2 hst b (It.sub b q)) λq=>(VV.keep k02.kb).pin b q) λb hb=>(be.mp hb).elim (λq=>.inr (hwr b q)) .inl
   st:=hst
   cs:=hcs.sub λb hb=>by
    rcases be.mp hb with q|q
    ·rcases be.mp q with q|q
     ·exact bC _ q
     ·exact bG _ (bC _ q)
    ·exact bG _ (bG _ q)
   fo:=λb hb q=>(hfp b hb).1 (bG _ q)
   oin:=de.refl
   stp:=k02.nil}
 refine y6 (LH K F hb hg h) λr s3 h_2=>ah h_2 λfl e h3=>?_;subst e;exact h3
theorem Gv (OK:bg X O k) (LZ:bR X) (R:aK A (k+2)) {t it:ac} {b orelse:List aN} {pos:Pos} {xs:List PV} {o:Out} {f g:Sg->Option Out} (hi:kj O n sc σ it=some xs) (hb:ky X A sc env b f) (hg:ky X A sc env orelse g) (h:(match cj (λσ d=>match bD false sc 4 σ t d with|some σ1=>f σ1|none=>none) xs σ with
   |some (.nx σ')=>g σ'
   |some (.bk σ')=>some (.nx σ')
   |r=>r)=some o) (S:ai X s) (VV:ap X sc env σ own P s.heap):al (aq X.prog X.w) A (dr (.For t it b orelse pos) env) (λfl s'=>c6 X sc env own P s o fl s') (λζ ζ=>False) s:=by
 obtain ⟨f0,fp0,a,p0,rfl,hgl,d,hd,hi⟩:=SX hi
 ···obtain ⟨_,hnm,fa,hmg,⟨o',fd,ho,hcl,hdd⟩,hc⟩:=OK.gen f0 _ xs hi;have hm:aX (pe O n sc σ) [a]=some [d]:=aG hd a7;have hev:Ev X A s (aJ (.Call (.Name f0 fp0) [a] [] p0) env) (λx s1=>Ev X A s1 (fY x) (λit s2=>∃St fp wr,mu X A it xs St s.gens.size/\St 0 fp wr s2/\∀b∈fp,s.heap.get? b=none)):=by refine MZ S VV hgl hnm hmg ho hcl hdd (jf hm) (λs' S' k'=>fP (du OK LZ R n) hm S' (VV.keep k'.kb)) λvs s' S' k' r=>?_;refine ax (hc A s' (P++av own) vs (R.mono (gy _ _)) S' (VV.keep k'.kb).win r) (λx s1 h_3=>aL h_3 λS1 k1 q1=>⟨S1,k1,?_⟩) λζ ζ f=>f;refine ax q1 (λit s2 h_=>aL h_ λS2 k2 h_=>i8 h_ λSt fp wr h_=>aL h_ λIt hst hfp=>⟨S2,k2,St,fp,wr,It.lower k'.gsz,hst,λb hb=>k'.none (hfp b hb)⟩) λζ ζ f=>f
    refine wpAny_For (ax hev (λx s1 h_=>aL h_ λS1 k1 h1=>ax h1 (λv s2 h_=>aL h_ λS2 k2 h_=>i8 h_ λSt fp wr h_=>aL h_ λIt hst hfp=>?_) λζ ζ f=>f.elim) λζ ζ f=>f.elim) (λζ=>rfl);have k02:=k1.trans k2
    let L:Lg:={X:=X,A:=A,sc:=sc,env:=env,own:=own,P:=P,tgt:=t,it:=v,xs:=xs,St:=St,gm:=s.gens.size,s0:=s}
    have K:pf L:={it:=It,gm:=aT _,hh:=R.hh}
    have F:h8 L σ own 0 s2 fp wr:=
     {S:=S2,V:=VV.keep k02.kb,st:=hst,wl:=λb hb=>hfp b (It.sub _ _ _ _ hst b hb),oin:=de.refl,stp:=k02.nil
      fo:=λb hb=>by
       have hn:=hfp b hb;have h1:=VV.new_out hn;refine iM (λq=>h1.1 (bC _ q)) (λq=>h1.2 (ao.mpr (.inl q))) (λx hm=>?_) (λq=>h1.1 (bG _ q));have hm:(x,b)∈env.cells:=hm;refine bN (VV.cells x b hm) λv o e ζ=>?_
       replace e:=hn▸e;exact ab e}
    refine y6 (Gw K F hb hg h) λr s3 h_7=>ah h_7 λfl e h3=>?_;subst e;exact h3
theorem Ni (hS:v9 X A O n) (ih:rK X A O n):rK X A O (n+1):=by
 intro sc env σ own P sts o s h S VV
 induction sts using aF with
 |nil=>have h:=ak h;subst h;exact sE ⟨rfl,own,S,ag.refl,de.refl,VV⟩
 |cons st r=>
  replace h:=oz▸h;refine gC ?_;have go:∀(Q:eW->ae->Prop),(∀s',al (aq X.prog X.w) A (db r env) (λfl s'=>c6 X sc env own P s o fl s') (λζ ζ=>False) s'->Q .next s')->(∀f s',f≠.next->c6 X sc env own P s o f s'->Q f s')->
    ∀σ0 own0 o1,px O n sc σ0 st=some o1->ap X sc env σ0 own0 P s.heap->de own own0 s->ag (aV sc env own) s s->(∀b∈aV sc env own0,b∈aV sc env own)->
    (match (some o1:Option Out) with|some (.nx σ')=>aO O n sc σ' r|o=>o)=some o->
    al (aq X.prog X.w) A (dr st env) Q (λζ ζ=>False) s:=by
   intro Q hq1 hq2 σ0 own0 o1 h1 V0 ho _ hsub hr;have lift:∀{o fl s'},c6 X sc env own0 P s o fl s'->c6 X sc env own P s o fl s':=λ{o fl s'} q=>q.after (s:=s) ag.refl ho;refine ax (hS sc env σ0 own0 P st o1 s h1 S V0) (λf s1 hf=>?_) λζ ζ f=>f;cases o1 with
   |nx σ1=>obtain ⟨rfl,own1,S1,k1,o1,V1⟩:=lift hf;exact hq1 _ (ax (ih sc env σ1 own1 P r o s1 hr S1 V1) (λfl s2 h2=>h2.after k1 o1) λζ ζ f=>f)
   |bk σ1=>have hr:=ak hr;subst hr;exact hq2 _ _ (λq=>by replace q:=hf.1▸q;nomatch q) (lift hf)
   |rt d=>have hr:=ak hr;subst hr;exact hq2 _ _ (ay hf λv e q=>by replace q:=e.1▸q;nomatch q) (lift hf)
  cases h1:px O n sc σ st with
  |some o1=>
   replace h:=h1▸h;refine go _ (λs' h=>h) (λf s' hf h=>?_) σ own o1 h1 VV de.refl ag.refl (λb hb=>hb) h
   induction f using qg<;>first|exact absurd rfl hf|exact h
  |none=>
   replace h:=h1▸h;simp only at h;cases h3:px O n sc (unown1 σ (mj st)) st with
   |some o1=>
    replace h:=h3▸h;refine ah (VV.unown1 (mj st)) λown1 V1 ho1=>?_;refine go _ (λs' h=>h) (λf s' hf h=>?_) (unown1 σ (mj st)) own1 o1 h3 V1 (λb hb=>.inl (ho1 b hb)) ag.refl (λb hb=>xZ ho1 hb) h
    induction f using qg<;>first|exact absurd rfl hf|exact h
   |none=>
    replace h:=h3▸h;simp only at h;cases h2:px O n sc (unown σ) st with
    |none=>replace h:=h2▸h;exact ab h
    |some o1=>
     replace h:=h2▸h;refine go _ (λs' h=>h) (λf s' hf h=>?_) (unown σ) [] o1 h2 VV.unown (λb hb=>absurd hb ba) ag.refl (λb hb=>xZ (λc hc=>absurd hc ba) hb) h
     induction f using qg<;>first|exact absurd rfl hf|exact h
theorem qL {t:ac} {b o:List aN} {pos:Pos}:dr (.If t b o pos) env=(do
  dR pos if <- isTrue t env (aJ t env) then db b env else db o env):=rfl
section
variable {o:Out} {pos:Pos} (OK:bg X O k) (LZ:bR X) (R:aK A (k+2)) (ih:rK X A O n) (S:ai X s) (VV:ap X sc env σ own P s.heap)
noncomputable def jW (X:Cx) (A:aM) (sc:Scope) (env:Env) (own:List (Str×Addr)) (P:List Addr) (st:aN) (o:Out) (s:ae):Prop:=
 al (aq X.prog X.w) A (dr st env) (λfl s'=>c6 X sc env own P s o fl s') (λζ ζ=>False) s
include OK LZ R S VV
theorem Gx {ts:List ac} {e:ac} (h:px O (n+1) sc σ (.Assign ts e pos)=some o):jW X A sc env own P (.Assign ts e pos) o s:=by
 induction ts using aF with
 |nil=>exact ab h
 |cons t r=>
  induction r using aF with
  |cons _ _=>induction t using bt<;>exact ab h
  |nil=>
   induction t using bt with
   |Name x xp=>
    have h:(if bb sc x=true then (match eU O n sc σ e with|some d=>some (Out.nx (put σ x d))|none=>none) else none)=some o:=h;refine ifs h λhx h=>?_
    set_option smartUnfolding false in refine om h λd hd h=>?_
    have h:=ak h;subst h;exact On OK LZ R hx hd S VV
   |Tuple ts tn tp=>
    cases hte:dm e with
    |true=>
     induction e using bt with
     |Tuple vs vn vp=>
      have h:(match aX fu ts with
        |some xs=>if (xs.all (bb sc)&&jN xs&&xs.length==vs.length&&(!(vs.all (mR 8))||vs.all (mS 8))&&ve vs.length 1000)=true
          then (match aX (eU O n sc σ) vs with|some ents=>some (Out.nx (bI σ (xs.zip ents)))|none=>none) else none
        |none=>(match pe O n sc σ (.Tuple vs vn vp) with
          |some d=>(match bD false sc 4 σ (.Tuple ts tn tp) d with|some σ'=>some (.nx σ')|none=>none)
          |none=>none))=some o:=h
      revert h;refine bY (aX fu ts) λw hx=>?_;intro h
      induction w using bO with
      |some xs=>
       refine ifs h λhc h=>?_;simp only[bn] at hc
       set_option smartUnfolding false in refine om h λents he h=>?_
       have h:=ak h;subst h;exact Ht OK LZ R hx hc.1.1.1.1 hc.1.1.1.2 (bc hc.1.1.2) hc.1.2 (vq hc.2) he S VV
      |none=>
       set_option smartUnfolding false in refine om h λd hd h=>?_
       set_option smartUnfolding false in refine om h λσ1 h1 h=>?_
       have h:=ak h;subst h;exact Ki OK LZ R hx hd h1 S VV
     |_=>first|exact aU hte|exact cL hte
    |false=>
     have h:(match pe O n sc σ e with
       |some d=>(match bD false sc 4 σ (.Tuple ts tn tp) d with|some σ'=>some (Out.nx σ')|none=>none)
       |none=>none)=some o:=by
      refine aA h ?_
      induction e using bt<;>first|rfl|exact aU hte|exact cL hte
     set_option smartUnfolding false in refine om h λd hd h=>?_
     set_option smartUnfolding false in refine om h λσ1 h1 h=>?_
     have h:=ak h;subst h;exact Ks OK LZ R hte hd h1 S VV
   |_=>exact ab h
theorem Nf {t e:ac} {op:kE} (h:px O (n+1) sc σ (.AugAssign t op e pos)=some o):jW X A sc env own P (.AugAssign t op e pos) o s:=by
 induction t using bt with
 |Name x np=>
  have h:(if (bb sc x&&br sc x)=true then (match gx σ x,pe O n sc σ e with
    |some a,some b=>(match lW op a b with|some d=>some (Out.nx (put σ x (.sh d)))|none=>none)
    |_,_=>none) else none)=some o:=h
  refine ifs h λhx h=>?_;simp only[bn] at hx
  set_option smartUnfolding false in refine km h λa b ha hb h=>?_
  set_option smartUnfolding false in refine om h λd hd h=>?_
  have h:=ak h;subst h;exact Ke OK LZ R hx.1 hx.2 ha hb hd S VV
 |_=>exact ab h
theorem Rj {x m:Str} {xp apos p:Pos} {e:ac} (h:(if (br sc x&&apos.endLine==p.line)=true then (match fM σ x,pe O n sc σ e with
    |some xs,some d=>if (m== "append")=true then (if aZ (xs.length+1)=true then some (Out.nx (put σ x (.own (xs++[d])))) else none)
      else if (m== "extend")=true then (match d with|.list ys=>if aZ (xs.length+ys.length)=true then some (Out.nx (put σ x (.own (xs++ys)))) else none|_=>none) else none
    |_,_=>none) else none)=some o):jW X A sc env own P (.Expr (.Call (.Attribute (.Name x xp) m apos) [e] [] p) pos) o s:=by
 refine ifs h λhx h=>jE hx λhx1 hx2=>?_
 set_option smartUnfolding false in refine km h λxs d ho hd h=>?_
 refine nv h (λhm h=>ifs h λhl h=>?_) λζ h=>ifs h λhm h=>?_
 ·have h:=ak h;have hm:=bc hm;subst h;subst hm;exact JE OK LZ R hx1 hx2 ho hd hl S VV
 ·induction d using PV.casesOn with
  |list ys=>refine ifs h λhl h=>?_;have h:=ak h;have hm:=bc hm;subst h;subst hm;exact RJ OK LZ R hx1 hx2 ho hd hl S VV
  |_=>exact ab h
theorem H7 {e:ac} (h:px O (n+1) sc σ (.Expr e pos)=some o):jW X A sc env own P (.Expr e pos) o s:=by
 induction e using bt with
 |Call f args kws p=>
  induction f using bt with
  |Attribute v m apos=>
   induction v using bt with
   |Name x xp=>
    induction args using aF with
    |nil=>exact ab h
    |cons e r=>
     induction r using aF with
     |cons _ _=>exact ab h
     |nil=>
      induction kws using aF with
      |cons _ _=>exact ab h
      |nil=>exact Rj OK LZ R S VV h
   |_=>exact ab h
  |_=>exact ab h
 |_=>exact ab h
theorem GF {x:Str} {xp ip:Pos} {i:ac} (h:(if br sc x=true then (match fM σ x,pe O n sc σ i with
    |some xs,some (.int k)=>(match iW k xs.length with|some j=>if (decide (-1000<=k)&&decide (k<1000))=true then some (Out.nx (put σ x (.own (xs.eraseIdx j)))) else none|none=>none)
    |_,_=>none) else none)=some o):jW X A sc env own P (.Delete [.Subscript (.Name x xp) i ip] pos) o s:=by
 refine ifs h λhx h=>?_
 set_option smartUnfolding false in refine Rq h λxs kk ho hd h=>?_
 set_option smartUnfolding false in refine om h λj hj h=>?_
 refine ifs h λhb h=>jE hb λhb1 hb2=>?_;have h:=ak h;subst h;exact Pr OK LZ R hx ho hd hj (of_decide_eq_true hb1) (of_decide_eq_true hb2) S VV
theorem KW {ts:List ac} (h:px O (n+1) sc σ (.Delete ts pos)=some o):jW X A sc env own P (.Delete ts pos) o s:=by
 induction ts using aF with
 |nil=>exact ab h
 |cons t r=>
  induction t using bt with
  |Subscript v i ip=>
   induction v using bt with
   |Name x xp=>
    induction r using aF with
    |cons _ _=>exact ab h
    |nil=>exact GF OK LZ R S VV h
   |_=>exact ab h
  |_=>exact ab h
include ih
theorem Uf {t:ac} {b e:List aN} (h:px O (n+1) sc σ (.If t b e pos)=some o):jW X A sc env own P (.If t b e pos) o s:=by
 have h:(match pT O n sc σ t with
    |some true=>aO O n sc σ b
    |some false=>aO O n sc σ e
    |none=>none)=some o:=h
 unfold jW;refine aa qL ?_;refine aj (dS (aj ?_));refine yn h (λht h=>?_) λht h=>?_
 ·refine ax (li OK LZ R n sc σ env own P t true s ht S VV) (λc s1 h_8=>aL h_8 λS1 k1 e1=>?_) λζ ζ f=>f;subst e1;exact ax (ih sc env σ own P b o s1 h S1 (VV.keep k1.kb)) (λζ ζ q=>q.keep k1) λζ ζ f=>f
 ·refine ax (li OK LZ R n sc σ env own P t false s ht S VV) (λc s1 h_9=>aL h_9 λS1 k1 e1=>?_) λζ ζ f=>f;subst e1;exact ax (ih sc env σ own P e o s1 h S1 (VV.keep k1.kb)) (λζ ζ q=>q.keep k1) λζ ζ f=>f
theorem Kj {t it:ac} {b e:List aN} (h:px O (n+1) sc σ (.For t it b e pos)=some o):jW X A sc env own P (.For t it b e pos) o s:=by
 have hb:ky X A sc env b λσ=>aO O n sc σ b:=λσ own P s o q S V=>ih sc env σ own P b o s q S V;have hg:ky X A sc env e λσ=>aO O n sc σ e:=λσ own P s o q S V=>ih sc env σ own P e o s q S V
 have h:(match (match cS O n sc σ (dm t) it with|some xs=>some (false,xs)|none=>(match kj O n sc σ it with|some xs=>some (true,xs)|none=>none)) with
    |some (_,xs)=>(match cj (λσ d=>match bD false sc 4 σ t d with|some σ1=>aO O n sc σ1 b|none=>none) xs σ with
      |some (.nx σ')=>aO O n sc σ' e
      |some (.bk σ')=>some (.nx σ')
      |r=>r)
    |none=>none)=some o:=h
 cases hx:cS O n sc σ (dm t) it with
 |some xs=>replace h:=hx▸h;exact LJ OK LZ R hx hb hg h S VV
 |none=>
  replace h:=hx▸h;cases hx':kj O n sc σ it with
  |some xs=>replace h:=hx'▸h;exact Gv OK LZ R hx' hb hg h S VV
  |none=>replace h:=hx'▸h;exact ab h
omit ih
theorem Qh {e:Option ac} (h:px O (n+1) sc σ (.Return e pos)=some o):jW X A sc env own P (.Return e pos) o s:=by
 induction e using bO with
 |none=>have h:=ak h;subst h;refine (?_:al _ A (dR pos>>=λζ=>(pure (Fw .none):bp eW)) _ _ s);exact aj (dS (aI ⟨_,rfl,S,ag.refl,rfl⟩))
 |some e=>
  have h:(match pe O n sc σ e with|some d=>some (Out.rt d)|none=>none)=some o:=h
  set_option smartUnfolding false in refine om h λd hd h=>?_
  ·have h:=ak h;subst h;exact sF (ax (du OK LZ R n sc σ env own P e d s hd S VV) (λv s1 h_10=>aL h_10 λS1 k1 r1=>⟨v,rfl,S1,k1.nil,r1.sub λb hb=>bC _ hb⟩) λζ ζ f=>f)
theorem Sj {t:ac} {m:Option ac} (h:px O (n+1) sc σ (.Assert t m pos)=some o):jW X A sc env own P (.Assert t m pos) o s:=by
 have h:(match pT O n sc σ t with|some true=>some (Out.nx σ)|_=>none)=some o:=h;refine To h λht h=>?_
 ·have h:=ak h;subst h;exact wpAny_Assert_holds (ax (li OK LZ R n sc σ env own P t true s ht S VV) (λc s1 h_11=>aL h_11 λS1 k1 e1=>⟨e1,rfl,own,S1,k1.nil,de.refl,VV.keep k1.kb⟩) λζ ζ f=>f)
end
theorem TG (OK:bg X O k) (LZ:bR X) (R:aK A (k+2)) (ih:rK X A O n):v9 X A O (n+1):=by
 intro sc env σ own P st o s h S VV
 induction st using Stmt.casesOn with
 |Assign ts e pos=>exact Gx OK LZ R S VV h
 |AugAssign t op e pos=>exact Nf OK LZ R S VV h
 |Expr e pos=>exact H7 OK LZ R S VV h
 |Delete ts pos=>exact KW OK LZ R S VV h
 |If t b e pos=>exact Uf OK LZ R ih S VV h
 |For t it b e pos=>exact Kj OK LZ R ih S VV h
 |Return e pos=>exact Qh OK LZ R S VV h
 |Assert t m pos=>exact Sj OK LZ R S VV h
 |Break pos=>have h:=ak h;subst h;exact wpAny_Break ⟨rfl,own,S,ag.refl,de.refl,VV⟩
 |Pass pos=>have h:=ak h;subst h;exact wpAny_Pass ⟨rfl,own,S,ag.refl,de.refl,VV⟩
 |_=>exact ab h
theorem rO (OK:bg X O k) (LZ:bR X) (R:aK A (k+2)):∀n,v9 X A O n/\rK X A O n
 |0=>⟨λsc env σ own P st o s h=>ab h,λsc env σ own P st o s h=>ab h⟩
 |n+1=>by refine bf (rO OK LZ R n) λh1 h2=>?_;exact⟨TG OK LZ R h2,Ni h1 h2⟩
end
section
variable {X:Cx} {A:aM} {s:ae} {E:Value->ae->Prop} {W:List Addr} {sc:Scope}
theorem tR:∀(ps:List Str) (as:List PV) (vs:List Value) (env:Env) (σ:Sg) (s:ae),ps.length=as.length->(∀p∈ps,bb sc p=true)->ai X s->ap X sc env σ [] W s.heap->ar W s.heap as vs->al (aq X.prog X.w) A (lI (ps.zip vs) zg (λx ζ=>do j3 env x.1 x.2;pure (mP zg):Str×Value->PUnit->bp (ForInStep PUnit)))
   (λζ s'=>ai X s'/\ag (aV sc env []) s s'/\ap X sc env (bI σ (ps.zip (as.map .sh))) [] W s'.heap) (λζ ζ=>False) s
 |[],[],vs,env,σ,s,_,_,S,V,r=>by refine (?_:al _ A (lI [] zg _) _ _ s);refine aa vE ?_;exact aI ⟨S,ag.refl,V⟩
 |[],_::_,_,_,_,_,h,_,_,_,_=>pX h
 |_::_,[],_,_,_,_,h,_,_,_,_=>pX h
 |p::ps,a::as,vs,env,σ,s,hl,hp,S,V,r=>by
  refine bw r λv u e2_ r1 r2=>?_;clear r;subst e2_;refine (?_:al _ A (lI ((p,v)::ps.zip u) zg _) _ _ s);rw[sv];refine aj (aj (oH S V (hp p (.head _)) (by rw[lh];exact r1) λs1 S1 k1 V1=>aI ?_));have r3:ar W s1.heap as u:=by have:=ar.stp (own':=[]) (P:=W) (own:=[]) (d:=as) (v:=u) (by rw[lh];exact r2) V k1 de.refl;rw[lh] at this;exact this
  refine ax (tR ps as u env _ s1 (lx hl) (λq hq=>hp q (.tail _ hq)) S1 V1 r3) (λζ s2 h_0=>aL h_0 λS2 k2 V2=>⟨S2,k1.trans k2,V2⟩) λζ ζ f=>f
structure ma (X:Cx) (fa:Addr) (fd:fZ) (ps:List Str) (body:List aN):Prop where
 ho:∃o,X.h0.get? fa=some o/\o.cls=.type "function" /\o.data=.func fd
 gl:fd.globals=df
 bi:fd.builtins=kG
 cl:fd.closure=[]
 bd:fd.body=.stmts body
 co:fd.scope.isCoroutine=false
 ge:fd.scope.isGenerator=false
 kd:fd.scope.kind=.function
 nd:ew fd.scope.names=true
 nm:∀x k,(x,k)∈fd.scope.names->cy x=true
 nf:∀x,fd.scope.names.lookup x≠some .free
 pst:∀p∈ps,bb fd.scope p=true
 cd:∀h,pP X.h0 h->h.CodeRec fd.code fd.qualname
 bind:∀vs:List Value,vs.length=ps.length->lJ fd ⟨vs,[]⟩=pure (ps.zip vs)
theorem Hp {O:Orc} {k n:Nat} {fa:Addr} {fd:fZ} {ps:List Str} {body:List aN} {as:List PV} {d:PV} {vs:List Value} (OK:bg X O k) (LZ:bR X) (F:ma X fa fd ps body) (hl:ps.length=as.length) (h:aO O n fd.scope (bI [] (ps.zip (as.map .sh))) body=some (.rt d)\/(∃σ',aO O n fd.scope (bI [] (ps.zip (as.map .sh))) body=some (.nx σ')/\d=.none)) (R:aK A (k+3)) (S:ai X s) (w:b8 W s.heap) (r:ar W s.heap as vs):Ev X A s (call (.ref fa) vs) (λv s'=>am W s'.heap d v):=by
 refine bo F.ho λo ho hcl hd=>?_;have hof:=S.old.get_of_cls ho (by refine aa hcl ?_;nofun);refine Fx (Wl R.depth hof hd F.co F.ge F.bd (F.cd s.heap S.old) ?_);rw[F.bind vs (aa r.length (aa hl rfl)),F.cl,F.gl,F.bi];refine aI ?_;simp only[sB,y0,dp,if_false];refine aj (y7 ?_);refine aj (y8 _ (λζ ζ ζ=>rfl) _ _ _ _ ?_);refine aa (show ({s with heap:=s.heap.push {cls:=.type "frame",data:=.dict #[]}}:ae).heap.objs.size=s.heap.objs.size+1 from lG ..) ?_;refine bY (({s with heap:=mQ (s.heap.push {cls:=.type "frame",data:=.dict #[]}) fd.scope.names}:ae)) λs1 hs1=>?_;have kk:∀b o,s.heap.get? b=some o->s1.heap.get? b=some o:=λb o e=>by refine aA hs1 ?_;exact sx _ _ _ _ (bz _ _ e)
 have S1:ai X s1:=by have:=S.keep (tk:=s.toks) (h':=s1.heap) kk;rw[<- hs1] at this ⊢;exact this
 have k1:ag [] s s1:=by have:=ag.keep (W:=[]) (s:=s) (tk:=s.toks) (h':=s1.heap) kk;rw[<- hs1] at this ⊢;exact this
 refine bY (({scope:=fd.scope,locals:=s.heap.objs.size,globals:=df,cells:=d7 (s.heap.objs.size+1) fd.scope.names [],qual:=fd.qualname++ ".<locals>.",func:=some fa,code:=fd.code,frame:=some s.heap.objs.size,builtins:=kG}:Env)) λenv henv=>?_;have kd:∀x,env.kindOf x=fd.scope.names.lookup x:=λx=>by refine aA henv ?_;rfl
 have V1:ap X fd.scope env [] [] W s1.heap:=by
  refine aA hs1 ?_;refine tm (cl:=[]) S F.nd F.nm (by refine aA henv ?_;exact F.kd) (aA henv rfl) (aA henv rfl) (aA henv rfl) (aA henv rfl) (λx hx=>(kd x).trans hx) (λx hx=>?_) (λx hx=>?_) (λx c q=>nomatch q) (λx y c q=>nomatch q) (λx hx=>absurd hx (F.nf x)) w (λx e he=>ab he)
  ·exact rz hx (λe=>.inl ((kd x).trans e)) λe=>.inr ((kd x).trans e)
  ·exact (kd x).trans (tH hx)
 refine aj (ax (tR ps as vs env [] s1 hl F.pst S1 V1 (r.keep k1.kb)) (λζ s2 h_1=>aL h_1 λS2 k2 V2=>?_) λζ ζ f=>f.elim);refine aI ⟨S2.lim,Wm ?_⟩;have fresh:∀b∈aV fd.scope env [],s.heap.get? b=none:=λb hb=>by
  have hge:s.heap.objs.size<=b:=by
   unfold aV at hb;rcases ao.mp hb with q|q
   ·refine aa q (aA henv ?_);exact aT _
   ·rcases be.mp q with q|q
    ·refine ah (ea q) λx hm ζ=>?_;have hm:(x,b)∈d7 (s.heap.objs.size+1) fd.scope.names []:=by replace hm:=(c5 henv)▸hm;exact hm
     rcases oX _ _ _ _ _ hm with z|z
     ·exact nomatch z
     ·exact lE z.1
    ·exact nomatch q
  cases e:s.heap.get? b with
  |none=>rfl
  |some o=>exact absurd (fm e) (pY hge)
 have k02:ag [] s s2:=bx.after k1 (bx.of k2) fresh k1.gsz;have Rb:aK (A.deeper env) (k+2):=(show aK A ((k+2)+1) from R).deeper env;have fin:∀{o},aO O n fd.scope (bI [] (ps.zip (as.map .sh))) body=some o->al (aq X.prog X.w) (A.deeper env) (db body env) (λfl s'=>c6 X fd.scope env [] W s2 o fl s') (λζ ζ=>False) s2:=λ{o} q=>
  (rO OK LZ Rb n).2 fd.scope env _ [] W body o s2 q S2 V2
 have up:∀{s3},ag (aV fd.scope env []) s2 s3->ag [] s s3:=λ{s3} k3=>bx.after k02 ((bx.of k3).mono (λb hb=>hb) (aT _)) fresh k02.gsz;rcases h with h|⟨σ',h,rfl⟩
 ·refine ax (fin h) (λfl s3 h3=>?_) λζ ζ f=>f.elim;refine dI h3 λv e1_ S3 k3 r3=>?_;clear h3;subst e1_;exact dX S3 (up k3) r3
 ·refine ax (fin h) (λfl s3 h3=>?_) λζ ζ f=>f.elim;obtain ⟨rfl,own3,S3,k3,o3,V3⟩:=h3;exact dX S3 (up k3) rfl
end
section
variable {prog:Program} {w:jo} {A:aM} {E:Value->ae->Prop} {s:ae}
end
section
variable {prog:Program} {w:jo} {A:aM} {R:GenEnd} {Y:Protocol} {n:Nat} {s₀:ae} {fs:List mT} {s:ae} {env:Env} {c:lK}
 {K:eW->bp Fin} {H:Value->bp Fin} {gd:Bool->Bool} {lv:List Value->List Value}
noncomputable def Er (env:Env) (K:eW->bp Fin) (H:Value->bp Fin) (gd:Bool->Bool) (lv:List Value->List Value):ou->bp Fin:=λr=>((match r with|.ok f=>(.pure f:bp eW)|.error e=>.raise e).onRaise λ(x:Value)=>do
    if (<- mN x 1)==Value.none then unsupported "frame.own-activation:exception-without-traceback"
    setFlight x env.frame).wrap K H gd lv
end
section
variable {prog:Program} {w:jo} {A:aM} {R:GenEnd} {Y:Protocol} {n:Nat} {s₀:ae} {fs:List mT} {s:ae} {env:Env}
noncomputable def Bn (c:lK):eW->bp Fin:=λf=>match f with
 |.next|.cont=>.pure (.again c)
 |.brk=>.pure (.done .next)
 |.ret v=>.pure (.done (.ret v))
noncomputable def zB (env:Env):Value->bp Fin:=λe=>(do vF e env;y4 e:bp Unit).wrap (λζ=>.raise e) .raise id id
end
open Sem (wp)
noncomputable def bK (M:qf) (A:aM) (F:End->ae->Prop) (c:lK) (t:bp Fin) (fs:List mT) (s:ae):Prop:=
 ∀Γ p,Γ.code=c->Γ.Woken A->∃e s',Runs M Γ p t fs s e s'/\F e s'
section
variable {M:qf} {A:aM} {F:End->ae->Prop} {c:lK} {fs:List mT} {s:ae}
theorem jO {α:Type} {m:bp α} {K:α->bp Fin} {H:Value->bp Fin} {gd lv} (h:al M (A.over c fs) m (λa s'=>bK M A F c (K a) fs s') (λζ ζ=>False) s):bK M A F c (m.wrap K H gd lv) fs s:=by
 rintro Γ p rfl hΓ
 exact runs_wrap_of_wp K H gd lv m (h (Γ.over fs) p (hΓ.over fs)) (λa p' s' h'=>h' Γ p' rfl hΓ) (λx p' s' h'=>h'.elim)
theorem qr {p':Pos} {k:Unit->bp Fin} (h:bK M A F c (k ()) fs s):bK M A F c (.at p' k) fs s:=
 jO (m:=dR p') (K:=k) (H:=.raise) (gd:=id) (lv:=id) (dS h)
theorem J6 {l:List Value} {k:Unit->bp Fin} (h:bK M A F c (k ()) fs s):bK M A F c (.point l k) fs s:=
 jO (m:=point) (K:=k) (H:=.raise) (gd:=id) (lv:=λζ=>l) (yE h)
theorem QS {c':lK} {h g l} {k:ou->bp Fin} (hc:∀p,bK M A F c' (M.den c') (.ret k h g l c p []::fs) s):bK M A F c (.call c' h g l k) fs s:=by
 rintro Γ p rfl hΓ
 refine bN (hc p (Γ.goto c') p rfl (hΓ.goto c')) λe s' hr he=>?_;exact eT e s' (runs_call_seg hr) he
theorem TV {k h g l c₁ p₁ kp} (r:ou) (hk:bK M A F c₁ (k r) fs s):bK M A F c (Fy r) (.ret k h g l c₁ p₁ kp::fs) s:=by
 rintro Γ p rfl hΓ
 refine bN (hk (Γ.goto c₁) p₁ rfl (hΓ.goto c₁)) λe s' hr he=>?_;exact eT e s' (Runs.pop r hr) he
theorem uy {c':lK} (hq:c'.quiet=true) (hc:bK M A F c' (M.den c') fs s):bK M A F c (.pure (.again c')) fs s:=by
 rintro Γ p rfl hΓ
 refine bN (hc (Γ.goto c') p rfl (hΓ.goto c')) λe s' hr he=>?_;exact eT e s' (Runs.head (c₁:=c') (λζ ζ x=>.again hq x) hr) he
theorem z6 (r:ou) (h:F (.ret r) s):bK M A F c (Fy r) [] s:=by
 rintro Γ p rfl _
 exact eT (.ret r) s (Runs.leaf r) h
theorem Iy {v g l} {k:Resume->bp Fin} (hfs:zh fs=none) (h:∀p,F (.susp v g l k c p fs) s):bK M A F c (.yield v g l k) fs s:=by
 rintro Γ p rfl _
 exact eT _ s (Runs.yield' fs hfs) (h p)
noncomputable def w5 (M:qf) (A:aM) (F:End->ae->Prop) (gs:sG) (s:ae):Prop:=
 match gs with
 |.fresh c=>bK M A F c (M.den c) [] s
 |.suspended k _ c _ fs _=>bK M A F c (k (.send .none)) fs s
 |_=>False
theorem NX {E:Value->ae->Prop} {g:Nat} {gs:sG} {l:List Value} {α:Type} {k:GenResult->bp α} {Q:α->ae->Prop} (hg:s.gens[g]?=some gs) (hgo:w5 M A F gs (s.setGen g .running)) (hqt:∀e s₁,F e s₁->e.quiet=true) (h:∀e s₁,F e s₁->al M A (k e.result) Q E (s₁.setGen g e.genState)):al M A (.resume g (.send .none) l k) Q E s:=by
 intro Γ p hΓ;rw[Sem.wp_resume];have hB:∀c,(Γ.wake c p).Woken A:=λc=>hΓ.wake c p;cases gs with
 |fresh c=>refine bN (hgo (Γ.wake c p) p rfl (hB c)) λe₁ s₁ hr he=>?_;exact eT _ _ (by unfold Wakes;refine aa hg ?_;exact⟨e₁,s₁,hr,hqt e₁ s₁ he,rfl,rfl⟩) (h e₁ s₁ he Γ p hΓ)
 |suspended k₀ l₀ c₀ p₀ fs₀ cl=>refine bN (hgo (Γ.wake c₀ p) p₀ rfl (hB c₀)) λe₁ s₁ hr he=>?_;exact eT _ _ (by unfold Wakes;refine aa hg ?_;exact⟨e₁,s₁,hr,hqt e₁ s₁ he,rfl,rfl⟩) (h e₁ s₁ he Γ p hΓ)
 |running=>exact hgo.elim
 |finished=>exact hgo.elim
end
section
variable {prog:Program} {w:jo} {A:aM} {F:End->ae->Prop} {c:lK} {fs:List mT} {s:ae} {env:Env}
 {K:eW->bp Fin} {H:Value->bp Fin} {gd:Bool->Bool} {lv:List Value->List Value}
set_option backward.match.sparseCases true in
theorem jJ {st:aN} {rest:List aN} (h:bK (aq prog w) A F c ((dr st env).wrap (λf=>match f with|.next=>(db rest env).wrap K H gd lv|f=>K f) H gd lv) fs s):bK (aq prog w) A F c ((db (st::rest) env).wrap K H gd lv) fs s:=by rw[execs_cons_wrap];exact h
theorem T2 {e:ac} {ypos pos:Pos} (hfs:zh fs=none) (hco:env.scope.isCoroutine=false) (hi:ow env=false) (h:al (aq prog w) (A.over c fs) (aJ e env) (λv s'=>∀g l p k,g=gd false->(∀F' s'',bK (aq prog w) A F' c (K .next) fs s''->bK (aq prog w) A F' c (k (.send .none)) fs s'')->F (.susp v g l k c p fs) s') (λζ ζ=>False) s):bK (aq prog w) A F c ((dr (.Expr (.Yield (some e) ypos) pos) env).wrap K H gd lv) fs s:=by
 refine aa (exec_Expr env _ pos hi rfl) ?_
 show bK (aq prog w) A F c (.at pos λζ=>((aJ e env>>=λv=>(dR ypos>>=λζ=>Fz env v))>>=λx=>
  dropValue (.Yield (some e) ypos) pos x).wrap K H gd lv) fs s
 have hy:∀v,Fz env v=yieldValue v:=λv=>by simp only[Fz,hco,dp,if_false]
 simp only[hy];refine qr ?_;rw[kO,kO,ju,ju];refine jO (ax h (λv s' h'=>?_) λζ ζ x=>x);refine qr (Iy hfs λp=>?_);exact h' _ _ _ _ rfl λF' s'' hx=>hx
theorem Os {t:ac} {b o:List aN} {pos:Pos} (h:al (aq prog w) (A.over c fs) (isTrue t env (aJ t env)) (λr s'=>bK (aq prog w) A F c ((if r=true then db b env else db o env).wrap K H gd lv) fs s') (λζ ζ=>False) s):bK (aq prog w) A F c ((dr (.If t b o pos) env).wrap K H gd lv) fs s:=by refine aa qL ?_;refine (?_:bK (aq prog w) A F c (.at pos λζ=>(isTrue t env (aJ t env)>>=λr=>if r=true then db b env else db o env).wrap K H gd lv) fs s);refine qr ?_;rw[kO,ju];exact jO h
theorem Ro {body:List aN} (h:bK (aq prog w) A F (.func body env) ((db body env).wrap (λf=>.pure (.done (.ret (match f with|.ret v=>v|_=>.none))))
   (λe=>(FA env e).wrap (λζ=>.raise e) .raise id id) id id) fs s):bK (aq prog w) A F (.func body env) ((aq prog w).den (.func body env)) fs s:=by
 refine (?_:bK _ A F _ (.point [] λζ=>((db body env).onRaise (FA env))>>=_) fs s);refine J6 ?_;rw[FB,kO,ju]
 rw[Wn (db body env) _ _ (K':=λf=>.pure (.done (.ret (match f with|.ret v=>v|_=>.none))))
  (H':=λe=>(FA env e).wrap (λζ=>.raise e) .raise id id) (λf=>by induction f using qg<;>rfl)
  (λe=>by rw[FC,ju];rfl)]
 exact h
theorem GP {target iter:ac} {body orelse:List aN} {pos:Pos} (hs:∀x,qe iter env x=pure x) (h:al (aq prog w) (A.over c fs) (aJ iter env) (λx s1=>al (aq prog w) (A.over c fs) (fY x) (λit s2=>
   ∀p,bK (aq prog w) A F (.forLoop target it body orelse env) ((aq prog w).den (.forLoop target it body orelse env)) (.ret (Er env K H gd lv) none (gd false) (lv []) c p []::fs) s2) (λζ ζ=>False) s1) (λζ ζ=>False) s):bK (aq prog w) A F c ((dr (.For target iter body orelse pos) env).wrap K H gd lv) fs s:=by
 refine (?_:bK (aq prog w) A F c (.at pos λζ=>((aJ iter env>>=λx=>(qe iter env x>>=λx=>(dR iter.pos>>=λζ=>(holding [x] (fY x)>>=λit=>Fi (.forLoop target it body orelse env) env))))).wrap K H gd lv) fs s);simp only[hs];refine qr ?_;rw[kO,ju];refine jO (ax h (λx s1 h1=>?_) λζ ζ f=>f.elim);refine (?_:bK (aq prog w) A F c (.at iter.pos λζ=>(holding [x] (fY x)>>=λit=>Fi (.forLoop target it body orelse env) env).wrap K H gd lv) fs s1);refine qr ?_;rw[kO,ju];refine jO (dA (ax h1 (λit s2 h2=>?_) λζ ζ f=>f.elim));exact QS h2
theorem Co {target:ac} {it:Value} {body orelse:List aN} (h:al (aq prog w) (A.over (.forLoop target it body orelse env) fs) (em it) (λr s1=>match r with
    |none=>bK (aq prog w) A F (.block orelse env) ((aq prog w).den (.block orelse env)) fs s1
    |some v=>al (aq prog w) (A.over (.forLoop target it body orelse env) fs) (lH target it v) (λζ s2=>al (aq prog w) (A.over (.forLoop target it body orelse env) fs) (js target env v) (λζ s3=>
      bK (aq prog w) A F (.forLoop target it body orelse env) ((db body env).wrap (Bn (.forLoop target it body orelse env)) (zB env) id id) fs s3) (λζ ζ=>False) s2) (λζ ζ=>False) s1) (λζ ζ=>False) s):bK (aq prog w) A F (.forLoop target it body orelse env) ((aq prog w).den (.forLoop target it body orelse env)) fs s:=by
 refine (?_:bK _ A F _ ((forTurn target it body orelse env).onRaise (λx=>do vF x env;y4 x)) fs s);unfold forTurn;rw[FB];rw[kO,ju];refine jO (dS ?_);rw[kO,ju,FB,ju];refine jO (ax h (λr s1 h1=>?_) λζ ζ f=>f.elim)
 induction r using bO with
 |none=>exact uy rfl h1
 |some v=>
  refine (?_:bK _ A F _ (Sem.wrap _ _ _ _ (lH target it v>>=λζ=>js target env v>>=λζ=>db body env>>=_)) fs s1);rw[kO,ju];refine jO (ax h1 (λζ s2 h2=>?_) λζ ζ f=>f.elim);rw[kO,ju];refine jO (ax h2 (λζ s3 h3=>?_) λζ ζ f=>f.elim);rw[kO,ju]
  rw[Wn (db body env) _ _ (K':=Bn (.forLoop target it body orelse env)) (H':=zB env)
    (λf=>by induction f using qg<;>rfl)
    (λe=>by first|exact FC _ _|(show (do vF e env;y4 e:bp Unit).bind (λζ=>.raise e)=_;rw[FC];rfl))]
  exact h3
theorem z8 {a:Addr} {g:Nat} {gs:sG} {E:Value->ae->Prop} {Q:Option Value->ae->Prop} (hh:A.handled=none) (hl:s.heap.NoLimit) (hroom:A.depth<recursionLimit) (hg:s.heap.IsGen a g) (hgs:s.gens[g]?=some gs) (hgo:w5 (aq prog w) A.in1 F gs (s.setGen g .running)) (hqt:∀e s₁,F e s₁->e.quiet=true) (hr:∀r s₁,F (.ret r) s₁->r=.ok (.ret .none)/\∀h',(∀b o,s₁.heap.get? b=some o->h'.get? b=some o)->Q none {s₁.setGen g .finished with heap:=h'})
  (hY:∀v gu l k c p fs s₁,F (.susp v gu l k c p fs) s₁->Q (some v) (s₁.setGen g (End.susp v gu l k c p fs).genState)):
  al (aq prog w) A (em (.ref a)) Q E s:=by
 unfold em
 refine aj (Fp (sm (name:=af "__next__") hg.typeIs Wo
  (sn Wo hg.typeIs entry_gen_next ?_ (args_gen_next _))))
 refine (?_:al _ A.in1 (Wp (.ref a) (.send .none)) _ _ s);unfold Wp;refine aj (dA (wpAny_genNumber hg (aj (wpAny_genState hgs ?_))));cases gs with
 |running=>exact hgo.elim
 |finished=>exact hgo.elim
 |_=>
  refine aj (wpAny_roomToWake hl hroom ?_);refine (?_:al _ A.in1 (.resume g (.send .none) [] _) _ _ s);refine NX hgs hgo hqt λe s₁ he=>?_;cases e with
  |ret r=>
   obtain ⟨rfl,hp⟩:=hr r s₁ he;refine (?_:al _ A.in1 (yV (.type "StopIteration") []>>=_) _ _ _);refine aj ?_;simp only[yV,E8];refine aj (kJ ?_ (by size_fits));refine aj (m:=yW _ _) (E9 (a:=Value.none) (by first|rfl|(simp only[yW];rfl)) ?_);refine kJ ?_ (by size_fits);refine aj (aj (Vl ?_))
   first|refine aa (show A.in1.handled=none from hh) ?_|rw[hh]
   refine Vm ?_;refine aj (VT (T:= "StopIteration") (b:=true) ⟨_,dT _ rfl,rfl⟩ VU ?_);exact aI (hp _ λb o hb=>gS _ (gS _ hb))
  |susp v gu l k c p fs=>exact aI ⟨v,rfl,aI (hY v gu l k c p fs s₁ he)⟩
end
structure nz (a:Addr) (g:Nat) (fp wr:List Addr) (s:ae):Prop where
 sub:∀b∈wr,b∈fp
 live:∀b∈fp,∃o,s.heap.get? b=some o/\cG o=false
 nseq:∀b∈wr,∀o,s.heap.get? b=some o->∀its n,o.data≠.seq its n
 mem:a∈fp
 nw:a∉wr
 isg:s.heap.IsGen a g
structure B1 (g:Nat) (fp:List Addr) (s s':ae):Prop where
 sz:s.gens.size<=s'.gens.size
 hp:∀b∈fp,∀o,s.heap.get? b=some o->s'.heap.get? b=some o
 gk:∀j,j<s.gens.size->j≠g->s'.gens[j]?=s.gens[j]?
 run:s'.gens[g]?=some .running
noncomputable def nj (X:Cx) (A:aM) (a:Addr) (g gm:Nat):List PV->List Addr->List Addr->ae->End->ae->Prop
 |[],_,wr,s₀,e,s'=>e=.ret (.ok (.ret .none))/\ai X s'/\bx wr gm s₀ s'
 |d::rem,fp,wr,s₀,e,s'=>∃v gu l k c p fs fp' wr',e=.susp v gu l k c p fs/\e.quiet=true/\(∀W,b8 W s₀.heap->(∀b∈fp,b∉W)->am W s'.heap d v)/\ai X s'/\bx wr gm s₀ s'/\nz a g fp' wr' s'/\
   (∀b∈fp',b∈fp\/s₀.heap.get? b=none)/\(∀b∈wr',b∈wr\/s₀.heap.get? b=none)/\
   ∀s'',B1 g fp' s' s''->ai X s''->bK (aq X.prog X.w) A (nj X A a g gm rem fp' wr' s'') c (k (.send .none)) fs s''
noncomputable def BV (X:Cx) (A:aM) (a:Addr) (g gm:Nat) (xs:List PV) (i:Nat) (fp wr:List Addr) (s:ae):Prop:=
 nz a g fp wr s/\∃gs,s.gens[g]?=some gs/\∀s'',B1 g fp s s''->ai X s''->w5 (aq X.prog X.w) A.in1 (nj X A.in1 a g gm (xs.drop i) fp wr s'') gs s''
section
variable {X:Cx} {A:aM} {a:Addr} {g gm:Nat} {xs:List PV} {s:ae}
theorem ai.setGen (S:ai X s) {gs:sG} (h:gs.bare=true):ai X (s.setGen g gs):=
 {x:=S.x,old:=S.old,g:=S.g,b:=S.b,lim:=S.lim,tab:=S.tab,os:=S.os
  bare:=λy hy=>by
   have hy:y∈s.gens.setIfInBounds g gs:=hy
   rw[Array.mem_iff_getElem] at hy
   obtain ⟨i,hi,rfl⟩:=hy
   have hi':i<s.gens.size:=by simpa using hi
   refine aa (Array.getElem_setIfInBounds hi') ?_
   split
   ·exact h
   ·exact S.bare _ (Array.getElem_mem hi')}
theorem nK {s:ae} {gs:sG} {j:Nat} (h:j≠g):(s.setGen g gs).gens[j]?=s.gens[j]?:=(Wq s g gs).2 j h
theorem kX {s:ae} {gs:sG}:(s.setGen g gs).gens.size=s.gens.size:=(Wq s g gs).1
theorem MM {tgt:ac} {v:Value} {Q:Unit->ae->Prop} (hg:s.heap.IsGen a g) (h:Q () s):al (aq X.prog X.w) A (lH tgt (.ref a) v) Q (λζ ζ=>False) s:=by refine jQ hg λo nm qn ho hc ζ=>?_;clear hg;exact qP ho (by unfold rq;refine aa hc ?_;rfl) h
theorem nz.frame {fp wr:List Addr} {s s':ae} (L:nz a g fp wr s) (hp:∀b∈fp,∀o,s.heap.get? b=some o->s'.heap.get? b=some o):nz a g fp wr s':=
 {sub:=L.sub,mem:=L.mem,nw:=L.nw
  live:=λb hb=>ah (L.live b hb) λo e ht=>⟨o,hp b hb o e,ht⟩
  nseq:=λb hb o e=>by
   refine ah (L.live b (L.sub b hb)) λo' e' ζ=>?_
   have:=hp b (L.sub b hb) o' e'
   replace this:=e▸this;have h_:=ak this;clear this;subst h_
   exact L.nseq b hb _ e'
  isg:=jP L.isg λo nm qn ho r=>⟨o,nm,qn,hp a L.mem o ho,r⟩}
theorem TA (R:aK A 1) (hgm:gm<=g):mu X A (.ref a) xs (BV X A a g gm xs) gm where
 sub:=λi fp wr s st=>st.1.sub
 live:=λi fp wr s st=>st.1.live
 nseq:=λi fp wr s st=>st.1.nseq
 frame:=λi fp wr s s' st sz hp gk=>by obtain ⟨L,gs,hgs,hgo⟩:=st;have hlt:g<s.gens.size:=(vM.mp hgs).1;refine⟨L.frame hp,gs,(gk g hlt).trans hgs,λs'' F S=>hgo s'' ⟨aB sz F.sz,λb hb o e=>F.hp b hb o (hp b hb o e),λj hj hne=>(F.gk j (cV hj sz) hne).trans (gk j hj),F.run⟩ S⟩
 plain:=λi fp wr s tgt v Q st h=>MM st.1.isg h
 item:=λi d fp wr W s hd st S hW hWf=>by
  obtain ⟨L,gs,hgs,hgo⟩:=st;have hlt:g<s.gens.size:=(vM.mp hgs).1;have hrun:(s.setGen g .running).gens[g]?=some .running:=FD hgs;have hdr:xs.drop i=d::xs.drop (i+1):=by refine ay (FE.mp hd) λhi e1_=>?_;subst e1_;exact pZ hi
  have go:=hgo (s.setGen g .running) ⟨eh kX.symm,λb ζ o e=>e,λj ζ hne=>nK hne,hrun⟩ (S.setGen rfl);replace go:=hdr▸go;refine z8 R.hh S.lim R.depth L.isg hgs go (λe s₁ he=>?_) (λr s₁ he=>?_) λv gu l k c p fs s₁ he=>?_
  ·obtain ⟨_,_,_,_,_,_,_,_,_,rfl,hq,_⟩:=he;exact hq
  ·obtain ⟨_,_,_,_,_,_,_,_,_,q,_⟩:=he;cases q
  ·obtain ⟨_,_,_,_,_,_,_,fp',wr',q,hq,hr,S1,k1,L1,hf,hw,hk⟩:=he;cases q;have hg1:g<s₁.gens.size:=cV hlt (aB (eh kX.symm) k1.gsz);refine Mf v fp' wr' rfl (hr W hW hWf) ⟨L1.frame λb ζ o e=>e,_,FD (Array.getElem?_eq_getElem hg1),λs'' F S''=>?_⟩ (S1.setGen (End.bare_of_quiet hq)) ⟨k1.kb,k1.th,?_,λj hj=>?_⟩ hf hw
   ·exact hk s'' ⟨aB (eh kX.symm) F.sz,F.hp,λj hj hne=>(F.gk j (by refine aa kX ?_;exact hj) hne).trans (nK hne),F.run⟩ S''
   ·refine aa kX ?_;exact aB (eh kX.symm) k1.gsz
   ·have hne:j≠g:=ly (cV hj hgm);exact (nK hne).trans ((k1.gk j hj).trans (nK hne))
 done:=λfp wr s st S=>by
  obtain ⟨L,gs,hgs,hgo⟩:=st;have hrun:(s.setGen g .running).gens[g]?=some .running:=FD hgs;have go:=hgo (s.setGen g .running) ⟨eh kX.symm,λb ζ o e=>e,λj ζ hne=>nK hne,hrun⟩ (S.setGen rfl);replace go:=y5▸go;refine z8 R.hh S.lim R.depth L.isg hgs go (λe s₁ he=>?_) (λr s₁ he=>?_) λv gu l k c p fs s₁ he=>?_
  ·obtain ⟨rfl,_⟩:=he;rfl
  ·refine aL he λq S1 k1=>?_;clear he;cases q;refine⟨rfl,λh' hk=>⟨rfl,?_,?_⟩⟩
   ·exact (S1.setGen (g:=g) (gs:=.finished) rfl).keep (tk:=s₁.toks) (h':=h') hk
   ·refine⟨k1.kb.trans (Kb.of_keep hk),λb o hb e=>?_,?_,λj hj=>?_⟩
    ·refine ay (k1.th b o hb e) λo' e'=>?_;exact⟨o',hk b o' e'⟩
    ·refine (?_:s.gens.size<=(s₁.setGen g .finished).gens.size);refine aa kX ?_;exact aB (eh kX.symm) k1.gsz
    ·have hne:j≠g:=ly (cV hj hgm);exact (nK hne).trans ((k1.gk j hj).trans (nK hne))
  ·refine bf he λq ζ=>?_;clear he;cases q
end
theorem QJ {A:aM} {body:List aN} {env:Env} (R:aK A 8):aK (A.in1.over (.func body env) []) 3:=by
 refine⟨R.hh,?_,?_⟩
 ·have:=R.d;have e:(A.in1.over (.func body env) []).depth=A.depth+1:=rfl;exact BH this e
 ·have:=R.u;have e:(A.in1.over (.func body env) []).units=A.units+1+0+3:=rfl;exact Hf this e
theorem ML {A:aM} {body b o:List aN} {t:ac} {it:Value} {env:Env} {k p} (R:aK A 8):aK (A.in1.over (.forLoop t it b o env) [.ret k none false [] (.func body env) p []]) 3:=by
 refine⟨R.hh,?_,?_⟩
 ·have:=R.d;have e:(A.in1.over (.forLoop t it b o env) [.ret k none false [] (.func body env) p []]).depth=A.depth+1:=rfl;exact BH this e
 ·have:=R.u;have e:(A.in1.over (.forLoop t it b o env) [.ret k none false [] (.func body env) p []]).units=A.units+1+3:=rfl;exact MB this e
theorem fB {W W' h h'}:∀{ds:List PV} {vs},(∀d∈ds,d.flat=true)->ar W h ds vs->ar W' h' ds vs
 |[],_,_,r=>by skip;exact r
 |d::ds,_,hf,r=>by skip;refine bw r λv u e r1 r2=>?_;clear r;exact gw v u e (r1.flat (hf d (.head _))) (fB (λx hx=>hf x (.tail _ hx)) r2)
noncomputable def jB (σ:Sg):Prop:=∀x e,σ.lookup x=some e->∃d,e=.sh d/\d.flat=true
section
variable {X:Cx} {A:aM} {a:Addr} {g gm:Nat} {s s' s₀:ae} {env:Env} {sc:Scope} {σ σ':Sg} {P:List Addr} {O:Orc} {k n:Nat} {wr wr0:List Addr}
theorem ap.flatK {h h':aP} {own P} (V:ap X sc env σ own P h) (hc:env.cells=[]) (hf:jB σ) {P':List Addr} (hP:∀b∈P',∃o,h'.get? b=some o/\cG o=false) (kk:∀o,h.get? env.locals=some o->h'.get? env.locals=some o):ap X sc env σ [] P' h':=
 {V with
  ns:=ay V.ns λm h_=>jP h_ λo es ep e r=>⟨m,o,es,ep,kk o e,r⟩
  cells:=λx c hm=>by replace hm:=hc▸hm;cases hm
  vars:=λx d e=>by
   refine ah (V.vars x d e) λv h1 h2=>?_
   refine ah (hf x _ e) λd' q hd=>?_
   cases q
   refine au v ?_ (h2.flat hd)
   rcases h1 with ⟨r1,m,⟨o,es,ep,e1,r⟩,r2⟩|⟨_,c,e1,_⟩
   ·exact .inl ⟨r1,m,⟨o,es,ep,kk o e1,r⟩,r2⟩
   ·replace e1:=hc▸e1;exact ab e1
  owns:=λx xs e=>by refine ah (hf x _ e) λd q ζ=>?_;cases q
  ownA:=λx y a h=>nomatch h
  ownF:=λx a h=>nomatch h
  ownU:=λx a b h=>nomatch h
  ownP:=λx a h=>nomatch h
  pin:=hP}
noncomputable def oQ (h:aP):List Addr:=(bF h.objs.size).filter λb=>match h.get? b with|some o=> !cG o|none=>false
theorem L0 {h:aP}:∀b∈oQ h,∃o,h.get? b=some o/\cG o=false:=λb hb=>by
 unfold oQ at hb;refine bf (jp.mp hb) λζ h2=>?_
 set_option smartUnfolding false in refine Sk h2 λo e h2=>?_
 exact au o e ((kK _).mp h2)
theorem KH {h:aP} {b o} (e:h.get? b=some o) (ht:cG o=false):b∈oQ h:=by unfold oQ;refine jp.mpr ⟨ft.mpr (fm e),?_⟩;refine aa e ?_;simp[ht]
structure GS (X:Cx) (a:Addr) (g gm:Nat) (sc:Scope) (env:Env) (wr0 wr:List Addr) (s₀:ae) (σ:Sg) (s:ae):Prop where
 S:ai X s
 V:ap X sc env σ [] [] s.heap
 fl:jB σ
 run:s.gens[g]?=some .running
 isg:s.heap.IsGen a g
 live:∀b∈wr,∃o,s.heap.get? b=some o/\cG o=false/\∀its n,o.data≠.seq its n
 k:bx wr0 gm s₀ s
 nw:∀b∈wr,b∈wr0\/s₀.heap.get? b=none
 hm:env.locals∈wr
 na:a∉wr
theorem Ei {h:aP} (x:h.IsGen a g):∃o,h.get? a=some o/\cG o=false:=jQ x λo ζ ζ e hc ζ=>⟨o,e,ee hc⟩
theorem GS.move {V wr':List Addr} {g':Nat} (G:GS X a g gm sc env wr0 wr s₀ σ s) (hg:g<g') (hgm:gm<=g') (S':ai X s') (k:bx V g' s s') (hV:∀b∈V,b∈wr) (V':ap X sc env σ' [] [] s'.heap) (fl':jB σ') (hw:∀b∈wr',b∈wr) (hm:env.locals∈wr') (hl:∀b∈V,b∈wr'->∃o,s'.heap.get? b=some o/\cG o=false/\∀its n,o.data≠.seq its n):GS X a g gm sc env wr0 wr' s₀ σ' s' where
 S:=S'
 V:=V'
 fl:=fl'
 run:=(k.gk g hg).trans G.run
 isg:=by refine jQ G.isg λo nm qn ho hc r=>?_;exact Pd o nm qn (k.kb a o (λq=>G.na (hV a q)) (ee hc) ho) hc r
 live:=λb hb=>by
  by_cases q:b∈V
  ·exact hl b q hb
  ·refine bo (G.live b (hw b hb)) λo e ht hs=>?_;exact jD o (k.kb b o q ht e) ht hs
 k:=by
  have ne:∀b o,b∉wr0->s₀.heap.get? b=some o->b∉V:=λb o hb e q=>(G.nw b (hV b q)).elim hb λz=>by replace e:=z▸e;exact ab e
  exact⟨λb o hb ht e=>k.kb b o (ne b o hb e) ht (G.k.kb b o hb ht e),λb o hb e=>ay (G.k.th b o hb e) λo' e'=>k.th b o' (ne b o hb e) e',aB G.k.gsz k.gsz,λi hi=>(k.gk i (cV hi hgm)).trans (G.k.gk i hi)⟩
 nw:=λb hb=>G.nw b (hw b hb)
 hm:=hm
 na:=λq=>G.na (hw a q)
theorem GS.lt (G:GS X a g gm sc env wr0 wr s₀ σ s):g<s.gens.size:=(vM.mp G.run).1
theorem GS.stp (G:GS X a g gm sc env wr0 wr s₀ σ s) (hgm:gm<=g) (S':ai X s') (k:ag [] s s'):GS X a g gm sc env wr0 wr s₀ σ s':=
 G.move G.lt (aB hgm (ej G.lt)) S' (bx.of k) (λζ q=>nomatch q) (G.V.keep k.kb) G.fl (λζ z=>z) G.hm λζ q=>nomatch q
theorem GS.set (G:GS X a g gm sc env wr0 wr s₀ σ s) (hgm:gm<=g) (hc:env.cells=[]) (fl':jB σ') (h:fz X sc env [] [] s σ' s'):GS X a g gm sc env wr0 wr s₀ σ' s':=by
 refine dI h λown' S' k' ζ V'=>?_;clear h;have hW:∀b∈aV sc env [],b=env.locals:=λb hb=>by
  unfold aV at hb;rcases ao.mp hb with q|q
  ·exact q
  ·rcases be.mp q with q|q
   ·refine ah (ea q) λx hm ζ=>?_;replace hm:=hc▸hm;cases hm
   ·exact nomatch q
 refine G.move G.lt (aB hgm (ej G.lt)) S' (bx.of k') (λb hb=>hW b hb▸G.hm) (V'.flatK hc fl' (λζ q=>nomatch q) λζ e=>e) fl' (λζ z=>z) G.hm λb hb ζ=>?_;refine aa (hW b hb) ?_;obtain ⟨m,o,es,ep,e,hd,_⟩:=V'.ns;exact jD o e (fe (λvs q=>by replace q:=hd▸q;cases q)) (λits n q=>by replace q:=hd▸q;cases q)
theorem xS {I:ae->Prop} {c:lK} {fs:List mT} {K:eW->bp Fin} {H:Value->bp Fin} {gd:Bool->Bool} {lv:List Value->List Value} {e:ac} {ypos pos:Pos} {ds rem:List PV} (G:GS X a g gm sc env wr0 wr s₀ σ s) (OK:bg X O k) (LZ:bR X) (R:aK (A.over c fs) (k+2)) (hgm:gm<=g) (hc:env.cells=[]) (hfs:zh fs=none) (hco:env.scope.isCoroutine=false) (hi:ow env=false) (hgd:gd false=false) (hfg:fs.any Wr=false) (hd:pe O n sc σ e=some (.tup ds)) (hfl:∀d∈ds,d.flat=true) (hI:I s) (hIf:∀s s',I s->s.gens.size<=s'.gens.size->(∀b∈wr,∀o,s.heap.get? b=some o->s'.heap.get? b=some o)->(∀j,j<s.gens.size->s'.gens[j]?=s.gens[j]?)->I s') (next:∀s'',GS X a g gm sc env wr wr s'' σ s''->I s''->bK (aq X.prog X.w) A (nj X A a g gm rem (a::wr) wr s'') c (K .next) fs s''):bK (aq X.prog X.w) A (nj X A a g gm (.tup ds::rem) (a::wr0) wr0 s₀) c ((dr (.Expr (.Yield (some e) ypos) pos) env).wrap K H gd lv) fs s:=by
 refine T2 hfs hco hi ?_;have VP:ap X sc env σ [] (oQ s.heap) s.heap:=G.V.flatK hc G.fl L0 λζ e=>e;refine ax (du OK LZ R n sc σ env [] (oQ s.heap) e _ s hd G.S VP) (λv s1 h_ gu l p k hgu hk=>aL h_ λS1 k1 r1=>?_) λζ ζ f=>f.elim;have G1:=G.stp hgm S1 k1;rw[lh] at r1;have L1:nz a g (a::wr) wr s1:=
  {sub:=λb hb=>.tail _ hb,mem:=.head _,nw:=G.na,isg:=G1.isg
   live:=λb hb=>by
    rcases ao.mp hb with q|q
    ·refine aa q ?_;exact Ei G1.isg
    ·refine bo (G1.live b q) λo e ht ζ=>?_;exact au o e ht
   nseq:=λb hb o e=>by
    refine bo (G1.live b hb) λo' e' ζ hs=>?_
    replace e':=e▸e';have h_:=ak e';clear e';subst h_;exact hs}
 refine⟨v,gu,l,k,c,p,fs,a::wr,wr,rfl,by simp[End.quiet,hgu,hgd,hfg],λW hW hWf=>?_,S1,G1.k,L1,λb hb=>?_,G.nw,λs'' F S''=>?_⟩
 ·skip;refine bw r1 λl vs e2_ hl r=>?_;clear r1;subst e2_;refine iE l vs rfl (λhm=>hl ?_) r.1 r.2.1 ?_
  ·refine ah (hW l hm) λo e ht=>?_;exact KH (G.k.kb l o (λq=>hWf l (.tail _ q) hm) ht e) ht
  ·exact fB hfl r.2.2
 ·rcases ao.mp hb with q|q
  ·exact .inl (q▸.head _)
  ·exact (G.nw b q).imp_left λz=>.tail _ z
 ·refine hk _ s'' (next s'' ?_ ?_)
  ·exact
   {S:=S'',V:=G1.V.flatK hc G.fl (λζ q=>nomatch q) (F.hp _ (.tail _ G.hm)),fl:=G.fl,run:=F.run
    isg:=(L1.frame F.hp).isg
    live:=λb hb=>ah (G1.live b hb) λo e r=>⟨o,F.hp b (.tail _ hb) o e,r⟩
    k:=bx.of ag.refl |>.mono (λζ z=>z) (aB hgm (ej (vM.mp F.run).1)),nw:=λζ z=>.inl z,hm:=G.hm,na:=G.na}
  ·refine hIf s1 s'' (hIf s s1 hI k1.gsz (λb hb o e=>?_) k1.gk) F.sz (λb hb=>F.hp b (.tail _ hb)) λj hj=>?_
   ·refine bo (G.live b hb) λo' e' ht ζ=>?_;replace e':=e▸e';have h_:=ak e';clear e';subst h_;exact k1.kb b o (λq=>nomatch q) ht e
   ·by_cases q:j=g
    ·exact aa q (aa F.run (aa G1.run rfl))
    ·exact F.gk j hj q
end
noncomputable def e8:Str:=af "\\"
noncomputable def fg (i:Nat) (e:Bool):List Str->List PV
 |[]=>if e then [.tup [.int ((i:Int) - 1),.str e8]] else []
 |c::r=>if e then .tup [.int i,.str (e8++c)]::fg (i+1) false r else if c==e8 then fg (i+1) true r else .tup [.int i,.str c]::fg (i+1) false r
theorem Cg {i e}:fg i e []=if e then [.tup [.int ((i:Int) - 1),.str e8]] else []:=rfl
theorem qW {i e c r}:fg i e (c::r)=if e then .tup [.int i,.str (e8++c)]::fg (i+1) false r else if c==e8 then fg (i+1) true r else .tup [.int i,.str c]::fg (i+1) false r:=rfl
noncomputable def kt (p:Nat->Pos):ac:=.Tuple [.Name (af "pos") (p 10),.Name (af "ch") (p 11)] 0 (p 12)
noncomputable def sZ (p:Nat->Pos):ac:=.Call (.Name (af "enumerate") (p 13)) [.Name (af "addr") (p 14)] [] (p 15)
noncomputable def wY (p:Nat->Pos):ac:=.Tuple [.Name (af "pos") (p 20),.BinOp (.Constant (.str (af "\\")) 0 (p 21)) .Add (.Name (af "ch") (p 22)) (p 23)] 0 (p 24)
noncomputable def wU (p:Nat->Pos):ac:=.Tuple [.Name (af "pos") (p 30),.Name (af "ch") (p 31)] 0 (p 32)
noncomputable def xC (p:Nat->Pos):ac:=.Tuple [.Name (af "pos") (p 40),.Constant (.str (af "\\")) 0 (p 41)] 0 (p 42)
noncomputable def rP (b:Bool) (p q r:Pos):aN:=.Assign [.Name (af "escape") p] (.Constant (.bool b) 0 q) r
noncomputable def mf (p:Nat->Pos):List aN:=[
 .If (.Name (af "escape") (p 50)) [.Expr (.Yield (some (wY p)) (p 51)) (p 52),rP false (p 53) (p 54) (p 55)]
  [.If (.Compare (.Name (af "ch") (p 56)) [.Eq] [.Constant (.str (af "\\")) 0 (p 57)] (p 58)) [rP true (p 60) (p 61) (p 62)]
   [.Expr (.Yield (some (wU p)) (p 63)) (p 64)] (p 65)] (p 66)]
noncomputable def wR (p:Nat->Pos):List aN:=[.If (.Name (af "escape") (p 70)) [.Expr (.Yield (some (xC p)) (p 71)) (p 72)] [] (p 73)]
noncomputable def lY (p:Nat->Pos):List aN:=[
 .Assign [.Name (af "pos") (p 0)] (.Constant (.int 0) 0 (p 1)) (p 2),rP false (p 3) (p 4) (p 5),
 .For (kt p) (sZ p) (mf p) [] (p 16)]++wR p
noncomputable def cr:Scope:={
 kind:=.function
 names:=[(af "addr",.local),(af "pos",.local),(af "escape",.local),(af "ch",.local),(af "enumerate",.globalImplicit)]
 isGenerator:=true,isCoroutine:=false,more:=[]}
section
variable {X:Cx} {A:aM} {a:Addr} {g gm:Nat} {s s' s₀:ae} {env:Env} {σ σ':Sg} {O:Orc} {k n:Nat} {wr wr0:List Addr} {p:Nat->Pos}
theorem xl:br cr (af "pos")=true:=by decide
theorem zI:br cr (af "escape")=true:=by decide
theorem w8:br cr (af "ch")=true:=by decide
theorem Ld:br cr (af "addr")=true:=by decide
theorem Pt:bb cr (af "pos")=true:=by decide
theorem KY:bb cr (af "escape")=true:=by decide
theorem m7 {x:Str} {d:PV} (h:σ.lookup x=some (.sh d)):gx σ x=some d:=by unfold gx;exact aa h rfl
theorem aH {x:Str} {d:PV} (h:σ.lookup x=some (.sh d)):fW σ x=some d:=by unfold fW;exact aa h rfl
theorem m0 {x:Str} {d:PV} {q:Pos} {sc:Scope} (hx:br sc x=true) (h:σ.lookup x=some (.sh d)):pe O (n+1) sc σ (.Name x q)=some d:=by refine aa rg (aa (if_pos hx) ?_);exact m7 h
theorem En {x:Str} {d:PV} {q:Pos} {sc:Scope} (hx:br sc x=true) (h:σ.lookup x=some (.sh d)):pa O (n+1) sc σ (.Name x q)=some d:=by exact (if_pos hx).trans (aH h)
theorem jG {x:Str} {d:PV} {q:Pos} {sc:Scope} (hx:br sc x=true) (h:σ.lookup x=some (.sh d)):pT O (n+2) sc σ (.Name x q)=eO d:=by refine (?_:(match pa O (n+1) sc σ (.Name x q) with|some d=>eO d|none=>none)=_);exact aa (En hx h) rfl
theorem RA {i:Int} {c:Str} (h1:σ.lookup (af "pos")=some (.sh (.int i))) (h2:σ.lookup (af "ch")=some (.sh (.str c))):pe O 9 cr σ (wU p)=some (.tup [.int i,.str c]):=by unfold wU;refine aa uj ?_;rw[aG (m0 xl h1) (aG (m0 w8 h2) a7)];rfl
theorem yg {q:Pos}:pe O (n+1) cr σ (.Constant (.str (af "\\")) 0 q)=some (.str e8):=by refine aa JK ?_;rfl
theorem LK {i:Int} {c:Str} (h1:σ.lookup (af "pos")=some (.sh (.int i))) (h2:σ.lookup (af "ch")=some (.sh (.str c))) (hc:c.length=1):pe O 9 cr σ (wY p)=some (.tup [.int i,.str (e8++c)]):=by
 unfold wY;refine aa uj ?_;have e:pe O 8 cr σ (.BinOp (.Constant (.str (af "\\")) 0 (p 21)) .Add (.Name (af "ch") (p 22)) (p 23))=some (.str (e8++c)):=by refine aa rF ?_;refine aa yg (aa (m0 w8 h2) ?_);refine (?_:(if aZ (e8.length+c.length)=true then some (PV.str (e8++c)) else none)=_);refine aa hc ?_;rfl
 rw[aG (m0 xl h1) (aG e a7)];rfl
theorem Ry {i:Int} (h1:σ.lookup (af "pos")=some (.sh (.int i))):pe O 9 cr σ (xC p)=some (.tup [.int i,.str e8]):=by unfold xC;refine aa uj ?_;rw[aG (m0 xl h1) (aG yg a7)];rfl
theorem v8 {b:Bool} {q1 q2 q3:Pos}:px O 9 cr σ (rP b q1 q2 q3)=some (.nx (put σ (af "escape") (.sh (.bool b)))):=by exact (qO (q:=q1)).trans (if_pos KY)
theorem Kf {q1 q2 q3:Pos}:px O 9 cr σ (.Assign [.Name (af "pos") q1] (.Constant (.int 0) 0 q2) q3)=some (.nx (put σ (af "pos") (.sh (.int 0)))):=by exact qO.trans (if_pos Pt)
theorem MC {c:Str} {q1 q2 q3:Pos} (h2:σ.lookup (af "ch")=some (.sh (.str c))):pT O 9 cr σ (.Compare (.Name (af "ch") q1) [.Eq] [.Constant (.str (af "\\")) 0 q2] q3)=some (c==e8):=by
 have e:pa O 8 cr σ (.Compare (.Name (af "ch") q1) [.Eq] [.Constant (.str (af "\\")) 0 q2] q3)=some (.bool (c==e8)):=by
  refine (?_:pe O 7 cr σ (.Compare (.Name (af "ch") q1) [.Eq] [.Constant (.str (af "\\")) 0 q2] q3)=_);refine aa uM ?_;have e1:pa O 6 cr σ (.Constant (.str (af "\\")) 0 q2)=some (.str e8):=by refine (?_:pe O 5 cr σ (.Constant (.str (af "\\")) 0 q2)=_);exact yg
  exact aa (En w8 h2) (aa e1 rfl)
 refine (?_:(match pa O 8 cr σ _ with|some d=>eO d|none=>none)=_);exact aa e rfl
theorem lj {x:Str} {d:PV} (h:jB σ) (hd:d.flat=true):jB (put σ x (.sh d)):=λy e q=>by rw[cE] at q;exact nv q (λζ q=>au d (ak q).symm hd) λζ q=>h y e q
end
noncomputable def rn (wr:List Addr) (env:Env) (I:ae->Prop):Prop:=∀s s',I s->(∀b∈wr,b≠env.locals->∀o,s.heap.get? b=some o->s'.heap.get? b=some o)->I s'
section
variable {X:Cx} {A:aM} {a:Addr} {g gm:Nat} {s s' s₀:ae} {env:Env} {sc:Scope} {σ σ':Sg} {O:Orc} {k n:Nat} {wr wr0:List Addr} {p:Nat->Pos} {F:End->ae->Prop}
theorem s8 {I:ae->Prop} {c:lK} {fs:List mT} {K:eW->bp Fin} {H:Value->bp Fin} {gd:Bool->Bool} {lv:List Value->List Value} {st:aN} (G:GS X a g gm sc env wr0 wr s₀ σ s) (OK:bg X O k) (LZ:bR X) (R:aK (A.over c fs) (k+2)) (hgm:gm<=g) (hc:env.cells=[]) (h:px O n sc σ st=some (.nx σ')) (fl':jB σ') (hI:I s) (hIf:rn wr env I) (next:∀s',GS X a g gm sc env wr0 wr s₀ σ' s'->I s'->bK (aq X.prog X.w) A F c (K .next) fs s'):bK (aq X.prog X.w) A F c ((dr st env).wrap K H gd lv) fs s:=by
 refine jO (ax ((rO OK LZ R n).1 sc env σ [] [] st _ s h G.S G.V) (λfl s1 h1=>?_) λζ ζ f=>f.elim);refine bf h1 λe0_ hn=>?_;clear h1;subst e0_;refine next s1 (G.set hgm hc fl' hn) (hIf s s1 hI λb hb hne o e=>?_);refine dI hn λown' S' k' ζ V'=>?_;clear hn;refine bo (G.live b hb) λo' e' ht ζ=>?_;replace e':=e▸e';have h_:=ak e';clear e';subst h_;refine k'.kb b o (λq=>?_) ht e;unfold aV at q;rcases ao.mp q with q|q
 ·exact hne q
 ·rcases be.mp q with q|q
  ·refine ah (ea q) λx hm ζ=>?_;replace hm:=hc▸hm;cases hm
  ·exact nomatch q
theorem x4 {I:ae->Prop} {c:lK} {fs:List mT} {K:eW->bp Fin} {H:Value->bp Fin} {gd:Bool->Bool} {lv:List Value->List Value} {t:ac} {b o:List aN} {pos:Pos} {r:Bool} (G:GS X a g gm sc env wr0 wr s₀ σ s) (OK:bg X O k) (LZ:bR X) (R:aK (A.over c fs) (k+2)) (hgm:gm<=g) (h:pT O n sc σ t=some r) (hI:I s) (hIf:rn wr env I) (next:∀s',GS X a g gm sc env wr0 wr s₀ σ s'->I s'->bK (aq X.prog X.w) A F c ((if r=true then db b env else db o env).wrap K H gd lv) fs s'):bK (aq X.prog X.w) A F c ((dr (.If t b o pos) env).wrap K H gd lv) fs s:=by refine Os (ax (li OK LZ R n sc σ env [] [] t r s h G.S G.V) (λq s1 h_0=>aL h_0 λS1 k1 e1=>?_) λζ ζ f=>f.elim);subst e1;refine next s1 (G.stp hgm S1 k1) (hIf s s1 hI λb hb hne o e=>?_);refine bo (G.live b hb) λo' e' ht ζ=>?_;replace e':=e▸e';have h_:=ak e';clear e';subst h_;exact k1.kb b o (λq=>nomatch q) ht e
noncomputable def gJ (x:Str) (t:cJ) (en it:Addr) (i:Nat) (s:ae):Prop:=(∃old,pV s.heap en it (i:Int) old)/\s.heap.IsStrIter it (fK x) x t i
theorem Bk {x:Str} {t:cJ} {en it:Addr} {i:Nat} (h1:env.locals≠en) (h2:env.locals≠it):rn [env.locals,en,it] env (gJ x t en it i):=λs s' hI hk=>by obtain ⟨⟨old,e⟩,o,e2,r⟩:=hI;exact⟨⟨old,hk en (.tail _ (.head _)) (ek h1) _ e⟩,o,hk it (.tail _ (.tail _ (.head _))) (ek h2) o e2,r⟩
theorem CH {x:Str} {t:cJ} {en it:Addr} {i:Nat} (h:gJ x t en it i s):∀b∈[en,it],∃o,s.heap.get? b=some o/\cG o=false/\∀its n,o.data≠.seq its n:=λb hb=>by
 obtain ⟨⟨old,e⟩,o,e2,hcl,hd⟩:=h;simp only[ao,ba,or_false] at hb;rcases hb with rfl|rfl
 ·exact jD _ e rfl (λits n q=>by cases q)
 ·exact jD o e2 (ee hcl) (λits n q=>by replace q:=hd▸q;cases q)
structure GN (i:Nat) (e:Bool) (σ:Sg):Prop where
 esc:σ.lookup (af "escape")=some (.sh (.bool e))
 pos:e=true->σ.lookup (af "pos")=some (.sh (.int ((i:Int) - 1)))
theorem Ls {pp:Pos} {K:eW->bp Fin} {H:Value->bp Fin} {x:Str} {t:cJ} {en it:Addr} {fs:List mT} {body:List aN} (OK:bg X O 0) (LZ:bR X) (R:aK A 8) (hgm:gm<=g) (hc:env.cells=[]) (hco:env.scope.isCoroutine=false) (hi:ow env=false) (hI:X.h0.get? it=none) (hE:X.h0.get? en=none) (hne:en≠it) (h1:env.locals≠en) (h2:env.locals≠it) (hfs:fs=[.ret (Er env K H id id) none false [] (.func body env) pp []]) (fin:∀s σ s₀ wr0 i e,GS X a g gm cr env wr0 [env.locals] s₀ σ s->GN i e σ->bK (aq X.prog X.w) A.in1 (nj X A.in1 a g gm (fg i e []) (a::wr0) wr0 s₀) (.func body env) (K .next) [] s):∀(r:List Str) (i:Nat) (e:Bool) (σ:Sg) (s s₀:ae) (wr0:List Addr),(dL x).drop i=r->i<=(dL x).length->GS X a g gm cr env wr0 [env.locals,en,it] s₀ σ s->gJ x t en it i s->GN i e σ->
   bK (aq X.prog X.w) A.in1 (nj X A.in1 a g gm (fg i e r) (a::wr0) wr0 s₀) (.forLoop (kt p) (.ref en) (mf p) [] env) ((aq X.prog X.w).den (.forLoop (kt p) (.ref en) (mf p) [] env)) fs s:=by
 have Rl:aK (A.in1.over (.forLoop (kt p) (.ref en) (mf p) [] env) fs) 2:=by refine aa hfs ?_;exact (ML R).mono (mF _)
 have IT:∀{gm},iy X (A.in1.over (.forLoop (kt p) (.ref en) (mf p) [] env) fs) (kt p) (.ref en) (d8 0 (fx x)) [] [] (λi s=>gJ x t en it i s) [en,it] [en,it] gm:=λ{gm}=>C3 Rl.hh hI hE hne;have hsf:zh fs=none:=by refine aa hfs ?_;rfl
 have hgf:fs.any Wr=false:=by refine aa hfs ?_;rfl
 have hin:∀b∈[en,it],b∈[env.locals,en,it]:=λb hb=>.tail _ hb;have hln:env.locals∉[en,it]:=by simp[h1,h2]
 have hlf:∀{σ s s₀ wr0},GS X a g gm cr env wr0 [env.locals,en,it] s₀ σ s->∀{s1:ae} {g':Nat},bx [en,it] g' s s1->∀o,s.heap.get? env.locals=some o->s1.heap.get? env.locals=some o:=λ{σ s s₀ wr0} G {s1 g'} k o e=>by refine bo (G.live env.locals (.head _)) λo' e' ht ζ=>?_;replace e':=e▸e';have h_:=ak e';clear e';subst h_;exact k.kb _ o hln ht e
 intro r
 induction r with
 |nil=>
  intro i e σ s s₀ wr0 hr hil G hst N;have hlen:i=(d8 0 (fx x)).length:=by
   rw[tQ];have:(dL x).length<=i:=List.drop_eq_nil_iff.mp hr;have e:(fx x).length=(dL x).length:=by simp[fx]
   exact QN hil this e
  refine Co (ax (IT.done (gm:=g+1) s (hlen▸hst) G.S) (λr s1 h_1=>aL h_1 λe1 S1 k1=>?_) λζ ζ f=>f.elim);subst e1;refine (?_:bK _ A.in1 _ (.block [] env) (Fy (.ok .next)) fs s1);refine aa hfs ?_;refine TV _ ?_;refine (?_:bK _ A.in1 _ (.func body env) (K .next) [] s1)
  exact fin s1 σ s₀ wr0 i e (G.move (V:=[en,it]) (wr':=[env.locals]) (g':=g+1) (eH _) (sg hgm) S1 k1 hin (G.V.flatK hc G.fl (λζ q=>nomatch q) (hlf G k1)) G.fl (λb hb=>by simp at hb;simp[hb]) (.head _)
   (λb hb q=>by simp at q;exact absurd hb (q▸hln))) N
 |cons c r ih=>
  intro i e σ s s₀ wr0 hr hil G hst N;have hci:(dL x)[i]?=some c:=by refine aA Fj (aa hr ?_);rfl
  have hil':i+1<=(dL x).length:=(FE.mp hci).1;have hr':(dL x).drop (i+1)=r:=by refine aA List.tail_drop (aa hr ?_);rfl
  have hcl:c.length=1:=by unfold dL at hci;replace hci:=eJ▸hci;refine ah (gA.mp hci) λu ζ e2_=>?_;subst e2_;rfl
  have hg:(d8 0 (fx x))[i]?=some (.tup [.int ((i:Nat):Int),.str c]):=by
   have:(fx x)[i]?=some (.str c):=by unfold fx;refine aa eJ (aa hci ?_);rfl
   have hlt:i<(d8 0 (fx x)).length:=by rw[tQ];exact (FE.mp this).1
   refine ah (yu (gQ hlt)) λe' q1 q2=>?_;replace q1:=this▸q1;have h_:=ak q1;clear q1;subst h_;refine aa (gQ hlt) (aa q2 ?_);rw[jr]
  have hW:b8 [en,it] s.heap:=λb hb=>bo (G.live b (hin b hb)) λo e ht ζ=>⟨o,e,ht⟩
  refine Co (ax (IT.item (gm:=g+1) i _ [en,it] s hg hst G.S hW rfl (λb hb=>hb)) (λq s1 h_2=>ah h_2 λv e1 hlet=>?_) λζ ζ f=>f.elim);subst e1;refine ax hlet (λζ s2 h_3=>eZ h_3 λrv st2 S2 k2=>?_) λζ ζ f=>f.elim;have G2:=G.move (V:=[en,it]) (wr':=[env.locals,en,it]) (g':=g+1) (eH _) (sg hgm) S2 k2 hin (G.V.flatK hc G.fl (λζ q=>nomatch q) (hlf G k2)) G.fl (λζ z=>z) G.hm (λb hb ζ=>CH st2 b hb);have ha:bD false cr 4 σ (kt p) (.tup [.int ((i:Nat):Int),.str c])=some (put (put σ (af "pos") (.sh (.int (i:Int)))) (af "ch") (.sh (.str c))):=rfl;refine ax (nD Rl.hh 4 σ (kt p) _ _ s2 [] v ha S2 G2.V (rv.sub λb q=>by simp[av] at q)) (λζ s3 h_4=>dI h_4 λown3 S3 k3 o3 V3=>?_) λζ ζ f=>f.elim;have N2:fz X cr env [] [] s2 (put (put σ (af "pos") (.sh (.int (i:Int)))) (af "ch") (.sh (.str c))) s3:=⟨own3,S3,k3,nM o3,V3⟩
  have fl2:jB (put (put σ (af "pos") (.sh (.int (i:Int)))) (af "ch") (.sh (.str c))):=lj (lj G.fl rfl) rfl;have G3:=G2.set hgm hc fl2 N2;have st3:gJ x t en it (i+1) s3:=Bk (env:=env) h1 h2 s2 s3 st2 λb hb hne o e=>by
   refine bo (G2.live b hb) λo' e' ht ζ=>?_;replace e':=e▸e';have h_:=ak e';clear e';subst h_;refine k3.kb b o (λq=>?_) ht e;unfold aV at q;rcases ao.mp q with q|q
   ·exact hne q
   ·rcases be.mp q with q|q
    ·refine ah (ea q) λx hm ζ=>?_;replace hm:=hc▸hm;cases hm
    ·exact nomatch q
  revert G3;revert fl2;refine bY (put (put σ (af "pos") (.sh (.int (i:Int)))) (af "ch") (.sh (.str c))) λσ2 hσ=>?_;intro fl2 G3;have l1:σ2.lookup (af "pos")=some (.sh (.int (i:Int))):=by (refine aA hσ ?_;rw[cE,if_neg (by decide),cE,if_pos rfl])
  have l2:σ2.lookup (af "ch")=some (.sh (.str c)):=by (refine aA hσ ?_;rewrite[cE];exact aa (if_pos rfl) rfl)
  have l3:σ2.lookup (af "escape")=some (.sh (.bool e)):=by (refine aA hσ ?_;rw[cE,if_neg (by decide),cE,if_neg (by decide)]);exact N.esc
  have Rk:aK (A.in1.over (.forLoop (kt p) (.ref en) (mf p) [] env) fs) (0+2):=Rl;have IF:rn [env.locals,en,it] env (gJ x t en it (i+1)):=Bk h1 h2;have hyf:∀s s':ae,gJ x t en it (i+1) s->s.gens.size<=s'.gens.size->(∀b∈[env.locals,en,it],∀o,s.heap.get? b=some o->s'.heap.get? b=some o)->(∀j,j<s.gens.size->s'.gens[j]?=s.gens[j]?)->gJ x t en it (i+1) s':=λs s' q ζ z ζ=>IF s s' q λb hb ζ=>z b hb;unfold mf;refine jJ (x4 (n:=9) (I:=gJ x t en it (i+1)) G3 OK LZ Rk hgm (jG zI l3) st3 IF λs4 G4 st4=>?_)
  induction e using dF with
  |true=>refine aa (if_pos rfl) ?_;refine aa qW ?_;simp only[if_true];refine jJ (xS (I:=gJ x t en it (i+1)) G4 OK LZ Rk hgm hc hsf hco hi rfl hgf (LK l1 l2 hcl) (fm_ rfl (fm_ rfl kD)) st4 hyf λs5 G5 st5=>?_);refine jJ (s8 (I:=gJ x t en it (i+1)) G5 OK LZ Rk hgm hc v8 (lj fl2 rfl) st5 IF λs6 G6 st6=>?_);refine uy rfl ?_;exact ih (i+1) false _ s6 _ _ hr' hil' G6 st6 ⟨aS,λq=>nomatch q⟩
  |false=>
   rw[if_neg (by decide)];refine aa qW ?_;simp only[dp,if_false];refine jJ (x4 (n:=9) (I:=gJ x t en it (i+1)) G4 OK LZ Rk hgm (MC l2) st4 IF λs5 G5 st5=>?_);cases hcb:c==e8 with
   |true=>refine aa (if_pos rfl) (aa (if_pos rfl) ?_);refine jJ (s8 (I:=gJ x t en it (i+1)) G5 OK LZ Rk hgm hc v8 (lj fl2 rfl) st5 IF λs6 G6 st6=>?_);refine uy rfl ?_;refine ih (i+1) true _ s6 _ _ hr' hil' G6 st6 ⟨aS,λζ=>?_⟩;rw[cE,if_neg (by decide),l1];simp
   |false=>rw[if_neg (by decide),if_neg (by decide)];refine jJ (xS (I:=gJ x t en it (i+1)) G5 OK LZ Rk hgm hc hsf hco hi rfl hgf (RA l1 l2) (fm_ rfl (fm_ rfl kD)) st5 hyf λs6 G6 st6=>?_);refine uy rfl ?_;exact ih (i+1) false _ s6 _ _ hr' hil' G6 st6 ⟨l3,λq=>nomatch q⟩
end
section
variable {X:Cx} {A:aM} {a:Addr} {g gm:Nat} {s s' s₀:ae} {env:Env} {sc:Scope} {σ σ':Sg} {O:Orc} {k n:Nat} {wr wr0:List Addr} {p:Nat->Pos} {F:End->ae->Prop}
theorem He {x:Str} (OK:bg X O 0) (LZ:bR X) (R:aK A 2) (S:ai X s) (V:ap X cr env σ [] [] s.heap) (hx:σ.lookup (af "addr")=some (.sh (.str x))):Ev X A s (aJ (sZ p) env) (λy s1=>∃en it t,y=.ref en/\gJ x t en it 0 s1/\s.heap.get? en=none/\s.heap.get? it=none/\en≠it/\(∃o,s1.heap.get? en=some o)):=by
 have hm:aX (pe O 9 cr σ) [.Name (af "addr") (p 14)]=some [.str x]:=by exact aG (m0 Ld hx) a7
 unfold sZ;refine oY (g:=.type "enumerate") OK S V (by decide) rfl (jf hm) (λs' S' k'=>fP (du OK LZ R 9) hm S' (V.keep k'.kb)) λvs s' S' k' r=>?_;refine bw r λv u e2_ r1 e4_=>?_;clear r;subst e2_;subst e4_;obtain ⟨⟨t,rfl⟩,_⟩:=r1;refine Vu λh' he hi ζ hk=>⟨S'.keep hk,ag.keep hk,_,_,t,rfl,⟨⟨_,he⟩,hi⟩,k'.none ?_,k'.none d9,Vt _,_,he⟩
 cases e:s'.heap.get? (s'.heap.objs.size+1) with
 |none=>rfl
 |some o=>exact absurd (fm e) (Vs (eH _))
theorem GS.grow {s1:ae} {l:List Addr} (G:GS X a g gm sc env [env.locals] [env.locals] s₀ σ s) (hgm:gm<=g) (S1:ai X s1) (k1:ag [] s s1) (hn:∀b∈l,s.heap.get? b=none) (hl:∀b∈l,∃o,s1.heap.get? b=some o/\cG o=false/\∀its n,o.data≠.seq its n):GS X a g gm sc env [env.locals] (env.locals::l) s₀ σ s1:=
 have G1:=G.stp hgm S1 k1
 {G1 with
  live:=λb hb=>(ao.mp hb).elim (λq=>q▸G1.live _ G1.hm) (hl b)
  nw:=λb hb=>(ao.mp hb).elim (λq=>.inl (q▸.head _)) λq=>.inr (by
   cases e:s₀.heap.get? b with
   |none=>rfl
   |some o=>
    obtain ⟨o',e'⟩:=G.k.th b o (λz=>by
     simp only[ao,ba,or_false] at z
     refine ah (G.live _ G.hm) λo2 e2 ζ=>?_
     replace e2:=(c5 z)▸e2;replace e2:=(hn b q)▸e2;exact ab e2) e
    replace e':=(hn b q)▸e';exact ab e')
  hm:=.head _
  na:=λq=>(ao.mp q).elim (λz=>G.na (z▸.head _)) λz=>by
   refine jP G.isg λo ζ ζ e ζ=>?_
   replace e:=(hn a z)▸e;exact ab e}
theorem Un {x:Str} (OK:bg X O 0) (LZ:bR X) (R:aK A 8) (hgm:gm<=g) (hc:env.cells=[]) (hco:env.scope.isCoroutine=false) (hi:ow env=false) (G:GS X a g gm cr env [env.locals] [env.locals] s₀ σ s) (hx:σ.lookup (af "addr")=some (.sh (.str x))):bK (aq X.prog X.w) A.in1 (nj X A.in1 a g gm (fg 0 false (dL x)) [a,env.locals] [env.locals] s₀) (.func (lY p) env) ((aq X.prog X.w).den (.func (lY p) env)) [] s:=by
 have Rf:aK (A.in1.over (.func (lY p) env) []) (0+2):=(QJ R).mono (mF _);have IF:rn [env.locals] env (λζ=>True):=λζ ζ ζ ζ=>trivial;refine Ro ?_;refine (?_:bK _ _ _ _ ((db (.Assign [.Name (af "pos") (p 0)] (.Constant (.int 0) 0 (p 1)) (p 2)::rP false (p 3) (p 4) (p 5)::.For (kt p) (sZ p) (mf p) [] (p 16)::wR p) env).wrap _ _ _ _) _ _);have fl1:=lj (x:=af "pos") (d:=.int 0) G.fl rfl;have fl2:=lj (x:=af "escape") (d:=.bool false) fl1 rfl;refine jJ (s8 (I:=λζ=>True) G OK LZ Rf hgm hc Kf fl1 trivial IF λs1 G1 ζ=>?_);refine jJ (s8 (I:=λζ=>True) G1 OK LZ Rf hgm hc v8 fl2 trivial IF λs2 G2 ζ=>?_);have hx2:(put (put σ (af "pos") (.sh (.int 0))) (af "escape") (.sh (.bool false))).lookup (af "addr")=some (.sh (.str x)):=by refine aw (by decide) ?_;refine aw (by decide) ?_;exact hx
 refine jJ (GP (λζ=>rfl) (ax (He OK LZ Rf G2.S G2.V hx2) (λy s3 h_=>aL h_ λS3 k3 h_=>i8 h_ λen it t h_=>oD h_ λe st n1 n2 hne h_=>ay h_ λo he=>?_) λζ ζ f=>f.elim));subst e;obtain ⟨⟨old,hen⟩,hit⟩:=id st;refine vz hen λpp=>?_;have hloc:∀b,s2.heap.get? b=none->env.locals≠b:=λb hb q=>by refine ah (G2.live _ G2.hm) λo e ζ=>?_;replace e:=q▸e;replace e:=hb▸e;exact ab e
 have G3:=G2.grow (l:=[en,it]) hgm S3 k3 (λb hb=>by
  simp only[ao,ba,or_false] at hb;rcases hb with rfl|rfl
  ·exact n1
  ·exact n2) (CH st)
 refine Ls (pp:=pp) OK LZ R hgm hc hco hi (G2.S.fresh n2) (G2.S.fresh n1) hne (hloc en n1) (hloc it n2) rfl (λs σ s₀ wr0 i e G N=>?_) (dL x) 0 false _ s3 s₀ [env.locals] rfl (iY _) G3 st
  ⟨aS,λq=>nomatch q⟩
 unfold wR;refine jJ (x4 (n:=9) (I:=λζ=>True) G OK LZ Rf hgm (jG zI N.esc) trivial IF λs4 G4 ζ=>?_)
 induction e using dF with
 |true=>refine aa (if_pos rfl) ?_;refine aa Cg ?_;refine aa (if_pos rfl) ?_;refine jJ (xS (I:=λζ=>True) G4 OK LZ Rf hgm hc rfl hco hi rfl rfl (Ry (N.pos rfl)) (fm_ rfl (fm_ rfl kD)) trivial (λζ ζ ζ ζ ζ ζ=>trivial) λs5 G5 ζ=>?_);exact z6 (.ok (.ret .none)) ⟨rfl,G5.S,G5.k⟩
 |false=>rw[if_neg (by decide)];refine aa Cg ?_;rw[if_neg (by decide)];exact z6 (.ok (.ret .none)) ⟨rfl,G4.S,G4.k⟩
structure wJ (X:Cx) (fa:Addr) (fd:fZ) (p:Nat->Pos):Prop where
 ho:∃o,X.h0.get? fa=some o/\o.cls=.type "function" /\o.data=.func fd
 gl:fd.globals=df
 bi:fd.builtins=kG
 cl:fd.closure=[]
 bd:fd.body=.stmts (lY p)
 sc:fd.scope=cr
 cd:∀h,pP X.h0 h->h.CodeRec fd.code fd.qualname
 bind:∀v:Value,lJ fd ⟨[v],[]⟩=pure [(af "addr",v)]
theorem IU {fa:Addr} {fd:fZ} {x:Str} {vs:List Value} {W:List Addr} (OK:bg X O 0) (LZ:bR X) (F:wJ X fa fd p) (R:aK A 8) (S:ai X s) (w:b8 W s.heap) (r:ar W s.heap [.str x] vs):Ev X A s (call (.ref fa) vs) (λy s1=>Ev X A s1 (fY y) (λit s2=>∃St fp wr,mu X A it (fg 0 false (dL x)) St s.gens.size/\St 0 fp wr s2/\∀b∈fp,s.heap.get? b=none)):=by
 refine bo F.ho λo ho hcl hd=>?_;have hof:=S.old.get_of_cls ho (by refine aa hcl ?_;nofun);have hr:=r;refine bw r λv u e2_ r1 e4_=>?_;clear r;subst e2_;subst e4_;refine Fx (codeAny_call_generator R.depth hof hd (by refine aa F.sc ?_;rfl) (by refine aa F.sc ?_;rfl) F.bd (F.cd s.heap S.old) ?_);refine aa (F.bind v) (aa F.cl (aa F.gl (aa F.bi (aa F.sc ?_))));refine aI ?_;simp only[sB,y0,dp,if_false];refine aj (y7 ?_);refine aj (y8 _ (λζ ζ ζ=>rfl) _ _ _ _ ?_);refine aa (show ({s with heap:=s.heap.push {cls:=.type "frame",data:=.dict #[]}}:ae).heap.objs.size=s.heap.objs.size+1 from lG ..) ?_;refine bY (({s with heap:=mQ (s.heap.push {cls:=.type "frame",data:=.dict #[]}) cr.names}:ae)) λs1 hs1=>?_;have kk:∀b o,s.heap.get? b=some o->s1.heap.get? b=some o:=λb o e=>by refine aA hs1 ?_;exact sx _ _ _ _ (bz _ _ e)
 have S1:ai X s1:=by have:=S.keep (tk:=s.toks) (h':=s1.heap) kk;rw[<- hs1] at this ⊢;exact this
 have k1:ag [] s s1:=by have:=ag.keep (W:=[]) (s:=s) (tk:=s.toks) (h':=s1.heap) kk;rw[<- hs1] at this ⊢;exact this
 refine bY (({scope:=cr,locals:=s.heap.objs.size,globals:=df,cells:=d7 (s.heap.objs.size+1) cr.names [],qual:=fd.qualname++ ".<locals>.",func:=some fa,code:=fd.code,frame:=some s.heap.objs.size,builtins:=kG}:Env)) λenv henv=>?_;have kd:∀x,env.kindOf x=cr.names.lookup x:=λx=>by refine aA henv ?_;rfl
 have nf:∀x,cr.names.lookup x≠some .free:=λx q=>by have h:=ck q;simp[cr] at h
 have V1:ap X cr env [] [] W s1.heap:=by
  refine aA hs1 ?_;refine tm (cl:=[]) S (by decide) (λx k hk=>?_) (by refine aA henv ?_;rfl) (aA henv rfl) (aA henv rfl) (aA henv rfl) (aA henv rfl) (λx hx=>(kd x).trans hx) (λx hx=>?_) (λx hx=>?_) (λx c q=>nomatch q) (λx y c q=>nomatch q) (λx hx=>absurd hx (nf x)) w (λx e q=>nomatch q)
  ·have hall:∀y∈cr.names,cy y.1=true:=by decide
   exact hall _ hk
  ·exact rz hx (λe=>.inl ((kd x).trans e)) λe=>.inr ((kd x).trans e)
  ·exact (kd x).trans (tH hx)
 have hce:env.cells=[]:=by refine aA henv ?_;rfl
 have hcov:env.scope.isCoroutine=false:=by refine aA henv ?_;rfl
 have hii:ow env=false:=by refine aA henv ?_;rfl
 have hlo:env.locals=s.heap.objs.size:=aA henv rfl;refine aj (ax (tR [af "addr"] [.str x] [v] env [] s1 rfl (by decide) S1 V1 (hr.keep k1.kb)) (λζ s2 h_1=>aL h_1 λS2 k2 V2=>?_) λζ ζ f=>f.elim);refine aI ⟨S2.lim,?_⟩;have kp:∀b o,s2.heap.get? b=some o->(s2.heap.push {cls:=.type "generator",data:=.fields #[.int s2.gens.size 0,.str fd.name s2.toks,.str fd.qualname (s2.toks+1)]}).get? b=some o:=λb o e=>bz _ _ e;refine bY (({s2 with gens:=s2.gens.push (.fresh (.func (lY p) env)),toks:=s2.toks+1+1,heap:=s2.heap.push {cls:=.type "generator",data:=.fields #[.int s2.gens.size 0,.str fd.name s2.toks,.str fd.qualname (s2.toks+1)]}}:ae)) λs3 hs3=>?_;have S3:ai X s3:=by have h:=S2.keep (tk:=s2.toks+1+1) kp;refine aA hs3 ?_;exact {x:=h.x,old:=h.old,g:=h.g,b:=h.b,lim:=h.lim,tab:=h.tab,os:=h.os,bare:=λy hy=>(Array.mem_push.mp hy).elim (λq=>S2.bare y q) λq=>aa q rfl}
 have fresh:∀b∈aV cr env [],b=s.heap.objs.size:=λb hb=>by
  unfold aV at hb;rcases ao.mp hb with q|q
  ·exact q.trans hlo
  ·rcases be.mp q with q|q
   ·refine ah (ea q) λx hm ζ=>?_;replace hm:=hce▸hm;cases hm
   ·exact nomatch q
 have k02:ag [] s s2:=bx.after k1 (bx.of k2) (λb hb=>fresh b hb▸d9) k1.gsz;have k23:ag [] s2 s3:=by refine aA hs3 ?_;exact⟨Kb.of_keep kp,λb o e=>⟨o,kp b o e⟩,by simp,λi hi=>by simp[Array.getElem?_push,ly hi]⟩
 have k03:=k02.trans k23;have hg3:s3.heap.IsGen s2.heap.objs.size s2.gens.size:=by refine aA hs3 ?_;exact v7 _ _ _ (dT _ rfl) rfl rfl rfl
 have V3:=V2.keep k23.kb;refine dX S3 k03 (wpAny_pyIter_gen hg3 ⟨S3,ag.refl,BV X A s2.heap.objs.size s2.gens.size s.gens.size (fg 0 false (dL x)),[s2.heap.objs.size,env.locals],[env.locals],TA (R.mono (b7 _ _)) k02.gsz,?_,λb hb=>?_⟩)
 ·obtain ⟨m,oF,es,ep,eF,hdF,_⟩:=V3.ns;have tF:cG oF=false:=fe (λvs q=>by replace q:=hdF▸q;cases q);have nF:∀its n,oF.data≠.seq its n:=λits n q=>by replace q:=hdF▸q;cases q
  have hne:s2.heap.objs.size≠env.locals:=λq=>by obtain ⟨m,o,_,_,e,_⟩:=V2.ns;replace e:=(c5 q)▸e;replace e:=d9▸e;exact ab e
  have L:nz s2.heap.objs.size s2.gens.size [s2.heap.objs.size,env.locals] [env.locals] s3:=
   {sub:=λb hb=>.tail _ hb,mem:=.head _,isg:=hg3
    nw:=by simpa using hne
    live:=λb hb=>by
     simp only[ao,ba,or_false] at hb;rcases hb with rfl|rfl
     ·exact Ei hg3
     ·exact au oF eF tF
    nseq:=λb hb o e=>by
     simp only[ao,ba,or_false] at hb
     replace e:=hb▸e;replace e:=eF▸e;have h_:=ak e;clear e;subst h_;exact nF}
  refine⟨L,.fresh (.func (lY p) env),by refine aA hs3 ?_;simp,λs'' Fr S''=>?_⟩;have fl:jB (bI [] ([af "addr"].zip ([PV.str x].map .sh))):=lj (σ:=[]) (λy e q=>nomatch q) rfl;refine Un OK LZ R k02.gsz hce hcov hii (σ:=bI [] ([af "addr"].zip ([PV.str x].map .sh))) ?_ (by refine (?_:(put [] (af "addr") (.sh (.str x))).lookup _=_);exact aS);exact
   {S:=S'',V:=V3.flatK hce fl (λζ q=>nomatch q) (Fr.hp _ (.tail _ (.head _))),fl:=fl,run:=Fr.run
    isg:=(L.frame Fr.hp).isg
    live:=λb hb=>by simp only[ao,ba,or_false] at hb;refine aa hb ?_;exact jD oF (Fr.hp _ (.tail _ (.head _)) oF eF) tF nF
    k:=(bx.of (ag.refl (W:=[env.locals]))).mono (λζ z=>z) (aB k02.gsz (ej (vM.mp Fr.run).1)),nw:=λζ z=>.inl z,hm:=.head _,na:=L.nw}
 ·simp only[ao,ba,or_false] at hb;rcases hb with rfl|rfl
  ·exact k02.none d9
  ·refine aa hlo ?_;exact d9
end
noncomputable def hG (h:aP) (cv:Value) (qual:Str):Prop:=∃c o vs t,cv=.ref c/\h.get? c=some o/\o.cls=.type "code" /\o.data=.fields vs/\vs[1]?=some (.str qual t)
theorem hG.rec {h:aP} {cv:Value} {qual:Str} (x:hG h cv qual):h.CodeRec cv qual:=i8 x λc o vs h_=>IZ h_ λt e g ζ d q=>⟨c,o,vs,t,e,g,d,q⟩
theorem hG.of {h:aP} {c:Addr} {qual:Str} (r:h.CodeRec (.ref c) qual) (hc:∃o,h.get? c=some o/\o.cls=.type "code"):hG h (.ref c) qual:=by obtain ⟨c',o,vs,t,e,g,d,q⟩:=r;cases e;refine ah hc λo' g' hcl=>?_;clear hc;replace g':=g▸g';have h_:=ak g';clear g';subst h_;exact x8 c o vs t rfl g hcl d q
theorem hG.kb {W:List Addr} {h h':aP} {cv:Value} {qual:Str} (x:hG h cv qual) (k:Kb W h h') (hW:∀b∈W,∀o,h.get? b=some o->gt o):hG h' cv qual:=by obtain ⟨c,o,vs,t,e,g,hcl,hd,r⟩:=x;exact x8 c o vs t e (k c o (λq=>(hW c q o g).elim (λz=>z hcl) λz=>z _ hd) (ee hcl) g) hcl hd r
structure jY (X:Cx) (q:Tb):Prop where
 mem:q∈X.tabs
 bi:X.h0.BuiltinsAt X.mg q.P
 ne:df≠q.P
 uni:∀q'∈X.tabs,q'.P=q.P->q'=q
section
variable {X:Cx} {A:aM} {s:ae} {env:Env} {E:Value->ae->Prop}
theorem BuiltinsAt.old {h:aP} {P:Addr} (b:X.h0.BuiltinsAt X.mg P) (K:pP X.h0 h):h.BuiltinsAt X.mg P:=by obtain ⟨bm,o,h1,h2,h3,h4,h5,h6,r⟩:=b;exact LF bm o h1 h2 h3 h4 (K.get_of_cls h5 (by refine aa h6 ?_;nofun)) h6 r
theorem P5 {q:Tb} {h':aP} {tk:cJ} {c':Addr} (S:ai X s) (T:jY X q) (hs:s.heap.get? q.P=some (mI #[])) (he:oo q.P s.heap h') (hr:h'.CodeRec (.ref c') q.qual) (hc:∃o,h'.get? c'=some o/\o.cls=.type "code") (hp:h'.get? q.P=some (mI #[im q.pos.line,im q.pos.col,.ref c'])):ai X {s with heap:=h',toks:=tk}/\ag [] s {s with heap:=h',toks:=tk}:=by
 have ne:∀b o,s.heap.get? b=some o->o≠mI #[]->b≠q.P:=λb o e hn z=>by (replace e:=z▸e;replace e:=hs▸e);have h_:=ak e;clear e;subst h_;exact hn rfl
 have dne:∀b m,s.heap.Ns b m->b≠q.P:=λb m h_0=>jQ h_0 λo es ep e hd ζ=>ne b o e λz=>by replace hd:=z▸hd;cases hd
 refine bN (S.x.tb q T.mem) λc0 ps0 ht e0=>?_;have hps:ps0= #[]:=by
  rcases S.old.old q.P _ e0 with z|⟨_,_,vs,more,hv,z⟩|⟨_,_,⟨o',es,n,z,_,hd,_⟩,_⟩
  ·replace z:=hs▸z;cases z;rfl
  ·replace z:=hs▸z;cases hv;have:=jm z;injection this with _ _ h3 _;injection h3 with h4;have h5:ps0++more= #[]:=h4.symm;exact (Array.append_eq_empty_iff.mp h5).1
  ·replace z:=hs▸z;have h_:=ak z;clear z;subst h_;cases hd
 refine⟨{x:=S.x,old:=⟨λb o e=>?_,λb o e=>?_⟩,g:=S.g.extBut he T.ne,b:=?_,lim:=?_,tab:=λq' hq'=>?_,bare:=S.bare,os:=S.os},⟨λb o ζ ht e=>?_,λb o e=>?_,aT _,λζ ζ=>rfl⟩⟩
 ·by_cases hb:b=q.P
  ·subst hb;replace e:=e0▸e;have h_:=ak e;clear e;subst h_;exact .inr (.inl ⟨X6 ⟨ht,e0⟩,rfl,ps0,#[im q.pos.line,im q.pos.col,.ref c'],rfl,by refine aa hps (aa Ws ?_);exact hp⟩)
  ·rcases S.old.old b o e with z|⟨t,h1,vs,more,hv,z⟩|⟨rfl,h1,⟨o',es,n,z,r⟩,y⟩
   ·exact .inl (he b o hb z)
   ·exact .inr (.inl ⟨t,h1,vs,more,hv,he b _ hb z⟩)
   ·exact .inr (.inr ⟨rfl,h1,⟨o',es,n,he _ _ hb z,r⟩,λkey=>by rw[EL ((he _ _ hb z).trans z.symm) key];exact y key⟩)
 ·by_cases hb:b=q.P
  ·exact⟨_,hb▸hp⟩
  ·refine ay (S.old.there b o e) λo' e'=>?_;exact⟨o',he b o' hb e'⟩
 ·exact S.b.extBut he (dne _ _ S.b)
 ·refine ah S.lim λmc n r=>?_;exact au mc (n.extBut he (dne _ _ n)) r
 ·have hcd:vm h' q'.c q'.P:=by obtain ⟨o,vs,file,tf,flags,tg,inF,text,tt,e,hcl,r⟩:=(S.tab q' hq').1;exact⟨o,vs,file,tf,flags,tg,inF,text,tt,he _ o (ne _ o e λz=>by replace hcl:=z▸hcl;cases hcl) e,hcl,r⟩
  refine⟨hcd,?_⟩
  by_cases hb:q'.P=q.P
  ·cases T.uni q' hq' hb;exact .inr ⟨c',hp,hr,hc⟩
  ·rcases (S.tab q' hq').2 with z|⟨c2,z,⟨c3,o3,vs,tt,e1,e2,r⟩,o,e,hcl⟩
   ·exact .inl (he _ _ hb z)
   ·cases e1;have hne:c2≠q.P:=ne _ o e λy=>by replace hcl:=y▸hcl;cases hcl
    exact .inr ⟨c2,he _ _ hb z,⟨c2,o3,vs,tt,rfl,he _ _ hne e2,r⟩,o,he _ _ hne e,hcl⟩
 ·exact he b o (ne b o e λz=>by replace ht:=z▸ht;exact cL ht) e
 ·by_cases hb:b=q.P
  ·exact⟨_,hb▸hp⟩
  ·exact⟨o,he b o hb e⟩
theorem Uk {q:Tb} {name qual:Str} {params:sH} {body:List aN} {scope:Scope} {pos:Pos} {firstLine:Nat} {x0:Str×Addr} {clos:List (Str×Addr)} {Q:Value->ae->Prop} (S:ai X s) (T:jY X q) (hcl:sy scope env=pure (x0::clos)) (hge0:env.globals=df) (hcode:env.code=.ref q.c) (hpos:q.pos=pos) (hqual:q.qual=qual) (hdoc:docOf body=none) (h:∀s' f doc pm ct cv,ai X s'->ag [] s s'->s.heap.get? f=none->s'.heap.get? f=some {cls:=.type "function",data:=.func (fnX name qual params body scope (x0::clos) .none .none doc pm none cv ct)}->
   hG s'.heap cv qual->Q (.ref f) s'):
  al (aq X.prog X.w) A (makeFunction name qual params (.stmts body) scope env [] [] [] pos firstLine) Q E s:=by
 subst hpos hqual;rw[makeFunction_eq];simp only[List.zip_nil_right,List.filterMap_nil,List.isEmpty_nil,if_true,pure_bind];have C:=(S.tab q T.mem).1;have B:=BuiltinsAt.old T.bi S.old;rcases (S.tab q T.mem).2 with hP|⟨c',hP,hrec,oc,hoc,hccl⟩
 ·obtain ⟨bm,ob,hbm,hne0,_,hneP,hbo,hcls,hdict,hdata⟩:=B;unfold makeTail;refine aa hcl (aa hge0 ?_);refine aj (aI ?_);simp only[Wt,dp,if_false];refine aj (Wu ?_);refine aj (wpAny_functionCodeX hcode ((C.keeps λb o e=>gS _ e).code (gS _ hP) (by trivial)) ((C.keeps λb o e=>gS _ e).tab (gS _ hP)) rfl λc' h' tk hx hge hlt ζ hrec htb hw=>?_);obtain ⟨P',_,_,⟨⟨oc,vc,hoc,hcc,_⟩,_⟩⟩:=hw;have hx':oo q.P s.heap h':=λb o hb' e=>hx b o hb' (gS _ e);refine aj (Wv (S.g.extBut hx' T.ne) hbm hne0 (hx' _ _ hneP hbo) hcls hdict hdata ?_);refine aj (Ww (S.g.extBut hx' T.ne) ?_);refine aa hdoc ?_;refine aj (aI (kJ ?_ (by size_fits)));refine bf (P5 (tk:=tk) S T hP hx' hrec ⟨oc,hoc,hcc⟩ (by have:=htb.2;rwa [Ws] at this)) λS1 k1=>?_;have kp:∀b o,h'.get? b=some o->(h'.push (FF name q.qual params body scope (x0::clos) .none ((X.mg "__name__").getD .none) c' (.ref s.heap.objs.size))).get? b=some o:=λb o e=>bz _ _ e;have S2:=S1.keep (tk:=tk) kp;refine h _ h'.objs.size _ _ _ _ S2 (k1.trans (ag.keep kp)) (k1.none d9) (dT _ rfl) (.of (hrec.keeps kp) ⟨oc,kp _ _ hoc,hcc⟩)
 ·obtain ⟨bm,ob,hbm,hne0,_,hneP,hbo,hcls,hdict,hdata⟩:=B;unfold makeTail;refine aa hcl (aa hge0 ?_);refine aj (aI ?_);simp only[Wt,dp,if_false];have kp0:∀(o':d5) b o,s.heap.get? b=some o->(s.heap.push o').get? b=some o:=λζ b o e=>bz _ _ e;refine aj (Wu ?_);refine aj (wpAny_functionCode_hit hcode ((C.keeps (kp0 _)).code (kp0 _ _ _ hP) (by trivial)) (c':=.ref c') (by simp[codeAmong,im]) ?_);refine aj (Wv (S.g.push _) hbm hne0 (kp0 _ _ _ hbo) hcls hdict hdata ?_);refine aj (Ww (S.g.push _) ?_);refine aa hdoc ?_;refine aj (aI (kJ ?_ (by size_fits)));have key:∀(oT:d5) (ct:Value),Q (.ref (s.heap.push oT).objs.size) {s with heap:=(s.heap.push oT).push (FF name q.qual params body scope (x0::clos) .none ((X.mg "__name__").getD .none) c' ct)}:=λoT ct=>by
   have kp:∀b o,s.heap.get? b=some o->((s.heap.push oT).push (FF name q.qual params body scope (x0::clos) .none ((X.mg "__name__").getD .none) c' ct)).get? b=some o:=λb o e=>bz _ _ (bz _ _ e)
   exact h _ _ _ _ _ _ (S.keep (tk:=s.toks) kp) (ag.keep (tk:=s.toks) kp) (by
    cases e:s.heap.get? (s.heap.push oT).objs.size with
    |none=>rfl
    |some o=>exact absurd (fm e) (pY (by rw[lG];exact mF _))) (dT _ rfl) (.of (hrec.keeps kp) ⟨oc,kp _ _ hoc,hccl⟩)
  exact key _ _
end
structure rL (X:Cx) (s:ae) (fd:fZ) (ps:List Str) (body:List aN) (W:List Addr) (σ0:Sg):Prop where
 gl:fd.globals=df
 bi:fd.builtins=kG
 bd:fd.body=.stmts body
 co:fd.scope.isCoroutine=false
 ge:fd.scope.isGenerator=false
 kd:fd.scope.kind=.function
 nd:ew fd.scope.names=true
 nm:∀x k,(x,k)∈fd.scope.names->cy x=true
 pst:∀p∈ps,bb fd.scope p=true
 cd:s.heap.CodeRec fd.code fd.qualname
 bind:∀vs:List Value,vs.length=ps.length->lJ fd ⟨vs,[]⟩=pure (ps.zip vs)
 c1:∀x c,(x,c)∈fd.closure->fd.scope.names.lookup x=some .free/\(∃v,s.heap.IsCell c v)/\X.h0.get? c=none
 c2:∀x y c,(x,c)∈fd.closure->(y,c)∈fd.closure->x=y
 c3:∀x,fd.scope.names.lookup x=some .free->∃c,fd.closure.lookup x=some c
 hv:∀x e,σ0.lookup x=some e->fd.scope.names.lookup x=some .free/\∃d c v,e=.sh d/\fd.closure.lookup x=some c/\s.heap.IsCell c (some v)/\am W s.heap d v
section
variable {X:Cx} {A:aM} {s:ae} {W:List Addr}
theorem HZ {α:Type} {M:qf} {c:bp α} {Q:α->ae->Prop} {E:Value->ae->Prop} {s:ae} (h:∀Q':α->ae->Prop,(∀v s,Q v s->Q' v s)->al M A c Q' E s):al M A c Q E s:=h Q λζ ζ h=>h
set_option backward.match.sparseCases true in
theorem s9 {fa:Addr} {o:d5} {fd:fZ} {ps:List Str} {body:List aN} {as:List PV} {vs:List Value} {σ0:Sg} {Q:Value->ae->Prop} (F:rL X s fd ps body W σ0) (ho:s.heap.get? fa=some o) (hd:o.data=.func fd) (hl:ps.length=as.length) (hroom:A.depth<recursionLimit) (S:ai X s) (w:b8 W s.heap) (r:ar W s.heap as vs) (h:∀env s2,ap X fd.scope env (bI σ0 (ps.zip (as.map .sh))) [] W s2.heap->ai X s2->ag [] s s2->(∀b∈aV fd.scope env [],s.heap.get? b=none)->ow env=false->env.code=fd.code->
   env.cells=d7 (s.heap.objs.size+1) fd.scope.names fd.closure->env.qual=fd.qualname++ ".<locals>." ->env.scope=fd.scope->
   al (aq X.prog X.w) (A.deeper env) (db body env) (λfl s3=>Q (match fl with|.ret v=>v|_=>.none) s3) (λζ ζ=>False) s2):al (aq X.prog X.w) A (call (.ref fa) vs) Q (λζ ζ=>False) s:=by
 refine Fx (Wl hroom ho hd F.co F.ge F.bd F.cd ?_);rw[F.bind vs (aa r.length (aa hl rfl)),F.gl,F.bi];refine aI ?_;simp only[sB,y0,dp,if_false];refine aj (y7 ?_);refine aj (y8 _ (λζ ζ ζ=>rfl) _ _ _ _ ?_);refine aa (show ({s with heap:=s.heap.push {cls:=.type "frame",data:=.dict #[]}}:ae).heap.objs.size=s.heap.objs.size+1 from lG ..) ?_;refine bY (({s with heap:=mQ (s.heap.push {cls:=.type "frame",data:=.dict #[]}) fd.scope.names}:ae)) λs1 hs1=>?_;have kk:∀b o,s.heap.get? b=some o->s1.heap.get? b=some o:=λb o e=>by refine aA hs1 ?_;exact sx _ _ _ _ (bz _ _ e)
 have S1:ai X s1:=by have:=S.keep (tk:=s.toks) (h':=s1.heap) kk;rw[<- hs1] at this ⊢;exact this
 have k1:ag [] s s1:=by have:=ag.keep (W:=[]) (s:=s) (tk:=s.toks) (h':=s1.heap) kk;rw[<- hs1] at this ⊢;exact this
 refine bY (({scope:=fd.scope,locals:=s.heap.objs.size,globals:=df,cells:=d7 (s.heap.objs.size+1) fd.scope.names fd.closure,qual:=fd.qualname++ ".<locals>.",func:=some fa,code:=fd.code,frame:=some s.heap.objs.size,builtins:=kG}:Env)) λenv henv=>?_;have kd:∀x,env.kindOf x=fd.scope.names.lookup x:=λx=>by refine aA henv ?_;rfl
 have V1:ap X fd.scope env σ0 [] W s1.heap:=by
  refine aA hs1 ?_;refine tm (cl:=fd.closure) S F.nd F.nm (by refine aA henv ?_;exact F.kd) (aA henv rfl) (aA henv rfl) (aA henv rfl) (aA henv rfl) (λx hx=>(kd x).trans hx) (λx hx=>?_) (λx hx=>?_) F.c1 F.c2 F.c3 w F.hv
  ·exact rz hx (λe=>.inl ((kd x).trans e)) λe=>.inr ((kd x).trans e)
  ·exact (kd x).trans (tH hx)
 refine aj (ax (tR ps as vs env σ0 s1 hl F.pst S1 V1 (r.keep k1.kb)) (λζ s2 h_0=>aL h_0 λS2 k2 V2=>?_) λζ ζ f=>f.elim);refine aI ⟨S2.lim,Wm ?_⟩;have hlt:∀c,(∃x,(x,c)∈fd.closure)->c<s.heap.objs.size:=λc h_=>ay h_ λx hx=>by obtain ⟨_,⟨v,o,e,_⟩,_⟩:=F.c1 x c hx;exact fm e
 have fresh:∀b∈aV fd.scope env [],s.heap.get? b=none:=λb hb=>by
  have hge:s.heap.objs.size<=b:=by
   unfold aV at hb;rcases ao.mp hb with q|q
   ·refine aa q (aA henv ?_);exact aT _
   ·rcases be.mp q with q|q
    ·refine ah (ea q) λx hm hst=>?_;have hm:(x,b)∈d7 (s.heap.objs.size+1) fd.scope.names fd.closure:=by replace hm:=(c5 henv)▸hm;exact hm
     rcases oX _ _ _ _ _ hm with z|z
     ·have:=(F.c1 x b z).1;unfold bb at hst;replace hst:=this▸hst;exact aU hst
     ·exact lE z.1
    ·exact nomatch q
  cases e:s.heap.get? b with
  |none=>rfl
  |some o=>exact absurd (fm e) (pY hge)
 have k02:ag [] s s2:=bx.after k1 (bx.of k2) fresh k1.gsz;exact ax (h env s2 V2 S2 k02 fresh (by refine aA henv ?_;refine (?_:(fd.scope.kind==X7&&_)=false);refine aa F.kd ?_;rfl) (aA henv rfl) (aA henv rfl) (aA henv rfl) (aA henv rfl)) (λfl s3 h3=>h3) λζ ζ f=>f.elim
theorem qB {f:Addr} {o:d5} {fd:fZ} {env:Env} {es:List ac} {pos pos':Pos} {QV:List Value->ae->Prop} {Q:Value->ae->Prop} (hf:s.heap.get? f=some o) (hd:o.data=.func fd) (hn:∀e∈es,dB e=true) (h:Ev X A s (d6 (bW pos (bV es env))) QV) (hc:∀vs s1,ai X s1->ag [] s s1->QV vs s1->al (aq X.prog X.w) A (call (.ref f) vs) Q (λζ ζ=>False) s1):al (aq X.prog X.w) A (gX pos' (.ref f) [] (bW pos (bV es env)) []) Q (λζ ζ=>False) s:=by refine Vr (o:=o) (fd:=fd) (ax (sY hn h) (λa s1 h1=>?_) λζ ζ f=>f);refine eZ h1 λS1 k1 ha hq=>?_;clear h1;refine⟨⟨k1.kb f o (λq=>nomatch q) (fe λvs q=>by replace q:=hd▸q;cases q) hf,hd⟩,?_⟩;refine aa ha ?_;exact hc a.pos s1 S1 k1 hq
end
theorem Qg (x s:Nat):x &&& (x/2^s*2^s)=x/2^s*2^s:=by
 apply FG;intro i;rw[Wx,<- Nat.shiftLeft_eq,<- Nat.shiftRight_eq_div_pow,Nat.testBit_shiftLeft,Nat.testBit_shiftRight]
 by_cases h:s<=i
 ·have e:s+(i - s)=i:=mG (by assumption);refine aa e ?_;cases x.testBit i<;>simp
 ·simp[h]
theorem R3 (x s:Nat):sb (x:Int) (((x/2^s:Nat):Int)*2^s)=((x%2^s:Nat):Int):=by
 have e:(((x/2^s:Nat):Int)*2^s)=((x/2^s*2^s:Nat):Int):=by push_cast;rfl
 refine aa e ?_;rw[Wy];have h:mD (x:Int) ((x/2^s*2^s:Nat):Int)=((x/2^s*2^s:Nat):Int):=by unfold mD;have h1:decide ((0:Int)<=(x:Int))=true:=yY _;have h2:decide ((0:Int)<=((x/2^s*2^s:Nat):Int))=true:=decide_eq_true (c8 _);refine aa h1 (aa h2 ?_);simp only[er,Qg]
 refine aa h ?_;have:=EI x (2^s);have h3:2^s*(x/2^s)=x/2^s*2^s:=UT _ _;lia
theorem Gj (x s:Nat):(if ((s:Nat):Int)>=(cg (x:Int):Int) then (if (x:Int)<0 then -1 else 0) else (x:Int).fdiv (2^((s:Nat):Int).toNat))=((x/2^s:Nat):Int):=by
 split
 ·rename_i h;have h2:cg (x:Int)<=s:=ij.mp (by assumption);have h3:=vO.mp h2;rw[if_neg (fX.mpr (c8 _))];have:x<2^s:=h3;refine aa (zi this) ?_;rfl
 ·rw[er,FH _ (by exact_mod_cast iY _)]
  push_cast
  rfl
theorem i7 {x k:Nat} (h:x<2^k):cg (x:Int)<=k:=vO.mpr (h)
noncomputable def iz:Nat->Nat->Nat->Nat->Nat->List Int->List Int
 |0,_,_,_,_,ds=>ds
 |m+1,n,x,L,R,ds=>if L+1=R then ds.set L x else iz m n (x/2^(((L+R)/2 - L)*n)) ((L+R)/2) R (iz m n (x%2^(((L+R)/2 - L)*n)) L ((L+R)/2) ds)
theorem CB {m n x L R ds}:iz (m+1) n x L R ds=if L+1=R then ds.set L x else iz m n (x/2^(((L+R)/2 - L)*n)) ((L+R)/2) R (iz m n (x%2^(((L+R)/2 - L)*n)) L ((L+R)/2) ds):=rfl
theorem uD:∀m n x L R ds,(iz m n x L R ds).length=ds.length
 |0,_,_,_,_,_=>rfl
 |m+1,n,x,L,R,ds=>by
  refine aa CB ?_
  split
  ·simp
  ·rw[uD,uD]
noncomputable def ez (n:Nat):Nat->Nat->List Int
 |0,_=>[]
 |k+1,x=>((x%2^n:Nat):Int)::ez n k (x/2^n)
theorem Av {n x}:ez n 0 x=[]:=rfl
theorem vX {n k x}:ez n (k+1) x=((x%2^n:Nat):Int)::ez n k (x/2^n):=rfl
theorem tS (n:Nat):∀k x,(ez n k x).length=k
 |0,_=>rfl
 |k+1,x=>by refine aa vX ?_;simp[tS n k]
theorem DY (n:Nat):∀a b x,ez n (a+b) x=ez n a (x%2^(a*n))++ez n b (x/2^(a*n))
 |0,b,x=>by simp[Av,vX]
 |a+1,b,x=>by
  have e:a+1+b=(a+b)+1:=UK _ _;refine aa e ?_;refine (?_:((x%2^n:Nat):Int)::ez n (a+b) (x/2^n)=((x%2^((a+1)*n)%2^n:Nat):Int)::ez n a (x%2^((a+1)*n)/2^n)++ez n b (x/2^((a+1)*n)));rw[DY n a b];have e2:(a+1)*n=n+a*n:=by rw[gD,jv,fk]
  refine aa e2 ?_;rw[mU];have h1:x%(2^n*2^(a*n))%2^n=x%2^n:=Nat.mod_mul_right_mod _ _ _;have h2:x%(2^n*2^(a*n))/2^n=x/2^n%2^(a*n):=Nat.mod_mul_right_div_self _ _ _;have h3:x/(2^n*2^(a*n))=x/2^n/2^(a*n):=(Nat.div_div_eq_div_mul _ _ _).symm;refine aa h1 (aa h2 (aa h3 ?_));rfl
theorem LD (ds:List Int) (L:Nat) (v:Int) (h:L<ds.length):ds.set L v=ds.take L++[v]++ds.drop (L+1):=by refine aa List.set_eq_take_append_cons_drop ?_;simp[h]
theorem wz:∀m n x L R ds,L<R->R<=ds.length->R - L<=m->x<2^((R - L)*n)->iz m n x L R ds=ds.take L++ez n (R - L) x++ds.drop R
 |0,n,x,L,R,ds,h,_,h2,_=>(xc h h2).elim
 |m+1,n,x,L,R,ds,h,hR,h2,hx=>by
  refine aa CB ?_
  split
  ·rename_i e;have e1:R - L=1:=BZ e;rw[e1,jv] at hx;rw[e1,LD _ _ _ (cV (by assumption) (by assumption)),<- e];simp only[Av,vX,FI hx]
  ·rename_i hne;have g1:L<(L+R)/2:=sa h hne;have g2:(L+R)/2<R:=m4 h hne;revert g1;revert g2;refine bY ((L+R)/2) λmid hmid=>?_;intro g2 g1;have e3:(R - L)*n=(mid - L)*n+(R - mid)*n:=by rw[<- gD];congr 1;exact w3 h hne hmid g1
   have hx1:x%2^((mid - L)*n)<2^((mid - L)*n):=iV _ (sI _);have hx2:x/2^((mid - L)*n)<2^((R - mid)*n):=by rw[e3,mU] at hx;exact Nat.div_lt_of_lt_mul hx
   have hl:=uD m n (x%2^((mid - L)*n)) L mid ds;rw[wz m n _ mid R _ g2 (by refine aa hl ?_;exact hR) (qz h h2 hne hmid g1) hx2,wz m n _ L mid ds g1 (aB (ej (by assumption)) (by assumption)) (uL h h2 hne hmid) hx1];have e4:R - L=(mid - L)+(R - mid):=w3 h hne hmid g1;refine aa e4 ?_;rw[DY];have t1:(ds.take L++ez n (mid - L) (x%2^((mid - L)*n))++ds.drop mid).take mid=ds.take L++ez n (mid - L) (x%2^((mid - L)*n)):=by apply Wz;simp[tS];exact Dz h hR hne hmid g1 e4
   have t2:(ds.take L++ez n (mid - L) (x%2^((mid - L)*n))++ds.drop mid).drop R=ds.drop R:=by
    have e5:(ds.take L++ez n (mid - L) (x%2^((mid - L)*n))).length=mid:=by simp[tS];exact Dz h hR hne hmid g1 e4
    have e6:R=(ds.take L++ez n (mid - L) (x%2^((mid - L)*n))).length+(R - mid):=HF h hne hmid e5;refine aa e6 ?_;rewrite[List.drop_length_add_append];exact aa kN (aa e5 rfl)
   refine aa t1 (aa t2 ?_);simp[ga]
noncomputable abbrev fD:Str:=af "x"
noncomputable abbrev nL:Str:=af "L"
noncomputable abbrev nR:Str:=af "R"
noncomputable abbrev nN:Str:=af "n"
noncomputable abbrev ce:Str:=af "mid"
noncomputable abbrev dg:Str:=af "shift"
noncomputable abbrev gn:Str:=af "upper"
noncomputable abbrev gL:Str:=af "lower"
noncomputable abbrev a9:Str:=af "inner"
noncomputable abbrev c7:Str:=af "a_digits"
structure xy (sc:Scope) (t ex eL:ac) (s2 s3 s4 s5:aN) (a1 a2:List ac):Prop where
 hT:∀O σ (L R:Nat),σ.lookup nL=some (.sh (.int L))->σ.lookup nR=some (.sh (.int R))->pT O 12 sc σ t=some (decide (L+1=R))
 hx:∀O σ (x:Nat),σ.lookup fD=some (.sh (.int x))->pe O 12 sc σ ex=some (.int x)
 hL:∀O σ (x:Nat),σ.lookup nL=some (.sh (.int x))->pe O 12 sc σ eL=some (.int x)
 hss:∀O σ (x L R n:Nat),σ.lookup fD=some (.sh (.int x))->σ.lookup nL=some (.sh (.int L))->σ.lookup nR=some (.sh (.int R))->σ.lookup nN=some (.sh (.int n))->R<=128->n<=512->x<2^65536->L<R->
  aO O 12 sc σ [s2,s3,s4,s5]=some (.nx (put (put (put (put σ ce (.sh (.int (((L+R)/2:Nat):Int)))) dg (.sh (.int ((((L+R)/2 - L)*n:Nat):Int)))) gn (.sh (.int ((x/2^(((L+R)/2 - L)*n):Nat):Int)))) gL (.sh (.int ((x%2^(((L+R)/2 - L)*n):Nat):Int)))))
 ha1:∀O σ (x L R:Nat),σ.lookup gL=some (.sh (.int x))->σ.lookup nL=some (.sh (.int L))->σ.lookup ce=some (.sh (.int R))->aX (pe O 12 sc σ) a1=some [.int x,.int L,.int R]
 ha2:∀O σ (x L R:Nat),σ.lookup gn=some (.sh (.int x))->σ.lookup ce=some (.sh (.int L))->σ.lookup nR=some (.sh (.int R))->aX (pe O 12 sc σ) a2=some [.int x,.int L,.int R]
structure ib (X:Cx) (fd:fZ) (ps:List Str) (body:List aN) (n1 n2 n3:Str) (c1 c2 c3:Addr):Prop where
 gl:fd.globals=df
 bi:fd.builtins=kG
 bd:fd.body=.stmts body
 co:fd.scope.isCoroutine=false
 ge:fd.scope.isGenerator=false
 kd:fd.scope.kind=.function
 nd:ew fd.scope.names=true
 nm:∀x k,(x,k)∈fd.scope.names->cy x=true
 pst:∀p∈ps,bb fd.scope p=true
 bind:∀vs:List Value,vs.length=ps.length->lJ fd ⟨vs,[]⟩=pure (ps.zip vs)
 cl:fd.closure=[(n1,c1),(n2,c2),(n3,c3)]
 fr:∀x,fd.scope.names.lookup x=some .free->x=n1\/x=n2\/x=n3
 f1:fd.scope.names.lookup n1=some .free
 f2:fd.scope.names.lookup n2=some .free
 f3:fd.scope.names.lookup n3=some .free
 noc:∀x,(x,pQ)∉fd.scope.names
 n12:n1≠n2
 n13:n1≠n3
 n23:n2≠n3
 d12:c1≠c2
 d13:c1≠c3
 d23:c2≠c3
 h1:X.h0.get? c1=none
 h2:X.h0.get? c2=none
 h3:X.h0.get? c3=none
section
variable {X:Cx} {A:aM} {s s' s1 s2:ae} {W V:List Addr} {fd:fZ} {ps:List Str} {body:List aN} {n1 n2 n3:Str} {c1 c2 c3:Addr} {env:Env}
theorem ag.more {V:List Addr} {gm:Nat} (a:jX W gm s s1) (b:ag V s1 s2) (hg:gm<=s1.gens.size) (h:∀x∈V,x∈W\/s.heap.get? x=none):jX W gm s s2:=
 have ne:∀b o,b∉W->s.heap.get? b=some o->b∉V:=λb o hb e q=>(h b q).elim hb λz=>by replace e:=z▸e;exact ab e
 ⟨λx o hb ht e=>b.kb x o (ne x o hb e) ht (a.kb x o hb ht e),λx o e=>ay (a.th x o e) λo' e'=>b.th x o' e',aB a.gsz b.gsz,λi hi=>(b.gk i (cV hi hg)).trans (a.gk i hi)⟩
theorem ib.cells (F:ib X fd ps body n1 n2 n3 c1 c2 c3) (he:env.cells=d7 (s.heap.objs.size+1) fd.scope.names fd.closure):env.cells=[(n1,c1),(n2,c2),(n3,c3)]:=by
 refine aa he (aa F.cl ?_);have:∀(names:List (Str×fq)) k acc,(∀x,(x,pQ)∉names)->d7 k names acc=acc:=by
  intro names
  induction names with
  |nil=>intro k acc _;rfl
  |cons y r ih=>
   intro k acc h;obtain ⟨y,kd⟩:=y;unfold d7
   split
   ·rename_i hk;exact absurd (by refine aa (bc hk) ?_;exact iq) (h y)
   ·exact ih k acc λx hx=>h x (bP _ hx)
 exact this _ _ _ F.noc
theorem ib.cellNe (F:ib X fd ps body n1 n2 n3 c1 c2 c3) {P own σ h} (V:ap X fd.scope env σ own P h) (he:env.cells=[(n1,c1),(n2,c2),(n3,c3)]) {b:Addr} (hb:b∈aV fd.scope env []):b=env.locals:=by
 unfold aV at hb;rcases ao.mp hb with q|q
 ·exact q
 ·rcases be.mp q with q|q
  ·refine ah (ea q) λx hm hst=>?_;replace hm:=he▸hm;simp only[ao,ba,or_false,FJ] at hm;unfold bb at hst;rcases hm with ⟨rfl,_⟩|⟨rfl,_⟩|⟨rfl,_⟩
   ·replace hst:=F.f1▸hst;exact aU hst
   ·replace hst:=F.f2▸hst;exact aU hst
   ·replace hst:=F.f3▸hst;exact aU hst
  ·exact nomatch q
theorem ib.en (F:ib X fd ps body n1 n2 n3 c1 c2 c3) {σ0:Sg} (h1:∃v,s.heap.IsCell c1 v) (h2:∃v,s.heap.IsCell c2 v) (h3:∃v,s.heap.IsCell c3 v) (hc:hG s.heap fd.code fd.qualname) (hv:∀x e,σ0.lookup x=some e->fd.scope.names.lookup x=some .free/\∃d c v,e=.sh d/\fd.closure.lookup x=some c/\s.heap.IsCell c (some v)/\am W s.heap d v):rL X s fd ps body W σ0:=
 {gl:=F.gl,bi:=F.bi,bd:=F.bd,co:=F.co,ge:=F.ge,kd:=F.kd,nd:=F.nd,nm:=F.nm,pst:=F.pst,bind:=F.bind,cd:=hc.rec,hv:=hv
  c1:=λx c hx=>by
   replace hx:=F.cl▸hx
   simp only[ao,ba,or_false,FJ] at hx
   rcases hx with ⟨rfl,rfl⟩|⟨rfl,rfl⟩|⟨rfl,rfl⟩
   ·exact dX F.f1 h1 F.h1
   ·exact dX F.f2 h2 F.h2
   ·exact dX F.f3 h3 F.h3
  c2:=λx y c hx hy=>by
   rw[F.cl] at hx hy
   simp only[ao,ba,or_false,FJ] at hx hy
   have:=F.d12;have:=F.d13;have:=F.d23
   rcases hx with ⟨rfl,rfl⟩|⟨rfl,rfl⟩|⟨rfl,rfl⟩<;>rcases hy with ⟨rfl,e⟩|⟨rfl,e⟩|⟨rfl,e⟩<;>first|rfl|(exfalso;simp_all)
  c3:=λx hx=>by
   refine aa F.cl ?_
   have h12:=F.n12;have h13:=F.n13;have h23:=F.n23
   rcases F.fr x hx with rfl|rfl|rfl
   ·exact⟨c1,by simp[dP]⟩
   ·exact⟨c2,by simp[dP,(beq_eq_false_iff_ne.mpr (ek h12))]⟩
   ·exact⟨c3,by simp[dP,(beq_eq_false_iff_ne.mpr (ek h13)),(beq_eq_false_iff_ne.mpr (ek h23))]⟩}
theorem ib.val2 (F:ib X fd ps body n1 n2 n3 c1 c2 c3) {P own σ} (V:ap X fd.scope env σ own P s.heap) (he:env.cells=[(n1,c1),(n2,c2),(n3,c3)]) {v:Value} (h:s.heap.IsCell c2 (some v)):dv env s.heap n2 v:=
 .inr ⟨(V.cel n2 (by unfold dZ;exact aa F.f2 rfl)).1,c2,by refine aa he ?_;simp[dP,(beq_eq_false_iff_ne.mpr (ek F.n12))],h⟩
theorem ib.val3 (F:ib X fd ps body n1 n2 n3 c1 c2 c3) {P own σ} (V:ap X fd.scope env σ own P s.heap) (he:env.cells=[(n1,c1),(n2,c2),(n3,c3)]) {v:Value} (h:s.heap.IsCell c3 (some v)):dv env s.heap n3 v:=
 .inr ⟨(V.cel n3 (by unfold dZ;exact aa F.f3 rfl)).1,c3,by refine aa he ?_;simp[dP,(beq_eq_false_iff_ne.mpr (ek F.n13)),(beq_eq_false_iff_ne.mpr (ek F.n23))],h⟩
theorem ap.own0 {sc:Scope} {σ:Sg} {own P h} (V:ap X sc env σ own P h) (hu:Mine.unown σ=σ):ap X sc env σ [] P h:=by have:=V.unown;rwa [hu] at this
structure iD (X:Cx) (fd:fZ) (f l c1 c2 c3:Addr) (n:Nat) (ds:List Int) (s:ae):Prop where
 S:ai X s
 k1:∃t,s.heap.IsCell c1 (some (.int n t))
 k2:s.heap.IsCell c2 (some (.ref f))
 k3:s.heap.IsCell c3 (some (.ref l))
 fo:∃o,s.heap.get? f=some o/\o.data=.func fd
 cd:hG s.heap fd.code fd.qualname
 ls:∃vs k,s.heap.get? l=some {cls:=.type "list",data:=.seq vs.toArray k}/\ar [] s.heap (ds.map .int) vs
theorem uc {ds:List Int}:∀d∈ds.map PV.int,d.flat=true:=λd hd=>by obtain ⟨x,_,rfl⟩:=dQ.mp hd;rfl
theorem iD.step {f l:Addr} {n:Nat} {ds:List Int} {V:List Addr} {g':Nat} (I:iD X fd f l c1 c2 c3 n ds s) (S':ai X s') (k:jX V g' s s') (hV:∀b∈V,∀o,s.heap.get? b=some o->b≠l/\b≠f/\b≠c1/\b≠c2/\b≠c3/\gt o):iD X fd f l c1 c2 c3 n ds s':=by
 have cl:∀{c v},s.heap.IsCell c v->(c=c1\/c=c2\/c=c3)->s'.heap.IsCell c v:=λ{c v} h hc=>ja h k.kb λq=>by
  refine ah h λo e ζ=>?_;clear h;refine oD (hV c q o e) λζ ζ h1 h2 h3 ζ=>?_;rcases hc with z|z|z
  ·exact h1 z
  ·exact h2 z
  ·exact h3 z
 refine ay I.k1 λt k1=>?_;refine ah I.fo λo e hd=>?_;refine bN I.ls λvs kk e2 r=>?_
 exact⟨S',⟨t,cl k1 (.inl rfl)⟩,cl I.k2 (.inr (.inl rfl)),cl I.k3 (.inr (.inr rfl)),⟨o,k.kb f o (λq=>(hV f q o e).2.1 rfl) (fe λvs q=>by replace q:=hd▸q;cases q) e,hd⟩,
  I.cd.kb k.kb λb hb o e=>(hV b hb o e).2.2.2.2.2,vs,kk,k.kb l _ (λq=>(hV l q _ e2).1 rfl) rfl e2,fB uc r⟩
end
section
variable {X:Cx} {A:aM} {s s' s1 s2:ae} {W V:List Addr} {fd:fZ} {ps:List Str} {c1 c2 c3:Addr} {env:Env} {O:Orc}
theorem Aj {M:qf} {Γ:PySem.Ctx}:∀(l r:List aN) {Q:eW->Pos->ae->Prop} {E:Value->Pos->ae->Prop} {p:Pos} {s:ae},FK M Γ (db l env) (λf p' s'=>match f with|.next=>FK M Γ (db r env) Q E p' s'|f=>Q f p' s') E p s->FK M Γ (db (l++r) env) Q E p s
 |[],r,Q,E,p,s,h=>h
 |st::l,r,Q,E,p,s,h=>by
  rw[WA,WB] at h;refine aa ox ?_;rw[WA,WB];refine WC M Γ _ (λf p' s' hf=>?_) (λζ ζ ζ z=>z) _ _ h
  induction f using qg with
  |next=>exact Aj l r hf
  |_=>exact hf
theorem A1 {E:Value->ae->Prop} (l r:List aN) (s:ae) {Q:eW->ae->Prop} (h:al (aq X.prog X.w) A (db l env) (λf s'=>match f with|.next=>al (aq X.prog X.w) A (db r env) Q E s'|f=>Q f s') E s):al (aq X.prog X.w) A (db (l++r) env) Q E s:=λΓ p hΓ=>by
 refine Aj l r (WC _ Γ _ (λf p' s' hf=>?_) (λζ ζ ζ z=>z) _ _ (h Γ p hΓ))
 induction f using qg with
 |next=>exact hf Γ p' hΓ
 |_=>exact hf
theorem KA {l:Addr} {vs:List Value} {kk:Nat} {ds:List Int} {L x:Nat} {t u:cJ} {Q:Unit->ae->Prop} (S:ai X s) (h0:X.h0.get? l=none) (ho:s.heap.get? l=some {cls:=.type "list",data:=.seq vs.toArray kk})
  (r:ar [] s.heap (ds.map .int) vs) (hL:L<ds.length) (hb:L<1000000)
  (h:∀s',ai X s'->ag [l] s s'->(∃vs' kk',s'.heap.get? l=some {cls:=.type "list",data:=.seq vs'.toArray kk'}/\ar [] s'.heap ((ds.set L x).map .int) vs')->Q () s'):
  al (aq X.prog X.w) A (setItem (.ref l) (.int L t) (.int x u)) Q (λζ ζ=>False) s:=by
 have hlen:vs.length=ds.length:=by refine aa r.length ?_;exact ca ..
 have hsz:vs.toArray.size=ds.length:=by refine aa yI ?_;exact hlen
 refine ki_setAt (n:=kk) ho (c8 _) (UN (vP.mpr (by assumption)) (by decide)) (by refine aa hsz ?_;exact vP.mpr (by assumption)) ?_;have hself:∃k2,(s.heap.update l (j8 (·.setIfInBounds ((L:Nat):Int).toNat (.int x u)))).get? l=some {cls:=.type "list",data:=.seq (vs.set L (.int x u)).toArray k2}:=by
  refine aa (pW (j8 (·.setIfInBounds ((L:Nat):Int).toNat (.int x u))) ho rfl) ?_;simp only[j8,er];have e:vs.toArray.setIfInBounds L (.int x u)=(vs.set L (.int x u)).toArray:=by apply Array.toList_inj.mp;simp
  refine aA e ?_;exact⟨_,rfl⟩
 refine ay hself λk2 hself=>?_;have hsame:io l s.heap (s.heap.update l (j8 (·.setIfInBounds ((L:Nat):Int).toNat (.int x u)))):=vB ..;refine h _ (S.same (tk:=s.toks) h0 (λo e=>by replace e:=ho▸e;have h_:=ak e;clear e;subst h_;exact .inl (by simp)) hsame) (ag.but (tk:=s.toks) (.head _) hsame ⟨_,hself⟩) ⟨_,k2,hself,?_⟩;have:∀(ds:List Int) (vs:List Value) (L:Nat),ar [] s.heap (ds.map .int) vs->ar [] s.heap ((ds.set L x).map .int) (vs.set L (.int x u)):=by
  intro ds
  induction ds with
  |nil=>intro vs L r;exact (by simpa [ar] using r)
  |cons d ds ih=>
   intro vs L r;simp only[bQ,ar] at r;refine bw r λv q e2_ r1 r2=>?_;clear r;subst e2_
   induction L using dq with
   |zero=>exact gw _ _ rfl ⟨u,rfl⟩ r2
   |succ L=>exact gw _ _ rfl r1 (ih q L r2)
 exact fB uc (this ds vs L r)
theorem tT (a b c:Nat):∀d∈[PV.int a,.int b,.int c],d.flat=true:=λd hd=>by
 simp only[ao,ba,or_false] at hd;rcases hd with rfl|rfl|rfl<;>rfl
theorem ap.moveL {sc:Scope} {σ:Sg} {l:Addr} {vs vs':List Value} {kk kk':Nat} {t t':ae} (V:ap X sc env σ [] [l] t.heap) (hl:t.heap.get? l=some {cls:=.type "list",data:=.seq vs.toArray kk}) (k:ag [l] t t') (hl':t'.heap.get? l=some {cls:=.type "list",data:=.seq vs'.toArray kk'}):
  ap X sc env σ [] [l] t'.heap:=
 V.moveO k.kb (λb hb=>.inl hb) (λb hb q=>nomatch q) (λq=>by
  obtain ⟨m,oF,es,ep,eF,hdF,_⟩:=V.ns
  replace eF:=(gW.mp q)▸eF;replace eF:=hl▸eF;have h_:=ak eF;clear eF;subst h_;cases hdF) (λy c hm q=>by
  refine bN (V.cells y c hm) λv o e hd=>?_
  replace e:=(gW.mp q)▸e;replace e:=hl▸e;have h_:=ak e;clear e;subst h_;cases hd) (λb hb=>gW.mp hb▸⟨_,hl',rfl⟩) λb hb=>.inl hb
theorem iD.stored {f l:Addr} {n:Nat} {ds ds':List Int} {t t':ae} {vs':List Value} {kk':Nat} (J:iD X fd f l c1 c2 c3 n ds t) (S':ai X t') (k:ag [l] t t') (hl':t'.heap.get? l=some {cls:=.type "list",data:=.seq vs'.toArray kk'}) (rl':ar [] t'.heap (ds'.map .int) vs'):
  iD X fd f l c1 c2 c3 n ds' t':=by
 refine ay J.k1 λtt kk1=>?_;refine bN J.ls λvs kk hl ζ=>?_;have ne:∀c v,t.heap.IsCell c v->c∉[l]:=λc v h_ q=>ah h_ λo e hd=>by replace e:=(gW.mp q)▸e;replace e:=hl▸e;have h_:=ak e;clear e;subst h_;cases hd
 refine ah J.fo λo5 e5 hd5=>?_
 exact⟨S',⟨tt,ja kk1 k.kb (ne _ _ kk1)⟩,ja J.k2 k.kb (ne _ _ J.k2),ja J.k3 k.kb (ne _ _ J.k3),⟨o5,k.kb f o5 (λq=>by
   replace e5:=(gW.mp q)▸e5;replace e5:=hl▸e5;have h_:=ak e5;clear e5;subst h_;cases hd5) (fe λvs q=>by replace q:=hd5▸q;cases q) e5,hd5⟩,
  J.cd.kb k.kb (λb hb o e=>by
   replace e:=(gW.mp hb)▸e;replace e:=hl▸e;have h_:=ak e;clear e;subst h_;exact .inl (by simp)),vs',kk',hl',rl'⟩
theorem GU {f l:Addr} {n:Nat} {ds:List Int} {body:List aN} (F:ib X fd [fD,nL,nR] body nN a9 c7 c1 c2 c3) (I:iD X fd f l c1 c2 c3 n ds s):rL X s fd [fD,nL,nR] body [l] [(nN,.sh (.int n))]:=
 F.en (ay I.k1 λt k=>⟨_,k⟩) ⟨_,I.k2⟩ ⟨_,I.k3⟩ I.cd (λy e hy=>by
   have hy':(if nN=y then some (Ent.sh (.int n)) else none)=some e:=by
    simp only[dP] at hy
    split at hy
    ·rename_i z;refine aa (if_pos (bc z).symm) ?_;exact hy
    ·exact ab hy
   split at hy'
   ·rename_i z
    have h_:=ak hy';clear hy';subst h_;subst z
    refine ay I.k1 λt k1=>?_
    exact⟨F.f1,_,c1,_,rfl,by refine aa F.cl ?_;rfl,k1,⟨t,rfl⟩⟩
   ·exact ab hy')
theorem Gz {f l:Addr} {n:Nat} {ds:List Int} (I:iD X fd f l c1 c2 c3 n ds s) {b:Addr} (hn:s.heap.get? b=none):b≠l/\b≠f/\b≠c1/\b≠c2/\b≠c3:=by
 have ne:∀c,(∃o,s.heap.get? c=some o)->b≠c:=λc h_ q=>ay h_ λo e=>by (replace e:=(c5 q)▸e;replace e:=hn▸e);exact ab e
 have cne:∀c v,s.heap.IsCell c v->b≠c:=λc v h_0=>ah h_0 λo e ζ=>ne c ⟨o,e⟩;refine ay I.k1 λtt kk1=>?_;refine bN I.ls λvs kk hl ζ=>?_;refine ah I.fo λo ho ζ=>?_;exact xQ (ne l ⟨_,hl⟩) (ne f ⟨_,ho⟩) (cne _ _ kk1) (cne _ _ I.k2) (cne _ _ I.k3)
theorem Py {f l:Addr} {n:Nat} {t ex eL:ac} {s2 s3 s4 s5:aN} {a1 a2:List ac} {q1 q2 q3 q4 q5 q6 q7 q8 q9 q10 q11:Pos} (F:ib X fd [fD,nL,nR] (.If t [.Assign [.Subscript (.Name c7 q1) eL q2] ex q3,.Return none q4] [] q5::s2::s3::s4::s5::.Expr (.Call (.Name a9 q6) a1 [] q7) q8::.Expr (.Call (.Name a9 q9) a2 [] q10) q11::[]) nN a9 c7 c1 c2 c3) (H:xy fd.scope t ex eL s2 s3 s4 s5 a1 a2) (hsw:∀env q,sD ex (some (.Subscript (.Name c7 q1) eL q2)) q env=pure false) (OK:bg X O 0) (LZ:bR X) (h0:X.h0.get? l=none) (hnn:cy a9=true) (hna:cy c7=true) (hnlt:n<=512):∀m (A:aM) (s:ae) (ds:List Int) (x L R:Nat) (vs:List Value),L<R->R<=ds.length->R - L<=m->R<=128->x<2^65536->aK A (m+4)->iD X fd f l c1 c2 c3 n ds s->ar [] s.heap [.int x,.int L,.int R] vs->
   al (aq X.prog X.w) A (call (.ref f) vs) (λv s'=>v=.none/\iD X fd f l c1 c2 c3 n (iz m n x L R ds) s'/\ag [l] s s') (λζ ζ=>False) s:=by
 intro m
 induction m with
 |zero=>intro A s ds x L R vs h1 h2 h3;exact (xc h1 h3).elim
 |succ m ih=>
  intro A s ds x L R vs h1 h2 h3 h4 hx R0 I r;refine ah I.fo λo ho hd=>?_;refine bN I.ls λlvs lk hl rl=>?_;have hlw:b8 [l] s.heap:=λb hb=>by simp only[ao,ba,or_false] at hb;exact hb▸⟨_,hl,rfl⟩
  have E:=GU F I;refine s9 E ho hd (as:=[.int x,.int L,.int R]) rfl R0.depth I.S hlw (fB (tT _ _ _) r) λenv t2 V2 S2 k2 fresh hint ζ hce ζ ζ=>?_;refine HZ λQ hQ=>?_;have hcell:=F.cells hce;have Rb:aK (A.deeper env) (m+4):=(show aK A ((m+4)+1) from R0.mono (aT _)).deeper env;have Rb2:aK (A.deeper env) (0+2):=Rb.mono (b7 _ _);have I2:=I.step S2 k2 (λb hb=>nomatch hb);have l1:(bI [(nN,.sh (.int n))] ([fD,nL,nR].zip ([PV.int x,.int L,.int R].map .sh))).lookup fD=some (.sh (.int x)):=rfl;have l2:(bI [(nN,.sh (.int n))] ([fD,nL,nR].zip ([PV.int x,.int L,.int R].map .sh))).lookup nL=some (.sh (.int L)):=rfl;have l3:(bI [(nN,.sh (.int n))] ([fD,nL,nR].zip ([PV.int x,.int L,.int R].map .sh))).lookup nR=some (.sh (.int R)):=rfl;have l4:(bI [(nN,.sh (.int n))] ([fD,nL,nR].zip ([PV.int x,.int L,.int R].map .sh))).lookup nN=some (.sh (.int n)):=rfl;revert V2;revert l1;revert l2;revert l3;revert l4;refine bY (bI [(nN,.sh (.int n))] ([fD,nL,nR].zip ([PV.int x,.int L,.int R].map .sh))) λσ hσ=>?_;intro l4 l3 l2 l1 V2;have hus:∀a b c d,Mine.unown (put (put (put (put σ ce (.sh a)) dg (.sh b)) gn (.sh c)) gL (.sh d))=put (put (put (put σ ce (.sh a)) dg (.sh b)) gn (.sh c)) gL (.sh d):=λa b c d=>by refine aA hσ ?_;rfl
  have lo:∀{s3 σ3 own3 P3},ap X fd.scope env σ3 own3 P3 s3->True:=λζ=>trivial;refine gC ?_;refine aa qL ?_;refine aj (dS (aj (ax (li OK LZ Rb2 12 _ σ env [] [l] t _ t2 (H.hT O σ L R l2 l3) S2 V2) (λc t3 h_1=>aL h_1 λS3 k3 e3=>?_) λζ ζ f=>f.elim)));subst e3;have V3:=V2.keep k3.kb;have I3:=I2.step S3 k3 (λb hb=>nomatch hb);have k03:ag [l] s t3:=(k2.trans k3).nil
  by_cases hLR:L+1=R
  ·rw[if_pos (decide_eq_true hLR)];refine gC ?_;refine wpAny_Assign_Subscript (ax (du OK LZ Rb2 12 _ σ env [] [l] ex _ t3 (H.hx O σ x l1) S3 V3) (λv t4 h_2=>aL h_2 λS4 k4 r4=>?_) λζ ζ f=>f.elim) (hsw env _);refine ay r4 λu e1_=>?_;clear r4;subst e1_;have V4:=V3.keep k4.kb;have I4:=I3.step S4 k4 (λb hb=>nomatch hb);refine iH V4 (F.val3 V4 hcell I4.k3) hna ?_;refine ax (du OK LZ Rb2 12 _ σ env [] [l] eL _ t4 (H.hL O σ L l2) S4 V4) (λv t5 h_3=>aL h_3 λS5 k5 r5=>?_) λζ ζ f=>f.elim;refine ay r5 λu5 e1_=>?_;clear r5;subst e1_;have I5:=I4.step S5 k5 (λb hb=>nomatch hb);refine bN I5.ls λvs5 kk5 hl5 rl5=>?_;refine KA S5 h0 hl5 rl5 (cV (by assumption) (by assumption)) (cV (cV (by assumption) (by assumption)) (by decide)) λt6 S6 k6 h_4=>bN h_4 λvs6 kk6 hl6 rl6=>?_;refine gC ?_;refine (?_:al _ _ (dR q4>>=λζ=>(pure (Fw .none):bp eW)) _ _ t6);refine aj (dS (aI (hQ _ _ ⟨rfl,?_,?_⟩)))
   ·unfold iz;refine aa (if_pos hLR) ?_;exact I5.stored S6 k6 hl6 rl6
   ·exact k03.trans ((k4.trans k5).nil.trans k6)
  ·rw[if_neg (by simpa using hLR)];have g1:L<(L+R)/2:=sa h1 hLR;have g2:(L+R)/2<R:=m4 h1 hLR;have hp:=H.hss O σ x L R n l1 l2 l3 l4 h4 hnlt hx h1;have hst:iz (m+1) n x L R ds=iz m n (x/2^(((L+R)/2 - L)*n)) ((L+R)/2) R (iz m n (x%2^(((L+R)/2 - L)*n)) L ((L+R)/2) ds):=by
    conv=>lhs;unfold iz
    exact aa (if_neg hLR) rfl
   revert hst;revert hp;revert g1;revert g2;refine bY ((L+R)/2) λmid hmid=>?_;intro g2 g1 hp hst;revert hst;revert hp;refine bY (x%2^((mid - L)*n)) λlower hlo=>?_;intro hp hst;revert hst;revert hp;refine bY (x/2^((mid - L)*n)) λupper hup=>?_;intro hp hst;have hlo2:lower<2^65536:=by refine aA hlo ?_;exact ik (Nat.mod_le _ _) hx
   have hup2:upper<2^65536:=by refine aA hup ?_;exact ik (EH _ _) hx
   refine sE ?_;refine (?_:al _ _ (db ([s2,s3,s4,s5]++[.Expr (.Call (.Name a9 q6) a1 [] q7) q8,.Expr (.Call (.Name a9 q9) a2 [] q10) q11]) env) _ _ _);refine A1 [s2,s3,s4,s5] _ _ ?_;refine ax ((rO OK LZ Rb2 12).2 fd.scope env σ [] [l] _ _ t3 hp S3 V3) (λfl t4 h4'=>?_) λζ ζ f=>f.elim;obtain ⟨rfl,own4,S4,k4,o4,V4'⟩:=h4';have V4:=V4'.own0 (hus _ _ _ _);have fresh3:∀b∈aV fd.scope env [],∀o,t3.heap.get? b=some o->b≠l/\b≠f/\b≠c1/\b≠c2/\b≠c3/\gt o:=λb hb o e=>by refine uv (Gz I (fresh b hb)) λa1 a2 a3 a4 a5=>?_;refine uQ a1 a2 a3 a4 a5 ?_;have hloc:=F.cellNe V3 hcell hb;obtain ⟨m,oF,es,ep,eF,hdF,_⟩:=V3.ns;replace e:=hloc▸e;replace e:=eF▸e;have h_:=ak e;clear e;subst h_;exact .inr λvs q=>by replace q:=hdF▸q;cases q
   have I4:=I3.step S4 k4 fresh3;have k04:ag [l] s t4:=ag.more k03 k4 k03.gsz λy hy=>.inr (fresh y hy);have lm:(put (put (put (put σ ce (.sh (.int (mid:Int)))) dg (.sh (.int (((mid - L)*n:Nat):Int)))) gn (.sh (.int (upper:Int)))) gL (.sh (.int (lower:Int)))).lookup ce=some (.sh (.int (mid:Int))):=by refine aw (by decide) ?_;refine aw (by decide) ?_;refine aw (by decide) ?_;exact aS
   have lu:(put (put (put (put σ ce (.sh (.int (mid:Int)))) dg (.sh (.int (((mid - L)*n:Nat):Int)))) gn (.sh (.int (upper:Int)))) gL (.sh (.int (lower:Int)))).lookup gn=some (.sh (.int (upper:Int))):=by refine aw (by decide) ?_;exact aS
   have lw:(put (put (put (put σ ce (.sh (.int (mid:Int)))) dg (.sh (.int (((mid - L)*n:Nat):Int)))) gn (.sh (.int (upper:Int)))) gL (.sh (.int (lower:Int)))).lookup gL=some (.sh (.int (lower:Int))):=by exact aS
   have lL:(put (put (put (put σ ce (.sh (.int (mid:Int)))) dg (.sh (.int (((mid - L)*n:Nat):Int)))) gn (.sh (.int (upper:Int)))) gL (.sh (.int (lower:Int)))).lookup nL=some (.sh (.int (L:Int))):=by refine aw (by decide) ?_;refine aw (by decide) ?_;refine aw (by decide) ?_;refine aw (by decide) ?_;exact l2
   have lR:(put (put (put (put σ ce (.sh (.int (mid:Int)))) dg (.sh (.int (((mid - L)*n:Nat):Int)))) gn (.sh (.int (upper:Int)))) gL (.sh (.int (lower:Int)))).lookup nR=some (.sh (.int (R:Int))):=by refine aw (by decide) ?_;refine aw (by decide) ?_;refine aw (by decide) ?_;refine aw (by decide) ?_;exact l3
   revert V4;revert lm;revert lu;revert lw;revert lL;revert lR;refine bB (put (put (put (put σ ce (.sh (.int (mid:Int)))) dg (.sh (.int (((mid - L)*n:Nat):Int)))) gn (.sh (.int (upper:Int)))) gL (.sh (.int (lower:Int)))) λσ4=>?_;intro lR lL lw lu lm V4;have hA1:=H.ha1 O σ4 lower L mid lw lL lm;have hA2:=H.ha2 O σ4 upper mid R lu lm lR;refine bN I4.ls λvs4 kk4 hl4 rl4=>?_;refine (?_:al _ _ (db [.Expr (.Call (.Name a9 q6) a1 [] q7) q8,.Expr (.Call (.Name a9 q9) a2 [] q10) q11] env) _ _ t4);refine gC (zf ?_ hint rfl);refine (?_:al _ _ (aJ (.Name a9 q6) env>>=λg=>gX q7 g [] (bW q7 (bV a1 env)) []) _ _ t4);refine aj (iH V4 (F.val2 V4 hcell I4.k2) hnn ?_);refine ah I4.fo λo4 ho4 hd4=>?_;refine qB ho4 hd4 (jf hA1) (fP (du OK LZ Rb2 12) hA1 S4 V4) λvs t5 S5 k5 r5=>?_;have I5:=I4.step S5 k5 (λb hb=>nomatch hb);refine ax (ih (A.deeper env) t5 ds lower L mid vs g1 (aB (ej (by assumption)) (by assumption)) (uL h1 h3 hLR hmid) (aB (ej (by assumption)) (by assumption)) hlo2 Rb I5 (fB (tT _ _ _) r5)) (λv t6 h_5=>aL h_5 λhv I6 k6=>?_) λζ ζ f=>f.elim;subst hv;have k46:ag [l] t4 t6:=k5.nil.trans k6;refine bN I6.ls λvs6 kk6 hl6 rl6=>?_;have V6:ap X fd.scope env σ4 [] [l] t6.heap:=V4.moveL hl4 k46 hl6;refine gC (zf ?_ hint rfl);refine (?_:al _ _ (aJ (.Name a9 q9) env>>=λg=>gX q10 g [] (bW q10 (bV a2 env)) []) _ _ t6);refine aj (iH V6 (F.val2 V6 hcell I6.k2) hnn ?_);refine ah I6.fo λo6 ho6 hd6=>?_;refine qB ho6 hd6 (jf hA2) (fP (du OK LZ Rb2 12) hA2 I6.S V6) λvs t7 S7 k7 r7=>?_;have I7:=I6.step S7 k7 (λb hb=>nomatch hb);refine ax (ih (A.deeper env) t7 _ upper mid R vs g2 (by rw[uD];exact h2) (qz h1 h3 hLR hmid g1) h4 hup2 Rb I7 (fB (tT _ _ _) r7)) (λv t8 h_6=>aL h_6 λhv I8 k8=>?_) λζ ζ f=>f.elim;subst hv;exact sE (hQ _ _ ⟨rfl,hst▸I8,(k04.trans k46).trans (k7.nil.trans k8)⟩)
end
section
variable {X:Cx} {A:aM} {s s':ae} {env:Env} {sc:Scope} {σ σ':Sg} {own:List (Str×Addr)} {P W:List Addr} {O:Orc}
theorem Jm {M:qf} {E:Value->ae->Prop} {n:Int} {t:cJ} {pl:bp Bool} {Q:Value×List Value->ae->Prop} (h:Q (.builtin "int.bit_length",[.int n t]) s):al M A (mK (.int n t) "bit_length" pl) Q E s:=by
 with_reducible exact vy (yG _ _ _) F.plainAttrs_int WD F.type_int_bit_length (λζ e=>nomatch e) h
theorem L6 {E:Value->ae->Prop} {n:Int} {t:cJ} {Q:Value->ae->Prop} (h:Q (.int (cg n:Nat) s.toks) {s with toks:=s.toks+1}):al (aq X.prog X.w) A (call (.builtin "int.bit_length") [.int n t]) Q E s:=
 Va WD (yG s n t) F.entry_int_bit_length (F.args_int_bit_length_1 _) (X8 n t) h
theorem K9 {o:ac} {apos pos:Pos} {x:Int} (h0:jM o=false) (hp:(apos.endLine==pos.line)=true) (S:ai X s) (h1:Ev X A s (aJ o env) (λv s'=>am W s'.heap (.int x) v)):Ev X A s (aJ (.Call (.Attribute o (af "bit_length") apos) [] [] pos) env) (λv s'=>am W s'.heap (.int (cg x:Nat)) v):=by
 refine tY (id:= "int.bit_length") (Q:=λvs ζ=>vs=[]) h0 hp (by decide) (λe he=>nomatch he) h1 (λov s1 pl Q ζ ζ r1 q=>?_) (λov s' S' k' ζ=>Ev.pure S' rfl) λov vs s1 s2 S1 k1 r1 S2 k2 r2=>?_
 ·refine ay r1 λt e1_=>?_;clear r1;subst e1_;exact Jm q
 ·subst r2;refine ay r1 λt e1_=>?_;clear r1;subst e1_;exact L6 ⟨S2.tok,ag.toks,⟨_,rfl⟩⟩
noncomputable def je (cells:List (Str×Addr)):List (Str×fq)->List (Str×Addr)->List (Str×Addr)
 |[],acc=>acc
 |(x,k)::r,acc=>if k==.free then je cells r ((x,(cells.lookup x).getD 0)::acc) else je cells r acc
theorem Su {cells x k r acc}:je cells ((x,k)::r) acc=if k==.free then je cells r ((x,(cells.lookup x).getD 0)::acc) else je cells r acc:=rfl
theorem Nh {scope:Scope} (h:∀x,(x,jt)∈scope.names->∃c,env.cells.lookup x=some c):sy scope env=pure (je env.cells scope.names []):=by
 simp only[sy];have key:∀(names:List (Str×fq)) (acc:List (Str×Addr)),(∀x,(x,jt)∈names->∃c,env.cells.lookup x=some c)->
   (lI names acc λx (__s:List (Str×Addr))=>
    if (x.snd==jt)=true then do
     let __do_lift <- sA env x.fst
     pure (mP ((x.fst,__do_lift)::__s))
    else pure (mP __s))=(pure (je env.cells names acc):bp _):=by
  intro names
  induction names with
  |nil=>intro acc _;rfl
  |cons y r ih=>
   intro acc hn;obtain ⟨y,k⟩:=y;rw[sv];refine aa Su ?_
   by_cases hk:(k==jt)=true
   ·simp only[hk,if_true];have hk':=bc hk;subst hk';refine ay (hn y (.head _)) λc hc=>?_;have e:sA env y=pure c:=by unfold sA;exact aa hc rfl
    refine aa e (aa hc ?_);exact ih _ λx hx=>hn x (.tail _ hx)
   ·simp only[hk,if_false,dp];exact ih _ λx hx=>hn x (.tail _ hx)
 refine aa (key scope.names [] h) ?_;rfl
theorem ap.weak {h:aP} (V:ap X sc env σ [] P h) (hw:∀x e,σ'.lookup x=some e->σ.lookup x=some e):ap X sc env σ' [] P h:=
 {V with
  vars:=λx d e=>V.vars x d (hw x _ e)
  owns:=λx xs e=>V.owns x xs (hw x _ e)}
theorem ap.flatP {h:aP} {P':List Addr} (V:ap X sc env σ [] P h) (hf:jB σ) (hP:∀b∈P',∃o,h.get? b=some o/\cG o=false):ap X sc env σ [] P' h:=
 {V with
  vars:=λx d e=>by
   refine ah (V.vars x d e) λv h1 h2=>?_
   refine ah (hf x _ e) λd' q hd=>?_
   cases q
   exact au v h1 (h2.flat hd)
  owns:=λx xs e=>by refine ah (hf x _ e) λd q ζ=>?_;cases q
  pin:=hP
  ownP:=λx a q=>nomatch q}
theorem zY {x:Str} {v:Value} {Q:Unit->ae->Prop} (S:ai X s) (V:ap X sc env σ [] P s.heap) (hx:bb sc x=true) (hn:σ.lookup x=none) (h:∀s',ai X s'->ag (aV sc env []) s s'->ap X sc env σ [] P s'.heap->dv env s'.heap x v->(∀z u,z≠x->dv env s.heap z u->dv env s'.heap z u)->
   (∀b o,s.heap.get? b=some o->(∃its n,o.data=.seq its n)->s'.heap.get? b=some o)->Q () s'):al (aq X.prog X.w) A (j3 env x v) Q (λζ ζ=>False) s:=by
 refine uX V hx λh' tk a ha hs hv hz hns hcel ho=>?_;have hex2:∃o,h'.get? a=some o/\cG o=false:=by
  rcases ao.mp ha with q|q
  ·obtain ⟨m,o,_,_,e,hd,_⟩:=hns;exact au o (q▸e) (fe λvs z=>by replace z:=hd▸z;cases z)
  ·refine ah (ea q) λy hm ζ=>?_;refine bN (hcel y _ hm) λv o e hd=>?_;exact au o e (fe λvs z=>by replace z:=hd▸z;cases z)
 have hfr:X.h0.get? a=none:=by
  rcases ao.mp ha with q|q
  ·exact q▸V.fl
  ·refine ah (ea q) λy hm ζ=>?_;exact V.fc y _ hm
 have hkb:Kb [a] s.heap h':=λb o hb ζ e=>(hs.2 b (λq=>hb (gW.mpr (by assumption)))).trans e;have haW:a∈aV sc env []:=by
  unfold aV;rcases ao.mp ha with q|q
  ·exact ao.mpr (.inl q)
  ·exact bP _ (bC _ q)
 refine h _ (S.same hfr (λo e=>(ho o e).1) hs) (ag.but haW hs (ah hex2 λo e ζ=>⟨o,e⟩)) ?_ hv hz (λb o e h_0=>jy h_0 λits n hd=>(hs.2 b (λq=>(ho _ (q▸e)).2 _ _ hd)).trans e)
 exact {V with
  ns:=hns
  pin:=λc hc=>by
   by_cases q:c=a
   ·exact q▸hex2
   ·refine ah (V.pin c hc) λo e ht=>?_;exact au o ((hs.2 c q).trans e) ht
  cells:=hcel
  vars:=λz d' e=>by refine ah (V.vars z d' e) λu h1 h2=>?_;exact au u (hz z u (λq=>by rw[q,hn] at e;exact ab e) h1) (am.kb hkb (λb hb=>.inr (.inr λo e=>(ho o (by simp at hb;exact hb▸e)).2)) (λb hb=>.inl hb) d' u h2)
  owns:=λz xs e=>by refine jP (V.owns z xs e) λa vs n h1 ζ=>?_;exact ab h1
  ownF:=λx a e=>nomatch e}
end
noncomputable abbrev nA:Str:=af "a"
structure m8 (ps:List Str) (params:sH) (isc:Scope) (ibody:List aN) (n1 n2 n3:Str):Prop where
 co:isc.isCoroutine=false
 ge:isc.isGenerator=false
 kd:isc.kind=.function
 nd:ew isc.names=true
 nm:∀x k,(x,k)∈isc.names->cy x=true
 pst:∀p∈ps,bb isc p=true
 bind:∀(qual:Str) (clos:List (Str×Addr)) (doc pm ct cv:Value) (vs:List Value),vs.length=ps.length->lJ (fnX n2 qual params ibody isc clos .none .none doc pm none cv ct) ⟨vs,[]⟩=pure (ps.zip vs)
 fr:∀x,isc.names.lookup x=some .free->x=n1\/x=n2\/x=n3
 f1:isc.names.lookup n1=some .free
 f2:isc.names.lookup n2=some .free
 f3:isc.names.lookup n3=some .free
 noc:∀x,(x,pQ)∉isc.names
 n12:n1≠n2
 n13:n1≠n3
 n23:n2≠n3
 clo:∀cells,je cells isc.names []=[(n1,(cells.lookup n1).getD 0),(n2,(cells.lookup n2).getD 0),(n3,(cells.lookup n3).getD 0)]
 doc:docOf ibody=none
 d0:params.defaults=[]
 k0:params.kw_defaults=[]
 an:∀env,annTrees params none env=[]
section
variable {X:Cx} {A:aM} {s s':ae} {env:Env} {sc:Scope} {σ σ':Sg} {own:List (Str×Addr)} {P W:List Addr} {O:Orc} {k:Nat}
theorem ma.en {fa:Addr} {fd:fZ} {ps:List Str} {body:List aN} (F:ma X fa fd ps body) (S:ai X s):rL X s fd ps body W []:=
 {gl:=F.gl,bi:=F.bi,bd:=F.bd,co:=F.co,ge:=F.ge,kd:=F.kd,nd:=F.nd,nm:=F.nm,pst:=F.pst,bind:=F.bind,cd:=F.cd s.heap S.old
  c1:=λx c h=>by replace h:=F.cl▸h;cases h
  c2:=λx y c h=>by replace h:=F.cl▸h;cases h
  c3:=λx hx=>absurd hx (F.nf x)
  hv:=λx e h=>nomatch h}
theorem pG {x:Str} {v:Value} {c:Addr} {h:aP} (V:ap X sc env σ own P h) (hx:dZ sc x=true) (hc:env.cells.lookup x=some c) (r:dv env h x v):h.IsCell c (some v):=by
 have:=(V.cel x hx).1;rcases r with ⟨h1,_⟩|⟨_,c',e,h2⟩
 ·replace this:=h1▸this;rcases this with q|q<;>cases q
 ·replace e:=hc▸e;have h_:=ak e;clear e;subst h_;exact h2
theorem m8.fd3 {ps:List Str} {params:sH} {isc:Scope} {ibody:List aN} {n1 n2 n3:Str} (I:m8 ps params isc ibody n1 n2 n3) {h:aP} (V:ap X sc env σ own P h) {c1 c2 c3:Addr} (h1:env.cells.lookup n1=some c1) (h2:env.cells.lookup n2=some c2) (h3:env.cells.lookup n3=some c3) (qual:Str) (doc pm ct cv:Value):ib X (fnX n2 qual params ibody isc (je env.cells isc.names []) .none .none doc pm none cv ct) ps ibody n1 n2 n3 c1 c2 c3:=
 {gl:=rfl,bi:=rfl,bd:=rfl,co:=I.co,ge:=I.ge,kd:=I.kd,nd:=I.nd,nm:=I.nm,pst:=I.pst,bind:=I.bind _ _ _ _ _ _,fr:=I.fr,f1:=I.f1,f2:=I.f2,f3:=I.f3,noc:=I.noc,n12:=I.n12,n13:=I.n13,n23:=I.n23
  cl:=by refine (?_:je env.cells isc.names []=_);rewrite[I.clo];refine aa h1 (aa h2 (aa h3 ?_));rfl
  d12:=λq=>I.n12 (V.apart n1 n2 c1 (ck h1) (q▸ck h2))
  d13:=λq=>I.n13 (V.apart n1 n3 c1 (ck h1) (q▸ck h3))
  d23:=λq=>I.n23 (V.apart n2 n3 c2 (ck h2) (q▸ck h3))
  h1:=V.fc n1 c1 (ck h1)
  h2:=V.fc n2 c2 (ck h2)
  h3:=V.fc n3 c3 (ck h3)}
theorem DC (V:ap X sc env σ [] P s.heap) {b:Addr} (hb:b∈aV sc env []) {o:d5} (e:s.heap.get? b=some o):gt o:=by
 unfold aV at hb;rcases ao.mp hb with q|q
 ·obtain ⟨m,oF,es,ep,eF,hdF,_⟩:=V.ns;rw[q,eF] at e;have h_:=ak e;clear e;subst h_;exact .inr λvs z=>by replace z:=hdF▸z;cases z
 ·rcases be.mp q with q|q
  ·refine ah (ea q) λx hm ζ=>?_;refine bN (V.cells x b hm) λv o' e' hd=>?_;replace e:=e'▸e;have h_:=ak e;clear e;subst h_;exact .inr λvs z=>by replace z:=hd▸z;cases z
  ·exact nomatch q
theorem BN {ps:List Str} {params:sH} {isc:Scope} {ibody:List aN} {n1 n2 n3:Str} (I:m8 ps params isc ibody n1 n2 n3) {q:Tb} {q3:Pos} {Q:eW->ae->Prop} (S:ai X s) (V:ap X sc env σ [] P s.heap) (T:jY X q) (hcode:env.code=.ref q.c) (hpos:q.pos=q3) (hqual:q.qual=FL env n2 n2) (hcel:∀x,x=n1\/x=n2\/x=n3->dZ sc x=true) (hst:bb sc n2=true) (hn:σ.lookup n2=none) (h:∀t5 s' f doc pm ct cv,ai X t5->ag [] s t5->ap X sc env σ [] P t5.heap->s.heap.get? f=none->ai X s'->ag (aV sc env []) t5 s'->ap X sc env σ [] P s'.heap->dv env s'.heap n2 (.ref f)->
   (∃o,s'.heap.get? f=some o/\o.data=.func (fnX n2 q.qual params ibody isc (je env.cells isc.names []) .none .none doc pm none cv ct))->hG s'.heap cv q.qual->
   (∀z u,z≠n2->dv env s.heap z u->dv env s'.heap z u)->(∀b o,s.heap.get? b=some o->(∃its n,o.data=.seq its n)->s'.heap.get? b=some o)->Q .next s'):al (aq X.prog X.w) A (dr (.FunctionDef n2 params ibody [] none [] isc none n2 q3) env) Q (λζ ζ=>False) s:=by
 have hcl:sy isc env=pure (je env.cells isc.names []):=Nh λx hx=>by have:isc.names.lookup x=some .free:=l7 I.nd hx;exact (V.cel x (hcel x (I.fr x this))).2
 have hc3:=I.clo env.cells;refine nestDef_K I.d0 I.k0 (I.an env) ?_;refine Uk S T (aa hcl (aa hc3 rfl)) V.glob hcode hpos hqual I.doc λt5 f doc pm ct cv S5 k5 hfn hf hcd=>?_;have V5:=V.keep k5.kb;refine zY S5 V5 hst hn λt6 S6 k6 V6 hval hz hseq=>?_;rw[<- hqual] at hf hcd;refine h t5 t6 f doc pm ct cv S5 k5 V5 hfn S6 k6 V6 hval ⟨_,k6.kb f _ (λz=>?_) rfl hf,?_⟩ (hcd.kb k6.kb λb hb o e=>DC V5 hb e) (λz u hne r=>hz z u hne (r.keep k5.kb)) λb o e hd=>hseq b o (k5.kb b o (λz=>nomatch z) (fe λvs z=>by refine jy hd λζ ζ y=>?_;clear hd;replace z:=y▸z;cases z) e) hd
 ·refine ah (V.wenv_in f z) λo e ζ=>?_;replace e:=hfn▸e;exact ab e
 ·exact aa hc3 rfl
end
noncomputable def cC (a n:Nat):Nat:=(cg (a:Int)+n - 1)/n
structure Ai (sc:Scope) (e1 t:ac) (a1:List ac):Prop where
 hE:∀(X:Cx) (A:aM) (s:ae) (env:Env) (σ:Sg) (W:List Addr) (O:Orc) (a n:Nat),bg X O 0->bR X->aK A 2->ai X s->ap X sc env σ [] W s.heap->σ.lookup nA=some (.sh (.int a))->σ.lookup nN=some (.sh (.int n))->1<=n->cC a n<=128->a<2^65536->n<=512->
  Ev X A s (aJ e1 env) (λv s'=>vY s W (bJ (cC a n) (.int 0)) v s')
 hT:∀O σ (a:Nat),σ.lookup nA=some (.sh (.int a))->pT O 12 sc σ t=some (decide (a≠0))
 ha:∀O σ (a k:Nat),σ.lookup nA=some (.sh (.int a))->σ.lookup c7=some (.sh (.list (bJ k (.int 0))))->aX (pe O 12 sc σ) a1=some [.int a,.int 0,.int k]
 cf:xt e1=false
 s1:bb sc c7=true
 s2:bb sc a9=true
 i1:dZ sc nN=true
 i2:dZ sc a9=true
 i3:dZ sc c7=true
 ok1:cy a9=true
 ok2:cy c7=true
 ng:(sc.names.lookup a9==some zj)=false
section
variable {X:Cx} {A:aM} {s s':ae} {W:List Addr} {O:Orc} {k:Nat}
theorem ap.add {sc:Scope} {env:Env} {σ:Sg} {P:List Addr} {h:aP} {x:Str} {d:PV} {v:Value} (V:ap X sc env σ [] P h) (hv:dv env h x v) (r:am P h d v):ap X sc env (put σ x (.sh d)) [] P h:=
 {V with
  vars:=λz d' e=>by
   rw[cE] at e
   split at e
   ·rename_i q;cases e;exact au v (q▸hv) (by rw[lh];exact r)
   ·exact V.vars z d' e
  owns:=λz xs e=>by
   rw[cE] at e
   split at e
   ·cases e
   ·exact V.owns z xs e}
theorem M0 {a n:Nat} (ha:a≠0) (h1:1<=n):0<cC a n:=by
 have hbits:=vO.mp (aT (cg (a:Int)));have hpos':0<cg (a:Int):=by
  rcases Nat.eq_zero_or_pos (cg (a:Int)) with z|z
  ·replace hbits:=z▸hbits;simp at hbits;exact absurd (by assumption) (by assumption)
  ·exact z
 unfold cC;exact Nat.div_pos (Ul h1 hpos') (yQ (by assumption))
theorem Nv {a n:Nat} (h1:1<=n):a<2^((cC a n - 0)*n):=by
 have hbits:=vO.mp (aT (cg (a:Int)));have hle:cg (a:Int)<=cC a n*n:=by unfold cC;have:=Nat.lt_div_mul_add (a:=cg (a:Int)+n - 1) (b:=n) (yQ (by assumption));exact Rv h1 this
 have h5:a<2^cg (a:Int):=by simpa using hbits
 exact cV h5 (mV (il _) hle)
theorem IX {n:Nat} (h1:1<=n):cC 0 n=0:=by unfold cC;refine (?_:(0+n - 1)/n=0);exact zi (PS h1)
theorem Ky {fa:Addr} {fd:fZ} {params:sH} {isc:Scope} {e1 t0 t ex eL:ac} {s2 s3 s4 s5:aN} {a1 b1 b2:List ac} {q:Tb} {q1 q2 q3 q4 q5 q6 q7 q8 q9 p1 p2 p3 p4 p5 p6 p7 p8 p9 p10 p11:Pos} {vs:List Value} {a n:Nat} (F:ma X fa fd [nA,nN] [.Assign [.Name c7 q1] e1 q2,.FunctionDef a9 params (.If t [.Assign [.Subscript (.Name c7 p1) eL p2] ex p3,.Return none p4] [] p5::s2::s3::s4::s5::.Expr (.Call (.Name a9 p6) b1 [] p7) p8::.Expr (.Call (.Name a9 p9) b2 [] p10) p11::[]) [] none [] isc none a9 q3,
   .If t0 [.Expr (.Call (.Name a9 q4) a1 [] q5) q6] [] q7,.Return (some (.Name c7 q8)) q9]) (U:Ai fd.scope e1 t0 a1) (I:m8 [fD,nL,nR] params isc (.If t [.Assign [.Subscript (.Name c7 p1) eL p2] ex p3,.Return none p4] [] p5::s2::s3::s4::s5::.Expr (.Call (.Name a9 p6) b1 [] p7) p8::.Expr (.Call (.Name a9 p9) b2 [] p10) p11::[]) nN a9 c7) (H:xy isc t ex eL s2 s3 s4 s5 b1 b2) (hsw:∀env q,sD ex (some (.Subscript (.Name c7 p1) eL p2)) q env=pure false) (T:jY X q) (hcode:fd.code=.ref q.c) (hpos:q.pos=q3) (hqual:q.qual=fd.qualname++ ".<locals>." ++a9) (OK:bg X O 0) (LZ:bR X) (h1:1<=n) (h2:cC a n<=128) (h3:a<2^65536) (h4:n<=512) (R:aK A 140) (S:ai X s) (w:b8 W s.heap) (r:ar W s.heap [.int a,.int n] vs):Ev X A s (call (.ref fa) vs) (λv s'=>am W s'.heap (.list ((ez n (cC a n) a).map .int)) v):=by
 refine bo F.ho λo ho hcl hd=>?_;have hof:=S.old.get_of_cls ho (by refine aa hcl ?_;nofun);refine s9 (F.en S) hof hd (as:=[.int a,.int n]) rfl R.depth S w r λenv t2 V2 S2 k2 fresh hint hec hce heq hes=>?_;have Rb:aK (A.deeper env) 139:=(show aK A (139+1) from R).deeper env;have Rb2:aK (A.deeper env) (0+2):=Rb.mono (b7 _ _);have l1:(bI [] ([nA,nN].zip ([PV.int a,.int n].map .sh))).lookup nA=some (.sh (.int a)):=rfl;have l2:(bI [] ([nA,nN].zip ([PV.int a,.int n].map .sh))).lookup nN=some (.sh (.int n)):=rfl;have l3:(bI [] ([nA,nN].zip ([PV.int a,.int n].map .sh))).lookup c7=none:=rfl;have l4:(bI [] ([nA,nN].zip ([PV.int a,.int n].map .sh))).lookup a9=none:=rfl;have fl:jB (bI [] ([nA,nN].zip ([PV.int a,.int n].map .sh))):=lj (lj (σ:=[]) (λy e q=>nomatch q) rfl) rfl;revert V2;revert l1;revert l2;revert l3;revert l4;revert fl;refine bB (bI [] ([nA,nN].zip ([PV.int a,.int n].map .sh))) λσ=>?_;intro fl l4 l3 l2 l1 V2;refine gC (Wd (ax (U.hE X _ t2 env σ W O a n OK LZ Rb2 S2 V2 l1 l2 h1 h2 h3 h4) (λv t3 h_=>aL h_ λS3 k3 h_=>i8 h_ λl lvs lk h_=>uv h_ λe hln hl hlen rl=>?_) λζ ζ f=>f.elim) (D2 U.cf));subst e;have V3:=V2.keep k3.kb;have hlW:l∉W:=λz=>by refine ah (w.step k2 l z) λo e ζ=>?_;replace e:=hln▸e;exact ab e
 have hl0:X.h0.get? l=none:=S2.fresh hln;refine zY S3 V3 U.s1 l3 λt4 S4 k4 V4 hval4 hz4 hseq4=>?_;have hl4:=hseq4 l _ hl ⟨_,_,rfl⟩;have rl4:ar (l::W) t4.heap (bJ (cC a n) (.int 0)) lvs:=fB (λd hd=>by refine aa (mW hd) ?_;rfl) rl;refine gC ?_
 refine BN I S4 V4 T (hec.trans hcode) hpos (by refine aa hqual ?_;unfold FL;rw[show env.kindOf a9=fd.scope.names.lookup a9 by (refine (?_:env.scope.names.lookup a9=_);exact aa hes rfl)];refine aa U.ng (aa heq ?_);rfl) (λx hx=>by
  rcases hx with rfl|rfl|rfl
  ·exact U.i1
  ·exact U.i2
  ·exact U.i3) U.s2 l4 λt5 t6 f doc pm ct cv S5 k5 V5 hfn S6 k6 V6 hval6 hf6 hcd6 hz6 hseq6=>?_
 have hl6:=hseq6 l _ hl4 ⟨_,_,rfl⟩;have hvalA:dv env t6.heap c7 (.ref l):=hz6 c7 _ (by decide) hval4;have rl6:ar (l::W) t6.heap (bJ (cC a n) (.int 0)) lvs:=fB (λd hd=>by refine aa (mW hd) ?_;rfl) rl;have V6a:=V6.add hvalA (d:=.list (bJ (cC a n) (.int 0))) ⟨l,lvs,rfl,hlW,⟨lk,hl6⟩,hlen,rl6.sub λb hb=>bP _ hb⟩;have m1:(put σ c7 (.sh (.list (bJ (cC a n) (.int 0))))).lookup nA=some (.sh (.int a)):=by refine aw (by decide) ?_;exact l1
 have m3:(put σ c7 (.sh (.list (bJ (cC a n) (.int 0))))).lookup c7=some (.sh (.list (bJ (cC a n) (.int 0)))):=aS;have wk:∀x e,σ.lookup x=some e->(put σ c7 (.sh (.list (bJ (cC a n) (.int 0))))).lookup x=some e:=λx e he=>by rw[cE,if_neg (λz=>by (replace he:=z▸he;replace he:=l3▸he);exact ab he)];exact he
 refine ay ((V6.cel nN U.i1).2) λc1 hc1=>?_;refine ay ((V6.cel a9 U.i2).2) λc2 hc2=>?_;refine ay ((V6.cel c7 U.i3).2) λc3 hc3=>?_;refine ah (V6.vars nN _ l2) λvN hvN rN=>?_;obtain ⟨tN,rfl⟩:=rN;have fd3:=I.fd3 (X:=X) V6 hc1 hc2 hc3 q.qual doc pm ct cv;have I6:iD X _ f l c1 c2 c3 n (bJ (cC a n) 0) t6:=
  {S:=S6,k1:=⟨tN,pG V6 U.i1 hc1 hvN⟩,k2:=pG V6 U.i2 hc2 hval6,k3:=pG V6 U.i3 hc3 hvalA,fo:=hf6,cd:=hcd6
   ls:=⟨lvs,lk,hl6,by refine aa List.map_replicate ?_;exact fB (λd hd=>by refine aa (mW hd) ?_;rfl) rl⟩}
 have k26:ag [] s t6:=by have a1:ag [] s t3:=k2.trans k3;have a2:ag [] s t4:=ag.more a1 k4 a1.gsz λy hy=>.inr (fresh y hy);have a3:ag [] s t5:=a2.trans k5;exact ag.more a3 k6 a3.gsz λy hy=>.inr (fresh y hy)
 have hls:s.heap.get? l=none:=k2.none hln;refine gC ?_;refine aa qL ?_;refine aj (dS (aj (ax (li OK LZ Rb2 12 _ _ env [] W t0 _ t6 (U.hT O _ a m1) S6 V6a) (λc t7 h_1=>aL h_1 λS7 k7 e7=>?_) λζ ζ f=>f.elim)));subst e7;have V7a:=V6a.keep k7.kb;have I7:=I6.step S7 k7 (λb hb=>nomatch hb);have hvalA7:=hvalA.keep k7.kb
 by_cases ha0:a=0
 ·rw[if_neg (by simpa using ha0)];refine sE (gC (sF (iH V7a hvalA7 U.ok2 ?_)));have e0:cC a n=0:=by refine aa ha0 ?_;exact IX h1
  refine bN I7.ls λvs7 lk7 hl7 rl7=>?_;refine⟨S7,k26.trans k7,l,vs7,rfl,hlW,⟨lk7,hl7⟩,by have:=rl7.length;simp[e0] at this;simp[this],?_⟩;rw[e0] at rl7 ⊢;exact fB uc rl7
 ·rw[if_pos (by simpa using ha0)];refine gC (zf ?_ hint rfl);refine (?_:al _ _ (aJ (.Name a9 q4) env>>=λg=>gX q5 g [] (bW q5 (bV a1 env)) []) _ _ t7);refine aj (iH V7a (hval6.keep k7.kb) U.ok1 ?_);have hA:=U.ha O _ a (cC a n) m1 m3;refine ah I7.fo λo7 ho7 hd7=>?_;refine qB ho7 hd7 (jf hA) (fP (du OK LZ Rb2 12) hA S7 V7a) λvs8 t8 S8 k8 r8=>?_;have I8:=I7.step S8 k8 (λb hb=>nomatch hb);have hk0:=M0 ha0 h1;have hax:=Nv (a:=a) h1;refine ax (Py fd3 H hsw OK LZ hl0 U.ok1 U.ok2 h4 (cC a n) (A.deeper env) t8 _ a 0 (cC a n) vs8 hk0 (by simp) (iU _ _) h2 h3 (Rb.mono (A3 h2)) I8 (fB (tT _ _ _) r8)) (λv t9 h_2=>aL h_2 λhv I9 k9=>?_) λζ ζ f=>f.elim;subst hv;rw[wz _ _ _ _ _ _ hk0 (by simp) (iU _ _) hax] at I9;simp only[zk,sC,sJ,List.drop_replicate,vQ,List.replicate_zero,kM] at I9;refine bN I9.ls λvs9 lk9 hl9 rl9=>?_;refine bN I8.ls λvs8 lk8 hl8 ζ=>?_;have V8:=((V7a.keep k8.kb).weak (σ':=σ) wk).flatP fl (P':=[l]) (λb hb=>gW.mp hb▸⟨_,hl8,rfl⟩);have V9:ap X fd.scope env σ [] [l] t9.heap:=V8.moveL hl8 k9 hl9;refine sE (gC (sF (iH V9 (.inr ⟨(V9.cel c7 U.i3).1,c3,hc3,I9.k3⟩) U.ok2 ?_)));have k08:ag [] s t8:=(k26.trans k7).trans k8;refine⟨I9.S,ag.more k08 k9 k08.gsz (λy hy=>.inr (gW.mp hy▸hls)),l,vs9,rfl,hlW,⟨lk9,hl9⟩,?_,fB uc rl9⟩;have:=rl9.length;refine aa this ?_;rw[ca,tS];exact aB h2 (by decide)
end
noncomputable abbrev cW:Str:=af "digits"
noncomputable def bl (n:Nat):List Nat->Nat
 |[]=>0
 |d::r=>d+bl n r*2^n
theorem sU {n}:bl n []=0:=rfl
theorem ua {n d r}:bl n (d::r)=d+bl n r*2^n:=rfl
theorem wj (n:Nat):∀a b:List Nat,bl n (a++b)=bl n a+bl n b*2^(a.length*n)
 |[],b=>by simp[sU,ua]
 |d::a,b=>by refine (?_:d+bl n (a++b)*2^n=d+bl n a*2^n+bl n b*2^((a.length+1)*n));refine aa (wj n a b) ?_;rw[gD,gD,jv,mU,vR,j2]
theorem u9 (n:Nat):∀a:List Nat,(∀d∈a,d<2^n)->bl n a<2^(a.length*n)
 |[],_=>by simp[sU,ua]
 |d::a,h=>by
  have h1:=h d (.head _);have h2:=u9 n a λx hx=>h x (.tail _ hx);refine (?_:d+bl n a*2^n<2^((a.length+1)*n));rw[gD,jv,mU]
  calc d+bl n a*2^n<2^n+bl n a*2^n:=WE (by assumption) _
   _=(bl n a+1)*2^n:=by rw[gD,jv,fk]
   _<=2^(a.length*n)*2^n:=vj _ h2
noncomputable def gN:Nat->Nat->Nat->Nat->List Nat->Nat
 |0,_,_,_,_=>0
 |m+1,n,L,R,ds=>if L+1=R then ds.getD L 0 else gN m n ((L+R)/2) R ds*2^(((L+R)/2 - L)*n)+gN m n L ((L+R)/2) ds
theorem xI {m n L R ds}:gN (m+1) n L R ds=if L+1=R then ds.getD L 0 else gN m n ((L+R)/2) R ds*2^(((L+R)/2 - L)*n)+gN m n L ((L+R)/2) ds:=rfl
theorem ub:∀m n L R (ds:List Nat),L<R->R<=ds.length->R - L<=m->gN m n L R ds=bl n ((ds.drop L).take (R - L))
 |0,n,L,R,ds,h,_,h2=>SY h h2
 |m+1,n,L,R,ds,h,hR,h2=>by
  refine aa xI ?_
  split
  ·rename_i e;have e1:R - L=1:=BZ e;have hlt:L<ds.length:=cV (by assumption) (by assumption);have e2:(ds.drop L).take 1=[ds[L]]:=by refine aa (pZ hlt) ?_;rfl
   rw[e1,e2];simp[sU,ua,yR,hlt]
  ·rename_i hne;have g1:L<(L+R)/2:=sa h hne;have g2:(L+R)/2<R:=m4 h hne;revert g1;revert g2;refine bY ((L+R)/2) λmid hmid=>?_;intro g2 g1;rw[ub m n mid R ds g2 hR (qz h h2 hne hmid g1),ub m n L mid ds g1 (aB (ej (by assumption)) (by assumption)) (uL h h2 hne hmid)];have e:(ds.drop L).take (R - L)=(ds.drop L).take (mid - L)++(ds.drop mid).take (R - mid):=by have e2:R - L=(mid - L)+(R - mid):=w3 h hne hmid g1;refine aa e2 (aa WF (aa kN ?_));congr 3;exact O8 g2 g1
   rw[e,wj,fJ,eu,j1 (Nm h hR hne hmid)];exact fk _ _
structure yb (sc:Scope) (t eD:ac) (s2 s3:aN) (eS:ac) (a1 a2:List ac):Prop where
 hT:∀O σ (L R:Nat),σ.lookup nL=some (.sh (.int L))->σ.lookup nR=some (.sh (.int R))->pT O 12 sc σ t=some (decide (L+1=R))
 hD:∀O σ (L:Nat) (ds:List Nat),σ.lookup nL=some (.sh (.int L))->σ.lookup cW=some (.sh (.list (ds.map λd=>.int ((d:Nat):Int))))->L<ds.length->pe O 12 sc σ eD=some (.int (ds.getD L 0:Nat))
 hss:∀O σ (L R n:Nat),σ.lookup nL=some (.sh (.int L))->σ.lookup nR=some (.sh (.int R))->σ.lookup nN=some (.sh (.int n))->R<=128->n<=512->L<R->
  aO O 12 sc σ [s2,s3]=some (.nx (put (put σ ce (.sh (.int (((L+R)/2:Nat):Int)))) dg (.sh (.int ((((L+R)/2 - L)*n:Nat):Int)))))
 hS:∀O σ (x:Nat),σ.lookup dg=some (.sh (.int x))->pe O 12 sc σ eS=some (.int x)
 ha1:∀O σ (L R:Nat),σ.lookup ce=some (.sh (.int L))->σ.lookup nR=some (.sh (.int R))->aX (pe O 12 sc σ) a1=some [.int L,.int R]
 ha2:∀O σ (L R:Nat),σ.lookup nL=some (.sh (.int L))->σ.lookup ce=some (.sh (.int R))->aX (pe O 12 sc σ) a2=some [.int L,.int R]
noncomputable def ia (ds:List Nat):List Int:=ds.map λd:Nat=>(d:Int)
section
variable {X:Cx} {A:aM} {s s' s1 s2:ae} {W V:List Addr} {fd:fZ} {c1 c2 c3:Addr} {env:Env} {O:Orc}
theorem Tq {f l:Addr} {n:Nat} {t eD eS:ac} {s2 s3:aN} {a1 a2:List ac} {q1 q2 q3 q4 q5 q6 q7 q8 q9:Pos} (F:ib X fd [nL,nR] (.If t [.Return (some eD) q1] [] q2::s2::s3::.Return (some (.BinOp (.BinOp (.Call (.Name a9 q3) a1 [] q4) .LShift eS q5) .Add (.Call (.Name a9 q6) a2 [] q7) q8)) q9::[]) nN a9 cW c1 c2 c3) (H:yb fd.scope t eD s2 s3 eS a1 a2) (OK:bg X O 0) (LZ:bR X) (hnn:cy a9=true) (hnlt:n<=512) {ds:List Nat} (hds:∀d∈ds,d<2^n) (hlen:ds.length<=128):∀m (A:aM) (s:ae) (L R:Nat) (vs:List Value),L<R->R<=ds.length->R - L<=m->aK A (m+4)->iD X fd f l c1 c2 c3 n (ia ds) s->ar [] s.heap [.int L,.int R] vs->
   Ev X A s (call (.ref f) vs) (λv s'=>am [] s'.heap (.int (gN m n L R ds:Nat)) v):=by
 intro m
 induction m with
 |zero=>intro A s L R vs h1 h2 h3;exact (xc h1 h3).elim
 |succ m ih=>
  intro A s L R vs h1 h2 h3 R0 I r;refine ah I.fo λo ho hd=>?_;refine bN I.ls λlvs lk hl rl=>?_;have hll:lvs.length<=sizeLine:=by refine aa rl.length ?_;simp[ia];exact aB hlen (by decide:128<=sizeLine)
  have E:rL X s fd [nL,nR] _ [] [(cW,.sh (.list (ds.map λd=>.int ((d:Nat):Int)))),(nN,.sh (.int n))]:=F.en (ay I.k1 λt k=>⟨_,k⟩) ⟨_,I.k2⟩ ⟨_,I.k3⟩ I.cd (λy e hy=>by
   simp only[dP] at hy
   split at hy
   ·rename_i z;have h_:=ak hy;clear hy;subst h_;have z:=bc z;subst z;refine⟨F.f3,_,c3,_,rfl,by refine aa F.cl ?_;rfl,I.k3,l,lvs,rfl,(λq=>nomatch q),⟨lk,hl⟩,hll,?_⟩;have:ds.map (λd=>PV.int ((d:Nat):Int))=(ia ds).map .int:=by simp[ia]
    refine aa this ?_;exact rl
   ·split at hy
    ·rename_i z;have h_:=ak hy;clear hy;subst h_;have z:=bc z;subst z;refine ay I.k1 λt k1=>?_;exact⟨F.f1,_,c1,_,rfl,by refine aa F.cl ?_;rfl,k1,⟨t,rfl⟩⟩
    ·exact ab hy)
  have hfl:∀(a b:Nat),∀d∈[PV.int a,.int b],d.flat=true:=λa b d hd=>by
   simp only[ao,ba,or_false] at hd;rcases hd with rfl|rfl<;>rfl
  refine s9 E ho hd (as:=[.int L,.int R]) rfl R0.depth I.S (λb hb=>nomatch hb) (fB (hfl _ _) r) λenv t2 V2 S2 k2 fresh hint ζ hce ζ ζ=>?_;have hcell:=F.cells hce;have Rb:aK (A.deeper env) (m+4):=(show aK A ((m+4)+1) from R0.mono (aT _)).deeper env;have Rb2:aK (A.deeper env) (0+2):=Rb.mono (b7 _ _);have I2:=I.step S2 k2 (λb hb=>nomatch hb);have l2:(bI [(cW,.sh (.list (ds.map λd=>.int ((d:Nat):Int)))),(nN,.sh (.int n))] ([nL,nR].zip ([PV.int L,.int R].map .sh))).lookup nL=some (.sh (.int L)):=rfl;have l3:(bI [(cW,.sh (.list (ds.map λd=>.int ((d:Nat):Int)))),(nN,.sh (.int n))] ([nL,nR].zip ([PV.int L,.int R].map .sh))).lookup nR=some (.sh (.int R)):=rfl;have l4:(bI [(cW,.sh (.list (ds.map λd=>.int ((d:Nat):Int)))),(nN,.sh (.int n))] ([nL,nR].zip ([PV.int L,.int R].map .sh))).lookup nN=some (.sh (.int n)):=rfl;have l5:(bI [(cW,.sh (.list (ds.map λd=>.int ((d:Nat):Int)))),(nN,.sh (.int n))] ([nL,nR].zip ([PV.int L,.int R].map .sh))).lookup cW=some (.sh (.list (ds.map λd=>.int ((d:Nat):Int)))):=rfl;have hus:∀a b,Mine.unown (put (put (bI [(cW,.sh (.list (ds.map λd=>.int ((d:Nat):Int)))),(nN,.sh (.int n))] ([nL,nR].zip ([PV.int L,.int R].map .sh))) ce (.sh a)) dg (.sh b))=put (put (bI [(cW,.sh (.list (ds.map λd=>.int ((d:Nat):Int)))),(nN,.sh (.int n))] ([nL,nR].zip ([PV.int L,.int R].map .sh))) ce (.sh a)) dg (.sh b):=λa b=>rfl;revert V2;revert l2;revert l3;revert l4;revert l5;revert hus;refine bB (bI [(cW,.sh (.list (ds.map λd=>.int ((d:Nat):Int)))),(nN,.sh (.int n))] ([nL,nR].zip ([PV.int L,.int R].map .sh))) λσ=>?_;intro hus l5 l4 l3 l2 V2;refine gC ?_;refine aa qL ?_;refine aj (dS (aj (ax (li OK LZ Rb2 12 _ σ env [] [] t _ t2 (H.hT O σ L R l2 l3) S2 V2) (λc t3 h_0=>aL h_0 λS3 k3 e3=>?_) λζ ζ f=>f.elim)));subst e3;have V3:=V2.keep k3.kb;have I3:=I2.step S3 k3 (λb hb=>nomatch hb);have k03:ag [] s t3:=k2.trans k3
  by_cases hLR:L+1=R
  ·rw[if_pos (by simpa using hLR)];refine aa xI ?_;refine aa (if_pos hLR) ?_;refine gC (sF (ax (du OK LZ Rb2 12 _ σ env [] [] eD _ t3 (H.hD O σ L ds l2 l5 (cV (by assumption) (by assumption))) S3 V3) (λv t4 h_1=>aL h_1 λS4 k4 r4=>⟨S4,k03.trans k4,r4⟩) λζ ζ f=>f.elim))
  ·rw[if_neg (by simpa using hLR)];have g1:L<(L+R)/2:=sa h1 hLR;have g2:(L+R)/2<R:=m4 h1 hLR;have hp:=H.hss O σ L R n l2 l3 l4 (aB (by assumption) (by assumption)) hnlt h1;refine aa xI ?_;refine aa (if_neg hLR) ?_;revert hp;revert g1;revert g2;refine bY ((L+R)/2) λmid hmid=>?_;intro g2 g1 hp;refine sE ?_;refine (?_:al _ _ (db ([s2,s3]++[.Return (some (.BinOp (.BinOp (.Call (.Name a9 q3) a1 [] q4) .LShift eS q5) .Add (.Call (.Name a9 q6) a2 [] q7) q8)) q9]) env) _ _ _);refine A1 [s2,s3] _ _ ?_;refine ax ((rO OK LZ Rb2 12).2 fd.scope env σ [] [] _ _ t3 hp S3 V3) (λfl t4 h4'=>?_) λζ ζ f=>f.elim;obtain ⟨rfl,own4,S4,k4,o4,V4'⟩:=h4';have V4:=V4'.own0 (hus _ _)
   have I4:=I3.step S4 k4 (λb hb o e=>by
    have hn:=fresh b hb;have ne:∀c,(∃o,s.heap.get? c=some o)->b≠c:=λc h_ q=>ay h_ λo e=>by (replace e:=(c5 q)▸e;replace e:=hn▸e);exact ab e
    have cne:∀c v,s.heap.IsCell c v->b≠c:=λc v h_2=>ah h_2 λo e ζ=>ne c ⟨o,e⟩;refine ay I.k1 λtt kk1=>?_
    exact uQ (ne l ⟨_,hl⟩) (ne f ⟨_,ho⟩) (cne _ _ kk1) (cne _ _ I.k2) (cne _ _ I.k3) (DC V3 hb e))
   have k04:ag [] s t4:=ag.more k03 k4 k03.gsz λy hy=>.inr (fresh y hy);have lm:(put (put σ ce (.sh (.int (mid:Int)))) dg (.sh (.int (((mid - L)*n:Nat):Int)))).lookup ce=some (.sh (.int (mid:Int))):=by refine aw (by decide) ?_;exact aS
   have ls:(put (put σ ce (.sh (.int (mid:Int)))) dg (.sh (.int (((mid - L)*n:Nat):Int)))).lookup dg=some (.sh (.int (((mid - L)*n:Nat):Int))):=by exact aS
   have lL:(put (put σ ce (.sh (.int (mid:Int)))) dg (.sh (.int (((mid - L)*n:Nat):Int)))).lookup nL=some (.sh (.int (L:Int))):=by refine aw (by decide) ?_;refine aw (by decide) ?_;exact l2
   have lR:(put (put σ ce (.sh (.int (mid:Int)))) dg (.sh (.int (((mid - L)*n:Nat):Int)))).lookup nR=some (.sh (.int (R:Int))):=by refine aw (by decide) ?_;refine aw (by decide) ?_;exact l3
   revert V4;revert lm;revert ls;revert lL;revert lR;refine bB (put (put σ ce (.sh (.int (mid:Int)))) dg (.sh (.int (((mid - L)*n:Nat):Int)))) λσ4=>?_;intro lR lL ls lm V4;have callEv:∀(a b:Nat) (as:List ac) (p p':Pos) (t5:ae),aX (pe O 12 fd.scope σ4) as=some [.int a,.int b]->a<b->b<=ds.length->b - a<=m->ai X t5->ag [] t4 t5->
     Ev X (A.deeper env) t5 (aJ (.Call (.Name a9 p) as [] p') env) (λv s'=>am ([]++av []) s'.heap (.int (gN m n a b ds:Nat)) v):=λa b as p p' t5 hA e1 e2 e3 S5 k5=>by
    have V5:=V4.keep k5.kb;have I5:=I4.step S5 k5 (λb hb=>nomatch hb);refine (?_:al _ _ (aJ (.Name a9 p) env>>=λg=>gX p' g [] (bW p' (bV as env)) []) _ _ t5);refine aj (iH V5 (F.val2 V5 hcell I5.k2) hnn ?_);refine ah I5.fo λo5 ho5 hd5=>?_;refine qB ho5 hd5 (jf hA) (fP (du OK LZ Rb2 12) hA S5 V5) λvs t6 S6 k6 r6=>?_;have I6:=I5.step S6 k6 (λb hb=>nomatch hb);exact ax (ih (A.deeper env) t6 a b vs e1 e2 e3 Rb I6 (fB (hfl _ _) r6)) (λv t7 h_3=>aL h_3 λS7 k7 r7=>⟨S7,k6.trans k7,r7⟩) λζ ζ f=>f
   have hv1:gN m n mid R ds<2^((R - mid)*n):=by rw[ub m n mid R ds g2 h2 (qz h1 h3 hLR hmid g1)];have:=u9 n ((ds.drop mid).take (R - mid)) λd hd=>hds d (FM (FN hd));rwa [fJ,eu,j1 (QK h2 g2)] at this
   have hbits:=i7 hv1;have b1:(R - mid)*n<=128*512:=lM (HP hlen h2 hmid g1) hnlt;have b2:(mid - L)*n<=128*512:=lM (SF hlen h2 hmid) hnlt;have hb1:bU .LShift (.int (gN m n mid R ds:Nat)) (.int (((mid - L)*n:Nat):Int))=some (.int ((gN m n mid R ds*2^((mid - L)*n):Nat):Int)):=by
    unfold bU;simp only;rw[if_pos]
    ·congr 2
    ·simp only[bn,decide_eq_true_eq]
     exact⟨c8 _,by
      have:(2:Int)^27=134217728:=by decide
      refine aa this ?_;exact Nz hbits b1 b2⟩
   have hb2:bU .Add (.int ((gN m n mid R ds*2^((mid - L)*n):Nat):Int)) (.int (gN m n L mid ds:Nat))=some (.int ((gN m n mid R ds*2^((mid - L)*n)+gN m n L mid ds:Nat):Int)):=by unfold bU;simp only;congr 2
   refine gC (sF (ax (oP (Rb2.mono (mF _)) S4 V4 (oP (Rb2.mono (mF _)) S4 V4 (callEv mid R a1 q3 q4 t4 (H.ha1 O σ4 mid R lm lR) g2 h2 (qz h1 h3 hLR hmid g1) S4 ag.refl) (λs' S' k'=>du OK LZ Rb2 12 _ σ4 env [] [] eS _ s' (H.hS O σ4 _ ls) S' (V4.keep k'.kb)) hb1)
    (λs' S' k'=>callEv L mid a2 q6 q7 s' (H.ha2 O σ4 L mid lL lm) g1 (aB (ej (by assumption)) (by assumption)) (uL h1 h3 hLR hmid) S' k') hb2) (λv t8 h_4=>aL h_4 λS8 k8 r8=>⟨S8,k04.trans k8,r8⟩) λζ ζ f=>f.elim))
end
noncomputable def gv (ds:List Nat):List PV:=ds.map λd=>.int ((d:Nat):Int)
structure zO (sc:Scope) (t e0:ac) (a1:List ac):Prop where
 hT:∀O σ (ds:List Nat),σ.lookup cW=some (.sh (.list (gv ds)))->pT O 12 sc σ t=some (decide (ds≠[]))
 h0:∀O σ,pe O 12 sc σ e0=some (.int 0)
 ha:∀O σ (ds:List Nat),σ.lookup cW=some (.sh (.list (gv ds)))->aX (pe O 12 sc σ) a1=some [.int 0,.int (ds.length:Nat)]
 s2:bb sc a9=true
 i1:dZ sc nN=true
 i2:dZ sc a9=true
 i3:dZ sc cW=true
 ok1:cy a9=true
 ng:(sc.names.lookup a9==some zj)=false
section
variable {X:Cx} {A:aM} {s s':ae} {W:List Addr} {O:Orc} {k:Nat}
theorem KM {fa:Addr} {fd:fZ} {params:sH} {isc:Scope} {t0 e0 t eD eS:ac} {s2 s3:aN} {b1 a1 a2:List ac} {q:Tb} {p0 p1 p2 p3 p4 q1 q2 q3 q4 q5 q6 q7 q8 q9:Pos} {vs:List Value} {n:Nat} {ds:List Nat} (F:ma X fa fd [cW,nN] [.FunctionDef a9 params (.If t [.Return (some eD) q1] [] q2::s2::s3::.Return (some (.BinOp (.BinOp (.Call (.Name a9 q3) a1 [] q4) .LShift eS q5) .Add (.Call (.Name a9 q6) a2 [] q7) q8)) q9::[]) [] none [] isc none a9 p0,
   .Return (some (.IfExp t0 (.Call (.Name a9 p1) b1 [] p2) e0 p3)) p4]) (U:zO fd.scope t0 e0 b1) (I:m8 [nL,nR] params isc (.If t [.Return (some eD) q1] [] q2::s2::s3::.Return (some (.BinOp (.BinOp (.Call (.Name a9 q3) a1 [] q4) .LShift eS q5) .Add (.Call (.Name a9 q6) a2 [] q7) q8)) q9::[]) nN a9 cW) (H:yb isc t eD s2 s3 eS a1 a2) (T:jY X q) (hcode:fd.code=.ref q.c) (hpos:q.pos=p0) (hqual:q.qual=fd.qualname++ ".<locals>." ++a9) (OK:bg X O 0) (LZ:bR X) (h2:ds.length<=128) (h3:∀d∈ds,d<2^n) (h4:n<=512) (R:aK A 140) (S:ai X s) (w:b8 W s.heap) (r:ar W s.heap [.list (gv ds),.int n] vs):Ev X A s (call (.ref fa) vs) (λv s'=>am W s'.heap (.int (bl n ds:Nat)) v):=by
 refine bo F.ho λo ho hcl hd=>?_;have hof:=S.old.get_of_cls ho (by refine aa hcl ?_;nofun);refine s9 (F.en S) hof hd (as:=[.list (gv ds),.int n]) rfl R.depth S w r λenv t2 V2 S2 k2 fresh hint hec hce heq hes=>?_;have Rb:aK (A.deeper env) 139:=(show aK A (139+1) from R).deeper env;have Rb2:aK (A.deeper env) (0+2):=Rb.mono (b7 _ _);have l1:(bI [] ([cW,nN].zip ([PV.list (gv ds),.int n].map .sh))).lookup cW=some (.sh (.list (gv ds))):=rfl;have l2:(bI [] ([cW,nN].zip ([PV.list (gv ds),.int n].map .sh))).lookup nN=some (.sh (.int n)):=rfl;have l4:(bI [] ([cW,nN].zip ([PV.list (gv ds),.int n].map .sh))).lookup a9=none:=rfl;revert V2;revert l1;revert l2;revert l4;refine bB (bI [] ([cW,nN].zip ([PV.list (gv ds),.int n].map .sh))) λσ=>?_;intro l4 l2 l1 V2;refine gC ?_
 refine BN I S2 V2 T (hec.trans hcode) hpos (by refine aa hqual ?_;unfold FL;rw[show env.kindOf a9=fd.scope.names.lookup a9 by (refine (?_:env.scope.names.lookup a9=_);exact aa hes rfl)];refine aa U.ng (aa heq ?_);rfl) (λx hx=>by
  rcases hx with rfl|rfl|rfl
  ·exact U.i1
  ·exact U.i2
  ·exact U.i3) U.s2 l4 λt5 t6 f doc pm ct cv S5 k5 V5 hfn S6 k6 V6 hval6 hf6 hcd6 hz6 hseq6=>?_
 refine ay ((V6.cel nN U.i1).2) λc1 hc1=>?_;refine ay ((V6.cel a9 U.i2).2) λc2 hc2=>?_;refine ay ((V6.cel cW U.i3).2) λc3 hc3=>?_;refine ah (V6.vars nN _ l2) λvN hvN rN=>?_;obtain ⟨tN,rfl⟩:=rN;refine ah (V6.vars cW _ l1) λvD hvD rD=>?_;obtain ⟨l,lvs,rfl,hlW,⟨lk,hl6⟩,hlen6,rl6⟩:=rD;have fd3:=I.fd3 (X:=X) V6 hc1 hc2 hc3 q.qual doc pm ct cv;have I6:iD X _ f l c1 c2 c3 n (ia ds) t6:=
  {S:=S6,k1:=⟨tN,pG V6 U.i1 hc1 hvN⟩,k2:=pG V6 U.i2 hc2 hval6,k3:=pG V6 U.i3 hc3 hvD,fo:=hf6,cd:=hcd6
   ls:=⟨lvs,lk,hl6,by
    have:(ia ds).map PV.int=gv ds:=by simp[ia,gv]
    refine aa this ?_
    exact fB (λd hd=>by obtain ⟨x,_,rfl⟩:=dQ.mp hd;rfl) rl6⟩}
 have k26:ag [] s t6:=by have a3:ag [] s t5:=k2.trans k5;exact ag.more a3 k6 a3.gsz λy hy=>.inr (fresh y hy)
 have hfl:∀(a b:Nat),∀d∈[PV.int a,.int b],d.flat=true:=λa b d hd=>by
  simp only[ao,ba,or_false] at hd;rcases hd with rfl|rfl<;>rfl
 refine gC (sF (ax (we (Q:=λv s'=>am W s'.heap (.int (bl n ds:Nat)) v) (li OK LZ Rb2 12 _ σ env [] W t0 _ t6 (U.hT O σ ds l1) S6 V6) λt7 S7 k7=>?_) (λv t8 h_0=>aL h_0 λS8 k8 r8=>⟨S8,k26.trans k8,r8⟩) λζ ζ f=>f.elim));have V7:=V6.keep k7.kb;have I7:=I6.step S7 k7 (λb hb=>nomatch hb)
 by_cases hds:ds=[]
 ·rw[if_neg (by simpa using hds)];refine (du OK LZ Rb2 12 _ σ env [] W e0 _ t7 (U.h0 O σ) S7 V7).mono λv s' ζ ζ r=>?_;refine aa hds ?_;exact r.flat rfl
 ·rw[if_pos (by simpa using hds)];have hA:=U.ha O σ ds l1;refine (?_:al _ _ (aJ (.Name a9 p1) env>>=λg=>gX p2 g [] (bW p2 (bV b1 env)) []) _ _ t7);refine aj (iH V7 (hval6.keep k7.kb) U.ok1 ?_);refine ah I7.fo λo7 ho7 hd7=>?_;refine qB ho7 hd7 (jf hA) (fP (du OK LZ Rb2 12) hA S7 V7) λvs8 t8 S8 k8 r8=>?_;have I8:=I7.step S8 k8 (λb hb=>nomatch hb);have hpos:0<ds.length:=zl.mpr hds;refine ax (Tq fd3 H OK LZ U.ok1 h4 h3 h2 ds.length (A.deeper env) t8 0 ds.length vs8 hpos (aT _) (iU _ _) (Rb.mono (A3 h2)) I8 (fB (hfl 0 ds.length) r8)) (λv t9 h_1=>aL h_1 λS9 k9 r9=>⟨S9,k8.trans k9,?_⟩) λζ ζ f=>f.elim;rw[ub _ _ _ _ _ hpos (aT _) (iU _ _)] at r9;simp only[qc,sJ,lF] at r9;exact r9.flat rfl
end
noncomputable def qy (sc:Scope) (ps:List Str):Bool:=
 !sc.isCoroutine&& !sc.isGenerator&&(match sc.kind with|.function=>true|_=>false)&&ew sc.names&&sc.names.all (λy=>cy y.1&&y.2 != .free)&&ps.all (bb sc)
structure gg (p:Program) (X:Cx):Prop where
 fn:∀d∈lN p,∃a o pm code doc,X.mg d.name=some (.ref a)/\X.h0.get? a=some o/\o.data=.func (oy d.name d.params d.body d.scope pm code doc)/\X.h0.CodeRec code d.name
 tab:∀d∈lN p,∃a o fd c P,X.mg d.name=some (.ref a)/\X.h0.get? a=some o/\o.data=.func fd/\fd.code=.ref c/\X.h0.IsCode c P #[]/\X.h0.TableAt c P #[]
 builtins:∀x:Str,x≠ "__name__" ->X.mb x=FO x
theorem gg.of {p q:Program} {loose:List Str} {mean:qh->Option Value} {X:Cx} (T:Top q loose mean X.mg X.mb X.h0) (h:lN q=lN p):gg p X:=
 ⟨λd hd=>T.fn d (h▸hd),λd hd=>T.tab d (h▸hd),T.builtins⟩
section
variable {X:Cx} {p:Program} {loose:List Str} {mean:qh->Option Value}
theorem CQ {h:aP} {cv:Value} {q:Str} (K:pP X.h0 h) (C:hG X.h0 cv q):hG h cv q:=by obtain ⟨c,o,vs,t,e,g,hcl,r⟩:=C;exact Le c o vs t e (K.get_of_cls g (by refine aa hcl ?_;nofun)) hcl r
theorem A5 (T:gg p X) {d:DefRec} (hd:d∈lN p):∃a o pm code doc,X.mg d.name=some (.ref a)/\X.h0.get? a=some o/\o.data=.func (oy d.name d.params d.body d.scope pm code doc)/\hG X.h0 code d.name:=by obtain ⟨a,o,pm,code,doc,h1,h2,h3,h4⟩:=T.fn d hd;obtain ⟨a',o',fd',c,P,g1,g2,g3,g4,g5,g6⟩:=T.tab d hd;replace g1:=h1▸g1;cases g1;replace g2:=h2▸g2;have h_:=ak g2;clear g2;subst h_;replace g3:=h3▸g3;cases g3;have g4:code=.ref c:=g4;subst g4;obtain ⟨⟨oc,vc,e1,e2,_⟩,_⟩:=g6;exact⟨a,o,pm,_,doc,h1,h2,h3,.of h4 ⟨oc,e1,e2⟩⟩
theorem D1 (T:gg p X) {d:DefRec} (hd:d∈lN p) (hc:∀a o,X.mg d.name=some (.ref a)->X.h0.get? a=some o->o.cls=.type "function") {ps:List Str} (hf:qy d.scope ps=true) (hb:∀pm code doc (vs:List Value),vs.length=ps.length->lJ (oy d.name d.params d.body d.scope pm code doc) ⟨vs,[]⟩=pure (ps.zip vs)):∃fa fd,X.mg d.name=some (.ref fa)/\ma X fa fd ps d.body/\fd.scope=d.scope/\fd.qualname=d.name/\∃pm code doc,fd=oy d.name d.params d.body d.scope pm code doc:=by
 obtain ⟨a,o,pm,code,doc,h1,h2,h3,h4⟩:=A5 T hd;unfold qy at hf;simp only[bn,kK,dG] at hf;obtain ⟨⟨⟨⟨⟨f1,f2⟩,f3⟩,f4⟩,f5⟩,f6⟩:=hf;refine⟨a,_,h1,{ho:=⟨o,h2,hc a o h1 h2,h3⟩,gl:=rfl,bi:=rfl,cl:=rfl,bd:=rfl,co:=f1,ge:=f2,kd:=?_,nd:=f4,nm:=λx k hx=>(f5 _ hx).1,nf:=λx hx=>?_,pst:=f6,cd:=λh K=>(CQ K h4).rec,bind:=hb pm code doc},rfl,rfl,pm,code,doc,rfl⟩
 ·refine (?_:d.scope.kind=.function);revert f3;cases d.scope.kind<;>simp
 ·have:=(f5 _ (ck hx)).2;exact aU this
noncomputable def hF:List (Int×Str):=[(1, "OPTIMIZED"),(2, "NEWLOCALS"),(4, "VARARGS"),(8, "VARKEYWORDS"),(16, "NESTED"),(32, "GENERATOR"),(64, "NOFREE"),(128, "COROUTINE"),(256, "ITERABLE_COROUTINE"),(512, "ASYNC_GENERATOR")]
noncomputable def flagD:List (PyData×PyData):=hF.map λy=>(.int y.1,.str y.2)
noncomputable def rB:Str:=af "COMPILER_FLAG_NAMES"
theorem Ta (i:Int):WG (.int i) flagD=(hF.lookup i).map .str:=by
 unfold flagD;refine bB (hF) λl=>?_
 induction l with
 |nil=>rfl
 |cons y r ih=>
  obtain ⟨k,x⟩:=y;refine aa bQ ?_;unfold WG;refine aa cX ?_;have e:X9 (.int k) (.int i)=decide (k=i):=Yb k i;refine aa e ?_
  by_cases h:k=i
  ·subst h;simp
  ·have h':(i==k)=false:=by simpa using ek h
   simp[h,h',ih]
structure xG (X:Cx):Prop where
 ok:∃da o kvs,X.mg rB=some (.ref da)/\(da==FP)=false/\X.h0.get? da=some o/\o.cls≠.none/\o.IsDictOf (qi X.prog X.w) kvs/\vS qj kvs flagD
noncomputable def tv (x:Str) (as:List PV):Option PV:=if x==rB then (match as with|[.int k,.str d]=>some (.str ((hF.lookup k).getD d))|_=>none) else none
theorem Az {s:ae} (S:ai X s) {da:Addr} {o:d5} {kvs:List (Int×Value)} (lo:(da==FP)=false) (ho:X.h0.get? da=some o) (hc:o.cls≠.none) (hd:o.IsDictOf (qi X.prog X.w) kvs) (hf:vS qj kvs flagD):IntTab X.prog X.w s.heap da flagD:=TabAt.ofObj lo (S.old.get_of_cls ho hc) hd hf
theorem G9:∀(k:Int) (x:Str),hF.lookup k=some x->x.length<=sizeLine:=λk x h=>by
 have hm:∀y∈hF,y.2.length<=100:=by decide
 have key:∀(l:List (Int×Str)),l.lookup k=some x->∃y∈l,y.2=x:=by
  intro l
  induction l with
  |nil=>intro h;exact ab h
  |cons y r ih=>
   intro h;obtain ⟨a,b⟩:=y;rw[cX] at h
   split at h
   ·have h_:=ak h;clear h;subst h_;exact au _ (.head _) rfl
   ·refine ah (ih h) λy hy e=>?_;exact au y (.tail _ hy) e
 refine ah (key _ h) λy hy e=>?_;exact e▸aB (hm y hy) (by decide)
theorem NT (G:xG X):∀x as d,tv x as=some d->cy x=true/\∃da,X.mg x=some (.ref da)/\(∀A s pl (Q:Value×List Value->ae->Prop) E,ai X s->Q (.builtin "dict.get",[.ref da]) s->al (aq X.prog X.w) A (mK (.ref da) "get" pl) Q E s)/\∀A s W vs,aK A 2->ai X s->b8 W s.heap->ar W s.heap as vs->Ev X A s (call (.builtin "dict.get") (.ref da::vs)) (λv s'=>am W s'.heap d v):=by
 intro x as d h;unfold tv at h;refine ifs h λhx h=>?_;have hx:=bc hx;subst hx;have key:∃k dd,as=[.int k,.str dd]/\PV.str ((hF.lookup k).getD dd)=d:=by
  induction as using aF with
  |nil=>exact ab h
  |cons y r=>
   induction y using PV.casesOn with
   |int k=>
    induction r using aF with
    |nil=>exact ab h
    |cons z r=>
     induction z using PV.casesOn with
     |str dd=>induction r using aF with
      |nil=>exact eT k dd rfl (ak h)
      |cons _ _=>exact ab h
     |_=>exact ab h
   |_=>exact ab h
 ·refine bN key λk dd e2_ e3_=>?_;clear key;subst e2_;subst e3_;obtain ⟨da,o,kvs,h1,lo,ho,hc,hd,hf⟩:=G.ok;refine⟨by decide,da,h1,λA s pl Q E S q=>getMethod_intTab_get (Az S lo ho hc hd hf) q,λA s W vs R S w r=>?_⟩;obtain ⟨v1,u1,rfl,r1,v2,u2,rfl,r2,rfl⟩:=r;refine ay r1 λt e1_=>?_;clear r1;subst e1_;obtain ⟨⟨t2,rfl⟩,hl⟩:=r2;refine call_get2_intTab (Az S lo ho hc hd hf) (dd:=.str dd) (λh=>.str dd t2) λv hv=>⟨S.tok,ag.toks,?_⟩
  rw[Ta] at hv;cases e:hF.lookup k with
  |none=>replace hv:=e▸hv;have hv:WH v (.str dd):=hv;cases hv {};exact⟨⟨_,rfl⟩,hl⟩
  |some y=>replace hv:=e▸hv;have hv:WH v (.str y):=hv;cases hv {};exact⟨⟨_,rfl⟩,G9 k y e⟩
noncomputable def mw:Str:=af "ELLIPSIS_MARKER"
noncomputable def yt (x:Str):Option PV:=if x==mw then some (.str (af "...")) else none
theorem PT (h:∃t,X.mg mw=some (.str (af "...") t)):∀x d,yt x=some d->cy x=true/\∃v,X.mg x=some v/\∀W h,am W h d v:=by intro x d hx;unfold yt at hx;refine ifs hx λe hx=>?_;have e:=bc e;subst e;have h_:=ak hx;clear hx;subst h_;refine ay h λt ht=>?_;clear h;exact⟨by decide,_,ht,λW h=>⟨⟨t,rfl⟩,by decide⟩⟩
noncomputable def pt:List Str:=[af "sum",af "len",af "max",af "sorted",af "hex",af "int",af "list",af "range",af "enumerate",af "zip"]
theorem Sv {f:Str} {v:Value} (h:fH f=some v):f∈pt/\f≠ "__name__" /\FO f=some v:=by
 have h1:∀p∈tB,p.1∈pt/\p.1≠ "__name__" /\FO p.1=some p.2:=
  fm_ ⟨by decide,by decide,by rfl⟩<|fm_ ⟨by decide,by decide,by rfl⟩<|fm_ ⟨by decide,by decide,by rfl⟩<|fm_ ⟨by decide,by decide,by rfl⟩<|fm_ ⟨by decide,by decide,by rfl⟩<|
  fm_ ⟨by decide,by decide,by rfl⟩<|fm_ ⟨by decide,by decide,by rfl⟩<|fm_ ⟨by decide,by decide,by rfl⟩<|fm_ ⟨by decide,by decide,by rfl⟩<|fm_ ⟨by decide,by decide,by rfl⟩ kD
 exact h1 _ (sT h)
noncomputable def O0:Orc:={fn:=λζ ζ=>none,gc:=yt,dget:=tv,gen:=λζ ζ=>none}
theorem GK (T:gg p X) (G:xG X) (h:∃t,X.mg mw=some (.str (af "...") t)) (hb:∀f∈pt,X.mg f=none):bg X O0 0 where
 bi:=λf v hf=>aL (Sv hf) λh1 h2 h3=>⟨hb f h1,(T.builtins f h2).trans h3⟩
 fn:=λf as d h=>nomatch h
 dget:=NT G
 gen:=λf as d h=>nomatch h
 gc:=PT h
end
noncomputable def jA (O:Orc) (f:Str) (g:List PV->Option PV):Orc:={O with fn:=λx as=>if x==f then g as else O.fn x as}
noncomputable def x1 (O:Orc) (f:Str) (g:List PV->Option (List PV)):Orc:={O with gen:=λx as=>if x==f then g as else O.gen x as}
noncomputable def jF (p:Program) (f:Str):Option DefRec:=(lN p).find? λd=>d.name==f
noncomputable def hH (d:DefRec):List Str:=d.params.args.map (·.arg)
noncomputable def bZ (p:Program) (O:Orc) (f:Str) (as:List PV):Option PV:=match jF p f with
 |some d=>if (hH d).length==as.length then (match aO O 60 d.scope (bI [] ((hH d).zip (as.map .sh))) d.body with
  |some (.rt v)=>some v
  |some (.nx _)=>some .none
  |_=>none) else none
 |none=>none
section
variable {X:Cx} {p:Program} {O Ob:Orc} {k k' kb:Nat} {f:Str}
noncomputable def nu (X:Cx) (f:Str) (g:List PV->Option PV) (k:Nat):Prop:=∀as d,g as=some d->fH f=none/\cy f=true/\∃fa,X.mg f=some (.ref fa)/\(∃o fd,X.h0.get? fa=some o/\o.cls=.type "function" /\o.data=.func fd)/\
  ∀A s W vs,aK A k->ai X s->b8 W s.heap->ar W s.heap as vs->Ev X A s (call (.ref fa) vs) (λv s'=>am W s'.heap d v)
theorem oB (OK:bg X O k) (h:k<=k'):bg X O k':=
 {OK with
  fn:=λf as d e=>aL (OK.fn f as d e) λh1 h2 h_=>bo h_ λfa h3 h4 h5=>⟨h1,h2,fa,h3,h4,λA s W vs R=>h5 A s W vs (R.mono h)⟩
  gen:=λf as d e=>aL (OK.gen f as d e) λh1 h2 h_=>bo h_ λfa h3 h4 h5=>⟨h1,h2,fa,h3,h4,λA s W vs R=>h5 A s W vs (R.mono h)⟩}
theorem kZ {g:List PV->Option PV} (OK:bg X O k) (C:nu X f g k') (hk:k'<=k):bg X (jA O f g) k:=
 {OK with
  fn:=λx as d e=>by
   unfold jA at e
   simp only at e
   split at e
   ·rename_i hx
    have hx:=bc hx
    subst hx
    obtain ⟨h1,h2,fa,h3,h4,h5⟩:=C as d e
    exact⟨h1,h2,fa,h3,h4,λA s W vs R=>h5 A s W vs (R.mono hk)⟩
   ·exact OK.fn x as d e}
noncomputable def nO (p:Program) (X:Cx) (f:Str):Prop:=∀d,jF p f=some d->fH f=none/\cy f=true/\∃fa fd,X.mg f=some (.ref fa)/\ma X fa fd (hH d) d.body/\fd.scope=d.scope
theorem mi (OK:bg X O k) (LZ:bR X) (F:nO p X f):nu X f (bZ p O f) (k+3):=λas v e=>by
 unfold bZ at e
 set_option smartUnfolding false in refine om e λd hd e=>?_
 obtain ⟨h1,h2,fa,fd,h3,h4,h5⟩:=F d hd;refine ifs e λhl e=>?_;refine⟨h1,h2,fa,h3,bo h4.ho λo a b c=>⟨o,fd,a,b,c⟩,λA s W vs R S w r=>?_⟩;refine Hp (n:=60) (as:=as) OK LZ h4 (of_decide_eq_true hl) ?_ R S w r;refine aa h5 ?_;revert e;refine bB (aO O 60 d.scope (bI [] ((hH d).zip (as.map .sh))) d.body) λo e=>?_
 induction o using bO with
 |none=>exact ab e
 |some o=>induction o using Out.casesOn with
  |rt v'=>exact .inl (congrArg (λz=>some (Out.rt z)) (ak e))
  |nx σ'=>exact .inr ⟨σ',rfl,(ak e).symm⟩
  |_=>exact ab e
theorem nC {as:List PV} {d:DefRec} {v:PV} (h:jF p f=some d) (hl:((hH d).length==as.length)=true) (h2:aO O 60 d.scope (bI [] ((hH d).zip (as.map .sh))) d.body=some (.rt v)):bZ p O f as=some v:=by delta bZ;refine aa h ?_;refine (?_:(if ((hH d).length==as.length)=true then (match aO O 60 d.scope (bI [] ((hH d).zip (as.map .sh))) d.body with|some (.rt v)=>some v|some (.nx _)=>some PV.none|_=>none) else none)=some v);exact aa (if_pos hl) (aa h2 rfl)
theorem MS (T:gg p X) (hbi:fH f=none) (hn:cy f=true) (hc:∀a o,X.mg f=some (.ref a)->X.h0.get? a=some o->o.cls=.type "function") (hf:∀d,jF p f=some d->qy d.scope (hH d)=true/\∀pm code doc (vs:List Value),vs.length=(hH d).length->lJ (oy d.name d.params d.body d.scope pm code doc) ⟨vs,[]⟩=pure ((hH d).zip vs)):nO p X f:=λd hd=>by have hm:=FQ hd;have hname:d.name=f:=beq_iff_eq.mp (WI (p:=λe:DefRec=>e.name==f) hd);refine xk (D1 T hm (by refine aa hname ?_;exact hc) (hf d hd).1 (hf d hd).2) λfa fd h1 h2 h3 ζ=>?_;exact⟨hbi,hn,fa,fd,by refine aA hname ?_;exact h1,h2,h3⟩
noncomputable def nEsc:Str:=af "_iter_escaped_chars"
noncomputable def to (as:List PV):Option (List PV):=match as with
 |[.str x]=>some (fg 0 false (dL x))
 |_=>none
theorem OA {fa:Addr} {fd:fZ} {ps:Nat->Pos} (OK:bg X O 0) (LZ:bR X) (F:wJ X fa fd ps) (hm:X.mg nEsc=some (.ref fa)):bg X (x1 O nEsc to) 8:=
 {oB OK (iY 8) with
  gen:=λx as xs e=>by
   unfold x1 at e
   simp only at e
   split at e
   ·rename_i hx
    have hx:=bc hx
    subst hx
    have key:∃x,as=[.str x]/\xs=fg 0 false (dL x):=by
     induction as using aF with
     |nil=>exact ab e
     |cons y r=>
      induction y using PV.casesOn with
      |str x=>induction r using aF with
       |nil=>exact au x rfl ((ak e).symm)
       |cons _ _=>exact ab e
      |_=>exact ab e
    refine ah key λx e1_ e2_=>?_;clear key;subst e1_;subst e2_
    exact⟨by decide,by decide,fa,hm,bo F.ho λo a b c=>⟨o,fd,a,b,c⟩,λA s W vs R S w r=>IU OK LZ F R S w r⟩
   ·exact (oB OK (iY 8)).gen x as xs e}
theorem OS {ps:Nat->Pos} (T:gg p X) {d:DefRec} (hd:d∈lN p) (hc:∀a o,X.mg d.name=some (.ref a)->X.h0.get? a=some o->o.cls=.type "function") (hb:d.body=lY ps) (hs:d.scope=cr) (hbind:∀pm code doc (v:Value),lJ (oy d.name d.params d.body d.scope pm code doc) ⟨[v],[]⟩=pure [(af "addr",v)]):∃fa fd,X.mg d.name=some (.ref fa)/\wJ X fa fd ps:=by obtain ⟨a,o,pm,code,doc,h1,h2,h3,h4⟩:=A5 T hd;exact eT a _ h1 {ho:=⟨o,h2,hc a o h1 h2,h3⟩,gl:=rfl,bi:=rfl,cl:=rfl,bd:=by refine (?_:Yc d.body=_);exact aa hb rfl,sc:=hs,cd:=λh K=>(CQ K h4).rec,bind:=hbind pm code doc}
noncomputable def gp:Str:=af "_strip_quoted_realnames"
noncomputable def fA:Str:=af "_check_parenthesis"
noncomputable def cZ:Str:=af "_ellipsis_match"
noncomputable def fS:Str:=af "pretty_flags"
noncomputable def cN:Str:=af "_int2digits"
noncomputable def cO:Str:=af "_digits2int"
noncomputable def ie:Str:=af "_law_seatings"
noncomputable def rR:Str:=af "_law_stairs"
noncomputable def qp:Str:=af "_law_led"
noncomputable def iO:Str:=af "law"
noncomputable def jR (as:List PV):Option PV:=match as with
 |[.int a,.int n]=>if decide (0<=a)&&decide (1<=n)&&decide (n<=512)&&decide (cC a.toNat n.toNat<=128)&&decide (a.toNat<2^65536) then some (.list ((ez n.toNat (cC a.toNat n.toNat) a.toNat).map .int)) else none
 |_=>none
noncomputable def jV (as:List PV):Option PV:=match as with
 |[.list xs,.int n]=>(match fN xs with
  |some l=>if l.all (λd=>decide (0<=d)&&decide (d.toNat<2^n.toNat))&&decide (l.length<=128)&&decide (0<=n)&&decide (n<=512) then some (.int (bl n.toNat (l.map b9):Nat)) else none
  |none=>none)
 |_=>none
theorem O9 {as:List PV} {d:PV} (h:jR as=some d):∃a n,as=[.int a,.int n]:=by
 induction as using aF with
 |nil=>exact ab h
 |cons x r=>
  induction x using PV.casesOn with
  |int a=>
   induction r using aF with
   |nil=>exact ab h
   |cons y r=>
    induction y using PV.casesOn with
    |int n=>induction r using aF with
     |nil=>exact pH a n rfl
     |cons _ _=>exact ab h
    |_=>exact ab h
  |_=>exact ab h
theorem Tl {as:List PV} {d:PV} (h:jV as=some d):∃xs n,as=[.list xs,.int n]:=by
 induction as using aF with
 |nil=>exact ab h
 |cons x r=>
  induction x using PV.casesOn with
  |list a=>
   induction r using aF with
   |nil=>exact ab h
   |cons y r=>
    induction y using PV.casesOn with
    |int n=>induction r using aF with
     |nil=>exact pH a n rfl
     |cons _ _=>exact ab h
    |_=>exact ab h
  |_=>exact ab h
noncomputable def O1:Orc:=x1 O0 nEsc to
noncomputable def O2 (p:Program):Orc:=jA O1 gp (bZ p O1 gp)
noncomputable def O3 (p:Program):Orc:=jA (O2 p) fA (bZ p (O2 p) fA)
noncomputable def O4 (p:Program):Orc:=jA (jA (O3 p) cZ (bZ p O0 cZ)) fS (bZ p O0 fS)
noncomputable def O5 (p:Program):Orc:=jA (jA (O4 p) cN jR) cO jV
noncomputable def O6 (p:Program):Orc:=jA (jA (jA (O5 p) ie (bZ p (O5 p) ie)) rR (bZ p (O5 p) rR)) qp (bZ p (O5 p) qp)
theorem RS (OK:bg X O0 0) (LZ:bR X) (G:bg X O1 8) (F:∀f∈[gp,fA,cZ,fS,ie,rR,qp],nO p X f) (hi:nu X cN jR 140) (hd:nu X cO jV 140):bg X (O6 p) 143:=by have f1:=F gp (.head _);have f2:=F fA (.tail _ (.head _));have f3:=F cZ (.tail _ (.tail _ (.head _)));have f4:=F fS (.tail _ (.tail _ (.tail _ (.head _))));have f5:=F ie (.tail _ (.tail _ (.tail _ (.tail _ (.head _)))));have f6:=F rR (by decide);have f7:=F qp (by decide);have a2:bg X (O2 p) 11:=kZ (oB G (b7 _ _)) (mi G LZ f1) (aT _);have a3:bg X (O3 p) 14:=kZ (oB a2 (b7 _ _)) (mi a2 LZ f2) (aT _);have a4:bg X (O4 p) 14:=kZ (kZ a3 (mi OK LZ f3) (b7 _ _)) (mi OK LZ f4) (b7 _ _);have a5:bg X (O5 p) 140:=kZ (kZ (oB a4 (b7 _ _)) hi (aT _)) hd (aT _);exact kZ (kZ (kZ (oB a5 (b7 _ _)) (mi a5 LZ f5) (aT _)) (mi a5 LZ f6) (aT _)) (mi a5 LZ f7) (aT _)
end
section
variable {O:Orc} {n:Nat} {sc:Scope} {σ σ':Sg}
theorem aW {i:Int} {k p}:pe O (n+1) sc σ (.Constant (.int i) k p)=some (.int i):=rfl
theorem jk {b:Bool} {k p}:pe O (n+1) sc σ (.Constant (.bool b) k p)=some (.bool b):=rfl
theorem nS {k p}:pe O (n+1) sc σ (.Constant .none k p)=some .none:=rfl
theorem fF {x:Str} {k p} (h:aZ x.length=true):pe O (n+1) sc σ (.Constant (.str x) k p)=some (.str x):=by refine (?_:(if aZ x.length=true then some (PV.str x) else none)=_);exact aa (if_pos h) rfl
theorem aC {x:Str} {d:PV} {q:Pos} (hx:br sc x=true) (h:σ.lookup x=some (.sh d)):pe O (n+1) sc σ (.Name x q)=some d:=m0 hx h
theorem aQ {l r:ac} {op:kE} {p:Pos} {a b d:PV} (h1:pe O n sc σ l=some a) (h2:pe O n sc σ r=some b) (h:bU op a b=some d):pe O (n+1) sc σ (.BinOp l op r p)=some d:=by refine aa rF (aa h1 (aa h2 ?_));exact h
theorem pA {x:ac} {p:Pos} {i:Int} (h:pe O n sc σ x=some (.int i)):pe O (n+1) sc σ (.UnaryOp .USub x p)=some (.int (-i)):=by exact aa DT (aa h rfl)
theorem bu {l r:ac} {op:nZ} {p:Pos} {a b:PV} {c:Bool} (h1:pa O n sc σ l=some a) (h2:pa O n sc σ r=some b) (h:iA op a b=some c):pe O (n+1) sc σ (.Compare l [op] [r] p)=some (.bool c):=by refine aa uM (aa h1 (aa h2 ?_));refine (?_:(iA op a b).map PV.bool=_);refine aa h ?_;rfl
theorem aD {x:Str} {d:PV} {q:Pos} (hx:br sc x=true) (h:fW σ x=some d):pa O (n+1) sc σ (.Name x q)=some d:=(if_pos hx).trans h
noncomputable def AM:ac->Bool
 |.UnaryOp .Not _ _=>false
 |.BoolOp .. =>false
 |.IfExp .. =>false
 |_=>true
theorem JN {e:ac} (h:AM e=true):pT O (n+1) sc σ e=(match pa O n sc σ e with|some d=>eO d|none=>none):=by
 induction e using bt with
 |UnaryOp op x p=>cases op<;>first|rfl|exact aU h
 |BoolOp=>exact aU h
 |IfExp=>exact aU h
 |_=>rfl
theorem az {e:ac} {d:PV} (hn:oW e=true:=by rfl) (h:pe O n sc σ e=some d):pa O (n+1) sc σ e=some d:=by
 induction e using bt<;>first|exact h|exact aU hn
theorem bA {e:ac} {d:PV} {c:Bool} (hp:AM e=true:=by rfl)
  (h:pa O n sc σ e=some d) (ht:eO d=some c):pT O (n+1) sc σ e=some c:=by
 refine aa (JN hp) (aa h ?_);exact ht
theorem H3 {x:ac} {p:Pos} {c:Bool} (h:pT O n sc σ x=some c):pT O (n+1) sc σ (.UnaryOp .Not x p)=some (!c):=by refine (?_:Option.map (λx=> !x) (pT O n sc σ x)=_);refine aa h ?_;rfl
theorem Gl {t b o:ac} {p:Pos} {c:Bool} {d:PV} (h:pT O n sc σ t=some c) (hb:c=true->pe O n sc σ b=some d) (ho:c=false->pe O n sc σ o=some d):pe O (n+1) sc σ (.IfExp t b o p)=some d:=by
 refine aa A9 (aa h ?_)
 induction c using dF
 ·exact ho rfl
 ·exact hb rfl
theorem hJ {v i:ac} {p:Pos} {a k d:PV} (hi:po i=true:=by rfl) (h1:pa O n sc σ v=some a) (h2:pe O n sc σ i=some k) (ho:cz σ v=false) (h:fL a k=some d):pe O (n+1) sc σ (.Subscript v i p)=some d:=by refine aa (u8 hi) (aa h1 (aa h2 ?_));refine (?_:dw _ _=_);refine aa ho ?_;exact h
theorem x6 {o:Bool} {d:PV} (h:d.flat=true):dw o (some d)=some d:=by
 induction o using dF
 ·rfl
 ·exact if_pos h
theorem dz {f:Str} {fp p:Pos} {args:List ac} {ds:List PV} {d:PV} (hf:bS sc f=true) (hna:qQ args=true) (h1:aX (pa O n sc σ) args=some ds) (h:bX O f ds=some d) (ho:args.any (cz σ)=false\/d.flat=true):pe O (n+1) sc σ (.Call (.Name f fp) args [] p)=some d:=by
 refine aa (BE hna) (aa (if_pos hf) (aa h1 ?_));refine (?_:dw _ _=_);refine aa h ?_;rcases ho with ho|ho
 ·refine aa ho ?_;rfl
 ·exact x6 ho
theorem C8 {f x:Str} {fp q p:Pos} {a d:PV} (hf:bS sc f=true) (h1:pa O n sc σ (.Name x q)=some a) (ho:cz σ (.Name x q)=false) (h:bX O f [a]=some d):pe O (n+1) sc σ (.Call (.Name f fp) [.Name x q] [] p)=some d:=by exact dz hf rfl (aG h1 a7) h (.inl (by refine (?_:(cz σ _||false)=false);rw[ho];rfl))
theorem jC {f x:Str} {fp q p:Pos} {a d:PV} (hf:bS sc f=true) (h1:pa O n sc σ (.Name x q)=some a) (h:bX O f [a]=some d) (hd:d.flat=true):pe O (n+1) sc σ (.Call (.Name f fp) [.Name x q] [] p)=some d:=by exact dz hf rfl (aG h1 a7) h (.inr hd)
theorem Sw {x:Str} {d:PV} {q:Pos} (hx:br sc x=false) (hg:bS sc x=true) (h:O.gc x=some d):pe O (n+1) sc σ (.Name x q)=some d:=by rw[rg,if_neg (by rw[hx];decide),if_pos hg];exact h
theorem xU {x:Str} {d:PV} {q:Pos} (hx:br sc x=false) (hg:bS sc x=true) (h:O.gc x=some d):pa O (n+2) sc σ (.Name x q)=some d:=by exact (if_neg (hx▸gz)).trans (Sw hx hg h)
theorem kc {x name:Str} {xp apos pos:Pos} {args:List ac} {r d:PV} {ds:List PV} (hx:br sc x=true) (hp:(apos.endLine==pos.line)=true) (hl:si args.length 30=true) (h1:fW σ x=some r) (h2:aX (pa O n sc σ) args=some ds) (h:dw (cz σ (.Name x xp)||args.any (cz σ)) (bM r name ds)=some d):pe O (n+1) sc σ (.Call (.Attribute (.Name x xp) name apos) args [] pos)=some d:=by rw[uR,if_pos (by rw[hp,hl];rfl),if_pos hx,h1,h2];exact h
theorem rQ {v i:ac} {p:Pos} {a k d:PV} (hi:po i=true:=by rfl) (h1:pa O n sc σ v=some a) (h2:pe O n sc σ i=some k) (h:fL a k=some d) (hd:d.flat=true):pe O (n+1) sc σ (.Subscript v i p)=some d:=by refine aa (u8 hi) (aa h1 (aa h2 ?_));refine (?_:dw _ _=_);refine aa h ?_;exact x6 hd
theorem uw {xs:List PV}:bX O (af "len") [.list xs]=some (.int (xs.length:Nat)):=rfl
theorem nE {x y:Int}:bU .Add (.int x) (.int y)=some (.int (x+y)):=rfl
theorem qD {x y:Int}:bU .Sub (.int x) (.int y)=some (.int (x - y)):=rfl
theorem G8 {x y:Int}:bU .BitXor (.int x) (.int y)=some (.int (sb x y)):=rfl
theorem nq {x y:Int} (h:cg x<=64\/cg x+cg y<=1000000):bU .Mult (.int x) (.int y)=some (.int (x*y)):=by
 have:(decide (cg x<=64)||decide (cg x+cg y<=1000000))=true:=by rewrite[FR];refine aa decide_eq_true_eq (aa decide_eq_true_eq ?_);exact h
 unfold bU;simp only[this,if_true]
theorem Bc {x s:Nat}:bU .RShift (.int x) (.int s)=some (.int ((x/2^s:Nat):Int)):=by have h:=Gj x s;unfold bU;simp only;rw[if_pos (by simp),h]
theorem AC {x s:Nat} (h:cg (x:Int)+s<=134217728):bU .LShift (.int x) (.int s)=some (.int ((x*2^s:Nat):Int)):=by
 unfold bU;simp only;rw[if_pos]
 ·congr 2
 ·simp only[bn,decide_eq_true_eq];have:(2:Int)^27=134217728:=by decide
  refine aa this ?_;exact Sh h
theorem cq {x:Str} {xp q:Pos} {e:ac} {d:PV} (hx:bb sc x=true) (hl:oK e=true:=by rfl) (h:pe O n sc σ e=some d) (hs:∀xs,d=.list xs->kh e=false):
  px O (n+1) sc σ (.Assign [.Name x xp] e q)=some (.nx (put σ x (.sh d))):=by
 refine aa qO (aa (if_pos hx) (aa (qE hl) (aa h ?_)))
 induction d using PV.casesOn with
 |list xs=>refine aa (show kh e=false from hs xs rfl) ?_;rfl
 |_=>rfl
theorem a8 {st:aN} {r:List aN} {o:Option Out} (h:px O n sc σ st=some (.nx σ')) (hr:aO O n sc σ' r=o):aO O (n+1) sc σ (st::r)=o:=by refine aa oz (aa h ?_);exact hr
theorem bh:aO O (n+1) sc σ []=some (.nx σ):=rfl
theorem BJ {x y:Nat}:iA .Eq (.int x) (.int y)=some (decide (x=y)):=by
 have:iA .Eq (.int x) (.int y)=some ((x:Int)==(y:Int)):=rfl;refine aa this ?_;congr 1
 by_cases h:x=y
 ·subst h;simp
 ·have h2:¬ (x:Int)=(y:Int):=xv h;simp[h,h2]
end
noncomputable abbrev cI (i:Int) (p:Pos):ac:=.Constant (.int i) 0 p
section
variable {isc:Scope} {p1 p2 p3 p4 p5 p6 p7 p8 p9 p10 p11 p12 p13 p14 p15 p16 p17 p18 p19 p20 p21 p22 p23 p24 p25 p26 p27 p28 p29 p30 p31 p32 p33 p34 p35 p36 p37 p38 p39:Pos}
theorem BM (L R:Nat):bU .RShift (.int ((L:Int)+(R:Int))) (.int 1)=some (.int (((L+R)/2:Nat):Int)):=by have h:=Bc (x:=L+R) (s:=1);have e:((L+R:Nat):Int)=(L:Int)+(R:Int):=P9;replace h:=e▸h;exact h
theorem xo {a b:Nat} (h:b<=a):bU .Sub (.int a) (.int b)=some (.int ((a - b:Nat):Int)):=by refine aa qD ?_;congr 2;lia
theorem Eo {a b:Nat} (h:a<=128):bU .Mult (.int a) (.int b)=some (.int ((a*b:Nat):Int)):=by rw[nq (.inl (aB (i7 (k:=8) (by lia)) (by decide)))];congr 2
theorem NN (hv:∀x∈[fD,nL,nR,nN,ce,dg,gn,gL],br isc x=true) (hs:∀x∈[ce,dg,gn,gL],bb isc x=true):xy isc (.Compare (.BinOp (.Name nL p1) .Add (cI 1 p2) p3) [.Eq] [.Name nR p4] p5) (.Name fD p6) (.Name nL p7)
   (.Assign [.Name ce p8] (.BinOp (.BinOp (.Name nL p9) .Add (.Name nR p10) p11) .RShift (cI 1 p12) p13) p14)
   (.Assign [.Name dg p15] (.BinOp (.BinOp (.Name ce p16) .Sub (.Name nL p17) p18) .Mult (.Name nN p19) p20) p21)
   (.Assign [.Name gn p22] (.BinOp (.Name fD p23) .RShift (.Name dg p24) p25) p26)
   (.Assign [.Name gL p27] (.BinOp (.Name fD p28) .BitXor (.BinOp (.Name gn p29) .LShift (.Name dg p30) p31) p32) p33)
   [.Name gL p34,.Name nL p35,.Name ce p36] [.Name gn p37,.Name ce p38,.Name nR p39] where
 hT:=λO σ L R h1 h2=>by refine bA (d:=.bool (decide (L+1=R))) (h:=az (h:=?_)) (ht:=rfl);refine bu (az (h:=aQ (aC (hv _ (.tail _ (.head _))) h1) aW nE)) (aD (hv _ (.tail _ (.tail _ (.head _)))) (aH h2)) ?_;exact BJ (x:=L+1) (y:=R)
 hx:=λO σ x h=>aC (hv _ (.head _)) h
 hL:=λO σ x h=>aC (hv _ (.tail _ (.head _))) h
 hss:=λO σ x L R n hx hL hR hN b1 b2 b3 b4=>by
  have hmL:∀d,(put σ ce d).lookup nL=some (.sh (.int (L:Int))):=λd=>by refine aw (by decide) ?_;exact hL
  have hmx:∀d,(put σ ce d).lookup fD=some (.sh (.int (x:Int))):=λd=>by refine aw (by decide) ?_;exact hx
  have hmN:∀d,(put σ ce d).lookup nN=some (.sh (.int (n:Int))):=λd=>by refine aw (by decide) ?_;exact hN
  refine bY ((L+R)/2) λmid hm=>?_;have c1:L<=mid:=Du b4 hm;have c2:mid<=128:=Ax b1 b4 hm;have hb:(mid - L)*n<=128*512:=lM (wD b1 hm) b2;refine a8 (cq (d:=.int ((mid:Nat):Int)) (hs _ (.head _)) (h:=aQ (aQ (aC (hv _ (.tail _ (.head _))) hL) (aC (hv _ (.tail _ (.tail _ (.head _)))) hR) nE) aW (by (rewrite[BM];exact aa hm rfl))) (hs:=λxs z=>nomatch z)) ?_;refine a8 (cq (hs _ (.tail _ (.head _))) (h:=aQ (aQ (aC (hv _ (.tail _ (.tail _ (.tail _ (.tail _ (.head _)))))) (aS)) (aC (hv _ (.tail _ (.head _))) (hmL _)) (xo c1)) (aC (hv _ (.tail _ (.tail _ (.tail _ (.head _))))) (hmN _)) (Eo (wD b1 hm))) (hs:=λxs z=>nomatch z)) ?_;revert hb;refine bB ((mid - L)*n) λsft=>?_;intro hb;refine a8 (cq (hs _ (.tail _ (.tail _ (.head _)))) (h:=aQ (aC (hv _ (.head _)) (by refine aw (by decide) ?_;exact hmx _)) (aC (hv _ (by simp)) (aS)) Bc) (hs:=λxs z=>nomatch z)) ?_;have hbits:cg ((x/2^sft:Nat):Int)<=65536:=i7 (ik (EH _ _) b3);refine a8 (cq (hs _ (.tail _ (.tail _ (.tail _ (.head _))))) (h:=aQ (aC (hv _ (.head _)) (by refine aw (by decide) ?_;refine aw (by decide) ?_;exact hmx _)) (aQ (aC (hv _ (by simp)) (aS)) (aC (hv _ (by simp)) (by refine aw (by decide) ?_;exact aS)) (AC (Kt hb hbits))) G8) (hs:=λxs z=>nomatch z)) ?_;have e:sb (x:Int) ((x/2^sft*2^sft:Nat):Int)=((x%2^sft:Nat):Int):=by
   have:=R3 x sft
   push_cast at this⊢
   exact this
  refine aa e ?_;exact bh
 ha1:=λO σ x L R h1 h2 h3=>aG (aC (hv _ (by simp)) h1) (aG (aC (hv _ (.tail _ (.head _))) h2) (aG (aC (hv _ (.tail _ (.tail _ (.tail _ (.tail _ (.head _)))))) h3) a7))
 ha2:=λO σ x L R h1 h2 h3=>aG (aC (hv _ (by simp)) h1) (aG (aC (hv _ (.tail _ (.tail _ (.tail _ (.tail _ (.head _)))))) h2) (aG (aC (hv _ (.tail _ (.tail _ (.head _)))) h3) a7))
theorem RV (hv:∀x∈[nL,nR,nN,ce,dg,cW],br isc x=true) (hs:∀x∈[ce,dg],bb isc x=true):yb isc (.Compare (.BinOp (.Name nL p1) .Add (cI 1 p2) p3) [.Eq] [.Name nR p4] p5) (.Subscript (.Name cW p6) (.Name nL p7) p8)
   (.Assign [.Name ce p9] (.BinOp (.BinOp (.Name nL p10) .Add (.Name nR p11) p12) .RShift (cI 1 p13) p14) p15)
   (.Assign [.Name dg p16] (.BinOp (.BinOp (.Name ce p17) .Sub (.Name nL p18) p19) .Mult (.Name nN p20) p21) p22)
   (.Name dg p23) [.Name ce p24,.Name nR p25] [.Name nL p26,.Name ce p27] where
 hT:=λO σ L R h1 h2=>by refine bA (d:=.bool (decide (L+1=R))) (h:=az (h:=?_)) (ht:=rfl);refine bu (az (h:=aQ (aC (hv _ (.head _)) h1) aW nE)) (aD (hv _ (.tail _ (.head _))) (aH h2)) ?_;exact BJ (x:=L+1) (y:=R)
 hD:=λO σ L ds h1 h2 h3=>by
  refine hJ (h1:=aD (hv _ (by simp)) (aH h2)) (h2:=aC (hv _ (.head _)) h1) (ho:=dh h2) (h:=?_);unfold fL;simp only[ca];have e:iW (L:Int) ds.length=some L:=by unfold iW;have hneg:¬ ((L:Int)<0):=SE;simp[hneg,h3]
  refine aa e ?_;simp[h3,yR]
 hss:=λO σ L R n hL hR hN b1 b2 b4=>by
  have hmL:∀d,(put σ ce d).lookup nL=some (.sh (.int (L:Int))):=λd=>by refine aw (by decide) ?_;exact hL
  have hmN:∀d,(put σ ce d).lookup nN=some (.sh (.int (n:Int))):=λd=>by refine aw (by decide) ?_;exact hN
  refine bY ((L+R)/2) λmid hm=>?_;have c1:L<=mid:=Du b4 hm;have c2:mid<=128:=Ax b1 b4 hm;refine a8 (cq (d:=.int ((mid:Nat):Int)) (hs _ (.head _)) (h:=aQ (aQ (aC (hv _ (.head _)) hL) (aC (hv _ (.tail _ (.head _))) hR) nE) aW (by (rewrite[BM];exact aa hm rfl))) (hs:=λxs z=>nomatch z)) ?_;refine a8 (cq (hs _ (.tail _ (.head _))) (h:=aQ (aQ (aC (hv _ (.tail _ (.tail _ (.tail _ (.head _))))) (aS)) (aC (hv _ (.head _)) (hmL _)) (xo c1)) (aC (hv _ (.tail _ (.tail _ (.head _)))) (hmN _)) (Eo (wD b1 hm))) (hs:=λxs z=>nomatch z)) ?_;exact bh
 hS:=λO σ x h=>aC (hv _ (.tail _ (.tail _ (.tail _ (.tail _ (.head _)))))) h
 ha1:=λO σ L R h1 h2=>aG (aC (hv _ (.tail _ (.tail _ (.tail _ (.head _))))) h1) (aG (aC (hv _ (.tail _ (.head _))) h2) a7)
 ha2:=λO σ L R h1 h2=>aG (aC (hv _ (.head _)) h1) (aG (aC (hv _ (.tail _ (.tail _ (.tail _ (.head _))))) h2) a7)
theorem Rd {sc:Scope} (h1:br sc cW=true) (h2:bS sc (af "len")=true) (s2:bb sc a9=true) (i1:dZ sc nN=true) (i2:dZ sc a9=true) (i3:dZ sc cW=true) (ng:(sc.names.lookup a9==some zj)=false):zO sc (.Name cW p1) (cI 0 p2) [cI 0 p3,.Call (.Name (af "len") p4) [.Name cW p5] [] p6] where
 hT:=λO σ ds h=>by
  refine aa (jG h1 h) ?_;unfold eO gv
  induction ds using aF<;>rfl
 h0:=λO σ=>aW
 ha:=λO σ ds h=>aG aW (aG (C8 h2 (aD h1 (aH h)) (dh h) (by refine aa uw ?_;simp[gv])) a7)
 s2:=s2
 i1:=i1
 i2:=i2
 i3:=i3
 ok1:=by decide
 ng:=ng
theorem Jb {sc:Scope} (h1:br sc nA=true) (h2:br sc nN=true) (h3:br sc c7=true) (h4:bS sc (af "len")=true) (hp:(p6.endLine==p7.line)=true) (s1:bb sc c7=true) (s2:bb sc a9=true) (i1:dZ sc nN=true) (i2:dZ sc a9=true) (i3:dZ sc c7=true) (ng:(sc.names.lookup a9==some zj)=false):Ai sc (.BinOp (.List [cI 0 p1] p2) .Mult (.BinOp (.BinOp (.BinOp (.Call (.Attribute (.Name nA p5) (af "bit_length") p6) [] [] p7) .Add (.Name nN p8) p9) .Sub (cI 1 p10) p11) .FloorDiv (.Name nN p12) p13) p14) (.Name nA p15) [.Name nA p16,cI 0 p17,.Call (.Name (af "len") p18) [.Name c7 p19] [] p20] where
 hE:=λX A s env σ W O a n OK LZ R S V la ln c1 c2 c3 c4=>by
  have hl:pe O 12 sc σ (.List [cI 0 p1] p2)=some (.list [.int 0]):=rfl;have hbits:cg (a:Int)<=65536:=i7 c3;refine VA (ax (du OK LZ R 12 sc σ env [] W _ _ s hl S V) (λv1 t1 h_=>aL h_ λS1 k1 r1=>?_) λζ ζ f=>f.elim);rw[lh] at r1;have V1:=V.keep k1.kb;have hd:bU .FloorDiv (.int ((cg (a:Int):Int)+(n:Int) - 1)) (.int n)=some (.int (cC a n:Nat)):=by
   have e0:((cg (a:Int):Int)+(n:Int) - 1)=((cg (a:Int)+n - 1:Nat):Int):=by lia
   refine aa e0 ?_;unfold bU;simp only;rw[if_pos]
   ·congr 2;unfold cC;exact Int.ofNat_fdiv _ _ |>.symm
   ·simp only[bn,bne_iff_ne,ne_eq,decide_eq_true_eq];refine⟨Mb c1,?_⟩;have:(2:Nat)^60=1152921504606846976:=by decide
    refine aa this ?_;rw[WJ];lia
  have hev:=oP (pos:=p13) (R.mono (xd)) S1 V1 (oP (pos:=p11) (R.mono (xd)) S1 V1 (oP (pos:=p9) (R.mono (xd)) S1 V1 (K9 (W:=W++av []) rfl hp S1 (du OK LZ R 12 sc σ env [] W _ _ t1 (aC (n:=11) (q:=p5) h1 la) S1 V1)) (λs' S' k'=>du OK LZ R 12 sc σ env [] W _ _ s' (aC (n:=11) (q:=p8) h2 ln) S' (V1.keep k'.kb)) nE)
   (λs' S' k'=>du OK LZ R 12 sc σ env [] W _ _ s' (aW (n:=11) (i:=1) (k:=0) (p:=p10)) S' (V1.keep k'.kb)) qD) (λs' S' k'=>du OK LZ R 12 sc σ env [] W _ _ s' (aC (n:=11) (q:=p12) h2 ln) S' (V1.keep k'.kb)) hd
  refine ax hev (λv2 t2 h_=>aL h_ λS2 k2 r2=>?_) λζ ζ f=>f.elim;obtain ⟨l,vs,rfl,hlW,⟨lk,hl⟩,hlen,rl⟩:=r1;refine ay r2 λu e1_=>?_;clear r2;subst e1_;have hlen1:vs.length=1:=by refine aa rl.length ?_;rfl
  have hsz:vs.length*((cC a n:Nat):Int).toNat<=sizeLine:=by (refine aa hlen1 ?_;rw[er,jv]);exact aB c2 (by decide)
  refine zC (vs:=vs) ⟨_,k2.kb l _ (λq=>nomatch q) rfl hl,rfl,_,rfl⟩ (I0) (N8 c2) hsz ?_;have kp:∀b o,t2.heap.get? b=some o->_:=λb o e=>bz (o:={cls:=.type "list",data:=.seq ((bJ ((cC a n:Nat):Int).toNat vs).flatten).toArray}) b o e;refine⟨S2.keep (tk:=t2.toks) kp,(k1.trans k2).trans (ag.keep (tk:=t2.toks) kp),_,_,_,rfl,(k1.trans k2).none d9,dT _ rfl,by refine aa Bx ?_;exact hsz,?_⟩;have rr:=yq rl (cC a n);rw[er];have e1:(bJ (cC a n) [PV.int 0]).flatten=bJ (cC a n) (.int 0):=by
   refine bB (cC a n) λk=>?_
   induction k with
   |zero=>rfl
   |succ k ih=>refine aa iZ (aa gT (aa ih ?_));rfl
  replace rr:=e1▸rr;exact fB (λd hd=>by refine aa (mW hd) ?_;rfl) rr
 hT:=λO σ a h=>by
  refine aa (jG h1 h) ?_;show some _=some _;congr 1
  by_cases q:a=0
  ·subst q;rfl
  ·simp[q]
 ha:=λO σ a k h h'=>aG (aC h1 h) (aG aW (aG (C8 h4 (aD h3 (aH h')) (dh h') (by refine aa uw ?_;simp)) a7))
 cf:=rfl
 s1:=s1
 s2:=s2
 i1:=i1
 i2:=i2
 i3:=i3
 ok1:=by decide
 ok2:=by decide
 ng:=ng
end
noncomputable abbrev pw:Program:=PySem.Challenge.pw_tc0009_01
noncomputable def bH (f:Str):DefRec:=(jF pw f).getD ⟨f,{posonlyargs:=[],args:=[],vararg:=none,kwonlyargs:=[],kw_defaults:=[],kwarg:=none,defaults:=[]},[],{kind:=.function,names:=[],isGenerator:=false,isCoroutine:=false,more:=[]},⟨0,0,0,0⟩⟩
noncomputable def GR (d:DefRec):Pos:=match d.body.findSome? (λst=>match st with|.FunctionDef _ _ _ _ _ _ _ _ _ p=>some p|_=>none) with
 |some p=>p
 |none=>⟨0,0,0,0⟩
noncomputable def jc (d:DefRec):DefRec:=match d.body.findSome? (λst=>match st with|.FunctionDef n a b _ _ _ sc _ _ p=>some ⟨n,a,b,sc,p⟩|_=>none) with
 |some r=>r
 |none=>d
theorem r1:jF pw cN=some (bH cN):=by rfl
theorem r2:jF pw cO=some (bH cO):=by rfl
theorem r3:jF pw nEsc=some (bH nEsc):=by rfl
noncomputable def tb (f:Str) (c P:Addr):Tb:={c:=c,P:=P,pos:=GR (bH f),qual:=f++af ".<locals>." ++a9}
section
variable {X:Cx} {loose:List Str} {mean:qh->Option Value}
noncomputable def lr (X:Cx) (f:Str):Prop:=∀a o,X.mg f=some (.ref a)->X.h0.get? a=some o->o.cls=.type "function"
noncomputable def tA (X:Cx) (f:Str) (c:Addr):Prop:=∀a o fd,X.mg f=some (.ref a)->X.h0.get? a=some o->o.data=.func fd->fd.code=.ref c
theorem QL:m8 [fD,nL,nR] (jc (bH cN)).params (jc (bH cN)).scope (jc (bH cN)).body nN a9 c7 where
 co:=rfl
 ge:=rfl
 kd:=rfl
 nd:=by decide
 nm:=by
  have h:(jc (bH cN)).scope.names.all (λy=>cy y.1)=true:=by decide
  exact λx k hx=>dG.mp h _ hx
 pst:=by decide
 bind:=λqual clos doc pm ct cv vs h=>by obtain ⟨a,b,c,rfl⟩:=xF h;rfl
 fr:=λx hx=>by
  have h:(jc (bH cN)).scope.names.all (λy=>y.2 != .free||y.1==nN||y.1==a9||y.1==c7)=true:=by decide
  have:=dG.mp h _ (ck hx);simpa [or_assoc] using this
 f1:=by decide
 f2:=by decide
 f3:=by decide
 noc:=λx hx=>by
  have h:(jc (bH cN)).scope.names.all (λy=>y.2 != .cell)=true:=by decide
  have:=dG.mp h _ hx;exact aU this
 n12:=by decide
 n13:=by decide
 n23:=by decide
 clo:=λcells=>rfl
 doc:=rfl
 d0:=rfl
 k0:=rfl
 an:=λenv=>rfl
theorem LX:m8 [nL,nR] (jc (bH cO)).params (jc (bH cO)).scope (jc (bH cO)).body nN a9 cW where
 co:=rfl
 ge:=rfl
 kd:=rfl
 nd:=by decide
 nm:=by
  have h:(jc (bH cO)).scope.names.all (λy=>cy y.1)=true:=by decide
  exact λx k hx=>dG.mp h _ hx
 pst:=by decide
 bind:=λqual clos doc pm ct cv vs h=>by obtain ⟨a,b,rfl⟩:=rY h;rfl
 fr:=λx hx=>by
  have h:(jc (bH cO)).scope.names.all (λy=>y.2 != .free||y.1==nN||y.1==a9||y.1==cW)=true:=by decide
  have:=dG.mp h _ (ck hx);simpa [or_assoc] using this
 f1:=by decide
 f2:=by decide
 f3:=by decide
 noc:=λx hx=>by
  have h:(jc (bH cO)).scope.names.all (λy=>y.2 != .cell)=true:=by decide
  have:=dG.mp h _ hx;exact aU this
 n12:=by decide
 n13:=by decide
 n23:=by decide
 clo:=λcells=>rfl
 doc:=rfl
 d0:=rfl
 k0:=rfl
 an:=λenv=>rfl
end
section
variable {X:Cx} {loose:List Str} {mean:qh->Option Value}
theorem zV {f:Str} (T:gg pw X) (hr:jF pw f=some (bH f)) (hc:lr X f) {ps:List Str} (hf:qy (bH f).scope ps=true) (hb:∀pm code doc (vs:List Value),vs.length=ps.length->lJ (oy (bH f).name (bH f).params (bH f).body (bH f).scope pm code doc) ⟨vs,[]⟩=pure (ps.zip vs)):∃fa fd,X.mg f=some (.ref fa)/\ma X fa fd ps (bH f).body/\fd.scope=(bH f).scope/\fd.qualname=f:=by have hm:=FQ hr;have hname:(bH f).name=f:=beq_iff_eq.mp (WI (p:=λe:DefRec=>e.name==f) hr);refine eQ (D1 T hm (by refine aa hname ?_;exact hc) hf hb) λfa fd h1 h2 h3 h4 ζ=>?_;exact Eh fa fd (by refine aA hname ?_;exact h1) h2 h3 (h4.trans hname)
theorem Lu (T:gg pw X) (hc:lr X cN) {c P:Addr} (hcd:tA X cN c) (hT:jY X (tb cN c P)) (OK:bg X O0 0) (LZ:bR X):nu X cN jR 140:=by
 intro as d e
 obtain ⟨fa,fd,h1,h2,h3,h4⟩:=zV T r1 hc (ps:=[nA,nN]) (by decide) (λpm code doc vs h=>by
  obtain ⟨a,b,rfl⟩:=rY h;rfl)
 refine bo h2.ho λo ho hcl hd=>?_;refine⟨by decide,by decide,fa,h1,⟨o,fd,ho,hcl,hd⟩,λA s W vs R S w r=>?_⟩;refine jy (O9 e) λa n e2_=>?_;subst e2_;delta jR at e;dsimp only at e
 ·refine ifs e λhg e=>?_;simp only[bn,decide_eq_true_eq] at hg;obtain ⟨⟨⟨⟨g1,g2⟩,g3⟩,g4⟩,g5⟩:=hg;have h_:=ak e;clear e;subst h_;refine ay (yK g1) λa e1_=>?_;subst e1_;refine ay (yK (show 0<=n by exact KT g2)) λn e1_=>?_;subst e1_;simp only[WK,er] at g4 g5 ⊢;refine Ky h2 ?_ QL ?_ (λenv q=>?_) hT (hcd fa o fd h1 ho hd) rfl (by refine aa h4 ?_;rfl) OK LZ (Ka g2) g4 g5 (Cc g3) R S w r
  ·refine aa h3 ?_;exact Jb (by decide) (by decide) (by decide) (by decide) rfl (by decide) (by decide) (by decide) (by decide) (by decide) (by decide)
  ·exact NN (by decide) (by decide)
  ·rfl
theorem JW (T:gg pw X) (hc:lr X cO) {c P:Addr} (hcd:tA X cO c) (hT:jY X (tb cO c P)) (OK:bg X O0 0) (LZ:bR X):nu X cO jV 140:=by
 intro as d e
 obtain ⟨fa,fd,h1,h2,h3,h4⟩:=zV T r2 hc (ps:=[cW,nN]) (by decide) (λpm code doc vs h=>by
  obtain ⟨a,b,rfl⟩:=rY h;rfl)
 refine bo h2.ho λo ho hcl hd=>?_;refine⟨by decide,by decide,fa,h1,⟨o,fd,ho,hcl,hd⟩,λA s W vs R S w r=>?_⟩;refine jy (Tl e) λxs n e2_=>?_;subst e2_;delta jV at e;dsimp only at e
 ·set_option smartUnfolding false in refine om e λl hl e=>?_
  refine ifs e λhg e=>?_;simp only[bn,decide_eq_true_eq,dG] at hg;obtain ⟨⟨⟨g1,g2⟩,g3⟩,g4⟩:=hg;have h_:=ak e;clear e;subst h_;refine ay (yK g3) λn e1_=>?_;subst e1_;have hxs:xs=gv (l.map b9):=by
   have key:∀(xs:List PV) (l:List Int),fN xs=some l->(∀x∈l,0<=x)->xs=gv (l.map b9):=by
    intro xs
    induction xs with
    |nil=>intro l h _;have h_:=ak h;clear h;subst h_;rfl
    |cons x xs ih=>
     intro l h hp
     induction x using PV.casesOn with
     |int i=>refine ah (gA.mp (show (fN xs).map (i:: ·)=some l from h)) λl' h' e2_=>?_;subst e2_;have hi:=hp i (.head _);rw[ih l' h' λy hy=>hp y (.tail _ hy)];simp[gv,vv hi]
     |_=>exact ab h
   exact key xs l hl λx hx=>(g1 x hx).1
  replace r:=hxs▸r;simp only[WK,er] at g1 ⊢;refine KM h2 ?_ LX ?_ hT (hcd fa o fd h1 ho hd) rfl (by refine aa h4 ?_;rfl) OK LZ (by simpa using g2) (λd hd=>?_) (Cc g4) R S w r
  ·refine aa h3 ?_;exact Rd (by decide) (by decide) (by decide) (by decide) (by decide) (by decide) (by decide)
  ·exact RV (by decide) (by decide)
  ·refine ah (dQ.mp hd) λx hx e2_=>?_;subst e2_;exact (g1 x hx).2
end
noncomputable def Im:List (Nat×Pos):=[(0,⟨73,4,73,7⟩),(1,⟨73,10,73,11⟩),(2,⟨73,4,73,11⟩),(3,⟨74,4,74,10⟩),(4,⟨74,13,74,18⟩),(5,⟨74,4,74,18⟩),(10,⟨75,8,75,11⟩),(11,⟨75,13,75,15⟩),(12,⟨75,8,75,15⟩),(13,⟨75,19,75,28⟩),(14,⟨75,29,75,33⟩),(15,⟨75,19,75,34⟩),(16,⟨75,4,82,27⟩),(20,⟨77,19,77,22⟩),(21,⟨77,24,77,28⟩),(22,⟨77,31,77,33⟩),(23,⟨77,24,77,33⟩),(24,⟨77,18,77,34⟩),(30,⟨82,19,82,22⟩),(31,⟨82,24,82,26⟩),(32,⟨82,18,82,27⟩),(40,⟨84,15,84,18⟩),(41,⟨84,20,84,24⟩),(42,⟨84,14,84,25⟩),(50,⟨76,11,76,17⟩),(51,⟨77,12,77,34⟩),(52,⟨77,12,77,34⟩),(53,⟨78,12,78,18⟩),(54,⟨78,21,78,26⟩),(55,⟨78,12,78,26⟩),(56,⟨79,13,79,15⟩),(57,⟨79,19,79,23⟩),(58,⟨79,13,79,23⟩),(60,⟨80,12,80,18⟩),(61,⟨80,21,80,25⟩),(62,⟨80,12,80,25⟩),(63,⟨82,12,82,27⟩),(64,⟨82,12,82,27⟩),(65,⟨79,8,82,27⟩),(66,⟨76,8,82,27⟩),(70,⟨83,7,83,13⟩),(71,⟨84,8,84,25⟩),(72,⟨84,8,84,25⟩),(73,⟨83,4,84,25⟩)]
noncomputable def gPos:Nat->Pos:=λi=>match Im.lookup i with
 |some p=>p
 |none=>⟨0,0,0,0⟩
section
variable {X:Cx} {loose:List Str} {mean:qh->Option Value}
theorem K1:(bH nEsc).body=lY gPos:=rfl
theorem MR (T:gg pw X) (hc:lr X nEsc) (OK:bg X O0 0) (LZ:bR X):bg X O1 8:=by
 have hm:=FQ r3;have hname:(bH nEsc).name=nEsc:=by rfl
 refine bN (OS T hm (by refine aa hname ?_;exact hc) K1 rfl (λpm code doc v=>rfl)) λfa fd h1 h2=>?_;exact OA OK LZ h2 (by refine aA hname ?_;exact h1)
noncomputable def pI:List Str:=[gp,fA,cZ,fS,ie,rR,qp,iO]
theorem vd {α:Type} {vs:List α} (h:vs.length=1):∃a,vs=[a]:=by refine bN (rj h) λa l e h=>?_;exact⟨a,aa e (aa (Cr h) rfl)⟩
theorem oU (T:gg pw X) {f:Str} {d0:DefRec} (hd:jF pw f=some d0) (hbi:fH f=none) (hn:cy f=true) (hf:qy d0.scope (hH d0)=true) (hb:∀pm code doc (vs:List Value),vs.length=(hH d0).length->lJ (oy d0.name d0.params d0.body d0.scope pm code doc) ⟨vs,[]⟩=pure ((hH d0).zip vs)):lr X f->nO pw X f:=λhc=>MS T hbi hn hc λd hd'=>by have h:=jm (hd.symm.trans hd');subst h;exact⟨hf,hb⟩
theorem CN {f:Str} (hd:jF pw f=none):lr X f->nO pw X f:=λζ d h=>nomatch hd.symm.trans h
theorem Kz (T:gg pw X) (hc:∀f∈pI,lr X f):∀f∈pI,nO pw X f:=λf hf=>
 (fm_ (P:=λf=>lr X f->nO pw X f) (oU T (d0:=bH gp) (by rfl) (by decide) (by decide) (by decide) λpm code doc vs h=>by obtain ⟨a,rfl⟩:=vd h;rfl)<|
  fm_ (oU T (d0:=bH fA) (by rfl) (by decide) (by decide) (by decide) λpm code doc vs h=>by obtain ⟨a,rfl⟩:=vd h;rfl)<|
  fm_ (oU T (d0:=bH cZ) (by rfl) (by decide) (by decide) (by decide) λpm code doc vs h=>by obtain ⟨a,b,rfl⟩:=rY h;rfl)<|
  fm_ (oU T (d0:=bH fS) (by rfl) (by decide) (by decide) (by decide) λpm code doc vs h=>by obtain ⟨a,rfl⟩:=vd h;rfl)<|
  fm_ (oU T (d0:=bH ie) (by rfl) (by decide) (by decide) (by decide) λpm code doc vs h=>by obtain ⟨a,b,c,rfl⟩:=xF h;rfl)<|
  fm_ (CN (by rfl))<|fm_ (CN (by rfl))<|
  fm_ (oU T (d0:=bH iO) (by rfl) (by decide) (by decide) (by decide) λpm code doc vs h=>by obtain ⟨a,rfl⟩:=vd h;rfl) kD) f hf (hc f hf)
theorem T0 {c1 P1 c2 P2:Addr} (T:gg pw X) (hc:∀f∈nEsc::cN::cO::pI,lr X f) (G:xG X) (he:∃t,X.mg mw=some (.str (af "...") t)) (hb:∀f∈pt,X.mg f=none) (k1:tA X cN c1) (k2:tA X cO c2) (t1:jY X (tb cN c1 P1)) (t2:jY X (tb cO c2 P2)):nu X iO (bZ pw (O6 pw) iO) 146:=by
 have OK:=GK T G he hb;have LZ:bR X:=So;have F:=Kz T λf hf=>hc f (by simp[hf])
 have a6:=RS OK LZ (MR T (hc _ (.head _)) OK LZ) (λf hf=>F f (by
  simp only[ao,ba,or_false] at hf;simp only[pI,ao,ba,or_false]
  rcases hf with h|h|h|h|h|h|h<;>simp[h])) (Lu T (hc _ (.tail _ (.head _))) k1 t1 OK LZ) (JW T (hc _ (.tail _ (.tail _ (.head _)))) k2 t2 OK LZ)
 exact mi a6 LZ (F iO (by decide))
end
theorem AQ {W:List Addr} {h:aP}:∀{vs:List Value} {ns:List Int},oj vs ns->ar W h (ns.map .int) vs
 |_,_,.nil=>rfl
 |_,_,.cons x t r=>⟨_,_,rfl,⟨t,rfl⟩,AQ r⟩
theorem GW {view:Program} {loose:List Str} {mean:qh->Option Value} {w:jo} {s₁:ae} {mg mb:Str->Option Value} {fa l:Addr} {ns:List Int} {vs:List Value} {P:Params} {c1 P1 c2 P2:Addr} {cl:Str->Option Addr} {meanE:qh->Option Value}  (T:Top view loose mean mg mb s₁.heap) (hview:lN view=lN pw) (hg:s₁.gens= #[]) (hT:TabsAt [(c2,P2),(c1,P1)] s₁.heap) (hP:P1≠P2) (hc:∀f∈nEsc::cN::cO::pI,∀a o,mg f=some (.ref a)->s₁.heap.get? a=some o->o.cls=.type "function") (hk1:∀a o fd,mg cN=some (.ref a)->s₁.heap.get? a=some o->o.data=.func fd->fd.code=.ref c1) (hk2:∀a o fd,mg cO=some (.ref a)->s₁.heap.get? a=some o->o.data=.func fd->fd.code=.ref c2) (G:∃da o kvs,mg rB=some (.ref da)/\(da==FP)=false/\s₁.heap.get? da=some o/\o.cls≠.none/\o.IsDictOf (qi pw w) kvs/\vS qj kvs flagD) (he:∃t,mg mw=some (.str (af "...") t)) (hb:∀f∈pt,mg f=none) (hfa:mg iO=some (.ref fa)) (hl:s₁.heap.IsList l vs.toArray) (hw:Well P s₁.heap (.ref l) (vT (.list (ns.map .int)))) (hi:oj vs ns) (hn:¬ ((63:Nat):Int)<(ns.length:Int)) (hrun:∀ns:List Int,ns.length<=63->bZ pw (O6 pw) iO [.list (ns.map .int)]=some (.bool true)):al (aq PySem.Challenge.rw_tc0009_01.row.prog w) FS ((λf vs=>call f vs) (gV fa) [gV l])
   (λv s'=>GoodWG PySem.Challenge.rw_tc0009_01.row.claim cl meanE [vT (.list (ns.map .int))] s₁ (Except.ok (Fw v)) s')
   (λe s'=>GoodWG PySem.Challenge.rw_tc0009_01.row.claim cl meanE [vT (.list (ns.map .int))] s₁ (Except.error e) s') s₁:=by
 let X:Cx:=⟨pw,w,s₁.heap,mg,mb,s₁.os,[tb cN c1 P1,tb cO c2 P2]⟩
 have TL:gg pw X:=gg.of (X:=X) T hview;have hNs:∀b m,s₁.heap.Ns b m->∀ps,s₁.heap.get? b≠some (mI ps):=λb m h_ ps q=>i8 h_ λo es ep h_=>aL h_ λe hd ζ=>by replace q:=e▸q;have h_:=ak q;clear q;subst h_;cases hd
 have h1:=hT (c1,P1) (.tail _ (.head _));have h2:=hT (c2,P2) (.head _);have XO:AE X:=
  {g:=jP T.g λo es ep e ζ=>⟨o,e⟩
   b:=jP T.b λo es ep e ζ=>⟨o,e⟩
   st:=let ⟨mc,⟨o,es,ep,e,_⟩,_⟩:=T.nolimit;⟨o,e⟩
   tb:=λq hq=>by
    have hq:q∈[tb cN c1 P1,tb cO c2 P2]:=hq;simp only[ao,ba,or_false] at hq;rcases hq with rfl|rfl
    ·exact pH c1 (#[]) (h1.1.tab h1.2)
    ·exact pH c2 (#[]) (h2.1.tab h2.2)
   tc:=λq hq=>by
    have hq:q∈[tb cN c1 P1,tb cO c2 P2]:=hq;simp only[ao,ba,or_false] at hq;rcases hq with rfl|rfl
    ·exact h1.1
    ·exact h2.1}
 have S:ai X s₁:=
  {x:=XO,old:=OldK.refl _,g:=T.g,b:=T.b,lim:=T.nolimit,os:=rfl
   bare:=λy hy=>by replace hy:=hg▸hy;simp at hy
   tab:=λq hq=>by
    have hq:q∈[tb cN c1 P1,tb cO c2 P2]:=hq;simp only[ao,ba,or_false] at hq;rcases hq with rfl|rfl
    ·exact⟨h1.1,.inl h1.2⟩
    ·exact⟨h2.1,.inl h2.2⟩}
 have tf:∀P,(P=P1\/P=P2)->s₁.heap.BuiltinsAt mg P/\df≠P:=λP hP=>by
  have ht:s₁.heap.get? P=some (mI #[]):=by
   rcases hP with rfl|rfl
   ·exact h1.2
   ·exact h2.2
  refine SA T.bmain λbm ob b1 b2 b3 b4 b5 b6=>?_;refine⟨⟨bm,ob,b1,b2,λz=>?_,λz=>?_,b3,b4,b5,b6⟩,λz=>hNs _ _ T.g _ (z▸ht)⟩
  ·refine jQ T.g λo es ep e hd ζ=>?_;replace e:=(c5 z)▸e;replace e:=b3▸e;have h_:=ak e;clear e;subst h_;replace hd:=b6▸hd;cases hd
  ·replace b3:=z▸b3;replace b3:=ht▸b3;have h_:=ak b3;clear b3;subst h_;cases b4
 have t1:jY X (tb cN c1 P1):=⟨by refine (?_:_∈[tb cN c1 P1,tb cO c2 P2]);exact .head _,(tf P1 (.inl rfl)).1,(tf P1 (.inl rfl)).2,λq' hq' e=>by
  have hq':q'∈[tb cN c1 P1,tb cO c2 P2]:=hq';simp only[ao,ba,or_false] at hq';rcases hq' with rfl|rfl
  ·rfl
  ·exact absurd e.symm hP⟩
 have t2:jY X (tb cO c2 P2):=⟨by refine (?_:_∈[tb cN c1 P1,tb cO c2 P2]);exact .tail _ (.head _),(tf P2 (.inr rfl)).1,(tf P2 (.inr rfl)).2,λq' hq' e=>by
  have hq':q'∈[tb cN c1 P1,tb cO c2 P2]:=hq';simp only[ao,ba,or_false] at hq';rcases hq' with rfl|rfl
  ·exact absurd e hP
  ·rfl⟩
 have C:=T0 (X:=X) TL hc ⟨G⟩ he hb hk1 hk2 t1 t2;obtain ⟨_,_,fa',h3,_,hC⟩:=C [.list (ns.map .int)] (.bool true) (hrun ns (K2 hn));have h3:mg iO=some (.ref fa'):=h3;replace h3:=hfa▸h3;cases h3;have hex:s₁.heap.get? l=some {cls:=.type "list",data:=.seq vs.toArray}:=by
  have hw':Well P s₁.heap (.ref l) (.list (ofPys (ns.map .int))):=hw;cases hw' with
  |list e _=>obtain ⟨o,e2,_,n,hd⟩:=hl;replace e2:=e▸e2;have h_:=ak e2;clear e2;subst h_;cases hd;exact e
 have hlen:vs.length=ns.length:=hi.length;have r:ar [] s₁.heap [.list (ns.map .int)] [.ref l]:=⟨_,_,rfl,⟨l,vs,rfl,(by simp),⟨_,hex⟩,aB (Rt hn hlen) (by decide:63<=sizeLine),AQ hi⟩,rfl⟩
 have R:aK FS 146:=⟨rfl,by decide,by decide⟩
 refine ax (hC FS s₁ [] _ R S (λb hb=>nomatch hb) r) (λv s' h_=>aL h_ λS' ζ rv=>?_) λζ ζ f=>f.elim;simp only[am] at rv;subst rv;have hpost:FT PySem.Challenge.rw_tc0009_01.row.records PySem.Challenge.rw_tc0009_01.row.post {args:=[vT (WL (FU qj ns))],res:=some (WM true),after:=[vT (WL (FU qj ns))]}=some (WM true):=by refine (?_:FT _ (.eq .res (.lit (.bool true))) _=_);simp[FT,W.same]
 exact iM (.inl ⟨_,.bool true,[],rfl,λcls=>rfl,.bool true,postW_of (X:=true) rfl hpost rfl,λζ=>⟨We,λa ha=>nomatch ha⟩⟩) S'.old S'.os S'.bare
theorem Sy {K:Frag} {h:aP} {mg:Str->Option Value} (X:K.In h) (G:h.Ns df mg) (l:List Str) (hl:l.all (λf=>match lO K df f with|some (some (.ref a))=>(match K.lookup a with|some o=>(match o.cls with|.type c=>c== "function" |_=>false)|none=>false)|some none=>true|_=>false)=true):∀f∈l,∀a o,mg f=some (.ref a)->h.get? a=some o->o.cls=.type "function" :=λf hf a o h1 h2=>by
 have:=dG.mp hl f hf;revert this;refine bY (lO K df f) λu e=>?_
 induction u using bO with
 |none=>exact aU
 |some u=>
  induction u using bO with
  |none=>exact λζ=>ab ((WN X G e).symm.trans h1)
  |some v=>
   have e1:=ak ((mg_of X G e).symm.trans h1);subst e1;refine (?_:(match K.lookup a with|some o=>(match o.cls with|.type c=>c== "function" |_=>false)|none=>false)=true->_);refine bY (K.lookup a) λw e2=>?_
   induction w using bO with
   |none=>exact aU
   |some o'=>
    have e3:=ak ((X _ _ e2).symm.trans h2);subst e3;refine (?_:(match o'.cls with|.type c=>c== "function" |_=>false)=true->_);refine bB o'.cls λc=>?_
    induction c using oe with
    |type c=>exact λh=>congrArg Value.type (bc h)
    |_=>exact aU
theorem SV {K:Frag} {h:aP} {mg:Str->Option Value} (X:K.In h) (G:h.Ns df mg) (l:List Str) (hl:l.all (λf=>match lO K df f with|some none=>true|_=>false)=true):∀f∈l,mg f=none:=λf hf=>by
 have:=dG.mp hl f hf;revert this;refine bY (lO K df f) λu e=>?_
 induction u using bO with
 |none=>exact aU
 |some u=>
  induction u using bO with
  |none=>exact λζ=>WN X G e
  |some v=>exact aU
noncomputable def rc:List (Int×Str)->Nat->List DictEntry
 |[],_=>[]
 |(k,x)::r,c=>{hash:=k,key:=.int k c,val:=.str x (c+1)}::rc r (c+2)
noncomputable def pB:List (Int×Str)->Nat->List (Int×Value)
 |[],_=>[]
 |(k,x)::r,c=>(k,.str x (c+1))::pB r (c+2)
theorem Dk {prog:Program} {w:jo}:∀(l:List (Int×Str)) (c:Nat),(∀y∈l,hashInt y.1=y.1)->(∀e∈rc l c,∃k,(qi prog w).is k e.key=true/\e.hash=(qi prog w).hash k)/\Pairs (qi prog w) (rc l c) (pB l c)/\(pB l c).map (·.1)=l.map (·.1)/\vS qj (pB l c) (l.map λy=>(.int y.1,.str y.2))
 |[],c,_=>⟨(λe he=>nomatch he),.nil,rfl,.nil⟩
 |(k,x)::r,c,h=>by
  refine eZ (Dk (prog:=prog) (w:=w) r (c+2) λy hy=>h y (.tail _ hy)) λh1 h2 h3 h4=>?_;have hk:=h (k,x) (.head _);refine iM (λe he=>?_) (.cons (WO prog w k c) rfl h2) (by refine (?_:_::_=_::_);exact aa h3 rfl) (.cons (λh=>.str x _) h4);rcases ao.mp he with q|q
  ·subst q;exact au k (WO prog w k c) hk.symm
  ·exact h1 e q
theorem SH {prog:Program} {w:jo} {c n:Nat} {o:d5} (h:o={cls:=.type "dict",data:=.dict (rc hF c).toArray n}):o.cls≠.none/\o.IsDictOf (qi prog w) (pB hF c)/\vS qj (pB hF c) flagD:=by subst h;refine eZ (Dk (prog:=prog) (w:=w) hF c (by decide)) λh1 h2 h3 h4=>?_;refine dX (by simp) ⟨_,n,⟨rfl,rfl,rfl⟩,rfl,λe he=>h1 e (by simpa using he),h2,?_⟩ h4;refine aa h3 ?_;decide
open PySem.StrLaws
noncomputable def S (l:List Nat):Str:=⟨l.toArray⟩
noncomputable abbrev Lx (x:Str):List Nat:=x.cps.toList
@[simp] theorem ph (l:List Nat):(S l).cps.toList=l:=by simp[S]
theorem yh (x:Str):S (Lx x)=x:=by simp[S]
@[simp] theorem cc (l:List Nat):(S l).length=l.length:=by simp[S,WP]
theorem wm (x:Str):x.length=(Lx x).length:=by simp[WP]
theorem Lr {a b:List Nat}:S a=S b↔a=b:=⟨λh=>by have:=congrArg (λx:Str=>x.cps.toList) h;simpa using this,λh=>h▸rfl⟩
theorem wH (a b:List Nat):S a++S b=S (a++b):=by
 have:(S a++S b).cps=(S a).cps++(S b).cps:=rfl;cases h:S a++S b with|mk c=>replace this:=h▸this;simp only at this;refine aa this ?_;simp[S]
theorem ll (a b:List Nat):(S a==S b)=(a==b):=by
 by_cases h:a=b
 ·subst h;simp
 ·have h2:¬ S a=S b:=λz=>h (Lr.mp z);exact aa (beq_eq_false_iff_ne.mpr h) (aa (beq_eq_false_iff_ne.mpr h2) rfl)
theorem C1 (l:List Nat):dL (S l)=l.map λc=>S [c]:=by unfold dL;rw[ph];rfl
theorem xM (x:Str) (l u:Option Int):iX x l u=sliceText x l u:=rfl
theorem Gy (l:List Nat) {a b:Nat} (hab:a<=b) (hb:b<=l.length):iX (S l) (some (a:Int)) (some (b:Int))=S ((l.drop a).take (b - a)):=by rw[xM,sliceText_nat (S l) hab (by simpa using hb),ph];rfl
theorem wd {l:List Nat} {b:Nat} (hb:b<=l.length):iX (S l) none (some (b:Int))=S (l.take b):=by rw[xM,sliceText_to (x:=S l) ⟨c8 _,by simpa using hb⟩,ph];simp[S]
theorem Bb {l:List Nat} {a:Nat} (ha:a<=l.length):iX (S l) (some (a:Int)) none=S (l.drop a):=by
 rw[xM,sliceText_from (x:=S l) ⟨c8 _,by simpa using ha⟩,ph];have:((l.length:Int) - (a:Int)).toNat=(l.drop a).length:=by refine aa eu ?_;exact JB ha
 simp only[er,this,lF];rfl
theorem Mh (l:List Nat) (c:Nat):EM (S l) (S [c])=((l.count c:Nat):Int):=by
 have h:EM (S l) (S [c])=cnt c (S l).cps.toList:=count_cnt (S l) c;refine aa h ?_;rw[ph]
 induction l with
 |nil=>rfl
 |cons n r ih=>
  rewrite[cnt_cons];refine aa zm ?_;have ih:cnt c r=_:=ih (count_cnt (S r) c);refine aa ih ?_
  by_cases h:n=c
  ·subst h;simp;exact sf _ _
  ·simp[h]
theorem qT (l m:List Nat) (i:Nat):Yd (S l) (S m) i=((l.drop i).take m.length==m):=by rw[subAt_eq];simp
theorem OM (l m:List Nat):yC (S l) (S m)=m.isPrefixOf l:=by
 unfold yC
 rw[qT,cc,cc];simp only[jr,qc]
 by_cases h:m <+: l
 ·have h1:=h.length_le;have h2:l.take m.length=m:=(vU.mp h).symm;refine aa h2 ?_;simp[h1,qk.mpr h]
 ·have h3:m.isPrefixOf l=false:=by
   cases e:m.isPrefixOf l with
   |false=>rfl
   |true=>exact absurd (qk.mp e) h
  refine aa h3 ?_
  by_cases h4:l.take m.length=m
  ·exact absurd (vU.mpr h4.symm) h
  ·simp[h4]
theorem GY (l m:List Nat):yD (S l) (S m)=m.isSuffixOf l:=by
 unfold yD
 rw[qT,cc,cc];simp only[jr]
 by_cases h:m <:+ l
 ·have h1:=h.length_le;have h2:(l.drop (l.length - m.length))=m:=(WQ.mp h).symm;refine aa h2 (aa lF ?_);simp[h1,zn.mpr h]
 ·have h3:m.isSuffixOf l=false:=by
   cases e:m.isSuffixOf l with
   |false=>rfl
   |true=>exact absurd (zn.mp e) h
  refine aa h3 ?_
  by_cases h1:m.length<=l.length
  ·by_cases h4:(l.drop (l.length - m.length)).take m.length=m
   ·have h5:(l.drop (l.length - m.length)).take m.length=l.drop (l.length - m.length):=oh (by refine aa eu ?_;exact NJ h1);exact absurd (WQ.mpr (h5▸h4).symm) h
   ·simp[h4]
  ·simp[h1]
theorem mv (l m:List Nat) (hi i:Nat):At (S l) (S m) hi i↔i+m.length<=hi/\(l.drop i).take m.length=m:=by unfold At;rw[qT,cc];simp
theorem uY (l m:List Nat):iS (S l) (S m)=true↔∃i,i+m.length<=l.length/\(l.drop i).take m.length=m:=by
 unfold iS;rw[found_iff];constructor
 ·rintro ⟨i,h1,h2⟩;exact au i (by simpa using h1) (by simpa [qT] using h2)
 ·rintro ⟨i,h1,h2⟩;exact au i (by simpa using h1) (by simpa [qT] using h2)
noncomputable def after (m:List Nat):List Nat->Option (Nat×List Nat)
 |[]=>if m=[] then some (0,[]) else none
 |c::u=>if m.isPrefixOf (c::u) then some (0,(c::u).drop m.length) else (after m u).map λp=>(p.1+1,p.2)
theorem Eu {m}:after m []=if m=[] then some (0,[]) else none:=rfl
theorem re {m c u}:after m (c::u)=if m.isPrefixOf (c::u) then some (0,(c::u).drop m.length) else (after m u).map λp=>(p.1+1,p.2):=rfl
theorem uE {m:List Nat}:∀{u:List Nat} {k:Nat} {r:List Nat},after m u=some (k,r)->k+m.length<=u.length/\(u.drop k).take m.length=m/\r=u.drop (k+m.length)/\∀j,j<k->(u.drop j).take m.length≠m
 |[],k,r,h=>by skip;refine ifs h λhm h=>?_;subst hm;cases h;simp
 |c::u,k,r,h=>by
  rw[re] at h
  split at h
  ·rename_i hp;cases h;have hp:=qk.mp hp;exact iM (by have:=hp.length_le;exact N0 this) (by simpa using (vU.mp hp).symm) (by simp) (λj hj=>absurd (by assumption) (UI _))
  ·rename_i hp;obtain ⟨⟨k',r'⟩,h',e⟩:=gA.mp h;cases e;refine eZ (uE h') λa1 a2 a3 a4=>?_;refine iM (by simp;exact JC a1) (by simpa using a2) (by refine aa a3 ?_;simp[WR]) (λj hj=>?_)
   induction j using dq with
   |zero=>intro z;exact hp (qk.mpr (vU.mpr (by simpa using z.symm)))
   |succ j=>simpa using a4 j (Nat.lt_of_succ_lt_succ (by assumption))
theorem BA {m:List Nat}:∀{u:List Nat},after m u=none->∀j,j+m.length<=u.length->(u.drop j).take m.length≠m
 |[],h,j,hj=>by
  rw[Eu] at h
  split at h
  ·cases h
  ·rename_i hm;intro z;simp at z;exact hm z
 |c::u,h,j,hj=>by
  rw[re] at h
  split at h
  ·cases h
  ·rename_i hp;have h':=Option.map_eq_none_iff.mp h
   induction j using dq with
   |zero=>intro z;exact hp (qk.mpr (vU.mpr (by simpa using z.symm)))
   |succ j=>simpa using BA h' j (by simp at hj;exact LA hj)
theorem NF (l m:List Nat) {i j:Nat} (hij:i<=j) (hj:j<=l.length):qK (S l) (S m) (i:Int) (j:Int)=match after m ((l.drop i).take (j - i)) with|some (k,_)=>((i+k:Nat):Int)|none=> -1:=by
 have hseg:∀k,i<=k->k+m.length<=j->((l.drop k).take m.length=m↔(((l.drop i).take (j - i)).drop (k - i)).take m.length=m):=λk h1 h2=>by refine aa WS (aa kN (aa List.take_take ?_));have e1:i+(k - i)=k:=mG (by assumption);have e2:bL m.length (j - i - (k - i))=m.length:=Q8 h2 e1;rw[e1,e2]
 have hlen:((l.drop i).take (j - i)).length=j - i:=by rw[fJ,eu];exact z0 hij hj
 unfold qK;rw[er,er,occ_eq];rcases occ_first (S l) (S m) j 1 (aT _) (eX i (j+1 - i)) i (λk hk=>(sK.mp hk).1) with ⟨h0,hn⟩|⟨pre,a,post,e,h0,ha,hn⟩
 ·refine aa h0 ?_;simp only;cases ha:after m ((l.drop i).take (j - i)) with
  |none=>rfl
  |some p=>obtain ⟨k,r⟩:=p;refine aL (uE ha) λa1 a2 ζ=>?_;replace a1:=hlen▸a1;exact absurd ((mv l m j (i+k)).mpr ⟨xz hij a1,(hseg (i+k) (gy _ _) (xz hij a1)).mpr (by rw[zo];exact a2)⟩) (hn (i+k) (sK.mpr ⟨gy _ _,TX hij a1⟩))
 ·refine bf ((mv l m j a).mp ha) λb1 b2=>?_;refine bf (range'_split_from e) λc1 c2=>?_;have hl:∃r,(lI (eX i (j+1 - i)) ((#[]:Array Nat),i) (occBody (S l) (S m) j 1)).run.fst.toList=a::r:=by
   have h1:(lI (eX i (j+1 - i)) ((#[]:Array Nat),i) (occBody (S l) (S m) j 1)).run.fst.toList[0]?=some a:=by refine aa Array.getElem?_toList ?_;exact h0
   cases hq:(lI (eX i (j+1 - i)) ((#[]:Array Nat),i) (occBody (S l) (S m) j 1)).run.fst.toList with
   |nil=>replace h1:=hq▸h1;exact ab h1
   |cons b r=>replace h1:=hq▸h1;have h_:=ak h1;clear h1;subst h_;exact⟨r,rfl⟩
  refine ay hl λr hr=>?_;clear hl;refine aa hr ?_;simp only;have b3:=(hseg a c1 b1).mp b2;cases hf:after m ((l.drop i).take (j - i)) with
  |none=>exact absurd b3 (BA hf (a - i) (by refine aa hlen ?_;exact Km hij b1 c1))
  |some p=>obtain ⟨k,r'⟩:=p;refine eZ (uE hf) λa1 a2 ζ a4=>?_;replace a1:=hlen▸a1;have h5:¬ a - i<k:=λz=>a4 (a - i) z b3;have h6:¬ i+k<a:=λz=>hn (i+k) (c2 (i+k) (gy _ _) z) ((mv l m j (i+k)).mpr ⟨AH b1 z,(hseg (i+k) (gy _ _) (AH b1 z)).mpr (by rw[zo];exact a2)⟩);simp only;exact J4 c1 h5 h6
open PySem.StrLaws
noncomputable def dots:List Nat:=[46,46,46]
noncomputable def jn:List (List Nat)->List Nat
 |[]=>[]
 |[w]=>w
 |w::ws=>w++dots++jn ws
theorem qM:jn []=[]:=rfl
theorem qF {w}:jn [w]=w:=rfl
theorem qV {w v ws}:jn (w::v::ws)=w++dots++jn (v::ws):=rfl
theorem i9 (w v:List Nat) (ws:List (List Nat)):jn (w::v::ws)=w++dots++jn (v::ws):=rfl
theorem Gm (sep:List Nat):∀ws:List (List Nat),og (S sep) (ws.map S)=S (eM sep ws):=by
 intro ws;unfold og;rw[glued_eq_join]
 induction ws with
 |nil=>rfl
 |cons w r ih=>
  induction r using aF with
  |nil=>simp[FV,eM]
  |cons v r=>have e:FV (S sep) ((w::v::r).map S)=S w++S sep++FV (S sep) ((v::r).map S):=rfl;refine aa e (aa ih ?_);rw[wH,wH];congr 1;exact ga ..
theorem xK:∀ws:List (List Nat),jn ws=eM dots ws
 |[]=>rfl
 |[w]=>by simp[qM,qF,qV,eM]
 |w::v::r=>by (rewrite[i9];refine aa (xK (v::r)) ?_);exact ga ..
theorem tM (l:List Nat) (hi k:Nat) (hk:hi<=l.length):At (S l) (S dots) hi k->l[k]?=some 46:=λh=>by
 refine bf ((mv l dots hi k).mp h) λh1 h2=>?_;have h3:((l.drop k).take dots.length)[0]?=some 46:=by refine aa h2 ?_;rfl
 replace h3:=FW▸h3;simpa [dots] using h3
theorem tC (l:List Nat) (i j:Nat):sL (S l) i j=S ((l.drop i).take (j - i)):=by have:=strSub_toList (S l) i j;rw[ph] at this;refine aA (yh (sL (S l) i j)) ?_;exact congrArg S this
theorem AS (X:List Nat):∀(ws:List (List Nat)) (w:List Nat) (a f:Nat) (cuts:List Nat),(∀u∈w::ws,46∉u)->X.drop a=jn (w::ws)->a<=X.length->ChainG (S X) (S dots) X.length a cuts f->(∀k,f<=k->¬ At (S X) (S dots) X.length k)->partsFrom (S X) 3 a cuts=(w::ws).map S
 |[],w,a,f,cuts,hf,hd,ha,hc,hn=>by
  have hd:X.drop a=w:=hd;have hcut:cuts=[]:=by
   induction cuts using aF with
   |nil=>rfl
   |cons c r=>
    refine aL hc λc1 c2 ζ=>?_;clear hc;have h:=tM X _ c (aT _) c2;have:w[c - a]?=some 46:=by refine aA hd (aa sM ?_);rw[show a+(c - a)=c by exact mG (by assumption)];exact h
    exact absurd (mX this) (hf w (.head _))
  subst hcut;refine (?_:[sL (S X) a (S X).length]=[S w]);rewrite[tC,cc];refine aa hd ?_;have:X.length - a=w.length:=aA hd (aa eu rfl);rw[this,lF]
 |v::ws,w,a,f,cuts,hf,hd,ha,hc,hn=>by
  rw[i9] at hd;have hlen:X.length - a=w.length+(3+(jn (v::ws)).length):=by refine aA eu (aa hd ?_);simp[dots];exact Qe
  have hat:At (S X) (S dots) X.length (a+w.length):=by rw[mv];refine⟨by simp[dots];exact As ha hlen,?_⟩;rw[<- kN,hd,ga,zq,sN]
  have hno:∀k,a<=k->k<a+w.length->¬ At (S X) (S dots) X.length k:=λk k1 k2 h=>by
   have h:=tM X _ k (aT _) h;have h2:(X.drop a)[k - a]?=some 46:=by rw[sM,show a+(k - a)=k by exact mG (by assumption)];exact h
   rw[hd,ga,FX (CO k1 k2)] at h2;exact hf w (.head _) (mX h2)
  induction cuts using aF with
  |nil=>have e:f=a:=hc;exact absurd hat (hn _ (wC e))
  |cons c r=>
   refine eZ hc λc1 c2 c3 c4=>?_;clear hc;have ec:c=a+w.length:=by
    rcases WT c (a+w.length) with h|h|h
    ·exact absurd c2 (hno c c1 h)
    ·exact h
    ·exact absurd hat (c3 _ (gy _ _) h)
   subst ec;refine (?_:sL (S X) a (a+w.length)::partsFrom (S X) 3 (a+w.length+3) r=S w::(v::ws).map S);rw[tC,zo];have e1:(X.drop a).take w.length=w:=by (refine aa hd ?_;rewrite[ga];exact aa sN rfl)
   refine aa e1 ?_;congr 1;refine AS X ws v (a+w.length+3) f r (λu hu=>hf u (.tail _ hu)) ?_ (As ha hlen) c4 hn;rewrite[j2];refine aA kN (aa hd ?_);have:w++dots++jn (v::ws)=(w++dots)++jn (v::ws):=rfl;rw[FY (by exact cm ..)]
theorem Q6 (w v:List Nat) (ws:List (List Nat)):3<=(jn (w::v::ws)).length:=by rw[i9];simp[dots];exact Iw
theorem LC (w:List Nat) (ws:List (List Nat)) (hf:∀u∈w::ws,46∉u):Txt.split (S (jn (w::ws))) (S dots)=(w::ws).map S:=by
 refine ah (occ_tight (S (jn (w::ws))) (S dots) (by rw[cc];decide)) λf hc hn=>?_;rw[cc] at hc hn;have hp:=AS (jn (w::ws)) ws w 0 f _ hf rfl (iY _) hc hn;have hk:i0 (S dots)=1:=by unfold i0;rw[if_pos (by simp[S,dots])]
 unfold Txt.split;have hk2:¬ i0 (S (jn (w::ws)))<i0 (S dots):=by
  refine aa hk ?_;unfold i0;split
  ·decide
  ·split<;>decide
 induction ws using aF with
 |nil=>
  have hocc:gR (S (jn [w])) (S dots) 0 (S (jn [w])).length ((S (jn [w])).length+1)=[]:=by
   rw[cc];cases hq:gR (S (jn [w])) (S dots) 0 (jn [w]).length ((jn [w]).length+1) with
   |nil=>rfl
   |cons c r=>replace hc:=hq▸hc;refine aL hc λζ c2 ζ=>?_;clear hc;have h:=tM _ _ c (aT _) c2;exact absurd (mX (show w[c]?=some 46 from h)) (hf w (.head _))
  refine aa hocc ?_
  split
  ·rfl
  ·rfl
 |cons v ws=>
  have h3:=Q6 w v ws;have hne:¬ (S (jn (w::v::ws))).length<(S dots).length:=by rw[cc,cc];have:dots.length=3:=rfl;exact PX h3 this
  rw[if_neg (by simp only[FR,decide_eq_true_eq];exact λz=>z.elim hne hk2)];rw[cc];cases hq:gR (S (jn (w::v::ws))) (S dots) 0 (jn (w::v::ws)).length ((jn (w::v::ws)).length+1) with
  |nil=>replace hp:=hq▸hp;have:=congrArg eI hp;nomatch this
  |cons c r=>rw[if_neg (by simp),partsBetween_eq];replace hp:=hq▸hp;exact hp
theorem JO (w v:List Nat) (ws:List (List Nat)):iS (S (jn (w::v::ws))) (S dots)=true:=by rw[uY];refine⟨w.length,by rw[i9];simp,?_⟩;rewrite[i9,ga];exact aa zq (aa sN rfl)
theorem Gr {l:List Nat} (h:46∉l):iS (S l) (S dots)=false:=by
 cases e:iS (S l) (S dots) with
 |false=>rfl
 |true=>refine ah ((uY l dots).mp e) λi h1 h2=>?_;exact absurd (mX (tM l l.length i (aT _) ((mv l dots _ i).mpr ⟨h1,h2⟩))) h
section
variable {O:Orc} {n:Nat} {sc:Scope} {σ σ':Sg} {r:List aN} {o:Option Out}
theorem l6 {t:ac} {b e:List aN} {p:Pos} {c:Bool} (h:pT O n sc σ t=some c):px O (n+1) sc σ (.If t b e p)=if c=true then aO O n sc σ b else aO O n sc σ e:=by refine aa MW (aa h ?_);induction c using dF<;>rfl
theorem Qw {e:ac} {p:Pos} {d:PV} (h:pe O n sc σ e=some d):px O (n+1) sc σ (.Return (some e) p)=some (.rt d):=aa Tf (aa h rfl)
theorem nk {st:aN} {q:Out} (h:px O n sc σ st=some q) (hq:∀σ',q≠.nx σ'):aO O (n+1) sc σ (st::r)=some q:=by
 refine aa oz (aa h ?_);cases q with
 |nx σ'=>exact absurd rfl (hq σ')
 |bk σ'=>rfl
 |rt d=>rfl
theorem dD {t:ac} {b e:List aN} {p:Pos} (h:pT O n sc σ t=some false) (he:aO O n sc σ e=some (.nx σ')) (hr:aO O (n+1) sc σ' r=o):aO O (n+2) sc σ (.If t b e p::r)=o:=
 a8 (by refine aa (l6 h) ?_;exact he) hr
theorem iL {t:ac} {b e:List aN} {p:Pos} (h:pT O n sc σ t=some true) (he:aO O n sc σ b=some (.nx σ')) (hr:aO O (n+1) sc σ' r=o):aO O (n+2) sc σ (.If t b e p::r)=o:=
 a8 (by refine aa (l6 h) ?_;exact he) hr
theorem mq {t:ac} {b e:List aN} {p:Pos} {d:PV} (h:pT O n sc σ t=some true) (he:aO O n sc σ b=some (.rt d)):aO O (n+2) sc σ (.If t b e p::r)=some (.rt d):=
 nk (by refine aa (l6 h) ?_;exact he) λζ z=>nomatch z
theorem wM {t:ac} {b e:List aN} {p:Pos} {d:PV} (h:pT O n sc σ t=some false) (he:aO O n sc σ e=some (.rt d)):aO O (n+2) sc σ (.If t b e p::r)=some (.rt d):=
 nk (by refine aa (l6 h) ?_;exact he) λζ z=>nomatch z
theorem iP {e:ac} {p:Pos} {d:PV} (h:pe O n sc σ e=some d):aO O (n+2) sc σ (.Return (some e) p::r)=some (.rt d):=nk (Qw h) λζ z=>nomatch z
noncomputable def cw (O:Orc) (n:Nat) (sc:Scope) (t:ac) (b:List aN):Sg->PV->Option Out:=λσ d=>match bD false sc 4 σ t d with|some σ1=>aO O n sc σ1 b|none=>none
theorem rS {t it:ac} {b e:List aN} {p:Pos} {xs:List PV} (hi:cS O n sc σ (dm t) it=some xs) (hl:cj (cw O n sc t b) xs σ=some (.nx σ')) (he:aO O n sc σ' e=o):px O (n+1) sc σ (.For t it b e p)=o:=by refine aa pd (aa hi ?_);refine (?_:(match cj (cw O n sc t b) xs σ with|some (.nx σ')=>aO O n sc σ' e|some (.bk σ')=>some (.nx σ')|r=>r)=_);refine aa hl ?_;exact he
theorem NE {t it:ac} {b e:List aN} {p:Pos} {xs:List PV} {d:PV} (hi:cS O n sc σ (dm t) it=some xs) (hl:cj (cw O n sc t b) xs σ=some (.rt d)):px O (n+1) sc σ (.For t it b e p)=some (.rt d):=by refine aa pd (aa hi ?_);refine (?_:(match cj (cw O n sc t b) xs σ with|some (.nx σ')=>aO O n sc σ' e|some (.bk σ')=>some (.nx σ')|r=>r)=_);exact aa hl rfl
theorem Tz {t it:ac} {b e:List aN} {p:Pos} {xs:List PV} (hi:cS O n sc σ (dm t) it=some xs) (hl:cj (cw O n sc t b) xs σ=some (.bk σ')):px O (n+1) sc σ (.For t it b e p)=some (.nx σ'):=by refine aa pd (aa hi ?_);refine (?_:(match cj (cw O n sc t b) xs σ with|some (.nx σ')=>aO O n sc σ' e|some (.bk σ')=>some (.nx σ')|r=>r)=_);exact aa hl rfl
theorem xj {t it:ac} {b e:List aN} {p:Pos} (hi:cS O n sc σ (dm t) it=none) (hg:kj O n sc σ it=none):px O (n+1) sc σ (.For t it b e p)=none:=by exact aa pd (aa hi (aa hg rfl))
theorem DI {t it:ac} {b e:List aN} {p:Pos} {xs:List PV} (hi:cS O n sc σ (dm t) it=none) (hg:kj O n sc σ it=some xs) (hl:cj (cw O n sc t b) xs σ=some (.nx σ')) (he:aO O n sc σ' e=o):px O (n+1) sc σ (.For t it b e p)=o:=by refine aa pd (aa hi (aa hg ?_));refine (?_:(match cj (cw O n sc t b) xs σ with|some (.nx σ')=>aO O n sc σ' e|some (.bk σ')=>some (.nx σ')|r=>r)=_);refine aa hl ?_;exact he
theorem OZ {t it:ac} {b e:List aN} {p:Pos} {xs:List PV} {d:PV} (hi:cS O n sc σ (dm t) it=none) (hg:kj O n sc σ it=some xs) (hl:cj (cw O n sc t b) xs σ=some (.rt d)):px O (n+1) sc σ (.For t it b e p)=some (.rt d):=by refine aa pd (aa hi (aa hg ?_));refine (?_:(match cj (cw O n sc t b) xs σ with|some (.nx σ')=>aO O n sc σ' e|some (.bk σ')=>some (.nx σ')|r=>r)=_);exact aa hl rfl
theorem Bw {st:aN} (h0:px O n sc σ st=none) (h:px O n sc (unown1 σ (mj st)) st=some (.nx σ')) (hr:aO O n sc σ' r=o):aO O (n+1) sc σ (st::r)=o:=by refine aa oz (aa h0 (aa h ?_));exact hr
theorem SR {st:aN} {q:Out} (h0:px O n sc σ st=none) (h:px O n sc (unown1 σ (mj st)) st=some q) (hq:∀σ',q≠.nx σ'):aO O (n+1) sc σ (st::r)=some q:=by
 rw[oz,h0,h];cases q with
 |nx σ'=>exact absurd rfl (hq σ')
 |bk σ'=>rfl
 |rt d=>rfl
theorem oJ {x:Str} {xp p:Pos} {op:kE} {e:ac} {a b d:PV} (hx:bb sc x=true) (hv:br sc x=true) (h1:gx σ x=some a) (h2:pe O n sc σ e=some b) (h:lW op a b=some d):px O (n+1) sc σ (.AugAssign (.Name x xp) op e p)=some (.nx (put σ x (.sh d))):=by rw[SK,if_pos (by rw[hx,hv];rfl),h1,h2];refine (?_:(match lW op a b with|some d=>some (Out.nx (put σ x (.sh d)))|none=>none)=_);rw[h]
theorem rJ {x:Str} {xp apos pos p:Pos} {e:ac} {xs:List PV} {d:PV} (hv:br sc x=true) (hp:(apos.endLine==pos.line)=true) (h1:fM σ x=some xs) (h2:pe O n sc σ e=some d) (hl:aZ (xs.length+1)=true):px O (n+1) sc σ (.Expr (.Call (.Attribute (.Name x xp) (af "append") apos) [e] [] pos) p)=some (.nx (put σ x (.own (xs++[d])))):=by rw[C2,if_pos (by rw[hv,hp];rfl),h1,h2];simp only;rw[if_pos (show (af "append" ==af "append")=true by decide),if_pos hl]
theorem Na {x:Str} {xp apos pos p:Pos} {e:ac} {xs ys:List PV} (hv:br sc x=true) (hp:(apos.endLine==pos.line)=true) (h1:fM σ x=some xs) (h2:pe O n sc σ e=some (.list ys)) (hl:aZ (xs.length+ys.length)=true):px O (n+1) sc σ (.Expr (.Call (.Attribute (.Name x xp) (af "extend") apos) [e] [] pos) p)=some (.nx (put σ x (.own (xs++ys)))):=by rw[C2,if_pos (by rw[hv,hp];rfl),h1,h2];simp only;rw[if_neg (show ¬ (af "extend" ==af "append")=true by decide),if_pos (show (af "extend" ==af "extend")=true by decide),if_pos hl]
theorem BB {x:Str} {xp sp p:Pos} {i:ac} {xs:List PV} {k:Int} {j:Nat} (hv:br sc x=true) (h1:fM σ x=some xs) (h2:pe O n sc σ i=some (.int k)) (hj:iW k xs.length=some j) (hb: -1000<=k/\k<1000):px O (n+1) sc σ (.Delete [.Subscript (.Name x xp) i sp] p)=some (.nx (put σ x (.own (xs.eraseIdx j)))):=by refine aa SL (aa (if_pos hv) (aa h1 (aa h2 ?_)));simp only[hj];rw[if_pos (by simp[hb.1,hb.2])]
theorem Kw {t:ac} {m:Option ac} {p:Pos} (h:pT O n sc σ t=some true):px O (n+1) sc σ (.Assert t m p)=some (.nx σ):=aa OJ (aa h rfl)
theorem oS {x:Str} {xp p:Pos} {e:ac} {ent:Ent} (hx:bb sc x=true) (h:eU O n sc σ e=some ent):px O (n+1) sc σ (.Assign [.Name x xp] e p)=some (.nx (put σ x ent)):=by exact aa qO (aa (if_pos hx) (aa h rfl))
theorem Sd {e:ac} {xs:List PV} (hl:oK e=true:=by rfl) (h:pe O n sc σ e=some (.list xs)) (hs:kh e=true):eU O n sc σ e=some (.own xs):=by refine aa (qE hl) (aa h ?_);refine (?_:(if kh e=true then _ else _)=_);exact aa (if_pos hs) rfl
theorem pg {es:List ac} {p:Pos} {ds:List PV} (h:aX (pe O n sc σ) es=some ds) (hl:aZ ds.length=true):eU O n sc σ (.List es p)=some (.own ds):=by unfold eU;simp only[h,hl,if_true]
theorem ue {ts vs:List ac} {tn vn:Nat} {tp vp q:Pos} {xs:List Str} {ents:List Ent} (h1:aX fu ts=some xs) (hc:(xs.all (bb sc)&&jN xs&&xs.length==vs.length&&(!(vs.all (mR 8))||vs.all (mS 8))&&ve vs.length 1000)=true) (h2:aX (eU O n sc σ) vs=some ents):px O (n+1) sc σ (.Assign [.Tuple ts tn tp] (.Tuple vs vn vp) q)=some (.nx (bI σ (xs.zip ents))):=by refine aa Sb (aa h1 ?_);show (if _ then _ else _)=_;exact aa (if_pos hc) (aa h2 rfl)
theorem uF {f:ac->Option Ent}:aX f []=some []:=rfl
theorem nh {e:ac} {d:PV} (hl:oK e=true:=by rfl) (h:pe O n sc σ e=some d) (hs:∀xs,d=.list xs->kh e=false):eU O n sc σ e=some (.sh d):=by
 refine aa (qE hl) (aa h ?_)
 induction d using PV.casesOn with
 |list xs=>rw[show kh e=false from hs xs rfl];rfl
 |_=>rfl
theorem lZ {o:ac} {name:Str} {apos pos:Pos} {args:List ac} {r d:PV} {ds:List PV} (ho:oW o=true:=by rfl) (h0:jM o=false) (hp:(apos.endLine==pos.line)=true) (hl:si args.length 30=true) (h1:pe O n sc σ o=some r) (h2:aX (pa O n sc σ) args=some ds) (h:dw (args.any (cz σ)) (bM r name ds)=some d):
  pe O (n+1) sc σ (.Call (.Attribute o name apos) args [] pos)=some d:=by
 rw[x5 ho,if_pos (by rw[hp,hl,h0];rfl),h1,h2];exact h
theorem cM:jh O (n+1) sc σ none=some none:=rfl
theorem dO {e:ac} {i:Int} (h:pe O n sc σ e=some (.int i)) (hb: -2^62<i/\i<2^62):jh O (n+1) sc σ (some e)=some (some i):=by refine (?_:(match pe O n sc σ e with|some d=>uk (some d)|none=>none)=_);refine aa h ?_;exact if_pos (od.mpr ⟨decide_eq_true hb.1,decide_eq_true hb.2⟩)
theorem eR {v:ac} {lo hi st:Option ac} {q p:Pos} {a d:PV} {l h s:Option Int} (h1:pe O n sc σ v=some a) (h2:jh O n sc σ lo=some l) (h3:jh O n sc σ hi=some h) (h4:jh O n sc σ st=some s) (hd:eG a l h s=some d):pe O (n+1) sc σ (.Subscript v (.Slice lo hi st q) p)=some d:=by rw[C9,h1,h2,h3,h4];exact hd
theorem yj {f:Str} {fp p:Pos} {a:ac} {d:PV} {xs:List PV} (hf:bS sc f=true) (h1:pe O n sc σ a=some d) (h:O.gen f [d]=some xs):kj O n sc σ (.Call (.Name f fp) [a] [] p)=some xs:=by refine (?_:(if bS sc f=true then (match pe O n sc σ a with|some d=>O.gen f [d]|none=>none) else none)=some xs);exact aa (if_pos hf) (aa h1 h)
theorem Jf {x:Str} {xp apos pos:Pos} {args:List ac} {d:PV} {ds:List PV} (hx:br sc x=false) (hg:bS sc x=true) (hp:(apos.endLine==pos.line)=true) (hl:si args.length 30=true) (h2:aX (pa O n sc σ) args=some ds) (h:O.dget x ds=some d) (hd:d.flat=true):pe O (n+1) sc σ (.Call (.Attribute (.Name x xp) (af "get") apos) args [] pos)=some d:=by rw[uR,if_pos (by rw[hp,hl];rfl),if_neg (by rw[hx];decide),if_pos (by rw[hg];rfl),h2];refine (?_:dw true _=_);refine aa h ?_;exact x6 hd
theorem LP {p:Pos} {r:List aN}:aO O (n+2) sc σ (.Break p::r)=some (.bk σ):=nk rfl λζ z=>nomatch z
theorem gr {step:Sg->PV->Option Out} {d:PV} {ds:List PV} (h:step σ d=some (.nx σ')) (hr:cj step ds σ'=o):cj step (d::ds) σ=o:=by refine aa u7 ?_;refine aa h ?_;exact hr
theorem yd {step:Sg->PV->Option Out} {d:PV} {ds:List PV} {q:Out} (h:step σ d=some q) (hq:∀σ',q≠.nx σ'):cj step (d::ds) σ=some q:=by
 refine aa u7 ?_;refine aa h ?_;cases q with
 |nx σ'=>exact absurd rfl (hq σ')
 |bk σ'=>rfl
 |rt d=>rfl
end
noncomputable def bq (b:List aN) (i:Nat):ac×List aN:=match b[i]? with
 |some (.For t _ bd _ _)=>(t,bd)
 |_=>(.Constant .none 0 ⟨0,0,0,0⟩,[])
noncomputable def ii:List (List Nat)->List Nat->Bool
 |[],_=>true
 |w::r,u=>match after w u with
  |some (_,u')=>ii r u'
  |none=>false
theorem Xm {u}:ii [] u=true:=rfl
theorem py {w r u}:ii (w::r) u=(match after w u with|some (_,v)=>ii r v|none=>false):=rfl
noncomputable abbrev nY:Str:=af "want"
noncomputable abbrev fT:Str:=af "got"
noncomputable abbrev dj:Str:=af "ws"
noncomputable abbrev fh:Str:=af "startpos"
noncomputable abbrev fV:Str:=af "endpos"
noncomputable abbrev nW:Str:=af "w"
noncomputable def eV:Scope:=(bH cZ).scope
noncomputable def iJ:List aN:=(bH cZ).body
section
variable {O:Orc} {n:Nat} {sc:Scope} {σ σ':Sg}
noncomputable def Aq (i:Nat):Option (Nat×List Nat)->Int
 |some p=>((i+p.1:Nat):Int)
 |none=> -1
theorem MH {l m:List Nat} {i j:Nat} (hij:i<=j) (hj:j<=l.length):bM (.str (S l)) (af "find") [.str (S m),.int i,.int j]=some (.int (Aq i (after m ((l.drop i).take (j - i))))):=by
 have e:Aq i (after m ((l.drop i).take (j - i)))=qK (S l) (S m) i j:=by refine aa (NF l m hij hj) ?_;cases after m ((l.drop i).take (j - i))<;>rfl
 refine aa e ?_;unfold bM;simp only;rw[if_pos];rw[cc];simp only[bn,decide_eq_true_eq];refine⟨⟨⟨⟨by decide,c8 _⟩,PE hij hj⟩,c8 _⟩,ij.mpr (by assumption)⟩
theorem Kx (T:List Nat):∀(P:List (List Nat)) (s e:Nat) (σ:Sg),s<=e->e<=T.length->σ.lookup fT=some (.sh (.str (S T)))->σ.lookup fh=some (.sh (.int s))->σ.lookup fV=some (.sh (.int e))->∃σ',cj (cw O 49 eV (bq iJ 9).1 (bq iJ 9).2) (P.map λw=>.str (S w)) σ=if ii P ((T.drop s).take (e - s))=true then some (.nx σ') else some (.rt (.bool false)):=by
 intro P
 induction P with
 |nil=>intro s e σ _ _ _ _ _;exact⟨σ,rfl⟩
 |cons w P ih=>
  intro s e σ hs he h1 h2 h3;have hstep:cw O 49 eV (bq iJ 9).1 (bq iJ 9).2 σ (.str (S w))=aO O 49 eV (put σ nW (.sh (.str (S w)))) (bq iJ 9).2:=rfl;have g1:(put σ nW (.sh (.str (S w)))).lookup fT=some (.sh (.str (S T))):=by refine aw (by decide) ?_;exact h1
  have g2:(put σ nW (.sh (.str (S w)))).lookup fh=some (.sh (.int s)):=by refine aw (by decide) ?_;exact h2
  have g3:(put σ nW (.sh (.str (S w)))).lookup fV=some (.sh (.int e)):=by refine aw (by decide) ?_;exact h3
  have g4:(put σ nW (.sh (.str (S w)))).lookup nW=some (.sh (.str (S w))):=aS;revert hstep;revert g1;revert g2;revert g3;revert g4;refine bB (put σ nW (.sh (.str (S w)))) λσ1=>?_;intro g4 g3 g2 g1 hstep;have no1:∀q,cz σ1 (.Name fT q)=false:=λq=>dh g1;have no2:∀q,cz σ1 (.Name nW q)=false:=λq=>dh g4;have no3:∀q,cz σ1 (.Name fh q)=false:=λq=>dh g2;have no4:∀q,cz σ1 (.Name fV q)=false:=λq=>dh g3;have hfind:=MH (l:=T) (m:=w) hs he;refine aa py ?_;cases ha:after w ((T.drop s).take (e - s)) with
  |none=>
   replace hfind:=ha▸hfind;refine⟨σ,?_⟩;simp only[dp,if_false];refine yd (q:=.rt (.bool false)) ?_ (λζ z=>nomatch z);refine aa hstep ?_
   refine a8 (cq (d:=.int (-1)) (by decide) (h:=kc (by decide) rfl rfl (aH g1) (aG (aD (by decide) (aH g4)) (aG (aD (by decide) (aH g2)) (aG (aD (by decide) (aH g3)) a7))) (by
    simp only[j6,vV,no1,no2,no3,no4,FZ,dw];exact hfind)) (hs:=λxs z=>nomatch z)) ?_
   exact mq (bA (d:=.bool true) (h:=az (h:=bu (aD (by decide) (aH (aS))) (az (h:=aW)) rfl)) (ht:=rfl)) (iP jk)
  |some p=>
   obtain ⟨k,u'⟩:=p;replace hfind:=ha▸hfind;simp only;refine eZ (uE ha) λa1 a2 a3 a4=>?_;have hlen:((T.drop s).take (e - s)).length=e - s:=by refine aa fJ (aa eu ?_);exact z0 hs he
   replace a1:=hlen▸a1;have hu:u'=(T.drop (s+k+w.length)).take (e - (s+k+w.length)):=by refine aa a3 (aa WS (aa kN ?_));have e1:s+(k+w.length)=s+k+w.length:=(j2 _ _ _).symm;have e2:e - s - (k+w.length)=e - (s+k+w.length):=HE;exact aa e1 (aa e2 rfl)
   have f1:(put (put σ1 fh (.sh (.int ((s+k:Nat):Int)))) fh (.sh (.int ((s+k:Nat)+w.length:Nat)))).lookup fT=some (.sh (.str (S T))):=by refine aw (by decide) ?_;refine aw (by decide) ?_;exact g1
   have f3:(put (put σ1 fh (.sh (.int ((s+k:Nat):Int)))) fh (.sh (.int ((s+k:Nat)+w.length:Nat)))).lookup fV=some (.sh (.int e)):=by refine aw (by decide) ?_;refine aw (by decide) ?_;exact g3
   refine ay (ih (s+k+w.length) e (put (put σ1 fh (.sh (.int ((s+k:Nat):Int)))) fh (.sh (.int ((s+k:Nat)+w.length:Nat)))) (xz hs a1) he f1 (aS) f3) λσ' hσ'=>?_;refine⟨σ',?_⟩;refine aa hu (aA hσ' ?_);refine gr ?_ rfl;refine aa hstep ?_
   refine a8 (cq (d:=.int ((s+k:Nat):Int)) (by decide) (h:=kc (by decide) rfl rfl (aH g1) (aG (aD (by decide) (aH g4)) (aG (aD (by decide) (aH g2)) (aG (aD (by decide) (aH g3)) a7))) (by
    simp only[j6,vV,no1,no2,no3,no4,FZ,dw];exact hfind)) (hs:=λxs z=>nomatch z)) ?_
   refine dD (bA (d:=.bool false) (h:=az (h:=bu (aD (by decide) (aH (aS))) (az (h:=aW)) ?_)) (ht:=rfl)) bh ?_
   ·show some (decide (((s+k:Nat):Int)<0))=some false;rw[decide_eq_false (fX.mpr (c8 _))]
   refine a8 (oJ (d:=.int ((s+k:Nat)+w.length:Nat)) (by decide) (by decide) (m7 (aS)) (jC (by decide) (aD (by decide) (aH (by refine aw (by decide) ?_;exact g4))) (show bX O (af "len") [.str (S w)]=some (.int ((S w).length:Nat)) from rfl) rfl) ?_) bh;rw[cc];rfl
noncomputable def bj (P:List (List Nat)):List PV:=P.map λw=>.str (S w)
theorem nH {x:Str} {xs:List PV} (h:σ.lookup x=some (.own xs)):fM σ x=some xs:=by unfold fM;exact aa h rfl
theorem nG {x:Str} {xs:List PV} (h:σ.lookup x=some (.own xs)):fW σ x=some (.list xs):=by unfold fW;exact aa h rfl
theorem HK {w:List Nat} {P:List (List Nat)}:fL (.list (bj (w::P))) (.int 0)=some (.str (S w)):=by unfold fL bj;have:iW 0 ((w::P).map λw=>PV.str (S w)).length=some 0:=F0 (WU _) (by first|(simp;done)|(simp;omega));simp only[this];rfl
theorem CI {P:List (List Nat)} (h:P≠[]):fL (.list (bj P)) (.int (-1))=some (.str (S (P.getLast h))):=by
 have hp:0<P.length:=zl.mpr h;unfold fL bj;have:iW (-1) (P.map λw=>PV.str (S w)).length=some (P.length - 1):=by
  have h2:=WV (i:= -1) (n:=(P.map λw=>PV.str (S w)).length) (by decide) (by first|(simp;done)|(simp;exact Ea hp));refine aa h2 ?_;congr 1;first|(simp;done)|(simp;exact Di hp)
 simp only[this];show ((P.map λw=>PV.str (S w))[P.length - 1]?)=_;rw[eJ,List.getLast_eq_getElem,gQ (Mi hp)];rfl
noncomputable def oO (T l:List Nat):Option Nat:=if l=[] then some T.length else if l.isSuffixOf T=true then some (T.length - l.length) else none
noncomputable def jd (T:List Nat) (s:Nat) (P:List (List Nat)) (l:List Nat):Bool:=match oO T l with
 |none=>false
 |some e=>if e<s then false else ii (if l=[] then P else P.dropLast) ((T.drop s).take (e - s))
theorem pF {l:List Nat}:eO (.str (S l))=some (decide (l≠[])):=by
 show some ((S l).length != 0)=_;rw[cc]
 induction l using aF<;>rfl
theorem Af {T:List Nat} {s e:Nat} {P:List (List Nat)} (he:e<=T.length) (h1:σ.lookup fT=some (.sh (.str (S T)))) (h2:σ.lookup fh=some (.sh (.int s))) (h3:σ.lookup fV=some (.sh (.int e))) (h4:σ.lookup dj=some (.own (bj P))):aO O 52 eV σ (iJ.drop 8)=some (.rt (.bool (if e<s then false else ii P ((T.drop s).take (e - s))))):=by
 have hc:pT O 50 eV σ (.Compare (.Name fh ⟨0,0,0,0⟩) [.Gt] [.Name fV ⟨0,0,0,0⟩] ⟨0,0,0,0⟩)=some (decide ((s:Int)>(e:Int))):=
  bA (d:=.bool (decide ((s:Int)>(e:Int)))) (h:=az (h:=bu (aD (by decide) (aH h2)) (aD (by decide) (aH h3)) rfl)) (ht:=rfl)
 by_cases hlt:e<s
 ·refine aa (if_pos hlt) ?_;refine mq (bA (d:=.bool true) (h:=az (h:=bu (aD (by decide) (aH h2)) (aD (by decide) (aH h3)) ?_)) (ht:=rfl)) (iP jk);show some (decide ((s:Int)>(e:Int)))=some true;rw[decide_eq_true (vP.mpr (by assumption))]
 ·refine aa (if_neg hlt) ?_;refine dD (bA (d:=.bool false) (h:=az (h:=bu (aD (by decide) (aH h2)) (aD (by decide) (aH h3)) ?_)) (ht:=rfl)) bh ?_
  ·show some (decide ((s:Int)>(e:Int)))=some false;rw[decide_eq_false (GO hlt)]
  have hu:unown1 σ dj=put σ dj (.sh (.list (bj P))):=by unfold unown1;exact aa h4 rfl
  have g1:(put σ dj (.sh (.list (bj P)))).lookup fT=some (.sh (.str (S T))):=by refine aw (by decide) ?_;exact h1
  have g2:(put σ dj (.sh (.list (bj P)))).lookup fh=some (.sh (.int s)):=by refine aw (by decide) ?_;exact h2
  have g3:(put σ dj (.sh (.list (bj P)))).lookup fV=some (.sh (.int e)):=by refine aw (by decide) ?_;exact h3
  refine ay (Kx (O:=O) T P s e (put σ dj (.sh (.list (bj P)))) (pO (by assumption)) he g1 g2 g3) λσ' hσ'=>?_;have hno:gx σ dj=none:=by unfold gx;exact aa h4 rfl
  have hpe:∀q,pe O 48 eV σ (.Name dj q)=none:=λq=>by refine aa rg ?_;rw[if_pos (show br eV dj=true by decide)];exact hno
  have hpi:∀q tt,cS O 49 eV σ tt (.Name dj q)=none:=λq tt=>by refine aa (o0 rfl) ?_;rw[hpe]
  have hps:∀q,cS O 49 eV (put σ dj (.sh (.list (bj P)))) (dm (bq iJ 9).1) (.Name dj q)=some (bj P):=λq=>by have:pe O 48 eV (put σ dj (.sh (.list (bj P)))) (.Name dj q)=some (.list (bj P)):=aC (by decide) (aS);refine aa (o0 rfl) (aa this ?_);rfl
  cases hl:ii P ((T.drop s).take (e - s)) with
  |true=>rw[hl,if_pos rfl] at hσ';refine Bw (σ':=σ') (xj (hpi _ _) rfl) ?_ (iP jk);show px O 50 eV (unown1 σ dj) _=_;refine aa hu ?_;exact rS (hps _) hσ' bh
  |false=>rw[hl,if_neg (by decide)] at hσ';refine SR (q:=.rt (.bool false)) (xj (hpi _ _) rfl) ?_ (λζ z=>nomatch z);show px O 50 eV (unown1 σ dj) _=_;refine aa hu ?_;exact NE (hps _) hσ'
theorem Q2 {P:List (List Nat)} (h:P≠[]):(bj P).eraseIdx (P.length - 1)=bj P.dropLast:=by
 unfold bj;refine aa List.map_dropLast ?_;have key:∀(l:List PV),l≠[]->l.eraseIdx (l.length - 1)=l.dropLast:=by
  intro l
  induction l with
  |nil=>intro h;exact absurd rfl h
  |cons a r ih=>
   intro _
   induction r using aF with
   |nil=>rfl
   |cons b r=>show (a::b::r).eraseIdx (r.length+1)=a::(b::r).dropLast;refine aa List.eraseIdx_cons_succ ?_;congr 1;exact ih (sO _ _)
 have:=key (P.map λw=>PV.str (S w)) (by simpa using h);exact (ca ..)▸this
theorem z7 {T:List Nat} {s:Nat} {P:List (List Nat)} (hP:P≠[]) (h1:σ.lookup fT=some (.sh (.str (S T)))) (h2:σ.lookup fh=some (.sh (.int s))) (h3:σ.lookup fV=some (.sh (.int (T.length:Nat)))) (h4:σ.lookup dj=some (.own (bj P))):aO O 54 eV σ (iJ.drop 6)=some (.rt (.bool (jd T s P (P.getLast hP)))):=by
 have hcut:pe O 52 eV σ (.Subscript (.Name dj ⟨0,0,0,0⟩) (.UnaryOp .USub (.Constant (.int 1) 0 ⟨0,0,0,0⟩) ⟨0,0,0,0⟩) ⟨0,0,0,0⟩)=some (.str (S (P.getLast hP))):=
  rQ (h1:=aD (by decide) (nG h4)) (h2:=pA aW) (h:=CI hP) (hd:=rfl)
 refine a8 (cq (d:=.str (S (P.getLast hP))) (by decide) (h:=rQ (h1:=aD (by decide) (nG h4)) (h2:=pA aW) (h:=CI hP) (hd:=rfl)) (hs:=λxs z=>nomatch z)) ?_;have g1:(put σ nW (.sh (.str (S (P.getLast hP))))).lookup fT=some (.sh (.str (S T))):=by refine aw (by decide) ?_;exact h1
 have g2:(put σ nW (.sh (.str (S (P.getLast hP))))).lookup fh=some (.sh (.int s)):=by refine aw (by decide) ?_;exact h2
 have g3:(put σ nW (.sh (.str (S (P.getLast hP))))).lookup fV=some (.sh (.int (T.length:Nat))):=by refine aw (by decide) ?_;exact h3
 have g4:(put σ nW (.sh (.str (S (P.getLast hP))))).lookup dj=some (.own (bj P)):=by refine aw (by decide) ?_;exact h4
 have g5:(put σ nW (.sh (.str (S (P.getLast hP))))).lookup nW=some (.sh (.str (S (P.getLast hP)))):=aS;revert g1;revert g2;revert g3;revert g4;revert g5;refine bB (P.getLast hP) λl=>?_;intro g5 g4 g3 g2 g1;revert g1;revert g2;revert g3;revert g4;revert g5;refine bB (put σ nW (.sh (.str (S l)))) λσ1=>?_;intro g5 g4 g3 g2 g1;unfold jd oO
 by_cases hl:l=[]
 ·refine aa (if_pos hl) (aa (if_pos hl) ?_);refine dD (by rw[jG (by decide) g5,pF];simp[hl]) bh ?_;exact Af (aT _) g1 g2 g3 g4
 ·refine aa (if_neg hl) ?_;have no1:∀q,cz σ1 (.Name fT q)=false:=λq=>dh g1;have no2:∀q,cz σ1 (.Name nW q)=false:=λq=>dh g5;have hends:∀{c:Bool},l.isSuffixOf T=c->dw (cz σ1 (.Name fT ⟨0,0,0,0⟩)||[Wf nW ⟨0,0,0,0⟩].any (cz σ1)) (bM (.str (S T)) (af "endswith") [.str (S l)])=some (.bool c):=λ{c} hc=>by simp only[j6,vV,no1,no2,FZ,dw];show some (PV.bool (yD (S T) (S l)))=_;rewrite[GY];exact aa hc rfl
  cases hc:l.isSuffixOf T with
  |false=>rw[if_neg (by decide)];refine mq (by rw[jG (by decide) g5,pF];simp[hl]) ?_;exact wM (bA (d:=.bool false) (h:=az (h:=kc (by decide) rfl rfl (aH g1) (aG (aD (by decide) (aH g5)) a7) (hends hc))) (ht:=rfl)) (iP jk)
  |true=>
   refine aa (if_pos rfl) (aa (if_neg hl) ?_);have hle:=(zn.mp hc).length_le;refine iL (σ':=put (put σ1 fV (.sh (.int ((T.length - l.length:Nat):Int)))) dj (.own (bj P.dropLast))) (by rw[jG (by decide) g5,pF];simp[hl]) ?_ ?_
   ·refine iL (bA (d:=.bool true) (h:=az (h:=kc (by decide) rfl rfl (aH g1) (aG (aD (by decide) (aH g5)) a7) (hends hc))) (ht:=rfl)) (σ':=put (put σ1 fV (.sh (.int ((T.length - l.length:Nat):Int)))) dj (.own (bj P.dropLast))) ?_ bh;refine a8 (oJ (d:=.int ((T.length - l.length:Nat):Int)) (by decide) (by decide) (m7 g3) (jC (by decide) (aD (by decide) (aH g5)) (show bX O (af "len") [.str (S l)]=some (.int ((S l).length:Nat)) from rfl) rfl) ?_) ?_
    ·rw[cc];show some (PV.int ((T.length:Int) - (l.length:Int)))=_;congr 2;omega
    ·refine a8 (?_:px O _ eV _ _=some (.nx (put (put σ1 fV (.sh (.int ((T.length - l.length:Nat):Int)))) dj (.own (bj P.dropLast))))) bh;refine aA (Q2 hP) ?_;refine BB (k:= -1) (by decide) (nH (by refine aw (by decide) ?_;exact g4)) (pA aW) ?_ (by decide);have h2:=WV (i:= -1) (n:=(bj P).length) (by decide) (by have:=zl.mpr hP;simp[bj];exact Ea this);refine aa h2 ?_;congr 1;have:=zl.mpr hP;simp[bj];exact Di this
   ·exact Af (iU _ _) (by refine aw (by decide) ?_;refine aw (by decide) ?_;exact g1) (by refine aw (by decide) ?_;refine aw (by decide) ?_;exact g2) (by refine aw (by decide) ?_;exact aS) (aS)
noncomputable def lV (P:List (List Nat)) (T:List Nat):Bool:=match P with
 |[]=>false
 |w::rest=>if w=[] then jd T 0 (w::rest) ((w::rest).getLastD []) else if w.isPrefixOf T=true then jd T w.length rest (rest.getLastD []) else false
theorem wI {P:List (List Nat)} (h:P≠[]):P.getLastD []=P.getLast h:=by
 have key:∀(r:List (List Nat)) (a d:List Nat),(a::r).getLastD d=(a::r).getLast (sO _ _):=by
  intro r
  induction r with
  |nil=>intro a d;rfl
  |cons b r ih=>intro a d;exact (ih b a).trans (by rfl)
 induction P using aF with
 |nil=>exact absurd rfl h
 |cons a r=>exact key r a []
set_option backward.match.sparseCases true in
theorem J5 {x:Str} {P:List (List Nat)} (h:Txt.split x (S dots)=P.map S) (hl:aZ (x.length+2)=true):bM (.str x) (af "split") [.str (S dots)]=some (.list (bj P)):=by
 unfold bM;simp only;rw[if_pos (show (af "split" ==af "split")=true by decide),if_pos,h]
 ·unfold bj;refine aa eK ?_;rfl
 ·refine aa hl ?_;rfl
theorem N7 {w v:List Nat} {ws:List (List Nat)} {T:List Nat} (hgc:O.gc mw=some (.str (S dots))) (hf:∀u∈w::v::ws,46∉u) (hl:aZ ((jn (w::v::ws)).length+2)=true):aO O 60 eV [(nY,.sh (.str (S (jn (w::v::ws))))),(fT,.sh (.str (S T)))] iJ=some (.rt (.bool (lV (w::v::ws) T))):=by
 have hcon:=JO w v ws;have hsp:=LC w (v::ws) hf;revert hcon;revert hsp;revert hl;refine bB (jn (w::v::ws)) λX=>?_;intro hl hsp hcon;have hP:w::v::ws≠[]:=sO _ _;refine dD (bA (d:=.bool false) (h:=az (h:=bu (xU (by decide) (by decide) hgc) (aD (by decide) rfl) ?_)) (ht:=rfl)) bh ?_
 ·show some (!iS (S X) (S dots))=some false;refine aa hcon ?_;rfl
 refine a8 (oS (ent:=.own (bj (w::v::ws))) (by decide) (Sd (xs:=bj (w::v::ws)) (h:=kc (r:=.str (S X)) (ds:=[.str (S dots)]) (by decide) rfl rfl rfl (aG (xU (by decide) (by decide) hgc) a7) (J5 hsp (by rw[cc];exact hl))) (hs:=rfl))) ?_;show aO O 58 eV [(nY,.sh (.str (S X))),(fT,.sh (.str (S T))),(dj,.own (bj (w::v::ws)))] (iJ.drop 2)=_;refine a8 (Kw (bA (d:=.bool true) (h:=az (h:=bu (az (h:=jC (a:=.list (bj (w::v::ws))) (by decide) (aD (by decide) rfl) uw rfl)) (az (h:=aW)) ?_)) (ht:=rfl))) ?_
 ·show some (decide ((((bj (w::v::ws)).length:Nat):Int)>=2))=some true;rw[decide_eq_true];simp[bj];exact H5
 refine a8 (ue (xs:=[fh,fV]) (ents:=[.sh (.int 0),.sh (.int (T.length:Nat))]) rfl rfl (aG (nh (h:=aW) (hs:=λxs z=>nomatch z)) (aG (nh (h:=jC (a:=.str (S T)) (by decide) (aD (by decide) rfl) (show bX O (af "len") [.str (S T)]=some (.int (T.length:Nat)) by rw[<- cc];rfl) rfl) (hs:=λxs z=>nomatch z)) uF))) ?_;show aO O 56 eV [(nY,.sh (.str (S X))),(fT,.sh (.str (S T))),(dj,.own (bj (w::v::ws))),(fh,.sh (.int 0)),(fV,.sh (.int (T.length:Nat)))] (iJ.drop 4)=_;refine a8 (cq (d:=.str (S w)) (by decide) (h:=rQ (a:=.list (bj (w::v::ws))) (h1:=aD (by decide) rfl) (h2:=aW) (h:=HK) (hd:=rfl)) (hs:=λxs z=>nomatch z)) ?_;show aO O 55 eV [(nY,.sh (.str (S X))),(fT,.sh (.str (S T))),(dj,.own (bj (w::v::ws))),(fh,.sh (.int 0)),(fV,.sh (.int (T.length:Nat))),(nW,.sh (.str (S w)))] (iJ.drop 5)=_;unfold lV;simp only
 by_cases hw:w=[]
 ·refine aa (if_pos hw) ?_;refine dD (by rw[jG (d:=.str (S w)) (by decide) rfl,pF];simp[hw]) bh ?_;refine aa (wI hP) ?_;exact z7 (s:=0) hP rfl rfl rfl rfl
 ·refine aa (if_neg hw) ?_;have hst:∀{c:Bool},w.isPrefixOf T=c->bM (.str (S T)) (af "startswith") [.str (S w)]=some (.bool c):=λ{c} hc=>by show some (PV.bool (yC (S T) (S w)))=_;rewrite[OM];exact aa hc rfl
  cases hc:w.isPrefixOf T with
  |false=>rw[if_neg (by decide)];refine mq (by rw[jG (d:=.str (S w)) (by decide) rfl,pF];simp[hw]) ?_;exact wM (bA (d:=.bool false) (h:=az (h:=kc (r:=.str (S T)) (ds:=[.str (S w)]) (by decide) rfl rfl rfl (aG (aD (by decide) rfl) a7) (hst hc))) (ht:=rfl)) (iP jk)
  |true=>
   refine aa (if_pos rfl) ?_;have hP2:v::ws≠[]:=sO _ _;refine iL (σ':=[(nY,.sh (.str (S X))),(fT,.sh (.str (S T))),(dj,.own (bj (v::ws))),(fh,.sh (.int (w.length:Nat))),(fV,.sh (.int (T.length:Nat))),(nW,.sh (.str (S w)))]) (by rw[jG (d:=.str (S w)) (by decide) rfl,pF];simp[hw]) ?_ ?_
   ·refine iL (σ':=[(nY,.sh (.str (S X))),(fT,.sh (.str (S T))),(dj,.own (bj (v::ws))),(fh,.sh (.int (w.length:Nat))),(fV,.sh (.int (T.length:Nat))),(nW,.sh (.str (S w)))]) (bA (d:=.bool true) (h:=az (h:=kc (r:=.str (S T)) (ds:=[.str (S w)]) (by decide) rfl rfl rfl (aG (aD (by decide) rfl) a7) (hst hc))) (ht:=rfl)) ?_ bh;refine a8 (cq (d:=.int (w.length:Nat)) (by decide) (h:=jC (a:=.str (S w)) (by decide) (aD (by decide) rfl) (show bX O (af "len") [.str (S w)]=some (.int (w.length:Nat)) by rw[<- cc];rfl) rfl) (hs:=λxs z=>nomatch z)) ?_;refine a8 (BB (xs:=bj (w::v::ws)) (k:=0) (j:=0) (by decide) rfl aW ?_ (by decide)) bh;exact F0 (WU _) (by simp[bj];exact GV)
   ·refine aa (wI hP2) ?_;exact z7 (s:=w.length) hP2 rfl rfl rfl rfl
theorem HM {x t:List Nat} (hgc:O.gc mw=some (.str (S dots))) (hf:46∉x):aO O 60 eV [(nY,.sh (.str (S x))),(fT,.sh (.str (S t)))] iJ=some (.rt (.bool (x==t))):=by
 refine mq (bA (d:=.bool true) (h:=az (h:=bu (xU (by decide) (by decide) hgc) (aD (by decide) rfl) ?_)) (ht:=rfl)) ?_
 ·show some (!iS (S x) (S dots))=some true;refine aa (Gr hf) ?_;rfl
 ·refine iP (bu (aD (by decide) rfl) (aD (by decide) rfl) ?_);show some (S x==S t)=_;rw[ll]
theorem tJ {w v:List Nat} {ws:List (List Nat)} {T:List Nat} (hf:∀u∈w::v::ws,46∉u) (hl:aZ ((jn (w::v::ws)).length+2)=true):bZ pw O0 cZ [.str (S (jn (w::v::ws))),.str (S T)]=some (.bool (lV (w::v::ws) T)):=by refine nC (d:=bH cZ) rfl rfl ?_;have:=N7 (O:=O0) (T:=T) (by rfl) hf hl;exact this
theorem Bd {x t:List Nat} (hf:46∉x):bZ pw O0 cZ [.str (S x),.str (S t)]=some (.bool (x==t)):=by refine nC (d:=bH cZ) rfl rfl ?_;have:=HM (O:=O0) (t:=t) (by rfl) hf;exact this
end
inductive It0 where
 |ch (c:Nat)
 |es (c:Nat)
 deriving DecidableEq
noncomputable def It0.txt:It0->List Nat
 |.ch c=>[c]
 |.es c=>[92,c]
noncomputable def It0.ok:It0->Bool
 |.ch c=>c != 92
 |.es _=>true
noncomputable def aY (l:List It0):List Nat:=l.flatMap It0.txt
noncomputable def tok:Nat->List It0->List PV
 |_,[]=>[]
 |i,.ch c::r=>.tup [.int i,.str (S [c])]::tok (i+1) r
 |i,.es c::r=>.tup [.int ((i+1:Nat):Int),.str (S [92,c])]::tok (i+2) r
theorem A4 (t:It0) (l:List It0):aY (t::l)=t.txt++aY l:=rfl
theorem kY (a b:List It0):aY (a++b)=aY a++aY b:=by unfold aY;exact aa F6 rfl
theorem rA:∀(a b:List It0) (i:Nat),tok i (a++b)=tok i a++tok (i+(aY a).length) b
 |[],b,i=>rfl
 |.ch c::a,b,i=>by refine (?_:_::tok (i+1) (a++b)=_::(tok (i+1) a++_));refine aa (rA a b (i+1)) ?_;rw[A4];simp only[It0.txt,cm,dH,ev];congr 3;exact j2 _ _ _
 |.es c::a,b,i=>by refine (?_:_::tok (i+2) (a++b)=_::(tok (i+2) a++_));refine aa (rA a b (i+2)) ?_;rw[A4];simp only[It0.txt,cm,dH,ev];congr 3;exact j2 _ _ _
theorem tE:∀(l:List It0) (i:Nat),l.all It0.ok=true->fg i false ((aY l).map λc=>S [c])=tok i l
 |[],i,_=>rfl
 |.ch c::r,i,h=>by
  simp only[mO,bn,It0.ok,bne_iff_ne,ne_eq] at h;have e:(S [c]==e8)=false:=by rw[show e8=S [92] by rfl,ll];simp[h.1]
  refine (?_:fg i false (S [c]::(aY r).map λc=>S [c])=_);refine aa qW ?_;simp only[dp,if_false,e];refine aa (tE r (i+1) h.2) ?_;rfl
 |.es c::r,i,h=>by simp only[mO,bn] at h;refine (?_:fg i false (S [92]::S [c]::(aY r).map λc=>S [c])=_);refine aa qW ?_;simp only[dp,if_false,show (S [92]==e8)=true by decide,if_true];refine aa qW ?_;simp only[if_true];refine aa (tE r (i+1+1) h.2) ?_;rfl
theorem AG (l:List It0):dL (S (aY l))=(aY l).map λc=>S [c]:=C1 _
theorem Tu {l:List It0} (h:l.all It0.ok=true):O1.gen nEsc [.str (S (aY l))]=some (tok 0 l):=by refine (?_:to [.str (S (aY l))]=_);unfold to;simp only;rewrite[AG];exact aa (tE l 0 h) rfl
noncomputable def oV:Scope:=(bH fA).scope
noncomputable def kW:List aN:=(bH fA).body
noncomputable abbrev nV:Str:=af "addr"
noncomputable abbrev mz:Str:=af "opens"
noncomputable abbrev eP:Str:=af "pos"
noncomputable abbrev ff:Str:=af "ch"
noncomputable def cu:Int->List It0->Option Int
 |k,[]=>some k
 |k,.ch c::r=>if c=40 then cu (k+1) r else if c=41 then (if k - 1<0 then none else cu (k - 1) r) else cu k r
 |k,.es _::r=>cu k r
theorem xE {k}:cu k []=some k:=rfl
theorem tP {k c r}:cu k (.ch c::r)=if c=40 then cu (k+1) r else if c=41 then (if k - 1<0 then none else cu (k - 1) r) else cu k r:=rfl
theorem wW {k x r}:cu k (.es x::r)=cu k r:=rfl
section
variable {O:Orc} {σ σ':Sg} {n:Nat}
theorem qC {step:Sg->PV->Option Out}:∀{xs ys:List PV} {σ σ':Sg},cj step xs σ=some (.nx σ')->cj step (xs++ys) σ=cj step ys σ'
 |[],ys,σ,σ',h=>by cases h;rfl
 |d::xs,ys,σ,σ',h=>by
  rw[u7] at h;cases hs:step σ d with
  |none=>replace h:=hs▸h;exact ab h
  |some o=>
   replace h:=hs▸h;cases o with
   |nx σ1=>have h:cj step xs σ1=some (.nx σ'):=h;exact (gr (ds:=xs++ys) hs rfl).trans (qC h)
   |bk σ1=>cases h
   |rt d=>cases h
theorem Nx:∀(l:List It0) (i:Nat) (k:Int) (σ:Sg),σ.lookup mz=some (.sh (.int k))->∃σ',cj (cw O 55 oV (bq kW 2).1 (bq kW 2).2) (tok i l) σ=(match cu k l with|some k'=>some (.nx σ')|none=>some (.rt (.bool false)))/\∀k',cu k l=some k'->σ'.lookup mz=some (.sh (.int k')):=by
 intro l
 induction l with
 |nil=>intro i k σ h;exact au σ rfl (λk' e=>by (have h_:=ak e;clear e;subst h_);exact h)
 |cons t r ih=>
  intro i k σ h;have hstep:∀(p:Int) (s:Str),cw O 55 oV (bq kW 2).1 (bq kW 2).2 σ (.tup [.int p,.str s])=aO O 55 oV (put (put σ eP (.sh (.int p))) ff (.sh (.str s))) (bq kW 2).2:=λp s=>rfl;have g1:∀(p:Int) (s:Str),(put (put σ eP (.sh (.int p))) ff (.sh (.str s))).lookup mz=some (.sh (.int k)):=λp s=>by refine aw (by decide) ?_;refine aw (by decide) ?_;exact h
  have g2:∀(p:Int) (s:Str),(put (put σ eP (.sh (.int p))) ff (.sh (.str s))).lookup ff=some (.sh (.str s)):=λp s=>aS;have none0:∀(p:Int) (s:Str),(s==S [40])=false->(s==S [41])=false->cw O 55 oV (bq kW 2).1 (bq kW 2).2 σ (.tup [.int p,.str s])=some (.nx (put (put σ eP (.sh (.int p))) ff (.sh (.str s)))):=λp s h1 h2=>by
   rw[hstep];refine dD (bA (d:=.bool false) (h:=az (h:=bu (aD (by decide) (aH (g2 p s))) (az (h:=fF (by decide))) ?_)) (ht:=rfl)) ?_ bh
   ·refine (?_:some (s==S [40])=_);exact aa h1 rfl
   ·refine dD (bA (d:=.bool false) (h:=az (h:=bu (aD (by decide) (aH (g2 p s))) (az (h:=fF (by decide))) ?_)) (ht:=rfl)) bh bh;refine (?_:some (s==S [41])=_);exact aa h2 rfl
  cases t with
  |es c=>
   have h1:(S [92,c]==S [40])=false:=by rw[ll];rfl
   have h2:(S [92,c]==S [41])=false:=by rw[ll];rfl
   refine ah (ih (i+2) k _ (g1 ((i+1:Nat):Int) (S [92,c]))) λσ' e1 e2=>?_;exact au σ' ((gr (none0 _ _ h1 h2) rfl).trans e1) e2
  |ch c=>
   refine aa tP ?_
   by_cases h40:c=40
   ·subst h40;simp only[if_true];refine ah (ih (i+1) (k+1) (put (put (put σ eP (.sh (.int i))) ff (.sh (.str (S [40])))) mz (.sh (.int (k+1)))) (aS)) λσ' e1 e2=>?_;refine au σ' ((gr ?_ rfl).trans e1) e2;rw[hstep];refine iL (bA (d:=.bool true) (h:=az (h:=bu (aD (by decide) (aH (g2 i (S [40])))) (az (h:=fF (by decide))) rfl)) (ht:=rfl)) ?_ bh;exact a8 (oJ (by decide) (by decide) (m7 (g1 i (S [40]))) aW rfl) bh
   ·refine aa (if_neg h40) ?_;have e40:(S [c]==S [40])=false:=by rw[ll];simp[h40]
    by_cases h41:c=41
    ·subst h41;simp only[if_true];have g3:(put (put (put σ eP (.sh (.int i))) ff (.sh (.str (S [41])))) mz (.sh (.int (k - 1)))).lookup mz=some (.sh (.int (k - 1))):=aS
     by_cases hk:k - 1<0
     ·refine aa (if_pos hk) ?_;refine au σ (yd (q:=.rt (.bool false)) ?_ (λζ z=>nomatch z)) (λk' e=>nomatch e);rw[hstep];refine wM (bA (d:=.bool false) (h:=az (h:=bu (aD (by decide) (aH (g2 i (S [41])))) (az (h:=fF (by decide))) rfl)) (ht:=rfl)) ?_;refine mq (bA (d:=.bool true) (h:=az (h:=bu (aD (by decide) (aH (g2 i (S [41])))) (az (h:=fF (by decide))) rfl)) (ht:=rfl)) ?_;refine a8 (oJ (by decide) (by decide) (m7 (g1 i (S [41]))) aW (rfl:lW .Sub (.int k) (.int 1)=some (.int (k - 1)))) ?_;refine mq (bA (d:=.bool true) (h:=az (h:=bu (aD (by decide) (aH g3)) (az (h:=aW)) ?_)) (ht:=rfl)) (iP jk);refine (?_:some (decide (k - 1<0))=some true);exact aa (decide_eq_true hk) rfl
     ·refine aa (if_neg hk) ?_;refine ah (ih (i+1) (k - 1) _ g3) λσ' e1 e2=>?_;refine au σ' ((gr ?_ rfl).trans e1) e2;rw[hstep];refine dD (bA (d:=.bool false) (h:=az (h:=bu (aD (by decide) (aH (g2 i (S [41])))) (az (h:=fF (by decide))) rfl)) (ht:=rfl)) ?_ bh;refine iL (bA (d:=.bool true) (h:=az (h:=bu (aD (by decide) (aH (g2 i (S [41])))) (az (h:=fF (by decide))) rfl)) (ht:=rfl)) ?_ bh;refine a8 (oJ (by decide) (by decide) (m7 (g1 i (S [41]))) aW (rfl:lW .Sub (.int k) (.int 1)=some (.int (k - 1)))) ?_;refine dD (bA (d:=.bool false) (h:=az (h:=bu (aD (by decide) (aH g3)) (az (h:=aW)) ?_)) (ht:=rfl)) bh bh;refine (?_:some (decide (k - 1<0))=some false);exact aa (decide_eq_false hk) rfl
    ·refine aa (if_neg h41) ?_;have e41:(S [c]==S [41])=false:=by rw[ll];simp[h41]
     refine ah (ih (i+1) k _ (g1 (i:Int) (S [c]))) λσ' e1 e2=>?_;exact au σ' ((gr (none0 _ _ e40 e41) rfl).trans e1) e2
end
inductive Sg2 where
 |pl (t:It0)
 |qt (l:List It0)
noncomputable def Sg2.its:Sg2->List It0
 |.pl t=>[t]
 |.qt l=>.ch 34::l++[.ch 34]
noncomputable def Sg2.keep:Sg2->List It0
 |.pl t=>[t]
 |.qt _=>[]
noncomputable def Sg2.ok:Sg2->Bool
 |.pl t=>t.ok&&t != .ch 34
 |.qt l=>l.all λt=>t.ok&&t != .ch 34
noncomputable def cn (l:List Sg2):List It0:=l.flatMap Sg2.its
noncomputable def cP (l:List Sg2):List It0:=l.flatMap Sg2.keep
noncomputable def fC:Scope:=(bH gp).scope
noncomputable def dn:List aN:=(bH gp).body
noncomputable abbrev rM:Str:=af "start"
noncomputable abbrev pn:Str:=af "open_pos"
noncomputable abbrev mh:Str:=af "result"
section
variable {O:Orc} {σ σ':Sg} {n:Nat}
structure fy (X:List Nat) (st:Nat) (op:PV) (R:List (List Nat)) (σ:Sg):Prop where
 a:σ.lookup nV=some (.sh (.str (S X)))
 s:σ.lookup rM=some (.sh (.int st))
 o:σ.lookup pn=some (.sh op)
 r:σ.lookup mh=some (.own (bj R))
theorem fy.tgt {X:List Nat} {st:Nat} {op:PV} {R:List (List Nat)} (h:fy X st op R σ) (p:Int) (s:Str):fy X st op R (put (put σ eP (.sh (.int p))) ff (.sh (.str s))):=
 ⟨by refine aw (by decide) ?_;refine aw (by decide) ?_;exact h.a,by refine aw (by decide) ?_;refine aw (by decide) ?_;exact h.s,
  by refine aw (by decide) ?_;refine aw (by decide) ?_;exact h.o,by refine aw (by decide) ?_;refine aw (by decide) ?_;exact h.r⟩
theorem BW {X:List Nat} {st:Nat} {op:PV} {R:List (List Nat)} (p:Int) (s:Str) (h:fy X st op R σ) (hs:(s==S [34])=false):∃σ',cw O 54 fC (bq dn 4).1 (bq dn 4).2 σ (.tup [.int p,.str s])=some (.nx σ')/\fy X st op R σ':=by refine au _ ?_ (h.tgt p s);show aO O 54 fC (put (put σ eP (.sh (.int p))) ff (.sh (.str s))) (bq dn 4).2=_;refine dD (bA (d:=.bool false) (h:=az (h:=bu (aD (by decide) (aH (aS))) (az (h:=fF (by decide))) ?_)) (ht:=rfl)) bh bh;show some (s==S [34])=_;exact aa hs rfl
set_option backward.match.sparseCases true in
theorem uA {X:List Nat} {st:Nat} {op:PV} {R:List (List Nat)}:∀(l:List It0) (i:Nat) (σ:Sg),(l.all λt=>t.ok&&t != .ch 34)=true->fy X st op R σ->∃σ',cj (cw O 54 fC (bq dn 4).1 (bq dn 4).2) (tok i l) σ=some (.nx σ')/\fy X st op R σ'
 |[],i,σ,_,h=>⟨σ,rfl,h⟩
 |.ch c::r,i,σ,ha,h=>by simp only[mO,bn,bne_iff_ne,ne_eq] at ha;have hc:¬ c=34:=λe=>ha.1.2 (e▸rfl);refine ah (BW (O:=O) (i:Int) (S [c]) h (by rw[ll];simp[hc])) λσ1 e1 h1=>?_;refine ah (uA r (i+1) σ1 (by simp only[dG,bn,bne_iff_ne,ne_eq] at ha ⊢;exact ha.2) h1) λσ2 e2 h2=>?_;exact au σ2 ((gr e1 rfl).trans e2) h2
 |.es c::r,i,σ,ha,h=>by simp only[mO,bn] at ha;refine ah (BW (O:=O) ((i+1:Nat):Int) (S [92,c]) h (by rw[ll];rfl)) λσ1 e1 h1=>?_;refine ah (uA r (i+2) σ1 ha.2 h1) λσ2 e2 h2=>?_;exact au σ2 ((gr e1 rfl).trans e2) h2
theorem NU {X:List Nat} {st:Nat} {R:List (List Nat)} (p:Int) (h:fy X st .none R σ):∃σ',cw O 54 fC (bq dn 4).1 (bq dn 4).2 σ (.tup [.int p,.str (S [34])])=some (.nx σ')/\fy X st (.int p) R σ':=by
 have g:=h.tgt p (S [34]);have g1:(put (put σ eP (.sh (.int p))) ff (.sh (.str (S [34])))).lookup eP=some (.sh (.int p)):=by refine aw (by decide) ?_;exact aS
 have g2:(put (put σ eP (.sh (.int p))) ff (.sh (.str (S [34])))).lookup ff=some (.sh (.str (S [34]))):=aS;have hst:∀q,cw O 54 fC (bq dn 4).1 (bq dn 4).2 σ (.tup [.int p,.str (S [34])])=q↔aO O 54 fC (put (put σ eP (.sh (.int p))) ff (.sh (.str (S [34])))) (bq dn 4).2=q:=λq=>Iff.rfl;revert g;revert g1;revert g2;revert hst;refine bB (put (put σ eP (.sh (.int p))) ff (.sh (.str (S [34])))) λσ1=>?_;intro hst g2 g1 g;refine au (put σ1 pn (.sh (.int p))) ?_ ⟨by refine aw (by decide) ?_;exact g.a,by refine aw (by decide) ?_;exact g.s,aS,by refine aw (by decide) ?_;exact g.r⟩;rw[hst];refine iL (bA (d:=.bool true) (h:=az (h:=bu (aD (by decide) (aH g2)) (az (h:=fF (by decide))) rfl)) (ht:=rfl)) ?_ bh;refine iL (bA (d:=.bool true) (h:=az (h:=bu (aD (by decide) (aH g.o)) (az (h:=nS)) rfl)) (ht:=rfl)) ?_ bh;exact a8 (cq (by decide) (h:=aC (by decide) g1) (hs:=λxs z=>nomatch z)) bh
theorem Ug {X:List Nat} {a b:Nat} (hab:a<=b) (hb:b<=X.length):eG (.str (S X)) (some (a:Int)) (some (b:Int)) none=some (.str (S ((X.drop a).take (b - a)))):=by refine aA (Gy X hab hb) ?_;rfl
theorem SO {X:List Nat} {a:Nat} (hb:a<=X.length):eG (.str (S X)) (some (a:Int)) none none=some (.str (S (X.drop a))):=by refine aA (Bb hb) ?_;rfl
theorem Jc {X:List Nat} {st o p:Nat} {R:List (List Nat)} (h:fy X st (.int o) R σ) (hso:st<=o) (ho:o<=X.length) (hX:X.length<=1000000) (hR:R.length<=1000000):∃σ',cw O 54 fC (bq dn 4).1 (bq dn 4).2 σ (.tup [.int p,.str (S [34])])=some (.nx σ')/\fy X (p+1) .none (if st=o then R else R++[(X.drop st).take (o - st)]) σ':=by
 have g:=h.tgt p (S [34]);have g1:(put (put σ eP (.sh (.int p))) ff (.sh (.str (S [34])))).lookup eP=some (.sh (.int p)):=by refine aw (by decide) ?_;exact aS
 have g2:(put (put σ eP (.sh (.int p))) ff (.sh (.str (S [34])))).lookup ff=some (.sh (.str (S [34]))):=aS;have hst:∀q,cw O 54 fC (bq dn 4).1 (bq dn 4).2 σ (.tup [.int p,.str (S [34])])=q↔aO O 54 fC (put (put σ eP (.sh (.int p))) ff (.sh (.str (S [34])))) (bq dn 4).2=q:=λq=>Iff.rfl;revert g;revert g1;revert g2;revert hst;refine bB (put (put σ eP (.sh (.int p))) ff (.sh (.str (S [34])))) λσ1=>?_;intro hst g2 g1 g;have h62:(2:Int)^62=4611686018427387904:=by decide
 have tail:∀{σ2:Sg} {R'},fy X st (.int o) R' σ2->σ2.lookup eP=some (.sh (.int p))->fy X (p+1) .none R' (put (put σ2 rM (.sh (.int ((p+1:Nat):Int)))) pn (.sh .none)):=λ{σ2 R'} k _=>
  ⟨by refine aw (by decide) ?_;refine aw (by decide) ?_;exact k.a,by refine aw (by decide) ?_;exact aS,aS,by refine aw (by decide) ?_;refine aw (by decide) ?_;exact k.r⟩
 have hne:∀q1 q2 q3,pe O 50 fC σ1 (.Compare (.Name rM q1) [.NotEq] [.Name pn q2] q3)=some (.bool (!((st:Int)==(o:Int)))):=λq1 q2 q3=>bu (aD (by decide) (aH g.s)) (aD (by decide) (aH g.o)) rfl
 by_cases hc:st=o
 ·refine aa (if_pos hc) ?_;refine au _ ?_ (tail g g1);rw[hst];refine iL (bA (d:=.bool true) (h:=az (h:=bu (aD (by decide) (aH g2)) (az (h:=fF (by decide))) rfl)) (ht:=rfl)) ?_ bh;refine dD (bA (d:=.bool false) (h:=az (h:=bu (aD (by decide) (aH g.o)) (az (h:=nS)) rfl)) (ht:=rfl)) ?_ bh;refine dD (bA (d:=.bool false) (h:=az (h:=bu (aD (by decide) (aH g.s)) (aD (by decide) (aH g.o)) ?_)) (ht:=rfl)) bh ?_
  ·show some (!((st:Int)==(o:Int)))=some false;subst hc;simp
  refine a8 (cq (d:=.int ((p+1:Nat):Int)) (by decide) (h:=aQ (aC (by decide) g1) aW rfl) (hs:=λxs z=>nomatch z)) ?_;exact a8 (cq (by decide) (h:=nS) (hs:=λxs z=>nomatch z)) bh
 ·refine aa (if_neg hc) ?_;have hk:fy X st (.int o) (R++[(X.drop st).take (o - st)]) (put σ1 mh (.own (bj R++[.str (S ((X.drop st).take (o - st)))]))):=
   ⟨by refine aw (by decide) ?_;exact g.a,by refine aw (by decide) ?_;exact g.s,by refine aw (by decide) ?_;exact g.o,by refine aS.trans ?_;simp[bj]⟩
  have g1':(put σ1 mh (.own (bj R++[.str (S ((X.drop st).take (o - st)))]))).lookup eP=some (.sh (.int p)):=by refine aw (by decide) ?_;exact g1
  refine au _ ?_ (tail hk g1');rw[hst];refine iL (bA (d:=.bool true) (h:=az (h:=bu (aD (by decide) (aH g2)) (az (h:=fF (by decide))) rfl)) (ht:=rfl)) ?_ bh;refine dD (bA (d:=.bool false) (h:=az (h:=bu (aD (by decide) (aH g.o)) (az (h:=nS)) rfl)) (ht:=rfl)) ?_ bh;refine iL (σ':=put σ1 mh (.own (bj R++[.str (S ((X.drop st).take (o - st)))]))) (bA (d:=.bool true) (h:=az (h:=bu (aD (by decide) (aH g.s)) (aD (by decide) (aH g.o)) ?_)) (ht:=rfl)) ?_ ?_
  ·show some (!((st:Int)==(o:Int)))=some true;have:((st:Int)==(o:Int))=false:=by simp;exact LR hso hc
   refine aa this ?_;rfl
  ·refine a8 (rJ (by decide) rfl (nH g.r) (eR (aC (by decide) g.a) (dO (aC (by decide) g.s) (by lia)) (dO (aC (by decide) g.o) (by lia)) cM (Ug hso ho)) ?_) bh;unfold aZ;exact mY (by simp[bj];exact aB (by assumption) (b7 _ _))
  refine a8 (cq (d:=.int ((p+1:Nat):Int)) (by decide) (h:=aQ (aC (by decide) g1') aW rfl) (hs:=λxs z=>nomatch z)) ?_;exact a8 (cq (by decide) (h:=nS) (hs:=λxs z=>nomatch z)) bh
end
section
variable {O:Orc} {σ σ':Sg} {n:Nat}
theorem oE (g:Sg2) (l:List Sg2):cn (g::l)=g.its++cn l:=rfl
theorem qG (g:Sg2) (l:List Sg2):cP (g::l)=g.keep++cP l:=rfl
theorem Pm (X:List Nat) (hX:X.length<=1000000):∀(l:List Sg2) (i st:Nat) (R:List (List Nat)) (σ:Sg),l.all Sg2.ok=true->fy X st .none R σ->st<=i->i<=X.length->X.drop i=aY (cn l)->R.length<=i->∃σ' st' R',cj (cw O 54 fC (bq dn 4).1 (bq dn 4).2) (tok i (cn l)) σ=some (.nx σ')/\fy X st' .none R' σ'/\st'<=X.length/\R'.length<=X.length/\
   R'.flatten++X.drop st'=R.flatten++(X.drop st).take (i - st)++aY (cP l):=by
 intro l
 induction l with
 |nil=>
  intro i st R σ _ h hi hle hd hR;refine ji σ st R rfl h (aB (by assumption) (by assumption)) (aB (by assumption) (by assumption)) ?_;have:X.length<=i:=by have:=congrArg eI hd;simp[cn,aY] at this;exact MY this
  have e:(X.drop st).take (i - st)=X.drop st:=oh (by refine aa eu ?_;exact Rg hi hle this);refine aa e ?_;simp[cP,aY]
 |cons g l ih=>
  intro i st R σ hok h hi hle hd hR;simp only[mO,bn] at hok;refine bf hok λhg hl=>?_;clear hok;rw[oE,kY] at hd;have hlen:X.length - i=(aY g.its).length+(aY (cn l)).length:=aA eu (aa hd (aa cm rfl));have hd':X.drop (i+(aY g.its).length)=aY (cn l):=aA kN (aa hd (aa zq rfl));have hseg:(X.drop i).take (aY g.its).length=aY g.its:=aa hd (aa sN rfl);rw[oE,rA];cases g with
  |pl t=>
   have hrun:∃σ1,cj (cw O 54 fC (bq dn 4).1 (bq dn 4).2) (tok i [t]) σ=some (.nx σ1)/\fy X st .none R σ1:=uA [t] i σ (by simpa [Sg2.ok] using hg) h;refine ah hrun λσ1 e1 h1=>?_;clear hrun;refine fb (ih (i+(aY [t]).length) st R σ1 hl h1 (aB (by assumption) (gy _ _)) (by have:(aY (Sg2.pl t).its).length=(aY [t]).length:=rfl;exact PZ hle hlen this) hd' (aB (by assumption) (gy _ _))) λσ' st' R' e2 h2 h3 h4 h5=>?_;refine ji σ' st' R' ((qC e1).trans e2) h2 h3 h4 ?_;refine aa h5 ?_;rw[qG,kY];have e3:(X.drop st).take (i+(aY [t]).length - st)=(X.drop st).take (i - st)++aY [t]:=by have:i+(aY [t]).length - st=(i - st)+(aY [t]).length:=Td hi;refine aa this (aa WF (aa kN ?_));congr 1;have e4:st+(i - st)=i:=mG (by assumption);refine aa e4 ?_;exact hseg
   refine aa e3 ?_;simp[Sg2.keep,ga]
  |qt q=>
   have hq:(q.all λt=>t.ok&&t != .ch 34)=true:=hg;have hits:(Sg2.qt q).its=[.ch 34]++(q++[.ch 34]):=by simp[Sg2.its]
   have hqlen:(aY (Sg2.qt q).its).length=1+(aY q).length+1:=by (refine aa hits ?_;rw[kY,kY]);simp[aY,It0.txt];exact fk _ _
   refine ah (NU (O:=O) (i:Int) h) λσ1 e1 h1=>?_;refine ah (uA (O:=O) q (i+1) σ1 hq h1) λσ2 e2 h2=>?_;refine ah (Jc (O:=O) (p:=i+1+(aY q).length) h2 hi hle hX (aB (by assumption) (aB (by assumption) (by assumption)))) λσ3 e3 h3=>?_;have erun:cj (cw O 54 fC (bq dn 4).1 (bq dn 4).2) (tok i (Sg2.qt q).its) σ=some (.nx σ3):=by refine aa hits ?_;rw[rA];have f1:cj (cw O 54 fC (bq dn 4).1 (bq dn 4).2) (tok i [.ch 34]) σ=some (.nx σ1):=(gr e1 rfl).trans rfl;refine aa (qC f1) ?_;rw[rA];have f2:cj (cw O 54 fC (bq dn 4).1 (bq dn 4).2) (tok (i+(aY [It0.ch 34]).length) q) σ1=some (.nx σ2):=e2;refine aa (qC f2) ?_;exact (gr e3 rfl).trans rfl
   have hR':(if st=i then R else R++[(X.drop st).take (i - st)]).length<=i+(aY (Sg2.qt q).its).length:=by
    split
    ·exact aB (by assumption) (gy _ _)
    ·refine aa cm ?_;simp;exact NG hR hqlen
   refine fb (ih (i+(aY (Sg2.qt q).its).length) (i+1+(aY q).length+1) _ σ3 hl h3 (Ms hqlen) (Rp hlen hqlen) hd' hR') λσ' st' R' e4 h4 h5 h6 h7=>?_;refine ji σ' st' R' ((qC erun).trans e4) h4 h5 h6 ?_;refine aa h7 ?_;rw[qG,kY];have e5:i+(aY (Sg2.qt q).its).length - (i+1+(aY q).length+1)=0:=PK hqlen;refine aa e5 (aa zk ?_);rw[kM];have e6:(if st=i then R else R++[(X.drop st).take (i - st)]).flatten=R.flatten++(X.drop st).take (i - st):=by
    split
    ·rename_i z;subst z;simp
    ·simp
   refine aa e6 ?_;simp[Sg2.keep,aY]
theorem A7:∀(R:List (List Nat)),(R.map eI).sum=R.flatten.length
 |[]=>rfl
 |r::R=>aa bQ (aa eY (aa gT (aa cm (aa (A7 R) rfl))))
theorem wf:∀R:List (List Nat),kl (bj R)=some (R.map S)
 |[]=>rfl
 |r::R=>by show (kl (bj R)).map (S r:: ·)=_;refine aa (wf R) ?_;rfl
theorem B8:∀R:List (List Nat),eM [] R=R.flatten
 |[]=>rfl
 |[r]=>by simp[eM]
 |r::q::R=>by have:=B8 (q::R);unfold eM at this ⊢;show (r::[]::List.intersperse [] (q::R)).flatten=r++(q::R).flatten;refine aa gT (aa gT ?_);rewrite[sC];exact aa this rfl
theorem w4 {sep:List Nat} {R:List (List Nat)} (h:(R.map eI).sum+R.length*sep.length<=1000000):bM (.str (S sep)) (af "join") [.list (bj R)]=some (.str (S (eM sep R))):=by
 have hst:=wf R;have hj:=Gm sep R;have hlen:(eM sep R).length<=(R.map eI).sum+R.length*sep.length:=by
  have:=Ye (S sep) (R.map S);have h2:(og (S sep) (R.map S)).length<=((R.map S).map (·.length)).sum+(R.map S).length*(S sep).length:=by unfold og;refine aa this ?_;exact Yg (S sep) (R.map S)
  rw[hj,cc] at h2;simpa [WW] using h2
 unfold bM;simp only;rw[if_pos (show (af "join" ==af "join")=true by decide)];simp only[hst,hj];rw[if_pos];simp only[bn];constructor
 ·unfold EN;rw[Yh];have e1:((R.map S).map (·.length)).sum=(R.map eI).sum:=by congr 1;simp[WW]
  refine aa e1 ?_;rw[cc,ca];unfold UR;simp[sizeLine];exact aB (by assumption) (b7 _ _)
 ·rw[cc];unfold aZ;exact mY (aB (aB (by assumption) (by assumption)) (by decide))
theorem wT {R:List (List Nat)} (h:R.flatten.length<=1000000):bM (.str (S [])) (af "join") [.list (bj R)]=some (.str (S R.flatten)):=by rw[<- B8];exact w4 (by rw[A7];simpa using h)
theorem zK:∀(l:List Sg2),l.all Sg2.ok=true->34∉aY (cn l)->cP l=cn l
 |[],_,_=>rfl
 |g::l,h,hn=>by
  simp only[mO,bn] at h;rw[oE,kY,be,not_or] at hn;rewrite[qG,oE];refine aa (zK l h.2 hn.2) ?_;cases g with
  |pl t=>rfl
  |qt q=>exact absurd (by simp[Sg2.its,aY,It0.txt]) hn.1
theorem xx:∀(l:List Sg2),l.all Sg2.ok=true->(cn l).all It0.ok=true/\(cP l).all It0.ok=true
 |[],_=>⟨rfl,rfl⟩
 |g::l,h=>by
  simp only[mO,bn] at h;refine bf (xx l h.2) λh1 h2=>?_;rewrite[oE,qG];refine aa F7 (aa F7 (aa h1 (aa h2 ?_)));cases g with
  |pl t=>have:=h.1;simp only[Sg2.ok,bn] at this;simp[Sg2.its,Sg2.keep,this.1]
  |qt q=>
   have:=h.1;simp only[Sg2.ok,dG,bn] at this;refine⟨?_,rfl⟩;simp only[Sg2.its,WX,dG,ao,be,ba,or_false]
   rintro x ((rfl|hx)|rfl)
   ·rfl
   ·exact (this x hx).1
   ·rfl
theorem Qu {l:List Sg2} (hgen:∀x,O.gen nEsc [.str x]=some (fg 0 false (dL x))) (hok:l.all Sg2.ok=true) (hX:(aY (cn l)).length<=100000):aO O 60 fC [(nV,.sh (.str (S (aY (cn l)))))] dn=some (.rt (.str (S (aY (cP l))))):=by
 have hesc:O.gen nEsc [.str (S (aY (cn l)))]=some (tok 0 (cn l)):=by (rewrite[hgen,AG];exact aa (tE _ 0 (xx l hok).1) rfl)
 by_cases hq:34∈aY (cn l)
 ·generalize hXe:aY (cn l)=X at hq hX hesc;refine dD (bA (d:=.bool false) (h:=az (h:=bu (az (h:=fF (by decide))) (aD (by decide) rfl) ?_)) (ht:=rfl)) bh ?_
  ·show some (!iS (S X) (S [34]))=some false;have:iS (S X) (S [34])=true:=by obtain ⟨i,hi,e⟩:=Vc.mp hq;rw[uY];refine au i (by simp;exact yX (by assumption)) ?_;refine aa (pZ hi) ?_;simp[e]
   refine aa this ?_;rfl
  refine a8 (cq (by decide) (h:=aW) (hs:=λxs z=>nomatch z)) ?_;refine a8 (cq (by decide) (h:=nS) (hs:=λxs z=>nomatch z)) ?_;refine a8 (oS (by decide) (pg a7 rfl)) ?_;show aO O 56 fC [(nV,.sh (.str (S X))),(rM,.sh (.int 0)),(pn,.sh .none),(mh,.own [])] (dn.drop 4)=_;have h0:fy X 0 .none [] [(nV,.sh (.str (S X))),(rM,.sh (.int 0)),(pn,.sh .none),(mh,.own [])]:=⟨rfl,rfl,rfl,rfl⟩
  refine fb (Pm (O:=O) X (aB (by assumption) (b7 _ _)) l 0 0 [] _ hok h0 (aT _) (iY _) (by refine aa qc ?_;exact hXe.symm) (iY _)) λσ' st' R' e1 h1 h2 h3 h4=>?_;simp only[ql,sC,vQ,zk] at h4;have h62:(2:Int)^62=4611686018427387904:=by decide
  refine a8 (DI (σ':=σ') (xs:=tok 0 (cn l)) rfl ?_ e1 bh) ?_
  ·exact yj (by decide) (aC (by decide) rfl) hesc
  have hfin:∀{σ2:Sg} {R2:List (List Nat)},σ2.lookup mh=some (.own (bj R2))->R2.flatten=aY (cP l)->R2.flatten.length<=1000000->aO O 54 fC σ2 (dn.drop 6)=some (.rt (.str (S (aY (cP l))))):=λ{σ2 R2} k1 k2 k3=>by
   refine iP (lZ (h0:=rfl) (hp:=rfl) (hl:=rfl) (h1:=fF (by decide)) (h2:=aG (aD (by decide) (nG k1)) a7) (h:=?_));have:=wT k3;refine aA k2 ?_;have e:bM (.str (af "")) (af "join") [.list (bj R2)]=some (.str (S R2.flatten)):=this;refine aa e ?_;unfold dw
   split<;>rfl
  have hfl:R'.flatten.length<=100000/\(X.drop st').length<=X.length:=by
   have:=congrArg eI h4;rw[cm,eu] at this;have hk:(aY (cP l)).length<=X.length:=by
    have key:∀l:List Sg2,(aY (cP l)).length<=(aY (cn l)).length:=by
     intro l
     induction l with
     |nil=>exact aT _
     |cons g l ih=>
      rewrite[qG,oE,kY,kY];refine aa cm (aa cm ?_);cases g with
      |pl t=>exact kF ih _
      |qt q=>have:(aY (Sg2.qt q).keep).length=0:=rfl;exact La ih this
    refine aA hXe ?_;exact key l
   refine aa eu ?_;exact Nk hX this hk
  by_cases hlt:st'<X.length
  ·refine iL (σ':=put σ' mh (.own (bj R'++[.str (S (X.drop st'))]))) (bA (d:=.bool true) (h:=az (h:=bu (aD (by decide) (aH h1.s)) (az (h:=jC (a:=.str (S X)) (by decide) (aD (by decide) (aH h1.a)) (show bX O (af "len") [.str (S X)]=some (.int (X.length:Nat)) by rw[<- cc];rfl) rfl)) ?_)) (ht:=rfl)) ?_ ?_
   ·show some (decide ((st':Int)<(X.length:Int)))=some true;rw[decide_eq_true (vP.mpr (by assumption))]
   ·refine a8 (rJ (by decide) rfl (nH h1.r) (eR (aC (by decide) h1.a) (dO (aC (by decide) h1.s) (by lia)) cM cM (SO h2)) ?_) bh;unfold aZ;exact mY (by simp[bj];exact aB (aB (by assumption) (by assumption)) (by decide))
   ·refine hfin (R2:=R'++[X.drop st']) (by refine aS.trans ?_;simp[bj]) (by refine aa WY ?_;simpa using h4) ?_;refine aa WY (aa cm ?_);have q1:=hfl.1;have q2:=hfl.2;simp only[gT,ql,kM];exact Tg hX hfl
  ·refine dD (bA (d:=.bool false) (h:=az (h:=bu (aD (by decide) (aH h1.s)) (az (h:=jC (a:=.str (S X)) (by decide) (aD (by decide) (aH h1.a)) (show bX O (af "len") [.str (S X)]=some (.int (X.length:Nat)) by rw[<- cc];rfl) rfl)) ?_)) (ht:=rfl)) bh ?_
   ·show some (decide ((st':Int)<(X.length:Int)))=some false;rw[decide_eq_false (Oi h2 hlt)]
   ·have:X.drop st'=[]:=List.drop_eq_nil_of_le (pO (by assumption));rw[this,kM] at h4;exact hfin h1.r h4 (by have:=hfl.1;exact aB (by assumption) (b7 _ _))
 ·refine mq (bA (d:=.bool true) (h:=az (h:=bu (az (h:=fF (by decide))) (aD (by decide) rfl) ?_)) (ht:=rfl)) ?_
  ·show some (!iS (S (aY (cn l))) (S [34]))=some true;have:iS (S (aY (cn l))) (S [34])=false:=by
    cases e:iS (S (aY (cn l))) (S [34]) with
    |false=>rfl
    |true=>
     refine ah ((uY _ _).mp e) λi h1 h2=>?_;simp only[dH,ev] at h1 h2;have h3:(aY (cn l))[i]?=some 34:=by have:=congrArg (λl:List Nat=>l[0]?) h2;simpa [FW,sM] using this
     exact absurd (mX h3) hq
   refine aa this ?_;rfl
  ·refine aa (zK l hok hq) ?_;exact iP (aC (by decide) rfl)
theorem OP {l:List Sg2} (hok:l.all Sg2.ok=true) (hX:(aY (cn l)).length<=100000):bZ pw O1 gp [.str (S (aY (cn l)))]=some (.str (S (aY (cP l)))):=by refine nC (d:=bH gp) rfl rfl ?_;have:=Qu (O:=O1) (l:=l) (λx=>rfl) hok hX;exact this
noncomputable def rZ (l:List It0):Bool:=match cu 0 l with|some k=>k==0|none=>false
theorem Ca {l:List Sg2} (hok:l.all Sg2.ok=true) (hX:(aY (cn l)).length<=100000):bZ pw (O2 pw) fA [.str (S (aY (cn l)))]=some (.bool (rZ (cP l))):=by
 have hrun:aO (O2 pw) 60 oV [(nV,.sh (.str (S (aY (cn l)))))] kW=some (.rt (.bool (rZ (cP l)))):=by
  have hst:(O2 pw).fn gp [.str (S (aY (cn l)))]=some (.str (S (aY (cP l)))):=by show (if (gp==gp)=true then bZ pw O1 gp [.str (S (aY (cn l)))] else O1.fn gp [.str (S (aY (cn l)))])=_;rw[if_pos (by decide)];exact OP hok hX
  have hesc:(O2 pw).gen nEsc [.str (S (aY (cP l)))]=some (tok 0 (cP l)):=Tu (xx l hok).2;revert hst;refine bB (aY (cn l)) λX=>?_;intro hst;revert hst;revert hesc;refine bY (aY (cP l)) λY hY=>?_;intro hesc hst;refine a8 (cq (d:=.str (S Y)) (by decide) (h:=jC (a:=.str (S X)) (by decide) (aD (by decide) rfl) (show bX (O2 pw) gp [.str (S X)]=_ from hst) rfl) (hs:=λxs z=>nomatch z)) ?_;refine a8 (cq (by decide) (h:=aW) (hs:=λxs z=>nomatch z)) ?_;show aO (O2 pw) 58 oV [(nV,.sh (.str (S Y))),(mz,.sh (.int 0))] (kW.drop 2)=_;refine ah (Nx (O:=O2 pw) (cP l) 0 0 [(nV,.sh (.str (S Y))),(mz,.sh (.int 0))] rfl) λσ' e1 e2=>?_;unfold rZ;cases hk:cu 0 (cP l) with
  |none=>replace e1:=hk▸e1;exact nk (OZ rfl (yj (by decide) (aC (by decide) rfl) hesc) e1) (λζ z=>nomatch z)
  |some k=>replace e1:=hk▸e1;refine a8 (DI (σ':=σ') rfl (yj (by decide) (aC (by decide) rfl) hesc) e1 bh) ?_;exact iP (bu (aD (by decide) (aH (e2 k hk))) (az (h:=aW)) rfl)
 refine nC (d:=bH fA) rfl rfl ?_;exact hrun
end
noncomputable def mr (i:Nat):Str:=EO "0x" 16 ((2^i:Nat):Int)
noncomputable def bE (i:Nat):Str:=(hF.lookup ((2^i:Nat):Int)).getD (mr i)
theorem CD:∀i,i<32->aZ (mr i).length=true:=by decide
theorem wg:∀i,i<32->(bE i).length<=20:=by decide
noncomputable def jl:Scope:=(bH fS).scope
noncomputable def me:List aN:=(bH fS).body
noncomputable abbrev gF:Str:=af "flags"
noncomputable abbrev i6:Str:=af "names"
noncomputable abbrev nI:Str:=af "i"
noncomputable abbrev kB:Str:=af "flag"
theorem Bp (m j:Nat):m &&& 2^j=if m.testBit j=true then 2^j else 0:=by
 apply FG;intro k;rewrite[Wx];refine aa F8 ?_
 by_cases e:j=k
 ·subst e;cases h:m.testBit j
  ·simp
  ·simp[F8]
 ·cases h:m.testBit j
  ·simp[e]
  ·simp[F8,e]
theorem w7 (a b:Nat):mD (a:Int) (b:Int)=((a &&& b:Nat):Int):=by unfold mD;simp
theorem Js {m j:Nat} (h:m.testBit j=true):sb (m:Int) ((2^j:Nat):Int)=((m - 2^j:Nat):Int):=by have hle:2^j<=m:=WZ h;rewrite[Wy,w7,Bp];refine aa (if_pos h) ?_;omega
section
variable {O:Orc} {σ σ':Sg} {n:Nat}
structure Ee (m:Nat) (N:List PV) (σ:Sg):Prop where
 f:σ.lookup gF=some (.sh (.int m))
 n:σ.lookup i6=some (.own N)
theorem H1 {x:Int}:eO (.int x)=some (x != 0):=rfl
theorem J9 {m j:Nat} (h:m.testBit j=true) (hl:m%2^j=0):(m - 2^j)%2^(j+1)=0/\∀k,(m - 2^j).testBit k=(m.testBit k&&decide (k≠j)):=by
 have hm:m=2^j*(m/2^j):=by have:=EI m (2^j);exact Lh hl this
 revert hm;refine bB (m/2^j) λb=>?_;intro hm;subst hm;replace h:=F9▸h;simp at h;have hb:b=2*(b/2)+1:=RB h;revert hb;refine bB (b/2) λa=>?_;intro hb;subst hb;have e:2^j*(2*a+1) - 2^j=2^(j+1)*a:=by rw[zr,zt,UM,Nat.pow_succ,vR]
 refine aa e ?_;refine⟨Nat.mul_mod_right _ _,λk=>?_⟩;refine aa F9 (aa F9 ?_)
 by_cases h1:k<j
 ·have h2:¬ j<=k:=W0.mpr (by assumption);have h3:¬ j+1<=k:=H9 h1;simp[h2,h3]
 ·by_cases h4:k=j
  ·subst h4;have h7:¬ k+1<=k:=zA;simp[h7]
  ·have h5:j<=k:=pO (by assumption);have h6:j+1<=k:=Jt h1 h4;have e2:k - j=(k - (j+1))+1:=RF h1 h4;refine aa e2 ?_;rw[Nat.testBit_succ];have e3:(2*a+1)/2=a:=Ru h;refine aa e3 ?_;simp[h5,h6,h4]
theorem Qx {m j:Nat} (h:m.testBit j=false) (hl:m%2^j=0):m%2^(j+1)=0:=by
 apply FG;intro k;rw[W1,Ga]
 by_cases e:k<j
 ·have h2:(m%2^j).testBit k=false:=by (refine aa hl ?_;rw[Ga])
  rw[W1] at h2;simp[e] at h2;simp[h2]
 ·by_cases e2:k=j
  ·subst e2;simp[h]
  ·have:¬ k<j+1:=IP e e2;simp[this]
theorem Pc (hd:O.dget=tv):∀(k j m:Nat) (N:List PV) (σ:Sg),j+k=32->0<m->m<2^32->m%2^j=0->Ee m N σ->N.length<=j->∃σ',cj (cw O 57 jl (bq me 1).1 (bq me 1).2) ((eX j k).map λi=>.int ((i:Nat):Int)) σ=some (.bk σ')/\σ'.lookup i6=some (.own (N++((eX j k).filter λi=>m.testBit i).map λi=>.str (bE i))):=by
 intro k
 induction k with
 |zero=>intro j m N σ hj h0 hm hl _ _;have:j=32:=PM hj;subst this;replace hl:=(FI hm)▸hl;exact (L5 h0 hl).elim
 |succ k ih=>
  intro j m N σ hj h0 hm hl h hN;have hj32:j<32:=PP hj;refine aa zu (aa bQ ?_);have a1:(put (put σ nI (.sh (.int j))) kB (.sh (.int ((2^j:Nat):Int)))).lookup kB=some (.sh (.int ((2^j:Nat):Int))):=aS;have a2:Ee m N (put (put σ nI (.sh (.int j))) kB (.sh (.int ((2^j:Nat):Int)))):=⟨by refine aw (by decide) ?_;refine aw (by decide) ?_;exact h.f,by refine aw (by decide) ?_;refine aw (by decide) ?_;exact h.n⟩
  have hstep:∀{o:Option Out},aO O 56 jl (put (put σ nI (.sh (.int j))) kB (.sh (.int ((2^j:Nat):Int)))) ((bq me 1).2.drop 1)=o->cw O 57 jl (bq me 1).1 (bq me 1).2 σ (.int ((j:Nat):Int))=o:=λ{o} ho=>by show aO O 57 jl (put σ nI (.sh (.int j))) (bq me 1).2=o;refine a8 (cq (d:=.int ((2^j:Nat):Int)) (by decide) (h:=aQ aW (aC (by decide) (aS)) ?_) (hs:=λxs z=>nomatch z)) ho;have:=AC (x:=1) (s:=j) (by have:cg ((1:Nat):Int)<=1:=i7 (by decide);exact PH hj this);rw[jv] at this;exact this
  have hbin:∀q1 q2 q3,pT O 54 jl (put (put σ nI (.sh (.int j))) kB (.sh (.int ((2^j:Nat):Int)))) (.BinOp (.Name gF q1) .BitAnd (.Name kB q2) q3)=some (m.testBit j):=λq1 q2 q3=>by
   refine bA (d:=.int ((m &&& 2^j:Nat):Int)) (h:=az (h:=aQ (aC (by decide) a2.f) (aC (by decide) a1) ?_)) (ht:=?_)
   ·rw[<- w7];rfl
   ·refine aa H1 ?_;rw[Bp];cases m.testBit j
    ·simp
    ·simp only[if_true];have:(2:Nat)^j≠0:=by have:=sI j;exact W2 (by assumption)
     congr 1;have h9:((2^j:Nat):Int)≠0:=by exact_mod_cast this
     simp only[bne_iff_ne,ne_eq];exact h9
  revert a1;revert a2;revert hstep;revert hbin;refine bB (put (put σ nI (.sh (.int j))) kB (.sh (.int ((2^j:Nat):Int)))) λσ1=>?_;intro hbin hstep a2 a1;cases hb:m.testBit j with
  |false=>refine ah (ih (j+1) m N σ1 (BY hj) h0 hm (Qx hb hl) a2 (sg (by assumption))) λσ' e1 e2=>?_;refine au σ' ((gr (hstep (dD (by (rewrite[hbin];exact aa hb rfl)) bh bh)) rfl).trans e1) ?_;refine aa e2 (aa pR ?_);rw[if_neg (by simp[hb])]
  |true=>
   refine bf (J9 hb hl) λc1 c2=>?_;have hle:2^j<=m:=WZ hb;have b1:(put (put σ1 i6 (.own (N++[.str (bE j)]))) gF (.sh (.int ((m - 2^j:Nat):Int)))).lookup gF=some (.sh (.int ((m - 2^j:Nat):Int))):=aS;have b2:(put (put σ1 i6 (.own (N++[.str (bE j)]))) gF (.sh (.int ((m - 2^j:Nat):Int)))).lookup i6=some (.own (N++[.str (bE j)])):=by refine aw (by decide) ?_;exact aS
   have hblk:∀{o:Option Out} {r:List aN} {p1 p2 p3 p4 p5 p6 p7 p8 p9 p10 p11 p12 p13 p14:Pos},(p2.endLine==p10.line)=true->(p4.endLine==p9.line)=true->aO O 52 jl (put (put σ1 i6 (.own (N++[.str (bE j)]))) gF (.sh (.int ((m - 2^j:Nat):Int)))) r=o->
     aO O 54 jl σ1 (.Expr (.Call (.Attribute (.Name i6 p1) (af "append") p2) [.Call (.Attribute (.Name rB p3) (af "get") p4) [.Name kB p5,.Call (.Name (af "hex") p6) [.Name kB p7] [] p8] [] p9] [] p10) p11::
      .AugAssign (.Name gF p12) .BitXor (.Name kB p13) p14::r)=o:=λ{o r p1 p2 p3 p4 p5 p6 p7 p8 p9 p10 p11 p12 p13 p14} hp1 hp2 ho=>by
    refine a8 (rJ (d:=.str (bE j)) (by decide) hp1 (nH a2.n) ?_ ?_) ?_
    ·refine Jf (ds:=[.int ((2^j:Nat):Int),.str (mr j)]) (by decide) (by decide) hp2 rfl ?_ (by refine aa hd ?_;rfl) rfl;refine aG (aD (by decide) (aH a1)) (aG (az (h:=?_)) a7);refine jC (a:=.int ((2^j:Nat):Int)) (by decide) (aD (by decide) (aH a1)) ?_ rfl;have hh:bX O (af "hex") [.int ((2^j:Nat):Int)]=if aZ (mr j).length=true then some (.str (mr j)) else none:=rfl
     exact aa hh (aa (if_pos (CD j hj32)) rfl)
    ·unfold aZ;exact mY (Sp hj hN)
    ·refine a8 (oJ (d:=.int ((m - 2^j:Nat):Int)) (by decide) (by decide) (m7 (by refine aw (by decide) ?_;exact a2.f)) (aC (by decide) (by refine aw (by decide) ?_;exact a1)) ?_) ho;refine aA (Js hb) ?_;rfl
   have hnot:∀q1 q2,pT O 50 jl (put (put σ1 i6 (.own (N++[.str (bE j)]))) gF (.sh (.int ((m - 2^j:Nat):Int)))) (.UnaryOp .Not (.Name gF q1) q2)=some (decide (m - 2^j=0)):=λq1 q2=>by
    have:=H3 (p:=q2) (show pT O 49 jl (put (put σ1 i6 (.own (N++[.str (bE j)]))) gF (.sh (.int ((m - 2^j:Nat):Int)))) (.Name gF q1)=some (((m - 2^j:Nat):Int) != 0) by rw[jG (by decide) b1];rfl);refine aa this ?_;congr 1
    by_cases z:m - 2^j=0
    ·refine aa z ?_;rfl
    ·simp[z]
   by_cases hz:m - 2^j=0
   ·refine au _ (yd (q:=.bk _) (hstep (nk (?_:px O 55 jl σ1 _=some (.bk (put (put σ1 i6 (.own (N++[.str (bE j)]))) gF (.sh (.int ((m - 2^j:Nat):Int)))))) (λζ z=>nomatch z))) (λζ z=>nomatch z)) ?_
    ·rw[l6 (by (rewrite[hbin];exact aa hb rfl)),if_pos rfl];refine hblk rfl rfl (nk ?_ (λζ z=>nomatch z));rw[l6 (by (rewrite[hnot];exact aa (decide_eq_true hz) rfl)),if_pos rfl];exact LP
    ·refine aa b2 (aa pR ?_);rw[if_pos (by simp[hb])];have:(eX (j+1) k).filter (λi=>m.testBit i)=[]:=by rw[List.filter_eq_nil_iff];intro i hi;have hi:=(sK.mp hi).1;have:=c2 i;rw[hz,Ga] at this;have hne:i≠j:=BG hj hi;simp[hne] at this;simp[this]
     refine aa this ?_;rfl
   ·refine ah (ih (j+1) (m - 2^j) (N++[.str (bE j)]) _ (BY hj) (EZ (by assumption)) (Nat.sub_lt_of_lt (by assumption)) c1 ⟨b1,b2⟩ (by refine aa cm ?_;simp;assumption)) λσ' e1 e2=>?_;refine au σ' ((gr (hstep (a8 ?_ bh)) rfl).trans e1) ?_
    ·rw[l6 (by (rewrite[hbin];exact aa hb rfl)),if_pos rfl];refine hblk rfl rfl (a8 ?_ bh);rw[l6 (by (rewrite[hnot];exact aa (decide_eq_false hz) rfl)),if_neg (by decide)];exact bh
    ·refine aa e2 (aa pR ?_);rw[if_pos (by simp[hb]),ga];congr 3;show [PV.str (bE j)]++_=PV.str (bE j)::_;refine aa List.singleton_append ?_;congr 2;apply List.filter_congr;intro i hi;have hi:=(sK.mp hi).1;refine aa (c2 i) ?_;have hne:i≠j:=BG hj hi;simp[hne]
noncomputable def qU:List Nat:=[44,32]
noncomputable def jS (m:Nat):List Nat:=(eX 0 32).filter λi=>m.testBit i
theorem Pg {m:Nat} (h0:0<m) (hm:m<2^32):bZ pw O0 fS [.int m]=some (.str (S (eM qU ((jS m).map λi=>Lx (bE i))))):=by
 have hrun:aO O0 60 jl [(gF,.sh (.int m))] me=some (.rt (.str (S (eM qU ((jS m).map λi=>Lx (bE i)))))):=by
  refine a8 (oS (by decide) (pg a7 rfl)) ?_;show aO O0 59 jl [(gF,.sh (.int m)),(i6,.own [])] (me.drop 1)=_;refine ah (Pc (O:=O0) rfl 32 0 m [] [(gF,.sh (.int m)),(i6,.own [])] rfl h0 hm (Nat.mod_one m) ⟨rfl,rfl⟩ (iY _)) λσ' e1 e2=>?_;refine a8 (Tz (σ':=σ') (xs:=(eX 0 32).map λi=>.int ((i:Nat):Int)) rfl e1) ?_;rw[sC] at e2;have e3:((eX 0 32).filter λi=>m.testBit i).map (λi=>PV.str (bE i))=bj ((jS m).map λi=>Lx (bE i)):=by unfold bj jS;refine aa eK ?_;apply mZ;intro i _;show PV.str (bE i)=PV.str (S (Lx (bE i)));rw[yh]
  replace e2:=e3▸e2;have hb:∀i∈jS m,i<32:=λi hi=>by have:=(jp.mp hi).1;have:=sK.mp this;exact Up this
  have hlen:(jS m).length<=32:=aB (sP _ _) (by simp);have hsum:(((jS m).map λi=>Lx (bE i)).map eI).sum<=20*(jS m).length:=by
   have key:∀l:List Nat,(∀i∈l,i<32)->((l.map λi=>Lx (bE i)).map eI).sum<=20*l.length:=by
    intro l
    induction l with
    |nil=>intro _;simp
    |cons a r ih=>intro h;have h1:=wg a (h a (.head _));have h2:=ih λi hi=>h i (.tail _ hi);rw[wm] at h1;simp only[bQ,eY,dH] at h2 ⊢;exact RM h1 h2
   exact key _ hb
  refine iP (lZ (h0:=rfl) (hp:=rfl) (hl:=rfl) (h1:=fF (by decide)) (h2:=aG (aD (by decide) (nG e2)) a7) (h:=?_));have hj:=w4 (sep:=qU) (R:=(jS m).map λi=>Lx (bE i)) (by (rewrite[ca];refine aa (show qU.length=2 from rfl) ?_);exact PJ hlen hsum);have e:bM (.str (af ", ")) (af "join") [.list (bj ((jS m).map λi=>Lx (bE i)))]=_:=hj;refine aa e ?_;unfold dw
  split<;>rfl
 refine nC (d:=bH fS) rfl rfl ?_;exact hrun
end
open PySem.StrLaws
section
variable {a0:Nat} {s0:List Nat}
noncomputable def jg (a0:Nat) (s0:List Nat):List (List Nat)->List Nat
 |[]=>[]
 |[w]=>w
 |w::ws=>w++(a0::s0)++jg a0 s0 ws
theorem xn {a b}:jg a b []=[]:=rfl
theorem wZ {a b w}:jg a b [w]=w:=rfl
theorem wE {a b w v ws}:jg a b (w::v::ws)=w++(a::b)++jg a b (v::ws):=rfl
theorem uT (w v:List Nat) (ws:List (List Nat)):jg a0 s0 (w::v::ws)=w++(a0::s0)++jg a0 s0 (v::ws):=rfl
theorem AD:∀ws:List (List Nat),jg a0 s0 ws=eM (a0::s0) ws
 |[]=>rfl
 |[w]=>by simp[xn,wZ,wE,eM]
 |w::v::r=>by (rewrite[uT];refine aa (AD (v::r)) ?_);exact ga ..
theorem wQ (l:List Nat) (hi k:Nat) (hk:hi<=l.length):At (S l) (S (a0::s0)) hi k->l[k]?=some a0:=λh=>by
 refine bf ((mv l (a0::s0) hi k).mp h) λh1 h2=>?_;have h3:((l.drop k).take (a0::s0).length)[0]?=some a0:=by refine aa h2 ?_;rfl
 replace h3:=FW▸h3;simpa using h3
theorem Ew (X:List Nat):∀(ws:List (List Nat)) (w:List Nat) (a f:Nat) (cuts:List Nat),(∀u∈w::ws,a0∉u)->X.drop a=jg a0 s0 (w::ws)->a<=X.length->ChainG (S X) (S (a0::s0)) X.length a cuts f->(∀k,f<=k->¬ At (S X) (S (a0::s0)) X.length k)->partsFrom (S X) (a0::s0).length a cuts=(w::ws).map S
 |[],w,a,f,cuts,hf,hd,ha,hc,hn=>by
  have hd:X.drop a=w:=hd;have hcut:cuts=[]:=by
   induction cuts using aF with
   |nil=>rfl
   |cons c r=>
    refine aL hc λc1 c2 ζ=>?_;clear hc;have h:=wQ X _ c (aT _) c2;have:w[c - a]?=some a0:=by refine aA hd (aa sM ?_);rw[show a+(c - a)=c by exact mG (by assumption)];exact h
    exact absurd (mX this) (hf w (.head _))
  subst hcut;refine (?_:[sL (S X) a (S X).length]=[S w]);rewrite[tC,cc];refine aa hd ?_;have:X.length - a=w.length:=aA hd (aa eu rfl);rw[this,lF]
 |v::ws,w,a,f,cuts,hf,hd,ha,hc,hn=>by
  rw[uT] at hd;have hlen:X.length - a=w.length+((a0::s0).length+(jg a0 s0 (v::ws)).length):=by refine aA eu (aa hd (aa cm (aa cm ?_)));exact j2 _ _ _
  have hat:At (S X) (S (a0::s0)) X.length (a+w.length):=by rw[mv];refine⟨CZ ha hlen,?_⟩;rw[<- kN,hd,ga,zq,sN]
  have hno:∀k,a<=k->k<a+w.length->¬ At (S X) (S (a0::s0)) X.length k:=λk k1 k2 h=>by
   have h:=wQ X _ k (aT _) h;have h2:(X.drop a)[k - a]?=some a0:=by rw[sM,show a+(k - a)=k by exact mG (by assumption)];exact h
   rw[hd,ga,FX (CO k1 k2)] at h2;exact hf w (.head _) (mX h2)
  induction cuts using aF with
  |nil=>have e:f=a:=hc;exact absurd hat (hn _ (wC e))
  |cons c r=>
   refine eZ hc λc1 c2 c3 c4=>?_;clear hc;have ec:c=a+w.length:=by
    rcases WT c (a+w.length) with h|h|h
    ·exact absurd c2 (hno c c1 h)
    ·exact h
    ·exact absurd hat (c3 _ (gy _ _) h)
   subst ec;refine (?_:sL (S X) a (a+w.length)::partsFrom (S X) (a0::s0).length (a+w.length+(a0::s0).length) r=S w::(v::ws).map S);rw[tC,zo];have e1:(X.drop a).take w.length=w:=by (refine aa hd ?_;rewrite[ga];exact aa sN rfl)
   refine aa e1 ?_;congr 1;refine Ew X ws v (a+w.length+(a0::s0).length) f r (λu hu=>hf u (.tail _ hu)) ?_ (CZ ha hlen) c4 hn;rewrite[j2];refine aA kN (aa hd ?_);have:w++(a0::s0)++jg a0 s0 (v::ws)=(w++(a0::s0))++jg a0 s0 (v::ws):=rfl;rw[FY (cm ..)]
theorem LM (hlt:a0<256/\∀x∈s0,x<256) (w:List Nat) (ws:List (List Nat)) (hf:∀u∈w::ws,a0∉u):Txt.split (S (jg a0 s0 (w::ws))) (S (a0::s0))=(w::ws).map S:=by
 refine ah (occ_tight (S (jg a0 s0 (w::ws))) (S (a0::s0)) (by rw[cc];exact il _)) λf hc hn=>?_;rw[cc] at hc hn;have hp:=Ew (jg a0 s0 (w::ws)) ws w 0 f _ hf rfl (iY _) hc hn;have hk:i0 (S (a0::s0))=1:=by unfold i0;rw[if_pos (by simpa [S] using hlt)]
 unfold Txt.split;have hk2:¬ i0 (S (jg a0 s0 (w::ws)))<i0 (S (a0::s0)):=by
  refine aa hk ?_;unfold i0;split
  ·decide
  ·split<;>decide
 induction ws using aF with
 |nil=>
  have hocc:gR (S (jg a0 s0 [w])) (S (a0::s0)) 0 (S (jg a0 s0 [w])).length ((S (jg a0 s0 [w])).length+1)=[]:=by
   rw[cc];cases hq:gR (S (jg a0 s0 [w])) (S (a0::s0)) 0 (jg a0 s0 [w]).length ((jg a0 s0 [w]).length+1) with
   |nil=>rfl
   |cons c r=>replace hc:=hq▸hc;refine aL hc λζ c2 ζ=>?_;clear hc;have h:=wQ _ _ c (aT _) c2;exact absurd (mX (show w[c]?=some a0 from h)) (hf w (.head _))
  refine aa hocc ?_
  split
  ·rfl
  ·rfl
 |cons v ws=>
  have hne:¬ (S (jg a0 s0 (w::v::ws))).length<(S (a0::s0)).length:=by (rewrite[cc,cc,uT];refine aa cm (aa cm ?_));exact P0
  rw[if_neg (by simp only[FR,decide_eq_true_eq];exact λz=>z.elim hne hk2)];rw[cc];cases hq:gR (S (jg a0 s0 (w::v::ws))) (S (a0::s0)) 0 (jg a0 s0 (w::v::ws)).length ((jg a0 s0 (w::v::ws)).length+1) with
  |nil=>replace hp:=hq▸hp;have:=congrArg eI hp;nomatch this
  |cons c r=>rw[if_neg (by simp),partsBetween_eq];replace hp:=hq▸hp;exact hp
end
section
variable {O:Orc} {n:Nat} {sc sc':Scope} {σ σ':Sg} {α:Type}
theorem fj {elt:ac} {g:c9} {gs:List c9} {p:Pos} {xs ys:List PV} (hs:nU sc sc'=true) (hi:cS O n sc σ (dm g.target) g.iter=some xs) (hg:gM O n sc' (dK sc' σ) elt g gs xs=some ys) (hl:aZ ys.length=true):pe O (n+1) sc σ (.ListComp elt (g::gs) sc' p)=some (.list ys):=by refine aa uW (aa (if_pos hs) (aa hi ?_));show ka (gM O n sc' (dK sc' σ) elt g gs xs) PV.list=_;refine aa hg ?_;show (if aZ ys.length=true then some (PV.list ys) else none)=_;exact aa (if_pos hl) rfl
set_option tactic.hygienic true in
theorem rC:∀(names:List (Str×fq)) (x:Str),ew names=true->(names.filterMap λy=>match y.2 with|.free=>(match σ.lookup y.1 with|some (.sh d)=>some (y.1,Ent.sh d)|_=>none)|_=>none).lookup x=(if names.lookup x=some .free then (match σ.lookup x with|some (.sh d)=>some (.sh d)|_=>none) else none)
 |[],x,_=>rfl
 |(y,k)::r,x,h=>by
  rw[Cz] at h;simp only[bn,kK,Fk,beq_iff_eq] at h;have ih:=rC r x h.2
  by_cases hxy:x=y
  ·subst hxy;have hr:r.lookup x=none:=by
    cases e:r.lookup x with
    |none=>rfl
    |some k'=>exact absurd rfl (h.1 (x,k') (ck e))
   replace ih:=hr▸ih;simp only[reduceCtorEq,if_false] at ih;refine aa cX ?_;simp only[beq_self_eq_true];refine aa lz ?_;cases k with
   |free=>
    simp only[if_true];cases e:σ.lookup x with
    |none=>exact ih
    |some d=>
     induction d using Ent.casesOn with
     |sh d=>simp[dP]
     |own xs=>exact ih
   |_=>simp only[VH,reduceCtorEq,if_false];exact ih
  ·have hb:(x==y)=false:=beq_eq_false_iff_ne.mpr hxy;refine aa cX (aa hb ?_);simp only;refine aA ih (aa lz ?_)
   split
   ·rfl
   ·rename_i p hp;have:p.1=y:=by
     cases k<;>simp only[reduceCtorEq] at hp
     split at hp
     ·have h_:=ak hp;clear hp;subst h_;rfl
     ·exact ab hp
    obtain ⟨p1,p2⟩:=p;simp only at this;subst this;exact aa cX (aa hb rfl)
theorem dc {x:Str} {d:PV} (hn:ew sc'.names=true) (hx:sc'.names.lookup x=some .free) (h:σ.lookup x=some (.sh d)):(dK sc' σ).lookup x=some (.sh d):=by have:=rC (σ:=σ) sc'.names x hn;rw[if_pos hx,h] at this;exact this
theorem ef {x:Str} (hn:ew sc'.names=true) (hx:sc'.names.lookup x≠some .free):(dK sc' σ).lookup x=none:=by have:=rC (σ:=σ) sc'.names x hn;replace this:=(if_neg hx)▸this;exact this
theorem eE {n:Nat} {x:Str} {q:Pos} {d:PV} (hx:bb sc x=true) (h:σ.lookup x=none):bD true sc (n+1) σ (.Name x q) d=some (put σ x (.sh d)):=D9 hx (congrArg Option.isNone h)
theorem AO {x y:Str} {q r s:Pos} {k:Nat} {d e:PV} (hx:bb sc x=true) (hy:bb sc y=true) (hxy:y≠x) (h:σ.lookup x=none) (h2:σ.lookup y=none):bD true sc 4 σ (.Tuple [.Name x q,.Name y r] k s) (.tup [d,e])=some (put (put σ x (.sh d)) y (.sh e)):=
 nB (eE hx h) (nB (eE hy (by (rewrite[cE];refine aa (if_neg hxy) ?_);exact h2)) rfl)
theorem Ck {asg:Sg->PV->Option Sg} {tst:Sg->Option Bool} {body:Sg->Option (List PV)} {F:α->PV} {c:α->Bool} {G:α->List PV}:∀{xs:List α},(∀x∈xs,∃σ1,asg σ (F x)=some σ1/\tst σ1=some (c x)/\(c x=true->body σ1=some (G x)))->gj asg tst body (xs.map F) σ=some ((xs.filter c).flatMap G)
 |[],_=>rfl
 |x::xs,h=>by
  refine bo (h x (.head _)) λσ1 h1 h2 h3=>?_;have ih:=Ck (xs:=xs) λy hy=>h y (.tail _ hy);refine aa bQ ?_;refine aa xA ?_;simp only[h1,h2];refine aa pR ?_;cases hc:c x with
  |true=>simp only[h3 hc,ih,if_true,Gb]
  |false=>simp only[ih,dp,if_false]
theorem BO (G:α->PV):∀l:List α,l.flatMap (λx=>[G x])=l.map G
 |[]=>rfl
 |a::r=>by refine aa Gb (aa bQ (aa (BO G r) ?_));rfl
theorem Bg {elt t it:ac} {ifs:List ac} {xs:List α} {F G:α->PV} {c:α->Bool} (h:∀x∈xs,∃σ1,bD true sc' 4 σ' t (F x)=some σ1/\iG (pT O n sc' σ1) ifs=some (c x)/\(c x=true->pe O n sc' σ1 elt=some (G x))):gM O (n+1) sc' σ' elt {target:=t,iter:=it,ifs:=ifs,is_async:=0} [] (xs.map F)=some ((xs.filter c).map G):=by
 refine (?_:gj (λσ d=>bD true sc' 4 σ t d) (λσ=>iG (pT O n sc' σ) ifs) (λσ=>match pe O n sc' σ elt with|some d=>some [d]|none=>none) (xs.map F) σ'=_)
 have:=Ck (σ:=σ') (asg:=λσ d=>bD true sc' 4 σ t d) (tst:=λσ=>iG (pT O n sc' σ) ifs) (body:=λσ=>match pe O n sc' σ elt with|some d=>some [d]|none=>none) (F:=F) (c:=c) (G:=λx=>[G x]) (xs:=xs) (λx hx=>by
  refine bo (h x hx) λσ1 h1 h2 h3=>?_
  exact jD σ1 h1 h2 (λhc=>aa (h3 hc) rfl))
 rw[BO] at this;exact this
theorem fE {elt t it:ac} {xs:List α} {F G:α->PV} (h:∀x∈xs,∃σ1,bD true sc' 4 σ' t (F x)=some σ1/\pe O n sc' σ1 elt=some (G x)):gM O (n+1) sc' σ' elt {target:=t,iter:=it,ifs:=[],is_async:=0} [] (xs.map F)=some (xs.map G):=
 (Bg (c:=λζ=>true) λx hx=>ah (h x hx) λσ1 h1 h2=>jD σ1 h1 rfl λζ=>h2).trans (congrArg (λl=>some (FU G l)) (List.filter_eq_self.mpr λζ ζ=>rfl))
theorem Hw {a b:Nat} (hab:a<=b):lA (a:Int) (b:Int) 1=(bF (b - a)).map λk=>a+k:=by
 unfold lA;simp only[show (1:Int)>0 by decide,if_true,U4];have e:(if (a:Int)<(b:Int) then (b:Int) - a+1 - 1 else 0).toNat=b - a:=by split<;>lia
 refine aa e ?_;apply mZ;intro k _;exact H6
noncomputable def r0 (xs:List PV) (b:Int×Int×Int):List PV:=(lA b.1 b.2.1 b.2.2).filterMap (xs[·]?)
theorem nT {xs:List PV} {lo hi st:Option Int} (h:(st==some 0)=false):eG (.list xs) lo hi st=some (.list (r0 xs (eg lo hi st xs.length))):=by unfold eG;refine aa h ?_;rfl
theorem HD {xs:List PV} {a b:Nat} (hab:a<=b) (hb:b<=xs.length):eG (.list xs) (some (a:Int)) (some (b:Int)) none=some (.list ((xs.drop a).take (b - a))):=by
 have h1:¬ ((a:Int)<0):=fX.mpr (c8 _);have h2:¬ ((b:Int)<0):=fX.mpr (c8 _);have e1:aR (0:Int) (bL (a:Int) (xs.length:Int))=a:=ME hab hb h1;have e2:aR (0:Int) (bL (b:Int) (xs.length:Int))=b:=QC hb h2;have hbd:eg (some (a:Int)) (some (b:Int)) none xs.length=((a:Int),(b:Int),1):=by unfold eg;simp only[Option.getD_none,show (1:Int)>0 by decide,if_true,h1,h2,if_false,e1,e2]
 refine aa (nT rfl) (aa hbd ?_);unfold r0;simp only;rw[Hw hab,Yi xs (b - a) a (Sc hab hb)]
theorem DA {xs:List PV} {b:Nat} (hb:b<=xs.length):eG (.list xs) none (some (b:Int)) none=some (.list (xs.take b)):=by
 have h:=HD (a:=0) (iY b) hb;rw[qc,sJ] at h;rw[<- h,nT rfl,nT rfl];have e0:aR (0:Int) (bL 0 (xs.length:Int))=0:=Ay;have:eg none (some (b:Int)) none xs.length=eg (some ((0:Nat):Int)) (some (b:Int)) none xs.length:=by unfold eg;simp[e0]
 exact aa this rfl
theorem AT {fp p:Pos} {e:ac} {b:Int} {tt:Bool} (hg:bS sc (af "range")=true) (h:pe O n sc σ e=some (.int b)) (hb: -1000000<=b/\b<=1000000):cS O (n+1) sc σ tt (.Call (.Name (af "range") fp) [e] [] p)=some (fU 0 b):=by refine aa qS (aa (if_pos hg) ?_);rw[aG h a7];dsimp only;rw[if_pos (show (af "range" ==af "range")=true by decide),if_pos (by simp[hb.1,hb.2])]
theorem uq {fp p:Pos} {e1 e2:ac} {a b:Int} {tt:Bool} (hg:bS sc (af "range")=true) (h1:pe O n sc σ e1=some (.int a)) (h2:pe O n sc σ e2=some (.int b)) (ha: -1000000<=a/\a<=1000000) (hb: -1000000<=b/\b<=1000000):cS O (n+1) sc σ tt (.Call (.Name (af "range") fp) [e1,e2] [] p)=some (fU a b):=by refine aa qS (aa (if_pos hg) ?_);rw[aG h1 (aG h2 a7)];dsimp only;rw[if_pos (show (af "range" ==af "range")=true by decide),if_pos (by simp[hb.1,hb.2,ha.1,ha.2])]
theorem HT {fp p:Pos} {e:ac} {xs:List PV} (hg:bS sc (af "enumerate")=true) (h:pe O n sc σ e=some (.list xs)):cS O (n+1) sc σ true (.Call (.Name (af "enumerate") fp) [e] [] p)=some (d8 0 xs):=by refine aa qS (aa (if_pos hg) ?_);rw[aG h a7];dsimp only;rw[if_pos (show (af "enumerate" ==af "enumerate" &&true)=true by decide)]
theorem Op {fp p:Pos} {e1 e2:ac} {xs ys:List PV} (hg:bS sc (af "zip")=true) (h1:pe O n sc σ e1=some (.list xs)) (h2:pe O n sc σ e2=some (.list ys)):cS O (n+1) sc σ true (.Call (.Name (af "zip") fp) [e1,e2] [] p)=some (bT xs ys):=by refine aa qS (aa (if_pos hg) ?_);rw[aG h1 (aG h2 a7)];dsimp only;rw[if_pos (show (af "zip" ==af "zip" &&true)=true by decide)]
noncomputable def Ku:ac->Bool
 |.Call .. =>false
 |.Set .. =>false
 |_=>true
theorem gI {e:ac} {d:PV} {xs:List PV} {tt:Bool} (hn:Ku e=true) (h:pe O n sc σ e=some d) (hx:ny d=some xs):cS O (n+1) sc σ tt e=some xs:=by rw[o0 (by induction e using bt<;>first|rfl|exact aU hn|exact cL hn),h];exact hx
theorem LQ {o:ac} {name:Str} {apos p:Pos} {args:List ac} {d:PV} {xs:List PV} {tt:Bool} (h:pe O n sc σ (.Call (.Attribute o name apos) args [] p)=some d) (hx:ny d=some xs):cS O (n+1) sc σ tt (.Call (.Attribute o name apos) args [] p)=some xs:=by refine aa (o0 rfl) (aa h ?_);exact hx
end
noncomputable abbrev kv:Str:=af "table"
noncomputable abbrev jZ:Str:=af "at"
noncomputable abbrev lb:Str:=af "words"
noncomputable abbrev xL:Str:=af "word"
noncomputable abbrev jL:Str:=af "some"
noncomputable abbrev kT:Str:=af "base"
noncomputable abbrev oN:Str:=af "tables"
noncomputable abbrev gY:Str:=af "one"
noncomputable abbrev dJ:Str:=af "steps"
noncomputable abbrev dN:Str:=af "width"
noncomputable abbrev pK:Str:=af "ways"
noncomputable abbrev rX:Str:=af "first"
noncomputable abbrev nJ:Str:=af "seated"
noncomputable abbrev gZ:Str:=af "number"
noncomputable abbrev l8:Str:=af "wish"
noncomputable def tabW:List Str:=["OPTIMIZED", "NEWLOCALS", "VARARGS", "VARKEYWORDS", "NESTED", "GENERATOR", "NOFREE", "COROUTINE", "ITERABLE_COROUTINE", "ASYNC_GENERATOR"]
noncomputable def tabP:PV:=.list (tabW.map .str)
theorem NP:kH (af "OPTIMIZED NEWLOCALS VARARGS VARKEYWORDS NESTED GENERATOR NOFREE COROUTINE ITERABLE_COROUTINE ASYNC_GENERATOR")=tabW:=by decide+kernel
theorem Uo:(let x:=af "OPTIMIZED NEWLOCALS VARARGS VARKEYWORDS NESTED GENERATOR NOFREE COROUTINE ITERABLE_COROUTINE ASYNC_GENERATOR";aZ (vo x (x.length+1)).length)=true:=by decide+kernel
theorem Oa:bM (.str (af "OPTIMIZED NEWLOCALS VARARGS VARKEYWORDS NESTED GENERATOR NOFREE COROUTINE ITERABLE_COROUTINE ASYNC_GENERATOR")) (af "split") []=some tabP:=by
 unfold bM;simp only;refine aa NP ?_;rw[if_pos]
 ·rfl
 ·have:=Uo;simp only at this;refine aa this ?_;decide+kernel
noncomputable def cR (s:Nat):List Nat:=(bF 4).filter λi=>s.testBit i
theorem Hn:∀b,b<29->∀s,s<16->jS (s*2^b)=(cR s).map (·+b):=by decide+kernel
theorem D6:∀i,i<32->44∉Lx (bE i):=by decide+kernel
theorem Pb:∀b,b<29->∀k,k<4->((bF 4).map λj=>bE (b+j)).findIdx? (·==bE (k+b))=some k:=by decide+kernel
theorem IJ:∀i,i<32->10<=i->bE i=mr i:=by decide+kernel
theorem Ts:∀i,i<10->tabW[i]?=some (bE i):=by decide+kernel
section
variable {O:Orc} {n:Nat} {sc:Scope} {σ σ':Sg}
theorem ui {i:Nat} (h:i<=1000000):bU .Pow (.int 2) (.int i)=some (.int ((2^i:Nat):Int)):=by
 unfold bU;simp only;rw[if_pos]
 ·congr 2
 ·simp only[bn,decide_eq_true_eq];refine⟨c8 _,?_⟩;have e1:((cg 2:Nat):Int)=2:=by decide
  have e2:(2:Int)^27=134217728:=by decide
  refine aa e1 (aa e2 ?_);exact J3 h
theorem zG:∀l:List Str,kl (l.map .str)=some l
 |[]=>rfl
 |x::l=>by show (kl (l.map .str)).map (x:: ·)=_;refine aa (zG l) ?_;rfl
theorem qI:∀l:List Int,fN (l.map .int)=some l
 |[]=>rfl
 |x::l=>by show (fN (l.map .int)).map (x:: ·)=_;refine aa (qI l) ?_;rfl
theorem g9 {xs:List PV} {i:Nat} (h:i<xs.length):fL (.list xs) (.int i)=xs[i]?:=by unfold fL;simp only;rw[F0 (i:=(i:Int)) (c8 _) (vP.mpr (by assumption))];rfl
theorem IA {i:Nat} (hi:i<32) {p1 p2 p3 p4 p5 p6 p7 p8 p9 p10 p11:Pos} (hv1:br sc jZ=true) (hv2:br sc kv=true) (hg:bS sc (af "hex")=true) (h1:σ.lookup jZ=some (.sh (.int i))) (h2:σ.lookup kv=some (.sh tabP)):pe O (n+6) sc σ (.IfExp (.Compare (.Name jZ p1) [.Lt] [.Constant (.int 10) 0 p2] p3) (.Subscript (.Name kv p4) (.Name jZ p5) p6) (.Call (.Name (af "hex") p7) [.BinOp (.Constant (.int 2) 0 p8) .Pow (.Name jZ p9) p10] [] p11) p1)=some (.str (bE i)):=by
 have ho:cz σ (.Name kv p4)=false:=dh h2;refine Gl (c:=decide ((i:Int)<10)) (bA (d:=.bool (decide ((i:Int)<10))) (h:=az (h:=bu (a:=.int i) (b:=.int 10) (aD hv1 (aH h1)) (az (h:=aW)) rfl)) (ht:=rfl)) (λhc=>?_) (λhc=>?_)
 ·have hi10:i<10:=by have:=of_decide_eq_true hc;lia
  refine hJ (h1:=aD hv2 (aH h2)) (h2:=aC hv1 h1) (ho:=ho) (h:=?_);unfold tabP;rw[g9 (by simp[tabW];assumption),eJ,Ts i hi10];rfl
 ·have hi10:10<=i:=by have:=of_decide_eq_false hc;lia
  refine dz (ds:=[.int ((2^i:Nat):Int)]) hg rfl (aG (az (h:=aQ aW (aC hv1 h1) (ui (aB (n7 (by assumption)) (by decide))))) a7) ?_ (.inr rfl);have hh:bX O (af "hex") [.int ((2^i:Nat):Int)]=if aZ (mr i).length=true then some (.str (mr i)) else none:=rfl
  exact aa hh (aa (if_pos (CD i hi)) (aa (IJ i hi hi10) rfl))
theorem uU {a k:Nat}:fU (a:Int) ((a:Int)+(k:Int))=(bF k).map λj=>.int ((a+j:Nat):Int):=by unfold fU;have:((a:Int)+(k:Int) - (a:Int)).toNat=k:=LI;refine aa this ?_;apply mZ;intro j _;congr 1
end
noncomputable def eA:Scope:=(bH ie).scope
noncomputable def gf:List aN:=(bH ie).body
noncomputable def dy (b:List aN) (i:Nat):ac:=match b[i]? with
 |some (.Assign _ e _)=>e
 |some (.If t _ _ _)=>t
 |_=>.Constant .none 0 ⟨0,0,0,0⟩
noncomputable def dY (s:Nat):PV:=.list ((cR s).map λi=>.int ((i:Nat):Int))
noncomputable def hM:List PV:=(bF 15).map λk=>dY (k+1)
noncomputable def iw (b:Nat):PV:=.list ((bF 4).map λj=>.str (bE (b+j)))
theorem zH:∀ws:List (List Nat),(∀w∈ws,w.length<=20)->(jg 44 [32] ws).length<=22*ws.length
 |[],_=>by simp[xn,wZ,wE]
 |[w],h=>by have:=h w (.head _);simp[xn,wZ,wE];exact aB (by assumption) (b7 _ _)
 |w::v::r,h=>by have h1:=h w (.head _);have h2:=zH (v::r) λx hx=>h x (.tail _ hx);rw[uT];simp only[cm,dH,ev] at h2 ⊢;exact Px h1 h2
section
variable {O:Orc} {σ:Sg}
theorem Hx {b:Nat} (hb:b<=28) (h1:σ.lookup kT=some (.sh (.int b))) (h2:σ.lookup kv=some (.sh tabP)):pe O 57 eA σ (dy gf 1)=some (iw b):=by
 refine fj (xs:=(bF 4).map λj=>.int ((b+j:Nat):Int)) (by decide) ?_ (fE (F:=λj=>.int ((b+j:Nat):Int)) (G:=λj=>.str (bE (b+j))) λj hj=>?_) rfl
 ·refine aA uU ?_;exact uq (by decide) (aC (by decide) h1) (aQ (aC (by decide) h1) aW rfl) (RL hb) (Qi hb)
 ·have hj:=ft.mp hj;refine au _ (eE (by decide) (ef (by decide) (by decide))) ?_;refine IA (No hb hj) (by decide) (by decide) (by decide) (aS) ?_;refine aw (by decide) ?_;exact dc (by decide) (by decide) h2
theorem L3 {s b:Nat} (hs:0<s/\s<16) (hb:b<=28) (hO:O.fn fS [.int ((s*2^b:Nat):Int)]=bZ pw O0 fS [.int ((s*2^b:Nat):Int)]):∃x,O.fn fS [.int ((s*2^b:Nat):Int)]=some (.str x)/\bM (.str x) (af "split") [.str (af ", ")]=some (.list ((cR s).map λk=>.str (bE (k+b)))):=by
 have hpos:0<s*2^b:=W3 hs.1 (sI b);have hlt:s*2^b<2^32:=by
  have h1:2^b<=2^28:=mV (il _) hb
  calc s*2^b<=15*2^28:=lM (ID hs) h1
   _<2^32:=by decide
 have hv:=Pg hpos hlt;rw[Hn b (oa (by assumption)) s hs.2,eK] at hv;have htab:∀k∈cR s,k<4:=λk hk=>ft.mp (jp.mp hk).1;have hne:cR s≠[]:=by
  have:∀s,s<16->0<s->cR s≠[]:=by decide
  exact this s hs.2 hs.1
 refine au _ (hO.trans hv) ?_;obtain ⟨k0,r,hk⟩:∃k0 r,cR s=k0::r:=by
  cases h:cR s with
  |nil=>exact absurd h hne
  |cons a r=>exact pH a r rfl
 have hcomp:(λi=>Lx (bE i))∘(λx=>x+b)=λk=>Lx (bE (k+b)):=rfl;refine aa hcomp (aa hk (aa bQ ?_));have hj:=AD (a0:=44) (s0:=[32]) (Lx (bE (k0+b))::r.map λk=>Lx (bE (k+b)))
 have hsp:=LM (a0:=44) (s0:=[32]) (by decide) (Lx (bE (k0+b))) (r.map λk=>Lx (bE (k+b))) (λu hu=>by
  rcases ao.mp hu with rfl|hu
  ·exact D6 _ (by have:=htab k0 (by refine aa hk ?_;exact .head _);exact uJ hb this)
  ·obtain ⟨k,hk',rfl⟩:=dQ.mp hu
   exact D6 _ (by have:=htab k (by refine aa hk ?_;exact .tail _ hk');exact uJ hb this))
 have hlen:=zH (Lx (bE (k0+b))::r.map λk=>Lx (bE (k+b))) (λu hu=>by
  rcases ao.mp hu with rfl|hu
  ·rw[<- wm];exact wg _ (by have:=htab k0 (by refine aa hk ?_;exact .head _);exact uJ hb this)
  ·obtain ⟨k,hk',rfl⟩:=dQ.mp hu
   rw[<- wm];exact wg _ (by have:=htab k (by refine aa hk ?_;exact .tail _ hk');exact uJ hb this))
 have hcomma:eM qU (Lx (bE (k0+b))::r.map λk=>Lx (bE (k+b)))=jg 44 [32] (Lx (bE (k0+b))::r.map λk=>Lx (bE (k+b))):=hj.symm;refine aa hcomma ?_;have htl:(cR s).length<=4:=aB (sP _ _) (by simp);replace htl:=hk▸htl;simp only[dH,ca] at htl hlen;unfold bM;simp only;rw[if_pos (show (af "split" ==af "split")=true by decide),if_pos]
 ·have hS:af ", " =S (44::[32]):=by rfl
  refine aa hS (aa hsp ?_);congr 2;simp only[bQ,eK,yh];congr 1
 ·rw[cc];simp only[bn];refine⟨by decide,?_⟩;unfold aZ;exact mY (PB htl hlen)
noncomputable def Dj:ac->Scope
 |.ListComp _ _ s _=>s
 |_=>eA
theorem Ui {b:Nat} (hb:b<=28) (hO:∀m,O.fn fS [.int m]=bZ pw O0 fS [.int m]) (h1:σ.lookup kT=some (.sh (.int b))) (h2:σ.lookup lb=some (.sh (iw b))):pe O 56 eA σ (dy gf 2)=some (.list hM):=by
 refine fj (xs:=(bF 15).map λk=>.int ((1+k:Nat):Int)) (by decide) ?_ (fE (F:=λk=>.int ((1+k:Nat):Int)) (G:=λk=>dY (k+1)) λk hk=>?_) rfl
 ·have:=uU (a:=1) (k:=15);refine aA this ?_;exact uq (by decide) aW aW (by decide) (by decide)
 ·have hk:=ft.mp hk;refine au _ (eE (by decide) (ef (by decide) (by decide))) ?_;have g0:∀(sc':Scope),sc'=Dj (dy gf 2)->(put (dK sc' σ) jL (.sh (.int ((1+k:Nat):Int)))).lookup kT=some (.sh (.int b))/\(put (dK sc' σ) jL (.sh (.int ((1+k:Nat):Int)))).lookup lb=some (.sh (iw b)):=λsc' e=>by subst e;exact⟨by refine aw (by decide) ?_;exact dc (by decide) (by decide) h1,by refine aw (by decide) ?_;exact dc (by decide) (by decide) h2⟩
  refine bf (g0 _ rfl) λg1 g2=>?_;have g3:(put (dK (Dj (dy gf 2)) σ) jL (.sh (.int ((1+k:Nat):Int)))).lookup jL=some (.sh (.int ((1+k:Nat):Int))):=aS;refine ah (L3 (O:=O) (s:=1+k) (Jv hk) hb (hO _)) λx hx1 hx2=>?_;refine fj (xs:=(cR (1+k)).map λi=>.str (bE (i+b))) (by decide) ?_ (ys:=(cR (1+k)).map λi=>.int ((i:Nat):Int)) (fE (F:=λi=>.str (bE (i+b))) (G:=λi=>.int ((i:Nat):Int)) λi hi=>?_) ?_ |>.trans ?_
  ·refine LQ (d:=.list ((cR (1+k)).map λi=>.str (bE (i+b)))) (lZ (ds:=[.str (af ", ")]) (h0:=rfl) (hp:=rfl) (hl:=rfl) (h1:=dz (ds:=[.int (((1+k)*2^b:Nat):Int)]) (d:=.str x) (by decide) rfl (aG (az (h:=aQ (aC (by decide) g3) (aQ aW (aC (by decide) g1) (ui (aB (by assumption) (b7 _ _)))) ?_)) a7) hx1 (.inr rfl)) (h2:=aG (az (h:=fF (by decide))) a7) (h:=?_)) rfl
   ·rw[nq (.inl (aB (i7 (k:=5) (by lia)) (by decide)))];congr 2
   ·exact hx2
  ·have hi4:i<4:=ft.mp (jp.mp hi).1;refine au _ (eE (by decide) (ef (by decide) (by decide))) ?_;have q1:∀(s1:Scope) (τ:Sg),ew s1.names=true->s1.names.lookup lb=some .free->τ.lookup lb=some (.sh (iw b))->(put (dK s1 τ) xL (.sh (.str (bE (i+b))))).lookup lb=some (.sh (iw b)):=λs1 τ e1 e2 e3=>by refine aw (by decide) ?_;exact dc e1 e2 e3
   have q2:∀(τ:Sg),(put τ xL (.sh (.str (bE (i+b))))).lookup xL=some (.sh (.str (bE (i+b)))):=λτ=>by exact aS
   refine kc (r:=iw b) (ds:=[.str (bE (i+b))]) (by decide) rfl rfl (aH (q1 _ _ (by decide) (by decide) g2)) (aG (aD (by decide) (aH (q2 _))) a7) ?_;have hm:bM (iw b) (af "index") [.str (bE (i+b))]=some (.int ((i:Nat):Int)):=by
    unfold iw bM;simp only;rw[if_pos (show (af "index" ==af "index")=true by decide)];have:kl ((bF 4).map λj=>PV.str (bE (b+j)))=some ((bF 4).map λj=>bE (b+j)):=by have:=zG ((bF 4).map λj=>bE (b+j));replace this:=eK▸this;exact this
    refine aa this ?_;simp only;rw[Pb b (oa (by assumption)) i hi4];rfl
   refine aa hm ?_;unfold dw
   split<;>rfl
  ·have:(cR (1+k)).length<=4:=aB (sP _ _) (by simp);unfold aZ;exact mY (by rw[ca];exact aB (by assumption) (b7 _ _))
  ·unfold dY;exact aa (fk 1 k) rfl
end
noncomputable def cY (t:Nat->Int):PV:=.list ((bF 4).map λi=>.int (t i))
noncomputable def cA (t:Nat->Int) (s:Nat):Int:=aR 0 (((cR s).map t).sum)
noncomputable def coefN (s:Nat):Nat:=([1,1,2,6]:List Nat).getD ((cR s).length - 1) 0
noncomputable def cF (t:Nat->Int) (w s:Nat):Nat:=coefN s*2^(w*(cA t s).toNat)
noncomputable def jz (s:Nat):Int:=mD s (-(s:Int))
noncomputable def iF (s m:Nat):Bool:=(((m &&& s:Nat):Int)==(m:Int))&&(mD m (jz s)==jz s)
noncomputable def hU (f:Nat->Nat) (s:Nat) (W:List Nat):Nat:=(((bF s).filter λat_=>iF s (at_+1)).map λat_=>f (at_+1)*W.getD (s - (at_+1)) 0).sum
noncomputable def aE (l:List Nat):List PV:=l.map λx=>.int ((x:Nat):Int)
noncomputable def jK:ac×List aN:=bq (bq gf 5).2 1
section
variable {O:Orc} {σ σ':Sg}
structure jx (t:Nat->Int) (w s:Nat) (V W:List Nat) (σ:Sg):Prop where
 st:σ.lookup dJ=some (.sh (cY t))
 wi:σ.lookup dN=some (.sh (.int w))
 so:σ.lookup jL=some (.sh (.int s))
 fi:σ.lookup rX=some (.sh (.int (jz s)))
 se:σ.lookup nJ=some (.own (aE V))
 wa:σ.lookup pK=some (.own (aE W))
 ta:σ.lookup oN=some (.sh (.list hM))
theorem jx.put {t:Nat->Int} {w s:Nat} {V W:List Nat} (h:jx t w s V W σ) (x:Str) (e:Ent) (hx:x≠dJ/\x≠dN/\x≠jL/\x≠rX/\x≠nJ/\x≠pK/\x≠oN):jx t w s V W (put σ x e):=by
 refine yi hx λh1 h2 h3 h4 h5 h6 h7=>?_;clear hx
 exact⟨by (rewrite[cE];refine aa (if_neg (ek h1)) ?_);exact h.st,by (rewrite[cE];refine aa (if_neg (ek h2)) ?_);exact h.wi,by (rewrite[cE];refine aa (if_neg (ek h3)) ?_);exact h.so,by (rewrite[cE];refine aa (if_neg (ek h4)) ?_);exact h.fi,
  by (rewrite[cE];refine aa (if_neg (ek h5)) ?_);exact h.se,by (rewrite[cE];refine aa (if_neg (ek h6)) ?_);exact h.wa,by (rewrite[cE];refine aa (if_neg (ek h7)) ?_);exact h.ta⟩
theorem jx.seat {t:Nat->Int} {w s:Nat} {V V' W:List Nat} (h:jx t w s V W σ):jx t w s V' W (Mine.put σ nJ (.own (aE V'))):=
 ⟨by refine aw (by decide) ?_;exact h.st,by refine aw (by decide) ?_;exact h.wi,by refine aw (by decide) ?_;exact h.so,by refine aw (by decide) ?_;exact h.fi,
  aS,by refine aw (by decide) ?_;exact h.wa,by refine aw (by decide) ?_;exact h.ta⟩
theorem Mw {n:Nat} {sc:Scope} {e1 e2:ac} {p:Pos} {a b:Bool} (h1:pT O n sc σ e1=some a) (h2:pT O n sc σ e2=some b):pT O (n+1) sc σ (.BoolOp .And [e1,e2] p)=some (a&&b):=by
 refine (?_:(match W4,pT O n sc σ e1 with|.And,some false=>some false|.Or,some true=>some true|_,some _=>(match W4,pT O n sc σ e2 with|.And,some false=>some false|.Or,some true=>some true|_,some _=>some true|_,none=>none)|_,none=>none)=_);refine aa h1 (aa h2 ?_)
 induction a using dF<;>induction b using dF<;>rfl
theorem Ds {i j:Int}:bX O (af "max") [.int i,.int j]=some (.int (aR i j)):=rfl
theorem rI {l:List Int}:bX O (af "sum") [.list (l.map .int)]=some (.int l.sum):=by have:bX O (af "sum") [.list (l.map .int)]=(fN (l.map .int)).map λl=>.int l.sum:=rfl;refine aa this ?_;rw[qI];rfl
theorem SU {s i:Nat} (h:i∈cR s):i<4:=ft.mp (jp.mp h).1
theorem ug (s:Nat):(cR s).length<=4:=aB (sP _ _) (by simp)
theorem Kc {t:Nat->Int} {w s at_:Nat} {V W:List Nat} (h:jx t w s V W σ) (ha:at_<s) (hs:s<=15) (hW:W.length=s) (hV:V.length<=at_) (hb:∀x∈W,x<2^900000) (hw:w<=64) (ht:∀s,(cA t s).toNat<=12) (ht0:∀s,0<=cA t s):∃σ',cw O 50 eA jK.1 jK.2 σ (.tup [.int ((at_:Nat):Int),dY (at_+1)])=some (.nx σ')/\jx t w s (if iF s (at_+1)=true then V++[cF t w (at_+1)*W.getD (s - (at_+1)) 0] else V) W σ':=by
 have h1:=h.put jZ (.sh (.int ((at_:Nat):Int))) (by decide);have h2:=h1.put gY (.sh (dY (at_+1))) (by decide);have hst:∀q,cw O 50 eA jK.1 jK.2 σ (.tup [.int ((at_:Nat):Int),dY (at_+1)])=q↔aO O 50 eA (Mine.put (Mine.put σ jZ (.sh (.int ((at_:Nat):Int)))) gY (.sh (dY (at_+1)))) jK.2=q:=λq=>Iff.rfl;have g1:(Mine.put (Mine.put σ jZ (.sh (.int ((at_:Nat):Int)))) gY (.sh (dY (at_+1)))).lookup jZ=some (.sh (.int ((at_:Nat):Int))):=by refine aw (by decide) ?_;exact aS
 have g2:(Mine.put (Mine.put σ jZ (.sh (.int ((at_:Nat):Int)))) gY (.sh (dY (at_+1)))).lookup gY=some (.sh (dY (at_+1))):=aS;revert h2;revert hst;revert g1;revert g2;refine bB (Mine.put (Mine.put σ jZ (.sh (.int ((at_:Nat):Int)))) gY (.sh (dY (at_+1)))) λσ1=>?_;intro g2 g1 hst h2;have h3:=h2.put gZ (.sh (.int ((at_+1:Nat):Int))) (by decide);have g3:(Mine.put σ1 gZ (.sh (.int ((at_+1:Nat):Int)))).lookup gZ=some (.sh (.int ((at_+1:Nat):Int))):=aS;have g4:(Mine.put σ1 gZ (.sh (.int ((at_+1:Nat):Int)))).lookup gY=some (.sh (dY (at_+1))):=by refine aw (by decide) ?_;exact g2
 have hgo:∀{o:Option Out},aO O 49 eA (Mine.put σ1 gZ (.sh (.int ((at_+1:Nat):Int)))) (jK.2.drop 1)=o->cw O 50 eA jK.1 jK.2 σ (.tup [.int ((at_:Nat):Int),dY (at_+1)])=o:=λ{o} ho=>by rw[hst];exact a8 (cq (d:=.int ((at_+1:Nat):Int)) (by decide) (h:=aQ (aC (by decide) g1) aW rfl) (hs:=λxs z=>nomatch z)) ho
 revert h3;revert g3;revert g4;revert hgo;refine bB (Mine.put σ1 gZ (.sh (.int ((at_+1:Nat):Int)))) λσ2=>?_;intro hgo g4 g3 h3;have hT:pT O 47 eA σ2 (dy (jK.2) 1)=some (iF s (at_+1)):=by
  unfold iF;refine Mw (bA (d:=.bool (((((at_+1) &&& s:Nat):Int))==((at_+1:Nat):Int))) (h:=az (h:=bu (a:=.int (((at_+1) &&& s:Nat):Int)) (b:=.int ((at_+1:Nat):Int)) (az (h:=aQ (aC (by decide) g3) (aC (by decide) h3.so) ?_)) (aD (by decide) (aH g3)) rfl)) (ht:=rfl))
   (bA (d:=.bool (mD ((at_+1:Nat):Int) (jz s)==jz s)) (h:=az (h:=bu (a:=.int (mD ((at_+1:Nat):Int) (jz s))) (b:=.int (jz s)) (az (h:=aQ (aC (by decide) g3) (aC (by decide) h3.fi) rfl)) (aD (by decide) (aH h3.fi)) rfl)) (ht:=rfl))
  rw[<- w7];rfl
 cases hc:iF s (at_+1) with
 |false=>replace hT:=hc▸hT;rw[if_neg (by decide)];exact au σ2 (hgo (dD hT bh bh)) h3
 |true=>
  replace hT:=hc▸hT;refine aa (if_pos rfl) ?_;have h4:=h3.put l8 (.sh (.int (cA t (at_+1)))) (by decide);have g5:(Mine.put σ2 l8 (.sh (.int (cA t (at_+1))))).lookup l8=some (.sh (.int (cA t (at_+1)))):=aS;have g6:(Mine.put σ2 l8 (.sh (.int (cA t (at_+1))))).lookup gY=some (.sh (dY (at_+1))):=by refine aw (by decide) ?_;exact g4
  have g7:(Mine.put σ2 l8 (.sh (.int (cA t (at_+1))))).lookup gZ=some (.sh (.int ((at_+1:Nat):Int))):=by refine aw (by decide) ?_;exact g3
  refine au _ (hgo (iL hT (σ':=Mine.put (Mine.put σ2 l8 (.sh (.int (cA t (at_+1))))) nJ (.own (aE (V++[cF t w (at_+1)*W.getD (s - (at_+1)) 0])))) ?_ bh)) h4.seat;refine a8 (cq (d:=.int (cA t (at_+1))) (by decide) (h:=dz (ds:=[.int 0,.int (((cR (at_+1)).map t).sum)]) (by decide) rfl (aG (az (h:=aW)) (aG (az (h:=dz (ds:=[.list (((cR (at_+1)).map t).map .int)]) (by decide) rfl (aG (az (h:=?_)) a7) rI (.inr rfl))) a7)) Ds (.inr rfl)) (hs:=λxs z=>nomatch z)) ?_
  ·refine aa eK ?_;refine fj (xs:=(cR (at_+1)).map λi=>.int ((i:Nat):Int)) (by decide) (gI rfl (aC (by decide) g4) rfl) (fE (F:=λi=>.int ((i:Nat):Int)) (G:=PV.int∘t) λi hi=>?_) ?_
   ·refine au _ (eE (by decide) (ef (by decide) (by decide))) ?_;have hi4:=SU hi;refine hJ (h1:=aD (by decide) (aH (by refine aw (by decide) ?_;exact dc (by decide) (by decide) h3.st))) (h2:=aC (by decide) (aS)) (ho:=?_) (h:=?_)
    ·exact dh (by refine aw (by decide) ?_;exact dc (by decide) (by decide) h3.st)
    ·unfold cY;rw[g9 (by simp;assumption),eJ,oq hi4];rfl
   ·unfold aZ;exact mY (by have:=ug (at_+1);simp;exact aB (by assumption) (b7 _ _))
  ·have hlen:∀q1 q2 q3,pe O 40 eA (Mine.put σ2 l8 (.sh (.int (cA t (at_+1))))) (.Call (.Name (af "len") q1) [.Name gY q2] [] q3)=some (.int ((cR (at_+1)).length:Nat)):=λq1 q2 q3=>by refine jC (by decide) (aD (by decide) (aH g6)) ?_ rfl;unfold dY;refine aa uw ?_;simp
   have hw12:=ht (at_+1);have hmul:w*(cA t (at_+1)).toNat<=64*12:=lM hw hw12;have hwish:(w:Int)*cA t (at_+1)=((w*(cA t (at_+1)).toNat:Nat):Int):=by rewrite[yF];exact aa (vv (ht0 _)) rfl
   have hcoef:∀q1 q2 q3 q4 q5 q6 q7 q8 q9 q10 q11,pe O 42 eA (Mine.put σ2 l8 (.sh (.int (cA t (at_+1))))) (.Subscript (.Tuple [.Constant (.int 1) 0 q1,.Constant (.int 1) 0 q2,.Constant (.int 2) 0 q3,.Constant (.int 6) 0 q4] 0 q5) (.BinOp (.Call (.Name (af "len") q6) [.Name gY q7] [] q8) .Sub (.Constant (.int 1) 0 q9) q10) q11)=some (.int (coefN (at_+1):Nat)):=λq1 q2 q3 q4 q5 q6 q7 q8 q9 q10 q11=>by
    have hne:0<(cR (at_+1)).length:=by
     have:∀s,s<16->0<s->0<(cR s).length:=by decide
     exact this _ (wB ha hs) (il _)
    refine hJ (a:=.tup [.int 1,.int 1,.int 2,.int 6]) (k:=.int (((cR (at_+1)).length:Int) - 1)) (h1:=az (h:=rfl)) (h2:=aQ (hlen _ _ _) aW rfl) (ho:=rfl) (h:=?_);have h4':=ug (at_+1);unfold coefN;revert hne;revert h4';refine bB ((cR (at_+1)).length) λL=>?_;intro h4' hne;have hL:L=1\/L=2\/L=3\/L=4:=Jw h4' hne;rcases hL with rfl|rfl|rfl|rfl<;>rfl
   have hcl:coefN (at_+1)<=6:=by
    have:∀s,s<16->coefN s<=6:=by decide
    exact this _ (wB ha hs)
   have hgetD:W.getD (s - (at_+1)) 0<2^900000:=by have hlt:s - (at_+1)<W.length:=xP ha hW;refine aa jq (aa (gQ hlt) ?_);exact hb _ (E5 hlt)
   refine a8 (rJ (xs:=aE V) (d:=.int ((cF t w (at_+1)*W.getD (s - (at_+1)) 0:Nat):Int)) (by decide) rfl (nH h4.se) (aQ (a:=.int (((coefN (at_+1):Nat):Int)*((2^(w*(cA t (at_+1)).toNat):Nat):Int))) (aQ (b:=.int ((2^(w*(cA t (at_+1)).toNat):Nat):Int)) (hcoef _ _ _ _ _ _ _ _ _ _ _) (aQ aW (aQ (aC (by decide) h4.wi) (aC (by decide) g5) (nq (.inl (aB (i7 (k:=7) (ik (by assumption) (by decide))) (by decide))))) ?_) (nq (.inl (aB (i7 (k:=3) (ik (by assumption) (by decide))) (by decide))))) (rQ (d:=.int ((W.getD (s - (at_+1)) 0:Nat):Int)) (h1:=aD (by decide) (nG h4.wa)) (h2:=aQ (aC (by decide) h4.so) (aC (by decide) g7) (xo (yX (by assumption)))) (h:=?_) (hd:=rfl)) ?_) ?_) ?_
   ·refine aa hwish ?_;exact ui (aB (by assumption) (b7 _ _))
   ·unfold aE;rw[g9 (by simp;exact xP ha hW),eJ];have hlt:s - (at_+1)<W.length:=xP ha hW;refine aa jq (aa (gQ hlt) ?_);rfl
   ·have hv:cF t w (at_+1)<2^800:=by
     unfold cF
     calc coefN (at_+1)*2^(w*(cA t (at_+1)).toNat)<=6*2^768:=lM hcl (mV (il _) hmul)
      _<2^800:=by decide
    have e:((coefN (at_+1):Nat):Int)*((2^(w*(cA t (at_+1)).toNat):Nat):Int)=((cF t w (at_+1):Nat):Int):=by unfold cF;push_cast;rfl
    refine aa e ?_;rewrite[nq (.inr ?_)]
    ·congr 2
    ·have:=i7 hv;have:=i7 hgetD;exact Gi (by assumption) this
   ·unfold aZ aE;exact mY (by simp;exact Tn ha hs hV)
   ·have:aE V++[.int ((cF t w (at_+1)*W.getD (s - (at_+1)) 0:Nat):Int)]=aE (V++[cF t w (at_+1)*W.getD (s - (at_+1)) 0]):=by unfold aE;simp
    refine aa this ?_;exact bh
end
noncomputable def ey (f:Nat->Nat):Nat->List Nat
 |0=>[1]
 |j+1=>ey f j++[hU f (j+1) (ey f j)]
theorem M6 {f}:ey f 0=[1]:=rfl
theorem sS {f j}:ey f (j+1)=ey f j++[hU f (j+1) (ey f j)]:=rfl
theorem pC (f:Nat->Nat):∀j,(ey f j).length=j+1
 |0=>rfl
 |j+1=>by refine aa sS ?_;simp[pC f j]
section
variable {O:Orc} {σ σ':Sg}
theorem PC {t:Nat->Int} {w s:Nat} {W:List Nat} (hs:s<=15) (hW:W.length=s) (hb:∀x∈W,x<2^900000) (hw:w<=64) (ht:∀s,(cA t s).toNat<=12) (ht0:∀s,0<=cA t s):∀(k a:Nat) (V:List Nat) (σ:Sg),a+k=s->V.length<=a->jx t w s V W σ->∃σ',cj (cw O 50 eA jK.1 jK.2) ((eX a k).map λat_=>.tup [.int ((at_:Nat):Int),dY (at_+1)]) σ=some (.nx σ')/\
   jx t w s (V++((eX a k).filter λat_=>iF s (at_+1)).map λat_=>cF t w (at_+1)*W.getD (s - (at_+1)) 0) W σ':=by
 intro k
 induction k with
 |zero=>intro a V σ _ _ h;exact au σ rfl (by simpa using h)
 |succ k ih=>
  intro a V σ hak hV h;refine ah (Kc (O:=O) h (at_:=a) (Jj hak) hs hW hV hb hw ht ht0) λσ1 e1 h1=>?_;have hlen:(if iF s (a+1)=true then V++[cF t w (a+1)*W.getD (s - (a+1)) 0] else V).length<=a+1:=by
   split
   ·refine aa cm ?_;simp;assumption
   ·exact sg (by assumption)
  refine ah (ih (a+1) _ σ1 (Oe hak) hlen h1) λσ' e2 h2=>?_;refine au σ' ((gr e1 rfl).trans e2) ?_;refine aa zu (aa pR ?_);cases hc:iF s (a+1) with
  |true=>rw[hc,if_pos rfl] at h2;refine aa (if_pos rfl) (aa bQ ?_);rw[ga] at h2;exact h2
  |false=>rw[hc,if_neg (by decide)] at h2;rw[if_neg (by decide)];exact h2
structure uV (t:Nat->Int) (w:Nat) (W:List Nat) (σ:Sg):Prop where
 st:σ.lookup dJ=some (.sh (cY t))
 wi:σ.lookup dN=some (.sh (.int w))
 wa:σ.lookup pK=some (.own (aE W))
 ta:σ.lookup oN=some (.sh (.list hM))
theorem Lz (l:List Nat):bX O (af "sum") [.list (aE l)]=some (.int ((l.sum:Nat):Int)):=by
 have:aE l=(l.map λx:Nat=>(x:Int)).map .int:=by simp[aE]
 refine aa this (aa rI ?_);congr 2
 induction l with
 |nil=>rfl
 |cons a l ih=>(refine aa bQ (aa eY (aa eY ?_));rw[ih (by simp[aE])]);push_cast;rfl
theorem Me {s:Nat} (hs:s<=15):eG (.list hM) none (some (s:Int)) none=some (.list ((bF s).map λa=>dY (a+1))):=by rw[DA (by simp[hM];assumption)];congr 2;unfold hM;refine aA List.map_take (aa List.take_range ?_);congr 2;exact Tr hs
theorem Cb {F:Nat->PV}:∀(k a:Nat),d8 a ((eX a k).map F)=(eX a k).map λi=>.tup [.int ((i:Nat):Int),F i]
 |0,_=>rfl
 |k+1,a=>by refine aa zu (aa bQ (aa bQ ?_));show PV.tup [.int ((a:Nat):Int),F a]::d8 (a+1) _=_;exact aa (Cb k (a+1)) rfl
theorem IB {t:Nat->Int} {w s:Nat} {W:List Nat} (h:uV t w W σ) (hs0:1<=s) (hs:s<=15) (hW:W.length=s) (hb:∀x∈W,x<2^900000) (hw:w<=64) (ht:∀s,(cA t s).toNat<=12) (ht0:∀s,0<=cA t s):∃σ',cw O 53 eA (bq gf 5).1 (bq gf 5).2 σ (.int ((s:Nat):Int))=some (.nx σ')/\uV t w (W++[hU (cF t w) s W]) σ':=by
 have hI:jx t w s [] W (put (put (put σ jL (.sh (.int s))) rX (.sh (.int (jz s)))) nJ (.own (aE []))):=
  ⟨by refine aw (by decide) ?_;refine aw (by decide) ?_;refine aw (by decide) ?_;exact h.st,by refine aw (by decide) ?_;refine aw (by decide) ?_;refine aw (by decide) ?_;exact h.wi,
   by refine aw (by decide) ?_;refine aw (by decide) ?_;exact aS,by refine aw (by decide) ?_;exact aS,aS,
   by refine aw (by decide) ?_;refine aw (by decide) ?_;refine aw (by decide) ?_;exact h.wa,by refine aw (by decide) ?_;refine aw (by decide) ?_;refine aw (by decide) ?_;exact h.ta⟩
 have hsome:(put σ jL (.sh (.int ((s:Nat):Int)))).lookup jL=some (.sh (.int s)):=aS;refine ah (PC (O:=O) hs hW hb hw ht ht0 s 0 [] _ (jr _) (aT _) hI) λσ1 e1 h1=>?_;rw[sC] at h1;have hsn:hU (cF t w) s W=(((eX 0 s).filter λat_=>iF s (at_+1)).map λat_=>cF t w (at_+1)*W.getD (s - (at_+1)) 0).sum:=by unfold hU;exact aa zv rfl
 refine au (put σ1 pK (.own (aE (W++[hU (cF t w) s W])))) ?_ ⟨by refine aw (by decide) ?_;exact h1.st,by refine aw (by decide) ?_;exact h1.wi,aS,by refine aw (by decide) ?_;exact h1.ta⟩;show aO O 53 eA (put σ jL (.sh (.int ((s:Nat):Int)))) (bq gf 5).2=_;refine a8 (ue (xs:=[rX,nJ]) (ents:=[.sh (.int (jz s)),.own []]) rfl rfl (aG (nh (d:=.int (jz s)) (h:=aQ (aC (by decide) hsome) (pA (aC (by decide) hsome)) rfl) (hs:=λxs z=>nomatch z)) (aG (pg a7 rfl) uF))) ?_;show aO O 52 eA (put (put (put σ jL (.sh (.int s))) rX (.sh (.int (jz s)))) nJ (.own (aE []))) ((bq gf 5).2.drop 1)=_;refine a8 (rS (xs:=(eX 0 s).map λat_=>.tup [.int ((at_:Nat):Int),dY (at_+1)]) ?_ e1 bh) ?_
 ·refine aA (Cb s 0) (aA zv ?_);have h62:(2:Int)^62=4611686018427387904:=by decide
  exact HT (by decide) (eR (aC (by decide) hI.ta) cM (dO (aC (by decide) hI.so) (by lia)) cM (Me hs))
 ·refine a8 (rJ (xs:=aE W) (d:=.int ((hU (cF t w) s W:Nat):Int)) (by decide) rfl (nH h1.wa) (jC (by decide) (aD (by decide) (nG h1.se)) (by refine aa hsn ?_;exact Lz _) rfl) ?_) ?_
  ·unfold aZ aE;exact mY (by simp;exact Pj hs hW)
  ·have:aE W++[.int ((hU (cF t w) s W:Nat):Int)]=aE (W++[hU (cF t w) s W]):=by unfold aE;simp
   refine aa this ?_;exact bh
theorem Jd {l:List Nat} {B:Nat} (h:∀x∈l,x<=B):l.sum<=l.length*B:=by
 induction l with
 |nil=>simp
 |cons a l ih=>have h1:=h a (.head _);have h2:=ih λx hx=>h x (.tail _ hx);simp only[eY,dH,gD,jv];exact J2 h1 h2
theorem Je {t:Nat->Int} {w s:Nat} {W:List Nat} (hs:s<=15) (hw:w<=64) (ht:∀s,(cA t s).toNat<=12) {B:Nat} (hb:∀x∈W,x<2^B) (hB:0<B):hU (cF t w) s W<2^(B+1000):=by
 unfold hU;have h1:∀x∈(((bF s).filter λat_=>iF s (at_+1)).map λat_=>cF t w (at_+1)*W.getD (s - (at_+1)) 0),x<=2^800*2^B:=λx hx=>by
  refine ah (dQ.mp hx) λa ha e2_=>?_;subst e2_;have ha:=ft.mp (jp.mp ha).1;have hmul:w*(cA t (a+1)).toNat<=64*12:=lM hw (ht _);have hcl:coefN (a+1)<=6:=by
   have:∀s,s<16->coefN s<=6:=by decide
   exact this _ (N9 hs ha)
  refine lM ?_ ?_
  ·unfold cF
   calc coefN (a+1)*2^(w*(cA t (a+1)).toNat)<=6*2^768:=lM hcl (mV (il _) hmul)
    _<=2^800:=by decide
  ·refine aa jq ?_;cases e:W[s - (a+1)]? with
   |none=>exact iY _
   |some x=>exact ej (hb x (mX e))
 have h2:=Jd h1;have h3:((((bF s).filter λat_=>iF s (at_+1)).map λat_=>cF t w (at_+1)*W.getD (s - (at_+1)) 0)).length<=15:=by rw[ca];exact aB (sP _ _) (by simp;assumption)
 calc _<=_:=h2
  _<=15*(2^800*2^B):=vj _ h3
  _<2^1000*2^B:=by
   have:15*(2^800*2^B)=(15*2^800)*2^B:=by rw[vR]
   refine aa this ?_;exact Nat.mul_lt_mul_of_pos_right (by decide) (sI B)
  _=2^(B+1000):=by rw[fk B,mU]
theorem Bi {t:Nat->Int} {w:Nat} (hw:w<=64) (ht:∀s,(cA t s).toNat<=12):∀j,j<=15->∀x∈ey (cF t w) j,x<2^(1000*j+1)
 |0,_,x,hx=>by simp[M6,sS] at hx;subst hx;decide
 |j+1,hj,x,hx=>by
  have ih:=Bi hw ht j (lE (by assumption));skip;rcases be.mp hx with hx|hx
  ·exact cV (ih x hx) (mV (il _) (Te))
  ·simp only[ao,ba,or_false] at hx;subst hx;have:=Je (s:=j+1) hj hw ht ih (il _);have e:1000*j+1+1000=1000*(j+1)+1:=OY;rwa [e] at this
theorem TY {t:Nat->Int} {w:Nat} (hw:w<=64) (ht:∀s,(cA t s).toNat<=12) (ht0:∀s,0<=cA t s):∀(k j:Nat) (σ:Sg),j+k=15->uV t w (ey (cF t w) j) σ->∃σ',cj (cw O 53 eA (bq gf 5).1 (bq gf 5).2) ((eX (j+1) k).map λs=>.int ((s:Nat):Int)) σ=some (.nx σ')/\uV t w (ey (cF t w) 15) σ':=by
 intro k
 induction k with
 |zero=>intro j σ hj h;have:j=15:=Sl hj;subst this;exact au σ rfl h
 |succ k ih=>intro j σ hj h;refine ah (IB (O:=O) (s:=j+1) h (b7 _ _) (IQ hj) (pC _ _) (λx hx=>cV (Bi hw ht j (Ln hj) x hx) (mV (il _) (KL hj))) hw ht ht0) λσ1 e1 h1=>?_;refine ah (ih (j+1) σ1 (Lf hj) h1) λσ' e2 h2=>?_;exact au σ' ((gr e1 rfl).trans e2) h2
theorem Mq {s:Nat} (hs:s<16):bX O (af "sorted") [dY s]=some (dY s):=by
 unfold dY;have h0:(cR s).map (λi=>PV.int ((i:Nat):Int))=((cR s).map λi:Nat=>(i:Int)).map .int:=by simp
 have h1:bX O (af "sorted") [.list (((cR s).map λi:Nat=>(i:Int)).map .int)]=(match fN (((cR s).map λi:Nat=>(i:Int)).map .int) with
  |some l=>if decide ((((cR s).map λi:Nat=>(i:Int)).map PV.int).length<64) then some (PV.list ((l.mergeSort (λa b=>decide (a<=b))).map .int)) else none
  |_=>none):=rfl
 refine aa h0 (aa h1 ?_);rw[qI];simp only;rw[if_pos]
 ·rw[List.mergeSort_of_pairwise];have:∀s,s<16->((cR s).map λi:Nat=>(i:Int)).Pairwise (λa b=>decide (a<=b)=true):=by decide
  exact this s hs
 ·have:=ug s;simp;exact ik (by assumption) (by decide)
theorem IK {t:Nat->Int} {w b:Nat} (hO:∀m,O.fn fS [.int m]=bZ pw O0 fS [.int m]) (hb:b<=28) (hw:w<=64) (ht:∀s,(cA t s).toNat<=12) (ht0:∀s,0<=cA t s):aO O 60 eA [(dJ,.sh (cY t)),(kT,.sh (.int b)),(dN,.sh (.int w))] gf=some (.rt (.int (((ey (cF t w) 15).getD 15 0:Nat):Int))):=by
 refine a8 (cq (d:=tabP) (by decide) (h:=lZ (h0:=rfl) (hp:=rfl) (hl:=rfl) (h1:=fF (by decide)) (h2:=a7) (h:=Oa)) (hs:=λxs z=>rfl)) ?_;show aO O 59 eA [(dJ,.sh (cY t)),(kT,.sh (.int b)),(dN,.sh (.int w)),(kv,.sh tabP)] (gf.drop 1)=_;refine a8 (cq (d:=iw b) (by decide) (h:=Hx hb rfl rfl) (hs:=λxs z=>rfl)) ?_;show aO O 58 eA [(dJ,.sh (cY t)),(kT,.sh (.int b)),(dN,.sh (.int w)),(kv,.sh tabP),(lb,.sh (iw b))] (gf.drop 2)=_;refine a8 (cq (d:=.list hM) (by decide) (h:=Ui hb hO rfl rfl) (hs:=λxs z=>rfl)) ?_;show aO O 57 eA [(dJ,.sh (cY t)),(kT,.sh (.int b)),(dN,.sh (.int w)),(kv,.sh tabP),(lb,.sh (iw b)),(oN,.sh (.list hM))] (gf.drop 3)=_;refine dD (bA (d:=.bool false) (h:=az (h:=bu (a:=.list hM) (b:=.list hM) (az (h:=?_)) (aD (by decide) rfl) (by decide))) (ht:=rfl)) bh ?_
 ·refine fj (xs:=hM) (ys:=hM) (by decide) (gI rfl (aC (by decide) rfl) rfl) (fE (F:=λk=>dY (k+1)) (G:=λk=>dY (k+1)) λk hk=>?_) rfl;have hk:=ft.mp hk;refine au _ (eE (by decide) (ef (by decide) (by decide))) ?_
  exact dz (ds:=[dY (k+1)]) (by decide) rfl (aG (aD (by decide) (aH (aS))) a7) (Mq (EJ (by assumption))) (.inl (by
   simp only[j6,vV,Ft]
   exact dh (aS)))
 refine a8 (oS (by decide) (pg (aG aW a7) rfl)) ?_;show aO O 55 eA [(dJ,.sh (cY t)),(kT,.sh (.int b)),(dN,.sh (.int w)),(kv,.sh tabP),(lb,.sh (iw b)),(oN,.sh (.list hM)),(pK,.own (aE [1]))] (gf.drop 5)=_;refine ah (TY (O:=O) hw ht ht0 15 0 [(dJ,.sh (cY t)),(kT,.sh (.int b)),(dN,.sh (.int w)),(kv,.sh tabP),(lb,.sh (iw b)),(oN,.sh (.list hM)),(pK,.own (aE [1]))] rfl ⟨rfl,rfl,rfl,rfl⟩) λσ' e1 h1=>?_;refine a8 (rS (xs:=(eX 1 15).map λs=>.int ((s:Nat):Int)) ?_ e1 bh) ?_
 ·exact uq (by decide) aW aW (by decide) (by decide)
 ·refine iP (rQ (h1:=aD (by decide) (nG h1.wa)) (h2:=aW) (h:=?_) (hd:=rfl));have:=g9 (xs:=aE (ey (cF t w) 15)) (i:=15) (by unfold aE;rw[ca,pC];exact eH _);have e15:((15:Nat):Int)=15:=rfl;replace this:=e15▸this;refine aa this ?_;unfold aE;rw[eJ,jq,gQ (by rw[pC];exact eH _)];rfl
end
noncomputable def cH (q:Nat) (L:List Nat):Nat:=(L.map (q^ ·)).sum
theorem Eb (q:Nat) (A B:List Nat):cH q (A++B)=cH q A+cH q B:=by unfold cH;exact aa Gc (aa Vb rfl)
noncomputable def uh (A B:List Nat):List Nat:=A.flatMap λa=>B.map (a+ ·)
theorem B6 (q a:Nat):∀B:List Nat,cH q (B.map (a+ ·))=q^a*cH q B
 |[]=>vh _
 |b::B=>by have:=B6 q a B;unfold cH at this ⊢;simp only[bQ,eY];refine aa this ?_;rw[zr,mU]
theorem CR (q:Nat):∀A B:List Nat,cH q (uh A B)=cH q A*cH q B
 |[],B=>by simp[cH,uh]
 |a::A,B=>by have ih:=CR q A B;show cH q (B.map (a+ ·)++uh A B)=(q^a+cH q A)*cH q B;rewrite[Eb,B6];refine aa ih ?_;rw[gD]
theorem EA (q e:Nat):∀c:Nat,cH q (bJ c e)=c*q^e
 |0=>by simp[cH]
 |c+1=>by have ih:=EA q e c;refine aa iZ ?_;show q^e+cH q (bJ c e)=_;refine aa ih ?_;rw[gD,jv,fk]
theorem Da (q:Nat) {F:Nat->List Nat}:∀l:List Nat,cH q (l.flatMap F)=(l.map λx=>cH q (F x)).sum
 |[]=>rfl
 |a::l=>by (refine aa Gb ?_;rewrite[Eb];exact aa (Da q l) (aa bQ (aa eY rfl)))
theorem Cn:∀L:List Nat,cH 1 L=L.length
 |[]=>rfl
 |a::L=>by show 1^a+cH 1 L=_;refine aa (Cn L) ?_;rewrite[W5];refine aa dH ?_;rw[fk]
noncomputable def wO (c e:Nat->Nat) (s:Nat) (W:List (List Nat)):List Nat:=((bF s).filter λat_=>iF s (at_+1)).flatMap λat_=>uh (bJ (c (at_+1)) (e (at_+1))) (W.getD (s - (at_+1)) [])
noncomputable def iB (c e:Nat->Nat):Nat->List (List Nat)
 |0=>[[0]]
 |j+1=>iB c e j++[wO c e (j+1) (iB c e j)]
theorem Xn {c e}:iB c e 0=[[0]]:=rfl
theorem Xl {c e j}:iB c e (j+1)=iB c e j++[wO c e (j+1) (iB c e j)]:=rfl
theorem tU (q:Nat) (c e:Nat->Nat):∀j,ey (λs=>c s*q^e s) j=(iB c e j).map (cH q)
 |0=>by rfl
 |j+1=>by have ih:=tU q c e j;unfold ey iB;refine aa ih (aa Gc ?_);congr 1;refine aa bQ (aa qm ?_);congr 1;unfold hU wO;rw[Da];congr 1;apply mZ;intro a _;rw[CR,EA];congr 1;refine aa jq (aa jq (aa eJ ?_));cases (iB c e j)[j+1 - (a+1)]?<;>rfl
theorem DO (c e:Nat->Nat) (j:Nat):(iB c e j).length=j+1:=by have h:=congrArg eI (tU 1 c e j);rw[pC,ca] at h;exact h.symm
noncomputable def jj (L:List Nat) (m:Nat):List Nat:=(bF m).map λk=>L.count k
theorem v4 (n:Nat) (F:Nat->Nat):∀k a:Nat,bl n ((eX a k).map F)=((eX a k).map λi=>F i*2^(n*(i - a))).sum
 |0,a=>rfl
 |k+1,a=>by
  refine aa zu (aa bQ (aa bQ (aa eY ?_)));show F a+bl n ((eX (a+1) k).map F)*2^n=_;refine aa (v4 n F k (a+1)) ?_;rw[vQ,Nat.mul_zero,Nat.pow_zero,zt];congr 1;have:∀l:List Nat,(∀i∈l,a+1<=i)->(l.map λi=>F i*2^(n*(i - (a+1)))).sum*2^n=(l.map λi=>F i*2^(n*(i - a))).sum:=by
   intro l
   induction l with
   |nil=>intro _;simp
   |cons x l ih=>intro h;refine aa bQ (aa bQ (aa eY (aa eY ?_)));rw[gD,ih λi hi=>h i (.tail _ hi)];congr 1;have hx:=h x (.head _);rw[vR,<- mU];congr 2;have:x - a=(x - (a+1))+1:=GQ hx;refine aa this ?_;rw[zr,zt]
  exact this _ λi hi=>(sK.mp hi).1
theorem rW (n:Nat):∀(L:List Nat) (m:Nat),(∀e∈L,e<m)->cH (2^n) L=bl n (jj L m):=by
 intro L m h;have h0:=v4 n (λk=>L.count k) m 0;rw[<- zv] at h0;unfold jj;refine aa h0 ?_
 induction L with
 |nil=>
  simp only[cH,qm,List.sum_nil,List.count_nil,Nat.zero_mul];have:∀l:List Nat,(l.map λζ=>0).sum=0:=by intro l;induction l with|nil=>rfl|cons a l ih=>exact congrArg _ (by assumption)
  exact (this _).symm
 |cons a L ih=>
  have h1:=ih (λe he=>h e (.tail _ he)) (by
   have:=v4 n (λk=>L.count k) m 0;rw[<- zv] at this
   exact this)
  have ha:=h a (.head _);show (2^n)^a+cH (2^n) L=_;refine aa h1 ?_;have key:∀l:List Nat,l.Nodup->((l.map λi=>(a::L).count i*2^(n*(i - 0))).sum=(l.map λi=>L.count i*2^(n*(i - 0))).sum+if a∈l then (2^n)^a else 0):=by
   intro l
   induction l with
   |nil=>intro _;exact vh _
   |cons x l ih2=>
    intro hn;rw[vH] at hn;refine aa bQ (aa bQ (aa eY (aa eY (aa (ih2 hn.2) (aa zm ?_)))))
    by_cases hx:a=x
    ·subst hx;simp only[beq_self_eq_true,if_true,ao,true_or,hn.1,if_false,sJ,vh];rw[gD,jv,<- Gd];exact WR _ _ _
    ·have h2:(a==x)=false:=beq_eq_false_iff_ne.mpr hx;simp only[h2,dp,if_false,vh,ao,hx,false_or];exact (j2 _ _ _).symm
  refine aa (key _ List.nodup_range) (aa (if_pos (ft.mpr ha)) ?_);exact fk _ _
theorem tj (n:Nat):∀ds:List Nat,(∀d∈ds,d<2^n)->ez n ds.length (bl n ds)=ia ds
 |[],_=>rfl
 |d::ds,h=>by
  have hd:=h d (.head _);show (((d+bl n ds*2^n)%2^n:Nat):Int)::ez n ds.length ((d+bl n ds*2^n)/2^n)=_;have e1:(d+bl n ds*2^n)%2^n=d:=by (rewrite[Nat.add_mul_mod_self_right];exact aa (FI hd) rfl)
  have e2:(d+bl n ds*2^n)/2^n=bl n ds:=by (refine aa (Nat.add_mul_div_right _ _ (sI n)) (aa (zi hd) ?_);rw[jr])
  refine aa e1 (aa e2 ?_);rw[tj n ds λx hx=>h x (.tail _ hx)];rfl
theorem Lb {a b:List Nat} (h:ia a=ia b):a=b:=by unfold ia at h;exact (List.map_inj_right (f:=λd:Nat=>(d:Int)) (λx y (e:(x:Int)=(y:Int))=>W6 e)).mp h
theorem Nw {A B:List Nat} (hA:A.length<32) (hB:B.length<32) (h:cH 32 A=cH 32 B) (n:Nat):cH (2^n) A=cH (2^n) B:=by
 obtain ⟨m,hm⟩:∃m,∀e∈A++B,e<m:=by
  have:∀l:List Nat,∃m,∀e∈l,e<m:=by
   intro l
   induction l with
   |nil=>exact⟨0,λe he=>nomatch he⟩
   |cons a l ih=>
    refine ay ih λm hm=>?_;clear ih
    exact⟨aR m (a+1),λe he=>by
     rcases ao.mp he with rfl|he
     ·exact L9
     ·have:=hm e he;exact Tk this⟩
  exact this _
 have a1:=rW 5 A m λe he=>hm e (bC _ he);have b1:=rW 5 B m λe he=>hm e (bG _ he);have hc:∀(L:List Nat),L.length<32->∀d∈jj L m,d<2^5:=λL hL d hd=>by refine ah (dQ.mp hd) λk ζ e2_=>?_;subst e2_;exact ik lP hL
 have e32:(2:Nat)^5=32:=rfl;rw[e32] at a1 b1;have hd:ia (jj A m)=ia (jj B m):=by refine aA (tj 5 _ (hc A hA)) (aA (tj 5 _ (hc B hB)) (aA a1 (aA b1 (aa h ?_))));simp[jj]
 exact aa (rW n A m λe he=>hm e (bC _ he)) (aa (rW n B m λe he=>hm e (bG _ he)) (aa (Lb hd) rfl))
noncomputable def ordN:List (List Nat):=(bF 4).flatMap λi=>(bF 4).flatMap λj=>((bF 4).filter λk=>(!(i==j)&& !(i==k))&& !(j==k)).map λk=>[i,j,k,6 - i - j - k]
noncomputable def Ap (a b c d:Nat):Nat:=(a+(b+(c+(d - 3) - 3) - 3)) - 3
noncomputable def zW (f1 f2 f3 f4 f5 f6 f7 f8 f9 f10 f11 f12 f13 f14 f15:Nat):Nat:=
 let u:=f2*1+0;let v:=f4*1+0;let w:=f8*1+0;let z:=f4*w+(f12*1+0)
 f1*(f2*z+(f6*w+(f10*v+(f14*1+0))))+(f3*z+(f5*(f2*w+(f10*1+0))+(f7*w+(f9*(f2*v+(f6*1+0))+(f11*v+(f13*u+(f15*1+0)))))))
noncomputable def zU (a b c d:Nat):Nat:=zW (32^(a - 3)) (32^(b - 3)) (32^(a+b - 6)) (32^(c - 3)) (32^(a+c - 6)) (32^(b+c - 6)) (2*32^(a+b+c - 9)) (32^(d - 3)) (32^(a+d - 6)) (32^(b+d - 6)) (2*32^(a+b+d - 9)) (32^(c+d - 6)) (2*32^(a+c+d - 9)) (2*32^(b+c+d - 9)) (6*32^(a+b+c+d - 12))
noncomputable def ordL:List (List Nat):=[[0,1,2,3],[0,1,3,2],[0,2,1,3],[0,2,3,1],[0,3,1,2],[0,3,2,1],[1,0,2,3],[1,0,3,2],[1,2,0,3],[1,2,3,0],[1,3,0,2],[1,3,2,0],[2,0,1,3],[2,0,3,1],[2,1,0,3],[2,1,3,0],[2,3,0,1],[2,3,1,0],[3,0,1,2],[3,0,2,1],[3,1,0,2],[3,1,2,0],[3,2,0,1],[3,2,1,0]]
noncomputable def tw (A:Nat->Nat):List Nat->Nat
 |[i,j,k,l]=>Ap (A i) (A j) (A k) (A l)
 |_=>0
noncomputable def pick (a b c d:Nat):Nat->Nat
 |0=>a|1=>b|2=>c|_=>d
noncomputable def lU (a b c d:Nat):Nat:=cH 32 (ordL.map (tw (pick a b c d)))
noncomputable def Ef (a b:Nat):Bool:=(bF 7).all λc=>(bF 7).all λd=>Nat.beq (zU a b c d) (lU a b c d)
noncomputable def CL:Bool:=(bF 7).all λa=>(bF 7).all λb=>Ef a b
noncomputable def ChA (a:Nat):Bool:=(bF 7).all λb=>Ef a b
theorem ChA0:ChA 0=true:=by decide+kernel
theorem ChA1:ChA 1=true:=by decide+kernel
theorem ChA2:ChA 2=true:=by decide+kernel
theorem ChA3:ChA 3=true:=by decide+kernel
theorem ChA4:ChA 4=true:=by decide+kernel
theorem ChA5:ChA 5=true:=by decide+kernel
theorem ChA6:ChA 6=true:=by decide+kernel
theorem Mn:CL=true:=List.all_eq_true.mpr λa ha=>match a,List.mem_range.mp ha with
 |0,_=>ChA0
 |1,_=>ChA1
 |2,_=>ChA2
 |3,_=>ChA3
 |4,_=>ChA4
 |5,_=>ChA5
 |6,_=>ChA6
theorem L7 {a b c d:Nat} (ha:a<7) (hb:b<7) (hc:c<7) (hd:d<7):zU a b c d=lU a b c d:=by have h:=Mn;unfold CL at h;rw[dG] at h;have h1:=h a (ft.mpr ha);rw[dG] at h1;have h2:=h1 b (ft.mpr hb);unfold Ef at h2;rw[dG] at h2;have h3:=h2 c (ft.mpr hc);rw[dG] at h3;exact Nat.eq_of_beq_eq_true (h3 d (ft.mpr hd))
noncomputable def tG (s:Nat):List Nat:=([[],[0],[1],[0,2],[3],[0,4],[1,5],[0,2,4,6],[7],[0,8],[1,9],[0,2,8,10],[3,11],[0,4,8,12],[1,5,9,13],[0,2,4,6,8,10,12,14]]:List (List Nat)).getD s []
noncomputable def gU (a b c d:Nat):Nat->Nat
 |1=>32^(a - 3)|2=>32^(b - 3)|3=>32^(a+b - 6)|4=>32^(c - 3)|5=>32^(a+c - 6)|6=>32^(b+c - 6)|7=>2*32^(a+b+c - 9)|8=>32^(d - 3)|9=>32^(a+d - 6)|10=>32^(b+d - 6)
 |11=>2*32^(a+b+d - 9)|12=>32^(c+d - 6)|13=>2*32^(a+c+d - 9)|14=>2*32^(b+c+d - 9)|15=>6*32^(a+b+c+d - 12)|_=>1
noncomputable def zR (f:Nat->Nat):Nat->Nat->Nat
 |0=>λζ=>1
 |k+1=>λs=>Nat.casesOn s 1 λs=>((tG (s+1)).map λa=>f (a+1)*zR f k (s+1 - (a+1))).sum
theorem PR:∀s,s<16->((bF s).filter λat_=>iF s (at_+1))=tG s:=by decide+kernel
theorem QW {f:Nat->Nat} {s:Nat} (h:s<16) {W:List Nat}:hU f s W=((tG s).map λat_=>f (at_+1)*W.getD (s - (at_+1)) 0).sum:=by unfold hU;exact aa (PR s h) rfl
theorem T9:∀s,s<16->∀a∈tG s,a<s:=by decide+kernel
theorem PN {l r:List Nat} {i:Nat} (h:i<l.length):(l++r).getD i 0=l.getD i 0:=by exact aa jq (aa jq (aa (FX h) rfl))
theorem LB {l:List Nat} {x i:Nat} (h:l.length=i):(l++[x]).getD i 0=x:=by refine aa jq (aA h (aa (List.getElem?_append_right (aT _)) ?_));rw[vQ];rfl
theorem AU (f:Nat->Nat):∀n k s,s<=n->n<=15->s<=k->(ey f n).getD s 0=zR f k s:=by
 intro n
 induction n with
 |zero=>
  intro k s h _ _;refine aa (Nat.le_zero.mp h) ?_
  induction k using dq with
  |zero=>rfl
  |succ k=>rfl
 |succ n ih=>
  intro k s h hn hk;have el:(ey f n).length=n+1:=pC f n;rcases Nat.lt_or_eq_of_le h with h1|rfl
  ·have h1:=n7 h1;rewrite[sS];refine aa (PN (el▸oa h1)) ?_;exact ih k s h1 (lE hn) hk
  ·induction k using dq with
   |zero=>exact absurd hk (Nat.not_succ_le_zero n)
   |succ k=>rewrite[sS];refine aa (LB el) (aa (QW (oa hn)) ?_);refine congrArg W7 (mZ λa ha=>?_);have hm:n+1 - (a+1)<=n:=UL n a▸iU n a;exact aa (ih k _ hm (lE hn) (aB hm (U1 hk))) rfl
theorem Ub (f:Nat->Nat):zR f 15 15=zW (f 1) (f 2) (f 3) (f 4) (f 5) (f 6) (f 7) (f 8) (f 9) (f 10) (f 11) (f 12) (f 13) (f 14) (f 15):=rfl
theorem N1 {f g:Nat->Nat} (h:∀s,s<16->f s=g s):∀k s,s<16->zR f k s=zR g k s:=by
 intro k
 induction k with
 |zero=>exact λζ ζ=>rfl
 |succ k ih=>
  intro s hs
  induction s using dq with
  |zero=>rfl
  |succ s=>refine congrArg W7 (mZ λa ha=>?_);exact aa (h (a+1) (ik (T9 _ hs a ha) hs)) (aa (ih _ (ik (iU _ _) hs)) rfl)
noncomputable def cB (t:Nat->Int):List Nat->Nat
 |[]=>0
 |i::r=>(t i+(cB t r:Int)).toNat
theorem Br {t}:cB t []=0:=rfl
theorem uG {t i r}:cB t (i::r)=(t i+(cB t r:Int)).toNat:=rfl
noncomputable def cb (t:Nat->Int):List Nat:=ordN.map (cB t)
theorem tW:ordN=ordL:=by decide+kernel
theorem mn:ordN.length=24:=by decide+kernel
theorem uO (t:Nat->Int):(cb t).length=24:=by unfold cb;rewrite[ca];exact aa mn rfl
noncomputable def T3 (t:Nat->Int):Prop:=∀i,-3<=t i/\t i<=3
theorem Ag {t:Nat->Int} (h:T3 t):∀o:List Nat,cB t o<=3*o.length
 |[]=>aT _
 |i::r=>by have:=Ag h r;have:=h i;rewrite[uG];refine aa dH ?_;exact MT (by assumption) this
theorem qX:∀o∈ordN,o.length=4:=by decide+kernel
theorem Do {t:Nat->Int} (h:T3 t):∀e∈cb t,e<=12:=by intro e he;refine ah (dQ.mp he) λo ho e2_=>?_;subst e2_;have:=Ag h o;replace this:=(qX o ho)▸this;exact this
theorem ri {x:Int} {N k:Nat} (h:(N:Int)=x+k):(aR 0 x).toNat=N - k:=by rewrite[xf];refine aA (Int.sub_eq_iff_eq_add.mpr h) ?_;rw[yy]
theorem tX {x:Int} (h: -3<=x/\x<=3) (m:Nat):(x+(m:Int)).toNat=((x+3).toNat+m) - 3:=by
 have e:(((x+3).toNat+m:Nat):Int)=x+m+(3:Nat):=by rewrite[EE];refine aa (vv (Int.add_le_add_right h.1 3)) ?_;rw[Int.add_right_comm];rfl
 refine aA (ri e) ?_;rw[xf]
theorem Um {t:Nat->Int} (h:T3 t) (i j k l:Nat):cB t [i,j,k,l]=Ap (t i+3).toNat (t j+3).toNat (t k+3).toNat (t l+3).toNat:=by show (t i+((t j+((t k+((t l+((0:Nat):Int)).toNat:Nat)).toNat:Nat)).toNat:Nat)).toNat=_;rw[tX (h l),tX (h k),tX (h j),tX (h i)];rfl
theorem Rs (n:Nat):2^(5*n)=32^n:=by rw[Gd]
theorem gi {t:Nat->Int} (s:Nat) (l:List Nat) {m:Nat} (hl:cR s=l) (hm:(aR 0 (l.map t).sum).toNat=m):cF t 5 s=([1,1,2,6]:List Nat).getD (l.length - 1) 0*32^m:=by rewrite[cF,Rs,cA,coefN];exact aa hl (aa hm rfl)
theorem kx {a:Int} (h: -3<=a/\a<=3):(((a+3).toNat:Nat):Int)=a+3:=vv (PO h)
section
variable {a b c d:Int} {A B C D:Nat}
theorem JZ (ha:(A:Int)=a+3) (hb:(B:Int)=b+3):((A+B:Nat):Int)=a+(b+0)+(6:Nat):=Mv ha hb
theorem Ng (ha:(A:Int)=a+3) (hb:(B:Int)=b+3) (hc:(C:Int)=c+3):((A+B+C:Nat):Int)=a+(b+(c+0))+(9:Nat):=Mp ha hb hc
theorem Tv (ha:(A:Int)=a+3) (hb:(B:Int)=b+3) (hc:(C:Int)=c+3) (hd:(D:Int)=d+3):((A+B+C+D:Nat):Int)=a+(b+(c+(d+0)))+(12:Nat):=Rx ha hb hc hd
variable (ha: -3<=a/\a<=3) (hb: -3<=b/\b<=3) (hc: -3<=c/\c<=3) (hd: -3<=d/\d<=3)
include ha
theorem ur:(aR 0 (a+0)).toNat=(a+3).toNat - 3:=ri (k:=3) (by refine aa (kx ha) ?_;exact SM)
include hb
theorem pE:(aR 0 (a+(b+0))).toNat=(a+3).toNat+(b+3).toNat - 6:=ri (JZ (kx ha) (kx hb))
include hc
theorem ul:(aR 0 (a+(b+(c+0)))).toNat=(a+3).toNat+(b+3).toNat+(c+3).toNat - 9:=ri (Ng (kx ha) (kx hb) (kx hc))
include hd
theorem JA:(aR 0 (a+(b+(c+(d+0))))).toNat=(a+3).toNat+(b+3).toNat+(c+3).toNat+(d+3).toNat - 12:=ri (Tv (kx ha) (kx hb) (kx hc) (kx hd))
end
theorem ki {x y:Nat} (h:x=([1,1,2,6]:List Nat).getD 0 0*y):x=y:=h.trans (jv y)
theorem Ig {t:Nat->Int} (h:T3 t):∀s,s<16->cF t 5 s=gU (t 0+3).toNat (t 1+3).toNat (t 2+3).toNat (t 3+3).toNat s
 |0,_=>gi 0 [] rfl rfl
 |1,_=>ki (gi 1 [0] rfl (ur (h 0)))
 |2,_=>ki (gi 2 [1] rfl (ur (h 1)))
 |3,_=>ki (gi 3 [0,1] rfl (pE (h 0) (h 1)))
 |4,_=>ki (gi 4 [2] rfl (ur (h 2)))
 |5,_=>ki (gi 5 [0,2] rfl (pE (h 0) (h 2)))
 |6,_=>ki (gi 6 [1,2] rfl (pE (h 1) (h 2)))
 |7,_=>gi 7 [0,1,2] rfl (ul (h 0) (h 1) (h 2))
 |8,_=>ki (gi 8 [3] rfl (ur (h 3)))
 |9,_=>ki (gi 9 [0,3] rfl (pE (h 0) (h 3)))
 |10,_=>ki (gi 10 [1,3] rfl (pE (h 1) (h 3)))
 |11,_=>gi 11 [0,1,3] rfl (ul (h 0) (h 1) (h 3))
 |12,_=>ki (gi 12 [2,3] rfl (pE (h 2) (h 3)))
 |13,_=>gi 13 [0,2,3] rfl (ul (h 0) (h 2) (h 3))
 |14,_=>gi 14 [1,2,3] rfl (ul (h 1) (h 2) (h 3))
 |15,_=>gi 15 [0,1,2,3] rfl (JA (h 0) (h 1) (h 2) (h 3))
 |s+16,q=>absurd q (KQ q)
theorem NM {t:Nat->Int} (h:T3 t):cb t=ordL.map (tw (pick (t 0+3).toNat (t 1+3).toNat (t 2+3).toNat (t 3+3).toNat)):=by unfold cb;refine aa tW ?_;have h1:ordL.map (tw λi=>(t i+3).toNat)=ordL.map (tw (pick (t 0+3).toNat (t 1+3).toNat (t 2+3).toNat (t 3+3).toNat)):=rfl;refine aA h1 ?_;refine mZ λo ho=>?_;obtain ⟨i,j,k,l,e⟩:=Dd (qX o (tW▸ho));refine aa e ?_;exact Um h i j k l
theorem GT {t:Nat->Int} (h:T3 t):(ey (cF t 5) 15).getD 15 0=cH 32 (cb t):=by
 have hlt:∀i,(t i+3).toNat<7:=λi=>by have:=h i;exact JM this
 rw[NM h];exact (AU _ 15 15 15 (aT _) (aT _) (aT _)).trans ((N1 (Ig h) 15 15 (by decide)).trans ((Ub _).trans (L7 (hlt 0) (hlt 1) (hlt 2) (hlt 3))))
theorem zN {q:Nat} (L:List (List Nat)) (hl:L.length=15+1):(L.map (cH q)).getD 15 0=cH q (L.getD 15 []):=by rw[jq,jq,eJ,gQ (RH hl)];rfl
theorem Jx {t:Nat->Int} (h:T3 t) (w:Nat):(ey (cF t w) 15).getD 15 0=cH (2^w) (cb t):=by
 let e:Nat->Nat:=λs=>(cA t s).toNat
 have hv:∀n,cF t n=λs=>coefN s*(2^n)^e s:=λn=>by funext s;rw[cF,Gd]
 have hq:∀n,(ey (cF t n) 15).getD 15 0=cH (2^n) ((iB coefN e 15).getD 15 []):=λn=>by rw[hv,tU];exact zN _ (DO coefN e 15)
 have h5:=hq 5;rewrite[GT h] at h5;have hlen:((iB coefN e 15).getD 15 []).length=24:=by
  have h0:(ey (λs=>coefN s*1^e s) 15).getD 15 0=cH 1 ((iB coefN e 15).getD 15 []):=by rw[tU];exact zN _ (DO coefN e 15)
  rw[Cn] at h0;refine aA h0 (aa (AU _ 15 15 15 (aT _) (aT _) (aT _)) ?_);have hc:(λs=>coefN s*1^e s)=coefN:=funext λs=>by rw[W5,zt]
  refine aa hc ?_;decide+kernel
 refine aa (hq w) ?_;exact (Nw (by rw[uO];exact QD) (Ik hlen) h5 w).symm
noncomputable def Dg (n:Nat) (ds:List Nat):Prop:=(∀d∈ds,d<2^n)/\(ds=[]\/∃i x,ds=i++[x]/\x≠0)
theorem Hi {n:Nat} (hn:1<=n) {ds:List Nat} (h:Dg n ds):cC (bl n ds) n=ds.length:=by
 have hlt:=u9 n ds h.1;have hb:cg ((bl n ds:Nat):Int)<=ds.length*n:=i7 hlt;unfold cC;rcases h.2 with rfl|⟨i,x,rfl,hx⟩
 ·have:cg ((bl n []:Nat):Int)=0:=rfl;refine aa this ?_;rw[jr];exact zi (Mz hn)
 ·have hge:2^(i.length*n)<=bl n (i++[x]):=by
   rw[wj];have:1<=bl n [x]:=by show 1<=x+0*2^n;exact Ja hx
   calc 2^(i.length*n)=1*2^(i.length*n):=(jv _).symm
    _<=bl n [x]*2^(i.length*n):=vj _ this
    _<=_:=b7 _ _
  have hb2:¬ cg ((bl n (i++[x]):Nat):Int)<=i.length*n:=by rw[vO];simp only[WJ];exact US.mpr (by assumption)
  rw[cm,dH,ev] at hb ⊢;rw[gD] at hb;have e:(cg ((bl n (i++[x]):Nat):Int)+n - 1)/n=i.length+1:=by
   generalize cg ((bl n (i++[x]):Nat):Int)=B at *;generalize i.length=L at *;apply Nat.div_eq_of_lt_le
   ·rw[gD];exact Iz hn hb2
   ·rw[gD,gD];omega
  exact e
theorem xT {n:Nat} (hn:1<=n/\n<=512) {ds:List Nat} (h:Dg n ds) (hl:ds.length<=128):jR [.int (bl n ds:Nat),.int n]=some (.list (aE ds)):=by
 have hlt:=u9 n ds h.1;have hk:=Hi hn.1 h
 have h2:bl n ds<2^65536:=cV hlt (mV (il _) (by
  calc ds.length*n<=128*512:=lM hl hn.2
   _=65536:=by decide))
 unfold jR;simp only[er];rewrite[if_pos];refine aa hk ?_;rw[tj n ds h.1]
 ·unfold ia aE;refine aa eK ?_;rfl
 ·have hl':cC (bl n ds) n<=128:=aB (eh (by assumption)) (by assumption);generalize bl n ds=A at *;revert h2;refine bY ((2:Nat)^65536) λX hX=>?_;intro h2;simp only[bn,decide_eq_true_eq,er];exact⟨⟨⟨⟨c8 _,HV hn⟩,Mo hn⟩,hl'⟩,h2⟩
theorem yf {n:Nat} (hn:n<=512) {ds:List Nat} (h:∀d∈ds,d<2^n) (hl:ds.length<=128):jV [.list (aE ds),.int n]=some (.int (bl n ds:Nat)):=by
 have e:aE ds=(ds.map λd=>((d:Nat):Int)).map PV.int:=by unfold aE;refine aa eK ?_;rfl
 unfold jV;simp only;refine aa e ?_;rw[qI];simp only;rw[if_pos]
 ·congr 3;refine aa eK ?_;rw[er];congr 1;exact (mZ (λx ζ=>rfl)).trans (List.map_id ds)
 ·simp only[bn,decide_eq_true_eq,dG,ca,er];refine⟨⟨⟨λx hx=>?_,hl⟩,c8 _⟩,pL (ij.mpr (by assumption)) (by decide)⟩;refine ah (dQ.mp hx) λd hd e2_=>?_;subst e2_;exact⟨c8 _,by simpa using h d hd⟩
noncomputable def dE (w:Nat):List Nat->List Nat
 |[]=>[]
 |[a]=>[a]
 |a::b::r=>(a+b*2^w)::dE w r
theorem pj {w}:dE w []=[]:=rfl
theorem oG {w a}:dE w [a]=[a]:=rfl
theorem oA {w a b r}:dE w (a::b::r)=(a+b*2^w)::dE w r:=rfl
theorem Ch (w:Nat):∀ds:List Nat,bl (2*w) (dE w ds)=bl w ds
 |[]=>rfl
 |[a]=>by simp[pj,oG,oA,sU,ua]
 |a::b::r=>by have ih:=Ch w r;show a+b*2^w+bl (2*w) (dE w r)*2^(2*w)=a+(b+bl w r*2^w)*2^w;refine aa ih ?_;rw[gD,vR (bl w r),<- mU,j2];congr 4;exact CK
theorem Ba (w:Nat):∀ds:List Nat,(∀d∈ds,d<2^w)->∀p∈dE w ds,p<2^(2*w)
 |[],_=>by intro p hp;cases hp
 |[a],h=>by
  intro p hp;cases hp with
  |head=>exact cV (h _ (.head _)) (mV (il _) (TJ))
  |tail _ h=>cases h
 |a::b::r,h=>by
  intro p hp;cases hp with
  |head=>
   have h1:=h a (.head _);have h2:=h b (.tail _ (.head _));have e:2^(2*w)=2^w*2^w:=by rw[<- mU];congr 1;exact CK
   refine aa e ?_
   calc a+b*2^w<2^w+b*2^w:=WE (by assumption) _
    _=(b+1)*2^w:=by rw[gD,jv,fk]
    _<=2^w*2^w:=vj _ h2
  |tail _ hp=>exact Ba w r (λd hd=>h d (.tail _ (.tail _ hd))) p hp
theorem wA (w:Nat):∀ds:List Nat,(dE w ds).length<=ds.length
 |[]=>by simp[pj,oG,oA]
 |[a]=>by simp[pj,oG,oA]
 |a::b::r=>by have:=wA w r;simp only[pj,oG,oA,dH];exact D7 this
theorem D5 (w:Nat):∀ds:List Nat,(ds=[]\/∃i x,ds=i++[x]/\x≠0)->(dE w ds=[]\/∃i x,dE w ds=i++[x]/\x≠0)
 |[],_=>.inl rfl
 |[a],h=>.inr ⟨[],a,rfl,by
  rcases h with h|⟨i,x,h,hx⟩
  ·cases h
  ·induction i using aF with
   |nil=>cases h;exact hx
   |cons _ i=>induction i using aF<;>cases h⟩
 |a::b::r,h=>.inr (by
  rcases h with h|⟨i,x,h,hx⟩
  ·cases h
  cases hr:r with
  |nil=>
   subst hr;refine eT [] (a+b*2^w) rfl ?_;have hb:b=x:=by have:=congrArg List.getLast? h;simpa using this
   have:0<2^w:=sI w;have:0<b*2^w:=W3 (Pv hx hb) this;exact MO this
  |cons c r'=>
   have hrl:∃i x,r=i++[x]/\x≠0:=by
    match i,h with
    |[],h=>exact absurd (congrArg eI h) (by simp[hr])
    |[_],h=>exact absurd (congrArg eI h) (by simp[hr])
    |_::_::i,h=>simp only[ox,Yj] at h;exact eT i x h.2.2 hx
   have:=D5 w r (.inr hrl);replace this:=hr▸this;rcases this with h0|⟨i',x',h',hx'⟩
   ·induction r' using aF<;>exact absurd h0 (by simp[pj,oG,oA])
   ·exact eT ((a+b*2^w)::i') x' (by show (a+b*2^w)::dE w (c::r')=_;refine aa h' ?_;rfl) hx')
theorem Hb {w:Nat} {ds:List Nat} (h:Dg w ds):Dg (2*w) (dE w ds):=⟨Ba w ds h.1,D5 w ds h.2⟩
noncomputable def cK {α:Type}:List α->List α
 |[]=>[]
 |[a]=>[a]
 |a::_::r=>a::cK r
theorem Dr {α}:cK ([]:List α)=[]:=rfl
theorem AJ {α} {a:α}:cK [a]=[a]:=rfl
theorem Dh {α} {a b:α} {r}:cK (a::b::r)=a::cK r:=rfl
theorem A0 {α:Type}:∀xs:List α,(bF ((xs.length+1)/2)).filterMap (λk=>xs[2*k]?)=cK xs
 |[]=>by simp[Dr,AJ,Dh]
 |[a]=>by simp[Dr,AJ,Dh]
 |a::b::r=>by
  have ih:=A0 r;have e:((a::b::r).length+1)/2=(r.length+1)/2+1:=by simp only[dH];exact NO
  refine aa e (aa U0 (aa lz ?_));show a::_=a::cK r;refine aA ih (aa EV ?_);rfl
theorem wv {xs:List PV} (a:Nat) (ha:a<=xs.length):eG (.list xs) (some (a:Int)) none (some 2)=some (.list (cK (xs.drop a))):=by
 refine aa (nT rfl) ?_;have h1:¬ ((a:Int)<0):=fX.mpr (c8 _);have e1:=qs ha;have e2:=qs (aT xs.length);have hbd:eg (some (a:Int)) none (some 2) xs.length=((a:Int),(xs.length:Int),2):=by unfold eg;simp only[Option.getD_some,show (2:Int)>0 by decide,if_true,h1,if_false,e1]
 refine aa hbd ?_;unfold r0 lA;simp only[show (2:Int)>0 by decide,if_true];have e:(if (a:Int)<(xs.length:Int) then ((xs.length:Int) - a+2 - 1)/2 else 0).toNat=((xs.drop a).length+1)/2:=by
  refine aa eu ?_
  split<;>lia
 refine aa e (aa EV ?_);rw[<- A0];congr 2;congr 1;funext k;show xs[((a:Int)+2*(k:Int)).toNat]?=(xs.drop a)[2*k]?;rw[sM,show ((a:Int)+2*(k:Int)).toNat=a+2*k by exact T5]
theorem Qk {xs:List PV}:eG (.list xs) none none (some 2)=some (.list (cK xs)):=by
 refine VI ?_ (wv (xs:=xs) 0 (iY _));rw[nT rfl,nT rfl];have e0:aR (0:Int) (bL 0 (xs.length:Int))=0:=Ay;have:eg none none (some 2) xs.length=eg (some ((0:Nat):Int)) none (some 2) xs.length:=by unfold eg;simp[e0]
 exact aa this rfl
theorem zX {α:Type}:∀(xs:List α) (x:α),x∈cK xs->x∈xs
 |[],_,h=>h
 |[a],_,h=>h
 |a::b::r,x,h=>by
  cases h with
  |head=>exact .head _
  |tail _ h=>exact .tail _ (.tail _ (zX r x h))
noncomputable def iu:List Nat->List (Nat×Nat)
 |[]=>[]
 |[a]=>[(a,0)]
 |a::b::r=>(a,b)::iu r
theorem Ho:iu []=[]:=rfl
theorem MD {a}:iu [a]=[(a,0)]:=rfl
theorem Jh {a b r}:iu (a::b::r)=(a,b)::iu r:=rfl
theorem zF:∀ds:List Nat,bT (aE (cK ds)) (aE (cK (ds.drop 1))++[.int 0])=(iu ds).map λp=>.tup [.int ((p.1:Nat):Int),.int ((p.2:Nat):Int)]
 |[]=>rfl
 |[a]=>rfl
 |[a,b]=>rfl
 |a::b::c::r=>by have ih:=zF (c::r);show PV.tup [.int a,.int b]::bT (aE (cK (c::r))) (aE (cK r)++[.int 0])=_;rw[List.drop_one,List.tail_cons] at ih;refine aa ih ?_;rfl
theorem wX (w:Nat):∀ds:List Nat,(iu ds).map (λp=>p.1+p.2*2^w)=dE w ds
 |[]=>rfl
 |[a]=>by simp[Ho,MD,Jh,pj,oG,oA]
 |a::b::r=>by have ih:=wX w r;show (a+b*2^w)::_=(a+b*2^w)::_;exact aA ih rfl
noncomputable def g8 (L:List Nat):Nat:=L.foldl aR 0
noncomputable def cD (t:Nat->Int):List Nat:=jj (cb t) (g8 (cb t)+1)
theorem Ah (L:List Nat):∀a,a<=L.foldl aR a/\(∀e∈L,e<=L.foldl aR a)/\(L.foldl aR a=a\/L.foldl aR a∈L):=by
 induction L with
 |nil=>intro a;refine dX (aT _) (λe he=>by cases he) (.inl rfl)
 |cons x L ih=>
  intro a;refine aL (ih (aR a x)) λh1 h2 h3=>?_;refine dX (by refine aa mM ?_;exact HS h1) (λe he=>?_) ?_
  ·refine aa mM ?_;rcases ao.mp he with rfl|he
   ·exact Jp h1
   ·exact h2 e he
  ·refine aa mM ?_;rcases h3 with h3|h3
   ·refine aa h3 ?_
    by_cases hx:a<=x
    ·exact .inr (by refine aa (Nat.max_eq_right hx) ?_;exact .head _)
    ·exact .inl (Nat.max_eq_left (W8 (by assumption)))
   ·exact .inr (.tail _ h3)
theorem wL {L:List Nat} (h:L≠[]):g8 L∈L:=by
 induction L using aF with
 |nil=>exact absurd rfl h
 |cons a L=>
  refine aL (Ah L (aR 0 a)) λh1 h2 h3=>?_;rcases h3 with h3|h3
  ·unfold g8;refine aa mM (aa h3 ?_);rw[W9];exact .head _
  ·exact .tail _ h3
theorem Qp {L:List Nat} {e:Nat} (h:e∈L):e<=g8 L:=(Ah L 0).2.1 e h
theorem ut (t:Nat->Int):cb t≠[]:=λh=>by have:=uO t;replace this:=h▸this;cases this
theorem Df {t:Nat->Int} {w:Nat} (hw:5<=w):Dg w (cD t):=by
 constructor
 ·intro d hd;refine ah (dQ.mp hd) λk ζ e2_=>?_;subst e2_;have h1:(cb t).count k<=24:=by refine aA (uO t) ?_;exact lP
  have h2:2^5<=2^w:=mV (il _) hw;lia
 ·right;refine eT (jj (cb t) (g8 (cb t))) ((cb t).count (g8 (cb t))) ?_ ?_
  ·unfold cD jj;rw[List.range_succ,Gc];rfl
  ·have:=List.count_pos_iff.mpr (wL (ut t));exact W2 (by assumption)
theorem xq {t:Nat->Int} (h:T3 t):(cD t).length<=13:=by have:=Do h _ (wL (ut t));unfold cD jj;rewrite[ca];refine aa qo ?_;exact vI (by assumption)
theorem TR {t:Nat->Int} (h:T3 t) (w:Nat):(ey (cF t w) 15).getD 15 0=bl w (cD t):=by refine aa (Jx h w) ?_;exact rW w (cb t) _ λe he=>by have:=Qp he;exact oa (by assumption)
noncomputable def ci:Scope:=(bH iO).scope
noncomputable def cx:List aN:=(bH iO).body
noncomputable def uo (b:List aN) (i j:Nat):ac:=match b[i]? with
 |some (.Assign _ (.Tuple vs _ _) _)=>vs.getD j (.Constant .none 0 ⟨0,0,0,0⟩)
 |_=>.Constant .none 0 ⟨0,0,0,0⟩
noncomputable abbrev lg:Str:=af "script"
noncomputable abbrev d4:Str:=af "sums"
noncomputable abbrev jI:Str:=af "orders"
noncomputable abbrev lq:Str:=af "lacks"
noncomputable abbrev lT:Str:=af "tally"
noncomputable abbrev qq:Str:=af "pairs"
noncomputable abbrev mo:Str:=af "menu"
noncomputable abbrev ke:Str:=af "rows"
noncomputable abbrev jT:Str:=af "pieces"
noncomputable abbrev mx:Str:=af "bound"
noncomputable abbrev ix:Str:=af "texts"
noncomputable abbrev eN:Str:=af "row"
noncomputable abbrev ic:Str:=af "lack"
noncomputable abbrev l9:Str:=af "opens"
noncomputable abbrev lp:Str:=af "cut"
noncomputable abbrev fI:Str:=af "asks"
noncomputable def ux:List Nat:=[5,2,6,1,192,71,14]
noncomputable def fG (z:Nat->Nat):PV:=.list ((bF 7).map λi=>.int ((z i:Nat):Int))
section
variable {O:Orc} {σ σ':Sg}
theorem Bh (x:Int):∃k:Nat,k<1000000000/\gP x 1000000000=(k:Int):=by have h1:=Int.fmod_nonneg_of_pos x (show (0:Int)<1000000000 by decide);have h2:=Int.fmod_lt_of_pos x (show (0:Int)<1000000000 by decide);exact au ((gP x 1000000000).toNat) (by lia) (PD h1)
theorem ND (ns:List Int) (b:Int×Int×Int):r0 (ns.map .int) b=((lA b.1 b.2.1 b.2.2).filterMap (ns[·]?)).map .int:=by unfold r0;refine aa List.map_filterMap ?_;congr 1;funext k;exact aa eJ rfl
theorem MJ {ns:List Int} (h1:σ.lookup lg=some (.sh (.list (ns.map .int)))) (hn:ns.length<=63):∃z:Nat->Nat,(∀i,z i<1000000000)/\pe O 58 ci σ (dy cx 0)=some (fG z):=by
 let ms:Nat->List Int:=λi=>(lA (eg (some (i:Int)) (some 60) (some 7) ns.length).1 (eg (some (i:Int)) (some 60) (some 7) ns.length).2.1 (eg (some (i:Int)) (some 60) (some 7) ns.length).2.2).filterMap (ns[·]?)
 let su:Nat->Int:=λi=>((ux.getD i 0:Nat):Int)+((ms i).map λm=>gP m 1000000000).sum
 refine au (λi=>(gP (su i) 1000000000).toNat) (λi=>?_) ?_
 ·refine ah (Bh (su i)) λk hk e=>?_;show (gP (su i) 1000000000).toNat<_;refine aa e ?_;rw[er];exact hk
 ·refine fj (xs:=(bF 7).map λi=>.tup [.int (i:Nat),.int ((ux.getD i 0:Nat):Int)]) (by decide) (by rfl)
   (fE (F:=λi=>.tup [.int (i:Nat),.int ((ux.getD i 0:Nat):Int)]) (G:=λi=>.int ((((gP (su i) 1000000000).toNat:Nat)):Int)) λi hi=>?_) rfl
  have hi:=ft.mp hi;refine au _ (AO (by decide) (by decide) (by decide) (ef (by decide) (by decide)) (ef (by decide) (by decide))) ?_;refine aQ (a:=.int (su i)) (b:=.int 1000000000) (aQ (a:=.int ((ux.getD i 0:Nat):Int)) (b:=.int ((ms i).map λm=>gP m 1000000000).sum) (aC (by decide) (aS)) ?_ rfl) (by rfl) ?_
  ·refine dz (ds:=[.list ((ms i).map λm=>.int (gP m 1000000000))]) (by decide) rfl (aG (az (h:=?_)) a7) (by
    have:=rI (O:=O) (l:=(ms i).map λm=>gP m 1000000000);replace this:=eK▸this
    exact this) (.inl rfl)
   refine fj (xs:=(ms i).map .int) (by decide) (gI (d:=.list ((ms i).map .int)) rfl (eR (a:=.list (ns.map .int)) (l:=some (i:Int)) (aC (by decide) ?_) (dO (aC (by decide) ?_) ?_) (dO aW (by decide)) (dO aW (by decide)) ((nT rfl).trans ?_)) rfl)
    (fE (F:=.int) (G:=λm=>.int (gP m 1000000000)) λm hm=>?_) ?_
   ·refine aw (by decide) ?_;refine aw (by decide) ?_;exact dc (by decide) (by decide) h1
   ·refine aw (by decide) ?_;exact aS
   ·lia
   ·rw[ND,ca]
   ·refine au _ (eE (by decide) (ef (by decide) (by decide))) ?_;exact aQ (a:=.int m) (b:=.int 1000000000) (aC (by decide) (aS)) (by rfl) rfl
   ·rw[ca];refine jw.mpr ?_;have h1:(ms i).length<=(lA (eg (some (i:Int)) (some 60) (some 7) ns.length).1 (eg (some (i:Int)) (some 60) (some 7) ns.length).2.1 (eg (some (i:Int)) (some 60) (some 7) ns.length).2.2).length:=List.length_filterMap_le _ _;have h2:(lA (eg (some (i:Int)) (some 60) (some 7) ns.length).1 (eg (some (i:Int)) (some 60) (some 7) ns.length).2.1 (eg (some (i:Int)) (some 60) (some 7) ns.length).2.2).length<=100:=by refine aB (sliceRange_length_le _ _ _ ns.length (λζ=>?_) λh=>absurd (show (7:Int)>0 by decide) h) (aB hn (by decide));exact⟨yA _ _,UJ.mpr ⟨c8 _,Int.min_le_right _ _⟩⟩
    exact aB (aB (by assumption) (by assumption)) (by decide)
  ·refine ah (Bh (su i)) λk hk e=>?_;have:bU .Mod (.int (su i)) (.int 1000000000)=some (.int (gP (su i) 1000000000)):=rfl;refine aa this (aa e ?_);rw[er]
end
noncomputable def tZ (z:Nat->Nat):Nat->Int:=λi=>((z i%7:Nat):Int) - 3
theorem Ac (z:Nat->Nat):T3 (tZ z):=λi=>by unfold tZ;exact GJ
noncomputable def kq (o:List Nat):PV:=.tup (o.map λi=>.int ((i:Nat):Int))
noncomputable def ordsP:PV:=.list (ordN.map kq)
section
variable {O:Orc} {σ σ':Sg}
theorem kS {z:Nat->Nat} {n i:Nat} {sc:Scope} {q p r:Pos} {k:Int} (hk:k=(i:Int)) (hi:i<7) (hv:br sc d4=true) (h:σ.lookup d4=some (.sh (fG z))):pe O (n+2) sc σ (.Subscript (.Name d4 q) (.Constant (.int k) 0 p) r)=some (.int ((z i:Nat):Int)):=by subst hk;refine hJ (a:=fG z) (k:=.int (i:Int)) (h1:=aD hv (aH h)) (h2:=aW) (ho:=dh h) (h:=?_);unfold fG;rw[g9 (hi),eJ,oq hi];rfl
theorem Jz {z:Nat->Nat} (h:σ.lookup d4=some (.sh (fG z))):pe O 57 ci σ (uo cx 1 0)=some (cY (tZ z)):=by
 refine fj (xs:=(bF 4).map λi=>.int ((z i:Nat):Int)) (by decide) (gI (d:=.list ((bF 4).map λi=>.int ((z i:Nat):Int))) rfl (eR (a:=fG z) (l:=none) (h:=some ((4:Nat):Int)) (s:=none) (aC (by decide) h) cM (dO aW (by decide)) cM ?_) rfl)
  (fE (F:=λi=>.int ((z i:Nat):Int)) (G:=λi=>.int (tZ z i)) λi hi=>?_) rfl
 ·exact (DA (b7 _ _)).trans rfl
 ·refine au _ (eE (by decide) (ef (by decide) (by decide))) ?_;refine aQ (a:=.int ((z i%7:Nat):Int)) (b:=.int 3) (aQ (a:=.int (z i:Nat)) (b:=.int 7) (aC (by decide) (aS)) aW ?_) aW rfl;show some (PV.int (gP (z i:Nat) 7))=_;rw[zw _ (by decide)];rfl
theorem M5 {z:Nat->Nat} (h:σ.lookup d4=some (.sh (fG z))):pe O 57 ci σ (uo cx 1 1)=some (.int ((5+z 4%60:Nat):Int)):=by refine aQ (a:=.int 5) (b:=.int ((z 4%60:Nat):Int)) aW (aQ (a:=.int (z 4:Nat)) (b:=.int 60) (kS rfl (by decide) (by decide) h) aW ?_) rfl;show some (PV.int (gP (z 4:Nat) 60))=_;rw[zw _ (by decide)];rfl
theorem Md:pe O 56 ci σ (dy cx 2)=some ordsP:=by rfl
end
theorem ml:∀o∈ordN,∃i j k l,o=[i,j,k,l]/\i<4/\j<4/\k<4/\l<4:=by
 intro o ho;have h1:=qX o ho;have h2:∀o∈ordN,∀i∈o,i<4:=by decide+kernel
 have h3:=h2 o ho;obtain ⟨i,j,k,l,rfl⟩:=Dd h1;exact x8 i j k l rfl (h3 i (.head _)) (h3 j (.tail _ (.head _))) (h3 k (.tail _ (.tail _ (.head _)))) (h3 l (.tail _ (.tail _ (.tail _ (.head _)))))
theorem JY (a x y:Int):a+aR x y=aR (a+x) (a+y):=NS
theorem uz (x:Int):((x.toNat:Nat):Int)=aR 0 x:=IH
theorem Ok (a b c d:Int):aR (aR (aR (aR 0 (a+0)) (a+(b+0))) (a+(b+(c+0)))) (a+(b+(c+(d+0))))=aR 0 (a+aR 0 (b+aR 0 (c+aR 0 (d+0)))):=by simp only[JY,Int.max_assoc]
section
variable {O:Orc} {σ σ':Sg}
theorem R6 {t:Nat->Int} {i:Nat} (hi:i<4):fL (cY t) (.int (i:Nat))=some (.int (t i)):=by unfold cY;rw[g9 (by simpa using hi),eJ,oq hi];rfl
theorem Hg {t:Nat->Int} (h1:σ.lookup jI=some (.sh ordsP)) (h2:σ.lookup dJ=some (.sh (cY t))):pe O 55 ci σ (dy cx 3)=some (.list (aE (cb t))):=by
 refine fj (xs:=ordN.map kq) (ys:=ordN.map λo=>.int ((cB t o:Nat):Int)) (by decide) (gI (d:=ordsP) rfl (aC (by decide) h1) rfl) (fE (F:=kq) (G:=λo=>.int ((cB t o:Nat):Int)) λo ho=>?_) ?_ |>.trans ?_
 ·refine au _ (eE (by decide) (ef (by decide) (by decide))) ?_;obtain ⟨i,j,k,l,rfl,hi,hj,hk,hl⟩:=ml o ho;have hm:bX O (af "max") [.list (.int 0::([1,2,3,4]:List Nat).map λs=>.int ((([i,j,k,l].take s).map t).sum))]=some (.int ((cB t [i,j,k,l]:Nat):Int)):=by
   show some (PV.int (aR (aR (aR (aR 0 (t i+0)) (t i+(t j+0))) (t i+(t j+(t k+0)))) (t i+(t j+(t k+(t l+0))))))=_;congr 2;show _=(((t i+(((t j+(((t k+(((t l+((0:Nat):Int)).toNat:Nat):Int)).toNat:Nat):Int)).toNat:Nat):Int)).toNat:Nat):Int)
   rw[uz,uz,uz,uz];exact Ok _ _ _ _
  refine dz (ds:=[.list (.int 0::([1,2,3,4]:List Nat).map λs=>.int ((([i,j,k,l].take s).map t).sum))]) (by decide) rfl (aG (az (h:=?_)) a7) hm (.inl rfl);refine aQ (a:=.list [.int 0]) (b:=.list (([1,2,3,4]:List Nat).map λs=>.int ((([i,j,k,l].take s).map t).sum))) (by rfl) ?_ rfl;refine fj (xs:=([1,2,3,4]:List Nat).map λs=>.int ((s:Nat):Int)) (by decide) (gI (d:=.tup (([1,2,3,4]:List Nat).map λs=>.int ((s:Nat):Int))) rfl (by rfl) rfl) (fE (F:=λs=>.int ((s:Nat):Int)) (G:=λs=>.int ((([i,j,k,l].take s).map t).sum)) λs hs=>?_) rfl;refine au _ (eE (by decide) (ef (by decide) (by decide))) ?_
  refine dz (ds:=[.list (([i,j,k,l].take s).map λa=>.int (t a))]) (by decide) rfl (aG (az (h:=?_)) a7) (by
   have:=rI (O:=O) (l:=([i,j,k,l].take s).map t);replace this:=eK▸this
   exact this) (.inl rfl)
  refine fj (xs:=([i,j,k,l].take s).map λa=>.int ((a:Nat):Int)) (by decide) (gI (d:=.tup (([i,j,k,l].take s).map λa=>.int ((a:Nat):Int))) rfl (eR (a:=kq [i,j,k,l]) (l:=none) (h:=some ((s:Nat):Int)) (s:=none) (aC (by decide) ?_) cM (dO (aC (by decide) ?_) ?_) cM ?_) rfl)
   (fE (F:=λa=>.int ((a:Nat):Int)) (G:=λa=>.int (t a)) λa ha=>?_) ?_
  ·refine aw (by decide) ?_;exact dc (by decide) (by decide) (aS)
  ·exact aS
  ·have:s<=4:=by simp only[ao,ba,or_false] at hs;exact Qd hs
   lia
  ·simp only[ao,ba,or_false] at hs;rcases hs with rfl|rfl|rfl|rfl<;>rfl
  ·refine au _ (eE (by decide) (ef (by decide) (by decide))) ?_;have ha4:a<4:=by
    have:=FN ha;simp only[ao,ba,or_false] at this;rcases this with rfl|rfl|rfl|rfl<;>assumption
   exact hJ (a:=cY t) (k:=.int (a:Nat)) (h1:=aD (by decide) (aH (by
    refine aw (by decide) ?_
    exact dc (by decide) (by decide) (by
     refine aw (by decide) ?_
     exact dc (by decide) (by decide) (by
      refine aw (by decide) ?_
      exact dc (by decide) (by decide) h2))))) (h2:=aC (by decide) (aS)) (ho:=dh (by
    refine aw (by decide) ?_
    exact dc (by decide) (by decide) (by
     refine aw (by decide) ?_
     exact dc (by decide) (by decide) (by
      refine aw (by decide) ?_
      exact dc (by decide) (by decide) h2)))) (h:=R6 ha4)
  ·rewrite[ca];refine aa fJ ?_;exact jw.mpr (by simp;exact MP)
 ·rewrite[ca];refine aa mn ?_;rfl
 ·unfold aE cb;refine aa eK ?_;rfl
theorem DN:∀(l:List Nat) (a:Nat),(l.map λx:Nat=>(x:Int)).foldl aR (a:Int)=((l.foldl aR a:Nat):Int)
 |[],_=>rfl
 |x::l,a=>by refine aa bQ (aa mM (aa mM (aA (DN l (aR a x)) ?_)));congr 1;omega
theorem DQ (l:List Nat):fN (aE l)=some (l.map λx:Nat=>(x:Int)):=by
 have e:aE l=(l.map λd=>((d:Nat):Int)).map PV.int:=by unfold aE;refine aa eK ?_;rfl
 refine aa e ?_;rw[qI]
theorem Qc {l:List Nat} (h:l≠[]):bX O (af "max") [.list (aE l)]=some (.int ((g8 l:Nat):Int)):=by
 induction l using aF with
 |nil=>exact absurd rfl h
 |cons a l=>have e:bX O (af "max") [.list (aE (a::l))]=(match fN (aE (a::l)) with|some (y::l)=>some (.int (l.foldl aR y))|_=>none):=rfl;refine aa e ?_;rw[DQ];show some (PV.int ((l.map λx:Nat=>(x:Int)).foldl aR (a:Int)))=_;rw[DN];unfold g8;refine aa mM ?_;rw[W9]
theorem RD {l:List Nat} {k:Nat}:bM (.list (aE l)) (af "count") [.int (k:Nat)]=some (.int ((l.count k:Nat):Int)):=by have e:bM (.list (aE l)) (af "count") [.int (k:Nat)]=(fN (aE l)).map λl=>.int ((l.countP (·==(k:Int)):Nat):Int):=rfl;refine aa e ?_;rw[DQ];show some (PV.int _)=_;congr 3;refine aa List.countP_map ?_;apply List.countP_congr;intro x _;show ((x:Int)==(k:Int))=true↔(x==k)=true;rw[beq_iff_eq,beq_iff_eq];exact⟨λh=>W6 h,λh=>by rw[h]⟩
theorem Mr {t:Nat->Int} (h3:T3 t) (h1:σ.lookup lq=some (.sh (.list (aE (cb t))))):pe O 54 ci σ (dy cx 4)=some (.list (aE (cD t))):=by
 have hm:=Do h3 _ (wL (ut t));have he:aE (cD t)=(bF (g8 (cb t)+1)).map λk=>.int (((cb t).count k:Nat):Int):=by unfold aE cD jj;rw[eK];rfl
 refine aa he ?_;refine fj (xs:=(bF (g8 (cb t)+1)).map λk=>.int ((0+k:Nat):Int)) (by decide) ?_ (fE (F:=λk=>.int ((0+k:Nat):Int)) (G:=λk=>.int (((cb t).count k:Nat):Int)) λk hk=>?_) ?_
 ·have e:=uU (a:=0) (k:=g8 (cb t)+1);refine aA e ?_;have e2:((0:Nat):Int)+((g8 (cb t)+1:Nat):Int)=((g8 (cb t):Nat):Int)+1:=Bm;refine aa e2 ?_;refine AT (by decide) (aQ (a:=.int ((g8 (cb t):Nat):Int)) (b:=.int 1) (dz (ds:=[.list (aE (cb t))]) (by decide) rfl (aG (aD (by decide) (aH h1)) a7) (Qc (ut t)) (.inr rfl)) aW rfl) (Of hm)
 ·rw[jr];refine au _ (eE (by decide) (ef (by decide) (by decide))) ?_;refine kc (r:=.list (aE (cb t))) (ds:=[.int (k:Nat)]) (by decide) rfl rfl (aH (by refine aw (by decide) ?_;exact dc (by decide) (by decide) h1)) (aG (aD (by decide) (aH (aS))) a7) ?_;rw[dh (by refine aw (by decide) ?_;exact dc (by decide) (by decide) h1)];simp only[j6,vV,Ft,yY];rw[dh (aS)];simp only[dw,dp,if_false];exact RD
 ·rewrite[ca];refine aa qo ?_;exact jw.mpr (Gf hm)
theorem Bq {α:Type}:∀l:List α,(cK l).length<=l.length
 |[]=>aT _
 |[a]=>aT _
 |a::b::r=>by have:=Bq r;simp only[cK,dH];exact D7 this
theorem Ez {m:Nat}:∀(ds:List Nat),(∀d∈ds,d<m)->0<m->∀p∈iu ds,p.1<m/\p.2<m
 |[],_,_=>by intro p hp;cases hp
 |[a],h,h0=>by
  intro p hp;cases hp with
  |head=>exact⟨h _ (.head _),h0⟩
  |tail _ h=>cases h
 |a::b::r,h,h0=>by
  intro p hp;cases hp with
  |head=>exact⟨h _ (.head _),h _ (.tail _ (.head _))⟩
  |tail _ hp=>exact Ez r (λd hd=>h d (.tail _ (.tail _ hd))) h0 p hp
end
section
variable {O:Orc} {σ σ':Sg}
theorem zS:∀l:List Nat,cK (aE l)=aE (cK l):=by
 have:∀(n:Nat) (l:List Nat),l.length<=n->cK (aE l)=aE (cK l):=by
  intro n
  induction n with
  |zero=>intro l hl;induction l using aF with|nil=>rfl|cons a l=>cases hl
  |succ n ih=>
   intro l hl
   match l with
   |[]=>rfl
   |[a]=>rfl
   |a::b::r=>simp only[dH] at hl;have:=ih r (BQ hl);show PV.int a::cK (aE r)=PV.int a::aE (cK r);exact aa this rfl
 exact λl=>this _ l (aT _)
theorem O7 (t:Nat->Int):1<=(cD t).length:=by unfold cD jj;rewrite[ca];refine aa qo ?_;exact PG
noncomputable def Ph (e:ac):ac:=match e with
 |.ListComp _ (g::_) _ _=>g.iter
 |_=>e
theorem Gp {l:List Nat} (hlen:l.length<=13) (hpos:1<=l.length) (h1:σ.lookup lT=some (.sh (.list (aE l)))):cS O 52 ci σ true (Ph (dy cx 5))=some ((iu l).map λp=>.tup [.int ((p.1:Nat):Int),.int ((p.2:Nat):Int)]):=by
 rw[<- zF,<- zS,<- zS];have hd:aE (l.drop 1)=(aE l).drop 1:=by unfold aE;exact aa Xa rfl
 refine aa hd ?_;have hp:bU .Add (.list (cK ((aE l).drop 1))) (.list [.int 0])=some (.list (cK ((aE l).drop 1)++[.int 0])):=by
  have e:bU .Add (.list (cK ((aE l).drop 1))) (.list [.int 0])=if aZ ((cK ((aE l).drop 1)).length+1) then some (PV.list (cK ((aE l).drop 1)++[.int 0])) else none:=rfl
  refine aa e ?_;rw[if_pos];refine jw.mpr ?_;have hl1:=Bq ((aE l).drop 1);unfold aE at hl1;rw[eu,ca] at hl1;unfold aE;exact TK hlen hpos hl1
 refine Op (by decide) (eR (a:=.list (aE l)) (l:=none) (h:=none) (s:=some 2) (aC (by decide) h1) cM cM (dO aW (by lia)) Qk) ?_;exact aQ (a:=.list (cK ((aE l).drop 1))) (b:=.list [.int 0]) (eR (a:=.list (aE l)) (l:=some ((1:Nat):Int)) (h:=none) (s:=some 2) (aC (by decide) h1) (dO aW (by lia)) cM (dO aW (by lia)) (wv 1 (by unfold aE;rw[ca];exact hpos))) (by rfl) hp
theorem TM {n a b w:Nat} {sc:Scope} {x y z:Str} {p1 p2 p3 p4 p5 p6 p7:Pos} (hx:br sc x=true) (hy:br sc y=true) (hz:br sc z=true) (h1:σ.lookup x=some (.sh (.int (a:Nat)))) (h2:σ.lookup y=some (.sh (.int (b:Nat)))) (h3:σ.lookup z=some (.sh (.int (w:Nat)))) (hb:b<32) (hw:w<=64):pe O (n+4) sc σ (.BinOp (.Name x p1) .Add (.BinOp (.Name y p2) .Mult (.BinOp (.Constant (.int 2) 0 p3) .Pow (.Name z p4) p5) p6) p7)=some (.int ((a+b*2^w:Nat):Int)):=by refine aQ (a:=.int ((a:Nat):Int)) (b:=.int ((b*2^w:Nat):Int)) (aC hx h1) ?_ (by (refine aa nE ?_;rw[EE]));refine aQ (a:=.int ((b:Nat):Int)) (b:=.int ((2^w:Nat):Int)) (aC hy h2) (aQ (a:=.int 2) (b:=.int (w:Nat)) aW (aC hz h3) (ui (Ue hw))) ?_;rw[nq,yF];refine .inl (aB (i7 (k:=5) hb) (Qr))
theorem Rz {t:Nat->Int} {w:Nat} (hw:5<=w/\w<=64) (h3:T3 t) (h1:σ.lookup lT=some (.sh (.list (aE (cD t))))) (h2:σ.lookup dN=some (.sh (.int (w:Nat)))):pe O 53 ci σ (dy cx 5)=some (.list (aE (dE w (cD t)))):=by
 have he:aE (dE w (cD t))=(iu (cD t)).map λp=>.int ((p.1+p.2*2^w:Nat):Int):=by rw[<- wX];unfold aE;rw[eK];rfl
 have hd2:=Ez (m:=32) (cD t) (Df (w:=5) (aT 5)).1 (by decide);have hz:=Gp (O:=O) (xq h3) (O7 t) h1;have hle:aZ ((iu (cD t)).map λp=>PV.int ((p.1+p.2*2^w:Nat):Int)).length=true:=by
  rw[ca];have:(iu (cD t)).length=(dE w (cD t)).length:=by rw[<- wX,ca]
  refine aa this ?_;have:=wA w (cD t);have:=xq h3;exact jw.mpr (by lia)
 refine aa he ?_;generalize cD t=l at *;refine fj (by decide) hz (fE (xs:=iu l) (F:=λp=>.tup [.int ((p.1:Nat):Int),.int ((p.2:Nat):Int)]) (G:=λp=>.int ((p.1+p.2*2^w:Nat):Int)) λp hp=>?_) hle;refine au _ (AO (by decide) (by decide) (by decide) (ef (by decide) (by decide)) (ef (by decide) (by decide))) ?_;refine TM (by decide) (by decide) (by decide) (by refine aw (by decide) ?_;exact aS) (aS) ?_ (hd2 p hp).2 hw.2;refine aw (by decide) ?_;refine aw (by decide) ?_;exact dc (by decide) (by decide) h2
end
theorem Aw:∀l m:List Nat,ko (aE l) (aE m)=(l==m)
 |[],[]=>rfl
 |[],b::m=>rfl
 |a::l,[]=>rfl
 |a::l,b::m=>by
  have ih:=Aw l m;show (((a:Int)==(b:Int))&&ko (aE l) (aE m))=_;refine aa ih ?_;show _=(a==b&&l==m)
  congr 1
  by_cases h:a=b
  ·subst h;simp
  ·have h2:¬ (a:Int)=(b:Int):=xv h;exact aa (beq_eq_false_iff_ne.mpr h) (aa (beq_eq_false_iff_ne.mpr h2) rfl)
theorem AL (l:List Nat):(aE l).all (dk 3)=true:=by rw[dG];intro x hx;refine ah (dQ.mp hx) λk ζ e2_=>?_;subst e2_;rfl
theorem Bt {l m:List Nat}:iA .NotEq (.list (aE l)) (.list (aE m))=some (!(l==m)):=by show (if (aE l).all (dk 3)&&(aE m).all (dk 3) then some (ko (aE l) (aE m)) else none).map (λb:Bool=> !b)=_;rw[AL,AL,Aw];rfl
theorem Ec {a b:Nat}:iA .NotEq (.int (a:Nat)) (.int (b:Nat))=some (!(a==b)):=by
 show (some ((a:Int)==(b:Int))).map (λb:Bool=> !b)=_
 by_cases h:a=b
 ·subst h;simp
 ·have h2:¬ (a:Int)=(b:Int):=xv h;refine aa (beq_eq_false_iff_ne.mpr h) (aa (beq_eq_false_iff_ne.mpr h2) ?_);rfl
theorem yk {t:Nat->Int} (h:T3 t):∀l:List Nat,-(3*l.length:Nat)<=(l.map t).sum/\(l.map t).sum<=(3*l.length:Nat)
 |[]=>by simp
 |i::l=>by have:=yk h l;have:=h i;refine aa bQ (aa eY (aa dH ?_));exact KO (by assumption) this
theorem Sq {t:Nat->Int} (h:T3 t) (s:Nat):(cA t s).toNat<=12:=by have h1:=yk h (cR s);have h2:=ug s;unfold cA;exact N5 h1 h2
theorem R7 (t:Nat->Int) (s:Nat):0<=cA t s:=by unfold cA;exact JG
section
variable {O:Orc} {σ σ':Sg} {n:Nat} {sc:Scope}
theorem qx {e1 e2:ac} {p:Pos} {a b:Bool} (h1:pT O n sc σ e1=some a) (h2:a=false->pT O n sc σ e2=some b):pT O (n+1) sc σ (.BoolOp .Or [e1,e2] p)=some (a||b):=by
 refine (?_:(match Ge,pT O n sc σ e1 with|.And,some false=>some false|.Or,some true=>some true|_,some _=>(match Ge,pT O n sc σ e2 with|.And,some false=>some false|.Or,some true=>some true|_,some _=>some false|_,none=>none)|_,none=>none)=_);refine aa h1 ?_
 induction a using dF with
 |false=>refine aa (h2 rfl) ?_;induction b using dF<;>rfl
 |true=>rfl
theorem L8 {e1 e2 e3:ac} {p:Pos} (h1:pT O n sc σ e1=some false) (h2:pT O n sc σ e2=some false) (h3:pT O n sc σ e3=some false):pT O (n+1) sc σ (.BoolOp .Or [e1,e2,e3] p)=some false:=by refine (?_:(match Ge,pT O n sc σ e1 with|.And,some false=>some false|.Or,some true=>some true|_,some _=>nX (pT O n sc σ) .Or [e2,e3]|_,none=>none)=_);exact aa h1 (qx (n:=n) (p:=p) h2 λζ=>h3)
theorem NR {t:Nat->Int} (h3:T3 t) {w b:Nat} (hb:b<=28) (hw:w<=64):bZ pw (O5 pw) ie [cY t,.int b,.int w]=some (.int ((bl w (cD t):Nat):Int)):=by have hrun:=IK (O:=O5 pw) (t:=t) (w:=w) (b:=b) (λm=>rfl) hb hw (Sq h3) (R7 t);rw[TR h3] at hrun;generalize bl w (cD t)=N at *;refine nC (d:=bH ie) rfl rfl ?_;exact hrun
theorem OG {z:Nat->Nat} {w:Nat} (hw:w<=64) (hz:∀i,z i<1000000000) (hO:∀as,O.fn ie as=bZ pw (O5 pw) ie as) (h1:σ.lookup dJ=some (.sh (cY (tZ z)))) (h2:σ.lookup d4=some (.sh (fG z))) (h4:σ.lookup dN=some (.sh (.int (w:Nat)))):pe O 52 ci σ (dy cx 6)=some (.int ((bl w (cD (tZ z)):Nat):Int)):=by
 have hv:=(hO [cY (tZ z),.int ((z 4/60%29:Nat):Int),.int (w:Nat)]).trans (NR (Ac z) (w:=w) (b:=z 4/60%29) (HL) hw);generalize bl w (cD (tZ z))=N at *;have h4':=hz 4;refine dz (ds:=[cY (tZ z),.int ((z 4/60%29:Nat):Int),.int (w:Nat)]) (by decide) rfl (aG (aD (by decide) (aH h1)) (aG (az (h:=?_)) (aG (aD (by decide) (aH h4)) a7))) hv (.inr rfl);refine aQ (a:=.int ((z 4/60:Nat):Int)) (b:=.int 29) (aQ (a:=.int ((z 4:Nat):Int)) (b:=.int 60) (kS rfl (by decide) (by decide) h2) aW ?_) aW ?_
 ·show (if ((60:Int) != 0&&decide ((z 4:Int).natAbs<2^60))=true then some (PV.int (EB (z 4:Nat) 60)) else none)=_;rw[if_pos,FH _ (by decide)]
  ·rfl
  ·rewrite[bn];refine aa decide_eq_true_eq ?_;exact⟨by decide,by omega⟩
 ·show some (PV.int (gP ((z 4/60:Nat):Int) 29))=_;rw[zw _ (by decide)];rfl
theorem Oj {ds:List Nat} {w:Nat} (hO1:∀as,O.fn cN as=jR as) (hO2:∀as,O.fn cO as=jV as) (hw:1<=w/\w<=256) (hd:Dg w ds) (hl:ds.length<=128) (h1:σ.lookup gZ=some (.sh (.int (bl w ds:Nat)))) (h2:σ.lookup lT=some (.sh (.list (aE ds)))) (h3:σ.lookup dN=some (.sh (.int (w:Nat)))):pT O 51 ci σ (dy cx 7)=some false:=by
 have e1:=(hO1 [.int (bl w ds:Nat),.int (w:Nat)]).trans (xT ⟨hw.1,uu hw⟩ hd hl);have e2:=(hO2 [.list (aE ds),.int (w:Nat)]).trans (yf (uu hw) hd.1 hl);generalize bl w ds=N at *;refine L8 (bA (d:=.bool false) (h:=az (h:=bu (a:=.int (N:Nat)) (b:=.none) (aD (by decide) (aH h1)) (az (h:=nS)) rfl)) (ht:=rfl))
  (bA (d:=.bool false) (h:=az (h:=bu (a:=.list (aE ds)) (b:=.list (aE ds)) (az (h:=dz (ds:=[.int (N:Nat),.int (w:Nat)]) (by decide) rfl (aG (aD (by decide) (aH h1)) (aG (aD (by decide) (aH h3)) a7)) e1 (.inl ?_))) (aD (by decide) (aH h2)) (Bt.trans (by rw[beq_self_eq_true];rfl)))) (ht:=rfl))
  (bA (d:=.bool false) (h:=az (h:=bu (a:=.int (N:Nat)) (b:=.int (N:Nat)) (az (h:=dz (ds:=[.list (aE ds),.int (w:Nat)]) (by decide) rfl (aG (aD (by decide) (aH h2)) (aG (aD (by decide) (aH h3)) a7)) e2 (.inr rfl))) (aD (by decide) (aH h1)) (Ec.trans (by rw[beq_self_eq_true];rfl)))) (ht:=rfl))
 refine aa j6 (aa j6 (aa (dh h1) (aa (dh h3) ?_)));rfl
theorem IC {ds:List Nat} {w:Nat} (hO1:∀as,O.fn cN as=jR as) (hO2:∀as,O.fn cO as=jV as) (hw:1<=w/\w<=256) (hd:Dg w ds) (hl:ds.length<=128) (h1:σ.lookup gZ=some (.sh (.int (bl w ds:Nat)))) (h2:σ.lookup qq=some (.sh (.list (aE (dE w ds))))) (h3:σ.lookup dN=some (.sh (.int (w:Nat)))):pT O 50 ci σ (dy cx 8)=some false:=by
 have hd2:=Hb hd;have hl2:(dE w ds).length<=128:=aB (wA w ds) hl;have e1:=(hO1 [.int (bl (2*w) (dE w ds):Nat),.int (2*w:Nat)]).trans (xT ⟨LO hw,CF hw⟩ hd2 hl2);have e2:=(hO2 [.list (aE (dE w ds)),.int (2*w:Nat)]).trans (yf (CF hw) hd2.1 hl2);rw[Ch] at e1 e2;generalize bl w ds=N at *;generalize dE w ds=P at *;have h2w:bU .Mult (.int 2) (.int (w:Nat))=some (.int ((2*w:Nat):Int)):=by rw[nq (.inl (by decide))];rw[yF];rfl
 refine (qx (a:=false) (b:=false) (bA (d:=.bool false) (h:=az (h:=bu (a:=.list (aE P)) (b:=.list (aE P)) (az (h:=dz (ds:=[.int (N:Nat),.int ((2*w:Nat):Int)]) (by decide) rfl (aG (aD (by decide) (aH h1)) (aG (az (h:=aQ (a:=.int 2) (b:=.int (w:Nat)) aW (aC (by decide) h3) h2w)) a7)) e1 (.inl ?_))) (aD (by decide) (aH h2)) (Bt.trans (by rw[beq_self_eq_true];rfl)))) (ht:=rfl))
  λζ=>(bA (d:=.bool false) (h:=az (h:=bu (a:=.int (N:Nat)) (b:=.int (N:Nat)) (az (h:=dz (ds:=[.list (aE P),.int ((2*w:Nat):Int)]) (by decide) rfl (aG (aD (by decide) (aH h2)) (aG (az (h:=aQ (a:=.int 2) (b:=.int (w:Nat)) aW (aC (by decide) h3) h2w)) a7)) e2 (.inr rfl))) (aD (by decide) (aH h1)) (Ec.trans (by rw[beq_self_eq_true];rfl)))) (ht:=rfl)))
 refine aa j6 (aa j6 (aa (dh h1) ?_));rfl
theorem KZ {w:Nat} (hO1:∀as,O.fn cN as=jR as) (hO2:∀as,O.fn cO as=jV as) (hw:1<=w/\w<=256) (h3:σ.lookup dN=some (.sh (.int (w:Nat)))):pT O 49 ci σ (dy cx 9)=some false:=by
 have e1:=(hO1 [.int (bl w []:Nat),.int (w:Nat)]).trans (xT ⟨hw.1,uu hw⟩ ⟨λd hd=>(by cases hd),.inl rfl⟩ (by decide));have e2:=(hO2 [.list (aE []),.int (w:Nat)]).trans (yf (uu hw) (λd hd=>by cases hd) (by decide))
 refine (qx (a:=false) (b:=false) (bA (d:=.bool false) (h:=az (h:=bu (a:=.list (aE [])) (b:=.list (aE [])) (az (h:=dz (ds:=[.int 0,.int (w:Nat)]) (by decide) rfl (aG (az (h:=aW)) (aG (aD (by decide) (aH h3)) a7)) e1 (.inl ?_))) (az (h:=by rfl)) rfl)) (ht:=rfl))
  λζ=>(bA (d:=.bool false) (h:=az (h:=bu (a:=.int 0) (b:=.int 0) (az (h:=dz (ds:=[.list (aE []),.int (w:Nat)]) (by decide) rfl (aG (az (h:=by rfl)) (aG (aD (by decide) (aH h3)) a7)) e2 (.inr rfl))) (az (h:=aW)) rfl)) (ht:=rfl)))
 refine aa j6 (aa j6 (aa (dh h3) ?_));rfl
end
theorem AK (c:Nat):∀(n:Nat) (a:Array Nat),((bJ n #[c]).foldl (·++ ·) a)=a++(bJ n c).toArray
 |0,a=>by rfl
 |n+1,a=>by refine aa iZ (aa mM ?_);rewrite[AK c n];refine aa iZ ?_;apply Array.ext';simp
theorem Pl (c:Nat) (k:Int):vf (S [c]) k=S (bJ k.toNat c):=by
 unfold vf
 by_cases h:k<1
 ·refine aa (if_pos h) ?_;have:k.toNat=0:=NK h;refine aa this ?_;rfl
 ·refine aa (if_neg h) ?_
  by_cases h1:k=1
  ·subst h1;rfl
  ·rw[if_neg (by
    have hk:(k==1)=false:=beq_eq_false_iff_ne.mpr h1;refine aa hk ?_
    exact gz)]
   have:(S [c]).cps= #[c]:=rfl;refine aa this ?_;rw[AK];simp[S]
noncomputable def brk (k:Int):List Nat:=bJ k.toNat 41++bJ (-k).toNat 40
theorem m6 {k:Int} (h: -3<=k/\k<=3):(brk k).length<=3:=by unfold brk;refine aa cm (aa i4 (aa i4 ?_));exact Nr h
theorem o8 {c:Nat} {k:Int} (h: -1000<=k/\k<=1000):bU .Mult (.str (S [c])) (.int k)=some (.str (S (bJ k.toNat c))):=by rw[<- Pl];unfold bU;simp only;rw[if_pos];simp only[bn,decide_eq_true_eq];refine⟨⟨jw.mpr ?_,Se h⟩,PY h⟩;rw[cc];simp only[dH,ev];lia
theorem gH {a b:List Nat} (h:a.length+b.length<=100000):bU .Add (.str (S a)) (.str (S b))=some (.str (S (a++b))):=by rw[<- wH];unfold bU;simp only;rw[if_pos];refine jw.mpr ?_;rw[cc,cc];exact aB (by assumption) (b7 _ _)
noncomputable def OW:List (List Sg2):=[[],[.qt [.ch 41]],[.pl (.es 40)],[.pl (.es 92)],[.qt [.ch 40]],[.qt [.es 34,.ch 41]],[.pl (.ch 97),.pl (.es 34)],[.pl (.es 41)]]
noncomputable def jU (i:Nat):List Sg2:=OW.getD i []
noncomputable def jH (i:Nat):List Nat:=aY (cn (jU i))
noncomputable def menuP:PV:=.tup ((bF 8).map λi=>.str (S (jH i)))
noncomputable def iN (t:Nat->Int):PV:=.list ((bF 4).map λi=>.str (S (brk (t i))))
theorem td:∀i,i<8->(jH i).length<=6:=by decide+kernel
noncomputable def iR (m1 m2:Nat) (t:Nat->Int):Nat->List Nat
 |0=>jH m1++brk (t 0)
 |1=>brk (t 1)++jH m2
 |i=>brk (t i)
noncomputable def kn (m1 m2:Nat) (t:Nat->Int):List PV:=(bF 4).map λi=>.str (S (iR m1 m2 t i))
noncomputable def ed (t:Nat->Int):Int:=((bF 4).map t).sum
noncomputable def dx (m1 m2 bd:Nat) (t:Nat->Int) (o:List Nat):List Nat:=bJ bd 40++(o.map (iR m1 m2 t)).flatten++bJ ((bd:Int) - ed t).toNat 41
section
variable {O:Orc} {σ σ':Sg} {n:Nat} {sc:Scope}
theorem LS:pe O 48 ci σ (dy cx 10)=some menuP:=by rfl
theorem GZ {t:Nat->Int} (h3:T3 t) (h:σ.lookup dJ=some (.sh (cY t))):pe O 47 ci σ (dy cx 11)=some (iN t):=by
 refine fj (xs:=(bF 4).map λi=>.int (t i)) (by decide) (gI (d:=cY t) rfl (aC (by decide) h) rfl) (fE (F:=λi=>.int (t i)) (G:=λi=>.str (S (brk (t i)))) λi hi=>?_) rfl;have ht:=h3 i;refine au _ (eE (by decide) (ef (by decide) (by decide))) ?_;refine aQ (a:=.str (S (bJ (t i).toNat 41))) (b:=.str (S (bJ (-(t i)).toNat 40))) (aQ (a:=.str (S [41])) (b:=.int (t i)) (by rfl) (aC (by decide) (aS)) (o8 (OX ht)))
  (aQ (a:=.str (S [40])) (b:=.int (-(t i))) (by rfl) (pA (aC (by decide) (aS))) (o8 (PQ ht))) (gH (by refine aa i4 (aa i4 ?_);exact Ji ht))
theorem uN {t:Nat->Int} {i:Nat} {q p r:Pos} {k:Int} (hk:k=(i:Int)) (hi:i<4) (hv:br sc ke=true) (h:σ.lookup ke=some (.sh (iN t))):pe O (n+2) sc σ (.Subscript (.Name ke q) (.Constant (.int k) 0 p) r)=some (.str (S (brk (t i)))):=by subst hk;refine hJ (a:=iN t) (k:=.int (i:Int)) (h1:=aD hv (aH h)) (h2:=aW) (ho:=dh h) (h:=?_);unfold iN;rw[g9 (hi),eJ,oq hi];rfl
theorem Sz {xs:List PV} {i:Nat} (h:i<xs.length):fL (.tup xs) (.int i)=xs[i]?:=g9 (xs:=xs) h
theorem zZ {i:Nat} {q r:Pos} {e:ac} (hn:po e=true:=by rfl) (hi:i<8) (hv:br sc mo=true) (h:σ.lookup mo=some (.sh menuP)) (he:pe O (n+1) sc σ e=some (.int (i:Nat))):
  pe O (n+2) sc σ (.Subscript (.Name mo q) e r)=some (.str (S (jH i))):=by
 refine hJ hn (a:=menuP) (k:=.int (i:Int)) (h1:=aD hv (aH h)) (h2:=he) (ho:=dh h) (h:=?_);unfold menuP;rw[Sz (hi),eJ,oq hi];rfl
theorem nr {x m:Nat} (hm:m≠0):bU .Mod (.int (x:Nat)) (.int (m:Nat))=some (.int ((x%m:Nat):Int)):=by show (if ((m:Int) != 0)=true then some (PV.int (gP (x:Nat) m)) else none)=_;rw[if_pos (by rw[bne_iff_ne];exact Ek hm),zw _ (c8 _)];rfl
theorem zy {x m:Nat} (hm:m≠0) (hx:x<1000000000):bU .FloorDiv (.int (x:Nat)) (.int (m:Nat))=some (.int ((x/m:Nat):Int)):=by
 show (if ((m:Int) != 0&&decide ((x:Int).natAbs<2^60))=true then some (PV.int (EB (x:Nat) m)) else none)=_;rw[if_pos,FH _ (c8 _)]
 ·rfl
 ·rewrite[bn];refine aa decide_eq_true_eq ?_;rw[bne_iff_ne];exact⟨Ek hm,by omega⟩
theorem Nu {z:Nat->Nat} {t:Nat->Int} (h3:T3 t) (hz:∀i,z i<1000000000) (h1:σ.lookup ke=some (.sh (iN t))) (h2:σ.lookup mo=some (.sh menuP)) (hs:σ.lookup d4=some (.sh (fG z))):eU O 46 ci σ (dy cx 12)=some (.own (kn (z 5%8) (z 5/8%8) t)):=by
 have h5:=hz 5;have m1:=td (z 5%8) (iV _ (by decide));have m2:=td (z 5/8%8) (iV _ (by decide));have b0:=m6 (h3 0);have b1:=m6 (h3 1)
 refine pg (aG (aQ (a:=.str (S (jH (z 5%8)))) (b:=.str (S (brk (t 0)))) (zZ (hi:=iV _ (by decide)) (hv:=by decide) (h:=h2) (he:=aQ (a:=.int (z 5:Nat)) (b:=.int (8:Nat)) (kS rfl (by decide) (by decide) hs) aW (nr (by decide)))) (uN rfl (il _) (by decide) h1) (gH (M8 m1 b0)))
  (aG (aQ (a:=.str (S (brk (t 1)))) (b:=.str (S (jH (z 5/8%8)))) (uN rfl (by decide) (by decide) h1) (zZ (hi:=iV _ (by decide)) (hv:=by decide) (h:=h2) (he:=aQ (a:=.int ((z 5/8:Nat):Int)) (b:=.int (8:Nat)) (aQ (a:=.int (z 5:Nat)) (b:=.int (8:Nat)) (kS rfl (by decide) (by decide) hs) aW (zy (by decide) h5)) aW (nr (by decide)))) (gH (HC m2 b1)))
  (aG (uN (i:=2) rfl (by decide) (by decide) h1) (aG (uN (i:=3) rfl (eH _) (by decide) h1) a7)))) rfl
theorem Be {t:Nat->Int}:bX O (af "sum") [cY t]=some (.int (ed t)):=by have:=rI (O:=O) (l:=(bF 4).map t);replace this:=eK▸this;exact this
noncomputable def uH (z:Nat->Nat) (t:Nat->Int):Nat:=(aR 0 (ed t)).toNat+z 5/64%4
theorem Io {z:Nat->Nat} {t:Nat->Int} (hz:∀i,z i<1000000000) (h1:σ.lookup dJ=some (.sh (cY t))) (hs:σ.lookup d4=some (.sh (fG z))):pe O 45 ci σ (dy cx 13)=some (.int ((uH z t:Nat):Int)):=by
 have h5:=hz 5;refine aQ (a:=.int (aR 0 (ed t))) (b:=.int ((z 5/64%4:Nat):Int)) (dz (ds:=[.int 0,.int (ed t)]) (by decide) rfl (aG (az (h:=aW)) (aG (az (h:=dz (ds:=[cY t]) (by decide) rfl (aG (aD (by decide) (aH h1)) a7) Be (.inr rfl))) a7)) Ds (.inr rfl))
  (aQ (a:=.int ((z 5/64:Nat):Int)) (b:=.int (4:Nat)) (aQ (a:=.int (z 5:Nat)) (b:=.int (64:Nat)) (kS rfl (by decide) (by decide) hs) aW (zy (by decide) h5)) aW (nr (by decide))) ?_
 refine aa nE ?_;congr 2;unfold uH;exact QM
end
section
variable {O:Orc} {σ σ':Sg} {n:Nat} {sc sc':Scope} {o:Option Out} {r:List aN}
theorem IV {l r:ac} {op:kE} {p:Pos} (h:pe O n sc σ l=none):pe O (n+1) sc σ (.BinOp l op r p)=none:=aa rF (aa h rfl)
theorem Ll {l r:ac} {op:kE} {p:Pos} (h:pe O n sc σ r=none):pe O (n+1) sc σ (.BinOp l op r p)=none:=by refine aa rF (aa h ?_);cases pe O n sc σ l<;>rfl
theorem DW {elt:ac} {g:c9} {gs:List c9} {p:Pos} {xs:List PV} (hi:cS O n sc σ (dm g.target) g.iter=some xs) (hg:gM O n sc' (dK sc' σ) elt g gs xs=none):pe O (n+1) sc σ (.ListComp elt (g::gs) sc' p)=none:=by
 refine aa uW (aa hi ?_)
 split
 ·show ka (gM O n sc' (dK sc' σ) elt g gs xs) PV.list=_;refine aa hg ?_;rfl
 ·rfl
theorem Ej {elt t it:ac} {d:PV} {ds:List PV} {σ1:Sg} (ha:bD true sc' 4 σ' t d=some σ1) (h:pe O n sc' σ1 elt=none):gM O (n+1) sc' σ' elt ⟨t,it,[],0⟩ [] (d::ds)=none:=by refine (?_:gj (λσ d=>bD true sc' 4 σ t d) (λσ=>iG (pT O n sc' σ) []) (λσ=>match pe O n sc' σ elt with|some d=>some [d]|none=>none) (d::ds) σ'=none);refine aa xA (aa ha ?_);refine (?_:(match (match pe O n sc' σ1 elt with|some d=>some [d]|none=>none),gj _ _ _ ds σ' with|some r,some q=>some (r++q)|_,_=>none)=none);exact aa h rfl
theorem OV {c:Const} {k:Nat} {cp:Pos} {name:Str} {apos pos:Pos} {e:ac} (h:pa O n sc σ e=none):pe O (n+1) sc σ (.Call (.Attribute (.Constant c k cp) name apos) [e] [] pos)=none:=by refine aa (x5 rfl) ?_;refine aa Cj (aa h ?_);refine (show ∀{c:Bool} {x:Option PV},x=none->(if c=true then x else none)=none from λ{c x} h=>by subst h;cases c<;>rfl) ?_;cases pe O n sc σ (.Constant c k cp)<;>rfl
theorem N4 {e:ac} (hn:oW e=true:=by rfl) (h:pe O n sc σ e=none):pa O (n+1) sc σ e=none:=by
 induction e using bt<;>first|exact h|exact aU hn
theorem Kd {x:Str} {q p:Pos} {i:ac} (hi:po i=true:=by rfl) (hv:br sc x=true) (h:fW σ x=none):pe O (n+2) sc σ (.Subscript (.Name x q) i p)=none:=by have ha:pa O (n+1) sc σ (.Name x q)=none:=(if_pos hv).trans h;exact aa (u8 hi) (aa ha rfl)
theorem HN {x:Str} {xp q:Pos} {e:ac} (hl:oK e=true:=by rfl) (h:pe O n sc σ e=none):px O (n+1) sc σ (.Assign [.Name x xp] e q)=none:=by
 refine aa qO (aa (qE hl) (aa h ?_))
 split<;>rfl
theorem Qq {st:aN} (h0:px O n sc σ st=none) (hu:unown1 σ (mj st)=σ) (h:px O n sc (unown σ) st=some (.nx σ')) (hr:aO O n sc σ' r=o):aO O (n+1) sc σ (st::r)=o:=by refine aa oz (aa h0 (aa hu (aa h0 (aa h ?_))));exact hr
theorem Rc {x:Str} {xs:List PV} (hn:ew sc'.names=true) (hx:sc'.names.lookup x=some .free) (h:σ.lookup x=some (.own xs)):(dK sc' σ).lookup x=none:=by have:=rC (σ:=σ) sc'.names x hn;rw[if_pos hx,h] at this;exact this
theorem R8 {x:Str} (hn:ew sc'.names=true) (h:σ.lookup x=none):(dK sc' σ).lookup x=none:=by
 have:=rC (σ:=σ) sc'.names x hn;rw[h] at this
 split at this<;>exact this
theorem Mt {m1 m2:Nat} {t:Nat->Int} (h1:σ.lookup jI=some (.sh ordsP)) (h2:σ.lookup jT=some (.own (kn m1 m2 t))):pe O 44 ci σ (dy cx 14)=none:=by
 refine DW (xs:=ordN.map kq) (gI (d:=ordsP) rfl (aC (by decide) h1) rfl) ?_;refine aa tW ?_;refine Ej (eE (by decide) (ef (by decide) (by decide))) ?_;refine IV (Ll (OV (h:=N4 (h:=?_))));refine DW (xs:=[.int 0,.int 1,.int 2,.int 3]) (gI (d:=kq [0,1,2,3]) rfl (aC (by decide) (aS)) rfl) ?_;refine Ej (eE (by decide) (ef (by decide) (by decide))) ?_;refine Kd (hv:=by decide) (h:=?_);have hq:∀(s1 s2:Scope) (x y:Str) (d e:Ent),ew s1.names=true->s1.names.lookup jT=some .free->ew s2.names=true->jT≠x->jT≠y->fW (put (dK s2 (put (dK s1 σ) x d)) y e) jT=none:=λs1 s2 x y d e a1 a2 a3 a4 a5=>by unfold fW;rw[cE,if_neg a5,R8 a3 (by rw[cE,if_neg a4];exact Rc a1 a2 h2)]
 exact hq _ _ _ _ _ _ (by decide) (by decide) (by decide) (by decide) (by decide)
end
theorem gq {m1 m2:Nat} {t:Nat->Int} (h3:T3 t) (h1:m1<8) (h2:m2<8) (i:Nat):(iR m1 m2 t i).length<=9:=by
 have a1:=td m1 h1;have a2:=td m2 h2;have b:=m6 (h3 i)
 match i,b with
 |0,b=>show (jH m1++brk (t 0)).length<=9;refine aa cm ?_;exact Ly a1 b
 |1,b=>show (brk (t 1)++jH m2).length<=9;refine aa cm ?_;exact KF a2 b
 |i+2,b=>show (brk (t (i+2))).length<=9;exact aB (by assumption) (b7 _ _)
noncomputable def kP (m1 m2 bd:Nat) (t:Nat->Int):PV:=.list (ordN.map λo=>.str (S (dx m1 m2 bd t o)))
theorem qJ {t:Nat->Int} (h3:T3 t): -12<=ed t/\ed t<=12:=by have:=yk h3 (bF 4);unfold ed;replace this:=qo▸this;exact Lm this
section
variable {O:Orc} {σ σ':Sg} {n:Nat} {sc sc':Scope} {o:Option Out} {r:List aN}
theorem Hm {m1 m2:Nat} {t:Nat->Int} {i:Nat} (hi:i<4):fL (.list (kn m1 m2 t)) (.int (i:Nat))=some (.str (S (iR m1 m2 t i))):=by unfold kn;rw[g9 (hi),eJ,oq hi];rfl
theorem Ri {m1 m2 bd:Nat} {t:Nat->Int} (h3:T3 t) (hm1:m1<8) (hm2:m2<8) (hbd:bd<=20) (h1:σ.lookup jI=some (.sh ordsP)) (h2:σ.lookup jT=some (.sh (.list (kn m1 m2 t)))) (h4:σ.lookup mx=some (.sh (.int (bd:Nat)))) (h5:σ.lookup dJ=some (.sh (cY t))):pe O 44 ci σ (dy cx 14)=some (kP m1 m2 bd t):=by
 refine fj (xs:=ordN.map kq) (by decide) (gI (d:=ordsP) rfl (aC (by decide) h1) rfl) (fE (F:=kq) (G:=λo=>.str (S (dx m1 m2 bd t o))) λo ho=>?_) (by (rewrite[ca];refine aa mn ?_);rfl);refine au _ (eE (by decide) (ef (by decide) (by decide))) ?_;have ho4:=qX o ho;have hlt:∀a∈o,a<4:=by
  obtain ⟨i,j,k,l,rfl,hi,hj,hk,hl⟩:=ml o ho;intro a ha;simp only[ao,ba,or_false] at ha;rcases ha with rfl|rfl|rfl|rfl<;>assumption
 have hs:=qJ h3;have hfl:(o.map (iR m1 m2 t)).flatten.length<=36:=by obtain ⟨i,j,k,l,rfl,hi,hj,hk,hl⟩:=ml o ho;have a1:=gq h3 hm1 hm2 i;have a2:=gq h3 hm1 hm2 j;have a3:=gq h3 hm1 hm2 k;have a4:=gq h3 hm1 hm2 l;simp only[bQ,qm,gT,ql,cm,ev];exact KU a1 a2 a3 a4
 have hpv:PV.list (o.map λa=>.str (S (iR m1 m2 t a)))=.list (bj (o.map (iR m1 m2 t))):=by unfold bj;refine aa eK ?_;rfl
 refine aQ (a:=.str (S (bJ bd 40++(o.map (iR m1 m2 t)).flatten))) (b:=.str (S (bJ ((bd:Int) - ed t).toNat 41)))
  (aQ (a:=.str (S (bJ bd 40))) (b:=.str (S (o.map (iR m1 m2 t)).flatten)) (aQ (a:=.str (S [40])) (b:=.int (bd:Nat)) (by rfl) (aC (by decide) ?_) ((o8 (H2 hbd)).trans (by rw[er]))) ?_ (gH (by refine aa i4 ?_;exact Tp hbd hfl)))
  (aQ (a:=.str (S [41])) (b:=.int ((bd:Int) - ed t)) (by rfl) (aQ (a:=.int (bd:Nat)) (b:=.int (ed t)) (aC (by decide) ?_) (dz (ds:=[cY t]) (by decide) rfl (aG (aD (by decide) (aH ?_)) a7) Be (.inr rfl)) qD) (o8 (LV hbd hs)))
  (gH (by refine aa cm (aa i4 (aa i4 ?_));exact JL hbd hs hfl))
 ·refine aw (by decide) ?_;exact dc (by decide) (by decide) h4
 ·refine lZ (r:=.str (S [])) (ds:=[.list (bj (o.map (iR m1 m2 t)))]) (h0:=rfl) (hp:=rfl) (hl:=rfl) (h1:=by rfl) (h2:=aG (az (h:=?_)) a7) (h:=wT (aB (by assumption) (b7 _ _)));refine aA hpv ?_;refine fj (xs:=o.map λa=>.int ((a:Nat):Int)) (by decide) (gI (d:=kq o) rfl (aC (by decide) (aS)) rfl) (fE (F:=λa=>.int ((a:Nat):Int)) (G:=λa=>.str (S (iR m1 m2 t a))) λa ha=>?_) (by (rewrite[ca];refine aa ho4 ?_);rfl);refine au _ (eE (by decide) (ef (by decide) (by decide))) ?_;refine hJ (a:=.list (kn m1 m2 t)) (k:=.int (a:Nat)) (h1:=aD (by decide) (aH ?_)) (h2:=aC (by decide) (aS)) (ho:=dh (d:=.list (kn m1 m2 t)) ?_) (h:=Hm (hlt a ha))
  all_goals
   refine aw (by decide) ?_;exact dc (by decide) (by decide) (by refine aw (by decide) ?_;exact dc (by decide) (by decide) h2)
 ·refine aw (by decide) ?_;exact dc (by decide) (by decide) h4
 ·refine aw (by decide) ?_;exact dc (by decide) (by decide) h5
end
noncomputable def gK (k:Int):List Sg2:=bJ k.toNat (.pl (.ch 41))++bJ (-k).toNat (.pl (.ch 40))
noncomputable def nc (m1 m2:Nat) (t:Nat->Int):Nat->List Sg2
 |0=>jU m1++gK (t 0)
 |1=>gK (t 1)++jU m2
 |i=>gK (t i)
noncomputable def kU (m1 m2 bd c:Nat) (t:Nat->Int) (o:List Nat):List Sg2:=bJ bd (.pl (.ch 40))++(o.map (nc m1 m2 t)).flatten++bJ c (.pl (.ch 41))
theorem Jn (a b:List Sg2):cn (a++b)=cn a++cn b:=by unfold cn;exact aa F6 rfl
theorem pk (a b:List Sg2):cP (a++b)=cP a++cP b:=by unfold cP;exact aa F6 rfl
noncomputable def tx (l:List Sg2):List Nat:=aY (cn l)
theorem pv (a b:List Sg2):tx (a++b)=tx a++tx b:=by unfold tx;rw[Jn,kY]
theorem rp (c:Nat):∀n:Nat,tx (bJ n (.pl (.ch c)))=bJ n c
 |0=>rfl
 |n+1=>by refine aa iZ (aa iZ (aA (rp c n) ?_));rfl
theorem x2 (k:Int):tx (gK k)=brk k:=by unfold gK brk;rw[pv,rp,rp]
theorem Hy (m1 m2:Nat) (t:Nat->Int) (i:Nat):tx (nc m1 m2 t i)=iR m1 m2 t i:=by
 match i with
 |0=>show tx (jU m1++gK (t 0))=jH m1++brk (t 0);rw[pv,x2];rfl
 |1=>show tx (gK (t 1)++jU m2)=brk (t 1)++jH m2;rw[pv,x2];rfl
 |i+2=>exact x2 _
theorem Ct (m1 m2:Nat) (t:Nat->Int):∀o:List Nat,tx (o.map (nc m1 m2 t)).flatten=(o.map (iR m1 m2 t)).flatten
 |[]=>rfl
 |i::o=>by (refine aa bQ (aa bQ (aa gT (aa gT ?_)));rewrite[pv,Hy];exact aa (Ct m1 m2 t o) rfl)
theorem x9 (m1 m2 bd:Nat) (t:Nat->Int) (o:List Nat):tx (kU m1 m2 bd ((bd:Int) - ed t).toNat t o)=dx m1 m2 bd t o:=by unfold kU dx;rw[pv,pv,rp,rp,Ct]
noncomputable def iK (l:List Sg2):Bool:=l.all Sg2.ok
theorem oR (a b:List Sg2):iK (a++b)=(iK a&&iK b):=by unfold iK;exact aa F7 rfl
theorem sV (n:Nat) {g:Sg2} (h:g.ok=true):iK (bJ n g)=true:=by unfold iK;rw[dG];intro x hx;refine aa (mW hx) ?_;exact h
theorem w1 (k:Int):iK (gK k)=true:=by unfold gK;rewrite[oR];refine aa (sV _ rfl) (aa (sV _ rfl) ?_);rfl
theorem CV:∀m,m<8->iK (jU m)=true:=by decide+kernel
theorem P4 {m1 m2:Nat} (t:Nat->Int) (h1:m1<8) (h2:m2<8) (i:Nat):iK (nc m1 m2 t i)=true:=by
 match i with
 |0=>show iK (jU m1++gK (t 0))=true;rewrite[oR,w1];refine aa (CV m1 h1) ?_;rfl
 |1=>show iK (gK (t 1)++jU m2)=true;rewrite[oR,w1];refine aa (CV m2 h2) ?_;rfl
 |i+2=>exact w1 _
theorem Ab {m1 m2:Nat} (t:Nat->Int) (h1:m1<8) (h2:m2<8):∀o:List Nat,iK (o.map (nc m1 m2 t)).flatten=true
 |[]=>rfl
 |i::o=>by (refine aa bQ (aa gT ?_);rewrite[oR,P4 t h1 h2];refine aa (Ab t h1 h2 o) ?_);rfl
theorem CJ {m1 m2 bd c:Nat} (t:Nat->Int) (h1:m1<8) (h2:m2<8) (o:List Nat):iK (kU m1 m2 bd c t o)=true:=by unfold kU;rewrite[oR,oR];refine aa (sV _ rfl) (aa (sV _ rfl) ?_);rw[Ab t h1 h2];rfl
theorem kA:∀(a b:List It0) (k:Int),cu k (a++b)=(cu k a).bind λk'=>cu k' b
 |[],b,k=>rfl
 |.ch c::a,b,k=>by
  show (if c=40 then cu (k+1) (a++b) else if c=41 then (if k - 1<0 then none else cu (k - 1) (a++b)) else cu k (a++b))=Option.bind (if c=40 then cu (k+1) a else if c=41 then (if k - 1<0 then none else cu (k - 1) a) else cu k a) _;rw[kA a b,kA a b,kA a b]
  split
  ·rfl
  ·split
   ·split<;>rfl
   ·rfl
 |.es c::a,b,k=>kA a b k
theorem rf (c:Nat):∀n:Nat,cP (bJ n (.pl (.ch c)))=bJ n (.ch c)
 |0=>rfl
 |n+1=>by refine aa iZ (aa iZ (aA (rf c n) ?_));rfl
theorem wK:∀(n:Nat) (k:Int),cu k (bJ n (.ch 40))=some (k+n)
 |0,k=>by simp[xE,tP,wW]
 |n+1,k=>by refine aa iZ ?_;show cu (k+1) _=_;rw[wK n];congr 1;exact M3
theorem wN:∀(n:Nat) (k:Int),0<=k->cu k (bJ n (.ch 41))=if k<n then none else some (k - n)
 |0,k,h=>by rw[if_neg (JV h)];simp[xE,tP,wW]
 |n+1,k,h=>by
  rw[iZ];show (if k - 1<0 then none else cu (k - 1) _)=_
  by_cases h1:k - 1<0
  ·rw[if_pos h1,if_pos (by exact QQ h h1)]
  ·rw[if_neg h1,wN n (k - 1) (fX.mp (by assumption))]
   by_cases h2:k<(n+1:Nat)
   ·rw[if_pos h2,if_pos (Ib h2)]
   ·rw[if_neg h2,if_neg (RO h2)];congr 1;exact KG
theorem xW {x k:Int} (hk:0<=k):cu k (cP (gK x))=if k - x<0 then none else some (k - x):=by
 unfold gK;rw[pk,rf,rf,kA,wN _ _ hk]
 by_cases h:k<x.toNat
 ·rw[if_pos h,if_pos (Gq hk h)];rfl
 ·rw[if_neg h,if_neg (Qm hk h)];show cu _ _=_;rw[wK];congr 1;exact Ju
theorem By {k:Int}:∀m,m<8->cu k (cP (jU m))=some k:=by
 intro m hm;have:m=0\/m=1\/m=2\/m=3\/m=4\/m=5\/m=6\/m=7:=Kr hm;rcases this with rfl|rfl|rfl|rfl|rfl|rfl|rfl|rfl<;>rfl
theorem SG {m1 m2:Nat} {t:Nat->Int} (h1:m1<8) (h2:m2<8) (i:Nat) {k:Int} (hk:0<=k):cu k (cP (nc m1 m2 t i))=if k - t i<0 then none else some (k - t i):=by
 match i with
 |0=>show cu k (cP (jU m1++gK (t 0)))=_;rw[pk,kA,By m1 h1];exact xW hk
 |1=>
  show cu k (cP (gK (t 1)++jU m2))=_;rw[pk,kA,xW hk]
  by_cases h:k - t 1<0
  ·rw[if_pos h];rfl
  ·rw[if_neg h];exact By m2 h2
 |i+2=>exact xW hk
theorem De {m1 m2:Nat} {t:Nat->Int} (h1:m1<8) (h2:m2<8):∀(o:List Nat) {k:Int},0<=k->cu k (cP (o.map (nc m1 m2 t)).flatten)=if (cB t o:Int)<=k then some (k - (o.map t).sum) else none
 |[],k,hk=>by rw[if_pos (by exact hk)];simp[cP,xE,tP,wW]
 |i::o,k,hk=>by
  rw[bQ,gT,pk,kA,SG h1 h2 i hk,bQ,eY]
  by_cases h:k - t i<0
  ·rw[if_pos h,if_neg (by rw[cB];exact Gh hk h)];rfl
  ·rw[if_neg h];show cu (k - t i) _=_;rw[De h1 h2 o (fX.mp (by assumption))]
   by_cases h3:(cB t o:Int)<=k - t i
   ·rw[if_pos h3,if_pos (by rw[cB];exact HI hk h3)];congr 1;exact Ow
   ·rw[if_neg h3,if_neg (by rw[cB];exact Qf hk h3)]
theorem AX {m1 m2 bd c:Nat} {t:Nat->Int} {o:List Nat} (h1:m1<8) (h2:m2<8) (hc:(c:Int)<=bd - (o.map t).sum):rZ (cP (kU m1 m2 bd c t o))=(decide (cB t o<=bd)&&decide ((bd:Int) - (o.map t).sum=c)):=by
 unfold rZ kU;rw[pk,pk,rf,rf,ga,kA,wK];show (match cu _ _ with|some k=>k==0|none=>false)=_;rw[kA,De h1 h2 o (by exact pL (by decide) (c8 _))]
 by_cases h:(cB t o:Int)<=0+(bd:Int)
 ·refine aa (if_pos h) ?_;show (match cu _ _ with|some k=>k==0|none=>false)=_;rw[wN _ _ (GX hc),if_neg (Sn hc)];have e:decide (cB t o<=bd)=true:=decide_eq_true (RE h);refine aa e ?_;rw[ET];simp only;rw[vw,beq_iff_eq,decide_eq_true_eq];exact Nd
 ·rw[if_neg h];have e:decide (cB t o<=bd)=false:=decide_eq_false (Lv h);rw[e];rfl
theorem Lc:∀o∈ordN,o.isPerm [0,1,2,3]=true:=by rw[tW];decide+kernel
theorem HX {l m:List Int} (h:l.Perm m):l.sum=m.sum:=by
 induction h with
 |nil=>rfl
 |cons a _ ih=>rw[eY,eY,ih]
 |swap a b l=>rw[eY,eY,eY,eY,Int.add_left_comm]
 |trans _ _ h1 h2=>exact h1.trans h2
theorem Ak (t:Nat->Int):∀o∈ordN,(o.map t).sum=ed t:=λo ho=>HX ((List.isPerm_iff.mp (Lc o ho)).map t)
theorem Qt {m1 m2 bd:Nat} {t:Nat->Int} {o:List Nat} (h3:T3 t) (h1:m1<8) (h2:m2<8) (hb:ed t<=bd/\bd<=20) (ho:o∈ordN):bZ pw (O2 pw) fA [.str (S (dx m1 m2 bd t o))]=some (.bool (decide (cB t o<=bd))):=by
 have hs:=Ak t o ho;have hl:(dx m1 m2 bd t o).length<=100000:=by have:=qJ h3;unfold dx;obtain ⟨i,j,k,l,rfl,hi,hj,hk,hl⟩:=ml o ho;have a1:=gq h3 h1 h2 i;have a2:=gq h3 h1 h2 j;have a3:=gq h3 h1 h2 k;have a4:=gq h3 h1 h2 l;simp only[bQ,qm,gT,ql,cm,ev,i4];exact TF hb this a1 a2 a3 a4
 have hv:=Ca (l:=kU m1 m2 bd ((bd:Int) - ed t).toNat t o) (CJ t h1 h2 o) (by
  have:=x9 m1 m2 bd t o;unfold tx at this
  rw[this];exact hl)
 have ht:=x9 m1 m2 bd t o;unfold tx at ht;rw[ht,AX h1 h2 (by rw[hs];exact GG hb)] at hv;rw[hv];have e:decide ((bd:Int) - (o.map t).sum=(((bd:Int) - ed t).toNat:Nat))=true:=decide_eq_true (by rw[hs];exact JJ hb);rw[e,WX]
theorem Jk {m1 m2 bd:Nat} {t:Nat->Int} {o:List Nat} (h3:T3 t) (h1:m1<8) (h2:m2<8) (hb:ed t<=bd/\bd<=20) (ho:o∈ordN):bZ pw (O2 pw) fA [.str (S (40::dx m1 m2 bd t o))]=some (.bool false):=by
 have hs:=Ak t o ho;have hl:(dx m1 m2 bd t o).length<=99999:=by have:=qJ h3;unfold dx;obtain ⟨i,j,k,l,rfl,hi,hj,hk,hl⟩:=ml o ho;have a1:=gq h3 h1 h2 i;have a2:=gq h3 h1 h2 j;have a3:=gq h3 h1 h2 k;have a4:=gq h3 h1 h2 l;simp only[bQ,qm,gT,ql,cm,ev,i4];exact TN hb this a1 a2 a3 a4
 have ht:aY (cn (kU m1 m2 (bd+1) ((bd:Int) - ed t).toNat t o))=40::dx m1 m2 bd t o:=by have:=x9 m1 m2 bd t o;rw[<- this];rfl
 have hv:=Ca (l:=kU m1 m2 (bd+1) ((bd:Int) - ed t).toNat t o) (CJ t h1 h2 o) (by
  rw[ht,dH];exact vI (by assumption))
 rw[ht,AX h1 h2 (by refine aa hs ?_;exact M4 hb)] at hv;refine aa hv ?_;have e:decide (((bd+1:Nat):Int) - (o.map t).sum=(((bd:Int) - ed t).toNat:Nat))=false:=decide_eq_false (by refine aa hs ?_;exact IG hb);refine aa e ?_;rw[Bool.and_false]
noncomputable def e9 (l:List Nat) (n:Nat):Int:=((l.take n).count 41:Int) - ((l.take n).count 40:Int)
noncomputable def Mx (l:List Nat) (m:Int):Prop:=(∀n,e9 l n<=m)/\∃n,n<=l.length/\e9 l n=m
theorem tr (l:List Nat):e9 l 0=0:=by rfl
theorem x3 {l:List Nat} {m:Int} (h:Mx l m):0<=m:=by have:=h.1 0;rw[tr] at this;exact this
theorem ud (c:Nat) (l:List Nat) (n:Nat):e9 (c::l) (n+1)=(if c=41 then 1 else 0) - (if c=40 then 1 else 0)+e9 l n:=by
 unfold e9;refine aa EW (aa zm (aa zm ?_))
 by_cases h1:c=41
 ·subst h1;simp;exact QB
 ·by_cases h2:c=40
  ·subst h2;simp;exact P8
  ·simp[h1,h2]
theorem Pu {l:List Nat} {m:Int} (h:Mx l m):Mx (41::l) (m+1):=by
 have h0:=x3 h;refine⟨λn=>?_,?_⟩
 ·induction n using dq with
  |zero=>rw[tr];exact NH h0
  |succ n=>have:=h.1 n;rw[ud];simp;exact Ox this
 ·refine ah h.2 λn hn he=>?_;exact au (n+1) (vI hn) (by (rewrite[ud];refine aa he ?_);simp;exact sf _ _)
theorem QZ {l:List Nat} {m:Int} (h:Mx l m):Mx (40::l) (aR 0 (m - 1)):=by
 refine⟨λn=>?_,?_⟩
 ·induction n using dq with
  |zero=>rw[tr];exact Q9
  |succ n=>have:=h.1 n;rw[ud];simp;exact Ix this
 ·by_cases hm:m - 1<=0
  ·exact au 0 (iY _) (by rw[tr];exact Uh hm)
  ·refine ah h.2 λn hn he=>?_;exact au (n+1) (vI hn) (by (rewrite[ud];refine aa he ?_);simp;exact NI hm)
theorem B9 {l:List Nat}:∀(k:Nat) {m:Int},Mx l m->Mx (bJ k 41++l) (m+k)
 |0,m,h=>by simpa using h
 |k+1,m,h=>by have:=Pu (B9 k h);refine aa iZ (aa ox ?_);have e:m+((k+1:Nat):Int)=m+(k:Int)+1:=LU;refine aa e ?_;exact this
theorem DD {l:List Nat}:∀(k:Nat) {m:Int},Mx l m->Mx (bJ k 40++l) (aR 0 (m - k))
 |0,m,h=>by have:=x3 h;refine aa ED ?_;rewrite[Uv];refine aa (mE this) ?_;exact h
 |k+1,m,h=>by have:=QZ (DD k h);refine aa iZ (aa ox ?_);refine aa (show ((k+1:Nat):Int)=(k:Int)+1 from rfl) (aa OE ?_);exact this
theorem II {l:List Nat} {m k:Int} (h:Mx l m):Mx (brk k++l) (aR 0 (k+m)):=by have h0:=x3 h;unfold brk;rw[ga];have:=B9 k.toNat (DD (-k).toNat h);refine aa (HU h0) ?_;exact this
noncomputable def gE (t:Nat->Int) (o:List Nat):List Nat:=(o.map λi=>brk (t i)).flatten
theorem AW (t:Nat->Int):∀o:List Nat,Mx (gE t o) (cB t o:Int)
 |[]=>⟨λn=>by simp[gE,e9,Br,uG],0,by simp[gE,e9,Br,uG]⟩
 |i::o=>by
  have:=II (k:=t i) (AW t o);have e:((cB t (i::o):Nat):Int)=aR 0 (t i+(cB t o:Int)):=by rw[uG];exact Go
  refine aa e ?_;exact this
theorem Od (t:Nat->Int) (o:List Nat):∀c∈gE t o,c=41\/c=40:=by
 intro c hc;unfold gE at hc;rw[List.mem_flatten] at hc;refine ah hc λl hl hc=>?_;refine ah (dQ.mp hl) λi ζ e2_=>?_;subst e2_;unfold brk at hc;rw[be] at hc;rcases hc with hc|hc
 ·exact .inl (mW hc)
 ·exact .inr (mW hc)
theorem NY (t:Nat->Int) (o:List Nat):46∉gE t o:=λh=>by have:=Od t o 46 h;exact absurd (by assumption) (by decide)
theorem wS (c:Nat):∀u:List Nat,(c∉u->after [c] u=none)/\(c∈u->∃a b,u=a++c::b/\c∉a/\after [c] u=some (a.length,b))
 |[]=>⟨λζ=>rfl,λh=>nomatch h⟩
 |d::u=>by
  refine bf (wS c u) λh1 h2=>?_
  by_cases hd:c=d
  ·subst hd;refine⟨λh=>absurd (.head _) h,λζ=>⟨[],u,rfl,by simp,?_⟩⟩;simp[Eu,re,Xb]
  ·have hp:[c].isPrefixOf (d::u)=false:=by simp[Xb,hd]
   refine⟨λh=>?_,λh=>?_⟩
   ·have hu:c∉u:=λx=>h (.tail _ x);refine aa re ?_;refine aa hp (aa (h1 hu) ?_);rfl
   ·have hu:c∈u:=by
     cases h with
     |head=>exact absurd rfl hd
     |tail _ h=>exact h
    refine bw (h2 hu) λa b e ha hs=>?_;refine gw (d::a) b (by refine aa e ?_;rfl) ?_ ?_
    ·intro hh;cases hh with
     |head=>exact hd rfl
     |tail _ hh=>exact ha hh
    ·refine aa re ?_;refine aa hp (aa hs ?_);rfl
theorem xX (u:List Nat):after [] u=some (0,u):=by
 induction u using aF with
 |nil=>rfl
 |cons c u=>rfl
noncomputable def lf:List Nat->List Nat->Bool:=λl u=>ii (l.map λc=>[c]) u
theorem yo:∀(l u:List Nat),lf l u=true↔l.Sublist u
 |[],u=>⟨λζ=>List.nil_sublist _,λζ=>rfl⟩
 |c::l,u=>by
  refine bf (wS c u) λh1 h2=>?_;unfold lf;refine aa bQ ?_;refine aa py ?_
  by_cases hc:c∈u
  ·refine bw (h2 hc) λa b e ha hs=>?_;refine aa hs ?_;show lf l b=true↔_;rewrite[yo l b];refine aa e ?_;constructor
   ·intro h;exact (Yk c h).trans (List.sublist_append_right a _)
   ·intro h;have:∀a:List Nat,c∉a->(c::l).Sublist (a++c::b)->(c::l).Sublist (c::b):=by
     intro a
     induction a with
     |nil=>intro _ h;exact h
     |cons x a ih=>
      intro hx h;apply ih (λz=>hx (.tail _ z));cases h with
      |cons _ h=>exact h
      |cons_cons _ h=>exact absurd (.head _) hx
    have h3:=this a ha h;cases h3 with
    |cons _ h=>exact (List.sublist_cons_self c l).trans h
    |cons_cons _ h=>exact h
  ·refine aa (h1 hc) ?_;constructor
   ·intro h;exact aU h
   ·intro h;exact absurd (h.subset (.head _)) hc
theorem u0 (T:List Nat) {c:Nat} (h:c<=T.length):oO T (T.drop c)=some c:=by
 unfold oO
 by_cases h0:T.drop c=[]
 ·have:=congrArg eI h0;rw[eu,ev] at this;refine aa (if_pos h0) ?_;congr 1;exact Mc h this
 ·have hs:(T.drop c).isSuffixOf T=true:=zn.mpr (List.drop_suffix c T);refine aa (if_neg h0) (aa (if_pos hs) (aa eu ?_));congr 1;exact Si h
theorem q0:∀(P:List (List Nat)) (u:List Nat),(∀w∈P,w=[])->ii P u=true
 |[],_,_=>rfl
 |w::P,u,h=>by have hw:=h w (.head _);subst hw;refine aa py ?_;rw[xX];exact q0 P u λw hw=>h w (.tail _ hw)
theorem tq (w:List Nat) (r:List (List Nat)) (T:List Nat):lV (w::r) T=if w=[] then jd T 0 (w::r) ((w::r).getLastD []) else if w.isPrefixOf T=true then jd T w.length r (r.getLastD []) else false:=rfl
theorem J8 (T:List Nat) {c d:Nat} (hc:c<=T.length) (hd:d<=T.length):lV [T.take c,T.drop d] T=decide (c<=d):=by
 rw[tq];have hlast:∀(x:List Nat),[x].getLastD []=x:=λζ=>rfl
 by_cases h0:T.take c=[]
 ·have hl:=congrArg eI h0;rw[fJ,ev] at hl;refine aa (if_pos h0) ?_;have e:[T.take c,T.drop d].getLastD []=T.drop d:=rfl;refine aa e ?_;unfold jd;refine aa (u0 T hd) ?_;simp only;rw[if_neg (tu),decide_eq_true (Jq hc hl:c<=d)];apply q0;intro w hw
  split at hw
  ·rename_i hb;simp only[ao,ba,or_false] at hw;rcases hw with rfl|rfl
   ·exact h0
   ·exact hb
  ·simp only[Xc,ao,ba,or_false] at hw;rw[hw];exact h0
 ·have hp:(T.take c).isPrefixOf T=true:=qk.mpr (Xd c T);refine aa (if_neg h0) (aa (if_pos hp) ?_);rw[hlast];unfold jd;refine aa (u0 T hd) ?_;simp only;have hl:(T.take c).length=c:=by refine aa fJ ?_;exact Dv hc
  refine aa hl ?_
  by_cases h:d<c
  ·rw[if_pos h,decide_eq_false (W0.mpr (by assumption))]
  ·rw[if_neg h,decide_eq_true (pO (by assumption):c<=d)];apply q0;intro w hw
   split at hw
   ·rename_i hb;simp only[ao,ba,or_false] at hw;refine aa hw ?_;exact hb
   ·simp[Xc] at hw
theorem Qy (T:List Nat) {c x:Nat} (hc:c<=T.length):lV [T.take c,[x],T.drop c] T=false:=by
 have hx:∀P:List (List Nat),ii ([x]::P) []=false:=λP=>by refine aa py ?_;rw[(wS x []).1 (by simp)]
 rw[tq]
 by_cases h0:T.take c=[]
 ·have hl:=congrArg eI h0;rw[fJ,ev] at hl;refine aa (if_pos h0) ?_;have e:[T.take c,[x],T.drop c].getLastD []=T.drop c:=rfl;refine aa e ?_;unfold jd;refine aa (u0 T hc) ?_;simp only;rw[if_neg (tu)];have hc0:(T.drop 0).take (c - 0)=[]:=by rw[qc,sJ];exact h0
  rw[hc0,h0];have h2:∀P:List (List Nat),ii ([]::[x]::P) []=false:=λP=>by refine aa py ?_;rw[xX];exact hx P
  split
  ·exact h2 _
  ·exact h2 _
 ·have hp:(T.take c).isPrefixOf T=true:=qk.mpr (Xd c T);refine aa (if_neg h0) (aa (if_pos hp) ?_);have e:[[x],T.drop c].getLastD []=T.drop c:=rfl;refine aa e ?_;unfold jd;rw[u0 T hc];simp only;have hl:(T.take c).length=c:=by rw[fJ];exact Dv hc
  rw[hl,if_neg (Ia),vQ,zk]
  split
  ·exact hx _
  ·exact hx _
theorem zz:∀(l:List Nat) (u:List Nat),ii (l.map (λc=>[c])++[[]]) u=lf l u
 |[],u=>q0 [[]] u (by decide)
 |c::l,u=>by
  unfold lf;refine aa bQ (aa ox ?_);unfold ii;cases after [c] u with
  |none=>rfl
  |some p=>exact zz l p.2
theorem Ex (T:List Nat):oO T []=some T.length:=by unfold oO;exact aa (if_pos rfl) rfl
theorem Oc (l T:List Nat):lV ([]::(l.map (λc=>[c])++[[]])) T=lf l T:=by
 rw[tq];refine aa (if_pos rfl) ?_;have e:([]::(l.map (λc=>[c])++[[]])).getLastD []=([]:List Nat):=by rw[wI (sO _ _),List.getLast_cons (by simp),List.getLast_append_right (sO _ _)];rfl
 refine aa e ?_;unfold jd;rw[Ex];simp only;rw[if_neg (tu),if_pos trivial,qc,sJ,lF];refine aa py ?_;rw[xX];exact zz l T
theorem Rm (T:List Nat):lV [[],[],[]] T=true:=by rw[tq];refine aa (if_pos rfl) ?_;have e:([[],[],[]]:List (List Nat)).getLastD []=[]:=rfl;refine aa e ?_;unfold jd;rw[Ex];simp only;rw[if_neg (tu),if_pos trivial];exact q0 _ _ (by decide)
noncomputable def ig (a b:Nat):List Nat:=bJ a 41++bJ b 40
theorem NZ {a b:Nat}:∀{l:List Nat},(ig a b).Sublist l->∃n,n<=l.length/\a<=(l.take n).count 41/\b<=(l.drop n).count 40:=by
 intro l h;unfold ig at h;rw[List.append_sublist_iff] at h;refine bw h λl1 l2 e2_ h1 h2=>?_;clear h;subst e2_;refine jD l1.length (by simp) ?_ ?_
 ·rw[Wz]
  ·have:=h1.count_le 41;rwa [Xe] at this
  ·rfl
 ·rw[FY]
  ·have:=h2.count_le 40;rwa [Xe] at this
  ·rfl
theorem Dm (c:Nat):∀l:List Nat,(bJ (l.count c) c).Sublist l:=λl=>by rw[<- List.filter_eq];exact List.filter_sublist
theorem Nt (l:List Nat) (n:Nat):(ig ((l.take n).count 41) ((l.drop n).count 40)).Sublist l:=by have:=Yl (Dm 41 (l.take n)) (Dm 40 (l.drop n));rwa [Xf] at this
theorem Ml {l:List Nat} {m:Int} (h:Mx l m) {a b:Nat} (hs:(ig a b).Sublist l):(a:Int)+b<=m+l.count 40:=by
 refine bo (NZ hs) λn hn h1 h2=>?_;have h3:=h.1 n;unfold e9 at h3;have h4:l.count 40=(l.take n).count 40+(l.drop n).count 40:=by refine aA List.count_append ?_;rw[Xf]
 exact GE h1 h2 h3 h4
noncomputable abbrev um:Str:=af "text"
noncomputable def Pq (b:List aN) (i:Nat):ac:=match b[i]? with
 |some (.For _ it _ _ _)=>it
 |_=>.Constant .none 0 ⟨0,0,0,0⟩
theorem BC {α:Type} (f g:α->PV):∀l:List α,bT (l.map f) (l.map g)=l.map λx=>.tup [f x,g x]
 |[]=>rfl
 |a::l=>by refine aa bQ (aa bQ (aa bQ (aA (BC f g l) ?_)));rfl
theorem CW {α β:Type} (f:α->β):∀(n:Nat) (l:List α),l.length<=n->cK (l.map f)=(cK l).map f
 |0,[],_=>rfl
 |n+1,[],_=>rfl
 |n+1,[a],_=>rfl
 |n+1,a::b::r,h=>by simp only[dH] at h;have:=CW f n r (BQ h);show f a::cK (r.map f)=f a::(cK r).map f;rw[this]
section
variable {O:Orc} {σ σ':Sg} {n:Nat} {sc sc':Scope} {o:Option Out} {r:List aN}
theorem qw {n:Nat} {x:Str} {q:Pos} {d:PV} (hx:bb sc x=true):bD false sc (n+1) σ (.Name x q) d=some (put σ x (.sh d)):=D9 hx rfl
theorem JT {x y:Str} {q r s:Pos} {k:Nat} {d e:PV} (hx:bb sc x=true) (hy:bb sc y=true):bD false sc 4 σ (.Tuple [.Name x q,.Name y r] k s) (.tup [d,e])=some (put (put σ x (.sh d)) y (.sh e)):=
 nB (qw hx) (nB (qw hy) rfl)
theorem Ut {x y z:Str} {q r s u:Pos} {k:Nat} {d e f:PV} (hx:bb sc x=true) (hy:bb sc y=true) (hz:bb sc z=true):bD false sc 4 σ (.Tuple [.Name x q,.Name y r,.Name z u] k s) (.tup [d,e,f])=some (put (put (put σ x (.sh d)) y (.sh e)) z (.sh f)):=
 nB (qw hx) (nB (qw hy) (nB (qw hz) rfl))
theorem Tc {e1 e2:ac} {p1 p2 p3 p4:Pos} {xs ys:List PV} (hl:bS sc (af "list")=true) (hz:bS sc (af "zip")=true) (h1:pe O n sc σ e1=some (.list xs)) (h2:pe O n sc σ e2=some (.list ys)) (hk:aZ (bT xs ys).length=true):pe O (n+1) sc σ (.Call (.Name (af "list") p1) [.Call (.Name (af "zip") p2) [e1,e2] [] p3] [] p4)=some (.list (bT xs ys)):=by rw[Cu,if_pos hl,if_pos (by rw[hz];rfl)];rw[aG h1 (aG h2 a7)];show (if aZ (bT xs ys).length=true then some (PV.list (bT xs ys)) else none)=_;exact aa (if_pos hk) rfl
theorem nQ {x y:Bool}:iA .IsNot (.bool x) (.bool y)=some (!(x==y)):=rfl
noncomputable def Kp (xs:List Str) (σ σ':Sg):Prop:=∀x,x∉xs->σ'.lookup x=σ.lookup x
theorem Kp.refl {xs:List Str}:Kp xs σ σ:=λζ ζ=>rfl
theorem Kp.trans {xs:List Str} {σ'':Sg} (h1:Kp xs σ σ') (h2:Kp xs σ' σ''):Kp xs σ σ'':=λx hx=>(h2 x hx).trans (h1 x hx)
theorem Kp.put {xs:List Str} {y:Str} {e:Ent} (h:Kp xs σ σ') (hy:y∈xs):Kp xs σ (put σ' y e):=λx hx=>by rw[cE,if_neg (λhh:x=y=>hx (hh▸hy))];exact h x hx
theorem Ce {m1 m2 bd:Nat} {t:Nat->Int} (h3:T3 t) (hm1:m1<8) (hm2:m2<8) (hb:ed t<=bd/\bd<=20) (hO:∀as,O.fn fA as=bZ pw (O2 pw) fA as):∀(os:List (List Nat)) (σ:Sg),(∀o∈os,o∈ordN)->σ.lookup mx=some (.sh (.int (bd:Nat)))->
   ∃σ',cj (cw O 43 ci (bq cx 15).1 (bq cx 15).2) (os.map λo=>.tup [.str (S (dx m1 m2 bd t o)),.int ((cB t o:Nat):Int)]) σ=some (.nx σ')/\Kp [um,ic] σ σ'
 |[],σ,_,_=>⟨σ,rfl,Kp.refl⟩
 |o::os,σ,ho,h1=>by
  have hc:=(hO [.str (S (dx m1 m2 bd t o))]).trans (Qt h3 hm1 hm2 hb (ho o (.head _)))
  let σ1:=put (put σ um (.sh (.str (S (dx m1 m2 bd t o))))) ic (.sh (.int ((cB t o:Nat):Int)))
  have hb1:σ1.lookup mx=some (.sh (.int (bd:Nat))):=by show (put (put σ _ _) _ _:Sg).lookup _=_;refine aw (by decide) ?_;refine aw (by decide) ?_;exact h1
  refine ah (Ce h3 hm1 hm2 hb hO os σ1 (λo h=>ho o (.tail _ h)) hb1) λσ' e1 k1=>?_;have hk:Kp [um,ic] σ σ1:=(Kp.refl.put (.head _)).put (.tail _ (.head _));refine au σ' ?_ (hk.trans k1);refine aa bQ ?_;refine gr (σ':=σ1) ?_ e1;have ha:bD false ci 4 σ (bq cx 15).1 (.tup [.str (S (dx m1 m2 bd t o)),.int ((cB t o:Nat):Int)])=some σ1:=JT (by decide) (by decide);unfold cw;refine aa ha ?_;have ht1:σ1.lookup um=some (.sh (.str (S (dx m1 m2 bd t o)))):=by show (put (put σ _ _) _ _:Sg).lookup _=_;refine aw (by decide) ?_;exact aS
  have hl1:σ1.lookup ic=some (.sh (.int ((cB t o:Nat):Int))):=by show (put (put σ _ _) _ _:Sg).lookup _=_;exact aS
  generalize σ1=τ at *;generalize dx m1 m2 bd t o=X at*
  refine dD (bA (d:=.bool false) (h:=az (h:=bu (a:=.bool (decide (cB t o<=bd))) (b:=.bool (decide (cB t o<=bd))) (az (h:=dz (ds:=[.str (S X)]) (by decide) rfl (aG (aD (by decide) (aH ht1)) a7) hc (.inr rfl)))
   (az (h:=bu (a:=.int (cB t o:Nat)) (b:=.int (bd:Nat)) (aD (by decide) (aH hl1)) (aD (by decide) (aH hb1)) ?_)) (nQ.trans (by rw[beq_self_eq_true];rfl)))) (ht:=rfl)) bh bh
  show some (decide (((cB t o:Nat):Int)<=((bd:Nat):Int)))=_;congr 1;rewrite[vw];refine aa decide_eq_true_eq (aa decide_eq_true_eq ?_);exact RP
theorem Pw {z:Nat->Nat} {m1 m2 bd:Nat} {t:Nat->Int} (h1:σ.lookup ix=some (.sh (kP m1 m2 bd t))) (h2:σ.lookup lq=some (.sh (.list (aE (cb t))))) (hs:σ.lookup d4=some (.sh (fG z))):cS O 43 ci σ (dm (bq cx 15).1) (Pq cx 15)=some ((cK (ordN.drop (z 6%2))).map λo=>.tup [.str (S (dx m1 m2 bd t o)),.int ((cB t o:Nat):Int)]):=by
 have he:bT (ordN.map λo=>.str (S (dx m1 m2 bd t o))) (aE (cb t))=ordN.map λo=>.tup [.str (S (dx m1 m2 bd t o)),.int ((cB t o:Nat):Int)]:=by rw[<- BC];unfold aE cb;refine aa eK ?_;rfl
 refine gI (d:=.list ((cK (ordN.drop (z 6%2))).map λo=>.tup [.str (S (dx m1 m2 bd t o)),.int ((cB t o:Nat):Int)])) rfl (eR (a:=.list (bT (ordN.map λo=>.str (S (dx m1 m2 bd t o))) (aE (cb t)))) (l:=some ((z 6%2:Nat):Int)) (h:=none) (s:=some 2) (Tc (by decide) (by decide) (aC (by decide) h1) (aC (by decide) h2) (by (refine aa he ?_;rewrite[ca];refine aa mn ?_);rfl)) (dO (aQ (a:=.int (z 6:Nat)) (b:=.int (2:Nat)) (kS rfl (eH _) (by decide) hs) aW (nr (by decide))) (by lia)) cM (dO aW (by decide)) ?_) rfl;refine aa he ?_;refine (wv _ (by (rewrite[ca];refine aa mn ?_);exact MF)).trans ?_;exact aA Xa (aa (CW _ _ _ (aT _)) rfl)
theorem BX {i:Nat} (h:i<24):∃o,ordN[i]?=some o/\o∈ordN:=by have hl:=mn;exact au (ordN[i]) (gQ (cV (by assumption) (eh (c5 (by assumption))))) (E5 _)
theorem QT {z:Nat->Nat} {m1 m2 bd:Nat} {t:Nat->Int} (h3:T3 t) (hm1:m1<8) (hm2:m2<8) (hb:ed t<=bd/\bd<=20) (hO:∀as,O.fn fA as=bZ pw (O2 pw) fA as) (h1:σ.lookup ix=some (.sh (kP m1 m2 bd t))) (hs:σ.lookup d4=some (.sh (fG z))):pT O 42 ci σ (dy cx 16)=some false:=by
 refine ah (BX (i:=z 6%24) (iV _ (by decide))) λo e ho=>?_;have hc:=(hO [.str (S (40::dx m1 m2 bd t o))]).trans (Jk h3 hm1 hm2 hb ho);have hl:(dx m1 m2 bd t o).length<=90000:=by have:=qJ h3;unfold dx;obtain ⟨i,j,k,l,rfl,hi,hj,hk,hl⟩:=ml o ho;have a1:=gq h3 hm1 hm2 i;have a2:=gq h3 hm1 hm2 j;have a3:=gq h3 hm1 hm2 k;have a4:=gq h3 hm1 hm2 l;simp only[bQ,qm,gT,ql,cm,ev,i4];exact Ql hb this a1 a2 a3 a4
 refine bA (d:=.bool false) (h:=az (h:=bu (a:=.bool false) (b:=.bool false) (az (h:=dz (ds:=[.str (S (40::dx m1 m2 bd t o))]) (by decide) rfl (aG (az (h:=aQ (a:=.str (S [40])) (b:=.str (S (dx m1 m2 bd t o))) (by rfl) (hJ (a:=kP m1 m2 bd t) (k:=.int ((z 6%24:Nat):Int)) (h1:=aD (by decide) (aH h1)) (h2:=aQ (a:=.int (z 6:Nat)) (b:=.int (24:Nat)) (kS rfl (eH _) (by decide) hs) aW (nr (by decide))) (ho:=dh h1) (h:=?_)) (gH (by simp only[dH,ev];exact OR hl)))) a7) hc (.inr rfl)))
   (az (h:=jk)) (nQ.trans rfl))) (ht:=rfl)
 unfold kP;rw[g9 (by (rewrite[ca];refine aa mn ?_);exact iV _ (by decide)),eJ,e];rfl
end
theorem Q4 {sep l:List Nat} (h:l.length*(1+sep.length)<=100000):bM (.str (S sep)) (af "join") [.str (S l)]=some (.str (S (eM sep (l.map λc=>[c])))):=by
 have hsum:((l.map λc=>[c]).map eI).sum=l.length:=by
  clear h
  induction l with
  |nil=>rfl
  |cons a l ih=>simp only[bQ,eY,ih,dH,ev];exact fk _ _
 have hml:(l.map λc=>[c]).length=l.length:=ca ..;rw[<- w4 (sep:=sep) (R:=l.map λc=>[c]) (by refine aa hsum (aa hml ?_);rw[zr] at h;exact Ra h)];have hst:=wf (l.map λc=>[c]);have hsg:dL (S l)=(l.map λc=>[c]).map S:=by (rewrite[C1];refine aa eK ?_);rfl
 unfold bM;simp only
 rw[if_neg (show ¬ (af "join" ==af "split")=true by decide),if_neg (show ¬ (af "join" ==af "count")=true by decide),if_neg (show ¬ (af "join" ==af "startswith")=true by decide),if_neg (show ¬ (af "join" ==af "endswith")=true by decide),
  if_pos (show (af "join" ==af "join")=true by decide),if_pos (show (af "join" ==af "join")=true by decide)]
 simp only[hst,hsg]
section
variable {O:Orc} {σ σ':Sg} {n:Nat} {sc sc':Scope} {o:Option Out} {r:List aN}
theorem sR {l:List Nat} {b:Nat} (hb:b<=l.length):eG (.str (S l)) none (some (b:Int)) none=some (.str (S (l.take b))):=by refine aA (wd hb) ?_;rfl
theorem tI {l:List Nat} {a:Nat} (ha:a<=l.length):eG (.str (S l)) (some (a:Int)) none none=some (.str (S (l.drop a))):=by refine aA (Bb ha) ?_;rfl
theorem Dt {l:List Nat} {c:Nat}:bM (.str (S l)) (af "count") [.str (S [c])]=some (.int ((l.count c:Nat):Int)):=by rw[<- Mh];unfold bM;simp only;rw[if_neg (show ¬ (af "count" ==af "split")=true by decide),if_pos (show (af "count" ==af "count")=true by decide)]
theorem zM {c:Nat} {k:Nat} {p:Pos} {x:Str} (hx:x=S [c]):pe O (n+1) sc σ (.Constant (.str x) k p)=some (.str (S [c])):=by subst hx;exact fF (by rw[cc];rfl)
theorem uS {e:ac} {l:List Nat} {c:Nat} {k:Nat} {p q apos:Pos} {x:Str} (ho:oW e=true:=by rfl) (h0:jM e=false) (hp:(apos.endLine==q.line)=true) (hx:x=S [c]) (h:pe O (n+2) sc σ e=some (.str (S l))):
  pe O (n+3) sc σ (.Call (.Attribute e (af "count") apos) [.Constant (.str x) k p] [] q)=some (.int ((l.count c:Nat):Int)):=
 lZ ho h0 hp rfl h (aG (az (h:=zM hx)) a7) Dt
theorem D8 {x:Str} {l:List Nat} {c:Nat} {k:Nat} {p q apos xp:Pos} {y:Str} (hv:br sc y=true) (hp:(apos.endLine==q.line)=true) (hx:x=S [c]) (h:σ.lookup y=some (.sh (.str (S l)))):pe O (n+3) sc σ (.Call (.Attribute (.Name y xp) (af "count") apos) [.Constant (.str x) k p] [] q)=some (.int ((l.count c:Nat):Int)):=
 kc hv hp rfl (aH h) (aG (az (h:=zM hx)) a7) (by
  refine aa (dh h) ?_
  have:([Ym (.str x) k p].any (cz σ))=false:=rfl
  refine aa this ?_
  exact Dt)
theorem DH {t:Nat->Int} (h3:T3 t) {o:List Nat} (ho:o∈ordN):(gE t o).length<=12:=by obtain ⟨i,j,k,l,rfl,hi,hj,hk,hl⟩:=ml o ho;have a1:=m6 (h3 i);have a2:=m6 (h3 j);have a3:=m6 (h3 k);have a4:=m6 (h3 l);unfold gE;simp only[bQ,qm,gT,ql,cm,ev];exact Uc a1 a2 a3 a4
theorem Iu {z:Nat->Nat} {t:Nat->Int} {o:List Nat} (h3:T3 t) (he:ordN[z 6%24]?=some o) (ho:o∈ordN) (h1:σ.lookup ke=some (.sh (iN t))) (h2:σ.lookup jI=some (.sh ordsP)) (hs:σ.lookup d4=some (.sh (fG z))):pe O 41 ci σ (dy cx 17)=some (.str (S (gE t o))):=by
 have hlt:∀a∈o,a<4:=by
  obtain ⟨i,j,k,l,rfl,hi,hj,hk,hl⟩:=ml o ho;intro a ha;simp only[ao,ba,or_false] at ha;rcases ha with rfl|rfl|rfl|rfl<;>assumption
 have ho4:=qX o ho;have hl:=DH h3 ho;refine lZ (r:=.str (S [])) (ds:=[.list (bj (o.map λi=>brk (t i)))]) (h0:=rfl) (hp:=rfl) (hl:=rfl) (h1:=by rfl) (h2:=aG (az (h:=?_)) a7) (h:=wT (by unfold gE at hl;exact aB (by assumption) (b7 _ _)));have hpv:PV.list (o.map λa=>.str (S (brk (t a))))=.list (bj (o.map λi=>brk (t i))):=by unfold bj;refine aa eK ?_;rfl
 refine aA hpv ?_;refine fj (xs:=o.map λa=>.int ((a:Nat):Int)) (by decide) (gI (d:=kq o) rfl (hJ (a:=ordsP) (k:=.int ((z 6%24:Nat):Int)) (h1:=aD (by decide) (aH h2)) (h2:=aQ (a:=.int (z 6:Nat)) (b:=.int (24:Nat)) (kS rfl (eH _) (by decide) hs) aW (nr (by decide))) (ho:=dh h2) (h:=?_)) rfl)
  (fE (F:=λa=>.int ((a:Nat):Int)) (G:=λa=>.str (S (brk (t a)))) λa ha=>?_) (by (rewrite[ca];refine aa ho4 ?_);rfl)
 ·unfold ordsP;rw[g9 (by (rewrite[ca];refine aa mn ?_);exact iV _ (by decide)),eJ,he];rfl
 ·refine au _ (eE (by decide) (ef (by decide) (by decide))) ?_;refine hJ (a:=iN t) (k:=.int (a:Nat)) (h1:=aD (by decide) (aH ?_)) (h2:=aC (by decide) (aS)) (ho:=dh (d:=iN t) ?_) (h:=?_)
  ·refine aw (by decide) ?_;exact dc (by decide) (by decide) h1
  ·refine aw (by decide) ?_;exact dc (by decide) (by decide) h1
  ·unfold iN;rw[g9 (by simpa using hlt a ha),eJ,oq (hlt a ha)];rfl
theorem Hs {z:Nat->Nat} {t:Nat->Int} {o:List Nat} (he:ordN[z 6%24]?=some o) (h1:σ.lookup lq=some (.sh (.list (aE (cb t))))) (hs:σ.lookup d4=some (.sh (fG z))):pe O 40 ci σ (uo cx 18 0)=some (.int ((cB t o:Nat):Int)):=by refine hJ (a:=.list (aE (cb t))) (k:=.int ((z 6%24:Nat):Int)) (h1:=aD (by decide) (aH h1)) (h2:=aQ (a:=.int (z 6:Nat)) (b:=.int (24:Nat)) (kS rfl (eH _) (by decide) hs) aW (nr (by decide))) (ho:=dh h1) (h:=?_);unfold aE;rw[g9 (by rw[ca,uO];exact iV _ (by decide)),eJ];unfold cb;refine aa eJ (aa he ?_);rfl
theorem Hl {l:List Nat} (h:σ.lookup eN=some (.sh (.str (S l)))):pe O 40 ci σ (uo cx 18 1)=some (.int ((l.count 40:Nat):Int)):=D8 (by decide) rfl (by rfl) h
theorem T6 {e:ac} {b:Bool} (h:pT O n sc σ e=some b):iG (pT O n sc σ) [e]=some b:=by refine (?_:(match pT O n sc σ e with|some true=>iG (pT O n sc σ) []|some false=>some false|none=>none)=some b);refine aa h ?_;induction b using dF<;>rfl
theorem K4 {l:List Nat} {m:Nat} (hl:l.length<=1000) (hm:Mx l m) (h1:σ.lookup eN=some (.sh (.str (S l)))) (h2:σ.lookup ic=some (.sh (.int (m:Nat)))):∃c:Nat,c<=l.length/\e9 l c=m/\pe O 39 ci σ (dy cx 19)=some (.int (c:Nat)):=by
 refine ah hm.2 λn0 hn0 he0=>?_
 let P:Nat->Bool:=λk=>decide (e9 l k=m)
 have hne:n0∈(bF (l.length+1)).filter P:=jp.mpr ⟨ft.mpr (oa (by assumption)),decide_eq_true he0⟩;obtain ⟨c,rest,hc⟩:∃c rest,(bF (l.length+1)).filter P=c::rest:=by
  cases h:(bF (l.length+1)).filter P with
  |nil=>replace hne:=h▸hne;cases hne
  |cons c rest=>exact pH c rest rfl
 have hcm:c∈(bF (l.length+1)).filter P:=by refine aa hc ?_;exact .head _
 have hc1:=ft.mp (jp.mp hcm).1;have hc2:=of_decide_eq_true (jp.mp hcm).2;refine jD c (n7 (by assumption)) hc2 ?_;refine hJ (a:=.list (((bF (l.length+1)).filter P).map λk=>.int ((k:Nat):Int))) (k:=.int 0) (h1:=az (h:=?_)) (h2:=aW) (ho:=rfl) (h:=by refine aa hc ?_;exact g9 (i:=0) (by simp));refine fj (xs:=(bF (l.length+1)).map λk=>.int ((0+k:Nat):Int)) (by decide) ?_ (Bg (F:=λk=>.int ((0+k:Nat):Int)) (G:=λk=>.int ((k:Nat):Int)) (c:=P) λk hk=>?_) ?_
 ·have e:=uU (a:=0) (k:=l.length+1);refine aA e ?_;have e2:((0:Nat):Int)+((l.length+1:Nat):Int)=((l.length:Nat):Int)+1:=Bm;refine aa e2 ?_
  refine AT (by decide) (aQ (a:=.int ((l.length:Nat):Int)) (b:=.int 1) (dz (ds:=[.str (S l)]) (by decide) rfl (aG (aD (by decide) (aH h1)) a7) (by
   show some (PV.int (((S l).length:Nat):Int))=_
   rw[cc]) (.inr rfl)) aW rfl) (Em hl)
 ·have hk':=ft.mp hk;rw[jr];refine jD _ (eE (by decide) (ef (by decide) (by decide))) ?_ (λζ=>aC (by decide) (aS));refine T6 (bA (d:=.bool (P k)) (h:=az (h:=bu (a:=.int (e9 l k)) (b:=.int (m:Nat)) (az (h:=aQ (a:=.int (((l.take k).count 41:Nat):Int)) (b:=.int (((l.take k).count 40:Nat):Int)) (uS (h0:=rfl) (hp:=rfl) (hx:=by rfl) (h:=eR (a:=.str (S l)) (l:=none) (h:=some ((k:Nat):Int)) (s:=none) (aC (by decide) ?_) cM (dO (aC (by decide) (aS)) (by lia)) cM (sR (n7 (by assumption))))) (uS (h0:=rfl) (hp:=rfl) (hx:=by rfl) (h:=eR (a:=.str (S l)) (l:=none) (h:=some ((k:Nat):Int)) (s:=none) (aC (by decide) ?_) cM (dO (aC (by decide) (aS)) (by lia)) cM (sR (n7 (by assumption))))) qD)) (aD (by decide) (aH ?_)) ?_)) (ht:=rfl))
  ·refine aw (by decide) ?_;exact dc (by decide) (by decide) h1
  ·refine aw (by decide) ?_;exact dc (by decide) (by decide) h1
  ·refine aw (by decide) ?_;exact dc (by decide) (by decide) h2
  ·show some (e9 l k==(m:Int))=some (decide (e9 l k=m));rfl
 ·rw[ca];have:=sP P (bF (l.length+1));replace this:=qo▸this;exact jw.mpr (NL hl this)
end
noncomputable def Mu (b:List aN) (i:Nat):ac:=match b[i]? with
 |some (.Expr (.Call _ (e::_) _ _) _)=>e
 |_=>.Constant .none 0 ⟨0,0,0,0⟩
noncomputable def gG (l:List Nat) (c:Nat):Nat×Nat×Bool:=((l.take c).count 41,(l.drop c).count 40,true)
noncomputable def gb (l:List Nat) (m:Nat):List (Nat×Nat×Bool):=(bF (l.count 41+1 - (m+1))).map λk=>(m+1+k,l.count 40+m+1 - (m+1+k),false)
noncomputable def askP (a:Nat×Nat×Bool):PV:=.tup [.int ((a.1:Nat):Int),.int ((a.2.1:Nat):Int),.bool a.2.2]
section
variable {O:Orc} {σ σ':Sg} {n:Nat} {sc sc':Scope} {o:Option Out} {r:List aN}
theorem AZ {es:List ac} {k:Nat} {p:Pos} {ds:List PV} (h:aX (pe O n sc σ) es=some ds) (hl:aZ ds.length=true):pe O (n+1) sc σ (.Tuple es k p)=some (.tup ds):=by refine aa uj (aa h ?_);show (if aZ ds.length=true then some (PV.tup ds) else none)=_;exact aa (if_pos hl) rfl
theorem JI {l:List Nat} {c:Nat} (hl:l.length<=1000) (hc:c<=l.length) (h1:σ.lookup eN=some (.sh (.str (S l)))) (h2:σ.lookup lp=some (.sh (.int (c:Nat)))):eU O 38 ci σ (dy cx 20)=some (.own [askP (gG l c)]):=by
 refine pg (aG (AZ (ds:=[.int (((l.take c).count 41:Nat):Int),.int (((l.drop c).count 40:Nat):Int),.bool true]) (aG ?_ (aG ?_ (aG jk a7))) rfl) a7) rfl
 ·exact uS (h0:=rfl) (hp:=rfl) (hx:=by rfl) (h:=eR (a:=.str (S l)) (l:=none) (h:=some ((c:Nat):Int)) (s:=none) (aC (by decide) h1) cM (dO (aC (by decide) h2) (by lia)) cM (sR (by assumption)))
 ·exact uS (h0:=rfl) (hp:=rfl) (hx:=by rfl) (h:=eR (a:=.str (S l)) (l:=some ((c:Nat):Int)) (h:=none) (s:=none) (aC (by decide) h1) (dO (aC (by decide) h2) (by lia)) cM cM (tI (by assumption)))
theorem TT {l:List Nat} {m:Nat} (hl:l.length<=1000) (hm:Mx l m) (hm2:m<=1000) (h1:σ.lookup eN=some (.sh (.str (S l)))) (h2:σ.lookup ic=some (.sh (.int (m:Nat)))) (h3:σ.lookup l9=some (.sh (.int (l.count 40:Nat)))):pe O 37 ci σ (Mu cx 21)=some (.list ((gb l m).map askP)):=by
 have hcl:l.count 41<=l.length:=lP;have hco:l.count 40<=l.length:=lP;have hle:l.count 41<=l.count 40+m:=by have h4:=hm.1 l.length;unfold e9 at h4;replace h4:=lF▸h4;exact B7 h4
 have he:(gb l m).map askP=(bF (l.count 41+1 - (m+1))).map λk=>askP (m+1+k,l.count 40+m+1 - (m+1+k),false):=by unfold gb;refine aa eK ?_;rfl
 refine aa he ?_;refine fj (xs:=(bF (l.count 41+1 - (m+1))).map λk=>.int ((m+1+k:Nat):Int)) (by decide) ?_ (fE (F:=λk=>.int ((m+1+k:Nat):Int)) (G:=λk=>askP (m+1+k,l.count 40+m+1 - (m+1+k),false)) λk hk=>?_) ?_
 ·have e:fU ((m:Int)+1) ((l.count 41:Nat)+1:Int)=(bF (l.count 41+1 - (m+1))).map λk=>.int ((m+1+k:Nat):Int):=by unfold fU;have e1:(((l.count 41:Nat):Int)+1 - ((m:Int)+1)).toNat=l.count 41+1 - (m+1):=IN;refine aa e1 ?_;apply mZ;intro k _;congr 1
  refine aA e ?_;exact uq (by decide) (aQ (a:=.int (m:Nat)) (b:=.int 1) (aC (by decide) h2) aW rfl) (aQ (a:=.int ((l.count 41:Nat):Int)) (b:=.int 1) (D8 (by decide) rfl (by rfl) h1) aW rfl) (Em hm2) (NW hl hcl)
 ·have hk:=ft.mp hk;refine au _ (eE (by decide) (ef (by decide) (by decide))) ?_;refine AZ (ds:=[.int ((m+1+k:Nat):Int),.int ((l.count 40+m+1 - (m+1+k):Nat):Int),.bool false]) (aG (aC (by decide) (aS)) (aG (aQ (a:=.int (((l.count 40:Nat):Int)+(m:Int)+1)) (b:=.int ((m+1+k:Nat):Int)) (aQ (a:=.int (((l.count 40:Nat):Int)+(m:Int))) (b:=.int 1) (aQ (a:=.int ((l.count 40:Nat):Int)) (b:=.int (m:Int)) (aC (by decide) ?_) (aC (by decide) ?_) rfl) aW rfl) (aC (by decide) (aS)) ?_) (aG jk a7))) rfl
  ·refine aw (by decide) ?_;exact dc (by decide) (by decide) h3
  ·refine aw (by decide) ?_;exact dc (by decide) (by decide) h2
  ·refine aa qD ?_;congr 2;lia
 ·rewrite[ca];refine aa qo ?_;exact jw.mpr (KD hl hcl)
theorem zQ:∀(w:List Nat) (ws:List (List Nat)),jn (w::ws++[[]])=jn (w::ws)++dots
 |w,[]=>by simp[qM,qF,qV]
 |w,v::ws=>by refine aa ox (aa ox ?_);rewrite[i9];refine aA ox (aa (zQ v ws) ?_);rw[i9];simp[ga]
theorem BK (l:List Nat):(eM dots (l.map λc=>[c])).length<=4*l.length:=by
 rw[<- xK]
 induction l with
 |nil=>simp[qM,qF,qV]
 |cons a r ih=>
  induction r using aF with
  |nil=>simp[qM,qF,qV]
  |cons b r=>refine aa bQ (aa bQ ?_);rw[i9];replace ih:=bQ▸ih;simp only[cm,dH,ev,dots] at ih ⊢;exact SD ih
theorem OQ {l T:List Nat} (hf:∀c∈l,c≠46) (hl:l.length<=1000):bZ pw O0 cZ [.str (S (dots++eM dots (l.map λc=>[c])++dots)),.str (S T)]=some (.bool (lf l T)):=by
 have hi:=BK l
 induction l using aF with
 |nil=>have hv:=tJ (w:=[]) (v:=[]) (ws:=[[]]) (T:=T) (by simp) (by decide);rw[Rm] at hv;exact hv
 |cons a r=>
  have hj:jn ([]::([a]::r.map (λc=>[c]))++[[]])=dots++eM dots ((a::r).map λc=>[c])++dots:=by rw[zQ,i9,<- xK];simp
  have hv:=tJ (w:=[]) (v:=[a]) (ws:=r.map (λc=>[c])++[[]]) (T:=T) (by
   intro u hu;simp only[ao,be,ba,or_false] at hu;rcases hu with rfl|rfl|hu|rfl
   ·simp
   ·simpa using (hf a (.head _)).symm
   ·refine ah (dQ.mp hu) λc hc e2_=>?_;subst e2_;simpa using (hf c (.tail _ hc)).symm
   ·simp) (by
   have:jn ([]::[a]::(r.map (λc=>[c])++[[]]))=jn ([]::([a]::r.map (λc=>[c]))++[[]]):=rfl;refine aa this (aa hj ?_);simp only[cm,dots,dH,ev] at hi hl⊢
   exact jw.mpr (Sm hl hi))
  have e1:jn ([]::[a]::(r.map (λc=>[c])++[[]]))=jn ([]::([a]::r.map (λc=>[c]))++[[]]):=rfl;rw[e1,hj] at hv;have e2:([]::[a]::(r.map (λc=>[c])++[[]]))=[]::((a::r).map (λc=>[c])++[[]]):=rfl;rw[e2,Oc] at hv;exact hv
noncomputable abbrev tK:Str:=af "other"
noncomputable abbrev uf:Str:=af "due"
theorem M7 {l:List Nat} {m c:Nat} (hm:Mx l m) (hc:e9 l c=m):∀a∈gG l c::gb l m,lf (ig a.1 a.2.1) l=a.2.2:=by
 intro a ha;rcases ao.mp ha with rfl|ha
 ·exact (yo _ _).mpr (Nt l c)
 ·refine ah (dQ.mp ha) λk hk e2_=>?_;subst e2_;have hk:=ft.mp hk;show lf _ l=false;rw[Bool.eq_false_iff];intro h;have h2:((m+1+k:Nat):Int)+((l.count 40+m+1 - (m+1+k):Nat):Int)<=m+l.count 40:=Ml hm ((yo _ _).mp h);have hle:l.count 41<=l.count 40+m:=by have h4:=hm.1 l.length;unfold e9 at h4;replace h4:=lF▸h4;exact B7 h4
  omega
theorem Bs {l:List Nat} {m c:Nat} (hl:l.length<=12) (hm:Mx l m) (hm12:m<=12) (hc:e9 l c=m) (hO:∀as,O.fn cZ as=bZ pw O0 cZ as):∀(as:List (Nat×Nat×Bool)) (σ:Sg),(∀a∈as,a∈gG l c::gb l m)->σ.lookup eN=some (.sh (.str (S l)))->
   ∃σ',cj (cw O 36 ci (bq cx 22).1 (bq cx 22).2) (as.map askP) σ=some (.nx σ')/\Kp [gY,tK,uf] σ σ'
 |[],σ,_,_=>⟨σ,rfl,Kp.refl⟩
 |a::as,σ,ha,h1=>by
  have hcl:l.count 41<=l.length:=lP;have hco:l.count 40<=l.length:=lP;have hb:a.1<=100/\a.2.1<=100:=by
   rcases ao.mp (ha a (.head _)) with rfl|hh
   ·have q1:(l.take c).count 41<=l.length:=aB lP (by refine aa fJ ?_;exact Hh);have q2:(l.drop c).count 40<=l.length:=aB lP (by refine aa eu ?_;exact iU _ _);show (l.take c).count 41<=100/\(l.drop c).count 40<=100;exact SJ hl q1 q2
   ·refine ah (dQ.mp hh) λk hk e2_=>?_;subst e2_;have hk:=ft.mp hk;show m+1+k<=100/\l.count 40+m+1 - (m+1+k)<=100;exact Tx hl hcl hco hk
  have hw:(ig a.1 a.2.1).length<=200:=by unfold ig;refine aa cm (aa i4 (aa i4 ?_));exact Kn hb
  have hi:=BK (ig a.1 a.2.1)
  have hv:=(hO [.str (S (dots++eM dots ((ig a.1 a.2.1).map λc=>[c])++dots)),.str (S l)]).trans (OQ (λc hc=>by
   unfold ig at hc;rw[be] at hc;rcases hc with hc|hc
   ·refine aa (mW hc) ?_;decide
   ·refine aa (mW hc) ?_;decide) (aB (by assumption) (b7 _ _)))
  replace hv:=(M7 hm hc a (ha a (.head _)))▸hv
  let σ1:=put (put (put σ gY (.sh (.int ((a.1:Nat):Int)))) tK (.sh (.int ((a.2.1:Nat):Int)))) uf (.sh (.bool a.2.2))
  have hb1:σ1.lookup eN=some (.sh (.str (S l))):=by show (put (put (put σ _ _) _ _) _ _:Sg).lookup _=_;refine aw (by decide) ?_;refine aw (by decide) ?_;refine aw (by decide) ?_;exact h1
  refine ah (Bs hl hm hm12 hc hO as σ1 (λo h=>ha o (.tail _ h)) hb1) λσ' e1 k1=>?_;have hk:Kp [gY,tK,uf] σ σ1:=((Kp.refl.put (.head _)).put (.tail _ (.head _))).put (.tail _ (.tail _ (.head _)));refine au σ' ?_ (hk.trans k1);refine aa bQ ?_;refine gr (σ':=σ1) ?_ e1;have hasg:bD false ci 4 σ (bq cx 22).1 (askP a)=some σ1:=Ut (by decide) (by decide) (by decide);unfold cw;refine aa hasg ?_;have t1:σ1.lookup gY=some (.sh (.int ((a.1:Nat):Int))):=by show (put (put (put σ _ _) _ _) _ _:Sg).lookup _=_;refine aw (by decide) ?_;refine aw (by decide) ?_;exact aS
  have t2:σ1.lookup tK=some (.sh (.int ((a.2.1:Nat):Int))):=by show (put (put (put σ _ _) _ _) _ _:Sg).lookup _=_;refine aw (by decide) ?_;exact aS
  have t3:σ1.lookup uf=some (.sh (.bool a.2.2)):=by show (put (put (put σ _ _) _ _) _ _:Sg).lookup _=_;exact aS
  generalize σ1=τ at *;have hd:dots.length=3:=rfl
  refine dD (bA (d:=.bool false) (h:=az (h:=bu (a:=.bool a.2.2) (b:=.bool a.2.2) (az (h:=dz (ds:=[.str (S (dots++eM dots ((ig a.1 a.2.1).map λc=>[c])++dots)),.str (S l)]) (by decide) rfl
   (aG (az (h:=aQ (a:=.str (S (dots++eM dots ((ig a.1 a.2.1).map λc=>[c])))) (b:=.str (S dots)) (aQ (a:=.str (S dots)) (b:=.str (S (eM dots ((ig a.1 a.2.1).map λc=>[c])))) (by rfl) ?_ (gH (Th hw hi hd))) (by rfl) (gH (by refine aa cm ?_;exact RU hw hi hd)))) (aG (aD (by decide) (aH hb1)) a7)) hv (.inr rfl)))
   (aD (by decide) (aH t3)) (nQ.trans (by rw[beq_self_eq_true];rfl)))) (ht:=rfl)) bh bh
  refine lZ (r:=.str (S dots)) (ds:=[.str (S (ig a.1 a.2.1))]) (h0:=rfl) (hp:=rfl) (hl:=rfl) (h1:=by rfl) (h2:=aG (az (h:=?_)) a7) (h:=Q4 (by refine aa hd ?_;lia));exact aQ (a:=.str (S (bJ a.1 41))) (b:=.str (S (bJ a.2.1 40))) (aQ (a:=.str (S [41])) (b:=.int (a.1:Nat)) (by rfl) (aC (by decide) t1) ((o8 (IR hb)).trans (by rw[er])))
   (aQ (a:=.str (S [40])) (b:=.int (a.2.1:Nat)) (by rfl) (aC (by decide) t2) ((o8 (Re hb)).trans (by rw[er]))) (gH (by refine aa i4 (aa i4 ?_);exact GC hb))
end
theorem PW {b:Int} {n:Nat} (h:(n:Int)<=b):sQ none (some b) 1 n=sQ none (some (n:Int)) 1 n:=by
 have e1:bL b (n:Int)=n:=G7 h;have e2:bL (n:Int) (n:Int)=n:=OH;have e3:¬ b<0:=Sf h;have e4:¬ (n:Int)<0:=fX.mpr (c8 _);have e5:(1:Int)>0:=by decide
 simp only[sQ,if_neg e3,if_neg e4,if_pos e5,e1,e2]
theorem OC {n:Nat}:sQ none (some (-1)) 1 n=sQ none (some ((n - 1:Nat):Int)) 1 n:=by
 have e1:=Nc (n:=n);have e2:aR 0 (bL ((n - 1:Nat):Int) n)=((n - 1:Nat):Int):=qs (iU n 1);have e3:(-1:Int)<0:=by decide
 have e4:¬ ((n - 1:Nat):Int)<0:=fX.mpr (c8 _);have e5:(1:Int)>0:=by decide
 simp only[sQ,if_pos e3,if_neg e4,if_pos e5,e1,e2]
theorem wP {l:List Nat} {b:Nat}:eG (.str (S l)) none (some (b:Int)) none=some (.str (S (l.take b))):=by
 by_cases h:b<=l.length
 ·exact sR h
 ·have e:iX (S l) none (some (b:Int))=iX (S l) none (some (l.length:Int)):=by unfold iX;rw[cc,PW (Rh h)]
  show some (PV.str (iX (S l) none (some (b:Int))))=_;rw[e,wd (aT _),lF,oh (W8 (by assumption))]
theorem Nn {l:List Nat}:eG (.str (S l)) none (some (-1)) none=some (.str (S (l.take (l.length - 1)))):=by
 have e:iX (S l) none (some (-1))=iX (S l) none (some ((l.length - 1:Nat):Int)):=by unfold iX;rewrite[cc];exact aa OC rfl
 show some (PV.str (iX (S l) none (some (-1))))=_;rw[e,wd (iU _ _)]
noncomputable def Sx (b:List aN) (i:Nat):ac:=match b[i]? with
 |some (.Return (some e) _)=>e
 |_=>.Constant .none 0 ⟨0,0,0,0⟩
section
variable {O:Orc} {σ σ':Sg} {n:Nat} {sc sc':Scope} {o:Option Out} {r:List aN}
theorem rH {e1 e2:ac} {fp p:Pos} {a b:List Nat} {c:Bool} (hf:bS sc cZ=true) (hna:qQ [e1,e2]=true) (hO:∀as,O.fn cZ as=bZ pw O0 cZ as) (h1:pa O n sc σ e1=some (.str (S a))) (h2:pa O n sc σ e2=some (.str (S b))) (h:bZ pw O0 cZ [.str (S a),.str (S b)]=some (.bool c)):pe O (n+1) sc σ (.Call (.Name cZ fp) [e1,e2] [] p)=some (.bool c):=
 dz (ds:=[.str (S a),.str (S b)]) hf hna (aG h1 (aG h2 a7)) ((hO _).trans h) (.inr rfl)
theorem xm {l:List Nat} {c:Nat} (h:46∉l):46∉l.take c:=λhh=>h (FN hh)
theorem BL {l:List Nat} {c:Nat} (h:46∉l):46∉l.drop c:=λhh=>h (FM hh)
theorem xg {l:List Nat} {c d:Nat} (hf:46∉l) (hl:l.length<=1000) (hc:c<=l.length) (hd:d<=l.length):bZ pw O0 cZ [.str (S (l.take c++dots++l.drop d)),.str (S l)]=some (.bool (decide (c<=d))):=by
 have hj:jn [l.take c,l.drop d]=l.take c++dots++l.drop d:=by rw[i9];rfl
 have hv:=tJ (w:=l.take c) (v:=l.drop d) (ws:=[]) (T:=l) (by
  intro u hu;simp only[ao,ba,or_false] at hu;rcases hu with rfl|rfl
  ·exact xm hf
  ·exact BL hf) (by
  refine aa hj ?_;simp only[cm,fJ,eu,dots,dH,ev]
  exact jw.mpr (Kk hl hc))
 rw[hj,J8 l hc hd] at hv;exact hv
theorem Jr {l:List Nat} {c x:Nat} (hf:46∉l) (hx:x≠46) (hl:l.length<=1000) (hc:c<=l.length):bZ pw O0 cZ [.str (S (l.take c++(dots++[x]++dots)++l.drop c)),.str (S l)]=some (.bool false):=by
 have hj:jn [l.take c,[x],l.drop c]=l.take c++(dots++[x]++dots)++l.drop c:=by rw[i9,i9];simp[qM,qF,qV]
 have hv:=tJ (w:=l.take c) (v:=[x]) (ws:=[l.drop c]) (T:=l) (by
  intro u hu;simp only[ao,ba,or_false] at hu;rcases hu with rfl|rfl|rfl
  ·exact xm hf
  ·simpa using hx.symm
  ·exact BL hf) (by
  refine aa hj ?_;simp only[cm,fJ,eu,dots,dH,ev]
  exact jw.mpr (MI hl hc))
 rw[hj,Qy l hc] at hv;exact hv
theorem Gs {l:List Nat} (hf:46∉l) (hl:l.length<=1000) (hO:∀as,O.fn cZ as=bZ pw O0 cZ as) (h1:σ.lookup eN=some (.sh (.str (S l)))):pT O 35 ci σ (dy cx 23)=some false:=by
 have e1:=Bd (x:=l) (t:=l) hf;rw[beq_self_eq_true] at e1;have e2:=Bd (x:=l.take (l.length - 1)) (t:=l) (xm hf);have e3:(l.take (l.length - 1)==l)=(l==[]):=by
  rw[vw,beq_iff_eq,beq_iff_eq];constructor
  ·intro h;have:=congrArg eI h;replace this:=fJ▸this;exact List.eq_nil_of_length_eq_zero (HO this)
  ·intro h;subst h;rfl
 rw[e3] at e2;refine qx (a:=false) (b:=false) ?_ λζ=>?_
 ·exact bA (d:=.bool false) (h:=az (h:=bu (a:=.bool true) (b:=.bool true) (az (h:=rH (by decide) rfl hO (aD (by decide) (aH h1)) (aD (by decide) (aH h1)) e1)) (az (h:=jk)) (nQ.trans rfl))) (ht:=rfl)
 ·refine bA (d:=.bool false) (h:=az (h:=bu (a:=.bool (l==[])) (b:=.bool (l==[])) (az (h:=rH (by decide) rfl hO (az (h:=eR (a:=.str (S l)) (l:=none) (h:=some (-1)) (s:=none) (aC (by decide) h1) cM (dO (pA aW) (by decide)) cM Nn)) (aD (by decide) (aH h1)) e2))
   (az (h:=bu (a:=.str (S l)) (b:=.str (S [])) (aD (by decide) (aH h1)) (az (h:=by rfl)) (show some (S l==S [])=_ by rw[ll]))) (nQ.trans (by rw[beq_self_eq_true];rfl)))) (ht:=rfl)
theorem HY {l:List Nat} {c:Nat} (hf:46∉l) (hl:l.length<=1000) (hc:c<=l.length) (hO:∀as,O.fn cZ as=bZ pw O0 cZ as) (h1:σ.lookup eN=some (.sh (.str (S l)))) (h2:σ.lookup lp=some (.sh (.int (c:Nat)))):pT O 34 ci σ (dy cx 24)=some false:=by
 have e1:=xg (c:=c) (d:=c) hf hl hc hc;replace e1:=(decide_eq_true (aT c))▸e1;have e2:=Jr (c:=c) (x:=40) hf (by decide) hl hc;have d3:dots.length=3:=rfl;have lt:(l.take c).length<=1000:=by refine aa fJ ?_;exact Ii hl hc
 have ld:(l.drop c).length<=1000:=by refine aa eu ?_;exact aB (iU _ _) (by assumption)
 refine qx (a:=false) (b:=false) ?_ λζ=>?_
 ·refine bA (d:=.bool false) (h:=az (h:=bu (a:=.bool true) (b:=.bool true) (az (h:=rH (by decide) rfl hO (az (h:=aQ (a:=.str (S (l.take c++dots))) (b:=.str (S (l.drop c))) (aQ (a:=.str (S (l.take c))) (b:=.str (S dots)) ?_ (by rfl) (gH (zJ d3 lt))) ?_ (gH (by refine aa cm ?_;exact zx d3 lt ld)))) (aD (by decide) (aH h1)) e1)) (az (h:=jk)) (nQ.trans rfl))) (ht:=rfl)
  ·exact eR (a:=.str (S l)) (l:=none) (h:=some ((c:Nat):Int)) (s:=none) (aC (by decide) h1) cM (dO (aC (by decide) h2) (by lia)) cM wP
  ·exact eR (a:=.str (S l)) (l:=some ((c:Nat):Int)) (h:=none) (s:=none) (aC (by decide) h1) (dO (aC (by decide) h2) (by lia)) cM cM (tI hc)
 ·refine bA (d:=.bool false) (h:=az (h:=bu (a:=.bool false) (b:=.bool false) (az (h:=rH (by decide) rfl hO (az (h:=aQ (a:=.str (S (l.take c++(dots++[40]++dots)))) (b:=.str (S (l.drop c))) (aQ (a:=.str (S (l.take c))) (b:=.str (S (dots++[40]++dots))) ?_ (by rfl) (gH (by simp only[cm,d3,dH,ev];exact Qo lt))) ?_ (gH (by simp only[cm,d3,dH,ev];exact Jg lt ld)))) (aD (by decide) (aH h1)) e2)) (az (h:=jk)) (nQ.trans rfl))) (ht:=rfl)
  ·exact eR (a:=.str (S l)) (l:=none) (h:=some ((c:Nat):Int)) (s:=none) (aC (by decide) h1) cM (dO (aC (by decide) h2) (by lia)) cM wP
  ·exact eR (a:=.str (S l)) (l:=some ((c:Nat):Int)) (h:=none) (s:=none) (aC (by decide) h1) (dO (aC (by decide) h2) (by lia)) cM cM (tI hc)
theorem OD {l:List Nat} {c:Nat} (hf:46∉l) (hl:l.length<=1000) (hc:c<=l.length) (hO:∀as,O.fn cZ as=bZ pw O0 cZ as) (h1:σ.lookup eN=some (.sh (.str (S l)))) (h2:σ.lookup lp=some (.sh (.int (c:Nat)))):pe O 33 ci σ (Sx cx 25)=some (.bool true):=by
 have d3:dots.length=3:=rfl;have lt:(l.take (c+1)).length<=1000:=by refine aa fJ ?_;exact RY hl
 have ld:(l.drop c).length<=1000:=by refine aa eu ?_;exact aB (iU _ _) (by assumption)
 have e1:bZ pw O0 cZ [.str (S (l.take (c+1)++dots++l.drop c)),.str (S l)]=some (.bool (decide (c=l.length))):=by
  by_cases h:c=l.length
  ·have:=xg (c:=c) (d:=c) hf hl hc hc;replace this:=(decide_eq_true (aT c))▸this;refine aa (decide_eq_true h) ?_;have e:l.take (c+1)=l.take c:=by rw[oh (Ha h),oh (eh (c5 (by assumption)))]
   refine aa e ?_;exact this
  ·have:=xg (c:=c+1) (d:=c) hf hl (yX (Nat.lt_of_le_of_ne (by assumption) (by assumption))) hc;rw[decide_eq_false (zA)] at this;refine aa (decide_eq_false h) ?_;exact this
 refine bu (a:=.bool (decide (c=l.length))) (b:=.bool (decide (c=l.length))) (az (h:=rH (by decide) rfl hO (az (h:=aQ (a:=.str (S (l.take (c+1)++dots))) (b:=.str (S (l.drop c))) (aQ (a:=.str (S (l.take (c+1)))) (b:=.str (S dots)) ?_ (by rfl) (gH (zJ d3 lt))) ?_ (gH (by refine aa cm ?_;exact zx d3 lt ld)))) (aD (by decide) (aH h1)) e1))
  (az (h:=bu (a:=.int (c:Nat)) (b:=.int (l.length:Nat)) (aD (by decide) (aH h2)) (az (h:=dz (ds:=[.str (S l)]) (by decide) rfl (aG (aD (by decide) (aH h1)) a7) (by
   show some (PV.int (((S l).length:Nat):Int))=_
   rw[cc]) (.inr rfl))) ?_)) ?_
 ·exact eR (a:=.str (S l)) (l:=none) (h:=some (((c+1:Nat)):Int)) (s:=none) (aC (by decide) h1) cM (dO (aQ (a:=.int (c:Nat)) (b:=.int 1) (aC (by decide) h2) aW rfl) (by lia)) cM wP
 ·exact eR (a:=.str (S l)) (l:=some ((c:Nat):Int)) (h:=none) (s:=none) (aC (by decide) h1) (dO (aC (by decide) h2) (by lia)) cM cM (tI hc)
 ·show some (((c:Nat):Int)==((l.length:Nat):Int))=_;congr 1;rewrite[vw,beq_iff_eq];refine aa decide_eq_true_eq ?_;exact Ov hc
 ·show some (decide (c=l.length)==decide (c=l.length))=_;rw[beq_self_eq_true]
end
noncomputable def dC (σ:Sg) (L:List (Str×Option Ent)):Prop:=∀x o,L.lookup x=some o->σ.lookup x=o
noncomputable def qH:Option Ent->Option Ent
 |some (.own xs)=>some (.sh (.list xs))
 |r=>r
section
variable {O:Orc} {σ σ':Sg} {n:Nat} {sc sc':Scope} {o:Option Out} {r:List aN} {L:List (Str×Option Ent)}
theorem dC.put {x:Str} {e:Ent} (h:dC σ L):dC (put σ x e) ((x,some e)::L):=λy o ho=>by
 rw[cE];rw[cX] at ho
 by_cases hy:y=x
 ·subst hy;rw[beq_self_eq_true] at ho;refine aa (if_pos rfl) ?_;exact jm ho
 ·replace ho:=(beq_eq_false_iff_ne.mpr hy)▸ho;refine aa (if_neg hy) ?_;exact h y o ho
theorem dC.unown (h:dC σ L):dC (unown σ) (L.map λp=>(p.1,qH p.2)):=λy o ho=>by
 rw[qN];have:∀(L:List (Str×Option Ent)) o,(L.map λp=>(p.1,qH p.2)).lookup y=some o->∃q,L.lookup y=some q/\qH q=o:=by
  intro L
  induction L with
  |nil=>intro o h;exact ab h
  |cons p L ih=>
   intro o h;rw[bQ,cX] at h;refine aa cX ?_;cases hb:y==p.1 with
   |true=>replace h:=hb▸h;exact au _ rfl (jm h)
   |false=>replace h:=hb▸h;exact ih o h
 refine ah (this L o ho) λq h1 h2=>?_;rewrite[h y q h1];refine aA h2 ?_;unfold qH
 induction q using bO with
 |none=>rfl
 |some e=>induction e using Ent.casesOn<;>rfl
theorem dC.keep {xs:List Str} (h:dC σ L) (k:Kp xs σ σ') (hd:(L.all λp=> !xs.contains p.1)=true):dC σ' L:=λy o ho=>by
 have hd:∀p∈L,p.1∉xs:=λp hp hx=>by have h1:=dG.mp hd p hp;have h2:xs.contains p.1=true:=List.contains_iff_mem.mpr hx;replace h1:=h2▸h1;exact aU h1
 rw[k y ?_]
 ·exact h y o ho
 ·intro hy;have:∀(L:List (Str×Option Ent)),L.lookup y=some o->(∀p∈L,p.1∉xs)->False:=by
   intro L
   induction L with
   |nil=>intro h;exact ab h
   |cons p L ih=>
    intro h hd;rw[cX] at h;cases hb:y==p.1 with
    |true=>exact hd p (.head _) (by refine aA (bc hb) ?_;exact hy)
    |false=>replace h:=hb▸h;exact ih h λq hq=>hd q (.tail _ hq)
  exact this L ho hd
theorem NB {x:Str} (h:σ.lookup x=none):unown1 σ x=σ:=by unfold unown1;exact aa h rfl
theorem T1 {x:Str} {xs:List PV} (h:σ.lookup x=some (.own xs)):unown1 σ x=Mine.put σ x (.sh (.list xs)):=by unfold unown1;exact aa h rfl
end
structure Lo (O:Orc):Prop where
 seat:∀as,O.fn ie as=bZ pw (O5 pw) ie as
 i2:∀as,O.fn cN as=jR as
 d2:∀as,O.fn cO as=jV as
 chk:∀as,O.fn fA as=bZ pw (O2 pw) fA as
 ell:∀as,O.fn cZ as=bZ pw O0 cZ as
theorem Uj:Lo (O6 pw):=⟨λζ=>rfl,λζ=>rfl,λζ=>rfl,λζ=>rfl,λζ=>rfl⟩
noncomputable def Cy (z:Nat->Nat):List (Str×Option Ent):=[(d4,some (.sh (fG z))),(ix,none)]
noncomputable def DV (z:Nat->Nat) (w:Nat):List (Str×Option Ent):=(dN,some (.sh (.int ((w:Nat):Int))))::(dJ,some (.sh (cY (tZ z))))::Cy z
noncomputable def BR (z:Nat->Nat) (w:Nat):List (Str×Option Ent):=(jI,some (.sh ordsP))::DV z w
noncomputable def AF (z:Nat->Nat) (w:Nat):List (Str×Option Ent):=(lq,some (.sh (.list (aE (cb (tZ z))))))::BR z w
noncomputable def DF (z:Nat->Nat) (w:Nat):List (Str×Option Ent):=(lT,some (.sh (.list (aE (cD (tZ z))))))::AF z w
noncomputable def AP (z:Nat->Nat) (w:Nat):List (Str×Option Ent):=(qq,some (.sh (.list (aE (dE w (cD (tZ z)))))))::DF z w
noncomputable def AN (z:Nat->Nat) (w:Nat):List (Str×Option Ent):=(gZ,some (.sh (.int ((bl w (cD (tZ z)):Nat):Int))))::AP z w
noncomputable def Db (z:Nat->Nat) (w:Nat):List (Str×Option Ent):=(mo,some (.sh menuP))::AN z w
noncomputable def Dy (z:Nat->Nat) (w:Nat):List (Str×Option Ent):=(ke,some (.sh (iN (tZ z))))::Db z w
noncomputable def DJ (z:Nat->Nat) (w:Nat) (m1 m2:Nat):List (Str×Option Ent):=(jT,some (.own (kn m1 m2 (tZ z))))::Dy z w
noncomputable def zD (z:Nat->Nat) (w:Nat) (m1 m2:Nat) (bd:Nat):List (Str×Option Ent):=(mx,some (.sh (.int ((bd:Nat):Int))))::DJ z w m1 m2
noncomputable def C7 (z:Nat->Nat) (w:Nat) (m1 m2:Nat) (bd:Nat):List (Str×Option Ent):=(ix,some (.sh (kP m1 m2 bd (tZ z))))::(zD z w m1 m2 bd).map λp=>(p.1,qH p.2)
noncomputable def AV (z:Nat->Nat) (w:Nat) (m1 m2:Nat) (bd:Nat) (l:List Nat):List (Str×Option Ent):=(eN,some (.sh (.str (S l))))::C7 z w m1 m2 bd
noncomputable def AA (z:Nat->Nat) (w:Nat) (m1 m2:Nat) (bd:Nat) (l:List Nat) (m:Nat):List (Str×Option Ent):=(l9,some (.sh (.int ((l.count 40:Nat):Int))))::(ic,some (.sh (.int ((m:Nat):Int))))::AV z w m1 m2 bd l
noncomputable def M1 (z:Nat->Nat) (w:Nat) (m1 m2:Nat) (bd:Nat) (l:List Nat) (m c:Nat):List (Str×Option Ent):=(lp,some (.sh (.int ((c:Nat):Int))))::AA z w m1 m2 bd l m
theorem Kl {O:Orc} (H:Lo O) {ns:List Int} (hn:ns.length<=63):aO O 60 ci [(lg,.sh (.list (ns.map .int)))] cx=some (.rt (.bool true)):=by
 have A:dC [(lg,.sh (.list (ns.map .int)))] [(lg,some (.sh (.list (ns.map .int))))]:=λx o h=>by
  rw[cX] at h ⊢;cases hb:x==lg with
  |true=>replace h:=hb▸h;exact jm h
  |false=>replace h:=hb▸h;exact ab h
 have B:([(lg,.sh (.list (ns.map .int)))]:Sg).lookup ix=none:=rfl;have B2:([(lg,.sh (.list (ns.map .int)))]:Sg).lookup fI=none:=rfl;revert A;revert B;revert B2;refine bB (([(lg,.sh (.list (ns.map .int)))]:Sg)) λσ=>?_;intro B2 B A;refine ah (MJ (O:=O) (σ:=σ) (A lg _ rfl) hn) λz hz h0=>?_;have A:dC σ [(ix,none)]:=λx o h=>by
  rw[cX] at h;cases hb:x==ix with
  |true=>replace h:=hb▸h;refine aa (bc hb) ?_;exact B.trans (jm h)
  |false=>replace h:=hb▸h;exact ab h
 refine a8 (cq (d:=fG z) (by decide) (h:=h0) (hs:=λζ ζ=>rfl)) ?_;replace A:dC _ (Cy z):=A.put (x:=d4) (e:=.sh (fG z));clear h0 B B2;revert A;refine bB (Mine.put σ d4 (.sh (fG z))) λσ=>?_;intro A;have h3:=Ac z;refine a8 (ue (xs:=[dJ,dN]) (ents:=[.sh (cY (tZ z)),.sh (.int ((5+z 4%60:Nat):Int))]) (by rfl) (by decide) (aG (nh (h:=Jz (A d4 _ rfl)) (hs:=λζ ζ=>rfl)) (aG (nh (h:=M5 (A d4 _ rfl)) (hs:=λζ ζ=>rfl)) uF))) ?_;replace A:dC _ (DV z (5+z 4%60)):=(A.put (x:=dJ) (e:=.sh (cY (tZ z)))).put (x:=dN) (e:=.sh (.int ((5+z 4%60:Nat):Int)));have e1:bI σ ([dJ,dN].zip [.sh (cY (tZ z)),.sh (.int ((5+z 4%60:Nat):Int))])=Mine.put (Mine.put σ dJ (.sh (cY (tZ z)))) dN (.sh (.int ((5+z 4%60:Nat):Int))):=rfl;refine aa e1 ?_;clear e1;revert A;refine bB (Mine.put (Mine.put σ dJ (.sh (cY (tZ z)))) dN (.sh (.int ((5+z 4%60:Nat):Int)))) λσ=>?_;intro A;have hw:5<=5+z 4%60/\5+z 4%60<=64:=J0;revert A;revert hw;refine bB (5+z 4%60) λw=>?_;intro hw A;refine a8 (cq (d:=ordsP) (by decide) (h:=Md) (hs:=λζ ζ=>rfl)) ?_;replace A:dC _ (BR z w):=A.put (x:=jI) (e:=.sh ordsP);revert A;refine bB (Mine.put σ jI (.sh ordsP)) λσ=>?_;intro A;refine a8 (cq (d:=.list (aE (cb (tZ z)))) (by decide) (h:=Hg (A jI _ rfl) (A dJ _ rfl)) (hs:=λζ ζ=>rfl)) ?_;replace A:dC _ (AF z w):=A.put (x:=lq) (e:=.sh (.list (aE (cb (tZ z)))));revert A;refine bB (Mine.put σ lq (.sh (.list (aE (cb (tZ z)))))) λσ=>?_;intro A;refine a8 (cq (d:=.list (aE (cD (tZ z)))) (by decide) (h:=Mr h3 (A lq _ rfl)) (hs:=λζ ζ=>rfl)) ?_;replace A:dC _ (DF z w):=A.put (x:=lT) (e:=.sh (.list (aE (cD (tZ z)))));revert A;refine bB (Mine.put σ lT (.sh (.list (aE (cD (tZ z)))))) λσ=>?_;intro A;refine a8 (cq (d:=.list (aE (dE w (cD (tZ z))))) (by decide) (h:=Rz hw h3 (A lT _ rfl) (A dN _ rfl)) (hs:=λζ ζ=>rfl)) ?_;replace A:dC _ (AP z w):=A.put (x:=qq) (e:=.sh (.list (aE (dE w (cD (tZ z))))));revert A;refine bB (Mine.put σ qq (.sh (.list (aE (dE w (cD (tZ z))))))) λσ=>?_;intro A;refine a8 (cq (d:=.int ((bl w (cD (tZ z)):Nat):Int)) (by decide) (h:=OG hw.2 hz H.seat (A dJ _ rfl) (A d4 _ rfl) (A dN _ rfl)) (hs:=λζ z=>nomatch z)) ?_;replace A:dC _ (AN z w):=A.put (x:=gZ) (e:=.sh (.int ((bl w (cD (tZ z)):Nat):Int)));revert A;refine bB (Mine.put σ gZ (.sh (.int ((bl w (cD (tZ z)):Nat):Int)))) λσ=>?_;intro A;have hdg:=Df (t:=tZ z) hw.1;have htl:=xq h3;refine dD (Oj H.i2 H.d2 ⟨aB (by decide) hw.1,aB hw.2 (by decide)⟩ hdg (Dp htl) (A gZ _ rfl) (A lT _ rfl) (A dN _ rfl)) bh ?_;refine dD (IC H.i2 H.d2 ⟨aB (by decide) hw.1,aB hw.2 (by decide)⟩ hdg (Dp htl) (A gZ _ rfl) (A qq _ rfl) (A dN _ rfl)) bh ?_;refine dD (KZ H.i2 H.d2 ⟨aB (by decide) hw.1,aB hw.2 (by decide)⟩ (A dN _ rfl)) bh ?_;clear hdg htl;refine a8 (cq (d:=menuP) (by decide) (h:=LS) (hs:=λζ ζ=>rfl)) ?_;replace A:dC _ (Db z w):=A.put (x:=mo) (e:=.sh menuP);revert A;refine bB (Mine.put σ mo (.sh menuP)) λσ=>?_;intro A;refine a8 (cq (d:=iN (tZ z)) (by decide) (h:=GZ h3 (A dJ _ rfl)) (hs:=λζ ζ=>rfl)) ?_;replace A:dC _ (Dy z w):=A.put (x:=ke) (e:=.sh (iN (tZ z)));revert A;refine bB (Mine.put σ ke (.sh (iN (tZ z)))) λσ=>?_;intro A;refine a8 (oS (by decide) (Nu h3 hz (A ke _ rfl) (A mo _ rfl) (A d4 _ rfl))) ?_;have hm1:z 5%8<8:=iV _ (by decide);have hm2:z 5/8%8<8:=iV _ (by decide);refine bY (uH z (tZ z)) λbd hbd=>?_;have hb:ed (tZ z)<=bd/\bd<=20:=by have:=qJ h3;unfold uH at hbd;exact Qb hbd this
 revert hm1;refine bB (z 5%8) λm1=>?_;intro hm1;revert hm2;refine bB (z 5/8%8) λm2=>?_;intro hm2;replace A:dC _ (DJ z w m1 m2):=A.put (x:=jT) (e:=.own (kn m1 m2 (tZ z)));revert A;refine bB (Mine.put σ jT (.own (kn m1 m2 (tZ z)))) λσ=>?_;intro A;refine a8 (cq (d:=.int ((bd:Nat):Int)) (by decide) (h:=by refine aA hbd ?_;exact Io hz (A dJ _ rfl) (A d4 _ rfl)) (hs:=λζ z=>nomatch z)) ?_;clear hbd;replace A:dC _ (zD z w m1 m2 bd):=A.put (x:=mx) (e:=.sh (.int ((bd:Nat):Int)));revert A;refine bB (Mine.put σ mx (.sh (.int ((bd:Nat):Int)))) λσ=>?_;intro A;have U:=A.unown;refine Qq (HN (h:=Mt (A jI _ rfl) (A jT _ rfl))) (NB (x:=ix) (A ix _ rfl)) (cq (d:=kP m1 m2 bd (tZ z)) (by decide) (h:=Ri h3 hm1 hm2 hb.2 (U jI _ rfl) (U jT _ rfl) (U mx _ rfl) (U dJ _ rfl)) (hs:=λζ ζ=>rfl)) ?_;replace A:dC _ (C7 z w m1 m2 bd):=U.put (x:=ix) (e:=.sh (kP m1 m2 bd (tZ z)));clear U;revert A;refine bB (Mine.put (unown σ) ix (.sh (kP m1 m2 bd (tZ z)))) λσ=>?_;intro A;refine ah (Ce (O:=O) h3 hm1 hm2 hb H.chk (cK (ordN.drop (z 6%2))) σ (λo ho=>FM (zX _ _ ho)) (A mx _ rfl)) λσ' e1 k1=>?_;refine a8 (rS (Pw (A ix _ rfl) (A lq _ rfl) (A d4 _ rfl)) e1 bh) ?_;replace A:=A.keep k1 (by rfl);clear e1 k1;revert A;refine bB (σ') λσ=>?_;intro A;refine dD (QT h3 hm1 hm2 hb H.chk (A ix _ rfl) (A d4 _ rfl)) bh ?_;refine ah (BX (i:=z 6%24) (iV _ (by decide))) λo he ho=>?_;refine a8 (cq (d:=.str (S (gE (tZ z) o))) (by decide) (h:=Iu h3 he ho (A ke _ rfl) (A jI _ rfl) (A d4 _ rfl)) (hs:=λζ z=>nomatch z)) ?_;replace A:dC _ (AV z w m1 m2 bd (gE (tZ z) o)):=A.put (x:=eN) (e:=.sh (.str (S (gE (tZ z) o))));revert A;refine bB (Mine.put σ eN (.sh (.str (S (gE (tZ z) o))))) λσ=>?_;intro A;have hl:=DH h3 ho;have hmx:=AW (tZ z) o;have hfr:=NY (tZ z) o;have hlk:=Hs (O:=O) he (A lq _ rfl) (A d4 _ rfl);revert A;revert hl;revert hmx;revert hfr;refine bB (gE (tZ z) o) λl=>?_;intro hfr hmx hl A;revert hmx;revert hlk;refine bB (cB (tZ z) o) λm=>?_;intro hlk hmx;have hm12:m<=12:=by refine ah hmx.2 λn hn e=>?_;have q1:(l.take n).count 41<=(l.take n).length:=lP;replace q1:=fJ▸q1;unfold e9 at e;exact H4 hl hn e q1
 refine a8 (ue (xs:=[ic,l9]) (ents:=[.sh (.int ((m:Nat):Int)),.sh (.int ((l.count 40:Nat):Int))]) (by rfl) (by decide) (aG (nh (h:=hlk) (hs:=λζ z=>nomatch z)) (aG (nh (h:=Hl (A eN _ rfl)) (hs:=λζ z=>nomatch z)) uF))) ?_;have e1:bI σ ([ic,l9].zip [.sh (.int ((m:Nat):Int)),.sh (.int ((l.count 40:Nat):Int))])=Mine.put (Mine.put σ ic (.sh (.int ((m:Nat):Int)))) l9 (.sh (.int ((l.count 40:Nat):Int))):=rfl;refine aa e1 ?_;clear e1 hlk;replace A:dC _ (AA z w m1 m2 bd l m):=(A.put (x:=ic) (e:=.sh (.int ((m:Nat):Int)))).put (x:=l9) (e:=.sh (.int ((l.count 40:Nat):Int)));revert A;refine bB (Mine.put (Mine.put σ ic (.sh (.int ((m:Nat):Int)))) l9 (.sh (.int ((l.count 40:Nat):Int)))) λσ=>?_;intro A;refine bo (K4 (O:=O) (nt hl) hmx (A eN _ rfl) (A ic _ rfl)) λc hc hex hcut=>?_;refine a8 (cq (d:=.int ((c:Nat):Int)) (by decide) (h:=hcut) (hs:=λζ z=>nomatch z)) ?_;clear hcut;replace A:dC _ (M1 z w m1 m2 bd l m c):=A.put (x:=lp) (e:=.sh (.int ((c:Nat):Int)));revert A;refine bB (Mine.put σ lp (.sh (.int ((c:Nat):Int)))) λσ=>?_;intro A;refine a8 (oS (by decide) (JI (nt hl) hc (A eN _ rfl) (A lp _ rfl))) ?_;replace A:=A.put (x:=fI) (e:=.own [askP (gG l c)]);revert A;refine bB (Mine.put σ fI (.own [askP (gG l c)])) λσ=>?_;intro A;refine a8 (Na (by decide) rfl (nH (A fI _ rfl)) (TT (nt hl) hmx (nt hm12) (A eN _ rfl) (A ic _ rfl) (A l9 _ rfl)) ?_) ?_
 ·rw[ca];unfold gb;rewrite[ca];refine aa qo ?_;have:l.count 41<=l.length:=lP;exact jw.mpr (by simp only[dH,ev];exact Lw hl this)
 replace A:=A.put (x:=fI) (e:=.own ((gG l c::gb l m).map askP));have e1:[askP (gG l c)]++(gb l m).map askP=(gG l c::gb l m).map askP:=rfl;refine aa e1 ?_;clear e1;revert A;refine bB (Mine.put σ fI (.own ((gG l c::gb l m).map askP))) λσ=>?_;intro A;have hu:=T1 (A fI _ rfl);have B:=A.put (x:=fI) (e:=.sh (.list ((gG l c::gb l m).map askP)));have hps:∀q,cS O 36 ci (Mine.put σ fI (.sh (.list ((gG l c::gb l m).map askP)))) (dm (bq cx 22).1) (.Name fI q)=some ((gG l c::gb l m).map askP):=λq=>
  gI (d:=.list ((gG l c::gb l m).map askP)) rfl (aC (by decide) (B fI _ rfl)) rfl
 refine ah (Bs (O:=O) hl hmx hm12 hex H.ell (gG l c::gb l m) (Mine.put σ fI (.sh (.list ((gG l c::gb l m).map askP)))) (λa h=>h) (B eN _ rfl)) λσ' e2 k2=>?_;have hno:gx σ fI=none:=by unfold gx;rw[A fI _ rfl]
 have hpe:∀q,pe O 35 ci σ (.Name fI q)=none:=λq=>by refine aa rg ?_;rw[if_pos (show br ci fI=true by decide)];exact hno
 have hpi:∀q tt,cS O 36 ci σ tt (.Name fI q)=none:=λq tt=>by refine aa (o0 rfl) ?_;rw[hpe]
 refine Bw (σ':=σ') (xj (hpi _ _) rfl) ?_ ?_
 ·show px O 37 ci (unown1 σ fI) _=_;refine aa hu ?_;exact rS (hps _) e2 bh
 replace B:=B.keep k2 (by rfl);refine dD (Gs hfr (nt hl) H.ell (B eN _ rfl)) bh ?_;refine dD (HY hfr (nt hl) hc H.ell (B eN _ rfl) (B lp _ rfl)) bh ?_;exact iP (OD hfr (nt hl) hc H.ell (B eN _ rfl) (B lp _ rfl))
theorem K0:∀ns:List Int,ns.length<=63->bZ pw (O6 pw) iO [.list (ns.map .int)]=some (.bool true):=λns hn=>by refine nC (d:=bH iO) rfl rfl ?_;exact Kl Uj hn
noncomputable def Am (as:List Addr) (h:aP):Frag:=as.filterMap λa=>(h.get? a).map λo=>(a,o)
theorem Gg (as:List Addr) (h:aP):(Am as h).In h:=λa o e=>by refine ah (Fl.mp (mem_of_lookupK e)) λb ζ hb=>?_;refine ah (gA.mp hb) λo' h1 h2=>?_;cases h2;exact h1
noncomputable def Ad (K:Frag) (f:Str):Bool:=match lO K df f with|some (some (.ref a))=>(match K.lookup a with|some o=>(match o.cls with|.type c=>c== "function" |_=>false)|none=>false)|some none=>true|_=>false
noncomputable def Dq (K:Frag) (f:Str):Bool:=match lO K df f with|some none=>true|_=>false
noncomputable def xJ (K:Frag) (f:Str) (a:Addr):Bool:=match lO K df f with|some (some (.ref b))=>b==a|_=>false
noncomputable def xi (K:Frag) (f x:Str):Bool:=match lO K df f with|some (some (.str y _))=>y==x|_=>false
noncomputable def xN (K:Frag):Bool:=codeHdIn K 20 16&&codeHdIn K 27 23&&(tabIn K cN==some (20,16))&&(tabIn K cO==some (27,23))&&(nEsc::cN::cO::pI).all (Ad K)&&pt.all (Dq K)&&xJ K rB 29&&xi K mw (af "...")
noncomputable def objsL:List (Option d5):=[some (mI #[]),some (mI #[]),some {cls:=.type "dict",data:=.dict (rc hF 213).toArray 10}]
noncomputable def hk:Hook where
 α:=Bool×List (Option d5)
 obs:=λs=>(xN (Am (bF 75) s.heap),[16,23,29].map s.heap.get?)
 val:=λζ=>(true,objsL)
 says:=λζ h=>(∃K:Frag,K.In h/\xN K=true)/\[16,23,29].map h.get?=objsL
 of:=λζ s e=>⟨⟨_,Gg _ _,(Fv e).1⟩,(Fv e).2⟩
 keeps:=λ_ h h' ⟨⟨K,x,c⟩,e⟩ k=>⟨⟨K,λa o q=>k _ _ (x a o q),c⟩,by
  have e:[h.get? 16,h.get? 23,h.get? 29]=objsL:=e;show [h'.get? 16,h'.get? 23,h'.get? 29]=objsL;injection e with e1 e;injection e with e2 e;injection e with e3 e
  refine aa (k _ _ e1) (aa (k _ _ e2) (aa (k _ _ e3) ?_));rfl⟩
theorem Tj {K:Frag} {h:aP} {mg:Str->Option Value} (X:K.In h) (G:h.Ns df mg) {l:List Str} (hl:l.all (Ad K)=true):∀f∈l,∀a o,mg f=some (.ref a)->h.get? a=some o->o.cls=.type "function" :=Sy X G l hl
theorem GI {K:Frag} {h:aP} {mg:Str->Option Value} (X:K.In h) (G:h.Ns df mg) {l:List Str} (hl:l.all (Dq K)=true):∀f∈l,mg f=none:=SV X G l hl
theorem RC {K:Frag} {h:aP} {mg:Str->Option Value} (X:K.In h) (G:h.Ns df mg) {f:Str} {a:Addr} (e:xJ K f a=true):mg f=some (.ref a):=by
 revert e;delta xJ;refine bY (lO K df f) λu e=>?_
 induction u using bO with
 |none=>exact aU
 |some u=>
  induction u using bO with
  |none=>exact aU
  |some v=>
   induction v using oe with
   |ref b=>exact λq=>(mg_of X G e).trans (congrArg (λz=>some (gV z)) (bc q))
   |_=>exact aU
theorem Ih {K:Frag} {h:aP} {mg:Str->Option Value} (X:K.In h) (G:h.Ns df mg) {f x:Str} (e:xi K f x=true):∃t,mg f=some (.str x t):=by
 revert e;delta xi;refine bY (lO K df f) λu e=>?_
 induction u using bO with
 |none=>exact aU
 |some u=>
  induction u using bO with
  |none=>exact aU
  |some v=>
   induction v using oe with
   |str y t=>exact λq=>⟨t,(mg_of X G e).trans (congrArg (λz=>some (Vg z t)) (bc q))⟩
   |_=>exact aU
noncomputable abbrev LL:=PySem.Challenge.rw_tc0009_01
noncomputable def qv:Program:=view LL.row.toRowW.prog [1,2,5,7,8,10,11,12,13,14,15]
theorem Ir:LeftO LL.row.toRowW.prog qv ["COMPILER_FLAG_NAMES"] (λs=>xlAt qv [] s&&recOk (Xg LL.row.toRowW) s) (Xh hk) (Xi hk) 1078:=LeftO.of_split "special-get-raises" (λw=>by kernel_rfl)
end Mine
open PySem PySem.W PyProof.Rows
set_option Elab.async false
set_option maxRecDepth 100000 in
set_option maxHeartbeats 8000000 in
set_option tactic.hygienic true in
theorem PySem.Challenge.cw_tc0009_01_holds : PySem.Challenge.rw_tc0009_01.Holds := by
 w_on
 refine holds_law ?_ fun said=>?_
 · delta OpenLaw.wellSaid OpenRow.wellSaid OpenRow.partSaid looksOpen
   repeat' with_reducible refine look_both ?_ ?_
   all_goals decide +kernel
 refine holds_open (q:=Mine.qv) (loose:=["COMPILER_FLAG_NAMES"]) (Xt:=λs=>xlAt Mine.qv [] s&&recOk (RowW.records Mine.LL.row.toRowW) s) (XP:=XL Mine.qv []) (Yf:=Hook.obs Mine.hk) (Ya:=Hook.val Mine.hk) (YP:=Hook.says Mine.hk) (N:=1078) Mine.Ir (Hook.of Mine.hk) (Hook.keeps Mine.hk) (λs e=>xl_of s (Bool.and_eq_true_iff.mp e).1) XL.keeps (by rfl) (by rfl) (by rfl) (λs e=>recFacts_of (Bool.and_eq_true_iff.mp e).2) (by rfl) said (by decide+kernel) ⟨rfl,rfl,rfl,rfl,rfl,by decide+kernel⟩ ?hw ?hc
 case hw=>w_witness2
 case hc=>
  intro w s₀ s₁ mg mb G Y fa o pm cd doc dV kV ho hd hcd hD hmg hg args vals as hpre hlay hrd hwl hlo
  obtain ⟨⟨K,KX,hK⟩,hO⟩:=Y
  have hO:[s₁.heap.get? 16,s₁.heap.get? 23,s₁.heap.get? 29]=Mine.objsL:=hO
  injection hO with o1 hO;injection hO with o2 hO;injection hO with o3 hO
  unfold Mine.xN at hK
  simp only[Bool.and_eq_true] at hK
  obtain ⟨⟨⟨⟨⟨⟨⟨k1,k2⟩,k3⟩,k4⟩,k5⟩,k6⟩,k7⟩,k8⟩:=hK
  have hT9:TabsAt [(27,23),(20,16)] s₁.heap:=List.forall_mem_cons.mpr ⟨⟨codeHd_of_K KX k2,o2⟩,List.forall_mem_cons.mpr ⟨⟨codeHd_of_K KX k1,o1⟩,λζ h=>nomatch h⟩⟩
  refine Ground.open G ?_
  intro T B D TE TW
  clear hD hcd hd TE TW D B ho G
  have hfa:mg Mine.iO=some (.ref fa):=hmg
  clear hmg
  wrow_args hpre hlay hrd hwl hlo
  rename_i ns _ _ _ _ _ _ _ l vs _ hL _ hW _ hI _ hlen _
  refine Mine.GW T rfl hg hT9 (by decide) (Mine.Tj KX T.g k5) (λa o fd h1 h2 h3=>law_code KX T.g (eq_of_beq k3) h1 h2 h3) (λa o fd h1 h2 h3=>law_code KX T.g (eq_of_beq k4) h1 h2 h3) ⟨_,_,_,Mine.RC KX T.g k7,by decide,o3,Mine.SH (by rfl)⟩ (Mine.Ih KX T.g k8) (Mine.GI KX T.g k6) hfa hL hW hI hlen Mine.K0
