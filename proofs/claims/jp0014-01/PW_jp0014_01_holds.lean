import PyProof.Rows.All
import KE.KSortTup
import OpenK.AllK
import PyProof.CollectWalk
import PyProof.DictDisplay
import PyProof.DictRoads
import PyProof.Draws
import PyProof.ListCopy
import PyProof.P3Eq
import PyProof.Rows.TupDisplay
import PyProof.TupleOfSeq
import PyProof.WalkInts
import Wide.All
import Wide.FinOn
import Lean
import PySem.Challenge.RW_jp0014_01
set_option Elab.async false
set_option maxRecDepth 100000
set_option genSizeOf false
set_option bootstrap.genMatcherCode false
set_option linter.all false
namespace Mine.Internal
open PySem PySem.W PySem.Calls PyProof.Rows PySem.W.X PySem.SeqAt Builtin.ObjectAttr PySem.F
open PySem renaming wpAny_bind->ab,wpAny_pure->ax,Value->a7,Shared->a8,GenState->de,Addr->dq,model->dC,wpAny->dE,Program->d5,wpAny_holding->eJ,World->fA,wpAny_mono->hO,foldedSetIterable->il,codeAny_builtin->iq,Around->ka,wpAny_of_eq->kA,plainId_quiet->lj,compareOp->md,Params->mA,sizeLine_eq->mB,wpAny_call_entry->oe,wpAny_newObj_type->oP,recursionLimit->ph,interactive->rk,wpAny_standAt->rn,callEnvC->sg,cellsFrom->si,keywordEach->ts,codeAny->tJ,intKind->t4,wpAny_isInstance->ub,wpAny_callSpecial?_slot->vx,Heap->wq,rawInt->wy,wpAny_truthy_bool->xa,wpAny_assign_Name->xb,wpAny_pyIter_list->xc,rule->xv,importedModules->yn,wpAny_letGo->y6,wpAny_loadName_local->y8,wpAny_Name->Bz,wpAny_askSetting->Fm,wpAny_rule->Fn,binaryOp->FX,FuncData->Jn,backToKw->Kb,DictEntry->Ki,wpAny_storeSet_of->Kt,wpAny_updateSeq->L9,holding->NA,closureFor->RF,wpAny_pyNext_list_item->Ts,starEach->Tx,call_function_tree->TC,wpAny_setField_rec->TK,letOwnedTupleGo->Z3,wpAny_pyNext_list_end->aaa,wpAny_ite_false->aac,cStatics->aaj,wpAny_Call_ofName->aak,standAt->aau,letTemporaryGo->aay,firstArgMember->aaC,wpAny_tryCatch->aaE,wpAny_execs_cons->aaI,wpAny_setEntries_of->aaP,pyNext->aaW,intKind_is->aaX,Stmt->aa4,mem_of_lookup->aa7,wpAny_specialOf->aa9,pyIter->aba,wpAny_newList->abe,mainGlobals->abq,wpAny_call->abt,loadName->abC,isTrue->abF,Result->abS,compEnvC->abZ,wpAny_attempt->ab0,slot_gen_next->ab3,swapsWith->ab7,wpAny_ite_split->ach,wpAny_field->aci,eval->acp,wpAny_newFunctionEnv_cells->acq,dunder->acz,setAddHashed->acC,wpAny_truthy_list->acR,wpAny_setState_of->acT,OsState->ac6,BindsTo->ac8,richCompare->ada,slot_list_setitem->adb,slot_list_getitem->ade,comprehension->adg,builtinsFor->adl,attributeBase->adm,slot_dict_getitem->adq,backTo->adv,Model->adC,wpAny_Assign_Subscript->adE,wpAny_storeName_local->adL,wpAny_isTrue_Compare1->adP,getMethod->adQ,wpAny_pyIter_listiter->adS,codeAny_of_tree->adU,firstIterPos->adV,builtinLookup_eq_fast->ad0,sub_set_self->ad2,SetTable->aee,callWith->aef,typeIs_int->aeg,splitAtGen->aei,clipAt->aey,isSubtype_type->aeA,entryFor_alias->aeB,wpAny_setField->aeC,isSubtype_stop->aeD,wpAny_runValue->aeE,wpAny_newTuple->aeG,wpAny_Constant_none->aeI,wpAny_mkInt->aeO,moduleNames->aeW,Scope->aeY,treeTable->aeZ,wpAny_Constant_str->ae0,NameKind->ae2,inplaceOp->afa,wpAny_getItem_list->afc,assign->afd,wpAny_pyIter_range->afe,scanBound->afh,wpAny_handled->afj,yieldOut->afm,genEnv->afn,tupleKind->afo,wpAny_Return_some->afx,wpAny_Assign_Name->afB,newList->afG,wpAny_pyIter_slot->afJ,checkCount->afN,wpAny_pyIter_enum->afQ,codeAny_mono->afX,wpAny_typeOf->afZ,IsEnum->af2,callSpecial?->af3,fillsInplaceSlot->af8,wpAny_setScan_of->agb,entryFor_of_tree->agc,wpAny_roomToWake->agd,wpAny_getItem_of->agh,wpAny_eqBool_int->agl,sizeLine->agn,entryFor->ago,setEpoch->agp,execs->agv,storeName->agw,Keyword->agx,getAttr->agy,wpAny_point->agB,wpAny_operating->agD,wpAny_ite->agG,wpAny_alloc->agH,putSet_of->agK,typeLookup_type->agL,argsOk->agM,unsupported->agN,wpAny_throw->agO,setFind->agP,wpAny_genNumber->agT,theTreesLotGoes->agU,KeyKind->agY,strKind->agZ,PyData->ahj,setsByText->ahm,compTurn->ahs,compPost->aht,leaving->ahx,genFold->ahz,collect->ahA,nsFind->ahJ,binaryOp1->ahP,wpAny_For->ahQ,pickOrder->ahU,GenResult->ahX,stored->ahY,IsEnumOut->ahZ,valueAt->aio,preSum->air,call->ais
open _root_.Nat renaming le_trans->ae,lt_of_lt_of_le->a0,lt_of_le_of_lt->bj,le_of_ble_eq_true->bo,le_add_right->cb,le_refl->cq,ne_of_lt->du,le_of_lt->ec,add_le_add_left->eQ,lt_succ_of_lt->fg,lt_succ_self->gN,lt_irrefl->ib,le_of_eq->km,zero_le->kS,le_succ->me,not_lt->mr,add_le_add_right->nf,zero_lt_of_lt->og,lt_trans->oo,succ_le_of_lt->oT,ne_of_gt->pz,mul_le_mul_left->rh,min_eq_left->so,le_antisymm->sx,add_zero->te,min_le_right->tp,eq_of_testBit_eq->tv,mul_le_mul_right->tx,not_lt_zero->t5,zero_testBit->ui,testBit_two_pow->uj,one_shiftLeft->u3,le_of_lt_succ->vi,add_assoc->vw,add_comm->wx,lt_of_add_lt_add_right->w8,le_of_succ_le->xk,add_lt_add_left->xn,lt_add_one->xt,add_right_comm->y5,lt_add_of_pos_right->zr,succ_pos->zt,min_le_left->Dx,testBit_and->DD,succ_le_succ->FC,lt_asymm->Hd,lt_or_ge->He,sub_one_lt_of_lt->IH,zero_add->Mo,sub_le->Q1,add_le_add->SF,lt_of_le_of_ne->TO,sub_add_cancel->U2,le_add_left->aah,lt_succ_of_le->aan,sub_pos_of_lt->aao,le_sub_one_of_lt->aav,mul_le_mul->aaB,min_eq_right->aaJ,le_of_not_lt->aaM,eq_zero_or_pos->abb,add_sub_cancel_left->abi,lt_or_gt_of_ne->abk,mod_lt->abw,add_sub_of_le->abB,sub_self->abG,le_of_sub_eq_zero->abH,le_sub_of_add_le->abU,add_right_cancel->abV,pos_of_ne_zero->acD,testBit_or->acL,succ_add_eq_add_succ->acQ,exists_eq_add_of_le'->acS,lt_of_sub_pos->acV,and_or_distrib_right->acW,lt_succ_iff_lt_or_eq->ac1,sub_lt->ac3,lt_of_succ_lt->ac5,pos_of_lt_add_right->ads,add_left_cancel_iff->adu,succ_ne_self->adw,le_mul_of_pos_left->adI,mul_succ->adJ,le_total->adW,pow_le_pow_right->aeq,eq_add_of_sub_eq->aes,not_succ_le_zero->aeu,add_sub_cancel'->aeT,add_left_cancel->aeV,lt_of_lt_of_eq->aff,add_sub_cancel->afr,lt_or_eq_of_le->afs,le_succ_of_le->afz,lt_trichotomy->afA,lt_min->afD,succ_mul->af4,not_lt_of_le->af9,not_le_of_lt->agm,log2_lt->agI,testBit_xor->agQ,sub_add_eq->ahb,sub_one_lt->ahh,sub_zero->ahO,gcd_comm->ahV,min_self->ah0
open _root_.List renaming length_map->ag,range->ar,mem_cons->a5,mem_range->a9,mem_append_right->ba,mem_map->bb,mem_append_left->bp,length_range->cf,mem_append->cp,nodup_cons->dn,length_append->dy,map_map->dT,mem_of_getElem?->d3,all_eq_true->d6,getElem?_eq_some_iff->ed,map_append->ew,map_cons->eA,getElem?_eq_getElem->eC,mem_map_of_mem->eD,size_toArray->eM,getElem?_range->eR,getD_eq_getElem?_getD->fb,append_nil->fw,mem_singleton->fx,mem_filter->fI,append_assoc->hJ,pairwise_lt_range->hZ,not_mem_nil->ij,map_congr_left->i5,replicate->js,nodup_append->kd,range'->kl,foldl_cons->lp,drop_eq_getElem_cons->mi,length_filter_le->ml,getElem?_eq_none->mn,getElem?_map->my,toArray->mM,eq_nil_of_length_eq_zero->nr,length_take->oD,nodup_nil->rp,length_cons->th,take_length->ti,flatMap_cons->tq,filterMap_cons_some->va,countP_le_length->vk,getElem?_drop->vu,sum_cons->vy,mem_of_mem_take->wd,ext_getElem->w0,all_cons->xp,getElem?_toArray->yB,filter_cons->y7,pairwise_map->BM,getElem?_append_right->D2,filter_append->Hm,countP_append->HI,pairwise_iff_getElem->H0,forall_mem_cons->Iy,forIn_cons->Kj,range_succ->Kk,filter_cons_of_pos->Pm,getElem_mem->Qb,length_drop->Qr,countP_cons->QP,map_nil->XB,length->aab,take_append_drop->aag,length_replicate->aai,perm_ext_iff_of_nodup->aar,nodup_iff_pairwise_ne->aas,getElem?_append_left->aax,forIn_nil->aaA,foldl_nil->aaH,nodup_range->aaL,mem_flatMap->aaN,length_pos_iff->aaS,length_flatMap->aaT,filterMap_cons_none->aa0,pairwise_singleton->aa6,getElem_range->abc,filter_cons_of_neg->abd,map_take->abh,drop_eq_nil_of_le->abm,take_add_one->abv,foldl_append->abx,ext_getElem?->abz,set_append_right->abJ,cons_ne_nil->abP,map_flatMap->abQ,getElem_map->abR,pairwise_append->abW,dropLast_concat_getLast->ab5,countP_eq_length_filter->ab6,length_set->ab8,replicate_succ->ab9,filter_sublist->acg,filter_eq_self->acj,flatMap_append->ack,map_eq_nil_iff->acm,countP_eq_zero->aco,perm_append_singleton->acv,lookup_append->acA,getElem?_take->acG,map_replicate->acI,getLastD_eq_getLast?->acO,Perm->acU,filter_congr->ac2,range_succ_eq_map->adF,drop_of_length_le->adG,sum_append->adY,length_singleton->ad4,find?_cons->ad8,countP_singleton->aeb,pairwise_flatMap->aec,filter_map->aed,drop_eq_nil_iff->aek,mem_of_mem_drop->ael,mem_cons_of_mem->aem,tail_drop->aev,drop_zero->aew,take_left->aex,map_id->aeN,tail->aeX,mem_cons_self->ae9,zip_cons_cons->afq,pairwise_cons->aft,any_eq_false->afE,foldl->afH,isEmpty_cons->afK,push_toArray->afL,getElem?_set->afO,take_sublist->afR,countP_congr->afS,map_toArray->aga,map_fst_zip->agg,drop_length->agi,flatMap_nil->agj,append_cons->agk,map_const'->ag1,length_zip->ag2,take_range->ag3,any_cons->ahy,zip_map'->ahE,sum_nil->ahS,map_set->ah2,flatMap->ah3
open PySem.Heap renaming get?_push_of_some->aw,get?_push_size->bc,get?_none_of_le->dv,lt_size->d4,SameBut->lL,size_push->ot,get?_update_other->oC,get?_update_self->pE,size_update->tm,get?_push_ne->xl,get?_update_ne->aeU,ExtBut->ail
open _root_.Option renaming isSome_iff_exists->cx,eq_none_iff_forall_ne_some->FK,none->abp,map_eq_some_iff->adD
open _root_.Bool renaming and_eq_true->dk,false_eq_true->kz,false_or->lh,and_eq_true_iff->wb,eq_iff_iff->y3,not_true->Pl,or_eq_true->X1,eq_false_iff->abr,true_and->ab4,not_eq_true'->afF,and_false->ag8,not_false->ahg,and_self->ahv,and_true->ahC
open _root_.Int renaming natCast_nonneg->dA,le_trans->hV,ofNat_le->mN,le_of_lt->qr,toNat_natCast->sa,not_lt->uk,ne_of_gt->Bi,fdiv_eq_ediv_of_nonneg->Ee,mul_lt_mul_of_pos_left->Fh,ofNat_lt->Hk,toNat_of_nonneg->Oy,lt_irrefl->PH,mul_le_mul_of_nonneg_left->PQ,lt_of_lt_of_le->TB,mul_left_comm->aap,fmod_eq_emod_of_nonneg->aaq,lt_of_mul_lt_mul_left->aaG,add_le_add_left->aaQ,le_of_eq->aa3,lt_of_le_of_lt->aa5,lt_or_eq_of_le->abj,add_nonneg->abD,lt_trans->abL,natAbs_of_nonneg->abT,le_refl->acn,sub_zero->acB,natAbs_natCast->acE,natAbs_mul->acM,le_of_mul_le_mul_left->acP,ofNat_ne_zero->ac4,add_assoc->adf,mul_one->adh,mul_pos->adt,sign_eq_one_of_pos->adH,add_zero->adT,zero_add->adZ,mul_comm->ad3,le_antisymm->aea,neg_le_of_neg_le->aen,sub_nonpos_of_le->aeo,lt_iff_le_and_ne->aer,lt_add_one_of_le->aet,toNat_of_nonpos->aeJ,ofNat_sub->afp,add_comm->afU,lt_toNat->afV,toNat_le->afW,natCast_add->agE,mul_ne_zero->agS,mul_nonneg->ahf,mul_assoc->ahF,toNat->ah1,mul_add->aij,one_mul->aim,neg_mul->aiq
open PySem.Around renaming under_plainId->eP
open PySem.Str renaming ofString->fe
open PySem.Heap.SameBut renaming update->ik,refl->u4
open PySem.Obj renaming mapSeq->lr,putName->ac9,isFreed_of_fields->ad1,putSet->aeh,putNameByArray->ae8,data_mapFields->afi,putName_eq->ag9
open _root_.Classical renaming byContradiction->mf
open PySem.PyData renaming canLayAll0->rx,depthAll->yA,keyHash->QR,canLay0->Ta,list->aeH,depth->af5
open _root_.ForInStep renaming yield->sk
open PySem.Value renaming isInt->sv,none->tI,isStrOf->adp,type->aej,isInt_inj->agJ
open PyProof.Rows renaming seqObj->sT,get?_update_seq->Md,units_in1->aaz,size_push'->aa1,assignInOrder_cons->aa8,listUpdate_at->abf,entry_list_sort->acf,Attribute_any_->acK,slot_list_sort->acN,spliced_none->adM,spliced_more->adN,plain_sorted->ad5,entry_sorted->ad6,args_list_sort->aeF,kind_sorted->aeP,seqEpoch_at->aeQ,kwAll_nil->ae1,sortedAll_old->afg,assignInOrder_nil->afC,IntsAre->afI,args_sorted1->af0,listItems_at->af1,getItem_tuple->ag5,call_abs_int->aha,truthy_int->ahr,sortedAll->ahT,mul_int->ah6,neg_int->ah7,lt_int->aia,le_int->aib,gt_int->aic,ge_int->aid,ne_int->aie,eq_str->aif,ne_str->aih,StrsAre->aik,arrOf->ait
open PySem.SetTable renaming below->tj,insertAt->aal,eraseAt->aaK,laid->adj,grown->aez
open PySem.Builtin.Frozenset renaming updateFrom->vl,unchanged->vT,sizeOf->aaZ,intersection->abI,manyOthers->ab2,newClass->acs,isAnySet->acu,baseOf->acX,withSetAsKey->afY,oneOther->ag6,copyOf->ahn,slot0->ahu,merge->ahw
open PySem.Builtin.List renaming listUpdate->wa,listLengthHint->aaf,listItems->abn,listExtendWith->ace,listFitsIndex->acr,listSameRef->ac0,listSubscript?->agC,listTooLong->ahk
open _root_.List.Pairwise renaming filter->wi,imp_of_mem->Ml,sublist->ah4
open PySem.Sem renaming bind_eq_wrap'->xi,wrap_wrap->Hn,onRaise_eq_wrap->Px
open PySem.Builtin.SmallTypes renaming nextOf->xI,ownedTupleHandOut->aaF,ownedTupleIsFree->aeR,ownedTupleFields->aeS,newRecord->agq
open PySem.Challenge renaming rw_jp0014_01->zi,pw_jp0014_01->abX
open PyProof.Rows.F renaming plain_set_update_loop->Ap,entry_set_update_loop->aaD
open _root_.Rat renaming le_trans->Bn,divInt->Sr,mul_assoc->aam,le_refl->aaR,intCast_mul->abg,intCast_lt_intCast->abo,div_def->aby,not_lt->abA,le_of_lt->abK,inv_mul_cancel->acH,lt_of_le_of_ne->acJ,divInt_eq_div->acY,divInt_ofNat->adx,add_zero->ad7,num_divInt_den->afl,not_le->afP,zero_mul->af6,intCast_add->agW,mul_one->agX,one_mul->ag0,intCast_sub->ag4,num_divInt->ahd,den_divInt->ahe,lt_irrefl->ahG,add_def'->ahW
open PySem.F renaming plain_extend_loop->D1,plain_max_loop->Fs,plain_min_loop->Fu,called_set->aad,plain_all_loop->abN,plain_any_loop->abO,entry_extend_loop->acd,slot_set_intersection->adn,type_set_intersection->ado,plain_sum_loop->ady,entry_max_loop->adz,entry_min_loop->adA,slot_int_rmul->adX,slot_enumerate_next->ad9,sub_list_frozenset->aep,plain_list_iadd->afM,entry_all_loop->age,entry_any_loop->agf,plain_set_new->agR,sub_list_set->ahc
open PySem.W.Looks renaming of_peek->Hc
open PySem.Builtin.Generator renaming genWake->H5
open PySem.Calls renaming call_function_entry->It
open _root_.Ne renaming symm->Nw
open PySem.Builtin.Range renaming rangeSize->NM,small->aeK,rangeFitsLong->agF
open _root_.Array renaming ext'->RR,getElem?_eq_none->Tb,length_toList->aaO,range->aca,getD_eq_getD_getElem?->acb,find?_toList->acw,append_assoc->acx,toList_append->aeM,append_empty->ae3,forIn_toList->afk
open PySem.W renaming instObj->VU,hideAll_get->YP,boot_heap->aaw,hideAll_none->aaU,findIn->aaV,noRoadLSs->abl,hideAll->abu,Frag->abE,InstAt->abY,hideAll_size->acy,callWith_of->ac7,SharedT->adK,looks_findIn->adO,emptyDict->ae4,plainGet->ae5,hasDictIn->ae6,handedIn->ae7,methodCall_KW->afb,readsAllW_cons_inv->afu,boot_drawn->afv,namesBound->afw,of_hideAll->afy,readsAllW_nil_inv->afT,kas_sort->agr,boot_toks->ags,staticsOk->agt,selfFirst->agz,plainGet_of->agA,peek->ag7,codeRec_of->ahi,gensDone->aho,laidKept->ahp,ofPys->ahI,lookIn->ahK,specialIn->ahL,kitx_list->ahM,CmpBack->ahN,looksOpen->ah5,topFrom->ah8,bind_fn->ah9,kas_ask->aip
open PySem.Builtin.Builtins renaming bindParams->aae
open PySem.W.Fast renaming te8326940854005059898->aat
open _root_.PUnit renaming unit->aaY
open _root_.List.Perm renaming eq_of_pairwise->aa2
open _root_.List.Nodup renaming length_le_of_subset->abM,sublist->acF
open PySem.Shared renaming TypeIs->ab1
open PySem.End renaming bare_of_quiet->acZ
open PySem.SeqAt renaming notIn_tuple_reads->adi,in_list_reads->aeL
open PySem.Frame renaming guarded->adk
open PySem.AutoIntOps renaming pow_4->adB,iadd_0->ahD
open _root_.Eq renaming symm->adR
open PySem.DictEntry renaming refKey->af7
open PySem.W.WShape renaming hasItems->agu,hasAll->ahq
open PySem.Data renaming fields->agV
open PySem.Walks renaming list->ahl
open PySem.Builtin.Str renaming glued->ahB
open PySem.ExcName renaming means->ahH
open _root_.And renaming intro->ahR
open _root_.Int.lt renaming dest->aii
open PySem.Builtin.Int renaming intBits->ain
open PySem.Heap.ExtBut renaming refl->aiu
set_option tactic.hygienic false
inductive E2{α β:Type}(p:α->β->Prop):Prop|mk (a:α) (b:β) (h:p a b)
inductive E3{α β γ:Type}(p:α->β->γ->Prop):Prop|mk (a:α) (b:β) (c:γ) (h:p a b c)
inductive E4{α β γ δ:Type}(p:α->β->γ->δ->Prop):Prop|mk (a:α) (b:β) (c:γ) (d:δ) (h:p a b c d)
inductive E5{α β γ δ ε:Type}(p:α->β->γ->δ->ε->Prop):Prop|mk (a:α) (b:β) (c:γ) (d:δ) (e:ε) (h:p a b c d e)
inductive E7{α β γ δ ε ζ η:Type}(p:α->β->γ->δ->ε->ζ->η->Prop):Prop|mk (a:α) (b:β) (c:γ) (d:δ) (e:ε) (f:ζ) (g:η) (h:p a b c d e f g)
structure A3(a b c:Prop):Prop where (l1:a) (l2:b) (l3:c)
structure A4(a b c d:Prop):Prop where (l1:a) (l2:b) (l3:c) (l4:d)
structure A5(a b c d e:Prop):Prop where (l1:a) (l2:b) (l3:c) (l4:d) (l5:e)
structure A6(a b c d e f:Prop):Prop where (l1:a) (l2:b) (l3:c) (l4:d) (l5:e) (l6:f)
structure A7(a b c d e f g:Prop):Prop where (l1:a) (l2:b) (l3:c) (l4:d) (l5:e) (l6:f) (l7:g)
theorem tr:true=true:=rfl
theorem bH{α:Type}{P:α->Prop}{a:α}{l:List α}(h:P a)(t: ∀x∈l,P x): ∀x∈a::l,P x:=Iy.mpr ⟨h,t⟩
theorem gU{α:Type}{P:α->Prop}: ∀x∈([]:List α),P x:=λaa h=>nomatch h
theorem E0{α:Type}{l:List α}{i:Nat}(h:l.drop i=[]):l.length≤i:=aek.mp h
theorem BW{α:Type}{l r:List α}{i:Nat}{b:α}(h:l.drop i=b::r):l[i]?=some b/\l.drop (i+1)=r:=⟨by have:=congrArg (λz=>z[0]?) h;rwa[vu]at this,by have:=congrArg aeX h;rwa[aev]at this⟩
theorem Tr{p q c:Prop}[Decidable c](a:p)(b:q):if c then p else q:=by
 by_cases h:c
 ·rw[if_pos h];exact a
 ·rw[if_neg h];exact b
theorem nn{p:Prop}(h: ¬p->False):p:=mf h
theorem len0{α:Type}{l:List α}(h:l.length=0):l=[]:=nr h
theorem JE{α:Type}: ∀{l:List α},l.length=1-> ∃a,l=[a]
 | [a],_=>⟨a,rfl⟩
theorem E1{α:Type}: ∀{l:List α},l.length=2->E2 λa b=>l=[a,b]
 | [a,b],_=>⟨a,b,rfl⟩
theorem Pz{α:Type}: ∀{l:List α},l.length=3->E3 λa b c=>l=[a,b,c]
 | [a,b,c],_=>⟨a,b,c,rfl⟩
theorem eT{d k n n' L:Nat}(h:d+k*n<L)(hn:n' ≤n):d+k*n' <L:=bj (eQ (rh k hn) d) h
theorem vK{d d' a k n n' L:Nat}(h:d+k*n<L)(e:d' ≤d+a)(ha:a≤k)(hn:n' +1≤n):d' +k*n' <L:=bj (ae (nf (ae e (eQ ha d)) _) (by rw[vw,wx k,<-adJ];exact eQ (rh k hn) d)) h
theorem Tt{x:Int}(h1: -1000000000≤x)(h2:x≤1000000000): -2^63≤x/\x<2^63:=⟨hV (by decide) h1,aa5 h2 (by decide)⟩
theorem E6{x:Int}(h1:0≤x)(h2:x≤1000000000): -2^63≤x/\x<2^63:=Tt (hV (by decide) h1) h2
theorem E8{x:Int}{n:Nat}(h1: -(n:Int)≤x)(h2:x≤n):x.natAbs≤n:=by omega
theorem je{b l:Nat}(h0:0<b)(h:b≤l):b-1<l:=a0 (IH h0) h
@[elab_as_elim] theorem YB {α:Sort _} {a:α} {motive:α->Prop} {b:α} (h:a=b) (m:motive b):motive a:=h▸m
@[elab_as_elim] theorem bS {α:Sort _} {a:α} {motive:α->Prop} {b:α} (h:b=a) (m:motive b):motive a:=h▸m
@[elab_as_elim] theorem eV {a:Prop} {motive:Prop->Prop} {b:Prop} (h:a↔b) (m:motive b):motive a:=propext h▸m
local macro_rules
 | `(tactic|rw[$e:term])=> `(tactic|refine YB ($e ..) ?_)
section
variable{α β:Type}{M:adC}{A:ka}{E:a7->a8->Prop}{s:a8}
theorem aV (h: ∀(R:α->a8->Prop) (F:a7->a8->Prop),(∀v s',Q v s' ->R v s')->dE M A t R F s):dE M A t Q E s:=h Q E λaa aa z=>z
theorem Tu(h: ∀F:α->Sem β,(∀v s',dE M A (f v) Q E s' ->dE M A (F v) Q E s')->dE M A m (λv s' =>dE M A (F v) Q E s') E s):dE M A (m>>=f) Q E s:=ab (h f λaa aa z=>z)
theorem YC(h: ∀R:α->a8->Prop,(∀v s',dE M A (f v) Q E s' ->R v s')->dE M A m R E s):dE M A (m>>=f) Q E s:=ab (h _ λaa aa z=>z)
theorem wpS{t:Sem α}(h:dE M A t Q E s)(k: ∀v s',Q v s' ->Q' v s'):dE M A t Q' E s:=hO h k λaa aa z=>z
theorem mu{t:Sem α}(h:dE M A t Q (λaa aa=>False) s)(k: ∀v s',Q v s' ->Q' v s'):dE M A t Q' E s:=hO h k λaa aa z=>z.elim
end
noncomputable def aB(n:Nat):List Nat:=(ar 6).filter λi=>n.testBit i
noncomputable def bE(n:Nat)(tk:Nat->Tok):Array (Int×a7):=((aB n).map λ(i:Nat)=>((i:Int),Value.int (i:Int) (tk i))).toArray
noncomputable def tabOf(led:Bool)(mv m n d:Nat):aee:=⟨m,(aB n).toArray,(aB d).toArray,0,led,mv,true⟩
noncomputable def aL(led:Bool)(mv m n d ep:Nat)(tk:Nat->Tok):Obj:=⟨.type "set",none,.set (bE n tk) ep (tabOf led mv m n d),#[]⟩
def cz(o:Obj)(led:Bool)(n:Nat):Prop:=E5 λmv m d ep tk=>A5 (o=aL led mv m n d ep tk) (n<64) (d<64) (d&&&n=0) (m∈[7,15,31])
inductive FV where
 |none
 |bool (b:Bool)
 |int (i:Int)
 |str (s:Str)
 |list (l:List FV)
 |tuple (l:List FV)
 |aW (led:Bool)(n:Nat)
 |inst (C:dq)(at_:List (Str×FV))
 |val (v:a7)
 |any
 |m8 (a b:Int)
 |obj (o:Obj)
 |iP (l:List (Int×FV))
mutual
def VR (h:wq)(P:dq->Prop):FV->a7->Prop
 | .none,v=>v= .none
 | .bool b,v=>v= .bool b
 | .int i,v=> ∃t,v= .int i t
 | .str s,v=> ∃t,v= .str s t
 | .list l,v=>E3 λa vs n=>A4 (v= .ref a) (P a) (h.get? a=some ⟨.type "list",abp,.seq (mM vs) n,#[]⟩) (eW h P l vs)
 | .tuple l,v=>E3 λa vs n=>A4 (v= .ref a) (P a) (h.get? a=some ⟨.type "tuple",abp,.seq (mM vs) n,#[]⟩) (eW h P l vs)
 | .aW b l,v=>E2 λa o=>A4 (v= .ref a) (P a) (h.get? a=some o) (cz o b l)
 | .inst C at_,v=>E3 λx d m=>A7 (v= .ref x) (P x) (P d) (h.get? x=some (VU C d)) (h.Ns d m) (vL h P at_ m) (∀k,k∉at_.map (·.1)->m k=none)
 | .val u,v=>v=u
 | .any,_=>True
 | .m8 a b,v=>E4 λx t u k=>A3 (v= .ref x) (P x) (IsRange h x a b 1 t u k)
 | .obj o,v=> ∃a,A3 (v= .ref a) (P a) (h.get? a=some o)
 | .iP l,v=>E3 λa es n=>A4 (v= .ref a) (P a) (h.get? a=some ⟨.type "dict",abp,.dict (mM es) n,#[]⟩) (BX h P l es)
def eW(h:wq)(P:dq->Prop):List FV->List a7->Prop
 | [],vs=>vs=[]
 |f::fs,vs=>E2 λv r=>A3 (vs=v::r) (VR h P f v) (eW h P fs r)
def vL(h:wq)(P:dq->Prop):List (Str×FV)->(Str->Option a7)->Prop
 | [],_=>True
 |(k,f)::fs,m=>(∃v,m k=some v/\VR h P f v)/\vL h P fs m
def BX(h:wq)(P:dq->Prop):List (Int×FV)->List Ki->Prop
 | [],es=>es=[]
 |(k,f)::fs,es=>E2 λe r=>A5 (es=e::r) (∃t,e.key= .int k t) (e.hash=hashInt k) (VR h P f e.val) (BX h P fs r)
end
section
variable{h h' :wq}{P P' :dq->Prop}
mutual
theorem VR.mono (k: ∀a o,P a->h.get? a=some o->h'.get? a=some o)(p: ∀a,P a->P' a): ∀{f:FV} {v:a7},VR h P f v->VR h' P' f v
 | .none,_,H=>H
 | .bool _,_,H=>H
 | .int _,_,H=>H
 | .str _,_,H=>H
 | .val _,_,H=>H
 | .any,_,H=>H
 | .m8 _ _,_,bA=>by obtain⟨x,t,u,j,e,px,g⟩:=bA;exact⟨x,t,u,j,e,p x px,k x _ px g⟩
 | .obj _,_,bA=>by obtain⟨a,e,pa,g⟩:=bA;exact⟨a,e,p a pa,k a _ pa g⟩
 | .iP _,_,bA=>by obtain⟨a,vs,n,e,pa,g,r⟩:=bA;exact⟨a,vs,n,e,p a pa,k a _ pa g,BX.mono k p r⟩
 | .list _,_,bA=>by obtain⟨a,vs,n,e,pa,g,r⟩:=bA;exact⟨a,vs,n,e,p a pa,k a _ pa g,eW.mono k p r⟩
 | .tuple _,_,bA=>by obtain⟨a,vs,n,e,pa,g,r⟩:=bA;exact⟨a,vs,n,e,p a pa,k a _ pa g,eW.mono k p r⟩
 | .aW _ _,_,bA=>by obtain⟨a,o,e,pa,g,r⟩:=bA;exact⟨a,o,e,p a pa,k a _ pa g,r⟩
 | .inst _ _,_,bA=>by obtain⟨x,d,m,e,px,pd,gx,gd,r,ex⟩:=bA;exact⟨x,d,m,e,p x px,p d pd,k x _ px gx,gd.at' λo q=>k d o pd q,vL.mono k p r,ex⟩
theorem eW.mono(k: ∀a o,P a->h.get? a=some o->h'.get? a=some o)(p: ∀a,P a->P' a): ∀{f:List FV} {v:List a7},eW h P f v->eW h' P' f v
 | [],_,H=>H
 |_::_,_,bA=>by obtain⟨v,r,e,a,b⟩:=bA;exact⟨v,r,e,VR.mono k p a,eW.mono k p b⟩
theorem vL.mono(k: ∀a o,P a->h.get? a=some o->h'.get? a=some o)(p: ∀a,P a->P' a): ∀{f:List (Str×FV)} {m:Str->Option a7},vL h P f m->vL h' P' f m
 | [],_,_=>trivial
 |(_,_)::_,_,bA=>by obtain⟨⟨v,e,a⟩,b⟩:=bA;exact⟨⟨v,e,VR.mono k p a⟩,vL.mono k p b⟩
theorem BX.mono(k: ∀a o,P a->h.get? a=some o->h'.get? a=some o)(p: ∀a,P a->P' a): ∀{f:List (Int×FV)} {es:List Ki},BX h P f es->BX h' P' f es
 | [],_,H=>H
 |(_,_)::_,_,bA=>by obtain⟨e,r,q,a,b,c,d⟩:=bA;exact⟨e,r,q,a,b,VR.mono k p c,BX.mono k p d⟩
end
end
noncomputable def FV.JF{α:Type}(x:FV)(b d:α)(fi:Int->α)(fl:List FV->α)(fs:Nat->α)(fa:List (Str×FV)->α)(fv:a7->α)(an:α):α:=FV.casesOn x b (λaa=>b) fi (λaa=>b) (λaa=>d) fl (λaa m=>fs m) (λaa l=>fa l) fv an (λaa aa=>d) (λaa=>d) (λaa=>d)
noncomputable def FV.flat(x:FV):Bool:=x.JF true false (λaa=>true) (λaa=>false) (λaa=>false) (λaa=>false) (λaa=>true) true
theorem VR.vM(q:f.flat=true)(H:VR h P f v):VR h' P' f v:=by cases f<;>first|exact H|cases q
theorem eW.length{h:wq}{P:dq->Prop}: ∀{l:List FV} {vs:List a7},eW h P l vs->vs.length=l.length:=by
 intro lz;induction lz with
 |nil=>intro _ H;cases H;rfl
 |cons _ _ ih=>intro _ bA;obtain⟨_,_,e,_,y⟩:=bA;subst e;simp[ih y]
theorem eW.get{h:wq}{P:dq->Prop}: ∀{l:List FV} {vs:List a7},eW h P l vs-> ∀{i:Nat} {x:FV},l[i]?=some x-> ∃v,vs[i]?=some v/\VR h P x v
 | [],_,_,_,_,e=>by cases e
 |_::_,_,bA,0,_,e' =>by obtain⟨v,r,e,x,_⟩:=bA;subst e;cases e';exact⟨v,rfl,x⟩
 |_::_,_,bA,i+1,_,e' =>by obtain⟨_,_,e,_,y⟩:=bA;subst e;exact eW.get y (by simpa using e')
theorem vL.get(H:vL h P l m)(q:(k,x)∈l): ∃v,m k=some v/\VR h P x v:=by
 induction l with
 |nil=>cases q
 |cons p l ih=>
  obtain⟨_,_⟩:=p;rcases a5.mp q with q|q
  ·cases q;exact H.1
  ·exact ih H.2 q
noncomputable def sE(P:mA)(x:String)(t:Nat)(v:a7):Ki:=⟨QR P (fe x),.str (fe x) t,v⟩
noncomputable def fy(i:Nat):aa4:=abX.main.body.getD i default
noncomputable def Su(s:aa4):Str×Arguments×List aa4×aeY:=
 let d (b:List aa4):Str×Arguments×List aa4×aeY:=(default,default,b,default)
 Stmt.casesOn s (λn a b aa aa aa c aa aa aa=>(n,a,b,c)) (λaa aa aa aa aa aa aa aa aa aa=>d []) (λaa aa aa b aa aa aa aa aa aa aa=>d b) (λaa aa=>d []) (λaa aa=>d []) (λaa aa aa=>d []) (λaa aa aa aa aa aa aa=>d []) (λaa aa aa aa=>d []) (λaa aa aa aa aa=>d []) (λaa aa b aa aa=>d b) (λaa aa aa aa aa=>d []) (λaa b aa aa=>d b) (λaa b aa aa=>d b) (λaa aa aa=>d []) (λaa aa aa=>d []) (λaa aa aa=>d []) (λaa aa aa=>d []) (λaa aa aa aa aa=>d []) (λaa aa aa aa aa=>d []) (λaa aa aa=>d []) (λaa aa=>d []) (λaa aa aa aa=>d []) (λaa aa=>d []) (λaa aa=>d []) (λaa aa=>d []) (λaa=>d []) (λaa=>d []) (λaa=>d [])
noncomputable def mw(s:aa4):List aa4:=(Su s).2.2.1
noncomputable def jP(i j:Nat):aa4:=(mw (fy i)).getD j default
noncomputable def fdOf(s:aa4)(q:Str)(g:dq)(df kw doc pm code ct:a7)(b:dq)(cl:List (Str×dq)):Jn:={name:=(Su s).1,qualname:=q,params:=(Su s).2.1,body:= .stmts (mw s),scope:=(Su s).2.2.2,globals:=g,closure:=cl,defaults:=df,kwdefaults:=kw,doc:=doc,pyModule:=pm,annotations:=none,code:=code,closureTuple:=ct,builtins:=b}
noncomputable def lS(x:String)(t:Nat):a7:= .str (fe x) t
noncomputable def Tv(t:Nat):a7:= .str (fe "/claim/cut.py") t
noncomputable def Jp(i:Int):a7:= .int i 0
noncomputable def MI(l:List Ki)(n:Nat):Obj:=⟨.type "dict",none,.dict l.toArray n,#[]⟩
noncomputable def WU(fd:Jn):Obj:=⟨.type "function",none,.func fd,#[]⟩
noncomputable def YD(l:List a7):Obj:=⟨.type "code",none,.fields l.toArray,#[]⟩
noncomputable def ug(l:List a7)(n:Nat):Obj:=⟨.type "tuple",none,.seq l.toArray n,#[]⟩
noncomputable def E9:a7:=lS "abcvoting.misc" 194
noncomputable def LA:a7:=lS "abcvoting.scores" 410
noncomputable def BY:a7:=lS "abcvoting.abcrules" 581
noncomputable def Tw:a7:=lS "apportionment.methods" 886
noncomputable def JG:a7:=lS "abcvoting.preferences" 963
noncomputable def PA:a7:=lS "law_jp0014_01" 1156
noncomputable def iA(s:aa4)(q:String)(df pm:a7)(a:Nat):Jn:=fdOf s (.ofString q) 3 df .none .none pm (.ref (a-1)) .none 0 []
noncomputable def pM:=iA (fy 2) "CandidateSet" (.ref 23) E9 30
noncomputable def BZ:=iA (fy 3) "sorted_committees" .none E9 37
noncomputable def B0:=iA (fy 4) "str_set_of_candidates" (.ref 38) E9 45
noncomputable def iQ:=iA (jP 5 0) "Fraction.__init__" (.ref 53) E9 60
noncomputable def zK:=iA (jP 5 6) "Fraction.__add__" .none E9 102
noncomputable def zL:=iA (jP 5 10) "Fraction.__mul__" .none E9 130
noncomputable def zM:=iA (jP 5 14) "Fraction.__eq__" .none E9 158
noncomputable def zN:=iA (jP 5 15) "Fraction.__lt__" .none E9 165
noncomputable def zO:=iA (jP 5 17) "Fraction.__gt__" .none E9 179
noncomputable def zP:=iA (fy 6) "total" .none E9 200
noncomputable def qR:=iA (jP 9 0) "MarginalScoreFct.__init__" (.ref 230) LA 237
noncomputable def zQ:=iA (jP 9 1) "MarginalScoreFct.__call__" .none LA 244
noncomputable def zR:=iA (fy 10) "get_marginal_scorefct" (.ref 252) LA 259
noncomputable def zS:=iA (fy 13) "pav_score_fct" .none LA 280
noncomputable def zT:=iA (fy 15) "slav_score_fct" .none LA 294
noncomputable def zU:=iA (fy 19) "marginal_thiele_scores_add" .none LA 322
noncomputable def zV:=iA (fy 20) "marginal_thiele_scores_remove" .none LA 329
noncomputable def eH:=iA (jP 23 3) "Rule.__init__" .none BY 346
noncomputable def zW:=iA (jP 23 4) "Rule.fastest_available_algorithm" .none BY 353
noncomputable def zX:=iA (jP 23 5) "Rule.verify_compute_parameters" (.ref 354) BY 361
noncomputable def zY:=iA (fy 28) "compute_seq_thiele_method" (.ref 436) BY 443
noncomputable def zZ:=iA (fy 29) "_seq_thiele_resolute" .none BY 448
noncomputable def z0:=iA (fy 31) "compute_seqpav" (.ref 456) BY 463
noncomputable def z6:=iA (fy 32) "compute_seqslav" (.ref 464) BY 471
noncomputable def z7:=iA (fy 33) "compute_revseq_thiele_method" (.ref 472) BY 479
noncomputable def jV:=iA (fy 34) "_revseq_thiele_resolute" .none BY 484
noncomputable def z8:=iA (fy 36) "compute_revseqpav" (.ref 490) BY 497
noncomputable def z9:=iA (fy 37) "compute_seqphragmen" (.ref 498) BY 505
noncomputable def bq:=iA (fy 38) "_seqphragmen_resolute" (.ref 506) BY 511
noncomputable def Aa:=iA (fy 40) "division" .none BY 524
noncomputable def Ab:=iA (fy 43) "compute" (.ref 538) Tw 545
noncomputable def qS:=iA (fy 44) "apply_threshold" .none Tw 552
noncomputable def bO:=iA (fy 46) "divisor" (.ref 559) Tw 564
noncomputable def jW:=iA (jP 50 0) "Profile.__init__" (.ref 585) JG 590
noncomputable def Ac:=iA (jP 50 1) "Profile.num_cand" .none JG 597
noncomputable def Ad:=iA (jP 50 3) "Profile.__len__" .none JG 612
noncomputable def Ae:=iA (jP 50 4) "Profile._unique_voter" .none JG 619
noncomputable def Af:=iA (jP 50 5) "Profile.add_voter" .none JG 626
noncomputable def vN:=iA (jP 50 11) "Profile.__iter__" .none JG 668
noncomputable def jX:=iA (jP 51 0) "Voter.__init__" (.ref 711) JG 718
noncomputable def mz:=iA (fy 53) "_law_again" .none PA 745
noncomputable def qT:=iA (fy 54) "_law_first" .none PA 750
noncomputable def jf:=iA (fy 55) "_law_elected" .none PA 755
noncomputable def bP:=iA (fy 56) "law" .none PA 760
noncomputable def Tz(fd:Jn)(t l n d f r:Nat)(L:List a7):Obj:=YD ([.str fd.name t,.str fd.qualname (t+1),Tv (t+2),Jp l,Jp n,Jp 0,Jp 0,Jp f,.ref r,.bool true,Jp 181,.ref (r+1),.none]++L++[Jp (t+d),Jp l,Tv (t+d+1)])
noncomputable def jY(a:Nat)(fd:Jn)(t l n d f:Nat):abE:=[(a-1,Tz fd t l n d f (a-6) [.ref (a-4),.ref (a-3),.ref (a-2)]),(a,WU fd)]
noncomputable def JH(a:Nat)(fd:Jn)(t l n:Nat):abE:=[(a-1,Tz fd t l n 3 3 (a-4) [.none,.none,.ref (a-2)]),(a,WU fd)]
noncomputable def KK(P:mA):abE:=
 let e:=sE P
 List.flatten [
 [(3,MI [e "__name__" 165 PA,e "__doc__" 166 .none,e "__package__" 167 .none,e "__loader__" 168 (.builtin "__main__.__loader__#opaque"),e "__spec__" 169 .none,e "__annotations__" 170 (.ref 6),e "__builtins__" 171 (.ref 4),e "__file__" 173 (Tv 172),e "__cached__" 174 .none,e "_wall" 193 (.ref 21),e "CandidateSet" 206 (.ref 30),e "sorted_committees" 213 (.ref 37),e "str_set_of_candidates" 223 (.ref 45),e "Fraction" 400 (.ref 189),e "total" 409 (.ref 200),e "UnknownScoreFunctionError" 440 (.ref 219),e "MarginalScoreFct" 479 (.ref 247),e "get_marginal_scorefct" 489 (.ref 259),e "thiele_score" 503 (.ref 266),e "geometric_marginal_score_fct" 511 (.ref 273),e "pav_score_fct" 518 (.ref 280),e "adams_score_fct" 525 (.ref 287),e "slav_score_fct" 532 (.ref 294),e "av_score_fct" 539 (.ref 301),e "cc_score_fct" 546 (.ref 308),e "at_least_ell_fct" 554 (.ref 315),e "marginal_thiele_scores_add" 567 (.ref 322),e "marginal_thiele_scores_remove" 580 (.ref 329),e "MAX_NUM_OF_COMMITTEES_DEFAULT" 583 .none,e "Rule" 648 (.ref 364),e "UnknownRuleIDError" 677 (.ref 387),e "UnknownAlgorithm" 707 (.ref 409),e "NoAvailableAlgorithm" 737 (.ref 431),e "available_algorithms" 742 (.ref 435),e "compute_seq_thiele_method" 759 (.ref 443),e "_seq_thiele_resolute" 765 (.ref 448),e "_seq_thiele_irresolute" 784 (.ref 455),e "compute_seqpav" 796 (.ref 463),e "compute_seqslav" 808 (.ref 471),e "compute_revseq_thiele_method" 825 (.ref 479),e "_revseq_thiele_resolute" 831 (.ref 484),e "_revseq_thiele_irresolute" 837 (.ref 489),e "compute_revseqpav" 849 (.ref 497),e "compute_seqphragmen" 865 (.ref 505),e "_seqphragmen_resolute" 871 (.ref 511),e "_seqphragmen_irresolute" 877 (.ref 517),e "division" 885 (.ref 524),e "TiesException" 907 (.ref 534),e "compute" 919 (.ref 545),e "apply_threshold" 931 (.ref 552),e "largest_remainder" 937 (.ref 558),e "divisor" 943 (.ref 564),e "_divzero_fewerseatsthanparties" 956 (.ref 571),e "quota" 962 (.ref 577),e "Profile" 1107 (.ref 699),e "Voter" 1155 (.ref 736),e "_law_again" 1163 (.ref 745),e "_law_first" 1169 (.ref 750),e "_law_elected" 1175 (.ref 755),e "law" 1181 (.ref 760)] 60),(0,boot_o_0 P),(1,boot_o_1 P),(4,boot_o_4 P),(5,boot_o_5 P),(6,boot_o_6 P),(23,ug [(.ref 22),.none] 0)],
 jY 30 pM 196 5 2 8 3,
 jY 37 BZ 207 17 1 4 3,
 [(38,ug [.none] 0)],
 jY 45 B0 214 19 2 7 3,
 [(53,ug [(.int 0 236),(.int 1 237)] 0)],
 jY 60 iQ 238 27 3 10 3,
 jY 102 zK 286 70 2 5 3,
 jY 130 zL 318 88 2 5 3,
 jY 158 zM 350 108 2 5 3,
 jY 165 zN 358 115 2 5 3,
 jY 179 zO 374 129 2 5 3,
 [(188,MI [e "__module__" 231 E9,e "__firstlineno__" 235 (.int 25 234),e "__init__" 250 (.ref 60),e "__bool__" 257 (.ref 67),e "floor" 264 (.ref 74),e "ceil" 271 (.ref 81),e "__str__" 278 (.ref 88),e "__neg__" 285 (.ref 95),e "__add__" 293 (.ref 102),e "__radd__" 301 (.ref 109),e "__sub__" 309 (.ref 116),e "__rsub__" 317 (.ref 123),e "__mul__" 325 (.ref 130),e "__rmul__" 333 (.ref 137),e "__truediv__" 341 (.ref 144),e "__rtruediv__" 349 (.ref 151),e "__eq__" 357 (.ref 158),e "__lt__" 365 (.ref 165),e "__le__" 373 (.ref 172),e "__gt__" 381 (.ref 179),e "__ge__" 389 (.ref 186),e "__static_attributes__" 392 (.ref 187),e "__dict__" 394 (.ref 190),e "__weakref__" 396 (.ref 191),e "__doc__" 397 .none,e "__hash__" 398 .none] 5),(189,⟨(.type "type"),none,(.cls ⟨(fe "Fraction"),[(.type "object")],[(.ref 189),(.type "object")],188,(fe "Fraction"),true,[],[],false,none,false⟩),#[none,none,some (lS "Fraction" 224),some (lS "Fraction" 232),some (.builtin "object.__new__"),some (.bool true)]⟩)],
 jY 200 zP 401 142 1 6 3,
 [(230,ug [.none] 0)],
 jY 237 qR 453 155 3 6 3,
 jY 244 zQ 462 159 2 5 3,
 [(246,MI [e "__module__" 448 LA,e "__firstlineno__" 452 (.int 153 451),e "__init__" 461 (.ref 237),e "__call__" 469 (.ref 244),e "__static_attributes__" 472 (.ref 245),e "__dict__" 474 (.ref 248),e "__weakref__" 476 (.ref 249),e "__doc__" 477 .none] 4),(247,⟨(.type "type"),none,(.cls ⟨(fe "MarginalScoreFct"),[(.type "object")],[(.ref 247),(.type "object")],246,(fe "MarginalScoreFct"),true,[],[],false,none,false⟩),#[none,none,some (lS "MarginalScoreFct" 441),some (lS "MarginalScoreFct" 449),some (.builtin "object.__new__"),some (.bool true)]⟩),(252,ug [.none] 0)],
 jY 259 zR 480 173 2 7 3,
 jY 280 zS 512 204 1 4 3,
 jY 294 zT 526 214 1 4 3,
 jY 322 zU 555 230 3 10 3,
 jY 329 zV 568 239 3 10 3,
 [(337,ug [(lS "gurobi" 596),(lS "pulp-highs" 597),(lS "pulp-cbc" 598),(lS "branch-and-bound" 599),(lS "brute-force" 600)] 0),(338,ug [(.bool false),(.bool true)] 0),(339,ug [(.bool true),(.bool false)] 0)],
 jY 346 eH 604 256 2 9 3,
 jY 353 zW 616 433 1 4 3,
 [(354,ug [.none] 0)],
 jY 361 zX 623 438 6 9 3,
 [(363,MI [e "__module__" 591 BY,e "__firstlineno__" 595 (.int 251 594),e "_THIELE_ALGORITHMS" 601 (.ref 337),e "_RESOLUTE_VALUES_FOR_OPTIMIZATION_BASED_RULES" 602 (.ref 338),e "_RESOLUTE_VALUES_FOR_SEQUENTIAL_RULES" 603 (.ref 339),e "__init__" 615 (.ref 346),e "fastest_available_algorithm" 622 (.ref 353),e "verify_compute_parameters" 634 (.ref 361),e "__static_attributes__" 641 (.ref 362),e "__dict__" 643 (.ref 365),e "__weakref__" 645 (.ref 366),e "__doc__" 646 .none] 4),(364,⟨(.type "type"),none,(.cls ⟨(fe "Rule"),[(.type "object")],[(.ref 364),(.type "object")],363,(fe "Rule"),true,[],[],false,none,false⟩),#[none,none,some (lS "Rule" 584),some (lS "Rule" 592),some (.builtin "object.__new__"),some (.bool true)]⟩),(435,⟨(.type "list"),none,(.seq (mM [(lS "branch-and-bound" 738),(lS "brute-force" 739),(lS "standard" 740),(lS "standard-fractions" 741)]) 0),#[]⟩),(436,ug [(lS "fastest" 743),(.bool true),.none] 0)],
 jY 443 zY 744 469 6 13 3,
 JH 448 zZ 760 484 3,
 [(456,ug [(lS "fastest" 785),(.bool true),.none] 0)],
 jY 463 z0 786 519 5 8 3,
 [(464,ug [(lS "fastest" 797),(.bool true),.none] 0)],
 jY 471 z6 798 521 5 8 3,
 [(472,ug [(lS "fastest" 809),(.bool true),.none] 0)],
 jY 479 z7 810 523 6 13 3,
 JH 484 jV 826 538 3,
 [(490,ug [(lS "fastest" 838),(.bool true),.none] 0)],
 jY 497 z8 839 571 5 8 3,
 [(498,ug [(lS "fastest" 850),(.bool true),.none] 0)],
 jY 505 z9 851 573 5 12 3,
 [(506,ug [.none,.none] 0)],
 JH 511 bq 866 584 5,
 jY 524 Aa 878 668 2 5 3,
 [(538,ug [.none,(.bool true)] 0)],
 jY 545 Ab 908 673 5 9 3,
 jY 552 qS 920 683 2 9 3,
 [(559,ug [(.bool true)] 0)],
 JH 564 bO 938 717 4,
 [(585,ug [.none] 0)],
 JH 590 jW 977 802 3,
 jY 597 Ac 983 813 1 4 3,
 [(598,⟨(.type "property"),none,(.fields (mM [(.ref 597),.none,.none,.none,(lS "num_cand" 990),(.bool false)])),#[]⟩)],
 jY 612 Ad 998 820 1 4 3,
 jY 619 Ae 1005 823 2 6 3,
 jY 626 Af 1014 830 2 5 3,
 jY 668 vN 1058 848 1 5 35,
 [(698,MI [e "__module__" 972 JG,e "__firstlineno__" 976 (.int 800 975),e "__init__" 982 (.ref 590),e "num_cand" 990 (.ref 598),e "approved_candidates" 997 (.ref 605),e "__len__" 1004 (.ref 612),e "_unique_voter" 1013 (.ref 619),e "add_voter" 1021 (.ref 626),e "add_voters" 1029 (.ref 633),e "total_weight" 1036 (.ref 640),e "has_unit_weights" 1043 (.ref 647),e "convert_to_unit_weights" 1050 (.ref 654),e "convert_to_weighted" 1057 (.ref 661),e "__iter__" 1065 (.ref 668),e "__getitem__" 1073 (.ref 675),e "__setitem__" 1082 (.ref 682),e "copy" 1089 (.ref 689),e "is_party_list" 1096 (.ref 696),e "__static_attributes__" 1100 (.ref 697),e "__dict__" 1102 (.ref 700),e "__weakref__" 1104 (.ref 701),e "__doc__" 1105 .none] 4),(699,⟨(.type "type"),none,(.cls ⟨(fe "Profile"),[(.type "object")],[(.ref 699),(.type "object")],698,(fe "Profile"),true,[],[],false,none,false⟩),#[none,none,some (lS "Profile" 965),some (lS "Profile" 973),some (.builtin "object.__new__"),some (.bool true)]⟩),(711,ug [(.int 1 1120),.none] 0)],
 jY 718 jX 1121 865 4 7 3,
 [(735,MI [e "__module__" 1115 JG,e "__firstlineno__" 1119 (.int 863 1118),e "__init__" 1130 (.ref 718),e "__str__" 1137 (.ref 725),e "str_with_names" 1145 (.ref 733),e "__static_attributes__" 1148 (.ref 734),e "__dict__" 1150 (.ref 737),e "__weakref__" 1152 (.ref 738),e "__doc__" 1153 .none] 4),(736,⟨(.type "type"),none,(.cls ⟨(fe "Voter"),[(.type "object")],[(.ref 736),(.type "object")],735,(fe "Voter"),true,[],[],false,none,false⟩),#[none,none,some (lS "Voter" 1108),some (lS "Voter" 1116),some (.builtin "object.__new__"),some (.bool true)]⟩)],
 JH 745 mz 1158 877 4,
 JH 750 qT 1164 892 4,
 JH 755 jf 1170 896 6,
 JH 760 bP 1176 912 1]
noncomputable def YE(P:mA):Obj:={MI [sE P "type.__subclasses__.Exception.0" 904 (Jp 534),sE P "type.__subclasses__.Exception.n" 905 (Jp 1)] 2 with cls:= .none}
noncomputable def Sv:Obj:=⟨.none,none,.fields #[],#[]⟩
noncomputable def MJ(tb:String->Option Builtin)(p:d5)(w:fA)(n₀:Nat)(ann:Option a7)(k:adK->Thread->Option adK)(s:adK)(t:Thread):Option adK:=match through t with
  |true=>some s
  |false=>match stepOk n₀ ann t with
   |false=>none
   |true=>match stepT (denote tb) p w s t with
    |some r=>k r.1 r.2
    |none=>none
noncomputable def JI(tb:String->Option Builtin)(p:d5)(w:fA)(n₀:Nat)(ann:Option a7):Nat->adK->Thread->Option adK
 |0,_,_=>none
 |n+1,s,t=>MJ tb p w n₀ ann (JI tb p w n₀ ann n) s t
theorem B7{tb:String->Option Builtin}{p:d5}{w:fA}{n₀:Nat}{ann:Option a7}: ∀(n:Nat) (s s' :adK) (t:Thread),JI tb p w n₀ ann n s t=some s' ->topRun tb p w n₀ ann n s.abs t=some s'.abs
 |0,_,_,_,h=>by cases h
 |n+1,s,s',t,h=>by
  have h:MJ tb p w n₀ ann (JI tb p w n₀ ann n) s t=some s' :=h;unfold MJ at h;unfold topRun;cases ht:through t with
  |true=>rw[ht]at h;cases h;rfl
  |false=>
   rw[ht]at h;cases hk:stepOk n₀ ann t with
   |false=>rw[hk]at h;cases h
   |true=>
    rw[hk]at h;cases hs:stepT (denote tb) p w s t with
    |none=>rw[hs]at h;cases h
    |some r=>obtain⟨s₂,t₂⟩:=r;rw[hs]at h;rw[stepT_spec hs];exact B7 n s₂ s' t₂ h
noncomputable abbrev mC:d5:=abX
noncomputable def Fb(P:mA):BT:=((aaw P).objs.toList.foldl (λ(x:BT×Nat) o=>(x.1.ins x.2 o,x.2+1)) (.nil,0)).1
noncomputable def S0(w:fA)(os:ac6):adK:=⟨Fb w.params,11,{},#[],afv,ags,os⟩
noncomputable def KZ(P:mA):abE:=KK P++[(2,YE P),(25,Sv),(32,Sv),(40,Sv),(508,Sv)]
noncomputable def O5:List dq:=[3,0,1,4,5,6,23,29,30,36,37,38,44,45,53,59,60,101,102,129,130,157,158,164,165,178,179,188,189,199,200,230,236,237,243,244,246,247,252,258,259,279,280,293,294,321,322,328,329,337,338,339,345,346,352,353,354,360,361,363,364,435,436,442,443,447,448,456,462,463,464,470,471,472,478,479,483,484,490,496,497,498,504,505,506,510,511,523,524,538,544,545,551,552,559,563,564,585,589,590,596,597,598,611,612,618,619,625,626,667,668,698,699,711,717,718,735,736,744,745,749,750,754,755,759,760,2,25,32,40,508]
noncomputable def qv:d5:={mC with main:={mC.main with body:=[fy 56]}}
noncomputable def mD:List Str:=(mC.main.scope.names.map (·.1)).filter λx=>decide (x≠("law" :Str))
theorem TA(P:mA):absHeap (Fb P) 11 {}=aaw P:=by kernel_rfl
theorem PB(P:mA):((aaw P).isNs abq,(aaw P).objs.size,(aaw P).nsMap abq "__annotations__")=(true,11,some (.ref 6)):=by kernel_rfl
theorem MK(P:mA):O5=(KZ P).map (·.1):=by kernel_rfl
noncomputable def Xr(s:a8):Bool:=recOk [] s
noncomputable def Fc(w:fA)(os:ac6):Option adK:=JI aeZ mC w 11 (some (.ref 6)) 5000 (S0 w os) (topStub mC)
theorem ML(w:fA)(os:ac6):(Fc w os).map (λs=>agt (yn mC.main.body) (aaw w.params) s.abs.heap&&afw mC s.abs.heap&&aho s.abs&&ahp (aaw w.params) s.abs.heap)=some true:=by kernel_rfl
theorem MM(w:fA)(os:ac6):(Fc w os).map (λs=>openSeen qv mD (yn mC.main.body) Xr true s.abs)=some (openGood qv mD):=by kernel_rfl
theorem MN(w:fA)(os:ac6):(Fc w os).map (λs=>obsZ O5 s.abs)=some (valZ KZ 761 1182 w):=by kernel_rfl
theorem ends(w:fA)(os:ac6):(Fc w os).map (λs=>((agt (yn mC.main.body) (aaw w.params) s.abs.heap&&afw mC s.abs.heap&&aho s.abs&&ahp (aaw w.params) s.abs.heap),
  openSeen qv mD (yn mC.main.body) Xr true s.abs,obsZ O5 s.abs))=some (true,openGood qv mD,valZ KZ 761 1182 w):=by
 have a:=ML w os;have b:=MM w os;have c:=MN w os;cases h:Fc w os with
 |none=>rw[h]at a;cases a
 |some s=>rw[h]at a b c;exact congrArg some (Prod.ext (Option.some.inj a) (Prod.ext (Option.some.inj b) (Option.some.inj c)))
theorem MO(w:fA): ∃os,fencedOpening aeZ mC w 5000=some ⟨aaw w.params,Array.mk [],afv,ags,os⟩:=by obtain⟨⟨h,gs,d,k,os⟩,e,e'⟩:=adD.mp (boot_open (p:=mC) (N:=5000) (by kernel_rfl) (by kernel_rfl) (λs=>by rfl) w);injection e' with e1 e';injection e' with e2 e';injection e' with e3 e4;simp only at e1 e2 e3 e4;subst e1;subst e2;subst e3;subst e4;exact⟨os,e⟩
theorem JJ(w:fA)(os:ac6):(S0 w os).abs=⟨aaw w.params,Array.mk [],afv,ags,os⟩:=by show Shared.mk (absHeap (Fb w.params) 11 {}) (Array.mk []) afv ags os=_;rw[TA];rfl
theorem MP{tb:String->Option Builtin}{p:d5}{w:fA}{N m:Nat}{ann:Option a7}{s₀ s₁:a8}(z:((s₀.heap.isNs abq),s₀.heap.objs.size,s₀.heap.nsMap abq "__annotations__")=(true,m,ann))(zg:s₀.gens= #[])(r:topRun tb p w m ann N s₀ (topStub p)=some s₁)
  (l:(agt (yn p.main.body) s₀.heap s₁.heap&&afw p s₁.heap&&aho s₁&&ahp s₀.heap s₁.heap)=true):ah8 tb p w N s₀=some s₁:=by
 injection z with z1 z;injection z with z2 z3;unfold ah8;rw[z1];rw[zg];rw[z2];rw[z3];rw[r];show(match agt (yn p.main.body) s₀.heap s₁.heap&&afw p s₁.heap&&aho s₁&&ahp s₀.heap s₁.heap with|true=>some s₁|false=>none)=_;rw[l];rfl
theorem JK{p q:d5}{loose:List Str}{Xt:a8->Bool}{α:Type}{Yf:a8->α}{Ya:fA->α}{N:Nat}(h: ∀w,∃s₀ s₁,fencedOpening aeZ p w N=some s₀/\ah8 aeZ p w N s₀=some s₁/\openSeen q loose (yn p.main.body) Xt true s₁=openGood q loose/\Yf s₁=Ya w):LeftO p q loose Xt Yf Ya N:=λw=>by obtain⟨s₀,s₁,e,t,l2,l3⟩:=h w;unfold openEnds;rw[e];show(ah8 aeZ p w N s₀).map _=_;rw[t];exact congrArg some (Prod.ext l2 l3)
theorem three{α β γ:Type}{a a' :α}{b b' :β}{c c' :γ}(h:(a,b,c)=(a',b',c')):a=a' /\b=b' /\c=c' :=by injection h with h1 h;injection h with h2 h3;exact⟨h1,h2,h3⟩
theorem left:LeftO mC qv mD Xr (obsZ O5) (valZ KZ 761 1182) 5000:=JK λw=>by obtain⟨os,e⟩:=MO w;obtain⟨s,r,x⟩:=adD.mp (ends w os);obtain⟨l1,l2,l3⟩:=three x;have r2:=B7 _ _ _ _ r;rw[JJ]at r2;exact⟨_,s.abs,e,MP (PB w.params) rfl r2 l1,l2,l3⟩
theorem oM:ahI []=[]:=by rewrite [ahI];rfl
theorem uh:ofPy (.list l)= .list (ahI l):=by rewrite [ofPy];rfl
theorem oN:ahI (.int n::l)= .int n::ahI l:=by rewrite [ahI];rewrite [ofPy];rfl
theorem Fd: ∀xs:List WData,agu R xs .int=true-> ∃ns:List Int,xs=ahI (ns.map PyData.int):=λxs=>by
 induction xs with
 |nil=>exact λaa=>⟨[],oM.symm⟩
 |cons x xs ih=>intro h;unfold agu at h;obtain⟨n,e⟩:=hasW_int (wb.mp h).1;obtain⟨ns,e'⟩:=ih (wb.mp h).2;exact⟨n::ns,by rw[eA];rw[oN];rw[e];rw[e'];rfl⟩
theorem has_list(h:ahq R args [.list .int]=true): ∃ns:List Int,args=[ofPy (aeH (ns.map PyData.int))]:=by obtain⟨d,r,e,h1,h2⟩:=hasAllW_cons h;obtain⟨xs,e1,h3⟩:=hasW_list h1;obtain⟨ns,e2⟩:=Fd xs h3;exact⟨ns,by rw[e];rw[hasAllW_nil h2];rw[e1];rw[e2];rewrite [ofPy];rfl⟩
theorem JL(ns:List Int):(ahI (ns.map PyData.int)).length=ns.length:=by
 induction ns with
 |nil=>rw[XB];rw[oM];rfl
 |cons n ns ih=>rw[eA];rw[oN];rw[th];rw[ih];rw[th];rfl
theorem Ag{K:abE}{h:wq}{N:dq}{mg:Str->Option a7}{n:Str}{v:a7}(X:K.In h)(G:h.Ns N mg)(e:nsIn K N n=some (some v)):mg n=some v:=nn λno=>by
 obtain⟨o,es,ep,ho,hd,_,hf⟩:=G;unfold nsIn at e;cases hl:K.lookup N with
 |none=>rw[hl]at e;cases e
 |some o' =>
  rw[hl]at e;have q:=X _ _ hl;rw[ho]at q;injection q with q;subst q;obtain⟨c,d,dat,sl⟩:=o;replace hd:dat= .dict es ep:=hd;subst hd;dsimp only at e;cases hq:es.toList.find? (·.key.isStr n)with
  |none=>
   rw[hq]at e;cases hb:es.toList.any (·.refKey)with
   |true=>rw[hb]at e;cases e
   |false=>rw[hb]at e;cases e
  |some x=>rw[hq]at e;refine no ?_;refine bS (hf ..) ?_;unfold ahJ findBy;refine bS (acw ..) ?_;rw[hq];exact congrArg some (Option.some.inj (Option.some.inj e))
theorem JM{R:WRecords}{ns:List Int}(h:(zi.pre).holds R {args:=[ofPy (aeH (ns.map PyData.int))]}=true):ns.length≤63:=by
 have e:zi.pre= .and (.not (.lt (.lit (.int (63:Nat))) (.len (.arg 0)))) (.lit (.bool true)):=rfl;have v:=w_and (w_not (w_lt (R:=R) (w_lit (e:={args:=[ofPy (aeH (ns.map PyData.int))]}) (d:= .int (63:Nat))) (w_len_list (w_arg (i:=0) (congrArg some uh))))) (w_lit (d:= .bool true));unfold WTm.holds at h;rw[e,v,JL]at h
 by_cases cy:((63:Nat):Int)<ns.length
 ·rw[decide_eq_true cy]at h;cases h
 ·exact mN.mp (uk.mp cy)
inductive AV where
 |f (x:FV)
 |n (x:FV)
 |own (i:Nat)
inductive AO where
 |list (l:List AV)
 |tuple (l:List AV)
 |dict (l:List (FV×AV))
 |aW (led:Bool)(n:Nat)
 |inst (C:dq)(j:Nat)
 |attrs (l:List (Str×AV))(n:Nat)
noncomputable def AV.nw:FV->AV
 | .none=> .f .none
 | .bool b=> .f (.bool b)
 | .int i=> .f (.int i)
 | .str s=> .f (.str s)
 | .val v=> .f (.val v)
 | .any=> .f .any
 |x=> .n x
structure St where
 loc:List (Str×AV)
 own:List AO
def Jq(h:wq)(a:dq)(m:Str->Option a7)(k:Nat):Prop:=E3 λo es ep=>A5 (h.get? a=some o) (o.data= .dict es ep) (StrKeys es) (∀name,ahJ es name=m name) (es.size≤k)
theorem Jq.ns:Jq h a m k->h.Ns a m:=λ⟨o,es,ep,x,y,z,u,_⟩=>⟨o,es,ep,x,y,z,u⟩
theorem Jq.at'(x:Jq h a m k)(e: ∀o,h.get? a=some o->h'.get? a=some o):Jq h' a m k:=let⟨o,es,ep,x,r1,r2,r3,r4⟩:=x;⟨o,es,ep,e o x,r1,r2,r3,r4⟩
def dj(h:wq)(P N:dq->Prop)(as:List dq):AV->a7->Prop
 | .f x,v=>VR h P x v
 | .n x,v=>VR h N x v
 | .own i,v=> ∃a,as[i]?=some a/\v= .ref a
def bu(h:wq)(P N:dq->Prop)(as:List dq):List AV->List a7->Prop
 | [],vs=>vs=[]
 |f::fs,vs=>E2 λv r=>A3 (vs=v::r) (dj h P N as f v) (bu h P N as fs r)
def PC(w:fA):FV->Int->a7->Prop
 | .str s,hs,v=>(∃t,v= .str s t)/\hs=QR w.params s
 | .int i,hs,v=>(∃t,v= .int i t)/\hs=hashInt i
 |_,_,_=>False
def jQ(w:fA)(h:wq)(P N:dq->Prop)(as:List dq):List (FV×AV)->List Ki->Prop
 | [],es=>es=[]
 |(k,f)::fs,es=>E2 λe r=>A4 (es=e::r) (PC w k e.hash e.key) (dj h P N as f e.val) (jQ w h P N as fs r)
def iR(h:wq)(P N:dq->Prop)(as:List dq):List (Str×AV)->(Str->Option a7)->Prop
 | [],_=>True
 |(k,f)::fs,m=>(∃v,m k=some v/\dj h P N as f v)/\iR h P N as fs m
def OR(w:fA)(h:wq)(P N:dq->Prop)(as:List dq):AO->dq->Prop
 | .list l,a=>E2 λvs n=>h.get? a=some ⟨.type "list",none,.seq (mM vs) n,#[]⟩/\bu h P N as l vs
 | .tuple l,a=>E2 λvs n=>h.get? a=some ⟨.type "tuple",none,.seq (mM vs) n,#[]⟩/\bu h P N as l vs
 | .dict l,a=>E2 λes n=>h.get? a=some ⟨.type "dict",none,.dict (mM es) n,#[]⟩/\jQ w h P N as l es
 | .inst C j,a=> ∃d,as[j]?=some d/\h.get? a=some (VU C d)
 | .aW b l,a=> ∃o,h.get? a=some o/\cz o b l
 | .attrs l n,a=> ∃m,A3 (Jq h a m n) (iR h P N as l m) (∀k,k∉l.map (·.1)->m k=none)
def jT(w:fA)(h:wq)(P N:dq->Prop)(as:List dq):List AO->List dq->Prop
 | [],bs=>bs=[]
 |o::os,bs=>E2 λb r=>A3 (bs=b::r) (OR w h P N as o b) (jT w h P N as os r)
structure Cx where
 prog:d5
 w:fA
 A:ka
 env:Env
 h0:wq
 g0:Array de
 os:ac6
 K:abE
 tt:List dq
 Jr:List dq
 P0:dq->Prop
 cw:Str->Bool
 aV:List (dq×Obj)
def bC(c:Cx)(h:wq)(m:Str->Option a7)(x:Str)(v:a7):Prop:=match c.env.kindOf x with
 |some .cell=> ∃a,A3 (c.env.cells.lookup x=some a) (h.IsCell a (some v)) (c.cw x=true∨(c.h0.get? a).isSome=true)
 |some .free=> ∃a,A3 (c.env.cells.lookup x=some a) (h.IsCell a (some v)) (c.cw x=true∨(c.h0.get? a).isSome=true)
 |_=>m x=some v
theorem bC.mono(H:bC c h m x v)(k0: ∀a o o',c.h0.get? a=some o' ->h.get? a=some o->h'.get? a=some o)
  (kc: ∀a,c.env.cells.lookup x=some a->c.cw x=true-> ∀o,h.get? a=some o->h'.get? a=some o):bC c h' m x v:=by
 unfold bC at H⊢;generalize c.env.kindOf x=k at H⊢;have cell:(∃a,A3 (c.env.cells.lookup x=some a) (h.IsCell a (some v)) (c.cw x=true∨(c.h0.get? a).isSome=true))-> ∃a,A3 (c.env.cells.lookup x=some a) (h'.IsCell a (some v)) (c.cw x=true∨(c.h0.get? a).isSome=true):=λH=>by obtain⟨a,e,⟨o,ho,hd⟩,hw⟩:=H;exact⟨a,e,⟨o,hw.elim (λhw=>kc a e hw o ho) (λhw=>by obtain⟨o',e'⟩:=cx.mp hw;exact k0 a o o' e' ho),hd⟩,hw⟩
 cases k with
 |none=>exact H
 |some k=>cases k with
  |cell=>exact cell H
  |free=>exact cell H
  |_=>exact H
theorem bC.ns(H:bC c h m x v)(e:m' x=m x):bC c h m' x v:=by
 unfold bC at H⊢;generalize c.env.kindOf x=k at H⊢;cases k with
 |none=>exact e.trans H
 |some k=>cases k with
  |cell=>exact H
  |free=>exact H
  |_=>exact e.trans H
theorem bC.local(H:bC c h m x v)(hl:c.env.kindOf x=some .local):m x=some v:=by unfold bC at H;rw[hl]at H;exact H
def dm(h:wq)(a:dq):Prop:=E2 λo ps=>A3 (h.get? a=some o) (o={cls:= .none,data:= .fields ps}) (TriplesOk ps.toList)
theorem dm.of(k: ∀o,h.get? a=some o->h'.get? a=some o):dm h a->dm h' a:=λ⟨o,ps,e,r,q⟩=>⟨o,ps,k o e,r,q⟩
structure az(c:Cx)(st:St)(T:List (a7×AV))(s:a8)(m:Str->Option a7)(as:List dq)(P N:dq->Prop):Prop where
 ns:s.heap.Ns c.env.locals m
 keep: ∀b o,c.h0.get? b=some o->s.heap.get? b=some o
 low:(c.h0.get? c.env.locals=none/\ ∀a o,c.K.lookup a=some o->a<c.env.locals)/\ ∀a∈c.tt,dm s.heap a
 gens: ∃tl:List de,s.gens=c.g0++tl.toArray/\ ∀y∈tl,y.bare=true
 os:s.os=c.os
 loc: ∀e∈st.loc,∃v,bC c s.heap m e.1 v/\dj s.heap P N as e.2 v
 own:jT c.w s.heap P N as st.own as
 nd:as.Nodup
 fresh: ∀a∈as,c.h0.get? a=none/\a≠c.env.locals/\ ¬P a/\a∉c.tt
 pf: ∀a,P a->a≠c.env.locals/\(s.heap.get? a).isSome/\a∉c.tt
 old: ∀a,P a->c.P0 a∨N a
 qf: ∀b o,c.h0.get? b=some o->b∉c.tt
 nP: ∀a,N a->P a
 new: ∀a,N a->c.h0.get? a=none
 qg:c.env.locals∉c.tt
 pre: ∀(i:Nat) (a:dq),c.Jr[i]?=some a->as[i]?=some a
 kU: ∀x a,c.env.cells.lookup x=some a->c.cw x=true->(∃v,s.heap.IsCell a v)/\c.h0.get? a=none/\a≠c.env.locals/\ ¬P a/\a∉as/\a∉c.tt
 aV: ∀p∈c.aV,s.heap.get? p.1=some p.2/\c.h0.get? p.1=none/\p.1≠c.env.locals/\ ¬P p.1/\p.1∉as/\p.1∉c.tt/\ ∀x,c.env.cells.lookup x=some p.1->c.cw x=false
 bU:(c.aV.map (·.1)).Nodup
 bw: ∀p∈T,dj s.heap P N as p.2 p.1
def aX(c:Cx)(st:St)(T:List (a7×AV))(s:a8):Prop:=E4 λm as P N=>az c st T s m as P N
section
variable{w:fA}{h h' :wq}{P P' N N' :dq->Prop}{as dZ:List dq}
theorem dj.mono (k: ∀a o,P a->h.get? a=some o->h'.get? a=some o)(p: ∀a,P a->P' a)(kn: ∀a o,N a->h.get? a=some o->h'.get? a=some o)(pn: ∀a,N a->N' a)(q: ∀(i:Nat) (a:dq),as[i]?=some a->dZ[i]?=some a): ∀{f:AV} {v:a7},dj h P N as f v->dj h' P' N' dZ f v:=by
 intro lz;cases lz with
 |f _=>intro _ H;exact VR.mono k p H
 |n _=>intro _ H;exact VR.mono kn pn H
 |own _=>intro _ bA;obtain⟨a,e,r⟩:=bA;exact⟨a,q _ a e,r⟩
theorem bu.mono(k: ∀a o,P a->h.get? a=some o->h'.get? a=some o)(p: ∀a,P a->P' a)(kn: ∀a o,N a->h.get? a=some o->h'.get? a=some o)(pn: ∀a,N a->N' a)(q: ∀(i:Nat) (a:dq),as[i]?=some a->dZ[i]?=some a): ∀{f:List AV} {v:List a7},bu h P N as f v->bu h' P' N' dZ f v:=by
 intro lz;induction lz with
 |nil=>intro _ H;exact H
 |cons _ _ ih=>intro _ bA;obtain⟨v,r,e,a,b⟩:=bA;exact⟨v,r,e,dj.mono k p kn pn q a,ih b⟩
theorem jQ.mono(k: ∀a o,P a->h.get? a=some o->h'.get? a=some o)(p: ∀a,P a->P' a)(kn: ∀a o,N a->h.get? a=some o->h'.get? a=some o)(pn: ∀a,N a->N' a)(q: ∀(i:Nat) (a:dq),as[i]?=some a->dZ[i]?=some a): ∀{f:List (FV×AV)} {v:List Ki},jQ w h P N as f v->jQ w h' P' N' dZ f v:=by
 intro lz;induction lz with
 |nil=>intro _ H;exact H
 |cons mE _ ih=>intro _ bA;obtain⟨_,_⟩:=mE;obtain⟨v,r,e,x,a,b⟩:=bA;exact⟨v,r,e,x,dj.mono k p kn pn q a,ih b⟩
theorem iR.mono(k: ∀a o,P a->h.get? a=some o->h'.get? a=some o)(p: ∀a,P a->P' a)(kn: ∀a o,N a->h.get? a=some o->h'.get? a=some o)(pn: ∀a,N a->N' a)(q: ∀(i:Nat) (a:dq),as[i]?=some a->dZ[i]?=some a): ∀{f:List (Str×AV)} {m:Str->Option a7},iR h P N as f m->iR h' P' N' dZ f m:=by
 intro lz;induction lz with
 |nil=>intro _ _;exact trivial
 |cons mE _ ih=>intro _ bA;obtain⟨_,_⟩:=mE;obtain⟨⟨v,e,a⟩,b⟩:=bA;exact⟨⟨v,e,dj.mono k p kn pn q a⟩,ih b⟩
theorem iR.get(H:iR h P N as l m)(q:(k,x)∈l): ∃v,m k=some v/\dj h P N as x v:=by
 induction l with
 |nil=>cases q
 |cons p l ih=>
  obtain⟨_,_⟩:=p;rcases a5.mp q with q|q
  ·cases q;exact H.1
  ·exact ih H.2 q
theorem OR.mono(k: ∀a o,P a->h.get? a=some o->h'.get? a=some o)(p: ∀a,P a->P' a)(kn: ∀a o,N a->h.get? a=some o->h'.get? a=some o)(pn: ∀a,N a->N' a)(q: ∀(i:Nat) (a:dq),as[i]?=some a->dZ[i]?=some a): ∀{f:AO} {b:dq},(∀o,h.get? b=some o->h'.get? b=some o)->OR w h P N as f b->OR w h' P' N' dZ f b:=by
 intro lz;cases lz with
 |list _=>intro _ kb bA;obtain⟨vs,n,g,r⟩:=bA;exact⟨vs,n,kb _ g,bu.mono k p kn pn q r⟩
 |tuple _=>intro _ kb bA;obtain⟨vs,n,g,r⟩:=bA;exact⟨vs,n,kb _ g,bu.mono k p kn pn q r⟩
 |dict _=>intro _ kb bA;obtain⟨vs,n,g,r⟩:=bA;exact⟨vs,n,kb _ g,jQ.mono k p kn pn q r⟩
 |inst _ _=>intro _ kb bA;obtain⟨d,e,g⟩:=bA;exact⟨d,q _ d e,kb _ g⟩
 |aW _ _=>intro _ kb bA;obtain⟨o,g,r⟩:=bA;exact⟨o,kb _ g,r⟩
 |attrs _ _=>intro _ kb bA;obtain⟨m,g,r,ex⟩:=bA;exact⟨m,g.at' λo e=>kb o e,iR.mono k p kn pn q r,ex⟩
theorem jT.mono(k: ∀a o,P a->h.get? a=some o->h'.get? a=some o)(p: ∀a,P a->P' a)(kn: ∀a o,N a->h.get? a=some o->h'.get? a=some o)(pn: ∀a,N a->N' a)(q: ∀(i:Nat) (a:dq),as[i]?=some a->dZ[i]?=some a): ∀{f:List AO} {bs:List dq},(∀b∈bs,∀o,h.get? b=some o->h'.get? b=some o)->jT w h P N as f bs->jT w h' P' N' dZ f bs:=by
 intro lz;induction lz with
 |nil=>intro _ _ H;exact H
 |cons _ _ ih=>intro bs kb TF;obtain⟨b,r,e,x,y⟩:=TF;subst e;exact⟨b,r,rfl,OR.mono k p kn pn q (kb b (.head _)) x,ih (λc hc=>kb c (.tail _ hc)) y⟩
theorem jT.length: ∀{f:List AO} {bs:List dq},jT w h P N as f bs->bs.length=f.length:=by
 intro lz;induction lz with
 |nil=>intro _ H;cases H;rfl
 |cons _ _ ih=>intro _ bA;obtain⟨_,_,e,_,y⟩:=bA;subst e;simp[ih y]
theorem jT.get: ∀{f:List AO} {bs:List dq},jT w h P N as f bs-> ∀{i:Nat} {o:AO},f[i]?=some o-> ∃b,bs[i]?=some b/\OR w h P N as o b
 | [],_,_,_,_,e=>by cases e
 |o::os,_,bA,0,o',e' =>by obtain⟨b,r,e,x,y⟩:=bA;subst e;cases e';exact⟨b,rfl,x⟩
 |o::os,_,bA,i+1,o',e' =>by obtain⟨b,r,e,x,y⟩:=bA;subst e;exact jT.get y (by simpa using e')
theorem jT.snoc: ∀{f:List AO} {bs:List dq} {o:AO} {b:dq},jT w h P N as f bs->OR w h P N as o b->jT w h P N as (f++[o]) (bs++[b]):=by
 intro lz;induction lz with
 |nil=>intro _ _ _ H x;cases H;exact⟨_,_,rfl,x,rfl⟩
 |cons _ _ ih=>intro _ _ _ bA x;obtain⟨b',r,e,x',y⟩:=bA;subst e;exact⟨b',r++[_],rfl,x',ih y x⟩
end
section
variable{c:Cx}{st:St}{T:List (a7×AV)}{s:a8}{m:Str->Option a7}{as:List dq}{P N:dq->Prop}
def gB (tt:List dq)(h h' :wq):Prop:=(∀b o,b∉tt->h.get? b=some o->h'.get? b=some o)/\ ∀b∈tt,dm h b->dm h' b
theorem gB.of(k: ∀b o,h.get? b=some o->h'.get? b=some o):gB tt h h' :=⟨λb o aa e=>k b o e,λb aa ⟨o,ps,e,r,q⟩=>⟨o,ps,k b o e,r,q⟩⟩
theorem az.known(S:az c st T s m as P N)(h:P a):a∉c.tt:=(S.pf a h).2.2
noncomputable abbrev HA(H:List (dq×Obj)):List dq:=H.map (·.1)
noncomputable abbrev Cx.v(c:Cx)(H:List (dq×Obj))(G:Array de):Cx:={c with aV:=H++c.aV,g0:=G}
theorem OR.there{w:fA}{h:wq}{P N:dq->Prop}{as:List dq}: ∀{o:AO} {a:dq},OR w h P N as o a-> ∃x,h.get? a=some x:=by
 intro lz;cases lz with
 |list _=>intro _ z;obtain⟨_,_,g,_⟩:=z;exact⟨_,g⟩
 |tuple _=>intro _ z;obtain⟨_,_,g,_⟩:=z;exact⟨_,g⟩
 |dict _=>intro _ z;obtain⟨_,_,g,_⟩:=z;exact⟨_,g⟩
 |aW _ _=>intro _ z;obtain⟨_,g,_⟩:=z;exact⟨_,g⟩
 |inst _ _=>intro _ z;obtain⟨_,_,g⟩:=z;exact⟨_,g⟩
 |attrs _ _=>intro _ z;obtain⟨_,⟨_,_,_,g,_⟩,_⟩:=z;exact⟨_,g⟩
theorem jT.there{w:fA}{h:wq}{P N:dq->Prop}{as:List dq}: ∀{l:List AO} {bs:List dq},jT w h P N as l bs-> ∀{a:dq},a∈bs-> ∃x,h.get? a=some x:=by
 intro lz;cases lz with
 |nil=>intro _ e _ ha;rw[show _=[]from e]at ha;cases ha
 |cons _ _=>intro _ z a ha;obtain⟨b,r,e,x,y⟩:=z;rw[e]at ha;exact(a5.mp ha).elim (λq=>q▸x.there) y.there
theorem cu{α:Type}{x:Option α}{a:α}(h:x=none)(e:x=some a):False:=nomatch h.symm.trans e
theorem Fe{α:Type}{l:List α}{a:α}(h:[]=a::l):False:=nomatch h
theorem um(h:b=false)(e:b=true):False:=nomatch h.symm.trans e
structure Apart(c:Cx)(P:dq->Prop)(as:List dq)(a:dq):Prop where
 h0:c.h0.get? a=none
 nl:a≠c.env.locals
 nP: ¬P a
 na:a∉as
 nt:a∉c.tt
 nc: ∀x,c.env.cells.lookup x=some a->c.cw x=false
theorem az.cE(B:az c st T s m as P N){a:dq}(h:s.heap.get? a=none)(ht:a∉c.tt):Apart c P as a where
 h0:=FK.mpr λo q=>cu h (B.keep _ _ q)
 nl:=λq=>by obtain⟨_,_,_,e,_⟩:=B.ns;exact cu h (q▸e)
 nP:=λq=>let⟨_,e⟩:=cx.mp (B.pf _ q).2.1;cu h e
 na:=λq=>let⟨_,e⟩:=B.own.there q;cu h e
 nt:=ht
 nc:=λx e=>abr.mpr λq=>by obtain⟨⟨_,_,g,_⟩,_⟩:=B.kU x _ e q;exact cu h g
theorem az.cR(B:az c st T s m as P N)(hp:p∈c.aV):Apart c P as p.1:=let⟨_,x1,x2,x3,x4,x5,x6⟩:=B.aV p hp;⟨x1,x2,x3,x4,x5,x6⟩
theorem az.jg(B:az c st T s m as P N)(h:s.heap.get? a=none)(hp:p∈c.aV):p.1≠a:=λq=>cu h (q▸(B.aV p hp).1)
theorem az.push(B:az c st T s m as P N)(h:dj s.heap P N as a v):az c st ((v,a)::T) s m as P N:=⟨B.ns,B.keep,B.low,B.gens,B.os,B.loc,B.own,B.nd,B.fresh,B.pf,B.old,B.qf,B.nP,B.new,B.qg,B.pre,B.kU,B.aV,B.bU,λp hp=>(a5.mp hp).elim (λe=>e▸h) (B.bw p)⟩
theorem az.toks(B:az c st T s m as P N):az c st T {s with toks:=t' } m as P N:=⟨B.ns,B.keep,B.low,B.gens,B.os,B.loc,B.own,B.nd,B.fresh,B.pf,B.old,B.qf,B.nP,B.new,B.qg,B.pre,B.kU,B.aV,B.bU,B.bw⟩
theorem Fg{α:Type}{a b g:Array α}{l l' :List α}(e:a=g++l.toArray)(e' :b=a++l'.toArray):b=g++(l++l').toArray:=by rw[e'];rw[e];rw[acx];simp
structure zE(c:Cx)(P Z:dq->Prop)(h h' :wq):Prop where
 h0: ∀a,Z a->c.h0.get? a=none
 nP: ∀a,Z a-> ¬P a
 k: ∀b o,b∉c.tt-> ¬Z b->h.get? b=some o->h'.get? b=some o
 kt: ∀b∈c.tt,dm h b->dm h' b
theorem zE.of(h0: ∀a,Z a->c.h0.get? a=none)(nP: ∀a,Z a-> ¬P a)(nt: ∀a,Z a->a∉c.tt)(k: ∀b o,¬Z b->h.get? b=some o->h'.get? b=some o):zE c P Z h h' :=⟨h0,nP,λb o aa=>k b o,λb hb t=>t.of λo=>k b o λz=>nt b z hb⟩
section
variable{Z:dq->Prop}{s' :a8}
theorem az.kP (B:az c st T s m as P N)(C:zE c P Z s.heap s'.heap): ∀a o,P a->s.heap.get? a=some o->s'.heap.get? a=some o:=λa o p=>C.k a o (B.pf a p).2.2 λz=>C.nP a z p
theorem az.Sw(B:az c st T s m as P N)(C:zE c P Z s.heap s'.heap){f:AV}{v:a7}(r:dj s.heap P N as f v):dj s'.heap P N as f v:=r.mono (B.kP C) (λaa x=>x) (λa o p=>B.kP C a o (B.nP a p)) (λaa x=>x) λaa aa x=>x
theorem az.YF(B:az c st T s m as P N)(C:zE c P Z s.heap s'.heap){f:AO}{b:dq}(r:OR c.w s.heap P N as f b)(k: ∀o,s.heap.get? b=some o->s'.heap.get? b=some o):OR c.w s'.heap P N as f b:=r.mono (B.kP C) (λaa x=>x) (λa o p=>B.kP C a o (B.nP a p)) (λaa x=>x) (λaa aa x=>x) k
theorem az.TG(B:az c st T s m as P N)(C:zE c P Z s.heap s'.heap)(n: ∀a∈as,¬Z a):jT c.w s'.heap P N as st.own as:=B.own.mono (B.kP C) (λaa x=>x) (λa o p=>B.kP C a o (B.nP a p)) (λaa x=>x) (λaa aa x=>x) λa h o=>C.k a o (B.fresh a h).2.2.2 (n a h)
theorem az.k0(B:az c st T s m as P N)(C:zE c P Z s.heap s'.heap): ∀a o o',c.h0.get? a=some o' ->s.heap.get? a=some o->s'.heap.get? a=some o:=λa o o' e=>C.k a o (B.qf a o' e) λz=>cu (C.h0 a z) e
theorem az.kc(B:az c st T s m as P N)(C:zE c P Z s.heap s'.heap)(n: ∀a,c.env.cells.lookup x=some a->c.cw x=true-> ¬Z a): ∀a,c.env.cells.lookup x=some a->c.cw x=true-> ∀o,s.heap.get? a=some o->s'.heap.get? a=some o:=λa e w o=>C.k a o (B.kU x a e w).2.2.2.2.2 (n a e w)
theorem az.JN(B:az c st T s m as P N)(C:zE c P Z s.heap s'.heap)(hG: ∃tl:List de,s'.gens=G++tl.toArray/\ ∀y∈tl,y.bare=true)(ho:s'.os=s.os)
  (ns:s'.heap.Ns c.env.locals m')(loc: ∀e∈l,∃v,bC c s'.heap m' e.1 v/\dj s'.heap P N as e.2 v)(own:jT c.w s'.heap P N as bK as)(kU: ∀x a,c.env.cells.lookup x=some a->c.cw x=true-> ∃v,s'.heap.IsCell a v)
  (hh: ∀p∈H,s'.heap.get? p.1=some p.2/\Apart c P as p.1)(nd:(HA H).Nodup)(bw: ∀p∈T',p∈T):az {c with aV:=H,g0:=G} ⟨l,bK⟩ T' s' m' as P N where
 ns:=ns
 keep:=λa o e=>B.k0 C a o o e (B.keep a o e)
 low:=⟨B.low.1,λa h=>C.kt a h (B.low.2 a h)⟩
 gens:=hG
 os:=ho.trans B.os
 loc:=loc
 own:=own
 nd:=B.nd
 fresh:=B.fresh
 pf:=λa h=>let⟨o,e⟩:=cx.mp (B.pf a h).2.1;⟨(B.pf a h).1,cx.mpr ⟨o,B.kP C a o h e⟩,(B.pf a h).2.2⟩
 old:=B.old
 qf:=B.qf
 nP:=B.nP
 new:=B.new
 qg:=B.qg
 pre:=B.pre
 kU:=λx a e w=>⟨kU x a e w,(B.kU x a e w).2⟩
 aV:=λp hp=>by obtain⟨g,x1,x2,x3,x4,x5,x6⟩:=hh p hp;exact⟨g,x1,x2,x3,x4,x5,x6⟩
 bU:=nd
 bw:=λp hp=>B.Sw C (B.bw p (bw p hp))
theorem az.JO(B:az c st T s m as P N)(C:zE c P Z s.heap s'.heap)(e:c.env.cells.lookup x=some a)(w:c.cw x=true)(n: ¬Z a): ∃v,s'.heap.IsCell a v:=by obtain⟨⟨v,o,g,d⟩,r⟩:=B.kU x a e w;exact⟨v,o,C.k a o r.2.2.2.2 n g,d⟩
theorem az.JP(B:az c st T s m as P N)(C:zE c P Z s.heap s'.heap)(he:e∈st.loc)(n: ∀a,c.env.cells.lookup e.1=some a->c.cw e.1=true-> ¬Z a): ∃v,bC c s'.heap m e.1 v/\dj s'.heap P N as e.2 v:=let⟨v,x,y⟩:=B.loc e he;⟨v,x.mono (B.k0 C) (B.kc C n),B.Sw C y⟩
theorem az.MQ(B:az c st T s m as P N)(C:zE c P Z s.heap s'.heap)(hp:p∈c.aV)(n: ¬Z p.1):s'.heap.get? p.1=some p.2/\Apart c P as p.1:=⟨C.k p.1 p.2 (B.cR hp).nt n (B.aV p hp).1,B.cR hp⟩
theorem az.chg(B:az c st T s m as P N)(nZ: ∀a,Z a->Apart c P as a)(k: ∀b o,b∉c.tt-> ¬Z b->s.heap.get? b=some o->s'.heap.get? b=some o)
  (kt: ∀b∈c.tt,dm s.heap b->dm s'.heap b)(hG: ∃tl:List de,s'.gens=G++tl.toArray/\ ∀y∈tl,y.bare=true)(ho:s'.os=s.os)(hh: ∀p∈H,s'.heap.get? p.1=some p.2/\Apart c P as p.1)(nd:(HA H).Nodup):
  az {c with aV:=H,g0:=G} st T s' m as P N:=by
 have C:zE c P Z s.heap s'.heap:=⟨λa z=>(nZ a z).h0,λa z=>(nZ a z).nP,k,kt⟩;have n: ∀x a,c.env.cells.lookup x=some a->c.cw x=true-> ¬Z a:=λx a e w z=>um ((nZ a z).nc x e) w;exact B.JN C hG ho (B.ns.at' λo e=>k _ o B.qg (λz=>(nZ _ z).nl rfl) e) (λe he=>B.JP C he (n _)) (B.TG C λa h z=>(nZ a z).na h) (λx a e w=>B.JO C e w (n x a e w)) hh nd λaa h=>h
end
theorem az.grow(S:az c st T s m as P N)(kk:gB c.tt s.heap s'.heap)(g: ∃tl:List de,s'.gens=s.gens++tl.toArray/\ ∀y∈tl,y.bare=true)(o:s'.os=s.os):az c st T s' m as P N:=S.chg (Z:=λaa=>False) (λaa h=>h.elim) (λb o h aa=>kk.1 b o h) kk.2 (by obtain⟨tl,e,hb⟩:=S.gens;obtain⟨vO,e',gC⟩:=g;exact⟨tl++vO,Fg e e',λy hy=>(cp.mp hy).elim (hb y) (gC y)⟩) o (λp hp=>⟨kk.1 p.1 p.2 (S.cR hp).nt (S.aV p hp).1,S.cR hp⟩) S.bU
theorem az.PD(B:az (c.v H G) st T s m as P N):(HA H++HA c.aV).Nodup:=ew▸B.bU
theorem az.qw(B:az (c.v H G) st T s m as P N)(h:a∈HA H):Apart c P as a:=by obtain⟨q,hq,e⟩:=bb.mp h;obtain⟨x1,x2,x3,x4,x5,x6⟩:=B.cR (bp _ hq);exact e▸⟨x1,x2,x3,x4,x5,x6⟩
theorem az.JQ{Z:dq->Prop}(B:az (c.v H G) st T s m as P N)(nZ: ∀a,Z a->a∈HA H)(k: ∀b o,b∉c.tt-> ¬Z b->s.heap.get? b=some o->s'.heap.get? b=some o)
  (kt: ∀b∈c.tt,dm s.heap b->dm s'.heap b)(hG: ∃tl:List de,s'.gens=G2++tl.toArray/\ ∀y∈tl,y.bare=true)(ho:s'.os=s.os)(hh: ∀p∈H2,s'.heap.get? p.1=some p.2/\(p.1∈HA H∨(s.heap.get? p.1=none/\p.1∉c.tt)))(nd:(HA H2).Nodup):az (c.v H2 G2) st T s' m as P N:=by
 have h:=B.PD;have ap:=λa=>B.qw (a:=a);refine az.chg (c:=c.v H G) B (Z:=Z) (λa z=>by obtain⟨x1,x2,x3,x4,x5,x6⟩:=ap a (nZ a z);exact⟨x1,x2,x3,x4,x5,x6⟩) k kt hG ho (λp hp=>?_) ?_
 ·rcases cp.mp hp with hp|hp
  ·exact⟨(hh p hp).1,(hh p hp).2.elim (λz=>by obtain⟨x1,x2,x3,x4,x5,x6⟩:=ap _ z;exact⟨x1,x2,x3,x4,x5,x6⟩) λz=>B.cE z.1 z.2⟩
  ·have q:=B.cR (ba H hp);exact⟨k p.1 p.2 q.nt (λz=>(kd.mp h).2.2 _ (nZ _ z) _ (eD hp) rfl) (B.aV p (ba H hp)).1,q⟩
 ·rw[show HA (H2++c.aV)=HA H2++HA c.aV from ew];refine kd.mpr ⟨nd,(kd.mp h).2.1,λa ha b hb e=>?_⟩;obtain⟨p,hp,e1⟩:=bb.mp ha;obtain⟨q,hq,e2⟩:=bb.mp hb;exact(hh p hp).2.elim (λz=>(kd.mp h).2.2 _ z _ (eD hq) (e1.trans (e.trans e2.symm))) λz=>cu z.1 ((e1.trans (e.trans e2.symm))▸(B.aV q (ba H hq)).1)
theorem az.widen(B:az c st T s m as P N){F:dq->Prop}(hF: ∀a,F a->(s.heap.get? a).isSome/\Apart c (λaa=>False) as a/\ ∀p∈c.aV,p.1≠a):az c st T s m as (λa=>P a∨F a) (λa=>N a∨F a):=
 have up: ∀{f:AV} {v:a7},dj s.heap P N as f v->dj s.heap (λa=>P a∨F a) (λa=>N a∨F a) as f v:=λq=>q.mono (λaa aa aa e=>e) (λaa x=> .inl x) (λaa aa aa e=>e) (λaa x=> .inl x) λaa aa x=>x
 {ns:=B.ns,keep:=B.keep,low:=B.low,gens:=B.gens,os:=B.os
  loc:=λe he=>let⟨v,a,b⟩:=B.loc e he;⟨v,a,up b⟩
  own:=B.own.mono (λaa aa aa e=>e) (λaa x=> .inl x) (λaa aa aa e=>e) (λaa x=> .inl x) (λaa aa x=>x) λaa aa aa e=>e
  nd:=B.nd
  fresh:=λa ha=>by obtain⟨x1,x2,x3,x4⟩:=B.fresh a ha;exact⟨x1,x2,λq=>q.elim x3 λq=>(hF a q).2.1.na ha,x4⟩
  pf:=λa h=>h.elim (B.pf a) λq=>⟨(hF a q).2.1.nl,(hF a q).1,(hF a q).2.1.nt⟩
  old:=λa h=>h.elim (λq=>(B.old a q).imp id .inl) λq=> .inr (.inr q)
  qf:=B.qf
  nP:=λa h=>h.imp (B.nP a) id
  new:=λa h=>h.elim (B.new a) λq=>(hF a q).2.1.h0
  qg:=B.qg,pre:=B.pre
  kU:=λx a e w=>let⟨x1,x2,x3,x4,x5⟩:=B.kU x a e w;⟨x1,x2,x3,λq=>q.elim x4 λq=>um ((hF a q).2.1.nc x e) w,x5⟩
  aV:=λp hp=>let⟨x1,x2,x3,x4,x5⟩:=B.aV p hp;⟨x1,x2,x3,λq=>q.elim x4 λq=>(hF _ q).2.2 p hp rfl,x5⟩
  bU:=B.bU,bw:=λp hp=>up (B.bw p hp)}
theorem az.Ah(B:az c st T s m as P N){a:dq}{ao:AO}(ho:OR c.w s.heap P N as ao a)(A:Apart c P as a)(hh: ∀p∈c.aV,p.1≠a):
  az c ⟨st.loc,st.own++[ao]⟩ ((.ref a,.own st.own.length)::T) s m (as++[a]) P N:=
 have up: ∀(i:Nat) (b:dq),as[i]?=some b->(as++[a])[i]?=some b:=λi b e=>(aax (ed.mp e).1).trans e;have WV: ∀{f:AV} {v:a7},dj s.heap P N as f v->dj s.heap P N (as++[a]) f v:=λq=>q.mono (λaa aa aa e=>e) (λaa x=>x) (λaa aa aa e=>e) (λaa x=>x) up;have one: ∀b∈as++[a],b∈as∨b=a:=λb h=>(cp.mp h).imp id fx.mp
 {ns:=B.ns,keep:=B.keep,low:=B.low,gens:=B.gens,os:=B.os
  loc:=λe he=>by obtain⟨v,x,b⟩:=B.loc e he;exact⟨v,x,WV b⟩
  own:=(B.own.mono (λaa aa aa e=>e) (λaa x=>x) (λaa aa aa e=>e) (λaa x=>x) up λaa aa aa e=>e).snoc (ho.mono (λaa aa aa e=>e) (λaa x=>x) (λaa aa aa e=>e) (λaa x=>x) up λaa e=>e)
  nd:=kd.mpr ⟨B.nd,aa6 _ a,λb hb d hd q=>A.na ((q.trans (fx.mp hd))▸hb)⟩
  fresh:=λb hb=>(one b hb).elim (B.fresh b) λe=>e▸⟨A.h0,A.nl,A.nP,A.nt⟩
  pf:=B.pf,old:=B.old,qf:=B.qf,nP:=B.nP,new:=B.new,qg:=B.qg
  pre:=λi b e=>up i b (B.pre i b e)
  kU:=λx b e w=>let⟨c1,c2,c3,c4,c5,c6⟩:=B.kU x b e w;⟨c1,c2,c3,c4,λq=>(one _ q).elim c5 λq=>um (A.nc x (q▸e)) w,c6⟩
  aV:=λp hp=>let⟨c1,c2,c3,c4,c5,c6⟩:=B.aV p hp;⟨c1,c2,c3,c4,λq=>(one _ q).elim c5 (hh p hp),c6⟩
  bU:=B.bU
  bw:=λp hp=>(a5.mp hp).elim (λe=>e▸⟨a,B.own.length▸List.getElem?_concat_length,rfl⟩) λhp=>WV (B.bw p hp)}
theorem aX.toks(S:aX c st T ⟨h,g,d,t,o⟩):aX c st T ⟨h,g,d,t',o⟩:=by obtain⟨m,as,P,N,B⟩:=S;exact⟨m,as,P,N,B.toks (s:=⟨h,g,d,t,o⟩)⟩
theorem aX.dH(S:aX c st T s):aX c st T {s with toks:=t' }:=by cases s;exact S.toks
theorem az.less(S:az c st T s m as P N)(h: ∀p∈T',p∈T):az c st T' s m as P N:=⟨S.ns,S.keep,S.low,S.gens,S.os,S.loc,S.own,S.nd,S.fresh,S.pf,S.old,S.qf,S.nP,S.new,S.qg,S.pre,S.kU,S.aV,S.bU,λp hp=>S.bw p (h p hp)⟩
noncomputable def LB(l:List Nat)(n:Nat)(T:List (a7×AV)):List (a7×AV):=l.filterMap (T[·]?)++T.drop n
theorem Fi(l:List Nat)(n:Nat)(T:List (a7×AV)): ∀p∈LB l n T,p∈T:=λp h=>(cp.mp h).elim (λh=>by obtain⟨_,_,e⟩:=List.mem_filterMap.mp h;exact d3 e) ael
theorem aX.pop(S:aX c st (p::T) s):aX c st T s:=by obtain⟨m,as,P,N,B⟩:=S;exact⟨m,as,P,N,B.less λaa h=> .tail _ h⟩
theorem aX.jR(S:aX c st (p::q::T) s):aX c st T s:=S.pop.pop
theorem aX.put(S:aX c st T s)(h: ∀h P N as,dj h P N as a v):aX c st ((v,a)::T) s:=by obtain⟨m,as,P,N,B⟩:=S;exact⟨m,as,P,N,B.push (h _ _ _ _)⟩
theorem Fj(H:VR h N x v):dj h P N as (.nw x) v:=by cases x<;>exact H
theorem aX.nw(S:aX c st ((v,.n x)::T) s):aX c st ((v,.nw x)::T) s:=by obtain⟨m,as,P,N,B⟩:=S;exact⟨m,as,P,N,(B.less λaa h=> .tail _ h).push (Fj (B.bw _ (.head _)))⟩
theorem aX.int(S:aX c st T s):aX c st ((.int i t,.f (.int i))::T) s:=S.put λaa aa aa aa=>⟨t,rfl⟩
theorem aX.str(S:aX c st T s):aX c st ((.str x t,.f (.str x))::T) s:=S.put λaa aa aa aa=>⟨t,rfl⟩
theorem aX.bool(S:aX c st T s):aX c st ((.bool b,.f (.bool b))::T) s:=S.put λaa aa aa aa=>rfl
theorem aX.Fo(S:aX c st T s):aX c st ((.none,.f .none)::T) s:=S.put λaa aa aa aa=>rfl
theorem aX.val(S:aX c st T s):aX c st ((v,.f (.val v))::T) s:=S.put λaa aa aa aa=>rfl
end
inductive Got(c:Cx)(T:List (a7×AV))(Q:AV->St->Prop)(v:a7)(s' :a8):Prop
 |mk (a:AV) (aO:St) (S:aX c aO ((v,a)::T) s') (q:Q a aO)
inductive PE(c:Cx)(T:List (a7×AV))(Q:Bool->St->Prop)(b:Bool)(s' :a8):Prop
 |mk (aO:St) (S:aX c aO T s') (q:Q b aO)
inductive PF(c:Cx)(T:List (a7×AV))(Q:List AV->St->Prop)(vs:List a7)(s' :a8):Prop
 |mk (as:List AV) (aO:St) (h:vs.length=as.length) (S:aX c aO (vs.zip as++T) s') (q:Q as aO)
structure Ev(c:Cx)(e:Expr)(st:St)(Q:AV->St->Prop):Prop where
 run: ∀(T:List (a7×AV)) (s:a8),aX c st T s->dE (dC c.prog c.w) c.A (acp e c.env) (Got c T Q) (λaa aa=>False) s
def Op(c:Cx)(as:List AV)(f:List a7->Sem a7)(st:St)(Q:AV->St->Prop):Prop:=∀(T:List (a7×AV)) (vs:List a7) (s:a8),vs.length=as.length->aX c st (vs.zip as++T) s->dE (dC c.prog c.w) c.A (f vs) (Got c T Q) (λaa aa=>False) s
inductive Fl where
 |next|brk|cont
 |ret (a:AV)
def Sx (c:Cx)(st:St)(T:List (a7×AV))(f:Flow)(s:a8):Fl->Prop
 | .next=>f= .next/\aX c st T s
 | .brk=>f= .brk/\aX c st T s
 | .cont=>f= .cont/\aX c st T s
 | .ret a=> ∃v,f= .ret v/\aX c st ((v,a)::T) s
inductive JR(c:Cx)(T:List (a7×AV))(Q:Fl->St->Prop)(f:Flow)(s' :a8):Prop
 |mk (a:Fl) (aO:St) (h:Sx c aO T f s' a) (q:Q a aO)
structure bM(c:Cx)(b:List aa4)(st:St)(Q:Fl->St->Prop):Prop where
 run: ∀(T:List (a7×AV)) (s:a8),aX c st T s->dE (dC c.prog c.w) c.A (agv b c.env) (JR c T Q) (λaa aa=>False) s
structure Ex(c:Cx)(b:aa4)(st:St)(Q:Fl->St->Prop):Prop where
 run: ∀(T:List (a7×AV)) (s:a8),aX c st T s->dE (dC c.prog c.w) c.A (exec b c.env) (JR c T Q) (λaa aa=>False) s
def tG(c:Cx)(e:Expr)(st:St)(Q:Bool->St->Prop):Prop:=∀(T:List (a7×AV)) (s:a8),aX c st T s->dE (dC c.prog c.w) c.A (abF e c.env (acp e c.env)) (PE c T Q) (λaa aa=>False) s
def Fp(c:Cx)(r:List aa4)(Q:Fl->St->Prop):Fl->St->Prop:=λf aO=>match f with| .next=>bM c r aO Q|f=>Q f aO
def YG(c:Cx)(b r:List aa4)(Q:Fl->St->Prop):Bool->St->Prop:=λx aO=>if x=true then bM c b aO Q else bM c r aO Q
def TH(Q:Fl->St->Prop):AV->St->Prop:=λa aO=>Q (.ret a) aO
def YH(c:Cx)(f:List a7->Sem a7)(Q:AV->St->Prop)(a:AV):AV->St->Prop:=λb bD=>Op c [b,a] f bD Q
def MR(c:Cx)(r:Expr)(f:List a7->Sem a7)(Q:AV->St->Prop):AV->St->Prop:=λa bl=>Ev c r bl (YH c f Q a)
section
variable{c:Cx}{st:St}
theorem aj (h:Q .next st):bM c [] st Q:= .mk λT s S=>ax ⟨.next,st,⟨rfl,S⟩,h⟩
theorem ah(h:Ex c b st (Fp c r Q)):bM c (b::r) st Q:= .mk λT s S=>by
 refine aaI (wpS (h.run T s S) (λf s' z=>?_));obtain⟨a,aO,hf,hq⟩:=z;cases a with
 |next=>obtain⟨rfl,S'⟩:=hf;exact bM.run hq T s' S'
 |brk=>obtain⟨rfl,S'⟩:=hf;exact⟨.brk,aO,⟨rfl,S'⟩,hq⟩
 |cont=>obtain⟨rfl,S'⟩:=hf;exact⟨.cont,aO,⟨rfl,S'⟩,hq⟩
 |ret a=>obtain⟨v,rfl,S'⟩:=hf;exact⟨.ret a,aO,⟨v,rfl,S'⟩,hq⟩
theorem aK(h:tG c t st (YG c b r Q)):Ex c (.If t b r pos) st Q:= .mk λT s S=>by
 refine wpAny_If (wpS (h T s S) (λx s' z=>?_));obtain⟨aO,S',hq⟩:=z;cases x with
 |true=>exact bM.run hq T s' S'
 |false=>exact bM.run hq T s' S'
theorem aF(h:Ev c e st (TH Q)):Ex c (.Return (some e) pos) st Q:= .mk λT s S=>afx (wpS (h.run T s S) (λv aa z=>by obtain⟨a,aO,S',q⟩:=z;exact⟨.ret a,aO,⟨v,rfl,S'⟩,q⟩))
theorem Ev.mono(h:Ev c e st Q)(k: ∀a aO,Q a aO->Q' a aO):Ev c e st Q' := .mk λT s S=>wpS (h.run T s S) (λaa aa z=>by obtain⟨a,aO,S',q⟩:=z;exact⟨a,aO,S',k _ _ q⟩)
theorem aC(h:Q (.f (.int i)) st):Ev c (.Constant (.int i) k pos) st Q:= .mk λaa aa S=>wpAny_Constant_int ⟨_,_,S.dH.int,h⟩
theorem bz(h:Q (.f (.str x)) st):Ev c (.Constant (.str x) k pos) st Q:= .mk λaa aa S=>ae0 ⟨_,_,S.dH.str,h⟩
theorem jh(h:Q (.f .none) st):Ev c (.Constant .none k pos) st Q:= .mk λaa aa S=>aeI ⟨_,_,S.Fo,h⟩
theorem qx(h:Q (.f (.bool b)) st):Ev c (.Constant (.bool b) k pos) st Q:= .mk λaa aa S=>wpAny_Constant_bool ⟨_,_,S.bool,h⟩
theorem au(h:Ev c l st (MR c r (λvs=>match vs with| [y,x]=>FX op x y|_=> .raise .none) Q)):Ev c (.BinOp l op r pos) st Q:= .mk λT s S=>by refine wpAny_BinOp (wpS (h.run T s S) (λx s1 z=>?_));obtain⟨a,bl,S1,h1⟩:=z;refine wpS (h1.run _ s1 S1) (λy s2 z=>?_);obtain⟨b,bD,S2,h2⟩:=z;exact h2 T [y,x] s2 rfl S2
theorem eK(h:Ev c l st (MR c r (λvs=>match vs with| [y,x]=>md op x y|_=> .raise .none) Q))(hm:behindInMarks op r=false:=by rfl):Ev c (.Compare l [op] [r] pos) st Q:= .mk λT s S=>by refine wpAny_Compare1 (wpS (h.run T s S) (λx s1 z=>?_)) hm;obtain⟨a,bl,S1,h1⟩:=z;refine wpS (h1.run _ s1 S1) (λy s2 z=>?_);obtain⟨b,bD,S2,h2⟩:=z;exact h2 T [y,x] s2 rfl S2
end
structure Ok(c:Cx):Prop where
 cO:c.K.In c.h0
 lim:c.h0.NoLimit
 hh:c.A.handled=none
 kind:c.env.scope.kind= .function
 inter:rk c.env=false
 sz: ∀a∈c.tt,a<c.h0.objs.size
 cin: ∀x y a,c.env.cells.lookup x=some a->c.env.cells.lookup y=some a->c.cw x=true->c.cw y=true->x=y
def LC(Q:Fl->St->Prop):AV->St->Prop:=λaa aO=>Q .next aO
section
variable{c:Cx}{st:St}{T:List (a7×AV)}{s:a8}
theorem aX.cO (O:Ok c)(S:aX c st T s):c.K.In s.heap:=let⟨_,_,_,_,B⟩:=S;O.cO.keeps B.keep
theorem aX.sub(S:aX c st T s)(h: ∀p∈T',p∈T):aX c st T' s:=let⟨m,as,P,N,B⟩:=S;⟨m,as,P,N,B.less h⟩
theorem aX.pick(S:aX c st T s)(l:List Nat)(n:Nat):aX c st (LB l n T) s:=S.sub (Fi l n T)
theorem aX.loc(S:aX c st T s)(h: ∀e∈l,e∈st.loc):aX c ⟨l,st.own⟩ T s:=let⟨m,as,P,N,B⟩:=S;⟨m,as,P,N,⟨B.ns,B.keep,B.low,B.gens,B.os,λe he=>B.loc e (h e he),B.own,B.nd,B.fresh,B.pf,B.old,B.qf,B.nP,B.new,B.qg,B.pre,B.kU,B.aV,B.bU,B.bw⟩⟩
theorem af(O:Ok c)(i:Nat)(hi:st.loc[i]?=some (x,a))(h:Q a st)(hl:c.env.kindOf x=some .local:=by rfl)(hd:(x==("__debug__" :Str))=false:=by kernel_rfl):
  Ev c (.Name x pos) st Q:= .mk λT s S=>by
 obtain⟨m,as,P,N,B⟩:=S;obtain⟨v,hv,r⟩:=B.loc _ (d3 hi);exact Bz (y8 O.kind hl B.ns (hv.local hl) ⟨a,st,⟨m,as,P,N,⟨B.ns,B.keep,B.low,B.gens,B.os,B.loc,B.own,B.nd,B.fresh,B.pf,B.old,B.qf,B.nP,B.new,B.qg,B.pre,B.kU,B.aV,B.bU,λp hp=>by
  rcases a5.mp hp with rfl|hp
  ·exact r
  ·exact B.bw p hp⟩⟩,h⟩) hd
theorem ak(O:Ok c)(i:Nat)(hi:st.loc[i]?=some (x,a))(h:Q a st)(hl:c.env.kindOf x=some .cell:=by rfl)(hd:(x==("__debug__" :Str))=false:=by kernel_rfl):
  Ev c (.Name x pos) st Q:= .mk λT s S=>by
 obtain⟨m,as,P,N,B⟩:=S;obtain⟨v,hv,r⟩:=B.loc _ (d3 hi);unfold bC at hv;rw[hl]at hv;refine nn λhN=>?_;obtain⟨b,e,hc,_⟩:=hv;refine hN ?_;exact Bz (wpAny_loadName_cell O.kind hl e hc ⟨a,st,⟨m,as,P,N,⟨B.ns,B.keep,B.low,B.gens,B.os,B.loc,B.own,B.nd,B.fresh,B.pf,B.old,B.qf,B.nP,B.new,B.qg,B.pre,B.kU,B.aV,B.bU,λp hp=>by
  rcases a5.mp hp with rfl|hp
  ·exact r
  ·exact B.bw p hp⟩⟩,h⟩) hd
theorem qy(O:Ok c)(i:Nat)(hi:st.loc[i]?=some (x,a))(h:Q a st)(hl:c.env.kindOf x=some .free:=by rfl)(hn:(x==("__classdict__" :Str))=false:=by kernel_rfl)(hd:(x==("__debug__" :Str))=false:=by kernel_rfl):
  Ev c (.Name x pos) st Q:= .mk λT s S=>by
 obtain⟨m,as,P,N,B⟩:=S;obtain⟨v,hv,r⟩:=B.loc _ (d3 hi);unfold bC at hv;rw[hl]at hv;obtain⟨b,e,hc,_⟩:=hv;exact Bz (wpAny_loadName_free O.kind hl e hc (hn:=hn) ⟨a,st,⟨m,as,P,N,⟨B.ns,B.keep,B.low,B.gens,B.os,B.loc,B.own,B.nd,B.fresh,B.pf,B.old,B.qf,B.nP,B.new,B.qg,B.pre,B.kU,B.aV,B.bU,λp hp=>by
  rcases a5.mp hp with rfl|hp
  ·exact r
  ·exact B.bw p hp⟩⟩,h⟩) hd
theorem bV(O:Ok c)(e:ag7 c.K ⟨c.prog,c.w.params⟩ (abC c.env x)=some v)(h:Q (.f (.val v)) st)(hd:(x==("__debug__" :Str))=false:=by kernel_rfl):
  Ev c (.Name x pos) st Q:= .mk λaa aa S=>
 Bz ((Hc (M:=dC c.prog c.w) (S.cO O) e).here ⟨_,st,S.val,h⟩) hd
theorem aX.store(S:aX c st ((v,a)::T) s)(hl:c.env.kindOf x=some .local)(h:(l.all λe=>decide (e.1≠x))=true)(hs: ∀e∈l,e∈st.loc)(hk:c.env.scope.kind= .function):
  dE (dC c.prog c.w) c.A (agw c.env x v) (λaa s' =>aX c ⟨(x,a)::l,st.own⟩ T s') (λaa aa=>False) s:=by
 obtain⟨m,as,P,N,B⟩:=S;refine adL hl B.ns (λh' hn B8=>⟨λy=>if y=x then some v else m y,as,P,N,?_⟩) (by rw[hk];rfl);have hx:bC c h' (λy=>if y=x then some v else m y) x v:=by unfold bC;rw[hl];exact if_pos rfl
 have C:zE c P (· =c.env.locals) s.heap h' := .of (λaa e=>e▸B.low.1.1) (λaa e p=>(B.pf _ p).1 e) (λaa e=>e▸B.qg) λb o hb e=>(B8.2 b hb).trans e;refine az.JN (s' :={s with heap:=h',toks:=s.toks+1}) (H:=c.aV) (G:=c.g0) (l:=(x,a)::l) B C B.gens rfl hn (Iy.mpr ⟨⟨v,hx,B.Sw (s' :={s with heap:=h',toks:=s.toks+1}) C (B.bw _ (.head _))⟩,λe he=>?_⟩) (B.TG (s' :={s with heap:=h',toks:=s.toks+1}) C λa h=>(B.fresh a h).2.1) (λy a e w=>B.JO (s' :={s with heap:=h',toks:=s.toks+1}) C e w (B.kU y a e w).2.2.1) (λp hp=>B.MQ (s' :={s with heap:=h',toks:=s.toks+1}) C hp (B.cR hp).nl) B.bU λaa h=> .tail _ h;obtain⟨u,hu,r⟩:=B.JP (s' :={s with heap:=h',toks:=s.toks+1}) C (hs e he) λa e' w=>(B.kU _ a e' w).2.2.1;exact⟨u,hu.ns (if_neg (of_decide_eq_true (d6.mp h e he))),r⟩
theorem aX.MT(O:Ok c)(S:aX c st ((v,a)::T) s)(hl:c.env.kindOf x=some .cell)(hb:c.env.cells.lookup x=some b)(hw:c.cw x=true)(h:(l.all λe=>decide (e.1≠x))=true)(hs: ∀e∈l,e∈st.loc):
  dE (dC c.prog c.w) c.A (agw c.env x v) (λaa s' =>aX c ⟨(x,a)::l,st.own⟩ T s') (λaa aa=>False) s:=nn λhN=>by
 obtain⟨m,as,P,N,B⟩:=S;obtain⟨⟨v0,hc⟩,b1,b2,b3,b4,b5⟩:=B.kU x b hb hw;refine hN (wpAny_storeName_cell O.kind hl hb hc λh' hn B8=>⟨m,as,P,N,?_⟩);have hx:bC c h' m x v:=by unfold bC;rw[hl];exact⟨b,hb,hn,.inl hw⟩
 have C:zE c P (· =b) s.heap h' := .of (λaa e=>e▸b1) (λaa e=>e▸b3) (λaa e=>e▸b5) λa o ha e=>(B8.2 a ha).trans e;refine az.JN (s' :={s with heap:=h' }) (H:=c.aV) (G:=c.g0) (l:=(x,a)::l) B C B.gens rfl (B.ns.at' λo e=>C.k _ o B.qg (Nw b2) e) (Iy.mpr ⟨⟨v,hx,B.Sw (s' :={s with heap:=h' }) C (B.bw _ (.head _))⟩,λe he=>?_⟩) (B.TG (s' :={s with heap:=h' }) C λa h e=>b4 (e▸h)) (λy a e w=>?_)
  (λp hp=>B.MQ (s' :={s with heap:=h' }) C hp λe=>um ((B.cR hp).nc x (e▸hb)) hw) B.bU λaa h=> .tail _ h
 ·exact B.JP (s' :={s with heap:=h' }) C (hs e he) λa' e' w z=>of_decide_eq_true (d6.mp h e he) (O.cin _ _ a' e' (z▸hb) w hw)
 ·by_cases q:a=b
  ·exact⟨_,q▸hn⟩
  ·exact B.JO (s' :={s with heap:=h' }) C e w q
theorem dR(O:Ok c)(h:Ev c e st (LC Q))(JS:ab7 e none pos.line c.env=pure false:=by rfl):Ex c (.Expr e pos) st Q:= .mk λT s S=>wpAny_Expr_any (wpS (h.run T s S) (λaa s1 z=>by obtain⟨_,bl,S1,q⟩:=z;exact⟨.next,bl,⟨rfl,S1.pop⟩,q⟩)) O.inter JS
theorem qU{f:a7->a7->Sem a7}
  (h: ∀T x y s,aX c st ((y,b)::(x,a)::T) s->dE (dC c.prog c.w) c.A (f x y) (Got c T Q) (λaa aa=>False) s):
  Op c [b,a] (λvs=>match vs with| [y,x]=>f x y|_=> .raise .none) st Q:=by
 intro T vs s hl S;obtain⟨y,x,rfl⟩:=E1 hl;exact h T x y s S
theorem aX.jZ(S:aX c st ((v,.f (.int i))::T) s): ∃t,v= .int i t:=by obtain⟨_,_,_,_,B⟩:=S;exact B.bw _ (.head _)
theorem aX.str1(S:aX c st ((v,.f (.str x))::T) s): ∃t,v= .str x t:=by obtain⟨_,_,_,_,B⟩:=S;exact B.bw _ (.head _)
theorem aX.B9(S:aX c st ((v,.f (.bool b))::T) s):v= .bool b:=by obtain⟨_,_,_,_,B⟩:=S;exact B.bw _ (.head _)
theorem aX.uo(S:aX c st ((v,.f .none)::T) s):v= .none:=by obtain⟨_,_,_,_,B⟩:=S;exact B.bw _ (.head _)
theorem aX.TJ(S:aX c st ((v,.f (.val u))::T) s):v=u:=by obtain⟨_,_,_,_,B⟩:=S;exact B.bw _ (.head _)
theorem ji{f:a7->a7->Sem a7}(h:Q (.f (.int r)) st)
  (hf: ∀(t u:Tok) (s:a8) (R:a7->a8->Prop),(∀t',R (.int r t') {s with toks:=s.toks+1})->dE (dC c.prog c.w) c.A (f (.int a t) (.int b u)) R (λaa aa=>False) s):
  Op c [.f (.int b),.f (.int a)] (λvs=>match vs with| [y,x]=>f x y|_=> .raise .none) st Q:=
 qU λT x y s S=>by obtain⟨t,rfl⟩:=S.jZ;obtain⟨u,TL⟩:=S.pop.jZ;rw[TL];exact hf u t s _ λt' =>⟨_,st,S.jR.dH.int,h⟩
theorem f6(h:Q (.f (.int (a+b))) st):Op c [.f (.int b),.f (.int a)] (λvs=>match vs with| [y,x]=>FX .Add x y|_=> .raise .none) st Q:=ji h λaa aa aa aa q=>add_int (q _)
theorem oO(h:Q (.f (.int (a-b))) st):Op c [.f (.int b),.f (.int a)] (λvs=>match vs with| [y,x]=>FX .Sub x y|_=> .raise .none) st Q:=ji h λaa aa aa aa q=>sub_int (q _)
theorem qV(hb:b≠0)(h:Q (.f (.int (a.fmod b))) st):Op c [.f (.int b),.f (.int a)] (λvs=>match vs with| [y,x]=>FX .Mod x y|_=> .raise .none) st Q:=ji h λaa aa aa aa q=>mod_int' hb (q _)
theorem eX(h:Q (.f (.bool (a==b))) st):Op c [.f (.int b),.f (.int a)] (λvs=>match vs with| [y,x]=>md .Eq x y|_=> .raise .none) st Q:=qU λT x y s S=>by obtain⟨t,rfl⟩:=S.jZ;obtain⟨u,PG⟩:=S.pop.jZ;rw[PG];exact eq_int ⟨_,st,S.jR.bool,h⟩
end
structure Ext(tt:List dq)(s s' :a8):Prop where
 keep:gB tt s.heap s'.heap
 gens: ∃tl:List de,s'.gens=s.gens++tl.toArray/\ ∀y∈tl,y.bare=true
 os:s'.os=s.os
structure Good(K:abE)(tt:List dq)(n:Nat)(A:ka)(s:a8):Prop where
 hh:A.handled=none
 dp:A.depth+4*n<ph
 un:A.units+40*n<cLine
 cO:K.In s.heap
 kt: ∀a o,K.lookup a=some o->a∉tt
 lim:s.heap.NoLimit
 st:aaj∉tt
 sz: ∀a∈tt,a<s.heap.objs.size
 tab: ∀a∈tt,dm s.heap a
abbrev fC(tt:List dq)(h:wq):dq->Prop:=λa=>h.get? a=none/\a∉tt
def Spec(prog:d5)(w:fA)(K:abE)(tt:List dq)(n:Nat)(f:a7)(args:List FV)(kw:List (Str×FV))(R:FV->Prop):Prop:=
 ∀(A:ka) (s:a8) (vs ks:List a7) (R' :abS->a8->Prop),Good K tt n A s->eW s.heap (· ∉tt) args vs->eW s.heap (· ∉tt) (kw.map (·.2)) ks->
  (∀v s' r,R r->Ext tt s s' ->VR s'.heap (fC tt s.heap) r v->R' (.ok (.ret v)) s')->
  tJ (dC prog w) A (.call f ⟨vs,(kw.map (·.1)).zip ks⟩) R' s
theorem Spec.call{prog:d5}{w:fA}{K:abE}{tt:List dq}{n:Nat}{f:a7}{args:List FV}{kw:List (Str×FV)}{R:FV->Prop}(H:Spec prog w K tt n f args kw R)(A:ka)(s:a8)(vs ks:List a7)(Q:a7->a8->Prop)
  (G:Good K tt n A s)(hv:eW s.heap (· ∉tt) args vs)(hk:eW s.heap (· ∉tt) (kw.map (·.2)) ks)(h: ∀v s' r,R r->Ext tt s s' ->VR s'.heap (fC tt s.heap) r v->Q v s'):
  dE (dC prog w) A (ais f vs ((kw.map (·.1)).zip ks)) Q (λaa aa=>False) s:=abt (H A s vs ks _ G hv hk h)
theorem Spec.mono{prog:d5}{w:fA}{K:abE}{tt:List dq}{n n' :Nat}{f:a7}{args:List FV}{kw:List (Str×FV)}{R R' :FV->Prop}(H:Spec prog w K tt n f args kw R)(hn:n≤n')(hR: ∀r,R r->R' r):
  Spec prog w K tt n' f args kw R' :=λA s vs ks Q G a b q=>H A s vs ks Q ⟨G.hh,eT G.dp hn,eT G.un hn,G.cO,G.kt,G.lim,G.st,G.sz,G.tab⟩ a b λv s' r hr=>q v s' r (hR r hr)
mutual
theorem VR.there{h:wq}{P:dq->Prop}: ∀{f:FV} {v:a7},VR h P f v->VR h (λa=>P a/\(h.get? a).isSome) f v
 | .none,_,H=>H
 | .bool _,_,H=>H
 | .int _,_,H=>H
 | .str _,_,H=>H
 | .val _,_,H=>H
 | .any,_,H=>H
 | .m8 _ _,_,bA=>by obtain⟨x,t,u,j,e,px,g⟩:=bA;exact⟨x,t,u,j,e,⟨px,by rw[g];rfl⟩,g⟩
 | .obj _,_,bA=>by obtain⟨a,e,pa,g⟩:=bA;exact⟨a,e,⟨pa,by rw[g];rfl⟩,g⟩
 | .iP _,_,bA=>by obtain⟨a,vs,n,e,pa,g,r⟩:=bA;exact⟨a,vs,n,e,⟨pa,by rw[g];rfl⟩,g,BX.there r⟩
 | .list _,_,bA=>by obtain⟨a,vs,n,e,pa,g,r⟩:=bA;exact⟨a,vs,n,e,⟨pa,by rw[g];rfl⟩,g,eW.there r⟩
 | .tuple _,_,bA=>by obtain⟨a,vs,n,e,pa,g,r⟩:=bA;exact⟨a,vs,n,e,⟨pa,by rw[g];rfl⟩,g,eW.there r⟩
 | .aW _ _,_,bA=>by obtain⟨a,o,e,pa,g,r⟩:=bA;exact⟨a,o,e,⟨pa,by rw[g];rfl⟩,g,r⟩
 | .inst _ _,_,bA=>by obtain⟨x,d,m,e,px,pd,gx,gd,r,ex⟩:=bA;exact⟨x,d,m,e,⟨px,by rw[gx];rfl⟩,⟨pd,by obtain⟨o,_,_,q,_⟩:=gd;rw[q];rfl⟩,gx,gd,vL.there r,ex⟩
theorem eW.there{h:wq}{P:dq->Prop}: ∀{f:List FV} {v:List a7},eW h P f v->eW h (λa=>P a/\(h.get? a).isSome) f v
 | [],_,H=>H
 |_::_,_,bA=>by obtain⟨v,r,e,a,b⟩:=bA;exact⟨v,r,e,VR.there a,eW.there b⟩
theorem vL.there{h:wq}{P:dq->Prop}: ∀{f:List (Str×FV)} {m:Str->Option a7},vL h P f m->vL h (λa=>P a/\(h.get? a).isSome) f m
 | [],_,_=>trivial
 |(_,_)::_,_,bA=>by obtain⟨⟨v,e,a⟩,b⟩:=bA;exact⟨⟨v,e,VR.there a⟩,vL.there b⟩
theorem BX.there{h:wq}{P:dq->Prop}: ∀{f:List (Int×FV)} {es:List Ki},BX h P f es->BX h (λa=>P a/\(h.get? a).isSome) f es
 | [],_,H=>H
 |(_,_)::_,_,bA=>by obtain⟨e,r,q,a,b,c,d⟩:=bA;exact⟨e,r,q,a,b,VR.there c,BX.there d⟩
end
inductive fR:List (FV×AV)->List (Int×FV)->Prop
 |nil:fR [] []
 |f (k:Int) (x:FV) {l:List (FV×AV)} {xs:List (Int×FV)}:fR l xs->fR ((.int k,.f x)::l) ((k,x)::xs)
 |n (k:Int) (x:FV) {l:List (FV×AV)} {xs:List (Int×FV)}:fR l xs->fR ((.int k,.n x)::l) ((k,x)::xs)
mutual
inductive gq(b:Bool)(own:List AO):AV->FV->Prop
 |f (x:FV) (h:(b||x.flat)=true:=by rfl):gq b own (.f x) x
 |n (x:FV):gq b own (.n x) x
 |any (a:AV):gq b own a .any
 |list {i:Nat} {l:List AV} {xs:List FV}:own[i]?=some (.list l)->mF b own l xs->gq b own (.own i) (.list xs)
 |tuple {i:Nat} {l:List AV} {xs:List FV}:own[i]?=some (.tuple l)->mF b own l xs->gq b own (.own i) (.tuple xs)
 |aW {i:Nat} {u:Bool} {l:Nat}:own[i]?=some (.aW u l)->gq b own (.own i) (.aW u l)
 |inst {i j:Nat} {C:dq} {l:List (Str×AV)} {k:Nat} {xs:List (Str×FV)}:own[i]?=some (.inst C j)->own[j]?=some (.attrs l k)->qW b own l xs->gq b own (.own i) (.inst C xs)
 |iP {i:Nat} {l:List (FV×AV)} {xs:List (Int×FV)}:own[i]?=some (.dict l)->fR l xs->(h:b=true:=by rfl)->gq b own (.own i) (.iP xs)
inductive mF(b:Bool)(own:List AO):List AV->List FV->Prop
 |nil:mF b own [] []
 |cons {a:AV} {x:FV} {l:List AV} {xs:List FV}:gq b own a x->mF b own l xs->mF b own (a::l) (x::xs)
inductive qW(b:Bool)(own:List AO):List (Str×AV)->List (Str×FV)->Prop
 |Ai:qW b own [] []
 |eY {k:Str} {a:AV} {x:FV} {l:List (Str×AV)} {xs:List (Str×FV)}:gq b own a x->qW b own l xs->qW b own ((k,a)::l) ((k,x)::xs)
end
noncomputable abbrev Snap:=gq true
noncomputable abbrev fD:=mF true
noncomputable abbrev jE:=gq false
noncomputable abbrev j0:=mF false
noncomputable abbrev Fq:=qW false
section
variable{w:fA}{h:wq}{P N U:dq->Prop}{as:List dq}
theorem fR.vr (hP: ∀a,P a->U a)(hN: ∀a,N a->U a){l:List (FV×AV)}{xs:List (Int×FV)}(H:fR l xs): ∀{es:List Ki},jQ w h P N as l es->BX h U xs es:=by
 induction H with
 |nil=>exact λr=>r
 |f k x _ ih=>exact λ⟨e,r,q,hk,hv,hr⟩=>⟨e,r,q,hk.1,hk.2,VR.mono (λaa aa aa e=>e) hP hv,ih hr⟩
 |n k x _ ih=>exact λ⟨e,r,q,hk,hv,hr⟩=>⟨e,r,q,hk.1,hk.2,VR.mono (λaa aa aa e=>e) hN hv,ih hr⟩
set_option tactic.hygienic true in
theorem gq.vr(H:gq b own a x)(O:jT w h P N as own as)(hP:b=true-> ∀a,P a->U a)(hN: ∀a,N a->U a)(hU: ∀a∈as,U a): ∀v:a7,dj h P N as a v->VR h U x v:=by
 have at_: ∀{i:Nat} {o:AO},own[i]?=some o-> ∀{a:dq},as[i]?=some a->U a/\OR w h P N as o a:=λhi a ha=>by obtain⟨b,hb,r⟩:=O.get hi;rw[ha]at hb;exact⟨hU a (d3 ha),Option.some.inj hb▸r⟩
 induction H using gq.rec (motive_2:=λl xs aa=> ∀vs:List a7,bu h P N as l vs->eW h U xs vs)
  (motive_3:=λl xs aa=>l.map (·.1)=xs.map (·.1)/\ ∀m' :Str->Option a7,iR h P N as l m' ->vL h U xs m')with
 |f x hx=>
  intro _ r;cases b
  ·exact VR.vM hx r
  ·exact VR.mono (λaa aa aa e=>e) (hP rfl) r
 |n x=>exact λaa r=>VR.mono (λaa aa aa e=>e) hN r
 |any a=>exact λaa aa=>trivial
 |list hi _ ih=>exact λv ⟨a,ha,e⟩=>by obtain⟨u,vs,ep,g,r⟩:=at_ hi ha;exact⟨a,vs,ep,e,u,g,ih _ r⟩
 |tuple hi _ ih=>exact λv ⟨a,ha,e⟩=>by obtain⟨u,vs,ep,g,r⟩:=at_ hi ha;exact⟨a,vs,ep,e,u,g,ih _ r⟩
 |aW hi=>exact λv ⟨a,ha,e⟩=>by obtain⟨u,o,g,r⟩:=at_ hi ha;exact⟨a,o,e,u,g,r⟩
 |inst hi hj _ ih=>intro v z;obtain⟨a,ha,e⟩:=z;obtain⟨u,d,hd,g⟩:=at_ hi ha;obtain⟨u2,m',gm,r,ex⟩:=at_ hj hd;exact⟨a,d,m',e,u,u2,g,gm.ns,ih.2 _ r,ih.1▸ex⟩
 |iP hi hl hb=>exact λv ⟨a,ha,e⟩=>by obtain⟨u,es,ep,g,r⟩:=at_ hi ha;exact⟨a,es,ep,e,u,g,hl.vr (hP hb) hN r⟩
 |nil=>assumption
 |cons _ _ PI O6=>rename_i h;obtain⟨v,r,e,a,b⟩:=h;exact⟨v,r,e,PI _ a,O6 _ b⟩
 |Ai=>exact⟨rfl,λaa aa=>trivial⟩
 |eY _ _ PI O6=>exact⟨by rw[eA];rw[eA];rw[O6.1];rfl,λm' h=>by obtain⟨⟨v,e,a⟩,b⟩:=h;exact⟨⟨v,e,PI _ a⟩,O6.2 _ b⟩⟩
end
section
variable{c:Cx}{st:St}{T:List (a7×AV)}{s:a8}{m:Str->Option a7}{as:List dq}{P N:dq->Prop}
theorem az.snap (S:az c st T s m as P N)(H:Snap st.own a x): ∀v:a7,dj s.heap P N as a v->VR s.heap (λa=>a∉c.tt) x v:=H.vr S.own (λaa aa p=>S.known p) (λa p=>S.known (S.nP a p)) λa ha=>(S.fresh a ha).2.2.2
theorem az.Ft(S:az c st T s m as P N)(H:jE st.own a x): ∀v:a7,dj s.heap P N as a v->VR s.heap (λa=>N a∨a∈as) x v:=H.vr S.own (λh=>nomatch h) (λaa p=> .inl p) λaa ha=> .inr ha
theorem az.Ca(S:az c st T s m as P N)(H:fD st.own l xs)(hl:vs.length=l.length)(hT: ∀p∈vs.zip l,p∈T):eW s.heap (λa=>a∉c.tt) xs vs:=by
 induction l generalizing xs vs with
 |nil=>cases H;exact nr hl
 |cons a l ih=>
  cases H with
  |cons h r=>
   cases vs with
   |nil=>cases hl
   |cons v vs=>exact⟨v,vs,rfl,S.snap h _ (S.bw _ (hT _ (.head _))),ih r (Nat.succ.inj hl) λp hp=>hT p (.tail _ hp)⟩
end
structure bQ(c:Cx)(n:Nat):Prop extends Ok c where
 dp:c.A.depth+4*n<ph
 un:c.A.units+40*n<cLine
 kt: ∀a o,c.K.lookup a=some o->a∉c.tt
 st:aaj∉c.tt
section
variable{c:Cx}{st:St}{T:List (a7×AV)}{s:a8}
theorem aX.good {n:Nat}(O:bQ c n)(S:aX c st T s){A:ka}(hh:A.handled=none)(hd:A.depth≤c.A.depth+3)(hu:A.units≤c.A.units+39){n' :Nat}(hn:n' +1≤n):Good c.K c.tt n' A s where
 hh:=hh
 dp:=vK O.dp hd (by decide) hn
 un:=vK O.un hu (by decide) hn
 cO:=S.cO O.toOk
 kt:=O.kt
 lim:=let⟨_,_,_,_,B⟩:=S;O.lim.keeps B.keep
 st:=O.st
 sz:=λa ha=>let⟨_,_,_,_,B⟩:=S;by obtain⟨_,_,e,_,_⟩:=B.low.2 a ha;exact d4 e
 tab:=let⟨_,_,_,_,B⟩:=S;B.low.2
theorem az.LD(B:az c st T s m as P N){F0:dq->Prop}(x:Ext c.tt s s')(hF: ∀a,F0 a->fC c.tt s.heap a)(hr:VR s'.heap (λa=>N a∨F0 a) r v):E2 λP' N' =>az c st ((v,.n r)::T) s' m as P' N' /\ ∀a,P' a->P a∨F0 a:=by have B2:=(B.grow x.keep x.gens x.os).widen (F:=λa=>F0 a/\(s'.heap.get? a).isSome) λa h=>⟨h.2,{B.cE (hF a h.1).1 (hF a h.1).2 with nP:=id},λp hp=>B.jg (hF a h.1).1 hp⟩;refine⟨_,_,az.push B2 (a:= .n r) (VR.mono (λaa aa aa e=>e) (λa q=>q.1.imp id λz=>⟨z,q.2⟩) hr.there),λa h=>h.imp id λq=>q.1⟩
theorem az.jk(B:az c st T s m as P N)(x:Ext c.tt s s')(hr:VR s'.heap (λa=>N a∨fC c.tt s.heap a) r v):aX c st ((v,.n r)::T) s' :=by obtain⟨P',N',B',_⟩:=B.LD x (λaa h=>h) hr;exact⟨m,as,P',N',B'⟩
theorem aX.jk(S:aX c st T s)(x:Ext c.tt s s')(hr:VR s'.heap (fC c.tt s.heap) r v):aX c st ((v,.n r)::T) s' :=let⟨_,_,_,_,B⟩:=S;B.jk x (VR.mono (λaa aa aa e=>e) (λaa q=> .inr q) hr)
end
def PJ(Q:List AV->St->Prop)(a:AV):List AV->St->Prop:=λas bD=>Q (a::as) bD
def TM(k:St->(List AV->St->Prop)->Prop)(Q:List AV->St->Prop):AV->St->Prop:=λa bl=>k bl (PJ Q a)
def uq(c:Cx):List Expr->St->(List AV->St->Prop)->Prop
 | [],st,Q=>Q [] st
 |e::r,st,Q=>Ev c e st (TM (uq c r) Q)
noncomputable def plainArg(e:Expr):Bool:=!isStarred e
section
variable{c:Cx}{st:St}
theorem gV (h:plainArg e=true):Tx (e::r) env=(false,acp e env)::Tx r env:=by cases e<;>first|rfl|exact(um rfl h).elim
theorem dJ: ∀{es:List Expr} {st:St} {Q:List AV->St->Prop},uq c es st Q->es.all plainArg=true-> ∀(pos:Pos) (T:List (a7×AV)) (s:a8),aX c st T s->
  dE (dC c.prog c.w) c.A (spliced (adv pos (Tx es c.env))) (PF c T Q) (λaa aa=>False) s:=by
 intro lz;induction lz with
 |nil=>intro st Q H _ _ T s S;exact adM ⟨[],st,rfl,S,H⟩
 |cons e r ih=>
  intro st Q H hp pos T s S;rw[xp,dk]at hp;refine adN (wpS (Ev.run H T s S) (λv s1 z=>?_)) (gV hp.1);obtain⟨a,bl,S1,h1⟩:=z;refine wpS (ih h1 hp.2 pos _ s1 S1) (λvs s2 z=>?_);obtain⟨as,bD,hl,S2,q⟩:=z;refine⟨a::as,bD,by simp[hl],S2.sub λp hp=>?_,q⟩;rcases a5.mp hp with rfl|hp
  ·exact ba _ (.head _)
  ·rcases cp.mp hp with hp|hp
   ·exact bp _ hp
   ·exact ba _ (.tail _ hp)
noncomputable def kwOk(kws:List agx):Bool:=kws.all λk=>k.arg.isSome
theorem Aj: ∀{kws:List agx} {st:St} {Q:List AV->St->Prop},uq c (kws.map (·.value)) st Q-> ∀(_:kwOk kws=true) (pos:Pos) (T:List (a7×AV)) (s:a8),aX c st T s->
  dE (dC c.prog c.w) c.A (evalAll ((Kb pos (ts kws c.env)).map (·.2))) (PF c T Q) (λaa aa=>False) s
 | [],st,Q,H,_,_,T,s,S=>ae1 ⟨[],st,rfl,S,H⟩
 |⟨some _,value,_⟩::r,st,Q,H,hk,pos,T,s,S=>by
  refine kwAll_cons (wpS (Ev.run H T s S) (λv s1 z=>?_));obtain⟨a,bl,S1,h1⟩:=z;refine wpS (Aj h1 hk pos _ s1 S1) (λvs s2 z=>?_);obtain⟨as,bD,hl,S2,q⟩:=z;refine⟨a::as,bD,by simp[hl],S2.sub λp hp=>?_,q⟩;rcases a5.mp hp with rfl|hp
  ·exact ba _ (.head _)
  ·rcases cp.mp hp with hp|hp
   ·exact bp _ hp
   ·exact ba _ (.tail _ hp)
 |⟨none,_,_⟩::_,_,_,_,hk,_,_,_,_=>by simp[kwOk]at hk
theorem j5: ∀(kws:List agx) (env:Env) (pos:Pos),kwOk kws=true->(Kb pos (ts kws env)).filterMap (·.1)=kws.filterMap (·.arg)/\(Kb pos (ts kws env)).all (·.1.isSome)=true/\(Kb pos (ts kws env)).any (·.1.isNone)=false
 | [],_,_,_=>⟨rfl,rfl,rfl⟩
 |⟨some n,v,p⟩::r,env,pos,h=>by
  obtain⟨a,b,d⟩:=j5 r env pos h;refine⟨?_,?_,?_⟩
  ·show n::(Kb pos (ts r env)).filterMap (·.1)=_;rw[a];rfl
  ·show(true&&(Kb pos (ts r env)).all (·.1.isSome))=true;rw[b];rfl
  ·show(false||(Kb pos (ts r env)).any (·.1.isNone))=false;rw[d];rfl
 |⟨none,_,_⟩::_,_,_,h=>by simp[kwOk]at h
theorem kW: ∀(es:List Expr) (env:Env) (pos:Pos),es.all plainArg=true->(adv pos (Tx es env)).any (·.1)=false:=by
 intro lz;induction lz with
 |nil=>intro _ _ _;exact rfl
 |cons e r ih=>intro env pos h;rw[xp,dk]at h;rw[gV h.1];show(false||(adv pos (Tx r env)).any (·.1))=false;rw[ih env pos h.2];rfl
def aZ(c:Cx)(f:a7)(as:List AV)(names:List Str)(ks:List AV)(st:St)(Q:AV->St->Prop):Prop:=
 ∀(T:List (a7×AV)) (vs us:List a7) (s:a8),vs.length=as.length->us.length=ks.length->aX c st (us.zip ks++(vs.zip as++T)) s->
  dE (dC c.prog c.w) c.A (call f vs (names.zip us)) (Got c T Q) (λaa aa=>False) s
def Fv(c:Cx)(f:a7)(names:List Str)(Q:AV->St->Prop)(as:List AV):List AV->St->Prop:=λks bD=>aZ c f as names ks bD Q
def LF(c:Cx)(f:a7)(kws:List agx)(Q:AV->St->Prop):List AV->St->Prop:=λas bl=>uq c (kws.map (·.value)) bl (Fv c f (kws.filterMap (·.arg)) Q as)
theorem dU(hp:es.all plainArg=true)(hk:kwOk kws=true)
  (h:dE M A (spliced (adv pos (Tx es env))) (λvs s1=>dE M A (evalAll ((Kb pos (ts kws env)).map (·.2))) (λus s2=>Q ⟨vs,(kws.filterMap (·.arg)).zip us⟩ s2) E s1) E s):
  dE M A (evalArgs f true (adv pos (Tx es env)) (Kb pos (ts kws env))) Q E s:=by
 obtain⟨k1,k2,_⟩:=j5 kws env pos hk;cases es with
 |nil=>refine evalArgs_kw_nil k2 ?_;rw[k1];have h' :dE M A (pure []) (λvs s1=>dE M A (evalAll ((Kb pos (ts kws env)).map (·.2))) (λus s2=>Q ⟨vs,(kws.filterMap (·.arg)).zip us⟩ s2) E s1) E s:=h;exact fun Γ p hΓ=>h' Γ p hΓ Γ p hΓ
 |cons e r=>rw[xp,dk]at hp;rw[gV hp.1]at h⊢;refine evalArgs_kw k2 ?_;rw[k1];exact h
noncomputable def pN(K:abE)(f:a7):Bool:=match f with
 | .ref _=>keepIn K f
 |_=>true
theorem m9{M:adC}{K:abE}{f:a7}(hk:pN K f=true)(h:wq)(X:K.In h): ∃k,(k=Keeper.frame∨k=Keeper.machine∨k=Keeper.boundFrame)/\Looks M h (keeperOf f) k:=by
 cases f with
 |ref a=>exact keeps_K (show keepIn K (.ref a)=true from hk) h X
 |_=>exact⟨.machine,.inr (.inl rfl),Looks.of_pure rfl⟩
theorem xq(O:Ok c)(hf:pN c.K f=true)(hp:es.all plainArg=true)(hk:kwOk kws=true)
  (h:uq c es st (LF c f kws Q))(T:List (a7×AV))(s:a8)(S:aX c st T s):
  dE (dC c.prog c.w) c.A (aef pos f [] (adv pos (Tx es c.env)) (Kb pos (ts kws c.env))) (Got c T Q) (λaa aa=>False) s:=by
 refine ac7 (P:=λh=>c.K.In h) (by rw[kW es c.env pos hp];rw[(j5 kws c.env pos hk).2.2];rfl) (m9 hf) (dU hp hk (wpS (dJ h hp pos T s S) (λvs s1 z=>?_)));obtain⟨as,bl,hl,S1,h1⟩:=z;refine wpS (Aj h1 hk pos _ s1 S1) (λus s2 z=>?_);obtain⟨ks,bD,gu,S2,q⟩:=z;exact⟨S2.cO O,q T vs us s2 hl gu S2⟩
theorem ai(O:Ok c)(e:ag7 c.K ⟨c.prog,c.w.params⟩ (abC c.env x)=some f)(hf:pN c.K f=true)(hp:es.all plainArg=true)(hk:kwOk kws=true)
  (h:uq c es st (LF c f kws Q))(hd:(x==("__debug__" :Str))=false:=by kernel_rfl):Ev c (.Call (.Name x p) es kws pos) st Q:= .mk λT s S=>
 aak (Bz ((Hc (M:=dC c.prog c.w) (S.cO O) e).here (xq O hf hp hk h T s S)) hd)
theorem bh(O:bQ c n)(H:Spec c.prog c.w c.K c.tt n' f xs kw R)(hn:n' +1≤n)
  (hs:fD st.own as xs)(TN:fD st.own ks (kw.map (·.2)))(TP:names=kw.map (·.1))(h: ∀r,R r->Q (.nw r) st):aZ c f as names ks st Q:=λT vs us s hl gu S=>by
 have S' :=S;obtain⟨m,bs,P,N,B⟩:=S';subst TP;have hv:=B.Ca hs hl λp hp=>ba _ (bp _ hp);have hu:=B.Ca TN gu λp hp=>bp _ hp;refine H.call c.A s vs us _ (S.good O O.hh (cb c.A.depth 3) (cb c.A.units 39) hn) hv hu λv s' r hr x hx=>⟨_,st,(S.jk x hx).nw.sub λp hp=>?_,h r hr⟩;rcases a5.mp hp with rfl|hp
 ·exact .head _
 ·exact .tail _ (ba _ (ba _ hp))
theorem aH(O:bQ c n)(H:Spec c.prog c.w c.K c.tt n' f xs kw (· =r))(hn:n' +1≤n)
  (hs:fD st.own as xs)(TN:fD st.own ks (kw.map (·.2)))(TP:names=kw.map (·.1))(h:Q (.nw r) st):aZ c f as names ks st Q:=bh O H hn hs TN TP λaa e=>e▸h
end
section
variable{prog:d5}{w:fA}{K:abE}{tt:List dq}
inductive eg:List (Str×FV)->List (Str×a7)->wq->(dq->Prop)->Prop
 |nil {h P}:eg [] [] h P
 |cons {x:Str} {f:FV} {v:a7} {l:List (Str×FV)} {b:List (Str×a7)} {h P}:VR h P f v->eg l b h P->eg ((x,f)::l) ((x,v)::b) h P
theorem eg.names(H:eg l b h P):b.map (·.1)=l.map (·.1):=by
 induction H with
 |nil=>rfl
 |cons _ _ ih=>exact congrArg (_:: ·) ih
theorem eg.get(H:eg l b h P): ∀e∈l,∃v,(e.1,v)∈b/\VR h P e.2 v:=by
 induction H with
 |nil=>intro e he;cases he
 |cons x _ ih=>
  intro e he;rcases a5.mp he with rfl|he
  ·exact⟨_,.head _,x⟩
  ·obtain⟨v,a,b⟩:=ih e he;exact⟨v,.tail _ a,b⟩
theorem aS(X:K.In s.heap)(e: ∀M:adC,ag7 K ⟨M.prog,M.w.params⟩ (bindArgs fd a)=some b):ac8 s fd a b:=λM aa aa aa q=>(Hc (M:=M) X (e M)).here q
structure bx(K:abE)(f:dq)(fd:Jn)(body:List aa4):Prop where
 at_:E3 λod sl oc=>K.lookup f=some ⟨oc,od,.func fd,sl⟩
 code:codeIn K fd.code fd.qualname=true
 body:fd.body= .stmts body
 glob:fd.globals=abq
 kind:fd.scope.kind= .function
 co:fd.scope.isCoroutine=false
 gen:fd.scope.isGenerator=false
 PK:fd.closure=[]
 inter: ∀L,rk (sg fd L f)=false
theorem ur{k:Str->Option ae2}{x:Str}: ∀{b:List (Str×a7)} {m:Str->Option a7},x∉b.map (·.1)->bindL k b m x=m x
 | [],_,_=>rfl
 |(n,v)::r,m,h=>by
  rw[eA,a5,not_or]at h;unfold bindL;rw[ur h.2];split
  ·exact if_neg h.1
  ·rfl
theorem qX{k:Str->Option ae2}{x:Str}{v:a7}(hk:k x=some .local): ∀{b:List (Str×a7)} {m:Str->Option a7},(b.map (·.1)).Nodup->(x,v)∈b->bindL k b m x=some v
 |(n,u)::r,m,hn,h=>by
  rw[eA,dn]at hn;unfold bindL;rcases a5.mp h with e|h
  ·cases e;rw[ur hn.1];rw[if_pos hk];exact if_pos rfl
  ·exact qX hk hn.2 h
theorem uu{k:Str->Option ae2}{x:Str}: ∀{b:List (Str×a7)} {m:Str->Option a7},x∉b.map (·.1)->bindC k b m x=m x
 | [],_,_=>rfl
 |(n,v)::r,m,h=>by
  rw[eA,a5,not_or]at h;unfold bindC;rw[uu h.2];split
  ·rfl
  ·exact if_neg h.1
theorem xr{k:Str->Option ae2}{x:Str}{v:a7}(hk: ¬k x=some .local): ∀{b:List (Str×a7)} {m:Str->Option a7},(b.map (·.1)).Nodup->(x,v)∈b->bindC k b m x=some v
 |(n,u)::r,m,hn,h=>by
  rw[eA,dn]at hn;unfold bindC;rcases a5.mp h with e|h
  ·cases e;rw[uu hn.1];rw[if_neg hk];exact if_pos rfl
  ·exact xr hk hn.2 h
structure Fx where
 A:ka
 L:dq
 h0:wq
 g0:Array de
 os:ac6
 Jr:List dq
 P0:dq->Prop
noncomputable abbrev b7(tt:List dq)(fd:Jn)(f:dq)(K:abE)(prog:d5)(w:fA)(V:Fx):Cx:=⟨prog,w,V.A,sg fd V.L f,V.h0,V.g0,V.os,K,tt,V.Jr,V.P0,λaa=>true,[]⟩
noncomputable def f7(fd:Jn)(L:dq)(x:Str):Bool:=decide (fd.scope.names.lookup x=some .local)||(decide (fd.scope.names.lookup x=some .cell)&&((si (L+1) fd.scope.names []).lookup x).isSome)
theorem uv(D:bx K f fd body)
  (fX:A.depth<ph)(ho:s.heap.get? f=some o)(hd:o.data= .func fd)(TQ:s.heap.NoLimit)(MU:s.heap.CodeRec fd.code fd.qualname)(B:ac8 s fd args b)(hn:(b.map (·.1)).Nodup)
  (jl: ∀x∈b,f7 fd s.heap.objs.size x.1=true)
  (h: ∀h₀ m tk,h₀.Ns s.heap.objs.size m->(∀b o,s.heap.get? b=some o->h₀.get? b=some o)->
   (∀(c:Cx),c.env=sg fd s.heap.objs.size f->c.cw=(λaa=>true)-> ∀x v,(x,v)∈b->bC c h₀ m x v)->
   (∀x a,(sg fd s.heap.objs.size f).cells.lookup x=some a->(∃v,h₀.IsCell a v)/\s.heap.objs.size<a)->
   (∀x y a,(sg fd s.heap.objs.size f).cells.lookup x=some a->(sg fd s.heap.objs.size f).cells.lookup y=some a->x=y)->
   dE (dC prog w) (A.deeper (sg fd s.heap.objs.size f)) (agv body (sg fd s.heap.objs.size f)) (λfl s' =>R (.ok (.ret (match fl with| .ret v=>v|_=> .none))) s') (λaa aa=>False) {s with heap:=h₀,toks:=tk}):
  tJ (dC prog w) A (.call (.ref f) args) R s:=by
 refine codeAny_call_function fX ho hd D.co D.gen D.body MU (B _ _ _ _ ?_);rw[D.PK];refine acq D.kind (λx hx=>?_) λenv he s' X=>?_
 ·have:=jl x hx;unfold f7 at this;rw[X1,dk]at this;exact this.imp of_decide_eq_true λq=>⟨of_decide_eq_true q.1,q.2⟩
 subst he;obtain⟨h₀,tk,rfl,hk⟩:=X.done;refine⟨TQ.keeps hk,codeAny_func (mu (h h₀ _ tk X.toInCall.ns hk (λc hc hw x v hm=>?_) (λx a e=>⟨⟨_,X.cell x a e⟩,X.above x a (aa7 e)⟩) λx y a e e' =>name_of_addr X.apart (aa7 e) (aa7 e')) (λaa aa z=>z))⟩;unfold bC;rw[hc];rw[hw];have hx:=jl _ hm;unfold f7 at hx;rw[X1,dk]at hx;rcases hx with hx|⟨hx,WW⟩
 ·have hx:=of_decide_eq_true hx;have mG:(sg fd s.heap.objs.size f).kindOf x=some .local:=hx;rw[mG];exact qX mG hn hm
 ·have hx:=of_decide_eq_true hx;have mG:(sg fd s.heap.objs.size f).kindOf x=some .cell:=hx;rw[mG];obtain⟨a,ha⟩:=cx.mp WW;refine⟨a,ha,?_,.inl rfl⟩;have e:=xr (k:=(sg fd s.heap.objs.size f).kindOf) (m:=λaa=>none) (by rw[mG];decide) hn hm;have h1:h₀.IsCell a (bindC (sg fd s.heap.objs.size f).kindOf b (λaa=>none) x):=X.cell x a ha;rw[e]at h1;exact h1
noncomputable def base(s:a8)(tt as:List dq)(H:List (dq×Obj)):wq:=abu s.heap (as++(tt++HA H))
section
variable{s:a8}{as:List dq}{H:List (dq×Obj)}{b:dq}{o:Obj}
theorem j6 (h1:b∉tt)(h2:b∉as)(h3:b∉HA H)(e:s.heap.get? b=some o):(base s tt as H).get? b=some o:=YP _ e λq=>(cp.mp q).elim h2 λq=>(cp.mp q).elim h1 h3
theorem Cb(e:(base s tt as H).get? b=some o):s.heap.get? b=some o/\b∉as/\b∉tt/\b∉HA H:=by
 have no:b∉as++(tt++HA H):=λq=>by have:=aaU (as++(tt++HA H)) (h:=s.heap) q;rw[show abu s.heap (as++(tt++HA H))=base s tt as H from rfl,e]at this;cases this
 exact⟨afy _ e,λq=>no (bp _ q),λq=>no (ba _ (bp _ q)),λq=>no (ba _ (ba _ q))⟩
theorem Dq(e:(base s tt as H).get? b=none)(h1:b∉tt)(h2:b∉as)(h3:b∉HA H):s.heap.get? b=none:=by
 cases q:s.heap.get? b with
 |none=>rfl
 |some o=>rw[j6 h1 h2 h3 q]at e;exact(cu e rfl).elim
theorem Cc(h:b∈as∨b∈tt∨b∈HA H):(base s tt as H).get? b=none:=aaU _ (cp.mpr (h.imp id cp.mpr))
theorem oQ:(base s tt as H).objs.size=s.heap.objs.size:=acy ..
end
structure Back(w:fA)(tt:List dq)(H:List (dq×Obj))(g0:Array de)(s s' :a8)(as dZ:List dq)(P0 P' N' :dq->Prop)(bK:List AO):Prop where
 keep: ∀b o,b∉tt->b∉as->b∉HA H->s.heap.get? b=some o->s'.heap.get? b=some o
 tab: ∀b∈tt,dm s.heap b->dm s'.heap b
 gens: ∃tl:List de,s'.gens=g0++tl.toArray/\ ∀y∈tl,y.bare=true
 os:s'.os=s.os
 own:jT w s'.heap P' N' dZ bK dZ
 nd:dZ.Nodup
 pre: ∀(i:Nat) (a:dq),as[i]?=some a->dZ[i]?=some a
 new: ∀a∈dZ,a∈as∨a∈HA H∨s.heap.get? a=none
 Js: ∀a∈dZ,a∉tt
 Ak: ∀a∈dZ,¬P' a
 pf: ∀a,P' a->(s'.heap.get? a).isSome/\a∉tt
 old: ∀a,P' a->P0 a∨N' a
 nP: ∀a,N' a->P' a
 nN: ∀a,N' a->a∈HA H∨s.heap.get? a=none
section
variable{n:Nat}{f:dq}{fd:Jn}{body:List aa4}{A A' :ka}{s:a8}{as:List dq}{P0:dq->Prop}{H:List (dq×Obj)}{g0 G0:Array de}
noncomputable abbrev MV (prog:d5)(w:fA)(K:abE)(tt:List dq)(f:dq)(fd:Jn)(A' :ka)(s:a8)(as:List dq)(P0:dq->Prop)(H:List (dq×Obj))(g0:Array de):Cx:=b7 tt fd f K prog w ⟨A',s.heap.objs.size,base s tt as H,g0,s.os,as,P0⟩
theorem Cd(h:b≤a+1)(hk:1+d≤k):b+d+m≤a+(m+k):=ae (nf (nf h d) m) (by rw[vw a 1 d];rw[vw a (1+d) m];rewrite [wx (1+d)];exact eQ (eQ hk m) a)
theorem Good.deep{B:ka}{e:Env}{s' :a8}(G:Good K tt (n+1) A s)(hh:B.handled=none)(hd:B.depth≤A.depth+1)(hu:B.units≤A.units+1)(k: ∀a o,s.heap.get? a=some o->s'.heap.get? a=some o)(hs:s.heap.objs.size≤s'.heap.objs.size):Good K tt n (B.deeper e) s' where
 hh:=hh
 dp:=bj (Cd hd (by decide)) G.dp
 un:=bj (Cd hu (by decide)) G.un
 cO:=G.cO.keeps k
 kt:=G.kt
 lim:=G.lim.keeps k
 st:=G.st
 sz:=λa ha=>a0 (G.sz a ha) hs
 tab:=λa ha=>(G.tab a ha).of λo=>k a o
theorem enter(D:bx K f fd body)(G:Good K tt n (A.deeper (sg fd s.heap.objs.size f)) s)(B:ac8 s fd args b)(hn:(b.map (·.1)).Nodup)(jl: ∀x∈b,f7 fd s.heap.objs.size x.1=true)
  (hl: ∀e∈loc,∃v,(e.1,v)∈b/\dj s.heap P0 (λaa=>False) as e.2 v)(jS:jT w s.heap P0 (λaa=>False) as own as)(bU:as.Nodup)
  (hX: ∀a,a∈as∨a∈HA H->a∉tt/\ ¬P0 a/\K.lookup a=none/\a≠aaj/\(s.heap.get? a).isSome)(EN: ∀a,P0 a->(s.heap.get? a).isSome/\a∉tt)
  (hH: ∀p∈H,s.heap.get? p.1=some p.2/\p.1∉as)(YI:(HA H).Nodup)(hG: ∃tl:List de,s.gens=G0++tl.toArray/\ ∀y∈tl,y.bare=true)(hT: ∀p∈T,dj s.heap P0 (λaa=>False) as p.2 p.1)
  (h: ∀s',bQ (MV prog w K tt f fd (A.deeper (sg fd s.heap.objs.size f)) s as P0 H g0) n->aX ((MV prog w K tt f fd (A.deeper (sg fd s.heap.objs.size f)) s as P0 H g0).v H G0) ⟨loc,own⟩ T s' ->
   dE (dC prog w) (A.deeper (sg fd s.heap.objs.size f)) (agv body (sg fd s.heap.objs.size f)) (λfl s' =>R (.ok (.ret (match fl with| .ret v=>v|_=> .none))) s') (λaa aa=>False) s'):
  tJ (dC prog w) A (.call (.ref f) args) R s:=by
 obtain⟨od,sl,oc,hK⟩:=D.at_;have WX: ∀{a o},K.lookup a=some o-> ¬(a∈as∨a∈HA H):=λe q=>by rw[(hX _ q).2.2.1]at e;exact(cu rfl e).elim
 have WY: ¬(aaj∈as∨aaj∈HA H):=λq=>(hX _ q).2.2.2.1 rfl;have O7: ∀{a:dq},(s.heap.get? a).isSome->Nat.lt a s.heap.objs.size:=λh=>by obtain⟨_,e⟩:=cx.mp h;exact d4 e
 refine uv D (bj (ae (me A.depth) (cb (A.depth+1) (4*n))) G.dp) (G.cO f _ hK) rfl G.lim (ahi G.cO D.code) B hn jl (λh₀ m tk Dr ng LG zF WZ=>h ⟨h₀,s.gens,s.drawn,tk,s.os⟩ ?_ ?_)
 ·exact{
   cO:=λa o e=>j6 (G.kt a o e) (λq=>WX e (.inl q)) (λq=>WX e (.inr q)) (G.cO a o e)
   lim:=by obtain⟨mc,hm,e⟩:=G.lim;exact⟨mc,hm.at' λo q=>j6 G.st (λz=>WY (.inl z)) (λz=>WY (.inr z)) q,e⟩
   hh:=G.hh
   kind:=D.kind
   inter:=D.inter _
   sz:=λa ha=>by show a<(base s tt as H).objs.size;rw[oQ];exact G.sz a ha
   cin:=λx y a e e' aa aa=>WZ x y a e e'
   dp:=G.dp
   un:=G.un
   kt:=G.kt
   st:=G.st}
 ·have up: ∀{a:AV} {v:a7},dj s.heap P0 (λaa=>False) as a v->dj h₀ P0 (λaa=>False) as a v:=λr=>r.mono (λa o aa e=>ng a o e) (λaa x=>x) (λaa aa x=>x.elim) (λaa x=>x) λaa aa x=>x;refine⟨m,as,P0,λaa=>False,⟨Dr,λb o e=>ng b o (Cb e).1,⟨⟨dv (km oQ),λa o e=>d4 (G.cO a o e)⟩,λa h=>(G.tab a h).of λo=>ng a o⟩,hG,rfl,λe he=>?_,jS.mono (λa o aa e=>ng a o e) (λaa x=>x) (λaa aa x=>x.elim) (λaa x=>x) (λaa aa x=>x) λa aa o e=>ng a o e,bU,λa ha=>?_,λa ha=>?_,λa h=> .inl h,λb o e=>(Cb e).2.2.1,λaa h=>h.elim,λaa h=>h.elim,λq=>ib _ (G.sz _ q),λaa aa h=>h,λx a e aa=>?_,λp hp=>?_,?_,λp hp=>up (hT p hp)⟩⟩
  ·obtain⟨v,hm,r⟩:=hl e he;exact⟨v,LG ((MV prog w K tt f fd (A.deeper (sg fd s.heap.objs.size f)) s as P0 H g0).v H G0) rfl rfl _ _ hm,up r⟩
  ·obtain⟨h1,h2,_,_,h5⟩:=hX a (.inl ha);exact⟨Cc (.inl ha),du (O7 h5),h2,h1⟩
  ·obtain⟨h1,h2⟩:=EN a ha;obtain⟨o,e⟩:=cx.mp h1;exact⟨du (O7 h1),by show(h₀.get? a).isSome=true;rw[ng a o e];rfl,h2⟩
  ·obtain⟨hc,cy⟩:=zF x a e;exact⟨hc,dv (by rw[oQ];exact ec cy),pz cy,λq=>Hd cy (O7 (EN a q).1),λq=>Hd cy (O7 (hX a (.inl q)).2.2.2.2),λq=>Hd cy (G.sz _ q)⟩
  ·rw[show((MV prog w K tt f fd (A.deeper (sg fd s.heap.objs.size f)) s as P0 H g0).v H G0).aV=H from fw H]at hp;have hm:=eD (f:=(·.1)) hp;obtain⟨h1,h2,_,_,h5⟩:=hX p.1 (.inr hm);exact⟨ng _ _ (hH p hp).1,Cc (.inr (.inr hm)),du (O7 h5),h2,(hH p hp).2,h1,λy e=>(Hd (O7 h5) (zF y p.1 e).2).elim⟩
  ·rw[show((MV prog w K tt f fd (A.deeper (sg fd s.heap.objs.size f)) s as P0 H g0).v H G0).aV=H from fw H];exact YI
theorem leave(B:az (MV prog w K tt f fd A' s as P0 H g0) aO T' s' m dZ P' N'):Back w tt H g0 s s' as dZ P0 P' N' aO.own:=by
 have out: ∀a,(base s tt as H).get? a=none->a∉tt->a∈as∨a∈HA H∨s.heap.get? a=none:=λa h1 h2=>(Classical.em (a∈as)).elim .inl λq=> .inr ((Classical.em (a∈HA H)).elim .inl λq2=> .inr (Dq h1 h2 q q2))
 exact⟨λb o h1 h2 h3 e=>B.keep b o (j6 h1 h2 h3 e),λa h aa=>B.low.2 a h,B.gens,B.os,B.own,B.nd,B.pre,λa ha=>out a (B.fresh a ha).1 (B.fresh a ha).2.2.2,λa ha=>(B.fresh a ha).2.2.2,λa ha=>(B.fresh a ha).2.2.1,λa ha=>⟨(B.pf a ha).2.1,(B.pf a ha).2.2⟩,B.old,B.nP,λa ha=>(out a (B.new a ha) (B.pf a (B.nP a ha)).2.2).resolve_left λq=>by obtain⟨i,hi⟩:=List.getElem?_of_mem q;exact(B.fresh a (d3 (B.pre i a hi))).2.2.1 (B.nP a ha)⟩
end
theorem bM.mono{c:Cx}{st:St}{b:List aa4}{Q Q' :Fl->St->Prop}(h:bM c b st Q)(k: ∀f aO,Q f aO->Q' f aO):bM c b st Q' := .mk λT s S=>wpS (h.run T s S) (λaa aa z=>by obtain⟨a,aO,S',q⟩:=z;exact⟨a,aO,S',k _ _ q⟩)
def MW(R:AV->List AO->Prop):Fl->St->Prop:=λfl st=>match fl with
 | .ret a=>R a st.own
 | .next=>R (.f .none) st.own
 |_=>False
theorem qY(D:bx K f fd body)(G:Good K tt n (A.deeper (sg fd s.heap.objs.size f)) s)(B:ac8 s fd args b)(hn:(b.map (·.1)).Nodup)(jl: ∀x∈b,f7 fd s.heap.objs.size x.1=true)
  (hl: ∀e∈loc,∃v,(e.1,v)∈b/\dj s.heap P0 (λaa=>False) as e.2 v)(jS:jT w s.heap P0 (λaa=>False) as own as)(bU:as.Nodup)(hX: ∀a∈as,a∉tt/\ ¬P0 a/\K.lookup a=none/\a≠aaj/\(s.heap.get? a).isSome)(EN: ∀a,P0 a->(s.heap.get? a).isSome/\a∉tt)
  (h: ∀V,bQ (b7 tt fd f K prog w V) n->bM (b7 tt fd f K prog w V) body ⟨loc,own⟩ (MW R))
  (hQ: ∀v s' dZ P' N' a bK,R a bK->Back w tt [] s.gens s s' as dZ P0 P' N' bK->dj s'.heap P' N' dZ a v->Q (.ok (.ret v)) s'):tJ (dC prog w) A (.call (.ref f) args) Q s:=by
 refine enter (H:=[]) (g0:=s.gens) (G0:=s.gens) (T:=[]) D G B hn jl hl jS bU (λa ha=>hX a (ha.resolve_right λh=>nomatch h)) EN (λaa h=>nomatch h) rp ⟨[],(ae3).symm,λaa h=>nomatch h⟩ (λaa h=>nomatch h) λs' O S=>mu ((h _ O).run [] _ S) (λfl s' z=>?_);obtain⟨a,aO,hf,hq⟩:=z;cases a with
 |next=>obtain⟨e,m,dZ,P',N',B⟩:=hf;rw[e];exact hQ _ s' dZ P' N' _ _ hq (leave B) rfl
 |brk=>exact hq.elim
 |cont=>exact hq.elim
 |ret a=>obtain⟨v,e,m,dZ,P',N',B⟩:=hf;rw[e];exact hQ v s' dZ P' N' a _ hq (leave B) (B.bw _ (.head _))
def vQ(tt:List dq)(s:a8)(a:dq):Prop:=(s.heap.get? a).isSome/\a∉tt
theorem Back.ext(K:Back w tt [] s.gens s s' [] dZ P0 P' N' bK):Ext tt s s' :=⟨⟨λb o h e=>K.keep b o h (λq=>nomatch q) (λq=>nomatch q) e,K.tab⟩,K.gens,K.os⟩
theorem Back.fresh(K:Back w tt [] s.gens s s' [] dZ P0 P' N' bK)(h:N' a∨a∈dZ):fC tt s.heap a:=by
 rcases h with h|h
 ·exact⟨(K.nN a h).resolve_left λq=>(nomatch q),(K.pf a (K.nP a h)).2⟩
 ·exact⟨((K.new a h).resolve_left λq=>(nomatch q)).resolve_left λq=>(nomatch q),K.Js a h⟩
section
variable{g0:Array de}{s s' :a8}{as dZ:List dq}{P0 P' N' :dq->Prop}{bK:List AO}
theorem Back.xu (Z:Back w tt [] g0 s s' as dZ P0 P' N' bK)(b:dq)(o:Obj)(h1:b∉tt)(h2:b∉as)(e:s.heap.get? b=some o):s'.heap.get? b=some o:=Z.keep b o h1 h2 (λq=>nomatch q) e
theorem Back.MX(Z:Back w tt [] g0 s s' as dZ P0 P' N' bK)(a:dq)(h:a∈dZ):a∈as∨(s.heap.get? a=none/\a∉tt):=(Z.new a h).imp id λz=>⟨z.resolve_left λq=>(nomatch q),Z.Js a h⟩
theorem Back.W0(Z:Back w tt [] g0 s s' as dZ P0 P' N' bK)(a:dq)(h:N' a):s.heap.get? a=none:=(Z.nN a h).resolve_left λq=>nomatch q
end
theorem VR.vQ(h:VR s.heap (· ∉tt) x v):VR s.heap (vQ tt s) x v:=VR.mono (λaa aa aa e=>e) (λa q=>⟨q.2,q.1⟩) h.there
def JT(R:FV->Prop)(a:AV)(own:List AO):Prop:= ∃r,jE own a r/\R r
abbrev MY(R:FV->Prop):Fl->St->Prop:=MW (JT R)
theorem eu(D:bx K f fd body)
  (l:List (Str×FV))(hn:decide (l.map (·.1)).Nodup=true)(jl: ∀L,(l.all λx=>f7 fd L x.1)=true)
  (hb: ∀(s:a8) (P:dq->Prop) (vs ks:List a7),eW s.heap P args vs->eW s.heap P (kw.map (·.2)) ks->K.In s.heap-> ∃b,ac8 s fd ⟨vs,(kw.map (·.1)).zip ks⟩ b/\eg l b s.heap P)
  (h: ∀V,bQ (b7 tt fd f K prog w V) n->bM (b7 tt fd f K prog w V) body ⟨l.map λp=>(p.1,.f p.2),[]⟩ (MY R)):Spec prog w K tt (n+1) (.ref f) args kw R:=by
 intro A s vs ks Q G hv hk hQ;have hn:=of_decide_eq_true hn;obtain⟨b,B,BV⟩:=hb s (· ∉tt) vs ks hv hk G.cO;refine qY (own:=[]) (as:=[]) (P0:=vQ tt s) D (G.deep G.hh (me _) (me _) (λaa aa e=>e) (cq _)) B (BV.names▸hn) (λx hx=>?_) (λe he=>?_) rfl rp (λaa h=>nomatch h) (λa h=>h) h λv s' dZ P' N' a bK hr K hv=>?_
 ·have:x.1∈l.map (·.1):=BV.names▸eD hx;obtain⟨p,hp,e⟩:=bb.mp this;refine bS (e ..) ?_;exact d6.mp (jl _) p hp
 ·obtain⟨p,hp,e⟩:=bb.mp he;obtain⟨v,hm,r⟩:=BV.get p hp;refine bS (e ..) ?_;exact⟨v,hm,VR.vQ r⟩
 ·obtain⟨r,hs,hr⟩:=hr;exact hQ v s' r hr K.ext (VR.mono (λaa aa aa e=>e) (λa h=>K.fresh h) (hs.vr K.own (U:=λa=>N' a∨a∈dZ) (λh=>nomatch h) (λaa p=> .inl p) (λaa ha=> .inr ha) v hv))
theorem Ce{W:List a7}{i:Nat}(hi:i<W.length):W.getD i .none=W[i]:=by rw[fb];rw[eC hi];rfl
noncomputable def xw(v:Nat->a7):Nat->Nat->List a7
 |_,0=> []
 |i,n+1=>v i::xw v (i+1) n
noncomputable def named(v:Nat->a7):Nat->List (Str×FV)->List (Str×a7)
 |_,[]=> []
 |i,p::l=>(p.1,v i)::named v (i+1) l
theorem Cf{W:List a7}: ∀(n i:Nat),i+n≤W.length->xw (λj=>W.getD j .none) i n=(W.drop i).take n:=by
 intro lz;induction lz with
 |zero=>intro _ _;exact List.take_zero.symm
 |succ n ih=>intro i h;have hi:i<W.length:=a0 (zr (zt n)) h;rw[mi hi];rw[List.take_succ_cons];show W.getD i .none::xw _ (i+1) n=_;rw[ih (i+1) (by rw[acQ];exact h)];rw[Ce hi];rfl
theorem Fw{W:List a7}{h:wq}{P:dq->Prop}: ∀(l:List (Str×FV)) (i:Nat),eW h P (l.map (·.2)) (W.drop i)->eg l (named (λj=>W.getD j .none) i l) h P:=by
 intro lz;induction lz with
 |nil=>intro _ _;exact .nil
 |cons mE l ih=>
  intro i xx;obtain⟨x,f⟩:=mE;obtain⟨v,r,e,a,b⟩:=xx;have hi:i<W.length:=by
   rcases He i W.length with q|q
   ·exact q
   ·rw[abm q]at e;exact(Fe e).elim
  rw[mi hi]at e;obtain⟨e1,e2⟩:=List.cons.inj e;refine .cons (?_:VR h P f (W.getD i .none)) (ih (i+1) (e2▸b));rw[Ce hi];rw[e1];exact a
theorem eW.two{h:wq}{P:dq->Prop}{bs:List FV}{us:List a7}(H:eW h P bs us): ∀{as:List FV} {vs:List a7},eW h P as vs->eW h P (as++bs) (vs++us):=by
 intro lz;induction lz with
 |nil=>intro _ e;cases e;exact H
 |cons _ _ ih=>intro _ bA;obtain⟨v,r,e,a,b⟩:=bA;subst e;exact⟨v,_,rfl,a,ih b⟩
theorem aR(D:bx K f fd body)
  (l:List (Str×FV))(hl:l.map (·.2)=args++kw.map (·.2))
  (hb: ∀L (M:adC) v,(decide (l.map (·.1)).Nodup&&l.all λx=>f7 fd L x.1,ag7 K ⟨M.prog,M.w.params⟩ (bindArgs fd ⟨xw v 0 args.length,(kw.map (·.1)).zip (xw v args.length kw.length)⟩))=(true,some (named v 0 l)))
  (h: ∀V,bQ (b7 tt fd f K prog w V) n->bM (b7 tt fd f K prog w V) body ⟨l.map λp=>(p.1,.f p.2),[]⟩ (MY R)):Spec prog w K tt (n+1) (.ref f) args kw R:=by
 refine eu D l ?_ (λL=>?_) (λs P vs ks hv hk X=>?_) h
 ·exact(wb.mp (Prod.mk.inj (hb 0 (dC prog w) λaa=> .none)).1).1
 ·exact(wb.mp (Prod.mk.inj (hb L (dC prog w) λaa=> .none)).1).2
 ·have e1:=hv.length;have e2:=hk.length;rw[ag]at e2;have H:=hk.two hv;rw[<-hl]at H;refine⟨_,aS X λM=>?_,Fw (W:=vs++ks) l 0 H⟩;have:=(Prod.mk.inj (hb 0 M λj=>(vs++ks).getD j .none)).2;rw[Cf _ _ (by rw[dy];refine bS (e1 ..) ?_;rw[Mo];exact cb ..),Cf _ _ (by rw[dy];rw[e1];rw[e2];exact cq _),aew,<-e1,aex,List.drop_left,<-e2,ti]at this;exact this
end
section
variable{prog:d5}{w:fA}{K:abE}{tt:List dq}
structure iB (K:abE)(C f:dq)(fd:Jn)(body:List aa4):Prop where
 makes:makesIn K C=true
 init:aaV K (.ref C) "__init__" =some (some (.ref f))
 fn:typeIn K (.ref f)=some (.type "function")
 def_:bx K f fd body
inductive uw(C:dq)(R:FV->Prop)(fl:Fl)(st:St):Prop
 |mk (h0:fl= .next∨fl= .ret (.f .none)) (l:List (Str×AV)) (k:Nat) (at_:List (Str×FV)) (h1:st.own[0]?=some (.inst C 1)) (h2:st.own[1]?=some (.attrs l k)) (h3:Fq st.own l at_) (q:R (.inst C at_))
noncomputable def made(s:a8)(C:dq):a8:=⟨(s.heap.push ae4).push (VU C s.heap.objs.size),s.gens,s.drawn,s.toks,s.os⟩
section
variable{s:a8}{C:dq}
theorem cS (e:s.heap.get? b=some o):(made s C).heap.get? b=some o:=aw _ (aw _ e)
theorem Fy:(made s C).heap.get? s.heap.objs.size=some ae4:=aw _ (bc _ rfl)
theorem Fz:(made s C).heap.get? (s.heap.objs.size+1)=some (VU C s.heap.objs.size):=by have:=bc (s.heap.push ae4) (o:=VU C s.heap.objs.size) rfl;rw[ot]at this;exact this
theorem Ds:(made s C).heap.objs.size=s.heap.objs.size+2:=by show((s.heap.push ae4).push _).objs.size=_;rw[ot];rw[ot];rfl
theorem ux(e:(made s C).heap.get? a=none):s.heap.get? a=none:=by
 cases q:s.heap.get? a with
 |none=>rfl
 |some o=>rw[cS q]at e;exact(cu e rfl).elim
end
noncomputable abbrev two(s:a8):List dq:=[s.heap.objs.size+1,s.heap.objs.size]
theorem nj(h:a∈two s):s.heap.get? a=none:=dv (by
 rcases a5.mp h with h|h
 ·rw[h];exact me _
 ·rw[fx.mp h];exact cq _)
def FA(R:List AO->Prop):Fl->St->Prop:=λfl aO=>(fl= .next∨fl= .ret (.f .none))/\R aO.own
theorem uy(D:iB K C f fd body)(G:Good K tt (n+1) A s)(B:ac8 (made s C) fd ⟨.ref (s.heap.objs.size+1)::vs,ks⟩ b)(hn:(b.map (·.1)).Nodup)(jl: ∀x∈b,∀L,f7 fd L x.1=true)
  (hl: ∀e∈loc,∃v,(e.1,v)∈b/\dj (made s C).heap P0 (λaa=>False) (as++two s) e.2 v)(jS:jT w s.heap P0 (λaa=>False) as own as)(bU:as.Nodup)(hX: ∀a∈as,a∉tt/\ ¬P0 a/\K.lookup a=none/\a≠aaj/\(s.heap.get? a).isSome)(EN: ∀a,P0 a->(s.heap.get? a).isSome/\a∉tt)
  (h: ∀V,bQ (b7 tt fd f K prog w V) n->bM (b7 tt fd f K prog w V) body ⟨loc,own++[.inst C (own.length+1),.attrs [] 0]⟩ (FA R))
  (hQ: ∀s' dZ P' N' bK,R bK->Back w tt [] s.gens s s' as dZ P0 P' N' bK->dZ[own.length]?=some (s.heap.objs.size+1)->Q (.ok (.ret (.ref (s.heap.objs.size+1)))) s'):tJ (dC prog w) A (.call (.ref C) ⟨vs,ks⟩) Q s:=by
 have O8:as.length=own.length:=jS.length;have PL: ∀{a:dq},(s.heap.get? a).isSome->((made s C).heap.get? a).isSome:=λh=>let⟨_,e⟩:=cx.mp h;by rw[cS e];rfl
 have out: ∀{a:dq},s.heap.get? a=none->a∉tt/\ ¬P0 a/\K.lookup a=none/\a≠aaj:=λ{a} h1=>by
  refine⟨λq=>?_,λq=>?_,?_,λq=>?_⟩
  ·obtain⟨_,_,e,_⟩:=G.tab a q;rw[h1]at e;cases e
  ·have:=(EN a q).1;rw[h1]at this;cases this
  ·cases q:K.lookup a with
   |none=>rfl
   |some o=>have:=G.cO _ _ q;rw[h1]at this;cases this
  ·obtain⟨mc,⟨o,_,_,e',_⟩,_⟩:=G.lim;rw[<-q,h1]at e';cases e'
 have up: ∀(i:Nat) (a:dq),as[i]?=some a->(as++two s)[i]?=some a:=λi a e=>by rw[aax (ed.mp e).1];exact e
 have g0:(as++two s)[own.length]?=some (s.heap.objs.size+1):=by refine bS (O8 ..) ?_;rw[D2 (cq _)];rw[abG];rfl
 have g1:(as++two s)[own.length+1]?=some s.heap.objs.size:=by refine bS (O8 ..) ?_;rw[D2 (me _)];rw[Nat.succ_sub (cq _)];rw[abG];rfl
 have TR:jT w (made s C).heap P0 (λaa=>False) (as++two s) (own++[.inst C (own.length+1),.attrs [] 0]) (as++two s):=by have o0:jT w (made s C).heap P0 (λaa=>False) (as++two s) own as:=jS.mono (λa o aa e=>cS e) (λaa x=>x) (λaa aa x=>x.elim) (λaa x=>x) up λa aa o e=>cS e;have o1:=o0.snoc (o:= .inst C (own.length+1)) (b:=s.heap.objs.size+1) ⟨_,g1,Fz⟩;have o2:=o1.snoc (o:= .attrs [] 0) (b:=s.heap.objs.size) ⟨λaa=>none,⟨ae4,#[],0,Fy,rfl,λaa h=>(by simp at h),λaa=>rfl,cq _⟩,trivial,λaa aa=>rfl⟩;rw[hJ,hJ]at o2;exact o2
 have TS: ∀{a:dq},a∈two s->a∉as:=λh q=>by have:=(hX _ q).2.2.2.2;rw[nj h]at this;cases this
 have TU:(as++two s).Nodup:=kd.mpr ⟨bU,dn.mpr ⟨λq=>adw _ (fx.mp q),dn.mpr ⟨ij,rp⟩⟩,λa ha b hb q=>TS hb (q▸ha)⟩;refine make_core (makes_of G.cO D.makes) (adO G.cO D.init) (λself=>ah9 G.cO self D.fn) (.inl rfl) (qY (R:=λa o=>a= .f .none/\R o) (s:=made s C) (as:=as++two s) (P0:=P0) D.def_ (G.deep G.hh (cq _) (cq _) (λaa aa e=>cS e) (by rw[Ds];exact cb _ _)) B hn (λx hx=>jl x hx _) hl TR TU (λa ha=>?_) (λa ha=>⟨PL (EN a ha).1,(EN a ha).2⟩) (λV OO=> .mk λT s S=>wpS ((h V OO).run T s S) (λf s' z=>?_)) λv s' dZ P' N' a bK hr K hv=>?_)
 ·refine(cp.mp ha).elim (λha=>?_) λha=>?_
  ·obtain⟨h1,h2,h3,h4,h5⟩:=hX a ha;exact⟨h1,h2,h3,h4,PL h5⟩
  ·obtain⟨h1,h2,h3,h4⟩:=out (nj ha);refine⟨h1,h2,h3,h4,?_⟩;rcases a5.mp ha with e|e
   ·rw[e];rw[Fz];rfl
   ·rw[fx.mp e];rw[Fy];rfl
 ·obtain⟨a,aO,hf,Cg,hr⟩:=z;refine⟨a,aO,hf,?_⟩;rcases Cg with e|e
  ·rw[e];exact⟨rfl,hr⟩
  ·rw[e];exact⟨rfl,hr⟩
 ·obtain⟨ha,hr⟩:=hr;rw[ha]at hv;rw[show v= .none from hv];exact⟨rfl,hQ s' dZ P' N' bK hr ⟨λb o h1 h2 h3 e=>K.keep b o h1 (λz=>(cp.mp z).elim h2 λz=>by rw[nj z]at e;cases e) h3 (cS e),λb hb t=>K.tab b hb (t.of λo=>cS),K.gens,K.os,K.own,K.nd,λi a e=>K.pre i a (up i a e),λa ha=>(K.new a ha).elim (λz=>(cp.mp z).elim .inl λz=> .inr (.inr (nj z))) λz=> .inr (z.imp id ux),K.Js,K.Ak,K.pf,K.old,K.nP,λa ha=>(K.nN a ha).imp id ux⟩ (K.pre _ _ g0)⟩
theorem eL(D:iB K C f fd body)(self:Str)
  (l:List (Str×FV))(hn:decide (self::l.map (·.1)).Nodup=true)(jl: ∀L,((self::l.map (·.1)).all λx=>f7 fd L x)=true)
  (hb: ∀(s:a8) (P:dq->Prop) (x:a7) (vs ks:List a7),eW s.heap P args vs->eW s.heap P (kw.map (·.2)) ks->K.In s.heap-> ∃b,ac8 s fd ⟨x::vs,(kw.map (·.1)).zip ks⟩ ((self,x)::b)/\eg l b s.heap P)
  (h: ∀V,bQ (b7 tt fd f K prog w V) n->bM (b7 tt fd f K prog w V) body ⟨(self,.own 0)::l.map λp=>(p.1,.f p.2),[.inst C 1,.attrs [] 0]⟩ (uw C R)):
  Spec prog w K tt (n+1) (.ref C) args kw R:=by
 intro A s vs ks Q G hv hk hQ;have hn:=of_decide_eq_true hn;have old: ∀{l:List FV} {us:List a7},eW s.heap (· ∉tt) l us->eW (made s C).heap (vQ tt s) l us:=λh=>eW.mono (λaa aa aa e=>cS e) (λa q=>⟨q.2,q.1⟩) h.there;obtain⟨b,B,BV⟩:=hb (made s C) (vQ tt s) (.ref (s.heap.objs.size+1)) vs ks (old hv) (old hk) (G.cO.keeps λaa aa e=>cS e);refine uy (own:=[]) (as:=[]) (P0:=vQ tt s) (R:=λown=>E3 λl k at_=>A4 (own[0]?=some (.inst C 1)) (own[1]?=some (.attrs l k)) (Fq own l at_) (R (.inst C at_))) D G B (by rw[eA];rw[BV.names];exact hn) (λy hy L=>?_) (λe he=>?_) rfl rp (λaa h=>nomatch h) (λa h=>h) (λV O=>(h V O).mono λf aO z=>?_) λs' dZ P' N' bK hr K h0=>?_
 ·refine d6.mp (jl L) _ ?_;rcases a5.mp hy with e|hy
  ·rw[e];exact .head _
  ·exact .tail _ (BV.names▸eD hy)
 ·rcases a5.mp he with e|he
  ·rw[e];exact⟨_,.head _,_,rfl,rfl⟩
  ·obtain⟨p,hp,e⟩:=bb.mp he;obtain⟨v,hm,r⟩:=BV.get p hp;refine bS (e ..) ?_;exact⟨v,.tail _ hm,r⟩
 ·obtain⟨hf,l',k',at_,h1,h2,h3,hr⟩:=z;exact⟨hf,l',k',at_,h1,h2,h3,hr⟩
 ·obtain⟨l',k',at_,h1,h2,h3,hr⟩:=hr;exact hQ _ s' _ hr K.ext (VR.mono (λaa aa aa e=>e) (λa h=>K.fresh h) ((gq.inst h1 h2 h3:jE bK (.own 0) (.inst C at_)).vr K.own (U:=λa=>N' a∨a∈dZ) (λh=>nomatch h) (λaa p=> .inl p) (λaa ha=> .inr ha) _ ⟨_,h0,rfl⟩))
end
theorem Dt(hd:o.data= .dict es ep)(h:ahJ es name=some v):ahK name o=some (some v):=by
 unfold ahJ findBy at h;unfold ahK;rw[hd];dsimp only;rw[<-acw]at h;cases q:es.toList.find? (λe=>e.key.isStr name)with
 |none=>rw[q]at h;exact(cu rfl h).elim
 |some e=>rw[q]at h;cases h;rfl
noncomputable def qZ(K:abE)(C:dq)(name:Str):Bool:=ae5 K C name&&ae6 K C&&(aaV K (.ref C) name).any (noGet K)
noncomputable def vR(K:abE)(C:dq)(name:Str):Bool:=aaV K (.ref C) "__setattr__" ==some (some (.builtin "object.__setattr__"))&&plainOver K C&&(takerIn K C name==some none)&&ae6 K C
noncomputable def FV.handed(x:FV):Bool:=x.JF true true (λaa=>true) (λaa=>true) (λaa=>true) (λaa=>true) ae7 false
theorem VR.handed{h:wq}{P:dq->Prop}: ∀{x:FV} {v:a7},VR h P x v->x.handed=true->ae7 v=true:=by
 intro lz;cases lz with
 |none=>intro _ H _;cases H;rfl
 |bool _=>intro _ H _;cases H;rfl
 |int _=>intro _ bA _;obtain⟨_,e⟩:=bA;cases e;rfl
 |str _=>intro _ bA _;obtain⟨_,e⟩:=bA;cases e;rfl
 |val _=>intro _ H q;cases H;exact q
 |list _=>intro _ bA _;obtain⟨_,_,_,e,_,_,_⟩:=bA;cases e;rfl
 |tuple _=>intro _ bA _;obtain⟨_,_,_,e,_,_,_⟩:=bA;cases e;rfl
 |aW _ _=>intro _ bA _;obtain⟨_,_,e,_,_,_⟩:=bA;cases e;rfl
 |inst _ _=>intro _ bA _;obtain⟨_,_,_,e,_,_,_,_,_,_⟩:=bA;cases e;rfl
 |any=>intro _ _ q;cases q
 |m8 _ _=>intro _ bA _;obtain⟨_,_,_,_,e,_,_⟩:=bA;cases e;rfl
 |obj _=>intro _ bA _;obtain⟨_,e,_,_⟩:=bA;cases e;rfl
 |iP _=>intro _ bA _;obtain⟨_,_,_,e,_,_,_⟩:=bA;cases e;rfl
noncomputable def AV.handed:AV->Bool
 | .f x=>x.handed
 | .n x=>x.handed
 | .own _=>true
theorem dj.handed{h:wq}{P N:dq->Prop}{as:List dq}: ∀{x:AV} {v:a7},dj h P N as x v->x.handed=true->ae7 v=true:=by
 intro lz;cases lz with
 |f x=>intro _ H q;exact VR.handed H q
 |n x=>intro _ H q;exact VR.handed H q
 |own _=>intro _ bA _;obtain⟨_,_,e⟩:=bA;cases e;rfl
set_option tactic.hygienic true in
theorem xy{prog:d5}{w:fA}{A:ka}{E:a7->a8->Prop}{s:a8}{K:abE}{x d C:dq}{m:Str->Option a7}{name:Str}{expr:Bool}{v:a7}{Q:a7->a8->Prop}(X:K.In s.heap)(hx:s.heap.get? x=some (VU C d))(hd:s.heap.Ns d m)
  (ha:qZ K C name=true)(hm:m name=some v)(hv:ae7 v=true)(h:Q v {s with toks:=s.toks+1}):dE (dC prog w) A (agy (.ref x) name expr) Q E s:=by
 refine nn λhN=>?_;obtain⟨o,es,ep,ho,TV,-,hf⟩:=hd;refine hN ?_;have I:abY s.heap x (VU C d) C (some o):=⟨hx,rfl,rfl,ho⟩;unfold qZ at ha;simp only[dk]at ha;obtain⟨⟨a1,a2⟩,a3⟩:=ha;unfold ae5 at a1;simp only[dk,beq_iff_eq]at a1;cases LG:aaV K (.ref C) name with
 |some attr=>rw[LG]at a3;exact get_value X I a1.1 (findObj_own a2 LG a3 (Dt TV (by rw[hf];rw[hm];rfl))) hv h
 |none=>rw[LG]at a3;cases a3
section
variable{c:Cx}{st:St}{T:List (a7×AV)}{s:a8}
inductive kX (st:St)(C:dq)(name:Str):AV->AV->Prop
 |f {l:List (Str×FV)} {x:FV}:(name,x)∈l->kX st C name (.f (.inst C l)) (.f x)
 |n {l:List (Str×FV)} {x:FV}:(name,x)∈l->kX st C name (.n (.inst C l)) (.n x)
 |own {i j k:Nat} {l:List (Str×AV)} {x:AV}:st.own[i]?=some (.inst C j)->st.own[j]?=some (.attrs l k)->(name,x)∈l->kX st C name (.own i) x
theorem az.attr(B:az c st T s m as P N)(H:kX st C name a b)(h:dj s.heap P N as a v):
  E4 λx d m' u=>A5 (v= .ref x) (s.heap.get? x=some (VU C d)) (s.heap.Ns d m') (m' name=some u) (dj s.heap P N as b u):=by
 cases H with
 |f hm=>obtain⟨x,d,m',e,_,_,g,n,r,_⟩:=h;obtain⟨u,hu,q⟩:=vL.get r hm;exact⟨x,d,m',u,e,g,n,hu,q⟩
 |n hm=>obtain⟨x,d,m',e,_,_,g,n,r,_⟩:=h;obtain⟨u,hu,q⟩:=vL.get r hm;exact⟨x,d,m',u,e,g,n,hu,q⟩
 |own hi hj hm=>refine nn λhN=>?_;obtain⟨x,hx,e⟩:=h;obtain⟨x',mG,d,hd,g⟩:=B.own.get hi;refine hN ?_;cases hx.symm.trans mG;refine nn λhN=>?_;obtain⟨d',fq,m',n,r,_⟩:=B.own.get hj;refine hN ?_;cases hd.symm.trans fq;obtain⟨u,hu,q⟩:=iR.get r hm;exact⟨x,d,m',u,e,g,n.ns,hu,q⟩
theorem Al(O:Ok c)(S:aX c st ((v,a)::T) s)(H:kX st C name a b)(ha:qZ c.K C name=true)(hh:b.handed=true):
  dE (dC c.prog c.w) c.A (agy v name expr) (λu s' =>aX c st ((u,b)::T) s') (λaa aa=>False) s:=by
 have X:=S.cO O;obtain⟨m,as,P,N,B⟩:=S;obtain⟨x,d,m',u,rfl,g,n,hu,q⟩:=B.attr H (B.bw _ (.head _));exact xy X g n ha hu (q.handed hh) ⟨m,as,P,N,((B.less λaa h=> .tail _ h).push q).toks⟩
inductive PM(c:Cx)(name:Str)(Q:AV->St->Prop)(a:AV)(aO:St):Prop
 |mk (C:dq) (b:AV) (h:kX aO C name a b) (ha:qZ c.K C name=true) (hh:b.handed=true) (q:Q b aO)
theorem aG(O:Ok c)(h:Ev c e st (PM c name Q))
  (hs:acp (e.Attribute name pos) c.env=(do let o<-acp e c.env;aau pos.atName;let r<-NA [o] (agy o name true);aay e o r;pure r):=by rfl):Ev c (.Attribute e name pos) st Q:= .mk λT s S=>
 acK (wpS (h.run T s S) (λv s1 z=>by obtain⟨a,aO,S',C,b,H,ha,hh,q⟩:=z;exact wpS (Al O S' H ha hh) (λu s2 z=>⟨b,aO,z,q⟩))) hs
theorem JU(hn:Jq s.heap a m k)
  (h: ∀h',Jq h' a (λx=>if x=name then some v else m x) (k+1)->lL a s.heap h' ->Q () {s with heap:=h',toks:=s.toks+1}):dE M A (nsSet a name v) Q E s:=by
 obtain⟨o,es,ep,ho,hd,hk,hm,hz⟩:=hn;have TX:es.any (·.refKey)=false:=by refine eV (Array.any_eq_false' ..) ?_;intro e he;obtain⟨n,t,h⟩:=hk e he;simp[af7,h]
 have key: ∀(R:Unit->a8->Prop) (Γ:Ctx) (p:Pos),Sem.wp M Γ (nsSet a name v) (λa aa s' =>R a s') (λe aa s' =>E e s') p s=((s.heap.get? a).isSome=true/\R () {s with heap:=s.heap.update a (ac9 name (QR M.w.params name) (.str name s.toks) v),toks:=s.toks+1}):=λR Γ p=>by simp only[nsSet,strHash,Sem.wp_bind',Sem.wp_cmd_ask,Sem.wp_pure',Sem.wp_cmd_mkText];rewrite [Sem.wp_loadPart_of M Γ _ p {s with toks:=s.toks+1} (o:=o) _ ho];simp only[hd,aRefKeyMayBeTheName_eq,aRefKeyMayBeTheNameByArray,TX,ag8,kz,if_false,Sem.wp_cmd_updatePart];rfl
 have Dr:s.heap.Ns a m:=⟨o,es,ep,ho,hd,hk,hm⟩;refine fun Γ p hΓ=>(key Q Γ p).mpr ⟨by rw[ho];rfl,h _ ?_ (ik ..)⟩;obtain⟨o',Am,W3,PN,fq,MZ,Sy⟩:=((key (λaa s' =>s'.heap.Ns a λx=>if x=name then some v else m x) Γ p).mp (wpAny_nsSet Dr (λh' Du aa=>Du) Γ p hΓ)).2;refine⟨o',Am,W3,PN,fq,MZ,Sy,?_⟩;obtain⟨c,d,dt,sl⟩:=o;dsimp only at hd;subst hd;have hf:(ac9 name (QR M.w.params name) (.str name s.toks) v ⟨c,d,.dict es ep,sl⟩).isFreed=false:=by simp only[ag9,ae8];cases es.findIdx? (λx=>x.key.isStr name)<;>rfl
 have:=pE (ac9 name (QR M.w.params name) (.str name s.toks) v) ho hf;rw[show(({s with heap:=s.heap.update a (ac9 name (QR M.w.params name) (.str name s.toks) v),toks:=s.toks+1}:a8).heap)=s.heap.update a (ac9 name (QR M.w.params name) (.str name s.toks) v)from rfl,this]at PN;cases PN;simp only[ag9,ae8]at fq;cases q:es.findIdx? (λx=>x.key.isStr name)with
 |none=>rw[q]at fq;cases fq;simp;omega
 |some i=>rw[q]at fq;cases fq;simp;exact afz hz
theorem FD{prog:d5}{w:fA}{A:ka}{E:a7->a8->Prop}{s:a8}{K:abE}{x d C:dq}{m:Str->Option a7}{k:Nat}{name:Str}{v:a7}{Q:Unit->a8->Prop}(X:K.In s.heap)(hx:s.heap.get? x=some (VU C d))(hd:Jq s.heap d m k)(hk:k<1000)
  (ha:vR K C name=true)(h: ∀h' t',Jq h' d (λy=>if y=name then some v else m y) (k+1)->lL d s.heap h' ->Q () {s with heap:=h',toks:=t' }):dE (dC prog w) A (setAttr (.ref x) name v) Q E s:=by
 have O9:=hd;obtain⟨o,es,ep,ho,TV,-,hf,-⟩:=hd;have I:abY s.heap x (VU C d) C (some o):=⟨hx,rfl,rfl,ho⟩;unfold vR at ha;simp only[dk,beq_iff_eq]at ha;obtain⟨⟨⟨a1,a2⟩,a3⟩,a4⟩:=ha;refine set_plain X I a1 (osa_open (s:={s with toks:=s.toks+1}) X I a2 a3 λb=>?_);obtain⟨cd,hc,MU⟩:=any_some a4;refine ab (ax (ab (ab (wpAny_loadPart hx (ab (looks_clsIn X hc _ _ _ _ (λaa aa e=>e) ?_))))));rw[MU];refine ax (a:=some d) (ab (ax (ab (JU O9 λh' hn hs=>?_))));have Du:=hn;obtain⟨o',Am,W3,PN,fq,-,-,hz⟩:=hn;exact ab (wpAny_lookBehind PN (by rw[fq];exact pastItsLine_dict (by rw[mB];lia)) (ax (h h' _ Du hs)))
end
theorem jT.of_get{w:fA}{h:wq}{P N:dq->Prop}{as:List dq}: ∀{f:List AO} {bs:List dq},bs.length=f.length->(∀(i:Nat) (o:AO) (b:dq),f[i]?=some o->bs[i]?=some b->OR w h P N as o b)->jT w h P N as f bs
 | [],[],_,_=>rfl
 | [],_::_,e,_=>by cases e
 |_::_,[],e,_=>by cases e
 |o::f,b::bs,e,H=>⟨b,bs,rfl,H 0 o b rfl rfl,jT.of_get (by simpa using e) λi o b x y=>H (i+1) o b (x) (y)⟩
theorem Dw{l:List dq}(h:l.Nodup){i j:Nat}{a:dq}(hi:l[i]?=some a)(hj:l[j]?=some a):i=j:=by
 obtain⟨Pa,ei⟩:=ed.mp hi;obtain⟨FE,ej⟩:=ed.mp hj;rcases afA i j with q|q|q
 ·exact absurd (ei.trans ej.symm) (H0.mp h i j Pa FE q)
 ·exact q
 ·exact absurd (ej.trans ei.symm) (H0.mp h j i FE Pa q)
section
variable{c:Cx}{st:St}{T:List (a7×AV)}{s:a8}{m:Str->Option a7}{as:List dq}{P N:dq->Prop}
theorem az.mH (B:az c st T s m as P N)(hj:as[j]?=some b)(hs:lL b s.heap h')(ho:OR c.w h' P N as o' b):
  az c ⟨st.loc,st.own.set j o'⟩ T {s with heap:=h',toks:=t' } m as P N:=by
 have hb:=B.fresh b (d3 hj);have C:zE c P (· =b) s.heap h' := .of (λaa e=>e▸hb.1) (λaa e=>e▸hb.2.2.1) (λaa e=>e▸hb.2.2.2) λa o ha e=>(hs.2 a ha).trans e;have n: ∀x a,c.env.cells.lookup x=some a->c.cw x=true-> ¬a=b:=λx a e w z=>(B.kU x a e w).2.2.2.2.1 (z▸d3 hj);refine az.JN (s' :={s with heap:=h',toks:=t' }) (H:=c.aV) (G:=c.g0) (l:=st.loc) B C B.gens rfl (B.ns.at' λo e=>C.k _ o B.qg (Nw hb.2.1) e) (λe he=>B.JP (s' :={s with heap:=h',toks:=t' }) C he (n _)) (jT.of_get (by rw[ab8];exact B.own.length) λi o a hi ha=>?_) (λx a e w=>B.JO (s' :={s with heap:=h',toks:=t' }) C e w (n x a e w))
  (λp hp=>B.MQ (s' :={s with heap:=h',toks:=t' }) C hp λe=>(B.cR hp).na (e▸d3 hj)) B.bU λaa h=>h
 by_cases q:j=i
 ·rw[<-q]at ha hi;cases hj.symm.trans ha;have hl:=(ed.mp hi).1;rw[ab8]at hl;rw[List.getElem?_set_self hl]at hi;exact Option.some.inj hi▸ho
 ·rw[List.getElem?_set_ne q]at hi;obtain⟨a',YJ,r⟩:=B.own.get hi;cases ha.symm.trans YJ;exact B.YF (s' :={s with heap:=h',toks:=t' }) C r λo=>C.k a o (B.fresh a (d3 ha)).2.2.2 λz=>q (Dw B.nd hj (z▸ha))
inductive M0(c:Cx)(name:Str)(Q:Fl->St->Prop)(a b:AV)(bD:St):Prop
 |mk (i j:Nat) (C:dq) (l:List (Str×AV)) (k:Nat) (e:b= .own i) (h1:bD.own[i]?=some (.inst C j)) (h2:bD.own[j]?=some (.attrs l k)) (h3:k<1000) (h4:vR c.K C name=true) (h5:(l.all λe=>decide (e.1≠name))=true)
  (q:Q .next ⟨bD.loc,bD.own.set j (.attrs ((name,a)::l) (k+1))⟩)
def PR(c:Cx)(o:Expr)(name:Str)(Q:Fl->St->Prop):AV->St->Prop:=λa bl=>Ev c o bl (M0 c name Q a)
theorem bI(O:Ok c)
  (h:Ev c e st (PR c o name Q))
  (hs:ab7 e (some (.Attribute o name p')) pos.line c.env=pure false:=by rfl):Ex c (.Assign [.Attribute o name p'] e pos) st Q:= .mk λT s S=>by
 refine plainObj_wpAny_Assign_Attribute (wpS (h.run T s S) (λv s1 z=>?_)) hs;obtain⟨a,bl,S1,h1⟩:=z;refine wpS (h1.run _ s1 S1) (λu s2 z=>nn λhN=>?_);obtain⟨b,bD,S2,i,j,C,l,k,rfl,hi,hj,hk,ha,hl,q⟩:=z;have X:=S2.cO O;obtain⟨m,as,P,N,B⟩:=S2;obtain⟨x,hx,rfl⟩:=B.bw _ (.head _);obtain⟨x',mG,d,hd,g⟩:=B.own.get hi;refine hN ?_;cases hx.symm.trans mG;obtain⟨d',fq,m',n,r,ex⟩:=B.own.get hj;cases hd.symm.trans fq;have hv:=B.bw _ (.tail _ (.head _));refine FD X g n hk ha λh' t' hn hs=>⟨.next,_,⟨rfl,m,as,P,N,(B.mH (o' := .attrs ((name,a)::l) (k+1)) hd hs ⟨_,hn,?_,λk hk=>?_⟩).less λaa h=> .tail _ (.tail _ h)⟩,q⟩
 case refine_2=>rw[eA,a5,not_or]at hk;exact(if_neg hk.1).trans (ex k hk.2)
 have hb:=B.fresh d (d3 hd);have kP: ∀a o,P a->s2.heap.get? a=some o->h'.get? a=some o:=λa o p e=>(hs.2 a λq=>hb.2.2.1 (q▸p)).trans e;have up: ∀{y:AV} {u:a7},dj s2.heap P N as y u->dj h' P N as y u:=λq=>q.mono kP (λaa x=>x) (λa o p=>kP a o (B.nP a p)) (λaa x=>x) λaa aa x=>x;refine⟨⟨v,if_pos rfl,up hv⟩,?_⟩;have: ∀(l' :List (Str×AV)),(l'.all λe=>decide (e.1≠name))=true->(∀e∈l',e∈l)->iR h' P N as l' λy=>if y=name then some v else m' y:=by
  intro l';induction l' with
  |nil=>intros;trivial
  |cons y r' ih=>intro h1 h2;obtain⟨y1,y2⟩:=y;rw[xp,dk]at h1;obtain⟨u,hu,q⟩:=r.get (h2 (y1,y2) (.head _));exact⟨⟨u,(if_neg (of_decide_eq_true h1.1: ¬y1=name)).trans hu,up q⟩,ih h1.2 λe he=>h2 e (.tail _ he)⟩
 exact this l hl λaa h=>h
end
inductive q9(own:List AO):AV->Bool->Prop
 |none:q9 own (.f .none) false
 |b (x:Bool):q9 own (.f (.bool x)) x
 |i (n:Int):q9 own (.f (.int n)) (n !=0)
 |l {i:Nat} {l:List AV}:own[i]?=some (.list l)->l.length≤1000000->q9 own (.own i) (!l.isEmpty)
 |fl {l:List FV}:l.length≤1000000->q9 own (.f (.list l)) (!l.isEmpty)
section
variable{c:Cx}{st:St}{T:List (a7×AV)}{s:a8}
theorem bu.length {h:wq}{P N:dq->Prop}{as:List dq}: ∀{l:List AV} {vs:List a7},bu h P N as l vs->vs.length=l.length:=by
 intro lz;induction lz with
 |nil=>intro _ H;cases H;rfl
 |cons _ _ ih=>intro _ bA;obtain⟨_,_,e,_,y⟩:=bA;subst e;simp[ih y]
theorem f9{α:Type}{vs:List a7}{l:List α}(h:vs.length=l.length):(!vs.toArray.isEmpty)=!l.isEmpty:=by
 cases l with
 |nil=>have:vs=[]:=nr h;subst this;rfl
 |cons a l=>
  cases vs with
  |nil=>cases h
  |cons v vs=>rfl
theorem aP{h:wq}{a:dq}{vs:List a7}{n:Nat}(g:h.get? a=some ⟨.type "list",none,.seq vs.toArray n,#[]⟩):h.IsList a vs.toArray:=⟨_,g,rfl,_,rfl⟩
theorem FG(H:q9 st.own a b)(S:aX c st ((v,a)::T) s):dE (dC c.prog c.w) c.A (truthy v) (λx s' =>x=b/\aX c st T s') (λaa aa=>False) s:=by
 cases H with
 |none=>cases S.uo;exact truthy_none ⟨rfl,S.pop⟩
 |b x=>cases S.B9;exact xa ⟨rfl,S.pop⟩
 |i n=>obtain⟨t,rfl⟩:=S.jZ;exact ahr ⟨rfl,S.pop⟩
 |l hi hl=>have S' :=S;refine nn λhN=>?_;obtain⟨m,as,P,N,B⟩:=S';obtain⟨x,hx,rfl⟩:=B.bw _ (.head _);obtain⟨x',mG,vs,n,g,r⟩:=B.own.get hi;refine hN ?_;cases hx.symm.trans mG;have hlen:=r.length;exact acR (aP g) (by rw[eM];rw[hlen];lia) ⟨f9 hlen,S.pop.dH⟩
 |fl hl=>have S' :=S;obtain⟨m,as,P,N,B⟩:=S';obtain⟨x,vs,n,rfl,hp,g,r⟩:=B.bw _ (.head _);have hlen:=r.length;exact acR (aP g) (by rw[eM];rw[hlen];lia) ⟨f9 hlen,S.pop.dH⟩
inductive TY(Q:Bool->St->Prop)(a:AV)(aO:St):Prop
 |mk (b:Bool) (h:q9 aO.own a b) (q:Q b aO)
inductive PS(Q:Bool->St->Prop)(v:AV)(gW:St):Prop
 |mk (x:Bool) (e:v= .f (.bool x)) (q:Q x gW)
theorem bF(h:Ev c e st (TY Q))
  (he:isTrue e c.env (acp e c.env)=(do let v<-acp e c.env;aau e.pos;NA [v] (truthy v)):=by rfl):tG c e st Q:=λT s S=>
 isTrue_plain (wpS (h.run T s S) (λv s' z=>by obtain⟨a,aO,S',b,H,q⟩:=z;refine wpS (FG H S') (λx s2 z=>?_);obtain⟨rfl,S2⟩:=z;exact⟨aO,S2,q⟩)) he
theorem aE
  (h:Ev c l st (MR c r (λvs=>match vs with| [y,x]=>md op x y|_=> .raise .none) (PS Q)))
  (hm:behindInMarks op r=false:=by rfl):tG c (.Compare l [op] [r] pos) st Q:=λT s S=>by
 refine adP (wpS (h.run T s S) (λx s1 z=>?_)) hm;obtain⟨a,bl,S1,h1⟩:=z;refine wpS (h1.run _ s1 S1) (λy s2 z=>?_);obtain⟨b,bD,S2,h2⟩:=z;refine wpS (h2 T [y,x] s2 rfl S2) (λv s3 z=>?_);obtain⟨v',gW,S3,x,rfl,q⟩:=z;cases S3.B9;exact xa ⟨gW,S3.pop,q⟩
def TZ(Q:Bool->St->Prop):Bool->St->Prop:=λb aO=>Q (!b) aO
theorem gD(h:tG c e st (TZ Q)):tG c (.UnaryOp .Not e pos) st Q:=λT s S=>isTrue_not (wpS (h T s S) (λaa aa z=>by obtain⟨aO,S',q⟩:=z;exact⟨aO,S',q⟩))
theorem j7(h:Q true st):tG c (.BoolOp .And [] pos) st Q:=λT s S=>isTrue_and_nil ⟨st,S,h⟩
theorem An(h:Q false st):tG c (.BoolOp .Or [] pos) st Q:=λT s S=>isTrue_or_nil ⟨st,S,h⟩
def T3(c:Cx)(r:List Expr)(pos:Pos)(Q:Bool->St->Prop):Bool->St->Prop:=λb aO=>if b=true then tG c (.BoolOp .And r pos) aO Q else Q false aO
def YK(c:Cx)(r:List Expr)(pos:Pos)(Q:Bool->St->Prop):Bool->St->Prop:=λb aO=>if b=true then Q true aO else tG c (.BoolOp .Or r pos) aO Q
theorem dD(h:tG c e st (T3 c r pos Q)):tG c (.BoolOp .And (e::r) pos) st Q:=λT s S=>
 isTrue_and (wpS (h T s S) (λb s' z=>by
  obtain⟨aO,S',q⟩:=z;cases b with
  |true=>exact q T s' S'
  |false=>exact⟨aO,S',q⟩))
theorem FH(h:tG c e st (YK c r pos Q)):tG c (.BoolOp .Or (e::r) pos) st Q:=λT s S=>
 isTrue_or (wpS (h T s S) (λb s' z=>by
  obtain⟨aO,S',q⟩:=z;cases b with
  |true=>exact⟨aO,S',q⟩
  |false=>exact q T s' S'))
def T4(c:Cx)(a b:Expr)(Q:AV->St->Prop):Bool->St->Prop:=λx aO=>if x=true then Ev c a aO Q else Ev c b aO Q
theorem j8(h:tG c t st (T4 c a b Q)):Ev c (.IfExp t a b pos) st Q:= .mk λT s S=>
 wpAny_IfExp (wpS (h T s S) (λx s' z=>by
  obtain⟨aO,S',q⟩:=z;cases x with
  |true=>exact Ev.run q T s' S'
  |false=>exact Ev.run q T s' S'))
def PU(I:Nat->St->Prop)(n:Nat)(Q:Fl->St->Prop):Fl->St->Prop:=λf bD=>match f with
 | .next| .cont=> ∃m,m<n/\I m bD
 | .brk=>Q .next bD
 | .ret a=>Q (.ret a) bD
def M1(c:Cx)(b r:List aa4)(I:Nat->St->Prop)(n:Nat)(Q:Fl->St->Prop):Bool->St->Prop:=λx bl=>if x=true then bM c b bl (PU I n Q)else bM c r bl Q
theorem xA(I:Nat->St->Prop)(n:Nat)(h:I n st)
  (turn: ∀n st,I n st->tG c t st (M1 c b r I n Q)):Ex c (.While t b r pos) st Q:= .mk λT s S=>by
 refine wpAny_While (codeAny_whileLoop (λn s=> ∃st,aX c st T s/\I n st) (λn s hI=>?_) n ⟨st,S,h⟩);obtain⟨st,S,hI⟩:=hI;refine mu (turn n st hI T s S) (λx s1 z=>?_);obtain⟨bl,S1,q⟩:=z;cases x with
 |true=>
  refine mu (bM.run q T s1 S1) (λf s2 z=>?_);obtain⟨a,bD,hf,hq⟩:=z;cases a with
  |next=>obtain⟨rfl,S2⟩:=hf;obtain⟨m,hm,hq⟩:=hq;exact⟨m,hm,bD,S2,hq⟩
  |cont=>obtain⟨rfl,S2⟩:=hf;obtain⟨m,hm,hq⟩:=hq;exact⟨m,hm,bD,S2,hq⟩
  |brk=>obtain⟨rfl,S2⟩:=hf;exact⟨.next,bD,⟨rfl,S2⟩,hq⟩
  |ret a=>obtain⟨v,rfl,S2⟩:=hf;exact⟨.ret a,bD,⟨v,rfl,S2⟩,hq⟩
 |false=>exact mu (bM.run q T s1 S1) (λf s2 z=>z)
theorem d7(hm:IntMulOk a b)(h:Q (.f (.int (a*b))) st):Op c [.f (.int b),.f (.int a)] (λvs=>match vs with| [y,x]=>FX .Mult x y|_=> .raise .none) st Q:=ji h λaa aa aa aa q=>ah6 (q _) hm
theorem oR(hb:b≠0)(hs:b.natAbs.log2<9000)(h:Q (.f (.int (a.fdiv b))) st):Op c [.f (.int b),.f (.int a)] (λvs=>match vs with| [y,x]=>FX .FloorDiv x y|_=> .raise .none) st Q:=ji h λaa aa aa aa q=>floordiv_int hb (q _) (.inl (PyProof.noPylong_of_log2 hs))
theorem nk{f:a7->a7->Sem a7}(h:Q (.f (.bool r)) st)
  (hf: ∀(t u:Tok) (s:a8) (R:a7->a8->Prop),R (.bool r) s->dE (dC c.prog c.w) c.A (f (.int a t) (.int b u)) R (λaa aa=>False) s):
  Op c [.f (.int b),.f (.int a)] (λvs=>match vs with| [y,x]=>f x y|_=> .raise .none) st Q:=
 qU λT x y s S=>by obtain⟨t,PG⟩:=S.jZ;rw[PG];obtain⟨u,YL⟩:=S.pop.jZ;rw[YL];exact hf u t s _ ⟨_,st,S.jR.bool,h⟩
theorem Ci(h:Q (.f (.bool (decide (a<b)))) st):Op c [.f (.int b),.f (.int a)] (λvs=>match vs with| [y,x]=>md .Lt x y|_=> .raise .none) st Q:=nk h λaa aa aa aa q=>aia q
theorem LH(h:Q (.f (.bool (decide (a≤b)))) st):Op c [.f (.int b),.f (.int a)] (λvs=>match vs with| [y,x]=>md .LtE x y|_=> .raise .none) st Q:=nk h λaa aa aa aa q=>aib q
theorem nq(h:Q (.f (.bool (decide (b<a)))) st):Op c [.f (.int b),.f (.int a)] (λvs=>match vs with| [y,x]=>md .Gt x y|_=> .raise .none) st Q:=nk h λaa aa aa aa q=>aic q
theorem LI(h:Q (.f (.bool (decide (b≤a)))) st):Op c [.f (.int b),.f (.int a)] (λvs=>match vs with| [y,x]=>md .GtE x y|_=> .raise .none) st Q:=nk h λaa aa aa aa q=>aid q
theorem PV(h:Q (.f (.bool (a !=b))) st):Op c [.f (.int b),.f (.int a)] (λvs=>match vs with| [y,x]=>md .NotEq x y|_=> .raise .none) st Q:=nk h λaa aa aa aa q=>aie q
theorem M3(h:Q (.f (.bool (a==b))) st):Op c [.f (.str b),.f (.str a)] (λvs=>match vs with| [y,x]=>md .Eq x y|_=> .raise .none) st Q:=qU λT x y s S=>by obtain⟨t,rfl⟩:=S.str1;obtain⟨u,rfl⟩:=S.pop.str1;exact aif ⟨_,st,S.jR.bool,h⟩
theorem M4(h:Q (.f (.bool (a !=b))) st):Op c [.f (.str b),.f (.str a)] (λvs=>match vs with| [y,x]=>md .NotEq x y|_=> .raise .none) st Q:=qU λT x y s S=>by obtain⟨t,rfl⟩:=S.str1;obtain⟨u,rfl⟩:=S.pop.str1;exact aih ⟨_,st,S.jR.bool,h⟩
theorem mJ(h:Q (.f (.int (-a))) st):Op c [.f (.int a)] (λvs=>match vs with| [x]=>unaryOp .USub x|_=> .raise .none) st Q:=by intro T vs s hl S;obtain⟨x,rfl⟩:=JE hl;obtain⟨t,T5⟩:=S.jZ;rw[T5];exact ah7 ⟨_,st,S.pop.dH.int,h⟩
def YM(c:Cx)(f:List a7->Sem a7)(Q:AV->St->Prop):AV->St->Prop:=λa bl=>Op c [a] f bl Q
theorem mK(h:Ev c e st (YM c (λvs=>match vs with| [x]=>unaryOp op x|_=> .raise .none) Q)):Ev c (.UnaryOp op e pos) st Q:= .mk λT s S=>by refine wpAny_UnaryOp (wpS (h.run T s S) (λx s1 z=>?_));obtain⟨a,bl,S1,h1⟩:=z;exact h1 T [x] s1 rfl S1
inductive jm:AV->Bool->Prop
 |none:jm (.f .none) true
 |bool (b:Bool):jm (.f (.bool b)) false
 |int (i:Int):jm (.f (.int i)) false
 |list (l:List FV):jm (.f (.list l)) false
 |inst (C:dq) (l:List (Str×FV)):jm (.f (.inst C l)) false
 |own (i:Nat):jm (.own i) false
theorem uz(H:jm a b)(S:aX c st ((v,a)::T) s):(v==tI)=b:=by
 obtain⟨m,as,P,N,B⟩:=S;have h:=B.bw _ (.head _);cases H with
 |none=>cases h;rfl
 |bool b=>cases h;rfl
 |int i=>obtain⟨t,rfl⟩:=h;rfl
 |list l=>obtain⟨_,_,_,rfl,_⟩:=h;rfl
 |inst C l=>obtain⟨_,_,_,rfl,_⟩:=h;rfl
 |own i=>obtain⟨_,_,rfl⟩:=h;rfl
theorem FI(H:jm a b)(h:Q (.f (.bool b)) st):Op c [.f .none,a] (λvs=>match vs with| [y,x]=>md .Is x y|_=> .raise .none) st Q:=qU λT x y s S=>by cases S.uo;have e:=uz H S.pop;exact is_none (by rw[e];exact⟨_,st,S.jR.bool,h⟩)
theorem j9(H:jm a b)(h:Q (.f (.bool !b)) st):Op c [.f .none,a] (λvs=>match vs with| [y,x]=>md .IsNot x y|_=> .raise .none) st Q:=qU λT x y s S=>by cases S.uo;have e:=uz H S.pop;exact isNot_none (by rw[e];exact⟨_,st,S.jR.bool,h⟩)
end
def cA(l:List (Str×AV))(x:Str)(a:AV)(l' :List (Str×AV)):Prop:= ∀e∈l',e=(x,a)∨(e∈l/\e.1≠x)
noncomputable def noName(l:List (Str×AV))(x:Str):Bool:=l.all λe=>decide (e.1≠x)
theorem gX(h:noName l x=true)(he:e∈l):e.1≠x:=of_decide_eq_true (d6.mp h e he)
theorem aU(h:noName l x=true):cA l x a (l++[(x,a)]):=λe he=>by
 rcases cp.mp he with he|he
 ·exact .inr ⟨he,gX h he⟩
 ·rcases a5.mp he with rfl|he
  ·exact .inl rfl
  ·cases he
theorem lT{α:Type}: ∀{l:List α} {i:Nat} {b e:α},e∈l.set i b->e=b∨e∈l.eraseIdx i
 | [],_,_,_,h=>by simp at h
 |a::l,0,b,e,h=>by
  rcases a5.mp h with h|h
  ·exact .inl h
  ·exact .inr h
 |a::l,i+1,b,e,h=>by
  rcases a5.mp h with h|h
  ·exact .inr (h▸ae9)
  ·exact(lT h).imp id λq=>aem _ q
theorem gO(h:noName (l.eraseIdx i) x=true):cA l x a (l.set i (x,a)):=λaa he=>(lT he).imp id λq=>⟨List.mem_of_mem_eraseIdx q,gX h q⟩
section
variable{c:Cx}{st:St}{T:List (a7×AV)}{s:a8}
noncomputable def storeOk (c:Cx)(x:Str):Bool:=decide (c.env.kindOf x=some .local)||(decide (c.env.kindOf x=some .cell)&&((c.env.cells.lookup x).isSome&&c.cw x))
theorem aX.eZ(S:aX c st ((v,a)::T) s)(O:Ok c)(hl:storeOk c x=true)(h:cA st.loc x a l):
  dE (dC c.prog c.w) c.A (agw c.env x v) (λaa s' =>aX c ⟨l,st.own⟩ T s') (λaa aa=>False) s:=by
 have k:dE (dC c.prog c.w) c.A (agw c.env x v) (λaa s' =>aX c ⟨(x,a)::st.loc.filter λe=>decide (e.1≠x),st.own⟩ T s') (λaa aa=>False) s:=by
  unfold storeOk at hl;simp only[X1,dk,decide_eq_true_eq]at hl;rcases hl with hl|⟨hl,hb,hw⟩
  ·exact S.store (l:=st.loc.filter λe=>decide (e.1≠x)) hl (by simp[d6]) (λe he=>(fI.mp he).1) O.kind
  ·obtain⟨b,hb⟩:=cx.mp hb;exact S.MT O (l:=st.loc.filter λe=>decide (e.1≠x)) hl hb hw (by simp[d6]) (λe he=>(fI.mp he).1)
 refine wpS k (λaa s' S' =>?_);exact S'.loc λe he=>by
  rcases h e he with rfl|⟨h1,h2⟩
  ·exact .head _
  ·exact .tail _ (fI.mpr ⟨h1,decide_eq_true h2⟩)
inductive T6(x:Str)(Q:Fl->St->Prop)(a:AV)(aO:St):Prop
 |mk (h:noName aO.loc x=true) (q:Q .next ⟨aO.loc++[(x,a)],aO.own⟩)
inductive T7(x:Str)(i:Nat)(Q:Fl->St->Prop)(a:AV)(aO:St):Prop
 |mk (h:noName (aO.loc.eraseIdx i) x=true) (q:Q .next ⟨aO.loc.set i (x,a),aO.own⟩)
theorem aJ(O:Ok c)(h:Ev c e st (T6 x Q))
  (hl:storeOk c x=true:=by kernel_rfl)(JS:ab7 e (some (.Name x p')) pos.line c.env=pure false:=by rfl):Ex c (.Assign [.Name x p'] e pos) st Q:= .mk λT s S=>by
 refine afB (wpS (h.run T s S) (λv s1 z=>?_)) JS;obtain⟨a,bl,S1,h1,q⟩:=z;exact wpS (S1.eZ O hl (aU h1)) (λaa s2 S2=>⟨.next,_,⟨rfl,S2⟩,q⟩)
theorem d8(O:Ok c)(i:Nat)(h:Ev c e st (T7 x i Q))
  (hl:storeOk c x=true:=by kernel_rfl)(JS:ab7 e (some (.Name x p')) pos.line c.env=pure false:=by rfl):Ex c (.Assign [.Name x p'] e pos) st Q:= .mk λT s S=>by
 refine afB (wpS (h.run T s S) (λv s1 z=>?_)) JS;obtain⟨a,bl,S1,h1,q⟩:=z;exact wpS (S1.eZ O hl (gO h1)) (λaa s2 S2=>⟨.next,_,⟨rfl,S2⟩,q⟩)
theorem az.dF(B:az c st T s m as P N)(_O:Ok c):s.heap.objs.size∉c.tt:=λq=>by obtain⟨_,_,e,_,_⟩:=B.low.2 _ q;exact ib _ (d4 e)
theorem kY:gB tt h (h.push o):=gB.of λaa aa e=>aw _ e
theorem az.iS(B:az c st T s m as P N)(O:Ok c)
  (ho:OR c.w (s.heap.push o) P N as ao s.heap.objs.size):az c ⟨st.loc,st.own++[ao]⟩ ((.ref s.heap.objs.size,.own st.own.length)::T) {s with heap:=s.heap.push o} m (as++[s.heap.objs.size]) P N:=
 have h0:s.heap.get? s.heap.objs.size=none:=dv (cq _)
 az.Ah (B.grow (s' :={s with heap:=s.heap.push o}) kY ⟨[],by simp,λaa h=>nomatch h⟩ rfl) ho (B.cE h0 (B.dF O)) λaa hp=>B.jg h0 hp
theorem az.oU(B:az c st T s m as P N)(O:Ok c)
  (hr:VR (s.heap.push o) (λa=>N a∨a=s.heap.objs.size) r v):aX c st ((v,.n r)::T) {s with heap:=s.heap.push o}:=
 B.jk ⟨kY,⟨[],by simp,λaa h=>nomatch h⟩,rfl⟩ (VR.mono (λaa aa aa e=>e) (λa q=>q.imp id λq=>by subst q;exact⟨dv (cq _),B.dF O⟩) hr)
theorem bu.mO{h:wq}{P N:dq->Prop}{as:List dq}: ∀{l:List AV} {vs:List a7},vs.length=l.length->(∀p∈vs.zip l,dj h P N as p.2 p.1)->bu h P N as l vs
 | [],[],_,_=>rfl
 | [],_::_,e,_=>by cases e
 |_::_,[],e,_=>by cases e
 |_::_,_::_,e,H=>⟨_,_,rfl,H _ (.head _),bu.mO (by simpa using e) λp hp=>H p (.tail _ hp)⟩
inductive Kept:AV->FV->Prop
 |f {x:FV}:x.flat=true->Kept (.f x) x
 |n (x:FV):Kept (.n x) x
inductive cT:List AV->List FV->Prop
 |nil:cT [] []
 |cons {a:AV} {x:FV} {l:List AV} {xs:List FV}:Kept a x->cT l xs->cT (a::l) (x::xs)
theorem Kept.vr{h h' :wq}{P N N' :dq->Prop}{as:List dq}(k: ∀a o,N a->h.get? a=some o->h'.get? a=some o)(n: ∀a,N a->N' a): ∀{a:AV} {x:FV} {v:a7},Kept a x->dj h P N as a v->VR h' N' x v:=by
 intro y0 y1 y2 lz;cases lz with
 |f e=>intro r;exact VR.vM e r
 |n _=>intro r;exact VR.mono k n r
theorem cT.Pb{h h' :wq}{P N N' :dq->Prop}{as:List dq}(k: ∀a o,N a->h.get? a=some o->h'.get? a=some o)(n: ∀a,N a->N' a): ∀{l:List AV} {xs:List FV} {vs:List a7},cT l xs->bu h P N as l vs->eW h' N' xs vs:=λ{l xs vs} H r=>by
 induction l generalizing xs vs with
 |nil=>cases H;exact r
 |cons _ _ ih=>
  cases H with
  |cons a b=>obtain⟨v,vs,e,x,y⟩:=r;exact⟨v,vs,e,a.vr k n x,ih b y⟩
theorem Dy(h:cT l xs):l.length=xs.length:=by
 induction h with
 |nil=>rfl
 |cons _ _ ih=>simp[ih]
inductive PW(f:List AV->AO)(Q:AV->St->Prop)(as:List AV)(aO:St):Prop
 |mk (h:as.length.ble 1000=true) (q:Q (.own aO.own.length) ⟨aO.loc,aO.own++[f as]⟩)
inductive LJ(f:List FV->FV)(Q:AV->St->Prop)(as:List AV)(aO:St):Prop
 |mk (h:as.length.ble 1000=true) (xs:List FV) (k:cT as xs) (q:Q (.n (f xs)) aO)
theorem e7(O:Ok c)(hp:es.all plainArg=true)(h:uq c es st (LJ .tuple Q)):Ev c (.Tuple es k pos) st Q:= .mk λT s S=>by refine wpAny_Tuple (wpS (dJ h hp pos T s S) (λvs s1 z=>?_));obtain⟨as,aO,hl,S1,hle,xs,hk,q⟩:=z;obtain⟨m,bs,P,N,B⟩:=S1;refine⟨by rw[hl];rw[mB];have:=bo hle;exact ae this (by decide),.n (.tuple xs),aO,(B.less λp hp=>ba _ hp).oU O ?_,q⟩;exact⟨_,vs,0,rfl,.inr rfl,bc _ rfl,hk.Pb (λa o aa e=>aw _ e) (λaa p=> .inl p) (bu.mO hl λp hp=>B.bw p (bp _ hp))⟩
theorem bR(O:Ok c)(hp:es.all plainArg=true)(h:uq c es st (PW .list Q)):Ev c (.List es pos) st Q:= .mk λT s S=>by refine wpAny_List (wpS (dJ h hp pos T s S) (λvs s1 z=>?_));obtain⟨as,aO,hl,S1,hle,q⟩:=z;obtain⟨m,bs,P,N,B⟩:=S1;refine⟨by rw[hl];rw[mB];have:=bo hle;exact ae this (by decide),_,_,⟨m,_,P,N,(B.less λp hp=>ba _ hp).iS O ?_⟩,q⟩;refine⟨vs,0,bc _ rfl,(bu.mO hl λp hp=>B.bw p (bp _ hp)).mono (λa o p e=>aw _ e) (λaa x=>x) (λa o p e=>aw _ e) (λaa x=>x) λaa aa e=>e⟩
theorem gY(O:Ok c)(hp:es.all plainArg=true)(h:uq c es st (LJ .list Q)):Ev c (.List es pos) st Q:= .mk λT s S=>by refine wpAny_List (wpS (dJ h hp pos T s S) (λvs s1 z=>?_));obtain⟨as,aO,hl,S1,hle,xs,hk,q⟩:=z;obtain⟨m,bs,P,N,B⟩:=S1;refine⟨by rw[hl];rw[mB];have:=bo hle;exact ae this (by decide),.n (.list xs),aO,(B.less λp hp=>ba _ hp).oU O ?_,q⟩;exact⟨_,vs,0,rfl,.inr rfl,bc _ rfl,hk.Pb (λa o aa e=>aw _ e) (λaa p=> .inl p) (bu.mO hl λp hp=>B.bw p (bp _ hp))⟩
theorem oV(O:Ok c)(hp:es.all plainArg=true)(h:uq c es st (PW .tuple Q)):Ev c (.Tuple es k pos) st Q:= .mk λT s S=>by refine wpAny_Tuple (wpS (dJ h hp pos T s S) (λvs s1 z=>?_));obtain⟨as,aO,hl,S1,hle,q⟩:=z;obtain⟨m,bs,P,N,B⟩:=S1;refine⟨by rw[hl];rw[mB];have:=bo hle;exact ae this (by decide),_,_,⟨m,_,P,N,(B.less λp hp=>ba _ hp).iS O ?_⟩,q⟩;refine⟨vs,0,bc _ rfl,(bu.mO hl λp hp=>B.bw p (bp _ hp)).mono (λa o p e=>aw _ e) (λaa x=>x) (λa o p e=>aw _ e) (λaa x=>x) λaa aa e=>e⟩
end
noncomputable def uA(K:abE)(D:dq):Bool:=ae5 K D "__class__" &&(ae6 K D&&(aaV K (.ref D) "__class__" ==some (some (.builtin "object.__class__"))&&(ahL K (.builtin "object.__class__") "__get__" ==some (some (.builtin "getset_descriptor.__get__"))&&
 (takesIn K (.builtin "object.__class__")==some true&&mroIn K D (.type "object")==some true))))
inductive iC(K:abE)(own:List AO):AV->a7->Prop
 |int (i:Int):iC K own (.f (.int i)) (.type "int")
 |str (x:Str):iC K own (.f (.str x)) (.type "str")
 |bool (b:Bool):iC K own (.f (.bool b)) (.type "bool")
 |none:iC K own (.f .none) (.type "NoneType")
 |fl (l:List FV):iC K own (.f (.list l)) (.type "list")
 |nl (l:List FV):iC K own (.n (.list l)) (.type "list")
 |ol {i:Nat} {l:List AV}:own[i]?=some (.list l)->iC K own (.own i) (.type "list")
 |fi {C:dq} (l:List (Str×FV)):uA K C=true->iC K own (.f (.inst C l)) (.ref C)
 |ni {C:dq} (l:List (Str×FV)):uA K C=true->iC K own (.n (.inst C l)) (.ref C)
 |oi {C:dq} {i j k:Nat} {l:List (Str×AV)}:own[i]?=some (.inst C j)->own[j]?=some (.attrs l k)->uA K C=true->iC K own (.own i) (.ref C)
theorem oW{K:abE}{x d C:dq}{m:Str->Option a7}{h:wq}(hi:uA K C=true)(gx:h.get? x=some (VU C d))(gd:h.Ns d m): ∃H:wq->Prop,KitX K (.ref x) (.ref C) H/\H h:=by refine nn λhN=>?_;obtain⟨o,es,ep,ho,TV,-,hf⟩:=gd;refine hN ?_;have I:abY h x (VU C d) C (some o):=⟨gx,rfl,rfl,ho⟩;unfold uA at hi;simp only[dk,beq_iff_eq]at hi;obtain⟨h1,h2,h3,h4,h5,h6⟩:=hi;exact⟨_,kitx_own (ox:=VU C d) (od:=o) h1 h2 h3 h4 h5 h6,I⟩
theorem rf(g:h.get? a=some o)(e:o.cls= .type T):KitAt a T h:=⟨o,g,e⟩
section
variable{c:Cx}{st:St}{T:List (a7×AV)}{s:a8}
theorem az.PX (B:az c st T s m as P N)(H:iC c.K st.own a t)(h:dj s.heap P N as a v):(∃H:wq->Prop,KitX c.K v t H/\H s.heap)/\v≠ .builtin "__main__.__loader__#opaque" :=by
 cases H with
 |int i=>obtain⟨t,rfl⟩:=h;exact⟨⟨_,kitx_int,trivial⟩,by simp⟩
 |str x=>obtain⟨t,rfl⟩:=h;exact⟨⟨_,kitx_str,trivial⟩,by simp⟩
 |bool b=>cases h;exact⟨⟨_,kitx_bool,trivial⟩,by simp⟩
 |none=>cases h;exact⟨⟨_,kitx_none,trivial⟩,by simp⟩
 |fl l=>obtain⟨a,_,_,rfl,_,g,_⟩:=h;exact⟨⟨_,ahM,rf g rfl⟩,by simp⟩
 |nl l=>obtain⟨a,_,_,rfl,_,g,_⟩:=h;exact⟨⟨_,ahM,rf g rfl⟩,by simp⟩
 |ol hi=>obtain⟨a,ha,rfl⟩:=h;obtain⟨b,hb,vs,n,g,r⟩:=B.own.get hi;cases ha.symm.trans hb;exact⟨⟨_,ahM,rf g rfl⟩,by simp⟩
 |fi l hi=>obtain⟨x,d,m',rfl,_,_,g,n,_⟩:=h;exact⟨oW hi g n,by simp⟩
 |ni l hi=>obtain⟨x,d,m',rfl,_,_,g,n,_⟩:=h;exact⟨oW hi g n,by simp⟩
 |oi hi hj hc=>refine nn λhN=>?_;obtain⟨a,ha,rfl⟩:=h;obtain⟨b,hb,d,hd,g⟩:=B.own.get hi;refine hN ?_;cases ha.symm.trans hb;obtain⟨d',fq,m',n,r,_⟩:=B.own.get hj;cases hd.symm.trans fq;exact⟨oW hc g n.ns,by simp⟩
theorem eW.vals{h:wq}{P:dq->Prop}: ∀{cs:List a7} {vs:List a7},eW h P (cs.map FV.val) vs->vs=cs:=by
 intro lz;induction lz with
 |nil=>intro _ H;exact H
 |cons _ _ ih=>intro _ bA;obtain⟨_,_,e,x,y⟩:=bA;cases x;rw[e];rw[ih y];rfl
theorem tK
  (h: ∀T x y s,aX c st ((x,a)::(y,b)::T) s->dE (dC c.prog c.w) c.A (call f [x,y]) (Got c T Q) (λaa aa=>False) s):aZ c f [a,b] [] [] st Q:=by
 intro T vs us s hl gu S;obtain⟨x,y,rfl⟩:=E1 hl;cases len0 gu;exact h T x y s S
theorem jn
  (h: ∀T x s,aX c st ((x,a)::T) s->dE (dC c.prog c.w) c.A (call f [x]) (Got c T Q) (λaa aa=>False) s):aZ c f [a] [] [] st Q:=by
 intro T vs us s hl gu S;obtain⟨x,rfl⟩:=JE hl;cases len0 gu;exact h T x s S
theorem kZ(O:Ok c)(H:iC c.K st.own a t)(e:kitOne c.K t cv=some b)(h:Q (.f (.bool b)) st):aZ c (.builtin "isinstance") [a,.f (.val cv)] [] [] st Q:=tK λT x y s S=>by have X:=S.cO O;have S' :=S;obtain⟨m,as,P,N,B⟩:=S;have hy:y=cv:=B.bw _ (.tail _ (.head _));subst hy;obtain⟨⟨H',Z,p⟩,hx⟩:=B.PX H (B.bw _ (.head _));exact kia_one Z X p e hx λtk=>⟨_,st,S'.jR.dH.bool,h⟩
theorem nu(O:Ok c)(cs:List a7)(YN:xs=cs.map FV.val)(H:iC c.K st.own a t)(e:kitAny c.K t cs=some b)(h:Q (.f (.bool b)) st):aZ c (.builtin "isinstance") [a,.n (.tuple xs)] [] [] st Q:=tK λT x y s S=>by refine nn λhN=>?_;subst YN;have X:=S.cO O;have S' :=S;obtain⟨m,as,P,N,B⟩:=S;obtain⟨a',vs,n,rfl,_,g,r⟩:=B.bw _ (.tail _ (.head _));have:=r.vals;subst this;obtain⟨⟨H',Z,p⟩,hx⟩:=B.PX H (B.bw _ (.head _));exact hN (kia_tup Z X p g e hx λtk=>⟨_,st,S'.jR.dH.bool,h⟩)
inductive gc(own:List AO):AV->List AV->Prop
 |f (l:List FV):gc own (.f (.tuple l)) (l.map .f)
 |n (l:List FV):gc own (.n (.tuple l)) (l.map .nw)
 |own {i:Nat} {l:List AV}:own[i]?=some (.tuple l)->gc own (.own i) l
theorem Ao{h:wq}{P N:dq->Prop}{as:List dq}: ∀{l:List FV} {vs:List a7},eW h P l vs->bu h P N as (l.map .f) vs:=by
 intro lz;induction lz with
 |nil=>intro _ H;exact H
 |cons _ _ ih=>intro _ bA;obtain⟨v,r,e,x,y⟩:=bA;exact⟨v,r,e,x,ih y⟩
theorem FJ{h:wq}{P N:dq->Prop}{as:List dq}: ∀{l:List FV} {vs:List a7},eW h N l vs->bu h P N as (l.map .nw) vs:=by
 intro lz;induction lz with
 |nil=>intro _ H;exact H
 |cons _ _ ih=>intro _ bA;obtain⟨v,r,e,x,y⟩:=bA;exact⟨v,r,e,Fj x,ih y⟩
theorem az.tup(B:az c st T s m as P N)(H:gc st.own a l)(h:dj s.heap P N as a v):
  E3 λx vs n=>A3 (v= .ref x) (s.heap.get? x=some ⟨.type "tuple",none,.seq (mM vs) n,#[]⟩) (bu s.heap P N as l vs):=by
 cases H with
 |f l=>obtain⟨x,vs,n,e,_,g,r⟩:=h;exact⟨x,vs,n,e,g,Ao r⟩
 |n l=>obtain⟨x,vs,n,e,_,g,r⟩:=h;exact⟨x,vs,n,e,g,FJ r⟩
 |own hi=>obtain⟨x,hx,e⟩:=h;obtain⟨b,hb,vs,n,g,r⟩:=B.own.get hi;cases hx.symm.trans hb;exact⟨x,vs,n,e,g,r⟩
theorem bu.T8{h:wq}{P N:dq->Prop}{as:List dq}: ∀{l:List AV} {vs:List a7},bu h P N as l vs-> ∀p∈vs.zip l,dj h P N as p.2 p.1:=by
 intro lz;induction lz with
 |nil=>intro _ H p hp;cases H;cases hp
 |cons _ _ ih=>
  intro _ xx p hp;obtain⟨_,_,e,x,y⟩:=xx;subst e;rcases a5.mp hp with rfl|hp
  ·exact x
  ·exact ih y p hp
theorem Cj(O:Ok c)(S:aX c st ((v,a)::T) s)(H:gc st.own a l)(hn:n=l.length)
  (h: ∀vs s',vs.length=l.length->aX c st (vs.zip l++T) s' ->Q vs s'):dE (dC c.prog c.w) c.A (unpackItems v n none) Q (λaa aa=>False) s:=by
 obtain⟨m,as,P,N,B⟩:=S;obtain⟨x,vs,k,rfl,g,r⟩:=B.tup H (B.bw _ (.head _));have hlen:=r.length;have e:n=vs.toArray.size:=by rw[eM];rw[hlen];rw[hn];rfl
 subst e;refine wpAny_unpackItems_tuple O.hh ⟨_,g,rfl,_,rfl⟩ λh' he=>h _ _ hlen ?_;have kk: ∀b o,s.heap.get? b=some o->h'.get? b=some o:=λb o e=>he b o (du (d4 e)) e;have B' :az c st T {s with heap:=h' } m as P N:=(B.less λaa h=> .tail _ h).grow (gB.of λb o e=>kk b o e) ⟨[],by simp,λaa h=>nomatch h⟩ rfl;refine⟨m,as,P,N,⟨B'.ns,B'.keep,B'.low,B'.gens,B'.os,B'.loc,B'.own,B'.nd,B'.fresh,B'.pf,B'.old,B'.qf,B'.nP,B'.new,B'.qg,B'.pre,B'.kU,B'.aV,B'.bU,λp hp=>?_⟩⟩;rcases cp.mp hp with hp|hp
 ·exact(r.T8 p hp).mono (λb o aa e=>kk b o e) (λaa x=>x) (λb o aa e=>kk b o e) (λaa x=>x) λaa aa x=>x
 ·exact B'.bw p hp
theorem JV(O:Ok c)
  (h:Ev c e st λa bl=>E4 λu v l1 l2=>A4 (gc bl.own a [u,v]) (cA bl.loc y v l1) (cA l1 x u l2) (Q .next ⟨l2,bl.own⟩))
  (hx:storeOk c x=true:=by kernel_rfl)(hy:storeOk c y=true:=by kernel_rfl)
  (hs:swapsWithSole [.Tuple elts k FL] e pos.line c.env=pure false:=by rfl)
  (hw:swappedStores [.Tuple elts k FL] e c.env=pure (some [x,y]):=by rfl):Ex c (.Assign [.Tuple elts k FL] e pos) st Q:= .mk λT s S=>by
 refine Assign_Tuple_swapped (wpS (h.run T s S) (λv s1 z=>nn λhN=>?_)) hs hw;obtain⟨a,bl,S1,u,v',l1,l2,H,h1,h2,q⟩:=z;refine hN (Cj O S1 H rfl λvs s2 hl S2=>?_);obtain⟨a1,b1,rfl⟩:=E1 hl;have S3:aX c bl ((b1,v')::(a1,u)::T) s2:=S2.pick [1,0] 2;exact aa8 (wpAny_bindName (wpS (S3.eZ O hy h1) (λaa s3 S4=>aa8 (wpAny_bindName (wpS (S4.eZ O hx h2) (λaa s4 S5=>afC ⟨.next,_,⟨rfl,S5⟩,q⟩))))))
end
inductive d9(own:List AO)(C:dq):AV->Prop
 |f (l:List (Str×FV)):d9 own C (.f (.inst C l))
 |n (l:List (Str×FV)):d9 own C (.n (.inst C l))
 |own {i j k:Nat} {l:List (Str×AV)}:own[i]?=some (.inst C j)->own[j]?=some (.attrs l k)->d9 own C (.own i)
noncomputable def FV.oX(x:FV):Bool:=x.JF true true (λaa=>true) (λaa=>true) (λaa=>true) (λaa=>true) (λaa=>false) false
theorem VR.real(H:VR h P r v)(q:r.oX=true):v≠ .notImplemented:=by rintro rfl;cases r<;>first|(cases q;done)|(cases H;done)|(obtain⟨_,e⟩:=H;cases e;done)|(obtain⟨_,e,_⟩:=H;cases e;done)|(obtain⟨_,_,e,_⟩:=H;cases e;done)|(obtain⟨_,_,_,e,_⟩:=H;cases e;done)|(obtain⟨_,_,_,_,e,_⟩:=H;cases e;done)
theorem Aq(h:v≠ .notImplemented)(q:Q v s):ahN Q v s:=by cases v<;>first|exact(h rfl).elim|exact q
section
variable{c:Cx}{st:St}{T:List (a7×AV)}{s:a8}
noncomputable def vS (h:wq)(L:dq):wq:=⟨h.objs.extract 0 L,h.life⟩
set_option tactic.hygienic true in
theorem pO:(vS h L).get? b=if b<L then h.get? b else none:=by
 have e:(h.objs.extract 0 L)[b]?=if b<L then h.objs[b]? else none:=by
  rw[Array.getElem?_extract];rw[Mo];rw[ahO]
  by_cases q:b<L
  ·rw[if_pos q];split
   ·rfl
   ·rename_i z
    exact(Tb (by rw[afD]at z;exact mr.mp λy=>z ⟨q,y⟩)).symm
  ·rw[if_neg q];rw[if_neg (λy=>q (afD.mp y).1)];rfl
 unfold Heap.get? vS;rw[e]
 by_cases q:b<L
 ·rw[if_pos q];rw[if_pos q];rfl
 ·rw[if_neg q];rw[if_neg q];rfl
theorem az.fr(B:az c st T s m as P N)(O:Ok c): ∃h0,c.K.In h0/\Fr h0 c.env.locals s.heap m:=by
 refine⟨vS s.heap c.env.locals,λa o e=>?_,⟨B.ns,λb o e=>?_,?_⟩⟩
 ·rw[pO];rw[if_pos (B.low.1.2 a o e)];exact B.keep a o (O.cO a o e)
 ·rw[pO]at e;split at e
  ·exact e
  ·exact(cu rfl e).elim
 ·show(s.heap.objs.extract 0 c.env.locals).size≤_;rw[Array.size_extract];exact ae (Q1 _ _) (Dx _ _)
theorem az.inst(B:az c st T s m as P N)(H:d9 st.own C a)(h:dj s.heap P N as a v):
  E3 λx d o=>v= .ref x/\abY s.heap x (VU C d) C (some o):=by
 cases H with
 |f l=>obtain⟨x,d,m',e,_,_,g,⟨o,es,ep,ho,_⟩,_⟩:=h;exact⟨x,d,o,e,g,rfl,rfl,ho⟩
 |n l=>obtain⟨x,d,m',e,_,_,g,⟨o,es,ep,ho,_⟩,_⟩:=h;exact⟨x,d,o,e,g,rfl,rfl,ho⟩
 |own hi hj=>obtain⟨x,hx,e⟩:=h;obtain⟨x',mG,d,hd,g⟩:=B.own.get hi;cases hx.symm.trans mG;refine nn λhN=>?_;obtain⟨d',fq,m',⟨o,es,ep,ho,_⟩,r,_⟩:=B.own.get hj;refine hN ?_;cases hd.symm.trans fq;exact⟨x,d,o,e,g,rfl,rfl,ho⟩
theorem Ck(O:bQ c n)(H:Spec c.prog c.w c.K c.tt n' f xs [] R)(hn:n' +1≤n)(hs:fD st.own [a,b] xs)(h: ∀r,R r->r.oX=true/\Q (.nw r) st)
  (S:aX c st ((x,a)::(y,b)::T) s):dE (dC c.prog c.w) c.A (call f [x,y]) (ahN (Got c T Q)) (λaa aa=>False) s:=by
 have S' :=S;obtain⟨m,bs,P,N,B⟩:=S';have hv:=B.Ca (vs:=[x,y]) hs rfl λp hp=>by
  rcases a5.mp hp with rfl|hp
  ·exact .head _
  ·rcases a5.mp hp with rfl|hp
   ·exact .tail _ (.head _)
   ·cases hp
 refine H.call c.A s [x,y] [] _ (S.good O O.hh (cb c.A.depth 3) (cb c.A.units 39) hn) hv rfl λv s' r hr e hx=>Aq (hx.real (h r hr).1) ⟨_,st,(S.jk e hx).nw.pick [0] 3,(h r hr).2⟩
theorem M5(O:bQ c n)(ha:d9 st.own C a)(hb:d9 st.own C b)(hc:agz c.K C=true)
  (hs:aaV c.K (.ref C) (acz op.info.2)=some (some (.ref f)))(hf:isFn c.K (.ref f)=true)(H:Spec c.prog c.w c.K c.tt n' (.ref f) xs [] R)(hn:n' +1≤n)(qz:fD st.own [a,b] xs)(h: ∀r,R r->r.oX=true/\Q (.nw r) st):
  Op c [b,a] (λvs=>match vs with| [y,x]=>FX op x y|_=> .raise .none) st Q:=qU λT x y s S=>by
 have S1:aX c st ((x,a)::(y,b)::T) s:=S.pick [1,0] 2;have one:=Ck O H hn qz h S1;obtain⟨m,bs,P,N,B⟩:=S1;obtain⟨x',d,o,rfl,I⟩:=B.inst ha (B.bw _ (.head _));obtain⟨y',d',o',rfl,J⟩:=B.inst hb (B.bw _ (.tail _ (.head _)));obtain⟨_,Xf,Ff⟩:=B.fr O.toOk;exact binop_K Ff Xf I J.type hc hs hf one
theorem Cm(O:bQ c n)(ha:d9 st.own C a)(hc:agz c.K C=true)
  (hs:aaV c.K (.ref C) (acz op.info.2)=some (some (.ref f)))(hf:isFn c.K (.ref f)=true)(hr:aaV c.K (.ref C) (dunderR op.info.2)=some rc)(hp:rc=none∨ ∃g:dq,rc=some (.ref g))
  (h1:aaV c.K (.type "int") (acz op.info.2)=some fo)(h2:aaV c.K (.type "int") (dunderR op.info.2)=some ro)(qh:subIn c.K (.type "int") (.ref C)=some false)
  (H:Spec c.prog c.w c.K c.tt n' (.ref f) xs [] R)(hn:n' +1≤n)(qz:fD st.own [a,.f (.int i)] xs)(h: ∀r,R r->r.oX=true/\Q (.nw r) st):
  Op c [.f (.int i),a] (λvs=>match vs with| [y,x]=>FX op x y|_=> .raise .none) st Q:=qU λT x y s S=>by
 have S1:aX c st ((x,a)::(y,.f (.int i))::T) s:=S.pick [1,0] 2;have one:=Ck O H hn qz h S1;obtain⟨m,bs,P,N,B⟩:=S1;obtain⟨x',d,o,rfl,I⟩:=B.inst ha (B.bw _ (.head _));obtain⟨t,rfl⟩:=B.bw _ (.tail _ (.head _));obtain⟨_,Xf,Ff⟩:=B.fr O.toOk;exact ksp_binT (T:="int") Ff Xf I rfl hc hs hf hr hp h1 h2 qh one
theorem Ar(O:bQ c n)(ha:d9 st.own C a)(hb:d9 st.own C b)
  (hs:aaV c.K (.ref C) (cmpInfo op).2.1=some (some (.ref f)))(hf:isFn c.K (.ref f)=true)(H:Spec c.prog c.w c.K c.tt n' (.ref f) xs [] R)(hn:n' +1≤n)(qz:fD st.own [a,b] xs)(h: ∀r,R r->r.oX=true/\Q (.nw r) st)
  (ho: ∀x y,md op x y=ada op x y):
  Op c [b,a] (λvs=>match vs with| [y,x]=>md op x y|_=> .raise .none) st Q:=qU λT x y s S=>by
 have S1:aX c st ((x,a)::(y,b)::T) s:=S.pick [1,0] 2;have one:=Ck O H hn qz h S1;obtain⟨m,bs,P,N,B⟩:=S1;obtain⟨x',d,o,rfl,I⟩:=B.inst ha (B.bw _ (.head _));obtain⟨y',d',o',rfl,J⟩:=B.inst hb (B.bw _ (.tail _ (.head _)));rw[ho];obtain⟨_,Xf,Ff⟩:=B.fr O.toOk;exact cmp_K (tb:= .ref C) (by have:=O.un;lia) Ff Xf I J.type (by unfold notFirst;simp) hs hf one
theorem M6{prog:d5}{w:fA}{A:ka}{E:a7->a8->Prop}{s:a8}{K:abE}{x C f:dq}{ox:Obj}{od:Option Obj}{nm:String}{b:a7}{Q:Option a7->a8->Prop}(X:K.In s.heap)(I:abY s.heap x ox C od)(hb:Looks (dC prog w) s.heap (typeOf b) (.ref C))(hc:agz K C=true)
  (hs:aaV K (.ref C) (acz nm)=some (some (.ref f)))(hf:isFn K (.ref f)=true)(h:dE (dC prog w) A (call (.ref f) [.ref x,b]) (ahN λv s' =>Q (some v) s') E s):dE (dC prog w) A (ahP nm (.ref x) b) Q E s:=by
 obtain⟨cd,rest,MU,hm⟩:=ksp_first hc;unfold ahP;refine ab (I.type.here (ab (hb.here (ab ((fills_K X MU hm hs).here ?_)))));rw[show(Value.ref C==Value.ref C)=true from beq_self_eq_true _];refine ab (m:=pure false) (ax (ab (m:=pure false) (ax (ab (m:=tryMethod (.ref x) _ b) ?_))));unfold tryMethod;refine ab (special_fn X I hs (beq_iff_eq.mp hf) (hO h (λv s' hv=>?_) λaa aa e=>e));cases v<;>first|exact hv.elim|exact ax (ax hv)
theorem As(O:bQ c n)(ha:d9 st.own C a)(hb:d9 st.own C b)(hc:agz c.K C=true)
  (hs:aaV c.K (.ref C) (acz op.info.2)=some (some (.ref f)))(hf:isFn c.K (.ref f)=true)(hi:ag7 c.K ⟨c.prog,c.w.params⟩ (af8 (.ref C) op.info.2 (op== .Add))=some false)
  (H:Spec c.prog c.w c.K c.tt n' (.ref f) xs [] R)(hn:n' +1≤n)(qz:fD st.own [a,b] xs)(h: ∀r,R r->r.oX=true/\Q (.nw r) st):
  Op c [b,a] (λvs=>match vs with| [y,x]=>afa op x y|_=> .raise .none) st Q:=qU λT x y s S=>by
 have S1:aX c st ((x,a)::(y,b)::T) s:=S.pick [1,0] 2;have one:=Ck O H hn qz h S1;have X:=S1.cO O.toOk;obtain⟨m,bs,P,N,B⟩:=S1;obtain⟨x',d,o,rfl,I⟩:=B.inst ha (B.bw _ (.head _));obtain⟨y',d',o',rfl,J⟩:=B.inst hb (B.bw _ (.tail _ (.head _)));have L0:Looks (dC c.prog c.w) s.heap (af8 (.ref C) op.info.2 (op== .Add)) false:=Hc (M:=dC c.prog c.w) X hi;unfold afa;refine eJ (ab (I.type.here (ab (L0.here (ab (m:=ahP _ _ _) (M6 X I J.type hc hs hf (hO one (λv s' hv=>?_) λaa aa e=>e)))))));cases v<;>first|exact hv.elim|exact ax hv
end
section
variable{c:Cx}{st:St}{T:List (a7×AV)}{s:a8}
theorem dG (O:Ok c)(i:Nat)(cv:a7)(b:Bool)(hi:st.loc[i]?=some (x,a))(H:iC c.K st.own a t)(h:Q b st)
  (hl:c.env.kindOf x=some .local:=by rfl)
  (e1:ag7 c.K ⟨c.prog,c.w.params⟩ (abC c.env "isinstance")=some (.builtin "isinstance"):=by kernel_rfl)(e2:ag7 c.K ⟨c.prog,c.w.params⟩ (abC c.env C)=some cv:=by kernel_rfl)(e:kitOne c.K t cv=some b:=by kernel_rfl)
  (hd:(x==("__debug__" :Str))=false:=by kernel_rfl)(hd2:(C==("__debug__" :Str))=false:=by kernel_rfl):
  tG c (.Call (.Name "isinstance" p1) [.Name x p2,.Name C p3] [] pos) st Q:=
 bF (ai O (f:= .builtin "isinstance") e1 rfl rfl rfl (af O i hi (bV O (v:=cv) e2 (kZ O (b:=b) H e ⟨_,.b _,h⟩) hd2) hl hd))
inductive PY(c:Cx)(y:Expr)(Q:AV->St->Prop)(a:AV)(bl:St):Prop
 |mk (b:Bool) (e:a= .f (.bool b)) (q:if b=true then Ev c y bl Q else Q a bl)
theorem JW(h:Ev c x st (PY c y Q)):Ev c (.BoolOp .And [x,y] pos) st Q:= .mk λT s S=>by
 refine wpAny_And2 (wpS (h.run T s S) (λv s1 z=>?_));obtain⟨a,bl,S1,b,rfl,q⟩:=z;cases S1.B9;refine xa ?_;cases b with
 |true=>exact Ev.run q T s1 S1.pop
 |false=>exact⟨_,bl,S1,q⟩
theorem FN{p:Prop}[Decidable p]{A B:Prop}(h1:p->A)(h2: ¬p->B):if p then A else B:=by
 split
 ·exact h1 ‹_›
 ·exact h2 ‹_›
end
theorem oY(hd:o.data= .dict es ep)(hk:StrKeys es)(h:ahJ es name=none):ahK name o=some none:=by
 have hr:es.toList.any (·.refKey)=false:=by refine eV (afE ..) ?_;intro e he;obtain⟨n,t,q⟩:=hk e (Array.mem_toList_iff.mp he);simp[af7,q]
 unfold ahJ findBy at h;unfold ahK;rw[hd];dsimp only;rw[<-acw]at h;cases q:es.toList.find? (λe=>e.key.isStr name)with
 |none=>simp only[hr];rfl
 |some e=>rw[q]at h;exact(cu h rfl).elim
inductive uB(own:List AO)(C:dq)(name:Str):AV->Prop
 |f {l:List (Str×FV)}:(l.all λe=>decide (name≠e.1))=true->uB own C name (.f (.inst C l))
 |n {l:List (Str×FV)}:(l.all λe=>decide (name≠e.1))=true->uB own C name (.n (.inst C l))
 |own {i j k:Nat} {l:List (Str×AV)}:own[i]?=some (.inst C j)->own[j]?=some (.attrs l k)->(l.all λe=>decide (name≠e.1))=true->uB own C name (.own i)
theorem gZ{β:Type}{l:List (Str×β)}{name:Str}(h:(l.all λe=>decide (name≠e.1))=true):name∉l.map (·.1):=λq=>by obtain⟨e,he,rfl⟩:=bb.mp q;exact of_decide_eq_true (d6.mp h e he) rfl
noncomputable def FO(K:abE)(C:dq)(name:Str)(f:dq):Bool:=ae5 K C name&&(aaV K (.ref C) name==some (some (.ref f))&&(isFn K (.ref f)&&keepIn K (.ref f)))
noncomputable def FP(K:abE)(C:dq)(name:Str)(p T9:dq):Bool:=ae5 K C name&&(ae6 K C&&(aaV K (.ref C) name==some (some (.ref p))&&(ahL K (.ref p) "__get__" ==some (some (.builtin "property.__get__"))&&(takesIn K (.ref p)==some true&&(recIn K p "property").bind List.head?==some (.ref T9)))))
noncomputable def uC(K:abE)(C:dq)(name:Str)(v:a7):Bool:=ae5 K C name&&(ae6 K C&&(aaV K (.ref C) name==some (some v)&&(ahL K v "__get__" ==some none&&(ae7 v&&!copiedNames.contains name))))
noncomputable def FQ(K:abE)(C f:dq):Bool:=aaV K (.ref C) "__call__" ==some (some (.ref f))&&(isFn K (.ref f)&&fnIn K f)
section
variable{c:Cx}{st:St}{T:List (a7×AV)}{s:a8}
theorem az.LK (B:az c st T s m as P N)(H:uB st.own C name a)(h:dj s.heap P N as a v):
  E3 λx d o=>A3 (v= .ref x) (abY s.heap x (VU C d) C (some o)) (ahK name o=some none):=by
 cases H with
 |f hl=>obtain⟨x,d,m',e,_,_,g,⟨o,es,ep,ho,hd,hk,hm⟩,_,ex⟩:=h;exact⟨x,d,o,e,⟨g,rfl,rfl,ho⟩,oY hd hk ((hm name).trans (ex _ (gZ hl)))⟩
 |n hl=>obtain⟨x,d,m',e,_,_,g,⟨o,es,ep,ho,hd,hk,hm⟩,_,ex⟩:=h;exact⟨x,d,o,e,⟨g,rfl,rfl,ho⟩,oY hd hk ((hm name).trans (ex _ (gZ hl)))⟩
 |own hi hj hl=>refine nn λhN=>?_;obtain⟨x,hx,e⟩:=h;obtain⟨x',mG,d,hd,g⟩:=B.own.get hi;refine hN ?_;cases hx.symm.trans mG;refine nn λhN=>?_;obtain⟨d',fq,m',⟨o,es,ep,ho,Ua,hk,hm,_⟩,r,ex⟩:=B.own.get hj;refine hN ?_;cases hd.symm.trans fq;exact⟨x,d,o,e,⟨g,rfl,rfl,ho⟩,oY Ua hk ((hm name).trans (ex _ (gZ hl)))⟩
def Au(c:Cx)(f:a7)(kws:List agx)(Q:AV->St->Prop)(a:AV):List AV->St->Prop:=λas bl=>uq c (kws.map (·.value)) bl (Fv c f (kws.filterMap (·.arg)) Q (a::as))
inductive PZ(c:Cx)(name:Str)(es:List Expr)(kws:List agx)(Q:AV->St->Prop)(a:AV)(tL:St):Prop
 |mk (C f:dq) (h1:uB tL.own C name a) (h2:FO c.K C name f=true) (q:uq c es tL (Au c (.ref f) kws Q a))
inductive P1(c:Cx)(n n' :Nat)(C f:dq)(a:AV)(Q:AV->St->Prop)(b:AV)(bl:St):Prop
 |mk (h0:d9 bl.own C a) (xs:List FV) (R:FV->Prop) (h1:Spec c.prog c.w c.K c.tt n' (.ref f) xs [] R) (h2:n' +1≤n) (h3:fD bl.own [a,b] xs) (q: ∀r,R r->Q (.nw r) bl)
inductive P5(c:Cx)(n n' :Nat)(name:Str)(Q:AV->St->Prop)(a:AV)(aO:St):Prop
 |mk (C p g:dq) (x:FV) (R:FV->Prop) (h1:d9 aO.own C a) (h2:FP c.K C name p g=true) (h3:Spec c.prog c.w c.K c.tt n' (.ref g) [x] [] R) (h4:n' +1≤n) (h5:Snap aO.own a x) (q: ∀r,R r->r.handed=true/\Q (.nw r) aO)
inductive M7(c:Cx)(name:Str)(Q:AV->St->Prop)(a:AV)(aO:St):Prop
 |mk (C:dq) (u:a7) (h1:uB aO.own C name a) (h2:uC c.K C name u=true) (q:Q (.f (.val u)) aO)
theorem jo(O:Ok c)(hf:pN c.K f=true)(hp:es.all plainArg=true)(hk:kwOk kws=true)
  (h:uq c es st (Au c f kws Q a))(S:aX c st ((v,a)::T) s):
  dE (dC c.prog c.w) c.A (aef pos f [v] (adv pos (Tx es c.env)) (Kb pos (ts kws c.env))) (Got c T Q) (λaa aa=>False) s:=by
 refine ac7 (P:=λh=>c.K.In h) (by rw[kW es c.env pos hp];rw[(j5 kws c.env pos hk).2.2];rfl) (m9 hf) (dU hp hk (wpS (dJ h hp pos _ s S) (λvs s1 z=>?_)));obtain⟨as,bl,hl,S1,h1⟩:=z;refine wpS (Aj h1 hk pos _ s1 S1) (λus s2 z=>?_);obtain⟨ks,bD,gu,S2,q⟩:=z;refine⟨S2.cO O,q T (v::vs) us s2 (by simp[hl]) gu (S2.sub λp hp=>?_)⟩;rcases cp.mp hp with hp|hp
 ·exact bp _ hp
 ·rcases cp.mp hp with hp|hp
  ·rcases a5.mp hp with rfl|hp
   ·exact ba _ (ba _ (.head _))
   ·exact ba _ (bp _ hp)
  ·exact ba _ (ba _ (.tail _ hp))
theorem dW(O:Ok c)(hp:es.all plainArg=true)(hk:kwOk kws=true)
  (h:Ev c o st (PZ c name es kws Q))
  (he:acp (.Call (.Attribute o name apos) es kws pos) c.env=(do
   let ov<-acp o c.env
   aau apos.atName
   let(f,first)<-NA [ov] (adQ ov name pl)
   aef pos f first (adv pos (Tx es c.env)) (Kb pos (ts kws c.env))):=by rfl):Ev c (.Call (.Attribute o name apos) es kws pos) st Q:= .mk λT s S=>by
 refine afb (wpS (h.run T s S) (λv s1 z=>?_)) he;obtain⟨a,tL,S0,C,f,hL,hm,q⟩:=z;have X:=S0.cO O;have YO:=S0;obtain⟨m,as,P,N,B⟩:=YO;obtain⟨x,d,o',rfl,I,hl⟩:=B.LK hL (B.bw _ (.head _));unfold FO at hm;simp only[dk,beq_iff_eq]at hm;obtain⟨h1,h2,h3,h4⟩:=hm;exact method_fn X I (agA h1).1 (agA h1).2 h2 (beq_iff_eq.mp h3) (by show(ahK name o').map _=_;rw[hl];rfl) (jo O h4 hp hk q S0)
theorem Av(M8:(args.any (·.1)||keywords.any (·.1.isNone))=false)
  (h:dE M A (evalArgs (.ref x) true args keywords) (λa s₁=>(E3 λC d o=>abY s₁.heap x (VU C d) C o)/\dE M A (call (.ref x) (first++a.pos) a.kw) Q E s₁) E s):dE M A (aef pos (.ref x) first args keywords) Q E s:=by
 unfold aef;refine ab (eJ (hO h (λa s₁ h₁=>ab (rn (nn λhN=>?_))) λaa aa y=>y));obtain⟨⟨C,d,o,I⟩,h₁⟩:=h₁;refine hN ?_;have L:=kco_keeper (M:=M) I rfl;rw[M8];refine ab (L.here ?_);have tail: ∀{t:Sem a7},dE M A t Q E s₁->dE M A (t>>=λr=>NA [r] point>>=λaa=>pure r) Q E s₁:=λht=>ab (hO ht (λr s₂ hr=>ab (eJ (agB (ax hr)))) λaa aa y=>y)
 exact tail (wpAny_operateT h₁)
theorem rg(O:bQ c n)(i:Nat)(hi:st.loc[i]?=some (x,a))(h0:d9 st.own C a)(hc:FQ c.K C f=true)(hp:plainArg e=true)
  (h:Ev c e st (P1 c n n' C f a Q))
  (hl:c.env.kindOf x=some .local:=by rfl)(hd:(x==("__debug__" :Str))=false:=by kernel_rfl):Ev c (.Call (.Name x p) [e] [] pos) st Q:= .mk λT s S=>by
 obtain⟨m,as,P,N,B⟩:=S;obtain⟨v,hv,r⟩:=B.loc _ (d3 hi);have S1:aX c st ((v,a)::T) s:=⟨m,as,P,N,B.push r⟩;unfold FQ at hc;simp only[dk,beq_iff_eq]at hc;refine nn λhN=>?_;obtain⟨h1,h2,h3⟩:=hc;have hE:uq c [e] st λas bl=> ∃b,as=[b]/\P1 c n n' C f a Q b bl:=h.mono λb bl z=>⟨b,rfl,z⟩;have Ub:[e].all plainArg=true:=by rw[xp];rw[hp];rfl
 obtain⟨x0,d0,o0,rfl,I0⟩:=B.inst h0 r;refine hN (aak (Bz (y8 O.kind hl B.ns (hv.local hl) (Av (by rw[kW [e] c.env pos Ub];rfl) (dU Ub rfl (wpS (dJ hE Ub pos _ s S1) (λvs s1 z=>?_))))) hd));refine nn λhN=>?_;obtain⟨as,bl,hl,S2,b,rfl,hI,xs,R,H,hn,hs,hq⟩:=z;obtain⟨u,rfl⟩:=JE hl;have S3:aX c bl ((.ref x0,a)::(u,b)::T) s1:=S2.pick [1,0] 2;have X:=S3.cO O.toOk;have YQ:=S3;obtain⟨m,bs,P,N,B⟩:=YQ;obtain⟨x',d,o',e',I⟩:=B.inst hI (B.bw _ (.head _));refine hN ?_;cases e';refine ae1 ⟨⟨C,d,some o',I⟩,abt (kco_code X I rfl h1 h2 h3 ?_)⟩;have hv:=B.Ca (vs:=[.ref x0,u]) hs rfl λp hp=>by
  rcases a5.mp hp with rfl|hp
  ·exact .head _
  ·rcases a5.mp hp with rfl|hp
   ·exact .tail _ (.head _)
   ·cases hp
 refine H c.A s1 [.ref x0,u] [] _ (S3.good O O.hh (cb c.A.depth 3) (cb c.A.units 39) hn) hv rfl λv s' r hr e hx=>⟨_,bl,(S3.jk e hx).nw.pick [0] 3,hq r hr⟩
set_option tactic.hygienic true in
theorem nv(O:bQ c n)(h:Ev c e st (P5 c n n' name Q))
  (hs:acp (e.Attribute name pos) c.env=(do let o<-acp e c.env;aau pos.atName;let r<-NA [o] (agy o name true);aay e o r;pure r):=by rfl):Ev c (.Attribute e name pos) st Q:= .mk λT s S=>
 acK (wpS (h.run T s S) (λv s1 z=>by obtain⟨a,aO,S',C,p,g,y,R,hI,hp,H,hn,hs,hq⟩:=z;have Uc:=S';obtain⟨m,as,P,N,B⟩:=Uc;obtain⟨x,d,o',rfl,I⟩:=B.inst hI (B.bw _ (.head _));unfold FP at hp;simp only[dk,beq_iff_eq]at hp;obtain⟨p1,p2,p3,p4,p5,p6⟩:=hp;have hv:eW s1.heap (· ∉c.tt) [y] [.ref x]:=⟨_,_,rfl,B.snap hs _ (B.bw _ (.head _)),rfl⟩;obtain⟨l,P6,e6⟩:=Option.bind_eq_some_iff.mp p6;obtain⟨rest,el⟩:=List.head?_eq_some_iff.mp e6;rw[el]at P6;have S2:aX c aO ((.ref x,a)::T) {s1 with toks:=s1.toks+1}:=S'.dH;have Jt:eW ({s1 with toks:=s1.toks+1}:a8).heap (· ∉c.tt) [y] [.ref x]:=hv;obtain⟨_,Xf,Ff⟩:=B.fr O.toOk;refine get_prop Ff Xf I p1 p2 p3 p4 p5 P6 (H c.A.in1 {s1 with toks:=s1.toks+1} [.ref x] [] _ (S2.good (A:=c.A.in1) O (show c.A.in1.handled=none from O.hh) (ae (cq c.A.depth) (cb _ _)) (by rw[aaz];lia) hn) Jt rfl λv s' r hr e hx=>?_);dsimp only;have hh:ae7 v=true:=VR.handed hx (hq r hr).1;rw[handedOut_of hh];refine ax ⟨_,aO,(S2.jk e hx).nw.pick [0] 2,(hq r hr).2⟩)) hs
theorem FT(O:Ok c)(h:Ev c e st (M7 c name Q))
  (hs:acp (e.Attribute name pos) c.env=(do let o<-acp e c.env;aau pos.atName;let r<-NA [o] (agy o name true);aay e o r;pure r):=by rfl):Ev c (.Attribute e name pos) st Q:= .mk λT s S=>
 acK (wpS (h.run T s S) (λv s1 z=>by obtain⟨a,aO,S',C,u,hL,hc,q⟩:=z;have X:=S'.cO O;have Uc:=S';obtain⟨m,as,P,N,B⟩:=Uc;obtain⟨x,d,o',rfl,I,hl⟩:=B.LK hL (B.bw _ (.head _));unfold uC at hc;simp only[dk,beq_iff_eq,afF]at hc;obtain⟨p1,p2,p3,p4,p5,p6⟩:=hc;exact get_value X I (agA p1).1 (findObj_cls p2 p3 p4 p5 p6 hl) p5 ⟨_,aO,S'.pop.dH.val,q⟩)) hs
end
inductive aQ(own:List AO):AV->List AV->Prop
 |f (l:List FV):aQ own (.f (.list l)) (l.map .f)
 |n (l:List FV):aQ own (.n (.list l)) (l.map .nw)
 |own {i:Nat} {l:List AV}:own[i]?=some (.list l)->aQ own (.own i) l
theorem pP{prog:d5}{w:fA}{A:ka}{E:a7->a8->Prop}{s:a8}{l:dq}{vs:List a7}{n k:Nat}{i:Int}{t:Tok}{v:a7}{Q:Unit->a8->Prop}
  (ho:s.heap.get? l=some ⟨.type "list",none,.seq vs.toArray n,#[]⟩)(hi:i=k)(P7:i<2^62)(hn:k<vs.length)
  (h: ∀h' n',h'.get? l=some ⟨.type "list",none,.seq (vs.set k v).toArray n',#[]⟩->lL l s.heap h' ->Q () {s with heap:=h' }):
  dE (dC prog w) A (setItem (.ref l) (.int i t) v) Q E s:=by
 have hl:s.heap.IsList l vs.toArray:=aP ho;have fit:acr i=true:=fitsIndex_of (by lia) (TB P7 (by decide));clear P7;have fin: ∃n',(s.heap.update l (lr (·.setIfInBounds k v))).get? l=some ⟨.type "list",none,.seq (vs.set k v).toArray n',#[]⟩:=by
  refine⟨n,?_⟩;have e:lr (·.setIfInBounds k v) ⟨.type "list",none,.seq vs.toArray n,#[]⟩=⟨.type "list",none,.seq (vs.set k v).toArray n,#[]⟩:=by simp[lr]
  rw[pE _ ho (by rw[e];rfl)];rw[e];rfl
 obtain⟨n',fin⟩:=fin;unfold setItem
 try with_reducible refine eJ ?_
 first|refine ab (ax ?_)|skip
 refine ab (wpAny_sequenceKey hl.typeIs (by decide) ?_);refine ab (vx (name:=fe "__setitem__") hl.typeIs adb
  (oe adb hl.typeIs PySem.entry_list_setitem ?_ (PySem.args_list_setitem _ _ _)))
 show dE _ _ (agC (.int i t)>>=_) _ _ s;refine ab (wpAny_listSubscript_int fit ?_);subst hi;have hx:vs.toArray[k]?=some vs[k]:=by simp[hn]
 refine ab (ab (wpAny_seqItemAt ho rfl (ax ?_)));rw[hx];refine ab (wpAny_setSeqItemAt ho rfl ?_);first
  |exact ab (ax (ax ⟨.none,rfl,ax (h _ _ fin (ik ..))⟩))
  |exact ax ⟨.none,rfl,ax (h _ _ fin (ik ..))⟩
theorem lU
  (h:dE (dC prog w) A (acp value env) (λo s₁=>dE (dC prog w) A (acp slice env) (λi s₂=>ItemOn (dC prog w) A E o i Q s₂) E s₁) E s):
  dE (dC prog w) A (acp (.Subscript value slice pos) env) Q E s:=by
 rw[eval_Subscript];refine ab (hO h (λo s₁ h₁=>ab (eJ (hO h₁ (λi s₂ h₂=>ab (rn ?_)) λaa aa x=>x)))
  λaa aa x=>x)
 obtain⟨T,id,hl,hT,hg⟩:=h₂;refine ab ?_;rw[getitemInPython_of_ne hT.not_modules];have fin:dE (dC prog w) A (subscripted slice false o i) (λr s₃=>dE (dC prog w) A (aay value o r>>=λaa=>pure r) Q E s₃) E s₂:=by
  have k:=hO hg (Q' :=λr s₃=>dE (dC prog w) A (aay value o r>>=λaa=>pure r) Q E s₃) (λr s₃ h₃=>ab (wpAny_letTemporaryGo (ax h₃))) λaa aa x=>x;cases slice with
  |Slice a b c p=>cases c<;>exact agD k
  |_=>exact agD k
 refine ab (aa9 hT hl ?_);first
  |exact ax (ab fin)
  |exact ab (ax (ab fin))
  |exact ab fin
section
variable{c:Cx}{st:St}{T:List (a7×AV)}{s:a8}
theorem az.list (B:az c st T s m as P N)(H:aQ st.own a l)(h:dj s.heap P N as a v):
  E3 λx vs n=>A3 (v= .ref x) (s.heap.get? x=some ⟨.type "list",none,.seq (mM vs) n,#[]⟩) (bu s.heap P N as l vs):=by
 cases H with
 |f l=>obtain⟨x,vs,n,e,_,g,r⟩:=h;exact⟨x,vs,n,e,g,Ao r⟩
 |n l=>obtain⟨x,vs,n,e,_,g,r⟩:=h;exact⟨x,vs,n,e,g,FJ r⟩
 |own hi=>refine nn λhN=>?_;obtain⟨x,hx,e⟩:=h;obtain⟨b,hb,vs,n,g,r⟩:=B.own.get hi;refine hN ?_;cases hx.symm.trans hb;exact⟨x,vs,n,e,g,r⟩
theorem bu.get{h:wq}{P N:dq->Prop}{as:List dq}: ∀{l:List AV} {vs:List a7},bu h P N as l vs-> ∀{i:Nat} {x:AV},l[i]?=some x-> ∃v,vs[i]?=some v/\dj h P N as x v
 | [],_,_,_,_,e=>by exact(cu rfl e).elim
 |_::_,_,bA,0,_,e' =>by obtain⟨v,r,e,x,_⟩:=bA;subst e;cases e';exact⟨v,rfl,x⟩
 |_::_,_,bA,i+1,_,e' =>by obtain⟨_,_,e,_,y⟩:=bA;subst e;exact bu.get y (by simpa using e')
theorem bu.set{h:wq}{P N:dq->Prop}{as:List dq}{a:AV}{u:a7}(ha:dj h P N as a u): ∀{l:List AV} {vs:List a7},bu h P N as l vs-> ∀(i:Nat),bu h P N as (l.set i a) (vs.set i u)
 | [],_,H,i=>by cases H;exact rfl
 |_::_,_,bA,0=>by obtain⟨v,r,e,x,y⟩:=bA;subst e;exact⟨u,r,rfl,ha,y⟩
 |_::_,_,bA,i+1=>by obtain⟨v,r,e,x,y⟩:=bA;subst e;exact⟨v,_,rfl,x,bu.set ha y i⟩
theorem bu.app{h:wq}{P N:dq->Prop}{as:List dq}: ∀{l l' :List AV} {vs vs' :List a7},bu h P N as l vs->bu h P N as l' vs' ->bu h P N as (l++l') (vs++vs'):=by
 intro lz;induction lz with
 |nil=>intro _ _ _ H H';cases H;exact H'
 |cons _ _ ih=>intro _ _ _ bA H';obtain⟨v,r,e,x,y⟩:=bA;subst e;exact⟨v,_,rfl,x,ih y H'⟩
def Item(c:Cx)(b a:AV)(st:St)(Q:AV->St->Prop):Prop:=∀T x y s,aX c st ((y,b)::(x,a)::T) s->ItemOn (dC c.prog c.w) c.A (λaa aa=>False) x y (Got c T Q) s
def P8(c:Cx)(Q:AV->St->Prop)(a:AV):AV->St->Prop:=λb bD=>Item c b a bD Q
def Ud(c:Cx)(i:Expr)(Q:AV->St->Prop):AV->St->Prop:=λa bl=>Ev c i bl (P8 c Q a)
theorem aY(h:Ev c o st (Ud c i Q)):Ev c (.Subscript o i pos) st Q:= .mk λT s S=>by refine lU (wpS (h.run T s S) (λx s1 z=>?_));obtain⟨a,bl,S1,h1⟩:=z;refine wpS (h1.run _ s1 S1) (λy s2 z=>?_);obtain⟨b,bD,S2,h2⟩:=z;exact h2 T x y s2 S2
theorem LL{k:Nat}(h:k≤1000000):(k:Int)<2^63:=aa5 (mN.mpr h) (by decide)
theorem item_list{a e:AV}{l:List AV}{k:Int}{j:Nat}{Q:AV->St->Prop}(H:aQ st.own a l)(hk:k=j∨(k<0/\k+l.length=j))(he:l[j]?=some e)(hl:l.length≤1000000)(h:Q e st):Item c (.f (.int k)) a st Q:=λT x y s S=>by
 have S' :=S;obtain⟨m,as,P,N,B⟩:=S';obtain⟨t,rfl⟩:=B.bw _ (.head _);obtain⟨x,vs,n,rfl,g,r⟩:=B.list H (B.bw _ (.tail _ (.head _)));obtain⟨v,hv,q⟩:=r.get he;have hlen:=r.length;have hj:j<vs.length:=(ed.mp hv).1;have JX:Got c T Q v s:=⟨e,st,⟨m,as,P,N,(B.less λp hp=> .tail _ (.tail _ hp)).push q⟩,h⟩;refine⟨"list",_,ade.lookup,(aP g).typeIs,?_⟩;rcases hk with rfl|⟨hk,EP⟩
 ·exact afc (aP g) (dA j) (LL (ae (ec hj) (hlen▸hl))) (by simpa using hv) JX
 ·have e1:(k+(vs.toArray.size:Int)).toNat=j:=by rw[eM];rw[hlen];rw[EP];rfl
  have e2: -(l.length:Int)≤k:=aen (aen (Int.le_of_sub_nonneg (by rw[Int.sub_neg];rw[EP];exact dA j)));exact wpAny_getItem_list_neg (aP g) hk (by rw[eM];rw[hlen];exact e2) (hV (by decide) (hV (Int.neg_le_neg (mN.mpr hl)) e2)) (by rw[e1];simpa using hv) JX
theorem item_tuple{a e:AV}{l:List AV}{k:Nat}{Q:AV->St->Prop}(H:gc st.own a l)(he:l[k]?=some e)(hl:l.length≤1000000)(h:Q e st):Item c (.f (.int k)) a st Q:=λT x y s S=>by have S' :=S;obtain⟨m,as,P,N,B⟩:=S';obtain⟨t,rfl⟩:=B.bw _ (.head _);obtain⟨x,vs,n,rfl,g,r⟩:=B.tup H (B.bw _ (.tail _ (.head _)));obtain⟨v,hv,q⟩:=r.get he;have hlen:=r.length;have hj:k<vs.length:=(ed.mp hv).1;have JX:Got c T Q v s:=⟨e,st,⟨m,as,P,N,(B.less λp hp=> .tail _ (.tail _ hp)).push q⟩,h⟩;refine⟨"tuple",_,PySem.F.slot_tuple_getitem.lookup,⟨_,g,rfl⟩,ag5 (j:=k) ⟨_,g,rfl,_,rfl⟩ (hV (by decide) (dA k)) (LL (ae (ec hj) (hlen▸hl))) ?_ (by simpa using hv) JX⟩;unfold seqIndex?;rewrite [if_neg (uk.mpr (dA k))];rw[eM];show(if(decide ((0:Int)≤k)&&decide ((k:Int)<vs.length))=true then _ else _)=_;rw[decide_eq_true (dA k)];rw[decide_eq_true (Hk.mpr hj)];rfl
inductive P9(Q:Fl->St->Prop)(a b d:AV)(gW:St):Prop
 |mk (j:Nat) (l:List AV) (k:Nat) (e:b= .own j) (h1:gW.own[j]?=some (.list l)) (e2:d= .f (.int (k:Nat))) (h2:k<l.length) (h3:l.length≤1000000) (q:Q .next ⟨gW.loc,gW.own.set j (.list (l.set k a))⟩)
def Qa(c:Cx)(i:Expr)(Q:Fl->St->Prop)(a:AV):AV->St->Prop:=λb bD=>Ev c i bD (P9 Q a b)
def Qc(c:Cx)(o i:Expr)(Q:Fl->St->Prop):AV->St->Prop:=λa bl=>Ev c o bl (Qa c i Q a)
inductive Qd(Q:Fl->St->Prop)(j k n:Nat)(r:AV)(ER:St):Prop
 |mk (l' :List AV) (h1:ER.own[j]?=some (.list l')) (h2:l'.length=n) (q:Q .next ⟨ER.loc,ER.own.set j (.list (l'.set k r))⟩)
def Qe(c:Cx)(op:Operator)(Q:Fl->St->Prop)(j k n:Nat)(a:AV):AV->St->Prop:=λa' gW=>Op c [a',a] (λvs=>match vs with| [y,x]=>afa op x y|_=> .raise .none) gW (Qd Q j k n)
inductive Qf(c:Cx)(op:Operator)(e:Expr)(Q:Fl->St->Prop)(b d:AV)(bD:St):Prop
 |mk (j:Nat) (l:List AV) (k:Nat) (a:AV) (e1:b= .own j) (h1:bD.own[j]?=some (.list l)) (e2:d= .f (.int (k:Nat))) (h2:l[k]?=some a) (h3:l.length≤1000000) (q:Ev c e bD (Qe c op Q j k l.length a))
def Qg(c:Cx)(op:Operator)(e i:Expr)(Q:Fl->St->Prop):AV->St->Prop:=λb bl=>Ev c i bl (Qf c op e Q b)
inductive LM(Q:AV->St->Prop)(j:Nat)(a:AV)(bD:St):Prop
 |mk (l:List AV) (h1:bD.own[j]?=some (.list l)) (h2:l.length≤1000000) (q:Q (.f .none) ⟨bD.loc,bD.own.set j (.list (l++[a]))⟩)
inductive Ue(c:Cx)(e:Expr)(Q:AV->St->Prop)(b:AV)(bl:St):Prop
 |mk (j:Nat) (l0:List AV) (e1:b= .own j) (h1:bl.own[j]?=some (.list l0)) (q:Ev c e bl (LM Q j))
theorem fH
  (h:Ev c e st (Qc c o i Q))
  (hs:ab7 e (some (.Subscript o i p')) pos.line c.env=pure false:=by rfl):Ex c (.Assign [.Subscript o i p'] e pos) st Q:= .mk λT s S=>by
 refine adE (wpS (h.run T s S) (λv s1 z=>?_)) hs;obtain⟨a,bl,S1,h1⟩:=z;refine wpS (h1.run _ s1 S1) (λu s2 z=>?_);obtain⟨b,bD,S2,h2⟩:=z;refine wpS (h2.run _ s2 S2) (λy s3 z=>?_);obtain⟨d,gW,S3,j,l,k,rfl,hj,rfl,hk,hl,q⟩:=z;obtain⟨m,as,P,N,B⟩:=S3;obtain⟨t,rfl⟩:=B.bw _ (.head _);obtain⟨x,hx,rfl⟩:=B.bw _ (.tail _ (.head _));obtain⟨x',mG,vs,n,g,r⟩:=B.own.get hj;cases hx.symm.trans mG;have hv:=B.bw _ (.tail _ (.tail _ (.head _)));have hlen:=r.length;have hb:=B.fresh x (d3 hx);refine pP g rfl (by lia) (a0 hk (km (adR hlen))) λh' n' g' hs=>⟨.next,_,⟨rfl,m,as,P,N,(B.mH (o' := .list (l.set k a)) (t' :=s3.toks) hx hs ⟨_,n',g',?_⟩).less λaa h=> .tail _ (.tail _ (.tail _ h))⟩,q⟩;have kP: ∀a o,P a->s3.heap.get? a=some o->h'.get? a=some o:=λa o p e=>(hs.2 a λq=>hb.2.2.1 (q▸p)).trans e;exact(bu.set hv r k).mono kP (λaa x=>x) (λa o p=>kP a o (B.nP a p)) (λaa x=>x) λaa aa x=>x
theorem mP
  (h:Ev c o st (Qg c op e i Q))
  (hi: ∀ov iv new,augStore i ov iv new=(do NA [new,ov,iv] (setItem ov iv new);release [new,ov,iv] [];pure .next):=by intros;rfl):Ex c (.AugAssign (.Subscript o i p') op e pos) st Q:= .mk λT s S=>by
 refine wpAny_AugAssign_SubscriptAny (wpS (h.run T s S) (λu s1 z=>?_)) hi;obtain⟨b,bl,S1,h1⟩:=z;refine wpS (h1.run _ s1 S1) (λy s2 z=>nn λhN=>?_);obtain⟨d,bD,S2,j,l,k,a,rfl,hj,rfl,hk,hl,h2⟩:=z;have YR:=S2;obtain⟨m,as,P,N,B⟩:=YR;obtain⟨t,rfl⟩:=B.bw _ (.head _);obtain⟨x,hx,rfl⟩:=B.bw _ (.tail _ (.head _));obtain⟨x',mG,vs,n,g,r⟩:=B.own.get hj;refine hN ?_;cases hx.symm.trans mG;obtain⟨v,hv,q⟩:=r.get hk;have hlen:=r.length;have hkl:k<vs.length:=(ed.mp hv).1;refine afc (aP g) (dA k) (by lia) (by simpa using hv) (wpS (h2.run _ s2 ⟨m,as,P,N,B.push q⟩) (λv' s3 z=>?_));obtain⟨a',gW,S3,h3⟩:=z;refine wpS (h3 _ [v',v] s3 rfl S3) (λw s4 z=>nn λhN=>?_);obtain⟨r',ER,S4,l',FE,JY,q'⟩:=z;obtain⟨m4,YS,P4,N4,B4⟩:=S4;have hr:=B4.bw _ (.head _);obtain⟨y4,Ug,e4⟩:=B4.bw _ (.tail _ (.tail _ (.head _)));cases e4;obtain⟨x4,YT,vs4,n4,g4,r4⟩:=B4.own.get FE;refine hN ?_;cases Ug.symm.trans YT;have W4:=r4.length;have hb:=B4.fresh _ (d3 Ug);refine pP g4 rfl (by lia) (by lia) λh' n' g' hs=>⟨.next,_,⟨rfl,m4,YS,P4,N4,(B4.mH (o' := .list (l'.set k r')) (t' :=s4.toks) Ug hs ⟨_,n',g',?_⟩).less λaa h=> .tail _ (.tail _ (.tail _ h))⟩,q'⟩;have kP: ∀a o,P4 a->s4.heap.get? a=some o->h'.get? a=some o:=λa o p e=>(hs.2 a λq=>hb.2.2.1 (q▸p)).trans e;exact(bu.set hr r4 k).mono kP (λaa x=>x) (λa o p=>kP a o (B4.nP a p)) (λaa x=>x) λaa aa x=>x
theorem ri(hj:st.own[j]?=some (.list l))(hl:l.length≤1000000)(h:Q (.f .none) ⟨st.loc,st.own.set j (.list (l++[a]))⟩):aZ c (.builtin "list.append") [.own j,a] [] [] st Q:=
 tK λT x y s S=>by
  refine nn λhN=>?_;obtain⟨m,as,P,N,B⟩:=S;obtain⟨x',hx,rfl⟩:=B.bw _ (.head _);obtain⟨x2,mG,vs,n,g,r⟩:=B.own.get hj;refine hN ?_;cases hx.symm.trans mG;have hv:=B.bw _ (.tail _ (.head _));have hlen:=r.length;have hb:=B.fresh x' (d3 hx);refine append_at g (λh' hs g' =>?_) (by rw[eM];rw[mB];lia);have kP: ∀a o,P a->s.heap.get? a=some o->h'.get? a=some o:=λa o p e=>(hs.2 a λq=>hb.2.2.1 (q▸p)).trans e;have S' :aX c ⟨st.loc,st.own.set j (.list (l++[a]))⟩ T {s with heap:=h',toks:=s.toks}:=⟨m,as,P,N,(B.mH (o' := .list (l++[a])) (t' :=s.toks) hx hs ⟨vs++[y],n+1,by rw[g'];simp,?_⟩).less λaa h=> .tail _ (.tail _ h)⟩
  ·exact⟨_,_,S'.Fo,h⟩
  ·exact(bu.app (l' :=[a]) (vs' :=[y]) r ⟨y,[],rfl,hv,rfl⟩).mono kP (λaa x=>x) (λa o p=>kP a o (B.nP a p)) (λaa x=>x) λaa aa x=>x
theorem iT(O:Ok c)(hp:plainArg e=true)(h:Ev c o st (Ue c e Q))
  (he:acp (.Call (.Attribute o "append" apos) [e] [] pos) c.env=(do
   let ov<-acp o c.env
   aau apos.atName
   let(f,first)<-NA [ov] (adQ ov "append" pl)
   aef pos f first (adv pos (Tx [e] c.env)) (Kb pos (ts [] c.env))):=by rfl):Ev c (.Call (.Attribute o "append" apos) [e] [] pos) st Q:= .mk λT s S=>by
 refine afb (wpS (h.run T s S) (λv s1 z=>nn λhN=>?_)) he;obtain⟨b,bl,S1,j,l0,rfl,hj,h1⟩:=z;have M9:=S1;obtain⟨m,as,P,N,B⟩:=M9;obtain⟨x',hx,rfl⟩:=B.bw _ (.head _);obtain⟨x2,mG,vs,n,g,r⟩:=B.own.get hj;refine hN ?_;cases hx.symm.trans mG;refine getMethod_list_append g rfl rfl (jo (kws:=[]) O rfl (by rw[xp];rw[hp];rfl) rfl ?_ S1);exact h1.mono λa bD zz=>by obtain⟨l,YU,hl,q⟩:=zz;exact ri YU hl q
end
theorem Ok.v(O:Ok c)(H:List (dq×Obj))(G:Array de):Ok (c.v H G):=⟨O.cO,O.lim,O.hh,O.kind,O.inter,O.sz,O.cin⟩
theorem bQ.v(O:bQ c n)(H:List (dq×Obj))(G:Array de):bQ (c.v H G) n:={toOk:=O.toOk.v H G,dp:=O.dp,un:=O.un,kt:=O.kt,st:=O.st}
section
variable{c:Cx}{st:St}{T:List (a7×AV)}{s:a8}
theorem az.hide (B:az (c.v H G) st T s m as P N)(O:Ok c)(ho:o.isFreed=false):
  az (c.v ((s.heap.objs.size,o)::H) G) st T {s with heap:=s.heap.push o} m as P N:=by
 have h0:s.heap.get? s.heap.objs.size=none:=dv (cq _);refine az.JQ B (Z:=λaa=>False) (λaa h=>h.elim) (λb o aa aa e=>aw _ e) kY.2 B.gens rfl (λp hp=>(a5.mp hp).elim (λe=>?_) λhp=>⟨aw _ (B.aV p (bp _ hp)).1,.inl (eD hp)⟩)
  (dn.mpr ⟨λq=>by obtain⟨_,hp,e⟩:=bb.mp q;exact B.jg h0 (bp _ hp) e,(kd.mp (ew▸B.bU)).1⟩)
 rw[e];exact⟨bc _ ho,.inr ⟨h0,B.dF (O.v H G)⟩⟩
theorem az.e8(B:az (c.v ((I,o)::H) G) st T s m as P N)
  (k: ∀b o,b≠I->s.heap.get? b=some o->h'.get? b=some o)(hH:H2=H∨ ∃o',h'.get? I=some o' /\H2=(I,o')::H):
  az (c.v H2 G) st T {s with heap:=h',toks:=t' } m as P N:=by
 have nt:=(B.cR (.head _)).nt;have nd:=dn.mp (kd.mp (ew (l₁:=(I,o)::H)▸B.bU)).1;have rest: ∀p∈H,h'.get? p.1=some p.2/\(p.1∈HA ((I,o)::H)∨(s.heap.get? p.1=none/\p.1∉c.tt)):=λp hp=>⟨k p.1 p.2 (λq=>nd.1 (bb.mpr ⟨p,hp,q⟩)) (B.aV p (.tail _ (bp _ hp))).1,.inl (.tail _ (eD hp))⟩;refine az.JQ B (Z:=(· =I)) (λa e=>e▸ .head _) (λb o aa h=>k b o h) (λb hb t=>t.of λo=>k b o λe=>nt (e▸hb)) B.gens rfl ?_ ?_
 ·rcases hH with e|⟨o',g',e⟩
  ·rw[e];exact rest
  ·rw[e];exact Iy.mpr ⟨⟨g',.inl (.head _)⟩,rest⟩
 ·rcases hH with e|⟨o',g',e⟩
  ·rw[e];exact nd.2
  ·rw[e];exact dn.mpr nd
def ee(c:Cx)(I:dq)(good:St->Prop)(p:a7×AV):List AV->List (dq×Obj)->Array de->Prop
 | [],H,G=> ∀(T:List (a7×AV)) (st:St) (s:a8),good st->aX (c.v H G) st (p::T) s->dE (dC c.prog c.w) c.A (aaW (.ref I)) (λr s' =>r=none/\aX c st (p::T) s') (λaa aa=>False) s
 |a::r,H,G=> ∀(T:List (a7×AV)) (st:St) (s:a8),good st->aX (c.v H G) st (p::T) s->dE (dC c.prog c.w) c.A (aaW (.ref I)) (λov s' =>E3 λv H' G' =>A3 (ov=some v) (aX (c.v H' G') st ((v,a)::p::T) s') (ee c I good p r H' G')) (λaa aa=>False) s
def xB(c:Cx)(I:dq)(H:List (dq×Obj))(G:Array de):Prop:=∀(T:List (a7×AV)) (st:St) (s:a8),aX (c.v H G) st T s->dE (dC c.prog c.w) c.A (aba (.ref I)) (λit s' =>it= .ref I/\aX (c.v H G) st T s') (λaa aa=>False) s
def e9(c:Cx)(a:AV)(st:St)(l:List AV)(good:St->Prop):Prop:=∀(T:List (a7×AV)) (v:a7) (s:a8),aX c st ((v,a)::T) s->dE (dC c.prog c.w) c.A (aba v) (λit s' =>E3 λI H G=>A4 (it= .ref I) (aX (c.v H G) st ((v,a)::T) s') (xB c I H G) (ee c I good (v,a) l H G)) (λaa aa=>False) s
inductive Cn(I:St->Prop)(f:Fl)(gW:St):Prop
 |mk (h:f= .next∨f= .cont) (q:I gW)
inductive Uh(c:Cx)(x:Str)(body:List aa4)(Q:Fl->St->Prop)(a:AV)(bl:St):Prop
 |mk (Inv:List AV->St->Prop) (l:List AV) (good:St->Prop) (h1:e9 c a bl l good) (h2:Inv l bl) (h3: ∀r bD,Inv r bD->good bD) (h4: ∀b r bD H G,Inv (b::r) bD-> ∃l2,cA bD.loc x b l2/\bM (c.v H G) body ⟨l2,bD.own⟩ (Cn (Inv r))) (q: ∀bD,Inv [] bD->Q .next bD)
inductive Qh(I:Nat->a8->Prop)(n:Nat)(f:Flow)(s:a8):Prop|mk (h:f= .next∨f= .cont) (m:Nat) (hm:m<n) (q:I m s)
inductive FU(M:adC)(A:ka)(tgt:Expr)(body:List aa4)(it:a7)(env:Env)(R:abS->a8->Prop)(I:Nat->a8->Prop)(n:Nat):Option a7->a8->Prop
 |stop {s:a8} (h:R (.ok .next) s):FU M A tgt body it env R I n none s
 |go {v:a7} {s:a8} (h:dE M A (Z3 tgt it v) (λaa s1=>dE M A (afd tgt env v) (λaa s2=>dE M A (agv body env) (Qh I n) (λaa aa=>False) s2) (λaa aa=>False) s1) (λaa aa=>False) s):FU M A tgt body it env R I n (some v) s
theorem xC(I:Nat->a8->Prop)(turn: ∀n s,I n s->dE (dC prog w) A (aaW it) (FU (dC prog w) A tgt body it env R I n) (λaa aa=>False) s)(n:Nat)(h:I n s):
  tJ (dC prog w) A (.forLoop tgt it body [] env) R s:=by
 refine codeAny_forLoop_any I (λn s hI=>mu (turn n s hI) (λr s1 z=>?_)) n h;cases z with
 |stop h=>exact wpAny_execs_nil h
 |go h=>
  refine mu h (λaa s2 z=>mu z (λaa s3 z=>mu z (λf s4 z=>?_)));obtain⟨h,m,hm,q⟩:=z;rcases h with h|h
  ·rw[h];exact⟨m,hm,q⟩
  ·rw[h];exact⟨m,hm,q⟩
theorem Sx.loop(hf:Sx c st T f s fl)(h:fl= .next∨fl= .cont):(f= .next∨f= .cont)/\aX c st T s:=by
 rcases h with h|h
 ·rw[h]at hf;exact⟨.inl hf.1,hf.2⟩
 ·rw[h]at hf;exact⟨.inr hf.1,hf.2⟩
inductive CompI(c:Cx)(J:dq)(good:St->Prop)(p:a7×AV)(T:List (a7×AV))(Inv:List AV->St->Prop)(n:Nat)(s:a8):Prop
 |mk (r:List AV) (st:St) (H:List (dq×Obj)) (G:Array de) (e:n=r.length) (S:aX (c.v H G) st (p::T) s) (Y:ee c J good p r H G) (h:Inv r st)
theorem Aw{x:Str}{px:Pos}{body:List aa4}{R:abS->a8->Prop}{p:a7×AV}{I:dq}{good:St->Prop}{Inv:List AV->St->Prop}{l:List AV}{H:List (dq×Obj)}{G:Array de}(O:Ok c)(hx:storeOk c x=true)(Y:ee c I good p l H G)(h0:Inv l st)(iU: ∀r st,Inv r st->good st)
  (turn: ∀b r st H G,Inv (b::r) st-> ∃l2,cA st.loc x b l2/\bM (c.v H G) body ⟨l2,st.own⟩ (Cn (Inv r)))(S:aX (c.v H G) st (p::T) s)(hR: ∀s' aO,aX c aO (p::T) s' ->Inv [] aO->R (.ok .next) s'):tJ (dC c.prog c.w) c.A (.forLoop (.Name x px) (.ref I) body [] c.env) R s:=by
 refine xC (CompI c I good p T Inv) (λn s hI=>?_) l.length ⟨l,st,H,G,rfl,S,Y,h0⟩;obtain⟨r,bD,H2,G2,en,S3,Y2,hI⟩:=hI;cases r with
 |nil=>exact wpS (Y2 T bD s (iU _ _ hI) S3) (λov s3 z=>z.1▸ .stop (hR s3 bD z.2 hI))
 |cons b r=>refine wpS (Y2 T bD s (iU _ _ hI) S3) (λov s3 z=>?_);obtain⟨u,H3,G3,e,S4,Y3⟩:=z;rw[e];obtain⟨l2,gu,hb⟩:=turn b r bD H3 G3 hI;refine .go (kA (a:=()) rfl (xb (wpS (aX.eZ (c:=c.v H3 G3) S4 (O.v H3 G3) hx gu) (λaa s4 S5=>wpS ((hb.run (p::T) s4 S5)) (λf s5 z=>?_)))));obtain⟨fl,gW,hf,Cg,Ui⟩:=z;exact⟨(hf.loop Cg).1,r.length,en▸gN _,r,gW,H3,G3,rfl,(hf.loop Cg).2,Y3,Ui⟩
theorem Co(O:Ok c)
  (h:Ev c iter st (Uh c x body Q))
  (hx:storeOk c x=true:=by kernel_rfl)
  (hs: ∀y,il iter c.env y=pure y:=by intro _;rfl):Ex c (.For (.Name x px) iter body [] pos) st Q:= .mk λT s S=>by
 refine ahQ (wpS (h.run T s S) (λv s1 z=>?_)) hs;obtain⟨a,bl,S1,Inv,l,good,hit,h0,iU,turn,fin⟩:=z;refine wpS (hit T v s1 S1) (λit s2 z=>?_);obtain⟨I,H,G,e,S2,_,Y⟩:=z;rw[e];exact Aw O hx Y h0 iU turn S2 λs' aO S' hI=>⟨.next,aO,⟨rfl,S'.pop⟩,fin aO hI⟩
inductive Qi(c:Cx)(x:Str)(body:List aa4)(Inv:List AV->St->Prop)(Q:Fl->St->Prop)(a:AV)(bl:St):Prop
 |mk (l:List AV) (good:St->Prop) (h1:e9 c a bl l good) (h2:Inv l bl) (h3: ∀r bD,Inv r bD->good bD) (h4: ∀b r bD H G,Inv (b::r) bD-> ∃l2,cA bD.loc x b l2/\bM (c.v H G) body ⟨l2,bD.own⟩ (Cn (Inv r))) (q: ∀bD,Inv [] bD->Q .next bD)
theorem Nc(O:Ok c)(Inv:List AV->St->Prop)
  (h:Ev c iter st (Qi c x body Inv Q))
  (hx:storeOk c x=true:=by kernel_rfl)
  (hs: ∀y,il iter c.env y=pure y:=by intro _;rfl):Ex c (.For (.Name x px) iter body [] pos) st Q:=Co O (h.mono λaa aa zz=>by obtain⟨x1,x2,x3,x4,x5,x6,x7⟩:=zz;exact⟨Inv,x1,x2,x3,x4,x5,x6,x7⟩) hx hs
theorem pQ(O:Ok c): ∀(r:List AV) (i:Nat) (o:Obj),l.drop i=r->o.cls= .type "list_iterator" ->o.data= .fields #[.ref x,.int i 0]->ee c I (λst=>aQ st.own a l) (.ref x,a) r [(I,o)] c.g0:=by
 intro lz;induction lz with
 |nil=>intro i o hr h1 h2;intro T st s hg S;refine nn λhN=>?_;obtain⟨m,as,P,N,B⟩:=S;obtain⟨x',vs,n,e,g,rr⟩:=az.list (c:=c.v [(I,o)] c.g0) B hg (B.bw _ (.head _));cases e;refine hN ?_;have hI:=(B.aV (I,o) (.head _)).1;have hlen:=rr.length;refine aaa O.hh ⟨o,hI,h1,h2⟩ (aP g) (Tb (ae (km rr.length) (aek.mp hr))) λh' he=>⟨rfl,m,as,P,N,az.e8 (H:=[]) (H2:=[]) B he (.inl rfl)⟩
 |cons b r ih=>
  intro i o hr h1 h2;intro T st s hg S;refine nn λhN=>?_;obtain⟨m,as,P,N,B⟩:=S;obtain⟨x',vs,n,e,g,rr⟩:=az.list (c:=c.v [(I,o)] c.g0) B hg (B.bw _ (.head _));cases e;have hI:=(B.aV (I,o) (.head _)).1;have hb:l[i]?=some b:=by have:=congrArg (λy=>y[0]?) hr;simpa using this
  obtain⟨u,hu,q⟩:=rr.get hb;refine hN (Ts ⟨o,hI,h1,h2⟩ (aP g) (by simpa using hu) λh' hit hs=>nn λhN=>?_);obtain⟨o',g',vU,vV⟩:=hit;refine hN ⟨u,[(I,o')],c.g0,rfl,⟨m,as,P,N,az.e8 (H:=[]) (H2:=[(I,o')]) (az.push B q) (λb o hb e=>(hs.2 b hb).trans e) (.inr ⟨o',g',rfl⟩)⟩,ih (i+1) o' ?_ vU vV⟩;have:=congrArg aeX hr;simpa using this
theorem rj{I x:dq}{i:Nat}{o:Obj}(h1:o.cls= .type "list_iterator")(h2:o.data= .fields #[.ref x,.int i 0]):xB c I [(I,o)] c.g0:=λT st s S=>by have S' :=S;obtain⟨m,as,P,N,B⟩:=S';exact adS ⟨o,(B.aV (I,o) (.head _)).1,h1,h2⟩ ⟨rfl,S⟩
theorem gP(O:Ok c)(H:aQ st.own a l):e9 c a st l (λst=>aQ st.own a l):=λT v s S=>by refine nn λhN=>?_;obtain⟨m,as,P,N,B⟩:=S;obtain⟨x,vs,n,rfl,g,r⟩:=B.list H (B.bw _ (.head _));refine hN (xc (aP g) ⟨s.heap.objs.size,_,c.g0,rfl,⟨m,as,P,N,az.hide (c:=c) (H:=[]) (G:=c.g0) B O rfl⟩,rj rfl rfl,pQ O l 0 _ rfl rfl rfl⟩)
end
noncomputable def g7(a b:Int):List AV:=(ar (b-a).toNat).map λ(k:Nat)=> .f (.int (a+k))
theorem Cp(a:Int)(n:Nat):a+((n+1:Nat):Int)=a+1+n:=by rw[agE];rewrite [afU (n:Int)];refine bS (adf ..) ?_;rfl
theorem vW(a:Int)(n:Nat):(a+(n:Int)-a).toNat=n:=by rw[Int.sub_eq_iff_eq_add'.mpr (Eq.refl (a+(n:Int)))];rfl
theorem xD(a:Int)(n:Nat):(a+((n+1:Nat):Int)-(a+1)).toNat=n:=by rw[Cp];rw[vW];rfl
theorem FW{a b:Int}{k:Nat}(h:(b-a).toNat=k+1):a<b:=Int.lt_of_sub_pos (afV.mp (h▸zt k))
theorem xE{a b:Int}{k:Nat}(h:(b-a).toNat=k+1):(b-(a+1)).toNat=k:=by obtain⟨n,e⟩:=aii (FW h);rw[<-e,vW]at h;refine bS (e ..) ?_;rw[xD];exact Nat.succ.inj h
theorem FY(ha: -1000000≤a/\a≤1000000)(hb: -1000000≤b/\b≤1000000):(b-a).toNat≤2000000:=afW.mpr (Int.sub_le_sub hb.2 ha.1)
theorem kg(h:a<b):g7 a b= .f (.int a)::g7 (a+1) b:=by
 unfold g7;refine nn λhN=>?_;obtain⟨n,e⟩:=aii h;refine hN ?_;refine bS (e ..) ?_;rw[vW];rw[xD];rw[adF];rw[eA];rw[dT];congr 1
 ·simp
 ·apply i5;intro k _;show AV.f (.int (a+((k+1:Nat):Int)))=AV.f (.int (a+1+(k:Int)));rw[Cp];rfl
theorem rm(h:b≤a):g7 a b=[]:=by unfold g7;rw[aeJ (aeo h)];rfl
theorem rangeSize_one(a b:Int):NM a b 1=((b-a).toNat:Int):=by
 unfold NM;rw[if_pos (by decide)];split
 ·rw[Int.ediv_one];rw[Int.sub_add_cancel];rw[Oy (qr (Int.sub_pos_of_lt (by assumption)))];rfl
 ·rw[aeJ (aeo (uk.mp (by assumption)))];rfl
theorem small_one(ha: -1000000≤a/\a≤1000000)(hb: -1000000≤b/\b≤1000000):aeK a b 1=true:=by
 unfold aeK;rw[rangeSize_one];unfold agF;simp only[dk,decide_eq_true_eq,X1];have h1:=Tt (hV (by decide) ha.1) (hV ha.2 (by decide));have h2:=Tt (hV (by decide) hb.1) (hV hb.2 (by decide));have h3:=E6 (dA _) (hV (mN.mpr (FY ha hb)) (by decide));refine⟨⟨⟨⟨?_,?_⟩,?_⟩,?_⟩,?_⟩
 ·first|exact h1|exact h1.1|exact h2|exact h3
 ·first|exact h1.2|exact h2|exact h2.1|exact h3
 ·first|exact h2.1|exact h2.2|(constructor<;>decide)|decide|exact h3
 ·first|exact h2.2|exact h3|(constructor<;>decide)
 ·right
  rw[if_pos (by decide)];simp only[dk,decide_eq_true_eq];rw[show(1:Int)-1=0 from rfl];rw[adT];exact h2
section
variable{c:Cx}{st:St}{T:List (a7×AV)}{s:a8}
theorem bW (O:Ok c)(h:Q (.n (.m8 0 n)) st):aZ c (.type "range") [.f (.int n)] [] [] st Q:=jn λT x s S=>by obtain⟨t,Sz⟩:=S.jZ;rw[Sz];obtain⟨m,as,P,N,B⟩:=S;refine call_range_1 ⟨_,st,aX.dH (s:={s with heap:=s.heap.push _}) ((B.less λp hp=> .tail _ hp).oU O (r:= .m8 0 n) ⟨_,s.toks,t,s.toks+1,rfl,.inr rfl,bc _ rfl⟩),h⟩
theorem Ax(O:Ok c)(h:Q (.n (.m8 a b)) st):aZ c (.type "range") [.f (.int a),.f (.int b)] [] [] st Q:=tK λT x y s S=>by obtain⟨t,Qj⟩:=S.jZ;rw[Qj];obtain⟨u,rfl⟩:=S.pop.jZ;obtain⟨m,as,P,N,B⟩:=S;refine call_range_2 ⟨_,st,aX.dH (s:={s with heap:=s.heap.push _}) ((B.less λp hp=> .tail _ (.tail _ hp)).oU O (r:= .m8 a b) ⟨_,t,u,s.toks,rfl,.inr rfl,bc _ rfl⟩),h⟩
theorem nA(O:Ok c): ∀(k:Nat) (a b:Int),(b-a).toNat=k->ee c I (λaa=>True) p (g7 a b) [(I,⟨.type "range_iterator",none,.fields #[wy a,wy ((b-a).toNat:Int),wy 1],#[]⟩)] c.g0:=by
 intro lz;induction lz with
 |zero=>intro a b hk;rw[rm (Int.le_of_sub_nonpos (Int.toNat_eq_zero.mp hk))];intro T st s _ S;obtain⟨m,as,P,N,B⟩:=S;have hI:=(B.aV _ (.head _)).1;exact wpAny_pyNext_range_end O.hh hI (by rw[hk];decide) λh' he=>⟨rfl,m,as,P,N,az.e8 (H:=[]) (H2:=[]) B he (.inl rfl)⟩
 |succ k ih=>
  intro a b hk;rw[kg (FW hk)];intro T st s _ S;have S' :=S;obtain⟨m,as,P,N,B⟩:=S;have hI:=(B.aV _ (.head _)).1;refine wpAny_pyNext_range_item hI (by rw[hk];exact Hk.mpr (zt k)) λh' hit hs=>?_;have e:((b-a).toNat:Int)-1=((b-(a+1)).toNat:Int):=by rw[hk];rw[xE hk];exact Int.add_sub_cancel (k:Int) 1
  have Uj:h'.get? I=some ⟨.type "range_iterator",none,.fields #[wy (a+1),wy ((b-(a+1)).toNat:Int),wy 1],#[]⟩:=by refine bS (e ..) ?_;exact hit
  refine⟨_,_,c.g0,rfl,⟨m,as,P,N,az.e8 (H:=[]) (H2:=[(I,_)]) (az.push B (a:= .f (.int a)) ⟨_,rfl⟩) (λb o hb e=>(hs.2 b hb).trans e) (.inr ⟨_,Uj,rfl⟩)⟩,ih (a+1) b (xE hk)⟩
theorem pR:xB c I [(I,⟨.type "range_iterator",none,.fields #[wy a,wy n,wy k],#[]⟩)] c.g0:=λT st s S=>by have S' :=S;obtain⟨m,as,P,N,B⟩:=S';exact wpAny_pyIter_rangeiter (B.aV _ (.head _)).1 ⟨rfl,S⟩
theorem rq(O:Ok c)(ha: -1000000≤a/\a≤1000000)(hb: -1000000≤b/\b≤1000000):e9 c (.n (.m8 a b)) st (g7 a b) (λaa=>True):=λT v s S=>by obtain⟨m,as,P,N,B⟩:=S;obtain⟨x,t,u,k,rfl,_,g⟩:=B.bw _ (.head _);have key:=nA O (I:=s.heap.objs.size) (p:=(.ref x,.n (.m8 a b))) (b-a).toNat a b rfl;refine afe g (small_one ha hb) ⟨s.heap.objs.size,_,c.g0,rfl,⟨m,as,P,N,az.hide (c:=c) (H:=[]) (G:=c.g0) B O (o:=⟨.type "range_iterator",none,.fields #[wy a,wy (NM a b 1),wy 1],#[]⟩) rfl⟩,pR,?_⟩;rw[rangeSize_one];exact key
theorem jq(H:aQ st.own a l)(hl:l.length≤1000000)(h:Q (.f (.int l.length)) st):aZ c (.builtin "len") [a] [] [] st Q:=jn λT x s S=>by have S' :=S;obtain⟨m,as,P,N,B⟩:=S';obtain⟨x,vs,n,rfl,g,r⟩:=B.list H (B.bw _ (.head _));have hlen:=r.length;refine call_len_list (aP g) (by rw[eM];lia) ⟨_,st,?_,h⟩;rw[eM];rw[hlen];exact S.pop.dH.int
theorem JZ(h:Q (.f (.int i)) st):aZ c (.type "int") [.f (.int i)] [] [] st Q:=jn λT x s S=>by obtain⟨t,rfl⟩:=S.jZ;exact call_int_int ⟨_,st,S,h⟩
theorem J0(h:Q (.f (.int (if i<0 then-i else i))) st):aZ c (.builtin "abs") [.f (.int i)] [] [] st Q:=jn λT x s S=>by obtain⟨t,rfl⟩:=S.jZ;exact aha λu tk=>⟨_,st,S.pop.dH.int,h⟩
end
def Uk(k:St->(Bool->St->Prop)->Prop)(Q:Bool->St->Prop):Bool->St->Prop:=λb aO=>if b=true then k aO Q else Q false aO
def jF(c:Cx):List Expr->St->(Bool->St->Prop)->Prop
 | [],st,Q=>Q true st
 |t::r,st,Q=>tG c t st (Uk (jF c r) Q)
section
variable{c:Cx}{st:St}{T:List (a7×AV)}{s:a8}
theorem FZ {M:adC}{A:ka}{E:a7->a8->Prop}{s:a8}{env:Env}: ∀(ifs:List Expr) {Q:Bool->a8->Prop},Q false s->
  dE M A (forIn ifs false λt r=>if r=true then do let ok<-abF t env (acp t env);pure (sk ok)else pure (sk r)) Q E s:=by
 intro lz;induction lz with
 |nil=>intro Q h;rw[aaA];exact ax h
 |cons t r ih=>intro Q h;rw[Kj];rw[if_neg (by decide)];exact ab (ax (ih h))
theorem F4: ∀(ifs:List Expr) {st:St} {Q:Bool->St->Prop},jF c ifs st Q-> ∀(T:List (a7×AV)) (s:a8),aX c st T s->
  dE (dC c.prog c.w) c.A (forIn ifs true λt r=>if r=true then do let ok<-abF t c.env (acp t c.env);pure (sk ok)else pure (sk r)) (PE c T Q) (λaa aa=>False) s:=by
 intro lz;induction lz with
 |nil=>intro st Q h T s S;rw[aaA];exact ax ⟨st,S,h⟩
 |cons t r ih=>
  intro st Q h T s S;rw[Kj];rw[if_pos rfl];refine ab (ab (wpS (h T s S) (λb s1 z=>?_)));obtain⟨bl,S1,q⟩:=z;refine ax ?_;cases b with
  |true=>exact ih q T s1 S1
  |false=>exact FZ r ⟨bl,S1,q⟩
noncomputable def Qk(L:Code)(x:Str)(px:Pos)(ifs:List Expr)(pos:Pos)(it:a7)(env:Env)(body:Sem Fin):Sem Fin:=
 aau pos>>=λaa=>aaW it>>=λr=>match r with
  |none=>pure (.done .next)
  |some v=>Z3 (.Name x px) it v>>=λaa=>afd (.Name x px) env v>>=λaa=>(forIn ifs true λt r=>if r=true then do let ok<-abF t env (acp t env);pure (sk ok)else pure (sk r))>>=λok=>if ok=true then body else again L
def Ql(c:Cx)(x:Str)(ifs:List Expr)(Q:Cx->(St->Prop)->Bool->St->Prop)(Inv:List AV->St->Prop):Prop:=∀b r st H G,Inv (b::r) st-> ∃l2,cA st.loc x b l2/\jF (c.v H G) ifs ⟨l2,st.own⟩ (Q (c.v H G) (Inv r))
theorem uD(O:Ok c)(eq:ahs (.ListComp elt gens scope pos) d (.ref J) cF c.env=Qk (.compLoop (.ListComp elt gens scope pos) d (.ref J) cF c.env) x px ifs ps (.ref J) c.env body)
  (Y:ee c J good p l H G)(Inv:List AV->St->Prop)(hI:Inv l st)(iU: ∀r st,Inv r st->good st)(hx:storeOk c x=true)
  (Q:Cx->(St->Prop)->Bool->St->Prop)(turn:Ql c x ifs Q Inv)(h0: ∀c I st,Q c I false st->I st)
  (hb: ∀H G I st s R F,Q (c.v H G) I true st->aX (c.v H G) st (p::T) s->(∀s' aO,aX (c.v H G) aO (p::T) s' ->I aO->R (.again (.compLoop (.ListComp elt gens scope pos) d (.ref J) cF c.env)) s')->dE (dC c.prog c.w) c.A body R F s)
  (S:aX (c.v H G) st (p::T) s)(hR: ∀s' aO,aX c aO (p::T) s' ->Inv [] aO->R (.ok .next) s'):tJ (dC c.prog c.w) c.A (.compLoop (.ListComp elt gens scope pos) d (.ref J) cF c.env) R s:=by
 refine codeAny_loop rfl (CompI c J good p T Inv) (λn s hI=>aV λW F hW=>wpAny_noted ?_) l.length ⟨l,st,H,G,rfl,S,Y,hI⟩;rw[eq];refine ab (rn (ab ?_));obtain⟨r,bD,H2,G2,en,S3,Y2,hI⟩:=hI;cases r with
 |nil=>refine mu (Y2 _ bD s (iU _ _ hI) S3) (λov s3 z=>?_);obtain⟨rfl,S4⟩:=z;exact ax (hW _ _ (hR s3 bD S4 hI))
 |cons b r=>
  have next: ∀s' aO H' G',aX (c.v H' G') aO (p::T) s' ->ee c J good p r H' G' ->Inv r aO->W (.again (.compLoop (.ListComp elt gens scope pos) d (.ref J) cF c.env)) s' :=λs' aO H' G' S' Y' h' =>hW _ _ ⟨rfl,r.length,en▸gN _,r,aO,H',G',rfl,S',Y',h'⟩;refine mu (Y2 _ bD s (iU _ _ hI) S3) (λov s3 z=>?_);obtain⟨u,H3,G3,rfl,S4,Y3⟩:=z;obtain⟨l2,gu,gC⟩:=turn b r bD H3 G3 hI;refine ab (kA (a:=()) rfl (ab (xb (mu (aX.eZ (c:=c.v H3 G3) S4 (O.v H3 G3) hx gu) (λaa s4 S5=>ab (mu (F4 (c:=c.v H3 G3) ifs gC _ s4 S5) (λok s5 z=>?_)))))));obtain⟨SA,S6,q⟩:=z;cases ok with
  |false=>exact ax (next s5 SA H3 G3 S6 Y3 (h0 _ _ _ q))
  |true=>exact hb H3 G3 (Inv r) SA s5 W _ q S6 λs' aO S' h' =>next s' aO H3 G3 S' Y3 h'
inductive Qm(I:St->Prop)(y:AV)(gW:St):Prop
 |mk (la:List AV) (h1:gW.own[0]?=some (.list la)) (h2:la.length≤1000000) (q:I ⟨gW.loc,gW.own.set 0 (.list (la++[y]))⟩)
def F5(c:Cx)(elt:Expr)(I:St->Prop):Bool->St->Prop:=λok bD=>if ok=true then Ev c elt bD (Qm I)else I bD
def nB(c:Cx)(elt:Expr)(x:Str)(ifs:List Expr)(Inv:List AV->St->Prop):Prop:=∀b r st H G,Inv (b::r) st-> ∃l2,cA st.loc x b l2/\jF (c.v H G) ifs ⟨l2,st.own⟩ (F5 (c.v H G) elt (Inv r))
theorem oZ(O:Ok c)(h0:gens[d]?=some ⟨.Name x px,iter,ifs,0⟩)(h1:gens[d+1]?=none)
  (Y:ee c I good p l H G)(Inv:List AV->St->Prop)(hI:Inv l st)(iU: ∀r st,Inv r st->good st)(hx:storeOk c x=true)
  (turn:nB c elt x ifs Inv)
  (S:aX (c.v H G) st (p::(cF,.own 0)::T) s)(hR: ∀s' aO,aX c aO (p::(cF,.own 0)::T) s' ->Inv [] aO->R (.ok .next) s'):
  tJ (dC c.prog c.w) c.A (.compLoop (.ListComp elt gens scope pos) d (.ref I) cF c.env) R s:=by
 refine uD O (px:=px) (ps:=iter.pos) (body:=(acp elt c.env>>=λx=>call (.builtin "list.append") [cF,x]>>=λaa=>pure ())>>=λaa=>again (.compLoop (.ListComp elt gens scope pos) d (.ref I) cF c.env)) (by unfold ahs;dsimp only;rw[h0];rw[h1];rfl) Y Inv hI iU hx (λc I=>F5 c elt I) turn (λaa aa aa q=>q) (λH G J SA s5 W F q S6 k=>?_) S hR;refine ab (ab (mu (Ev.run q _ s5 S6) (λy s6 z=>?_)));obtain⟨a,Qn,S7,la,YV,hlen,Ui⟩:=z;refine ab (mu (ri (c:=c.v H G) (Q:=λv aO=>v= .f .none/\J aO) YV hlen ⟨rfl,Ui⟩ (p::(cF,.own 0)::T) [cF,y] [] s6 rfl rfl (S7.sub λw hw=>?_)) (λv s7 z=>?_))
 ·exact(a5.mp hw).elim (λe=>e▸ .tail _ (.tail _ (.head _))) id
 ·obtain⟨_,Ul,S9,_,Um⟩:=z;exact ax (ax (k s7 Ul S9.pop Um))
theorem ru(hg:gens[d]?=some g)(ha:g.is_async=0)
  (h0:tJ (dC c.prog c.w) c.A (.compLoop (.ListComp elt gens scope pos) d it acc c.env) R s)
  (h:dE (dC c.prog c.w) c.A (aba it) (λSD s' =>tJ (dC c.prog c.w) c.A (.compLoop (.ListComp elt gens scope pos) d SD acc c.env) R s') (notedBy (dC c.prog c.w) c.A c.env λx s' =>R (.error x) s') s):
  tJ (dC c.prog c.w) c.A (.compStart (.ListComp elt gens scope pos) d it acc c.env) R s:=by
 refine adU (wpAny_notedAt ?_);unfold compStart;rw[show clausesOf (.ListComp elt gens scope pos)=gens from rfl];rw[hg];have e0:(some g).elim false (λx=>x.is_async !=0)=false:=by show(g.is_async !=0)=false;rw[ha];rfl
 rw[if_neg (by rw[e0];decide)];refine ab (m:=ask) (Fm (agG ?_));split
 ·first
   |exact ab (ax (ax (ahR rfl h0)))
   |exact ax (ahR rfl h0)
 ·exact ab (Fn (ab (rn (ab (hO h (λSD s' h' =>ax (ahR rfl h')) λaa aa x=>x)))))
inductive YW(c:Cx)(elt:Expr)(x1:Str)(f1:List Expr)(I:St->Prop)(a:AV)(gW:St):Prop
 |mk (l1:List AV) (F6:St->Prop) (Inv1:List AV->St->Prop) (h1:e9 c a gW l1 F6) (h2:Inv1 l1 gW) (h3: ∀r st,Inv1 r st->F6 st) (h4:nB c elt x1 f1 Inv1) (q: ∀ER,Inv1 [] ER->I ER)
def Qo(c:Cx)(elt i1:Expr)(x1:Str)(f1:List Expr)(I:St->Prop):Bool->St->Prop:=λok bD=>if ok=true then Ev c i1 bD (YW c elt x1 f1 I)else I bD
def Cq(c:Cx)(elt i1:Expr)(x x1:Str)(ifs f1:List Expr)(Inv:List AV->St->Prop):Prop:=∀b r st H G,Inv (b::r) st-> ∃l2,cA st.loc x b l2/\jF (c.v H G) ifs ⟨l2,st.own⟩ (Qo (c.v H G) elt i1 x1 f1 (Inv r))
inductive Nd(c:Cx)(T:List (a7×AV))(I:St->Prop)(r:abS)(s:a8):Prop
 |mk (f:Flow) (st:St) (e:r= .ok f) (S:aX c st T s) (h:I st)
theorem Ay(O:Ok c)(h0:gens[d]?=some ⟨.Name x px,iter,ifs,0⟩)(h1:gens[d+1]?=some ⟨.Name x1 p1,i1,f1,0⟩)(h2:gens[d+2]?=none)
  (Y:ee c I good p l H G)(Inv:List AV->St->Prop)(hI:Inv l st)(iU: ∀r st,Inv r st->good st)(hx:storeOk c x=true)(Ju:storeOk c x1=true)
  (qi: ∀y,il i1 c.env y=pure y)
  (turn:Cq c elt i1 x x1 ifs f1 Inv)
  (S:aX (c.v H G) st (p::(cF,.own 0)::T) s)(hR: ∀s' aO,aX c aO (p::(cF,.own 0)::T) s' ->Inv [] aO->R (.ok .next) s'):
  tJ (dC c.prog c.w) c.A (.compLoop (.ListComp elt gens scope pos) d (.ref I) cF c.env) R s:=by
 refine uD O (px:=px) (ps:=iter.pos) (body:=acp i1 c.env>>=λx=>aau i1.pos>>=λaa=>il i1 c.env x>>=λx=>NA [x] (aba x)>>=λj=>runOwn (.compStart (.ListComp elt gens scope pos) (d+1) j cF c.env) c.env>>=λaa=>again (.compLoop (.ListComp elt gens scope pos) d (.ref I) cF c.env))
  (by unfold ahs;dsimp only;rw[h0];rw[h1];rfl) Y Inv hI iU hx (λc I=>Qo c elt i1 x1 f1 I) turn (λaa aa aa q=>q) (λH3 G3 J SA s5 W F q S6 k=>?_) S hR
 refine ab (mu (Ev.run q _ s5 S6) (λy s6 z=>?_));obtain⟨a,Qn,S7,l1,F6,Inv1,hit,YX,Nf,Qp,F7⟩:=z;refine ab (rn (ab (kA (qi y) (ab (eJ (mu (hit _ y s6 S7) (λj s7 z=>?_)))))));obtain⟨I1,H4,G4,rfl,S8,Un,Y4⟩:=z;have S9:aX ((c.v H3 G3).v H4 G4) Qn ((y,a)::(cF,.own 0)::p::(cF,.own 0)::T) s7:=S8.sub λw hw=>by
  rcases a5.mp hw with rfl|hw
  ·exact .head _
  ·rcases a5.mp hw with rfl|hw
   ·exact .tail _ (.tail _ (.head _))
   ·exact .tail _ hw
 have loop: ∀s8,aX ((c.v H3 G3).v H4 G4) Qn ((y,a)::(cF,.own 0)::p::(cF,.own 0)::T) s8->
   tJ (dC c.prog c.w) c.A (.compLoop (.ListComp elt gens scope pos) (d+1) (.ref I1) cF c.env) (Nd (c.v H3 G3) (p::(cF,.own 0)::T) J) s8:=λs8 S9=>
  oZ (c:=c.v H3 G3) (st:=Qn) (O.v H3 G3) h1 h2 Y4 Inv1 YX Nf Ju Qp S9 λs' aO S' Ng=>⟨_,aO,rfl,S'.pop.pop,F7 aO Ng⟩
 refine ab (wpAny_runOwn (afX (ru (c:=c) h1 rfl (loop s7 S9) (mu (Un _ Qn s7 S9) (λSD s8 z=>z.1▸loop s8 z.2))) λres s' z=>?_));obtain⟨f,Ul,rfl,YY,YZ⟩:=z;exact ax (k s' Ul YY YZ)
end
def Src(x:FV)(l:List AV):Prop:=∀(prog:d5) (w:fA) (A:ka) (s:a8) (P:dq->Prop) (v:a7),VR s.heap P x v-> ∃o:Obj,A3 (o.isFreed=false) (∀(Q:a7->a8->Prop) (E:a7->a8->Prop),Q (.ref s.heap.objs.size) {s with heap:=s.heap.push o}->dE (dC prog w) A (aba v) Q E s) (∀(cc:Cx),Ok cc->xB cc s.heap.objs.size [(s.heap.objs.size,o)] cc.g0/\ee cc s.heap.objs.size (λaa=>True) (v,.f x) l [(s.heap.objs.size,o)] cc.g0)
theorem ee.good{c:Cx}{I:dq}{g g' :St->Prop}{p:a7×AV}(h: ∀st,g' st->g st): ∀{l:List AV} {H:List (dq×Obj)} {G:Array de},ee c I g p l H G->ee c I g' p l H G:=by
 intro lz;cases lz with
 |nil=>intro _ _ Y;exact λT st s hg S=>Y T st s (h st hg) S
 |cons _ _=>intro _ _ Y;exact λT st s hg S=>wpS (Y T st s (h st hg) S) (λaa aa z=>let⟨v,H',G',e,S',Y'⟩:=z;⟨v,H',G',e,S',Y'.good h⟩)
theorem src_list(l:List FV):Src (.list l) (l.map .f):=λprog w A s P v h=>by obtain⟨x,vs,n,rfl,_,g,r⟩:=h;exact⟨⟨.type "list_iterator",none,.fields #[.ref x,.int 0 0],#[]⟩,rfl,λQ E q=>xc (aP g) q,λcc O=>⟨rj rfl rfl,(pQ O (l.map .f) 0 _ rfl rfl rfl).good λst aa=> .f l⟩⟩
theorem src_range(ha: -1000000≤a/\a≤1000000)(hb: -1000000≤b/\b≤1000000):Src (.m8 a b) (g7 a b):=λprog w A s P v h=>by obtain⟨x,t,u,k,rfl,_,g⟩:=h;refine⟨⟨.type "range_iterator",none,.fields #[wy a,wy (NM a b 1),wy 1],#[]⟩,rfl,λQ E q=>afe g (small_one ha hb) q,λcc O=>⟨pR,?_⟩⟩;rw[rangeSize_one];exact nA O (b-a).toNat a b rfl
theorem tM: ∀(names:List (Str×ae2)) (n:Nat) (acc:List (Str×dq)),si n names acc=si n names []++acc:=by
 intro lz;induction lz with
 |nil=>intro _ _;exact rfl
 |cons mE r ih=>
  intro n acc;obtain⟨x,k⟩:=mE;unfold si;split
  ·rw[ih (n+1) ((x,n)::acc)];rw[ih (n+1) [(x,n)]];rw[hJ];rfl
  ·exact ih n acc
theorem Az
  (h:Q {scope:=scope,locals:=s.heap.objs.size,globals:=env.globals,cells:=si (s.heap.objs.size+1) scope.names cl,qual:=env.qual,func:=none,code:=env.code,frame:=env.frame,builtins:=env.builtins}
   {s with heap:=pushCells (s.heap.push {cls:= .type "dict",data:= .dict #[]}) scope.names}):
  dE M A (newFunctionEnv scope env.globals cl [] env.qual none .none (some env)) Q E s:=by
 refine ab (agH ?_);refine ab (wpAny_layCells _ (λname kind cells=>by cases Y5:kind==NameKind.cell<;>simp[Y5]) _ _ _ _ ?_);rw[show({s with heap:=s.heap.push {cls:= .type "dict",data:= .dict #[]}}:a8).heap.objs.size=s.heap.objs.size+1 from ot ..];exact ab (ax (ax h))
noncomputable def Cr(scope:aeY)(x:Str):Bool:=((si 0 scope.names []).lookup x).isSome
noncomputable abbrev Cs(c:Cx)(scope:aeY)(cl:List (Str×dq))(V:Fx):Cx:=⟨c.prog,c.w,c.A,abZ scope (si (V.L+1) scope.names cl) V.L c.env,V.h0,V.g0,V.os,c.K,c.tt,V.Jr,V.P0,Cr scope,[]⟩
inductive nC(c:Cx)(scope:aeY)(cl:List (Str×dq))(st:St):List (Str×FV)->Prop
 |nil:nC c scope cl st []
 |cons {x:Str} {av:AV} {fv:FV} {r:List (Str×FV)} (i:Nat):st.loc[i]?=some (x,av)->c.env.kindOf x=some .cell->(abZ scope cl 0 c.env).kindOf x=some .cell->(∀L,(si (L+1) scope.names cl).lookup x=c.env.cells.lookup x)->Snap st.own av fv->
  nC c scope cl st r->nC c scope cl st ((x,fv)::r)
theorem nC.get{c:Cx}{scope:aeY}{cl:List (Str×dq)}{st:St}{l:List (Str×FV)}(h:nC c scope cl st l): ∀e∈l,∃av,A5 ((e.1,av)∈st.loc) (c.env.kindOf e.1=some .cell) ((abZ scope cl 0 c.env).kindOf e.1=some .cell) (∀L,(si (L+1) scope.names cl).lookup e.1=c.env.cells.lookup e.1) (Snap st.own av e.2):=by
 induction h with
 |nil=>intro e he;cases he
 |cons i h1 h2 h3 h4 h5 _ ih=>
  intro e he;rcases a5.mp he with rfl|he
  ·exact⟨_,d3 h1,h2,h3,h4,h5⟩
  ·exact ih e he
section
variable{c:Cx}{st:St}{T:List (a7×AV)}{s:a8}
theorem az.vX (B:az c st T s m as P N)(g:s.heap.get? L=some o)(A:Apart c P as L)(nh: ∀p∈c.aV,p.1≠L):az (c.v [(L,o)] c.g0) st T s m as P N:=B.chg (Z:=λaa=>False) (H:=(L,o)::c.aV) (λaa h=>h.elim) (λaa aa aa aa e=>e) (λaa aa t=>t) B.gens rfl (Iy.mpr ⟨⟨g,A⟩,λp hp=>⟨(B.aV p hp).1,B.cR hp⟩⟩) (dn.mpr ⟨λq=>by obtain⟨p,hp,e⟩:=bb.mp q;exact nh p hp e,B.bU⟩)
end
def nD(cc:Cx)(e:Expr)(l:List AV)(loc:List (Str×AV))(Q:List AO->List AV->Prop):Prop:=
 ∀(I:dq) (cF:a7) (p:a7×AV) (H:List (dq×Obj)) (G:Array de) (T:List (a7×AV)) (s:a8) (R:abS->a8->Prop),ee cc I (λaa=>True) p l H G->aX (cc.v H G) ⟨loc,[.list []]⟩ (p::(cF,.own 0)::T) s->
  (∀s' aO,aX cc aO (p::(cF,.own 0)::T) s' ->(∃la,aO.own[0]?=some (.list la)/\Q aO.own la)->R (.ok .next) s')->
  tJ (dC cc.prog cc.w) cc.A (.compLoop e 0 (.ref I) cF cc.env) R s
def k7(cc:Cx)(e:Expr)(l:List AV)(loc:List (Str×AV))(Q:List FV->Prop):Prop:=nD cc e l loc λown la=> ∃ys,j0 own la ys/\Q ys
theorem vY(names:List (Str×ae2))(n m:Nat)(x:Str):((si n names []).lookup x).isSome=((si m names []).lookup x).isSome:=by
 have e:(si n names []).map (·.1)=(si m names []).map (·.1):=cellsFrom_names names n m [] [] rfl;have key: ∀(l:List (Str×dq)),(l.lookup x).isSome=(l.map (·.1)).contains x:=by
  intro l;induction l with
  |nil=>rfl
  |cons p r ih=>
   obtain⟨y,a⟩:=p;rw[List.lookup_cons];rw[eA];rw[List.contains_cons];cases q:x==y with
   |true=>rfl
   |false=>rw[ih];rfl
 rw[key];rw[key];rw[e];rfl
section
variable{c:Cx}{st:St}
inductive AA (c:Cx)(scope:aeY)(cl:List (Str×dq))(n:Nat)(e:Expr)(Q:List AO->List AV->St->Prop)(a:AV)(bl:St):Prop
 |mk (xf:FV) (l:List AV) (fr:List (Str×FV)) (h1:Src xf l) (h2:Snap bl.own a xf) (h3:nC c scope cl bl fr) (q: ∀V,bQ (Cs c scope cl V) n->nD (Cs c scope cl V) e l (fr.map λp=>(p.1,.f p.2)) λown la=>Q own la bl)
inductive F8(c:Cx)(scope:aeY)(cl:List (Str×dq))(n:Nat)(e:Expr)(Q:List FV->St->Prop)(a:AV)(bl:St):Prop
 |mk (xf:FV) (l:List AV) (fr:List (Str×FV)) (h1:Src xf l) (h2:Snap bl.own a xf) (h3:nC c scope cl bl fr) (q: ∀V,bQ (Cs c scope cl V) n->k7 (Cs c scope cl V) e l (fr.map λp=>(p.1,.f p.2)) λys=>Q ys bl)
def F9(Q:AV->St->Prop):List FV->St->Prop:=λys bl=>Q (.n (.list ys)) bl
noncomputable abbrev kV(c:Cx)(s:a8):Fx:=⟨c.A,s.heap.objs.size+2,abu s.heap c.tt,s.gens,s.os,[],λa=>((abu s.heap c.tt).get? a).isSome⟩
section
variable{T T' :List (a7×AV)}{aO:St}{s s' :a8}{m m' :Str->Option a7}{as dZ:List dq}{P N P' N' :dq->Prop}{scope:aeY}{cl:List (Str×dq)}
theorem nF (B:az (Cs c scope cl (kV c s)) aO T' s' m' dZ P' N'):Ext c.tt s s' :=⟨⟨λb o hb e=>B.keep b o (YP c.tt e hb),λa h aa=>B.low.2 a h⟩,B.gens,B.os⟩
theorem uE(e:(abu h tt).get? a=none)(ht:a∉tt):h.get? a=none:=FK.mpr λo q=>cu e (YP tt q ht)
theorem nG(B:az (Cs c scope cl (kV c s)) aO T' s' m' dZ P' N')(h:N' a∨a∈dZ):fC c.tt s.heap a/\a≠s.heap.objs.size+2:=h.elim (λh=>have p:=B.pf a (B.nP a h);⟨⟨uE (B.new a h) p.2.2,p.2.2⟩,p.1⟩) λh=>have p:=B.fresh a h;⟨⟨uE p.1 p.2.2.2,p.2.2.2⟩,p.2.1⟩
theorem gQ{h:wq}(k:Nat):h.get? (h.objs.size+k)=none:=dv (cb _ k)
theorem az.Ga(B:az c st T s m as P N)(h:a∈c.tt):a<s.heap.objs.size:=by obtain⟨_,_,e,_,_⟩:=B.low.2 a h;exact d4 e
theorem az.uF(B:az c st T s m as P N)(k:Nat):s.heap.objs.size+k∉c.tt:=λq=>mr.mpr (cb _ k) (B.Ga q)
structure vZ(scope:aeY)(n:Nat)(h:wq):Prop where
 empty: ∀y b,(si (n+2+1) scope.names []).lookup y=some b->h.IsCell b none/\n+2<b
 apart: ∀x y a,(si (n+2+1) scope.names []).lookup x=some a->(si (n+2+1) scope.names []).lookup y=some a->x=y
theorem Gb(scope:aeY)(e:h.objs.size=n+2+1):vZ scope n (pushCells h scope.names):=by have z:=cellsFrom_ok scope.names h (n+2+1) [] ⟨λaa aa hm=>(nomatch hm),List.Pairwise.nil⟩ (km e.symm);rw[e]at z;exact⟨λy b q=>z.empty y b (aa7 q),λx y a q q' =>name_of_addr z.apart (aa7 q) (aa7 q')⟩
theorem nH(e:(si n scope.names cl).lookup y=some b)(w:Cr scope y=true):(si n scope.names []).lookup y=some b:=by rw[tM,acA]at e;obtain⟨b',gC⟩:=cx.mp ((vY scope.names n 0 y).trans w);rw[gC]at e⊢;exact e
theorem J1{n:Nat}{h:wq}(O:bQ c n)(B:az c st T s m as P N)(U:vZ scope s.heap.objs.size h)(dw:scope.kind= .function)(cj: ∀L,rk (abZ scope (si (L+1) scope.names cl) L c.env)=false):bQ (Cs c scope cl (kV c s)) n where
 cO:=λa o e=>YP c.tt (O.cO.keeps B.keep a o e) (O.kt a o e)
 lim:=by obtain⟨mc,hm,e⟩:=(O.lim.keeps B.keep:s.heap.NoLimit);exact⟨mc,hm.at' λo q=>YP c.tt q O.st,e⟩
 hh:=O.hh
 kind:=dw
 inter:=cj _
 sz:=λa ha=>aff (B.Ga ha) (acy ..).symm
 cin:=λy z a e e' w w' =>U.apart y z a (nH e w) (nH e' w')
 dp:=O.dp
 un:=O.un
 kt:=O.kt
 st:=O.st
theorem Dz(B:az c st T s m as P N)(jU:nC c scope cl st fr)(k: ∀b o,s.heap.get? b=some o->h.get? b=some o)(he:e∈fr):
  ∃v,bC ((Cs c scope cl (kV c s)).v [(s.heap.objs.size,o)] s.gens) h (λaa=>none) e.1 v/\VR h (λa=>((abu s.heap c.tt).get? a).isSome) e.2 v:=nn λhN=>by
 obtain⟨av,f1,f2,f3,f4,f5⟩:=jU.get e he;obtain⟨u,hu,hr⟩:=B.loc _ f1;unfold bC at hu;rw[f2]at hu;obtain⟨b,e1,⟨ob,e2,e3⟩,e4⟩:=hu;have Uo:b∉c.tt:=e4.elim (λe4=>(B.kU _ b e1 e4).2.2.2.2.2) λe4=>by obtain⟨o',e'⟩:=cx.mp e4;exact B.qf b o' e'
 refine hN ⟨u,?_,(B.snap f5 u hr).there.mono (λa o aa e=>k a o e) λa ha=>?_⟩
 ·unfold bC;rw[show((Cs c scope cl (kV c s)).v [(s.heap.objs.size,o)] s.gens).env.kindOf e.1=some .cell from f3];exact⟨b,(f4 _).trans e1,⟨ob,k b ob e2,e3⟩,.inr (cx.mpr ⟨ob,YP c.tt e2 Uo⟩)⟩
 ·obtain⟨o',e'⟩:=cx.mp ha.2;exact cx.mpr ⟨o',YP c.tt e' ha.1⟩
theorem Gd(O:bQ c n)(B:az c st T s m as P N)(hv:VR s.heap (λa=>a∉c.tt) xf v)(jU:nC c scope cl st fr)(U:vZ scope s.heap.objs.size h)(k: ∀b o,s.heap.get? b=some o->h.get? b=some o)(gI:h.get? s.heap.objs.size=some o)
  (gA:h.get? (s.heap.objs.size+1)=some {cls:= .type "list",data:= .seq ([]:List a7).toArray})(gL:h.Ns (s.heap.objs.size+2) λaa=>none):
  aX ((Cs c scope cl (kV c s)).v [(s.heap.objs.size,o)] s.gens) ⟨fr.map λp=>(p.1,.f p.2),[.list []]⟩ ((v,.f xf)::(.ref (s.heap.objs.size+1),.own 0)::[]) ⟨h,s.gens,s.drawn,s.toks,s.os⟩:=by
 have pS: ∀k:Nat,(abu s.heap c.tt).get? (s.heap.objs.size+k)=none:=λk=>dv (ae (km (acy ..)) (cb _ k));have LN: ∀b,s.heap.objs.size≤b->(abu s.heap c.tt).get? b=none:=λb hb=>dv (ae (km (acy ..)) hb);have Ak: ∀b,(abu s.heap c.tt).get? b=none-> ¬((abu s.heap c.tt).get? b).isSome=true:=λb e q=>by rw[e]at q;cases q
 have up: ∀b:dq,s.heap.objs.size+2<b->s.heap.objs.size≤b:=λb h=>ec (bj (cb _ 2) h);have one: ∀a∈[s.heap.objs.size+1],a=s.heap.objs.size+1:=λa ha=>fx.mp ha;refine⟨λaa=>none,[s.heap.objs.size+1],λa=>((abu s.heap c.tt).get? a).isSome,λaa=>False,{
  ns:=gL,keep:=λb o e=>k b o (afy c.tt e),low:=⟨⟨pS 2,λa o e=>a0 (d4 (O.cO.keeps B.keep a o e)) (cb _ 2)⟩,λa h=>(B.low.2 a h).of λo=>k a o⟩,
  gens:=⟨[],by simp,λaa h=>nomatch h⟩,os:=rfl,
  loc:=λe he=>?_,
  own:=⟨_,[],rfl,⟨[],0,gA,rfl⟩,rfl⟩,
  nd:=aa6 _ _,
  fresh:=λa ha=>one a ha▸⟨pS 1,du (gN _),Ak _ (pS 1),B.uF 1⟩,
  pf:=λa ha=>?_,
  old:=λa h=> .inl h,
  qf:=λb o e q=>cu (aaU c.tt q) e,
  nP:=λaa h=>h.elim,
  new:=λaa h=>h.elim,
  qg:=B.uF 2,
  pre:=λaa aa h=>(nomatch h),
  kU:=λy b e w=>?_,
  aV:=λp hp=>?_,
  bU:=aa6 _ _,
  bw:=λp hp=>?_}⟩
 ·obtain⟨p,hp,e⟩:=bb.mp he;exact e▸Dz B jU k hp
 ·obtain⟨o',e⟩:=cx.mp ha;have e' :=afy c.tt e;exact⟨du (a0 (d4 e') (cb _ 2)),cx.mpr ⟨o',k a o' e'⟩,λq=>cu (aaU c.tt q) e⟩
 ·obtain⟨hc,cy⟩:=U.empty y b (nH e w);exact⟨⟨_,hc⟩,LN b (up b cy),pz cy,Ak b (LN b (up b cy)),λq=>Hd cy (one b q▸gN _),λq=>mr.mpr (up b cy) (B.Ga q)⟩
 ·rw[fx.mp hp];exact⟨gI,pS 0,du (zr (by decide)),Ak _ (pS 0),λq=>du (gN _) (one _ q),B.uF 0,λy e=>abr.mpr λw=>mr.mpr (cb _ 2) (U.empty y _ (nH e w)).2⟩
 ·rcases a5.mp hp with e|hp
  ·rw[e];exact hv.there.mono (λa o aa e=>k a o e) λa ha=>by obtain⟨o',e'⟩:=cx.mp ha.2;exact cx.mpr ⟨o',YP c.tt e' ha.1⟩
  ·rw[fx.mp hp];exact⟨_,rfl,rfl⟩
end
theorem ry(O:bQ c n)(cl:List (Str×dq))(eE:RF scope c.env=pure cl)
  (h:Ev c iter st (AA c scope cl n (.ListComp elt (⟨.Name x px,iter,ifs,0⟩::rest) scope pos) Q))
  (dw:scope.kind= .function:=by kernel_rfl)(g8:(scope.names.all λx=>decide (x.2= .local->scope.names.lookup x.1=some .local))=true:=by kernel_rfl)
  (cj: ∀L,rk (abZ scope (si (L+1) scope.names cl) L c.env)=false:=by intro _;kernel_rfl)
  (hs: ∀y,il iter c.env y=pure y:=by intro _;rfl): ∀(T:List (a7×AV)) (s:a8) (use:Option (a7->Sem Unit)) (QQ:a7->a8->Prop),aX c st T s->
   (∀(s1 s' :a8) (m:Str->Option a7) (as:List dq) (P N:dq->Prop) (v:a7) (a:AV) (bl aO:St) (la:List AV) (pv:a7×AV),az c bl ((v,a)::T) s1 m as P N->
    aX (Cs c scope cl (kV c s1)) aO (pv::(.ref (s1.heap.objs.size+1),.own 0)::[]) s' ->aO.own[0]?=some (.list la)->Q aO.own la bl->
    aht (dC c.prog c.w) c.A (λaa aa=>False) use QQ (.ref (s1.heap.objs.size+1)) (s1.heap.objs.size+2) (.ok .next) s')->
   dE (dC c.prog c.w) c.A (adg (.ListComp elt (⟨.Name x px,iter,ifs,0⟩::rest) scope pos) scope c.env (adV (⟨.Name x px,iter,ifs,0⟩::rest) pos) (afG []) false (acp iter c.env) use) QQ (λaa aa=>False) s:=λT s use QQ S AB=>by
 refine wpAny_comprehension_free (use:=use) rfl hs eE dw (λy hy=>of_decide_eq_true (d6.mp g8 y hy)) (wpS (h.run T s S) (λv s1 z=>nn λhN=>?_));obtain⟨a,bl,S1,xf,l,fr,v5,qz,jU,Up⟩:=z;obtain⟨m,as,P,N,B⟩:=S1;have hv:=B.snap qz v (B.bw _ (.head _));obtain⟨o,ho,Y6,Y7⟩:=v5 c.prog c.w c.A s1 _ v hv;have Nh:(s1.heap.push o).objs.size=s1.heap.objs.size+1:=ot ..;have Uq:((s1.heap.push o).push {cls:= .type "list",data:= .seq ([]:List a7).toArray}).objs.size=s1.heap.objs.size+2:=(ot ..).trans (congrArg (· +1) Nh);have U:=Gb scope (h:=((s1.heap.push o).push {cls:= .type "list",data:= .seq ([]:List a7).toArray}).push {cls:= .type "dict",data:= .dict #[]}) ((ot ..).trans (congrArg (· +1) Uq));have SE:=pushCells_keeps scope.names (((s1.heap.push o).push {cls:= .type "list",data:= .seq ([]:List a7).toArray}).push {cls:= .type "dict",data:= .dict #[]});have OO:=J1 (cl:=cl) O B U dw cj;have S4:=Gd O B hv jU U (λb o e=>SE b o (aw _ (aw _ (aw _ e)))) (SE _ _ (aw _ (aw _ (bc _ ho))))
  (Nh▸SE _ _ (aw _ (bc (s1.heap.push o) (o:={cls:= .type "list",data:= .seq ([]:List a7).toArray}) rfl))) (Uq▸(Heap.Ns.new ((s1.heap.push o).push {cls:= .type "list",data:= .seq ([]:List a7).toArray}) (.type "dict")).keeps SE)
 obtain⟨Un,hY⟩:=Y7 _ OO.toOk;have loop: ∀s5,aX ((Cs c scope cl (kV c s1)).v [(s1.heap.objs.size,o)] s1.gens) ⟨fr.map λp=>(p.1,.f p.2),[.list []]⟩ ((v,.f xf)::(.ref (s1.heap.objs.size+1),.own 0)::[]) s5->
   tJ (dC c.prog c.w) c.A (.compLoop (.ListComp elt (⟨.Name x px,iter,ifs,0⟩::rest) scope pos) 0 (.ref s1.heap.objs.size) (.ref (s1.heap.objs.size+1)) (Cs c scope cl (kV c s1)).env)
    (aht (dC c.prog c.w) c.A (λaa aa=>False) use QQ (.ref (s1.heap.objs.size+1)) (s1.heap.objs.size+2)) s5:=λs5 S5=>
  Up (kV c s1) OO _ _ (v,.f xf) _ _ [] s5 _ hY S5 λs' aO S' zz=>by obtain⟨la,e1,hq⟩:=zz;exact AB s1 s' m as P N v a bl aO la _ B S' e1 hq
 refine hN (Y6 _ _ (oP (Az ?_)));dsimp only;rw[Nh];rw[Uq];exact ru (c:=Cs c scope cl (kV c s1)) rfl rfl (loop _ S4) (mu (Un _ _ _ S4) (λSD s' z=>z.1▸loop s' z.2))
theorem uG(O:bQ c n)(cl:List (Str×dq))(eE:RF scope c.env=pure cl)
  (h:Ev c iter st (F8 c scope cl n (.ListComp elt (⟨.Name x px,iter,ifs,0⟩::rest) scope pos) Q))
  (dw:scope.kind= .function:=by kernel_rfl)(g8:(scope.names.all λx=>decide (x.2= .local->scope.names.lookup x.1=some .local))=true:=by kernel_rfl)
  (cj: ∀L,rk (abZ scope (si (L+1) scope.names cl) L c.env)=false:=by intro _;kernel_rfl)
  (hs: ∀y,il iter c.env y=pure y:=by intro _;rfl): ∀(T:List (a7×AV)) (s:a8) (use:Option (a7->Sem Unit)) (QQ:a7->a8->Prop),aX c st T s->
   (∀s' cF L o m p ys bl,aX (c.v [(L,o)] c.g0) bl ((cF,.n (.list ys))::p::T) s' ->s'.heap.get? L=some o->s'.heap.Ns L m->Q ys bl->aht (dC c.prog c.w) c.A (λaa aa=>False) use QQ cF L (.ok .next) s')->
   dE (dC c.prog c.w) c.A (adg (.ListComp elt (⟨.Name x px,iter,ifs,0⟩::rest) scope pos) scope c.env (adV (⟨.Name x px,iter,ifs,0⟩::rest) pos) (afG []) false (acp iter c.env) use) QQ (λaa aa=>False) s:=λT s use QQ S AB=>ry (Q:=λown la bl=> ∃ys,j0 own la ys/\Q ys bl) O cl eE (h.mono λaa aa zz=>by obtain⟨x1,x2,x3,x4,x5,x6,x7⟩:=zz;exact⟨x1,x2,x3,x4,x5,x6,x7⟩) dw g8 cj hs T s use QQ S λs1 s' m as P N v a bl aO la pv B S' e1 Ur=>by
 obtain⟨ys,e2,hq⟩:=Ur;obtain⟨m',dZ,P',N',B'⟩:=S';have A:=B.cE (gQ 2) (B.uF 2);obtain⟨P2,N2,B2,SG⟩:=B.LD (nF B') (F0:=λa=>fC c.tt s1.heap a/\a≠s1.heap.objs.size+2) (λa q=>q.1) (VR.mono (λaa aa aa e=>e) (λa ha=> .inr (nG B' ha)) (B'.Ft (.list e1 e2) (.ref (s1.heap.objs.size+1)) (B'.bw _ (.tail _ (.head _)))));obtain⟨oL,Qq,Qs,DA,r⟩:=B'.ns;exact AB s' _ _ oL m' (v,a) ys bl ⟨m,as,P2,N2,B2.vX DA {A with nP:=λq=>(SG _ q).elim A.nP λq=>q.2 rfl} λp hp=>B.jg (gQ 2) hp⟩ DA ⟨oL,Qq,Qs,DA,r⟩ hq
theorem bY(O:bQ c n)(cl:List (Str×dq))(eE:RF scope c.env=pure cl)
  (h:Ev c iter st (F8 c scope cl n (.ListComp elt (⟨.Name x px,iter,ifs,0⟩::rest) scope pos) (F9 Q)))
  (dw:scope.kind= .function:=by kernel_rfl)(g8:(scope.names.all λx=>decide (x.2= .local->scope.names.lookup x.1=some .local))=true:=by kernel_rfl)
  (cj: ∀L,rk (abZ scope (si (L+1) scope.names cl) L c.env)=false:=by intro _;kernel_rfl)
  (hs: ∀y,il iter c.env y=pure y:=by intro _;rfl):Ev c (.ListComp elt (⟨.Name x px,iter,ifs,0⟩::rest) scope pos) st Q:= .mk λT s S=>by
 rw[eval_ListComp];refine uG (Q:=F9 Q) O cl eE h dw g8 cj hs T s none _ S λs' cF L o m p ys bl S' g ns hq=>⟨m,ns,λh' B8=>?_⟩;obtain⟨m2,pT,P2,N2,B2⟩:=S';have B3:=az.e8 (H:=[]) (H2:=[]) (t' :=s'.toks) B2 (λb o hb e=>(B8.2 b hb).trans e) (.inl rfl);exact⟨_,bl,⟨m2,pT,P2,N2,B3.less λq hq=>by
  rcases a5.mp hq with rfl|hq
  ·exact .head _
  ·exact .tail _ (.tail _ hq)⟩,hq⟩
theorem Gf(O:Ok c)(Inv:List AV->St->Prop)(hI:Inv l ⟨loc,[.list []]⟩)(hx:storeOk c x=true)
  (turn:nB c elt x ifs Inv)(F7: ∀aO,Inv [] aO->E2 λla ys=>A3 (aO.own[0]?=some (.list la)) (j0 aO.own la ys) (Q ys)):
  k7 c (.ListComp elt [⟨.Name x px,iter,ifs,0⟩] scope pos) l loc Q:=λI cF p H G T s R Y S hR=>
 oZ O rfl rfl Y Inv hI (λaa aa aa=>trivial) hx turn S λs' aO S' Ng=>hR s' aO S' (by obtain⟨la,ys,e1,e2,q⟩:=F7 aO Ng;exact⟨la,e1,ys,e2,q⟩)
end
section
variable{c:Cx}{st:St}
inductive Gg (y:Str)(Q:Fl->St->Prop)(ys:List FV)(bl:St):Prop
 |mk (l2:List (Str×AV)) (h:cA bl.loc y (.n (.list ys)) l2) (q:Q .next ⟨l2,bl.own⟩)
theorem iD(O:bQ c n)(cl:List (Str×dq))(eE:RF scope c.env=pure cl)
  (h:Ev c iter st (F8 c scope cl n (.ListComp elt (⟨.Name x px,iter,ifs,0⟩::rest) scope pos) (Gg y Q)))
  (JS:ab7 (.ListComp elt (⟨.Name x px,iter,ifs,0⟩::rest) scope pos) (some (.Name y py)) apos.line c.env=pure true:=by rfl)
  (hy:storeOk c y=true:=by kernel_rfl)
  (dw:scope.kind= .function:=by kernel_rfl)(g8:(scope.names.all λx=>decide (x.2= .local->scope.names.lookup x.1=some .local))=true:=by kernel_rfl)
  (cj: ∀L,rk (abZ scope (si (L+1) scope.names cl) L c.env)=false:=by intro _;kernel_rfl)
  (hs: ∀y,il iter c.env y=pure y:=by intro _;rfl):Ex c (.Assign [.Name y py] (.ListComp elt (⟨.Name x px,iter,ifs,0⟩::rest) scope pos) apos) st Q:= .mk λT s S=>by
 rw[exec_Assign_Name_used _ _ _ _ JS];refine ab (rn (ab ?_));show dE _ _ (adg (.ListComp elt (⟨.Name x px,iter,ifs,0⟩::rest) scope pos) scope c.env (adV (⟨.Name x px,iter,ifs,0⟩::rest) pos) (afG []) false (acp iter c.env) (some (afd (.Name y py) c.env))>>=λaa=>pure ()) _ _ _;refine ab (uG (Q:=Gg y Q) O cl eE h dw g8 cj hs T s (some (afd (.Name y py) c.env)) _ S λs' cF L o m p ys bl S' g ns hq=>?_);obtain⟨l2,gu,q⟩:=hq;refine xb (wpS (aX.eZ (c:=c.v [(L,o)] c.g0) S' (O.toOk.v _ _) hy gu) (λaa s2 S2=>nn λhN=>?_));obtain⟨m2,pT,P2,N2,B2⟩:=S2;have gL:=(B2.aV (L,o) (.head _)).1;obtain⟨o',es,ep,g',d,k,f⟩:=ns;have e:o' =o:=by rw[g]at g';cases g';rfl
 subst e;refine hN ⟨m,⟨o',es,ep,gL,d,k,f⟩,λh' B8=>?_⟩;have B3:=az.e8 (H:=[]) (H2:=[]) (t' :=s2.toks) B2 (λb o hb e=>(B8.2 b hb).trans e) (.inl rfl);exact ax (ax ⟨.next,_,⟨rfl,m2,pT,P2,N2,B3.less λw hw=> .tail _ hw⟩,q⟩)
theorem DB(O:Ok c)(Inv:List AV->St->Prop)(hI:Inv l ⟨loc,[.list []]⟩)(hx:storeOk c x=true)(Ju:storeOk c x1=true)
  (qi: ∀y,il i1 c.env y=pure y)
  (turn:Cq c elt i1 x x1 ifs f1 Inv)
  (F7: ∀aO,Inv [] aO->E2 λla ys=>A3 (aO.own[0]?=some (.list la)) (j0 aO.own la ys) (Q ys)):
  k7 c (.ListComp elt [⟨.Name x px,iter,ifs,0⟩,⟨.Name x1 p1,i1,f1,0⟩] scope pos) l loc Q:=λI cF p H G T s R Y S hR=>
 Ay O rfl rfl rfl Y Inv hI (λaa aa aa=>trivial) hx Ju qi turn S λs' aO S' Ng=>hR s' aO S' (by obtain⟨la,ys,e1,e2,q⟩:=F7 aO Ng;exact⟨la,e1,ys,e2,q⟩)
end
theorem eW.of_get{h:wq}{P:dq->Prop}: ∀{l:List FV} {vs:List a7},vs.length=l.length->(∀(i:Nat) (x:FV) (v:a7),l[i]?=some x->vs[i]?=some v->VR h P x v)->eW h P l vs
 | [],[],_,_=>rfl
 | [],_::_,e,_=>by cases e
 |_::_,[],e,_=>by cases e
 |x::l,v::vs,e,H=>⟨v,vs,rfl,H 0 x v rfl rfl,eW.of_get (by simpa using e) λi x v a b=>H (i+1) x v (a) (b)⟩
noncomputable def gz(a b:Int):List FV:=(ar (b-a).toNat).map λ(k:Nat)=> .int (a+k)
section
variable{c:Cx}{st:St}
theorem Ct (hi:i.natAbs<2^64)(h:Q (.f (.str (toString i))) st):aZ c (.type "str") [.f (.int i)] [] [] st Q:=
 jn λT x s S=>by
  obtain⟨t,rfl⟩:=S.jZ;have hl:i.natAbs.log2<1920:=by
   rcases abb i.natAbs with q|p
   ·rw[q];decide
   ·have:=(agI (pz p)).mpr hi;exact a0 this (by decide)
  exact P.str_of_int hl ⟨_,st,S.pop.dH.str,h⟩
theorem rz(O:Ok c)(ha: -1000000≤a/\a≤1000000)(hb: -1000000≤b/\b≤1000000)(h:Q (.n (.list (gz a b))) st):aZ c (.type "list") [.n (.m8 a b)] [] [] st Q:=
 jn λT x s S=>by
  obtain⟨m,as,P,N,B⟩:=S;obtain⟨y,t,u,k,rfl,_,g⟩:=B.bw _ (.head _);refine call_list_range O.hh g (small_one ha hb) (rangeSize_one a b) (ae (FY ha hb) (by decide)) λh' tk Ni c' hk hg hit=>?_;have ext:Ext c.tt s {s with heap:=h',toks:=tk}:=⟨gB.of λb o e=>hk b o e,⟨[],by simp,λaa h=>nomatch h⟩,rfl⟩;refine⟨.n (.list (gz a b)),st,((B.less λp hp=> .tail _ hp).jk ext ⟨s.heap.objs.size,Ni.toList,c',rfl,.inr ⟨dv (cq _),B.dF O⟩,by simpa using hg,eW.of_get ?_ λi x v hx hv=>?_⟩),h⟩
  ·rw[aaO];rw[hit.1];simp[gz]
  ·have Nj:Ni[i]?=some v:=by simpa using hv
   obtain⟨t',e⟩:=hit.2 i v Nj;have mG:x= .int (a+i):=by
    unfold gz at hx;rw[my]at hx;cases q:(ar (b-a).toNat)[i]? with
    |none=>rw[q]at hx;exact(cu rfl hx).elim
    |some z=>
     rw[q]at hx;have:z=i:=by obtain⟨h1,h2⟩:=ed.mp q;rw[abc]at h2;exact h2.symm
     subst this;cases hx;rfl
   subst mG;exact⟨t',by rw[e];rw[adh];rfl⟩
end
mutual
inductive Dat:FV->ahj->Prop
 |none:Dat .none .none
 |bool (b:Bool):Dat (.bool b) (.bool b)
 |int (i:Int):Dat (.int i) (.int i)
 |str (x:Str):Dat (.str x) (.str x)
 |list {l:List FV} {ds:List ahj}:rA l ds->Dat (.list l) (.list ds)
 |tuple {l:List FV} {ds:List ahj}:rA l ds->Dat (.tuple l) (.tuple ds)
inductive rA:List FV->List ahj->Prop
 |nil:rA [] []
 |cons {x:FV} {d:ahj} {l:List FV} {ds:List ahj}:Dat x d->rA l ds->rA (x::l) (d::ds)
end
set_option tactic.hygienic true in
theorem Dat.reads(D:Dat x d): ∀v,VR h P x v-> ∃as,Reads h v d as:=by
 induction D using Dat.rec (motive_2:=λl ds aa=> ∀vs,eW h P l vs-> ∃as,ReadsAll h vs ds as)with
 |none=>rintro v rfl;exact⟨_,.none⟩
 |bool b=>rintro v rfl;exact⟨_,.bool b⟩
 |int i=>rintro v ⟨t,rfl⟩;exact⟨_,.int i t⟩
 |str x=>rintro v ⟨t,rfl⟩;exact⟨_,.str x t⟩
 |list _ ih=>rintro v ⟨a,vs,n,rfl,_,g,r⟩;obtain⟨as,q⟩:=ih vs r;exact⟨_,.list g rfl rfl (by simpa using q)⟩
 |tuple _ ih=>rintro v ⟨a,vs,n,rfl,_,g,r⟩;obtain⟨as,q⟩:=ih vs r;exact⟨_,.tuple g rfl rfl (by simpa using q)⟩
 |nil=>rename_i h;cases h;exact⟨_,.nil⟩
 |cons _ _ PI O6=>
  rename_i h
  obtain⟨v,r,rfl,a,b⟩:=h;obtain⟨as,q1⟩:=PI v a;obtain⟨bs,q2⟩:=O6 r b;exact⟨_,.cons q1 q2⟩
theorem gR(l:List Int):rA (l.map .int) (l.map .int):=by
 induction l with
 |nil=>exact .nil
 |cons i l ih=>exact .cons (.int i) ih
theorem uH(l:List Str):rA (l.map .str) (l.map .str):=by
 induction l with
 |nil=>exact .nil
 |cons i l ih=>exact .cons (.str i) ih
section
variable{c:Cx}{st:St}
theorem LO (O:bQ c n)(ha:Snap st.own a x)(hb:Snap st.own b (.list l))(da:Dat x d)(db:rA l ds)(hx:rx ds=true)(hd:d.canLay0=true)
  (hu:min (yA ds) d.depth≤10)(hn:1≤n)(h:Q (.f (.bool (ds.any λy=>PyData.eqv y d))) st):Op c [b,a] (λvs=>match vs with| [y,x]=>md .In x y|_=> .raise .none) st Q:=
 qU λT u v s S=>by have S' :=S;obtain⟨m,as,P,N,B⟩:=S';obtain⟨Nk,r1⟩:=da.reads u (B.snap ha u (B.bw _ (.tail _ (.head _))));obtain⟨pT,r2⟩:=(Dat.list db).reads v (B.snap hb v (B.bw _ (.head _)));exact aeL r2 r1 hx hd (by have:=O.un;lia) ⟨_,st,S.jR.bool,h⟩
theorem Gh(O:bQ c n)(ha:Snap st.own a x)(hb:Snap st.own b (.list l))(da:Dat x d)(db:rA l ds)(hx:rx ds=true)(hd:d.canLay0=true)
  (hu:min (yA ds) d.depth≤10)(hn:1≤n)(h:Q (.f (.bool (!(ds.any λy=>PyData.eqv y d)))) st):Op c [b,a] (λvs=>match vs with| [y,x]=>md .NotIn x y|_=> .raise .none) st Q:=
 qU λT u v s S=>by have S' :=S;obtain⟨m,as,P,N,B⟩:=S';obtain⟨Nk,r1⟩:=da.reads u (B.snap ha u (B.bw _ (.tail _ (.head _))));obtain⟨pT,r2⟩:=(Dat.list db).reads v (B.snap hb v (B.bw _ (.head _)));exact SeqAt.notIn_list_reads r2 r1 hx hd (by have:=O.un;lia) ⟨_,st,S.jR.bool,h⟩
theorem Gi(O:bQ c n)(ha:Snap st.own a x)(hb:Snap st.own b y)(da:Dat x d)(db:Dat y e)(hx:shaped d=true)(hy:shaped e=true)(hn:2≤n)(h:Q (.f (.bool (PyData.eqv d e))) st):
  Op c [b,a] (λvs=>match vs with| [y,x]=>md .Eq x y|_=> .raise .none) st Q:=
 qU λT u v s S=>by have S' :=S;obtain⟨m,as,P,N,B⟩:=S';obtain⟨Nk,r1⟩:=da.reads u (B.snap ha u (B.bw _ (.tail _ (.head _))));obtain⟨pT,r2⟩:=db.reads v (B.snap hb v (B.bw _ (.head _)));exact eq_dataH r1 r2 hx hy (by have:=O.un;lia) ⟨_,st,S.jR.bool,h⟩
theorem Gj(O:bQ c n)(ha:Snap st.own a x)(hb:Snap st.own b y)(da:Dat x d)(db:Dat y e)(hx:shaped d=true)(hy:shaped e=true)(hn:2≤n)(h:Q (.f (.bool (!PyData.eqv d e))) st):
  Op c [b,a] (λvs=>match vs with| [y,x]=>md .NotEq x y|_=> .raise .none) st Q:=
 qU λT u v s S=>by have S' :=S;obtain⟨m,as,P,N,B⟩:=S';obtain⟨Nk,r1⟩:=da.reads u (B.snap ha u (B.bw _ (.tail _ (.head _))));obtain⟨pT,r2⟩:=db.reads v (B.snap hb v (B.bw _ (.head _)));exact ne_dataH r1 r2 hx hy (by have:=O.un;lia) ⟨_,st,S.jR.bool,h⟩
end
theorem nI(m n:Nat):aey m (n:Int)=min n m:=by
 unfold aey;rw[if_neg (uk.mpr (dA n)),show min (n:Int) (m:Int)=((min n m:Nat):Int)from ?_,Int.max_eq_right (dA _),sa];rcases adW n m with h|h
 ·rw[so h];exact Int.min_eq_left (mN.mpr h)
 ·rw[aaJ h];exact Int.min_eq_right (mN.mpr h)
noncomputable def cK{α:Type}(l:List α)(lo hi:Option Int):List α:=(l.drop (lo.elim 0 (aey l.length))).take (hi.elim l.length (aey l.length)-lo.elim 0 (aey l.length))
theorem AD(h:cT l xs): ∀n,cT (l.drop n) (xs.drop n):=by
 induction h with
 |nil=>intro n;simp;exact .nil
 |cons a b ih=>
  intro n;cases n with
  |zero=>exact .cons a b
  |succ n=>exact ih n
theorem AE(h:cT l xs): ∀n,cT (l.take n) (xs.take n):=by
 induction h with
 |nil=>intro n;simp;exact .nil
 |cons a b ih=>
  intro n;cases n with
  |zero=>exact .nil
  |succ n=>exact .cons a (ih n)
theorem xF(h:cT l xs)(lo hi:Option Int):cT (cK l lo hi) (cK xs lo hi):=by unfold cK;rw[Dy h];exact AE (AD h _) _
theorem bu.drop{h:wq}{P N:dq->Prop}{as:List dq}: ∀{l:List AV} {vs:List a7},bu h P N as l vs-> ∀n,bu h P N as (l.drop n) (vs.drop n)
 | [],_,H,n=>by cases H;simp;exact rfl
 |_::_,_,H,0=>H
 |_::_,_,bA,n+1=>by obtain⟨v,r,e,x,y⟩:=bA;subst e;exact bu.drop y n
theorem bu.take{h:wq}{P N:dq->Prop}{as:List dq}: ∀{l:List AV} {vs:List a7},bu h P N as l vs-> ∀n,bu h P N as (l.take n) (vs.take n)
 | [],_,H,n=>by cases H;simp;exact rfl
 |_::_,_,_,0=>rfl
 |_::_,_,bA,n+1=>by obtain⟨v,r,e,x,y⟩:=bA;subst e;exact⟨v,_,rfl,x,bu.take y n⟩
theorem bu.slice(H:bu h P N as l vs)(lo hi:Option Int):bu h P N as (cK l lo hi) (cK vs lo hi):=by unfold cK;rw[H.length];exact(H.drop _).take _
inductive Qt(Q:Option Int->St->Prop)(a:AV)(aO:St):Prop
 |mk (i:Int) (e:a= .f (.int i)) (q:Q (some i) aO)
def Part(c:Cx):Option Expr->St->(Option Int->St->Prop)->Prop
 |none,st,Q=>Q none st
 |some e,st,Q=>Ev c e st (Qt Q)
section
variable{c:Cx}{st:St}
theorem Cu (h:Part c e st Q)(T:List (a7×AV))(s:a8)(S:aX c st T s):
  dE (dC c.prog c.w) c.A (evalPart e c.env) (λv s' =>E2 λo aO=>A3 (IsPart v o) (aX c aO T s') (Q o aO)) (λaa aa=>False) s:=by
 cases e with
 |none=>rw[evalPart_none];exact ax ⟨none,st,.none,S,h⟩
 |some e=>rw[evalPart_some];refine wpS (Ev.run h T s S) (λv s' z=>?_);obtain⟨a,aO,S',i,rfl,q⟩:=z;obtain⟨t,rfl⟩:=S'.jZ;exact⟨some i,aO,.int _ _,S'.pop,q⟩
inductive Qu(Q:AV->St->Prop)(a:AV)(i j:Option Int)(gW:St):Prop
 |mk (l:List AV) (xs:List FV) (h1:aQ gW.own a l) (h2:l.length≤1000000) (h3:cT l xs) (q:Q (.n (.list (cK xs i j))) gW)
def Qv(c:Cx)(hi:Option Expr)(Q:AV->St->Prop)(a:AV):Option Int->St->Prop:=λi bD=>Part c hi bD (Qu Q a i)
def Us(c:Cx)(lo hi:Option Expr)(Q:AV->St->Prop):AV->St->Prop:=λa bl=>Part c lo bl (Qv c hi Q a)
theorem dK{o:Expr}{lo hi:Option Expr}{p pos:Pos}{Q:AV->St->Prop}(O:Ok c)(h:Ev c o st (Us c lo hi Q)):
  Ev c (.Subscript o (.Slice lo hi none p) pos) st Q:= .mk λT s S=>by
 refine lU (wpS (h.run T s S) (λx s1 z=>?_));obtain⟨a,bl,S1,h1⟩:=z;refine wpAny_Slice (wpS (Cu h1 _ s1 S1) (λv2 s2 z=>?_));obtain⟨i,bD,pi,S2,h2⟩:=z;refine wpS (Cu h2 _ s2 S2) (λv3 s3 z=>?_);obtain⟨j,gW,pj,S3,l,xs,hl,hlen,hk,q⟩:=z;rw[evalPart_none];refine ax ?_;obtain⟨m,as,P,N,B⟩:=S3;obtain⟨y,vs,n,rfl,g,r⟩:=B.list hl (B.bw _ (.head _));have tO:=r.length;have B4:az c gW ((.ref y,a)::T) {s3 with heap:=s3.heap.push {cls:= .type "slice",data:= .fields #[v2,v3,.none]}} m as P N:=B.grow kY ⟨[],by simp,λaa h=>nomatch h⟩ rfl;have g4:(s3.heap.push {cls:= .type "slice",data:= .fields #[v2,v3,.none]}).get? y=some ⟨.type "list",none,.seq (mM vs) n,#[]⟩:=aw _ g;refine⟨"list",_,ade.lookup,(aP g4).typeIs,wpAny_getItem_list_slice (aP g4) (Heap.IsSliceOf.new _ _ _ _) pi pj .none (by simp) ⟨.n (.list (cK xs i j)),gW,?_,q⟩ (by rw[eM];rw[mB];lia)⟩;rw[slicePick_plain];refine(B4.less λp hp=> .tail _ hp).oU O ?_;have r4:bu (s3.heap.push {cls:= .type "slice",data:= .fields #[v2,v3,.none]}) P N as l vs:=r.mono (λaa aa aa e=>aw _ e) (λaa x=>x) (λaa aa aa e=>aw _ e) (λaa x=>x) λaa aa x=>x;refine⟨_,cK vs i j,0,rfl,.inr rfl,?_,(xF hk i j).Pb (λa o aa e=>aw _ e) (λaa p=> .inl p) (r4.slice i j)⟩;rw[bc _ rfl];simp[cK]
end
theorem cT.app(h:cT l xs)(h' :cT l' Y8):cT (l++l') (xs++Y8):=by
 induction h with
 |nil=>exact h'
 |cons a _ ih=>exact .cons a ih
theorem foldl_rep{α:Type}(v:α): ∀(n:Nat) (acc:Array α),afH (λx1 x2=>x1++x2) acc (js n #[v])=acc++(js n v).toArray:=by
 intro lz;induction lz with
 |zero=>intro acc;exact rfl
 |succ n ih=>intro acc;rw[ab9];rw[lp];rewrite [ih];rw[ab9];apply RR;simp
theorem Gk
  (hl:s.heap.get? l=some ⟨.type "list",none,.seq items k,#[]⟩)(h0:0≤x)(h1:x≤100000)(h2:items.size≤100)
  (h:Q (.ref s.heap.objs.size) {s with heap:=s.heap.push {cls:= .type "list",data:= .seq (afH (λx1 x2=>x1++x2) #[] (js (if items.isEmpty=true then 0 else x.toNat) items))}}):
  dE (dC prog w) A (FX .Mult (.ref l) (.int x u)) Q E s:=by
 have tP:items.size*x.toNat≤2^24:=by have:=aaB h2 (show x.toNat≤100000 by lia);exact ae this (by decide)
 have hit:s.TypeIs (.ref l) "list" :=⟨_,hl,rfl⟩;refine wpAny_binaryOp_repeat_ref (T:="list") (U:="int") (by decide) hit (λs' =>aeg s' x u) noFill_list_mul PySem.F.fills_int_mul adX repeat_list PySem.F.slot_int_index.lookup (call_meets adX (aeg s x u) PySem.F.entry_int_rmul (PySem.F.args_int_rmul_2 _ _) (int___rmul___int_list x u l items k) ⟨hl,rfl,hit,?_⟩);exact call_meets PySem.F.slot_list_mul hit PySem.F.entry_list_mul (PySem.F.args_list_mul_2 _ _)
  (AutoListH.list___mul___list_int_3 l items k x u (by simp[acr];lia) (af9 (ae tP (by decide))) (by simp[ahk,agn];omega)) ⟨hl,h⟩
theorem Gl(hv:dj h P N as x v): ∀k,bu h P N as (js k x) (js k v):=by
 intro lz;induction lz with
 |zero=>exact rfl
 |succ k ih=>exact⟨v,_,rfl,hv,ih⟩
section
variable{c:Cx}{st:St}
theorem Cv (O:Ok c)(ha:aQ st.own a l)(hb:aQ st.own b l')(hl:l.length≤1000)(JY:l'.length≤1000)(kx:cT l xs)(ky:cT l' ys)(h:Q (.n (.list (xs++ys))) st):
  Op c [b,a] (λvs=>match vs with| [y,x]=>FX .Add x y|_=> .raise .none) st Q:=qU λT x y s S=>by
 obtain⟨m,as,P,N,B⟩:=S;obtain⟨x',vs,n,rfl,g,r⟩:=B.list ha (B.bw _ (.tail _ (.head _)));obtain⟨y',ws,n',rfl,g',r'⟩:=B.list hb (B.bw _ (.head _));have h1:=r.length;have h2:=r'.length;refine concat_meets ⟨_,g,rfl⟩ ⟨_,g',rfl⟩ noFill_list_add seq_list_add PySem.F.slot_list_add PySem.F.entry_list_add (PySem.F.args_list_add_2 _ _)
  (list_addW x' y' vs.toArray ws.toArray n n' none none #[] #[] (by rw[eM];rw[eM];rw[mB];lia)) ⟨g,g',?_⟩
 refine⟨.n (.list (xs++ys)),st,(B.less λp hp=> .tail _ (.tail _ hp)).oU O ?_,h⟩;have up: ∀b o,s.heap.get? b=some o->(s.heap.push {cls:= .type "list",data:= .seq (vs.toArray++ws.toArray)}).get? b=some o:=λb o e=>aw _ e;refine⟨_,vs++ws,0,rfl,.inr rfl,?_,(kx.app ky).Pb (λa o aa e=>up a o e) (λaa p=> .inl p) (r.app r')⟩;rw[bc _ rfl];simp
theorem qA{j k:Nat}{x:AV}{Q:AV->St->Prop}(O:Ok c)(hj:st.own[j]?=some (.list [x]))(hk:k≤100000)(h:Q (.own st.own.length) ⟨st.loc,st.own++[.list (js k x)]⟩):
  Op c [.f (.int (k:Int)),.own j] (λvs=>match vs with| [y,x]=>FX .Mult x y|_=> .raise .none) st Q:=qU λT u y s S=>by
 obtain⟨m,as,P,N,B⟩:=S;obtain⟨t,rfl⟩:=B.bw _ (.head _);obtain⟨x',vs,n,rfl,g,r⟩:=B.list (.own hj) (B.bw _ (.tail _ (.head _)));obtain⟨v,rest,rfl,hv,hr⟩:=r;cases hr;refine Gk g (dA k) (by lia) (by simp) ?_;have e:afH (λx1 x2=>x1++x2) #[] (js (if(mM [v]).isEmpty=true then 0 else((k:Int)).toNat) (mM [v]))=(js k v).toArray:=by rw[if_neg (by simp)];rw[sa];have:=foldl_rep v k #[];simpa using this
 rw[e];exact⟨_,_,⟨m,_,P,N,(B.less λp hp=> .tail _ (.tail _ hp)).iS O (ao:= .list (js k x)) ⟨js k v,0,bc _ rfl,Gl (hv.mono (λaa aa aa e=>aw _ e) (λaa x=>x) (λaa aa aa e=>aw _ e) (λaa x=>x) λaa aa x=>x) k⟩⟩,h⟩
end
theorem pU(ns:List Int): ∀j,j≤ns.length->air (λi=>ns.getD i 0) j=(ns.take j).sum:=by
 intro lz;induction lz with
 |zero=>intro _;simp[air]
 |succ j ih=>
  intro h;have hj:j<ns.length:=h;show air _ j+ns.getD j 0=_;have e1:ns.getD j 0=ns[j]:=by simp[hj]
  have e2:ns.take (j+1)=ns.take j++[ns[j]]:=(List.take_append_getElem hj).symm;rw[ih (ec hj)];rw[e1];rw[e2];rw[adY];rw[vy];rw[ahS];rw[adT];rfl
theorem sum_bound(ns:List Int)(h: ∀i∈ns,0≤i/\i≤1000000):0≤ns.sum/\ns.sum≤1000000*ns.length:=by
 induction ns with
 |nil=>simp
 |cons a r ih=>have h1:=h a (ae9);have h2:=ih λi hi=>h i (aem _ hi);rw[vy];rw[th];rw[agE];rw[aij];exact⟨abD h1.1 h2.1,afU a _▸Int.add_le_add h2.2 h1.2⟩
section
variable{c:Cx}{st:St}
theorem gF {a:AV}{ns:List Int}{Q:AV->St->Prop}(O:Ok c)(H:aQ st.own a (ns.map λi=> .f (.int i)))(hb: ∀i∈ns,0≤i/\i≤1000000)(hl:ns.length≤1000)(h:Q (.f (.int ns.sum)) st):aZ c (.builtin "sum") [a] [] [] st Q:=
 jn λT x s S=>by
  have S' :=S;obtain⟨m,as,P,N,B⟩:=S';obtain⟨y,vs,n,rfl,g,r⟩:=B.list H (B.bw _ (.head _));have hlen:=r.length;rw[ag]at hlen;have ne:y≠s.heap.objs.size:=du (d4 g);have Y9: ∀j,j≤ns.length->InLong (air (λi=>ns.getD i 0) j):=λj hj=>by
   rw[pU ns j hj];have h1:=sum_bound (ns.take j) λi hi=>hb i (wd hi);have h2:(ns.take j).length≤1000:=by rw[oD];exact ae (Dx j ns.length) (ae hj hl)
   exact E6 h1.1 (hV h1.2 (PQ (mN.mpr h2) (by decide)))
  refine call_sum_walk (xc (aP g) ⟨s.heap.objs.size,_,_,_,_,_,λi=>ns.getD i 0,rfl,ahl (A:=c.A.in1) (show c.A.in1.handled=none from O.hh) _ y ne vs.toArray,⟨⟨_,bc _ rfl,rfl,rfl⟩,aP (aw _ g)⟩,?_,?_,?_,?_⟩)
  ·intro b gC;have gC:b=s.heap.objs.size∨b=y:=by simpa using gC
   have hy:y<s.heap.objs.size:=d4 g;show b<(s.heap.push _).objs.size;rw[ot];rcases gC with rfl|rfl
   ·exact gN _
   ·exact fg hy
  ·intro i v hv;have Nj:vs[i]?=some v:=by simpa using hv
   have hi:i<ns.length:=by refine bS (hlen ..) ?_;exact(ed.mp Nj).1
   obtain⟨u,hu,q⟩:=r.get (i:=i) (x:= .f (.int ns[i])) (by simp[hi]);rw[Nj]at hu;cases hu;obtain⟨t,e⟩:=q;exact⟨t,by rw[e];simp[hi]⟩
  ·intro j hj;have FE:j<ns.length:=by simpa[hlen]using hj
   refine⟨?_,Y9 (j+1) FE⟩;have h1:=hb ns[j] (Qb FE);have e:ns.getD j 0=ns[j]:=by simp[FE]
   show InLong (ns.getD j 0);rw[e];exact E6 h1.1 (hV h1.2 (by decide))
  ·intro h' tk t' hk;have tQ:air (λi=>ns.getD i 0) vs.toArray.size=ns.sum:=by rw[eM];rw[hlen];rw[pU ns _ (cq _)];rw[ti];rfl
   rw[tQ];have B2:az c st T {s with heap:=h',toks:=tk} m as P N:=(B.less λp hp=> .tail _ hp).grow (gB.of λb o e=>hk b o (by have:=d4 e;simp only[fx];exact du this) (aw _ e)) ⟨[],by simp,λaa h=>nomatch h⟩ rfl
   exact⟨_,st,aX.int ⟨m,as,P,N,B2⟩,h⟩
end
theorem intsAre_of{h:wq}{P N:dq->Prop}{as:List dq}: ∀{ns:List Int} {vs:List a7},bu h P N as (ns.map λi=> .f (.int i)) vs->afI vs ns:=by
 intro lz;induction lz with
 |nil=>intro _ H;cases H;exact .nil
 |cons n ns ih=>intro _ bA;obtain⟨v,r,e,⟨t,q⟩,y⟩:=bA;subst e;subst q;exact .cons n t (ih y)
theorem kh(H:afI vs ns):eW h P (ns.map .int) vs:=by
 induction H with
 |nil=>exact rfl
 |cons n t _ ih=>exact⟨_,_,rfl,⟨t,rfl⟩,ih⟩
theorem AF{h:wq}{P N:dq->Prop}{as:List dq}: ∀{ns:List Str} {vs:List a7},bu h P N as (ns.map λi=> .f (.str i)) vs->aik vs ns:=by
 intro lz;induction lz with
 |nil=>intro _ H;cases H;exact .nil
 |cons n ns ih=>intro _ bA;obtain⟨v,r,e,⟨t,q⟩,y⟩:=bA;subst e;subst q;exact .cons n t (ih y)
theorem xG(H:aik vs ns):eW h P (ns.map .str) vs:=by
 induction H with
 |nil=>exact rfl
 |cons n t _ ih=>exact⟨_,_,rfl,⟨t,rfl⟩,ih⟩
section
variable{c:Cx}{st:St}
theorem pV (O:Ok c)(H:aQ st.own a (ns.map λi=> .f (.int i)))(hl:ns.length<64)(h: ∀AG:List Int,AG.Perm ns->AG.Pairwise (· ≤ ·)->Q (.n (.list (AG.map .int))) st):aZ c (.builtin "sorted") [a] [] [] st Q:=
 jn λT x s S=>by
  obtain⟨m,as,P,N,B⟩:=S;obtain⟨y,vs,n,rfl,g,r⟩:=B.list H (B.bw _ (.head _));have hlen:=r.length;rw[ag]at hlen;refine sorted_ints (aP g) (intsAre_of r) (by lia) λout AG h1 h2 h3=>?_;obtain⟨e,he⟩:=sortedAll_at s.heap vs out;have nt:s.heap.objs.size+1∉c.tt:=λq=>let⟨_,_,e,_,_⟩:=B.low.2 _ q;ib _ (oo (gN _) (d4 e))
  have ext:Ext c.tt s {s with heap:=ahT s.heap vs out}:=⟨gB.of λb o e=>afg e,⟨[],by simp,λaa h=>nomatch h⟩,rfl⟩;exact⟨.n (.list (AG.map .int)),st,(B.less λp hp=> .tail _ hp).jk ext ⟨_,out.toList,e,rfl,.inr ⟨dv (me _),nt⟩,by simpa using he,kh h1⟩,h AG h2 h3⟩
end
section
variable{c:Cx}{st:St}
theorem v7 (O:Ok c): ∀(r:List AV) (i:Nat) (o:Obj),l.drop i=r->o.cls= .type "tuple_iterator" ->o.data= .fields #[.ref x,.int i 0]->ee c I (λst=>gc st.own a l) (.ref x,a) r [(I,o)] c.g0:=by
 intro lz;induction lz with
 |nil=>
  intro i o hr h1 h2;intro T st s hg S;refine nn λhN=>?_;obtain⟨m,as,P,N,B⟩:=S;obtain⟨x',vs,n,e,g,rr⟩:=az.tup (c:=c.v [(I,o)] c.g0) B hg (B.bw _ (.head _));cases e;refine hN ?_;have hI:=(B.aV (I,o) (.head _)).1;have hlen:=rr.length;refine wpAny_pyNext_tuple_end O.hh ⟨o,hI,h1,h2⟩ ⟨_,g,rfl,_,rfl⟩ ?_ λh' he=>⟨rfl,m,as,P,N,az.e8 (H:=[]) (H2:=[]) B he (.inl rfl)⟩;have:l.length≤i:=by have:=congrArg aab hr;simp at this;exact abH this
  simp;lia
 |cons b r ih=>
  intro i o hr h1 h2;intro T st s hg S;refine nn λhN=>?_;obtain⟨m,as,P,N,B⟩:=S;obtain⟨x',vs,n,e,g,rr⟩:=az.tup (c:=c.v [(I,o)] c.g0) B hg (B.bw _ (.head _));cases e;have hI:=(B.aV (I,o) (.head _)).1;have hb:l[i]?=some b:=by have:=congrArg (λy=>y[0]?) hr;simpa using this
  obtain⟨u,hu,q⟩:=rr.get hb;refine hN (wpAny_pyNext_tuple_item ⟨o,hI,h1,h2⟩ ⟨_,g,rfl,_,rfl⟩ (by simpa using hu) λh' hit hs=>nn λhN=>?_);obtain⟨o',g',vU,vV⟩:=hit;refine hN ⟨u,[(I,o')],c.g0,rfl,⟨m,as,P,N,az.e8 (H:=[]) (H2:=[(I,o')]) (az.push B q) (λb o hb e=>(hs.2 b hb).trans e) (.inr ⟨o',g',rfl⟩)⟩,ih (i+1) o' ?_ vU vV⟩;have:=congrArg aeX hr;simpa using this
theorem xH{I x:dq}{i:Nat}{o:Obj}(h1:o.cls= .type "tuple_iterator")(h2:o.data= .fields #[.ref x,.int i 0]):xB c I [(I,o)] c.g0:=λT st s S=>by have S' :=S;obtain⟨m,as,P,N,B⟩:=S';exact wpAny_pyIter_tupleiter ⟨o,(B.aV (I,o) (.head _)).1,h1,h2⟩ ⟨rfl,S⟩
theorem iter_tuple(O:Ok c)(H:gc st.own a l):e9 c a st l (λst=>gc st.own a l):=λT v s S=>by refine nn λhN=>?_;obtain⟨m,as,P,N,B⟩:=S;obtain⟨x,vs,n,rfl,g,r⟩:=B.tup H (B.bw _ (.head _));exact hN (wpAny_pyIter_tuple ⟨_,g,rfl,_,rfl⟩ ⟨s.heap.objs.size,_,c.g0,rfl,⟨m,as,P,N,az.hide (c:=c) (H:=[]) (G:=c.g0) B O rfl⟩,xH rfl rfl,v7 O l 0 _ rfl rfl rfl⟩)
theorem Nl(O:bQ c n)(hK:c.K.lookup L=some ⟨.type "list",none,.seq (mM vs) k,#[]⟩)(hv: ∀h:wq,∃as,ReadsAll h vs ds as)
  (ha:Snap st.own a x)(da:Dat x d)(hx:rx ds=true)(hd:d.canLay0=true)(hu:min (yA ds) d.depth≤10)(hn:1≤n)(h:Q (.f (.bool (ds.any λy=>PyData.eqv y d))) st):
  Op c [.f (.val (.ref L)),a] (λvs=>match vs with| [y,x]=>md .In x y|_=> .raise .none) st Q:=
 qU λT u v s S=>by have S' :=S;have X:=S.cO O.toOk;obtain⟨m,as,P,N,B⟩:=S';obtain⟨Nk,r1⟩:=da.reads u (B.snap ha u (B.bw _ (.tail _ (.head _))));have e:v= .ref L:=B.bw _ (.head _);subst e;obtain⟨pT,r2⟩:=hv s.heap;exact aeL (.list (X _ _ hK) rfl rfl (by simpa using r2)) r1 hx hd (by have:=O.un;lia) ⟨_,st,S.jR.bool,h⟩
theorem AH(O:bQ c n)(hK:c.K.lookup L=some ⟨.type "tuple",none,.seq (mM vs) k,#[]⟩)(hv: ∀h:wq,∃as,ReadsAll h vs ds as)
  (ha:Snap st.own a x)(da:Dat x d)(hx:rx ds=true)(hd:d.canLay0=true)(hu:min (yA ds) d.depth≤10)(hn:1≤n)(h:Q (.f (.bool (!(ds.any λy=>PyData.eqv y d)))) st):
  Op c [.f (.val (.ref L)),a] (λvs=>match vs with| [y,x]=>md .NotIn x y|_=> .raise .none) st Q:=
 qU λT u v s S=>by have S' :=S;have X:=S.cO O.toOk;obtain⟨m,as,P,N,B⟩:=S';obtain⟨Nk,r1⟩:=da.reads u (B.snap ha u (B.bw _ (.tail _ (.head _))));have e:v= .ref L:=B.bw _ (.head _);subst e;obtain⟨pT,r2⟩:=hv s.heap;exact adi (.tuple (X _ _ hK) rfl rfl (by simpa using r2)) r1 hx hd (by have:=O.un;lia) ⟨_,st,S.jR.bool,h⟩
theorem DC(O:bQ c n)(ha:Snap st.own a x)(hb:Snap st.own b (.tuple l))(da:Dat x d)(db:rA l ds)(hx:rx ds=true)(hd:d.canLay0=true)
  (hu:min (yA ds) d.depth≤10)(hn:1≤n)(h:Q (.f (.bool (!(ds.any λy=>PyData.eqv y d)))) st):Op c [b,a] (λvs=>match vs with| [y,x]=>md .NotIn x y|_=> .raise .none) st Q:=
 qU λT u v s S=>by have S' :=S;obtain⟨m,as,P,N,B⟩:=S';obtain⟨Nk,r1⟩:=da.reads u (B.snap ha u (B.bw _ (.tail _ (.head _))));obtain⟨pT,r2⟩:=(Dat.tuple db).reads v (B.snap hb v (B.bw _ (.head _)));exact adi r2 r1 hx hd (by have:=O.un;lia) ⟨_,st,S.jR.bool,h⟩
end
theorem v8{c:Cx}{b:List aa4}{st:St}{Q:Fl->St->Prop}(H:bM c b st λf aO=> ∃l,(∀e∈l,e∈aO.loc)/\Q f ⟨l,aO.own⟩):bM c b st Q:= .mk λT s S=>wpS (H.run T s S) (λf s' z=>by
 obtain⟨a,aO,x,l,hl,q⟩:=z;refine⟨a,⟨l,aO.own⟩,?_,q⟩;cases a with
 |next=>exact⟨x.1,x.2.loc hl⟩
 |brk=>exact⟨x.1,x.2.loc hl⟩
 |cont=>exact⟨x.1,x.2.loc hl⟩
 |ret a=>obtain⟨v,e,S⟩:=x;exact⟨v,e,S.loc hl⟩)
def Qw(n:Nat)(Q:Fl->St->Prop):Fl->St->Prop:=λf aO=>Q f ⟨aO.loc.take n,aO.own⟩
theorem rB{c:Cx}{b:List aa4}{st:St}{Q:Fl->St->Prop}(n:Nat)(H:bM c b st (Qw n Q)):bM c b st Q:=v8<| .mk λT s S=>wpS (H.run T s S) (λf s' z=>by obtain⟨a,aO,x,q⟩:=z;exact⟨a,aO,x,_,λe he=>wd he,q⟩)
theorem k8(k:Nat):gz 0 k=(ar k).map λ(i:Nat)=> .int (i:Int):=by unfold gz;rw[acB];rw[sa];exact i5 λi aa=>by rw[adZ];rfl
theorem cG{α:Type}(g:α->FV)(l:List α):Src (.list (l.map g)) (l.map λa=> .f (g a)):=by have:=src_list (l.map g);rwa[dT]at this
theorem c7{α:Type}{own:List AO}{g:α->FV}{l:List α}:aQ own (.f (.list (l.map g))) (l.map λa=> .f (g a)):=by have:=aQ.f (own:=own) (l.map g);rwa[dT]at this
theorem eF{α:Type}{own:List AO}{g:α->FV}{l:List α}:aQ own (.n (.list (l.map g))) (l.map λa=> .nw (g a)):=by have:=aQ.n (own:=own) (l.map g);rwa[dT]at this
theorem o5(k:Nat):Src (.list (gz 0 k)) ((ar k).map λ(i:Nat)=> .f (.int (i:Int))):=by rw[k8];exact cG _ _
theorem bJ(hk:1≤k):ar k=0::kl 1 (k-1):=by obtain⟨n,rfl⟩:=acS hk;rw[List.range_eq_range'];rw[List.range'_succ];rfl
section
variable{c:Cx}{st:St}
theorem cU (h: ∀R,(∀{f s},Q f s->R f s)->bM c b st R):bM c b st Q:=h Q λq=>q
structure Lp(α X:Type) where
 L:α->X->List (Str×AV)
 W:α->X->List AO
 P:α->X->Prop
def Lp.Turn{α X:Type}(D:Lp α X)(c:Cx)(x:Str)(body:List aa4)(p q:α)(v:AV):Prop:=∀y R H G,D.P p y->(∀y' tl,D.P q y' ->R .next ⟨D.L q y' ++tl,D.W q y'⟩)->bM (c.v H G) body ⟨D.L p y++[(x,v)],D.W p y⟩ R
inductive Ut(c:Cx)(x:Str)(body:List aa4)(Q:Fl->St->Prop)(a:AV)(bl:St):Prop
 |mk {α X:Type} (cX:α->AV) (xs:List α) (D:Lp (List α) X) {good:St->Prop} (h1:e9 c a bl (xs.map cX) good) (hg: ∀p y,good ⟨D.L p y,D.W p y⟩) (x0:X) (h2:D.P [] x0) (h3:bl=⟨D.L [] x0,D.W [] x0⟩) (hn: ∀p y,noName (D.L p y) x=true)
  (turn: ∀p b r,xs=p++b::r->D.Turn c x body p (p++[b]) (cX b)) (q: ∀y,D.P xs y->Q .next ⟨D.L xs y,D.W xs y⟩)
inductive DE{α β X:Type}(cX:α->β)(xs:List α)(D:Lp (List α) X)(r:List β)(st:St):Prop
 |mk (p s:List α) (y:X) (e1:xs=p++s) (e2:r=s.map cX) (h:D.P p y) (e:st=⟨D.L p y,D.W p y⟩)
theorem qB{x:Str}{px pos:Pos}{iter:Expr}{body:List aa4}{Q:Fl->St->Prop}(O:Ok c)(h:Ev c iter st (Ut c x body Q))(hx:storeOk c x=true:=by kernel_rfl)
  (hs: ∀y,il iter c.env y=pure y:=by intro _;rfl):Ex c (.For (.Name x px) iter body [] pos) st Q:=
 Co O (hx:=hx) (hs:=hs) (h.mono λa bl z=>by
  obtain⟨cX,xs,D,h1,hg,x0,h2,h3,hn,turn,q⟩:=z;refine⟨DE cX xs D,_,_,h1,⟨[],xs,x0,rfl,rfl,h2,h3⟩,λr bD hI=>?_,λb r bD H G hI=>?_,λbD hI=>?_⟩
  ·obtain⟨p,_,y,_,_,_,e⟩:=hI;rw[e];exact hg p y
  ·obtain⟨p,s,y,e1,e2,hp,e3⟩:=hI;cases s with
   |nil=>exact(Fe (e2).symm).elim
   |cons b0 s=>obtain⟨eb,er⟩:=List.cons.inj e2;rw[e3];rw[eb];exact⟨_,aU (hn p y),v8 (turn p b0 s e1 y _ H G hp λy' tl o6=>⟨_,λe he=>bp tl he,.inl rfl,p++[b0],s,y',by rw[hJ];exact e1,er,o6,rfl⟩)⟩
  ·obtain⟨p,s,y,e1,e2,hp,e3⟩:=hI;cases s with
   |nil=>rw[fw]at e1;rw[e3];refine bS (e1 ..) ?_;rw[<-e1]at hp;exact q y hp
   |cons _ _=>exact(Fe e2).elim)
theorem iV{b:Bool}{p q:Prop}(e:b=true)(h:p):if b=true then p else q:=by rw[if_pos e];exact h
theorem fF{b:Bool}{p q:Prop}(e:b=false)(h:q):if b=true then p else q:=by rw[if_neg (abr.mp e)];exact h
theorem xJ{P:α->Prop}(h:P a): ∀r,r=a->P r:=λaa e=>e▸h
inductive Uu(c:Cx)(x:Str)(body:List aa4)(Q:Fl->St->Prop)(a:AV)(bl:St):Prop
 |mk {X:Type} (k:Nat) (D:Lp Nat X) (ha:a= .n (.m8 0 k)) (hk:k≤1000000) (x0:X) (h2:D.P 0 x0) (h3:bl=⟨D.L 0 x0,D.W 0 x0⟩) (hn: ∀p y,noName (D.L p y) x=true)
  (turn: ∀i,i<k->D.Turn c x body i (i+1) (.f (.int (i:Nat)))) (q: ∀y,D.P k y->Q .next ⟨D.L k y,D.W k y⟩)
theorem ki(n:Nat):g7 0 n=(ar n).map λ(i:Nat)=> .f (.int (i:Int)):=by unfold g7;rw[acB];rw[sa];exact i5 λi aa=>by rw[adZ];rfl
theorem ck{k:Nat}(hk:k≤1000000):Src (.m8 0 k) ((ar k).map λ(i:Nat)=> .f (.int (i:Int))):=by refine bS (ki ..) ?_;exact src_range (by decide) (by lia)
theorem k9(e:ar k=p++b::r):b=p.length/\p.length<k:=by have hl:=congrArg aab e;rw[cf,dy]at hl;have hk:p.length<k:=hl▸zr (zt _);have h:=congrArg (λz=>z[p.length]?) e;rw[D2 (cq _),abG,eR hk]at h;exact⟨(Option.some.inj h).symm,hk⟩
theorem lg(O:Ok c)(h:Ev c iter st (Uu c x body Q))(hx:storeOk c x=true:=by kernel_rfl)
  (hs: ∀y,il iter c.env y=pure y:=by intro _;rfl):Ex c (.For (.Name x px) iter body [] pos) st Q:=
 qB O (hx:=hx) (hs:=hs) (h.mono λa bl ⟨k,D,ha,hk,x0,h2,h3,hn,turn,q⟩=>by
  subst ha;have it:=rq (st:=bl) O (a:=0) (b:=k) (by decide) (by lia);rw[ki]at it;refine⟨_,ar k,⟨λp=>D.L p.length,λp=>D.W p.length,λp=>D.P p.length⟩,it,λaa aa=>trivial,x0,h2,h3,λp y=>hn _ y,λp b r e y R H G hp hR=>?_,λy hp=>?_⟩
  ·obtain⟨hb,hk⟩:=k9 e;subst hb;refine turn p.length hk y R H G hp λy' tl o6=>?_;have:=hR y' tl;dsimp only at this;rw[dy]at this;exact this o6
  ·dsimp only at hp⊢;rw[cf]at hp⊢;exact q y hp)
theorem br{α:Type}{g:α->FV}{l:List α}{j:Nat}{x:α}{Q:AV->St->Prop}(hx:l[j]?=some x)(hl:l.length≤1000000)(h:Q (.f (g x)) st):Item c (.f (.int (j:Nat))) (.f (.list (l.map g))) st Q:=item_list c7 (.inl rfl) (by rw[my];rw[hx];rfl) (by rw[ag];exact hl) h
theorem dX{α:Type}{g:α->FV}{l:List α}{j:Nat}{x:α}{Q:AV->St->Prop}(hx:l[j]?=some x)(hl:l.length≤1000000)(h:Q (.nw (g x)) st):Item c (.f (.int (j:Nat))) (.n (.list (l.map g))) st Q:=item_list eF (.inl rfl) (by rw[my];rw[hx];rfl) (by rw[ag];exact hl) h
inductive Uv(n:Nat)(Q:AV->St->Prop)(a:AV)(bl:St):Prop
 |mk (l:List AV) (h:aQ bl.own a l) (e:l.length=n) (q:Q (.n (.m8 0 n)) bl)
theorem dM(O:Ok c)(hn:n≤1000000)(h:Ev c e st (Uv n Q))(e1:ag7 c.K ⟨c.prog,c.w.params⟩ (abC c.env "range")=some (.type "range"):=by rfl)(e2:ag7 c.K ⟨c.prog,c.w.params⟩ (abC c.env "len")=some (.builtin "len"):=by rfl)(hp:plainArg e=true:=by rfl):
  Ev c (.Call (.Name "range" p1) [.Call (.Name "len" p2) [e] [] p3] [] p4) st Q:=
 ai O (f:= .type "range") e1 rfl rfl rfl (ai O (f:= .builtin "len") e2 rfl (by rw[xp];rw[hp];rfl) rfl (h.mono λa bl zz=>by obtain⟨l,h,e,q⟩:=zz;exact jq h (e▸hn) (bW O (e▸q))))
end
theorem dN:i∈aB n↔i<6/\n.testBit i=true:=by simp[aB]
theorem fY:e∈(bE n tk).toList↔ ∃i,A3 (i<6) (n.testBit i=true) (e=((i:Int),Value.int (i:Int) (tk i))):=by
 constructor
 ·intro h;obtain⟨i,hi,e⟩:=bb.mp (by simpa[bE]using h);exact⟨i,(dN.mp hi).1,(dN.mp hi).2,e.symm⟩
 ·rintro⟨i,h1,h2,rfl⟩;simp only[bE];exact bb.mpr ⟨i,dN.mpr ⟨h1,h2⟩,rfl⟩
theorem bG(n:Nat)(tk:Nat->Tok):(bE n tk).size=(aB n).length:=by simp[bE]
theorem cH(n:Nat):(aB n).length≤6:=by have:=ml (λi=>n.testBit i) (ar 6);simpa[aB]using this
theorem eN{i:Nat}(h:i<6):hashInt (i:Int)=(i:Int):=by rcases i with _|_|_|_|_|_|i<;>first|decide+kernel|lia
theorem mQ(prog:d5)(w:fA)(n:Nat)(tk:Nat->Tok):ElemsOf (t4 prog w) (bE n tk).toList:=λe he=>by obtain⟨i,h1,h2,rfl⟩:=fY.mp he;exact⟨⟨(i:Int),aaX _ _ _ _,(eN h1).symm⟩,rfl⟩
theorem Gm:(∀led mv,([7,15,31].all λm=>(ar 64).all λn=>(ar 64).all λd=>(d&&&n !=0)||(tabOf led mv m n d).fits (aB n).length)=true):=λaa aa=>tr
theorem Gn{f:Nat->Nat->Nat->Bool}(h:([7,15,31].all λm=>(ar 64).all λn=>(ar 64).all λd=>f m n d)=true)(hm:m∈[7,15,31])(hn:n<64)(hd:d<64):f m n d=true:=by have h1:=d6.mp h m hm;have h2:=d6.mp h1 n (a9.mpr hn);exact d6.mp h2 d (a9.mpr hd)
theorem lq{f:Nat->Nat->Nat->Bool}(h:([7,15,31].all λm=>(ar 64).all λn=>(ar 6).all λd=>f m n d)=true)(hm:m∈[7,15,31])(hn:n<64)(hd:i<6):f m n i=true:=by have h1:=d6.mp h m hm;have h2:=d6.mp h1 n (a9.mpr hn);exact d6.mp h2 i (a9.mpr hd)
theorem dO(tk:Nat->Tok)(hm:m∈[7,15,31])(hn:n<64)(hd:d<64)(h0:d&&&n=0):(tabOf led mv m n d).fits (bE n tk).size=true:=by have:=Gn (Gm led mv) hm hn hd;rw[h0]at this;rw[bG];exact this
theorem cz.setOf{prog:d5}{w:fA}{h:wq}{a:dq}{o:Obj}{led:Bool}{n:Nat}(g:h.get? a=some o)(R:cz o led n):h.SetOf (t4 prog w) a (λk=>decide (0≤k/\k<6)&&n.testBit k.toNat) (aB n).length:=by
 obtain⟨mv,m,d,ep,tk,rfl,hn,hd,h0,hm⟩:=R;refine⟨_,bE n tk,ep,tabOf led mv m n d,g,⟨rfl,rfl,rfl⟩,rfl,mQ prog w n tk,λk=>?_,?_,dO tk hm hn hd h0,bG n tk⟩
 ·constructor
  ·intro hk;rw[dk,decide_eq_true_eq]at hk;refine⟨((k.toNat:Int),.int (k.toNat:Int) (tk k.toNat)),fY.mpr ⟨k.toNat,by lia,hk.2,rfl⟩,?_⟩;rw[show(k.toNat:Int)=k by lia];exact aaX _ _ _ _
  ·rintro⟨e,he,hk⟩;obtain⟨i,h1,h2,rfl⟩:=fY.mp he;have:k=(i:Int):=by have:=agJ (.int (i:Int) (tk i)) k (i:Int) hk (by simp[sv]);exact this
   subst this;rw[dk];rw[decide_eq_true_eq];exact⟨⟨(dA i),by lia⟩,by simpa using h2⟩
 ·rw[bG];have:=cH n;unfold afh;exact bj this (by decide)
theorem Gp:(∀led mv,([7,15,31].all λm=>(ar 64).all λn=>(ar 6).all λi=>n.testBit i||((tabOf led mv m n 0).freeSlot i==some (i,false)))=true):=λaa aa=>by kernel_rfl
theorem qC:([7,15,31].all λaa=>(ar 64).all λn=>(ar 6).all λi=>n.testBit i||(aal (aB n).toArray (tj (aB n).toArray i) i==(aB (n|||(1<<<i))).toArray&&(decide (n|||(1<<<i)<64)&&SetTable.has (aB 0).toArray i==false)))=true:=tr
theorem DF(hn:n<64)(hi:i<6)(hb:n.testBit i=false):
  aal (bE n tk) (tj (aB n).toArray i) ((i:Int),Value.int (i:Int) t)=bE (n|||(1<<<i)) λk=>if k=i then t else tk k:=by
 have key:=lq qC (show 7∈[7,15,31] by decide) hn hi;rw[hb,lh,dk]at key;have key:=eq_of_beq key.1;let f:Nat->Int×a7:=λk=>((k:Int),Value.int (k:Int) (if k=i then t else tk k))
 have e1:bE n tk=(aB n).toArray.map f:=by
  simp only[bE,aga];congr 1;apply i5;intro k hk;have:k≠i:=λq=>by subst q;rw[(dN.mp hk).2]at hb;cases hb
  simp only[f,if_neg this]
 have e2:((i:Int),Value.int (i:Int) t)=f i:=by simp only[f,if_true]
 rw[e1];rw[e2];rw[show aal ((aB n).toArray.map f) (tj (aB n).toArray i) (f i)=(aal (aB n).toArray (tj (aB n).toArray i) i).map f by simp[aal]];rw[key];simp only[bE,aga];rfl
theorem AI:(∀led mv,([7,15,31].all λm=>(ar 64).all λn=>(ar 64).all λd=>(d !=0)||((tabOf led mv m n 0).tooFull==false)||(match(tabOf led mv m n 0).relaid (((aB n).map λ(i:Nat)=>(i:Int)).toArray) (aez (aB n).length)with
  |some (t',order)=>t'.mask==31&&(t'.place==(aB n).toArray&&(t'.dummies== #[]&&(t'.finger==0&&(t'.plain&&(t'.led==led&&(order==aca (aB n).length&&coversAll order (aB n).length))))))
  |none=>false))=true):=λled aa=>by cases led<;>kernel_rfl
theorem J2{led:Bool}{mv m n i:Nat}{t:Tok}{tk:Nat->Tok}(hm:m∈[7,15,31])(hn:n<64)(hi:i<6)(hb:n.testBit i=false):
  layNew (tabOf led mv m n 0) (bE n tk) (i:Int) (.int (i:Int) t)=(bE (n|||(1<<<i)) (λk=>if k=i then t else tk k),tabOf led mv m (n|||(1<<<i)) 0,false,false):=by
 have f:=lq (Gp led mv) hm hn hi;rw[hb,lh]at f;have f:=eq_of_beq f;have p:=lq qC hm hn hi;rw[hb,lh,dk,dk]at p;obtain⟨p1,p2,p3⟩:=p;have p1:=eq_of_beq p1;have p2:=of_decide_eq_true p2;have p3:=eq_of_beq p3;have e:=DF (t:=t) (tk:=tk) hn hi hb;have ft:=dO (led:=led) (mv:=mv) (m:=m) (n:=n|||(1<<<i)) (d:=0) (λk=>if k=i then t else tk k) hm p2 (by decide) (by simp);unfold layNew;rw[f];have Uw:(tabOf led mv m n 0).put i=(tabOf led mv m (n|||(1<<<i)) 0,tj (aB n).toArray i):=by unfold SetTable.put tabOf;dsimp only;rw[p3];rw[p1];rfl
 dsimp only;rw[Uw];dsimp only;rw[e];unfold SetTable.orStandIn;rw[ft];rfl
theorem xK:(aca (aB n).length).filterMap (λi=>(bE n tk)[i]?)=bE n tk:=by
 refine bS (bG n tk ..) ?_;generalize bE n tk=es;apply Array.toList_inj.mp;obtain⟨l⟩:=es;simp only[Array.toList_filterMap,Array.toList_range,eM,yB];have key: ∀k,List.filterMap (λi=>l[i]?) (ar k)=l.take k:=by
  intro k;induction k with
  |zero=>simp
  |succ k ih=>rw[Kk];rw[List.filterMap_append];rw[ih];rw[abv];cases q:l[k]?<;>simp[q]
 rw[key];rw[ti];rfl
theorem DG(hm:m∈[7,15,31])(hn:n<64)(hf:(tabOf led mv m n 0).tooFull=true):
  ∃Jv,relayAll (tabOf led mv m n 0) (bE n tk) (aez (bE n tk).size)=(bE n tk,tabOf led Jv 31 n 0,false):=by
 have r:=Gn (AI led mv) hm hn (show 0<64 by decide);rw[hf]at r;simp only[bne_self_eq_false,Bool.true_eq_false,lh,show((true==false)=false)from rfl]at r;have eh:(bE n tk).map (·.1)=(((aB n).map λ(i:Nat)=>(i:Int)).toArray):=by simp[bE]
 unfold relayAll;rw[bG];rw[eh];cases q:(tabOf led mv m n 0).relaid (((aB n).map λ(i:Nat)=>(i:Int)).toArray) (aez (aB n).length)with
 |none=>rw[q]at r;cases r
 |some x=>obtain⟨⟨a,b,c,d,e,f,g⟩,order⟩:=x;rw[q]at r;simp only[dk,beq_iff_eq]at r;obtain⟨Pc,rfl,rfl,rfl,rfl,rfl,rfl,hc⟩:=r;rw[Pc];refine⟨f,?_⟩;have ft:=dO (led:=e) (mv:=f) (m:=31) (n:=n) (d:=0) tk (by decide) hn (by decide) (by simp);have et:(⟨31,(aB n).toArray,#[],0,e,f,true⟩:aee)=tabOf e f 31 n 0:=rfl;dsimp only;rw[xK];rw[hc];rw[et];rw[ft];rfl
abbrev cL(led:Bool)(n:Nat)(o:Obj):Prop:=E4 λmv m ep tk=>A3 (o=aL led mv m n 0 ep tk) (n<64) (m∈[7,15,31])
theorem cL.rep:cL led n o->cz o led n:=λzz=>by obtain⟨mv,m,ep,tk,e,hn,hm⟩:=zz;exact⟨mv,m,0,ep,tk,e,hn,by decide,by simp,hm⟩
section
variable{prog:d5}{w:fA}{A:ka}{E:a7->a8->Prop}{s:a8}
theorem mR (g:s.heap.get? a=some o)(R:cL led n o)(hi:i<6)
  (h: ∀b h' o',lL a s.heap h' ->h'.get? a=some o' ->cL led (n|||(1<<<i)) o' ->Q b {s with heap:=h' }):
  dE (dC prog w) A (acC a (.int (i:Int) t) (i:Int)) Q E s:=by
 have R0:=R;obtain⟨mv,m,ep,tk,rfl,hn,hm⟩:=R;have hf:=dO (led:=led) (mv:=mv) (m:=m) (n:=n) (d:=0) tk hm hn (by decide) (by simp);have Nm:=mQ prog w n tk;have hb:(bE n tk).size<afh:=by rw[bG];have:=cH n;unfold afh;exact bj this (by decide)
 unfold acC setAddHashedIn;refine eJ (ab (acT g rfl hf ?_));dsimp only;rw[byScan_of rfl hb Nm];unfold setAddByScan;refine ab (ab (Fn ?_));have hk:(t4 prog w).hash (i:Int)=(i:Int):=eN hi;have scan: ∀{Q:ScanMet->a8->Prop},Q (match(bE n tk).toList.findIdx? (λe=>(t4 prog w).is (i:Int) e.2)with|some j=> .found (0+j)|none=> .absent) s->dE (dC prog w) A (setScan a (.int (i:Int) t) (i:Int) true (bE n tk)) Q E s:=λq=>by have:=agb (E:=E) (s:=s) (A:=A) (knd:=t4 prog w) (adding:=true) (aaX prog w (i:Int) t) g rfl hf Nm q;rw[hk]at this;exact this
 refine ab (scan ?_);cases hr:List.findIdx? (λe=>(t4 prog w).is (i:Int) e.2) (bE n tk).toList with
 |some j=>
  dsimp only;obtain⟨hj,W5,_⟩:=List.findIdx?_eq_some_iff_getElem.mp hr;have hb:n.testBit i=true:=by
   obtain⟨k,h1,h2,e⟩:=fY.mp (Qb hj);rw[e]at W5;have:(i:Int)=(k:Int):=agJ (.int (k:Int) (tk k)) (i:Int) (k:Int) W5 (by simp[sv]);have:i=k:=by lia
   rw[this];exact h2
  have en:n|||(1<<<i)=n:=by
   apply tv;intro k;rw[acL];rw[u3];rw[uj]
   by_cases q:i=k
   ·subst q;simp[hb]
   ·simp[q]
  refine ax (ax ?_);have:=h false s.heap _ (u4 a s.heap) g (by rw[en];exact R0);exact this
 |none=>
  dsimp only;have hb:n.testBit i=false:=by
   cases q:n.testBit i with
   |false=>rfl
   |true=>have:=List.findIdx?_eq_none_iff.mp hr _ (fY.mpr ⟨i,hi,q,rfl⟩);rw[aaX]at this;cases this
  have Du:n|||(1<<<i)<64:=by have p:=lq qC hm hn hi;rw[hb,lh,dk,dk]at p;exact of_decide_eq_true p.2.1
  rw[J2 hm hn hi hb];dsimp only;have g2: ∀(Am:Array (Int×a7)) (t' :aee) (h:wq) (es:Array (Int×a7)) (ep:Nat) (t:aee),h.get? a=some ⟨.type "set",none,.set es ep t,#[]⟩->(h.update a (aeh Am t')).get? a=some ⟨.type "set",none,.set Am (ep+1) t',#[]⟩:=λAm t' h es ep t g=>by have:=pE (aeh Am t') g (by rw[agK Am t' rfl];rfl);rw[agK Am t' rfl]at this;exact this
  have sz: ∀n tk,(bE n tk).size≤agn:=λn tk=>by rw[bG];rw[mB];have:=cH n;exact ae this (by decide)
  refine ab (ax (ab ?_));rw[hashByValue_scannable 8 (show(Value.int (i:Int) t).scannable=true from rfl)];refine ax ?_;simp only[show plainKind (Value.int (i:Int) t)=true from rfl,↓reduceIte];refine ab (Kt g rfl ?_ (sz _ _));have ga:=g2 (bE (n|||(1<<<i)) (λk=>if k=i then t else tk k)) (tabOf led mv m (n|||(1<<<i)) 0) s.heap _ _ _ g;have sb:=ik s.heap a (aeh (bE (n|||(1<<<i)) (λk=>if k=i then t else tk k)) (tabOf led mv m (n|||(1<<<i)) 0));cases Gq:(tabOf led mv m (n|||(1<<<i)) 0).tooFull with
  |false=>exact ax (ax (h _ _ _ sb ga ⟨mv,m,ep+1,_,rfl,Du,hm⟩))
  |true=>obtain⟨Jv,er⟩:=DG (tk:=λk=>if k=i then t else tk k) hm Du Gq;rw[er];dsimp only;refine ab (ax (ab (Kt ga rfl ?_ (sz _ _))));have gb:=g2 (bE (n|||(1<<<i)) (λk=>if k=i then t else tk k)) (tabOf led Jv 31 (n|||(1<<<i)) 0) _ _ _ _ ga;exact ax (ax (h _ _ _ (sb.trans (ik _ a _)) gb ⟨Jv,31,ep+1+1,_,rfl,Du,by decide⟩))
end
theorem cV:Slot "set_iterator" "__next__" "set_iterator.__next__" :=
 .of (owner:="set_iterator") (n:="__next__") (by rw[agL];rw[ad0];kernel_rfl) (by decide+kernel) (by decide+kernel) (by decide+kernel)
  (by first|exact .inl (by decide+kernel)|exact .inr (by decide+kernel)) (by rw[aeA];kernel_rfl)
theorem kj:Slot "set_iterator" "__iter__" "set_iterator.__iter__" :=
 .of (owner:="set_iterator") (n:="__iter__") (by rw[agL];rw[ad0];kernel_rfl) (by decide+kernel) (by decide+kernel) (by decide+kernel)
  (by first|exact .inl (by decide+kernel)|exact .inr (by decide+kernel)) (by rw[aeA];kernel_rfl)
theorem jG:ago table "set_iterator.__next__" =some Builtin.«set_iterator.__next__»:=agc rfl
theorem rC:ago table "set.__iter__" =some Builtin.«frozenset.__iter__»:=aeB (id' :="frozenset.__iter__") rfl rfl (by decide+kernel) rfl
theorem ko(a:a7):agM "set_iterator.__next__" ⟨[a],[]⟩:=by unfold agM;kernel_rfl
noncomputable abbrev fJ(w:fA):Bool:=w.params.followText "set-order"
noncomputable abbrev aq(w:fA):Bool:=!fJ w
theorem uI:((ar 64).all λn=>(tj (aB n).toArray 0==0)&&(ar 6).all λk=>decide ((aB n).length≤k)||(match(aB n)[k]? with|some j=>tj (aB n).toArray (j+1)==k+1|none=>false))=true:=tr
theorem AJ(hn:n<64):tj (aB n).toArray 0=0:=by have:=d6.mp uI n (a9.mpr hn);rw[dk]at this;exact eq_of_beq this.1
theorem AK(hn:n<64)(hk:(aB n)[k]?=some j):tj (aB n).toArray (j+1)=k+1:=by have:=d6.mp uI n (a9.mpr hn);rw[dk]at this;have hl:k<(aB n).length:=(ed.mp hk).1;have:=d6.mp this.2 k (a9.mpr (a0 hl (cH n)));rw[hk,decide_eq_false (Nat.not_le.mpr hl),lh]at this;exact eq_of_beq this
theorem rD{α:Type}: ∀{l:List α} {i:Nat} {x:α},l[i]?=some x->acU (x::l.eraseIdx i) l
 | [],_,_,h=>by simp at h
 |a::l,0,x,h=>by simp at h;subst h;simp
 |a::l,i+1,x,h=>(List.Perm.swap a x _).trans (List.Perm.cons a (rD (by simpa using h)))
theorem J3{α:Type}(next:Nat->Nat): ∀(f k:Nat) (l:List α) (out:Array α),l.length≤f->acU (pickOrder.go next f k l out).toList (out.toList++l):=by
 intro lz;induction lz with
 |zero=>intro k l out h;have:l=[]:=nr (Nat.eq_zero_of_le_zero h);subst this;rw[fw];exact .refl _
 |succ f ih=>
  intro k l out h;show acU (match l[next k%l.length]? with|some x=>pickOrder.go next f (k+1) (l.eraseIdx (next k%l.length)) (out.push x)|none=>out).toList _;cases hx:l[next k%l.length]? with
  |some x=>have hi:next k%l.length<l.length:=(ed.mp hx).1;refine(ih (k+1) _ _ (by rw[List.length_eraseIdx];rw[if_pos hi];exact Nat.sub_le_of_le_add h)).trans ?_;rw[Array.toList_push];rw[hJ];exact List.Perm.append_left _ (rD hx)
  |none=>
   rcases abb l.length with q|q
   ·rw[nr q];simp
   ·have:=abw (next k) q;rw[eC this]at hx;cases hx
theorem DH{α:Type}(next:Nat->Nat)(xs:Array α):acU (ahU next xs).toList xs.toList:=by have:=J3 next xs.size 0 xs.toList #[] (by simp);simpa[ahU]using this
noncomputable def fc(w:fA)(a:dq)(ep n:Nat)(tk:Nat->Tok):Array (Int×a7):=if fJ w then ahU (w.params.setOrder a ep) (bE n tk)else bE n tk
theorem nJ(w:fA)(a:dq)(ep n:Nat)(tk:Nat->Tok):acU (fc w a ep n tk).toList (bE n tk).toList:=by
 unfold fc;split
 ·exact DH _ _
 ·exact List.Perm.refl _
noncomputable def nK(slot k:Nat)(a:dq)(n ep:Nat):Obj:=⟨.type "set_iterator",none,.fields #[wy slot,wy k,.ref a,wy n,wy ep],#[]⟩
section
variable{prog:d5}{w:fA}{A:ka}{E:a7->a8->Prop}{s:a8}
theorem v9 (h:Q (.ref s.heap.objs.size) {s with heap:=s.heap.push (aL (aq w) 0 7 0 0 0 λaa=>0)}):dE (dC prog w) A (newSet (.type "set")) Q E s:=by unfold newSet ahm;refine ab (ab (Fm (ax ?_)));dsimp only;exact ab (agH (ax h))
theorem bX{Q:(Array (Int×a7)×Nat×aee)->a8->Prop}(g:s.heap.get? a=some (aL led mv m n d ep tk))(hm:m∈[7,15,31])(hn:n<64)(hd:d<64)(h0:d&&&n=0)
  (h:Q (bE n tk,ep,tabOf led mv m n d) s):dE (dC prog w) A (setState a) Q E s:=acT g rfl (dO tk hm hn hd h0) h
theorem jr(h:Q (fJ w) s):dE (dC prog w) A ahm Q E s:=by unfold ahm;exact ab (Fm (ax h))
theorem xM(g:s.heap.get? a=some (aL (aq w) mv m n d ep tk))(hm:m∈[7,15,31])(hn:n<64)(hd:d<64)(h0:d&&&n=0)
  (h:Q (fc w a ep n tk) s):dE (dC prog w) A (setWalk a) Q E s:=by
 unfold setWalk;refine ab (bX g hm hn hd h0 ?_);dsimp only;refine ab (jr ?_);unfold fc at h;cases hb:fJ w with
 |true=>rw[hb]at h;simp only[↓reduceIte]at h⊢;exact ab (Fm (ax h))
 |false=>
  rw[hb]at h;simp only[kz,↓reduceIte]at h⊢;refine agG ?_;rw[if_neg (by show¬((!true&&_)=true);simp)];have hl:aq w=true:=by show(!fJ w)=true;rw[hb];rfl
  show dE (dC prog w) A (do(if(!(tabOf (aq w) mv m n d).led&&decide ((bE n tk).size>1))=true then agN "set:maker-not-led" else pure aaY);pure (bE n tk)) Q E s;rw[show(tabOf (aq w) mv m n d).led=true from hl];exact ab (ax (ax h))
theorem Gr(g:s.heap.get? a=some (aL (aq w) mv m n d ep tk))(hm:m∈[7,15,31])(hn:n<64)(hd:d<64)(h0:d&&&n=0)
  (h:Q (.ref s.heap.objs.size) {s with heap:=s.heap.push (nK 0 0 a (aB n).length ep)}):dE (dC prog w) A (aba (.ref a)) Q E s:=by
 have hT:s.TypeIs (.ref a) "set" :=⟨_,g,rfl⟩;refine afJ hT slot_set_iter (oe slot_set_iter hT rC ?_ (args_set_iter_1 _));unfold Builtin.«frozenset.__iter__»;refine ab (m:=ahu "__iter__" _) (kA (a:=a) rfl ?_);have hf:=dO (led:=aq w) (mv:=mv) tk hm hn hd h0;unfold aaZ;refine ab (ab (aaP g rfl hf (ax ?_)));have dr: ∀{Q:Bool->a8->Prop},Q false s->dE (dC prog w) A.in1 (setDrawn a) Q E s:=λ{Q} q=>by unfold setDrawn;refine ab (bX g hm hn hd h0 ?_);dsimp only;refine ab (jr (ax ?_));show Q (!fJ w&&(!true&&decide ((bE n tk).size>1))) s;rw[Pl];rw[Bool.false_and];rw[ag8];exact q
 refine ab (dr (ab (ax ?_)));unfold agp;refine ab (ab (bX g hm hn hd h0 (ax ?_)));rw[bG];exact ab (oP (ax ⟨_,rfl,"set_iterator",_,⟨_,bc _ rfl,rfl⟩,cV.lookup,h⟩))
def uJ(w:fA)(slot k n:Nat):Prop:=fJ w=true∨tj (aB n).toArray slot=k
theorem DI{h:wq}{I a:dq}{slot k n ep:Nat}{i:Nat}{x:a7}(g:h.get? I=some (nK slot k a n ep)):
  (h.update I (Obj.mapFields (·.setIfInBounds i x))).get? I=some ⟨.type "set_iterator",none,.fields ((#[wy slot,wy k,.ref a,wy n,wy ep]:Array a7).setIfInBounds i x),#[]⟩:=by
 rw[pE _ g (ad1 (afi rfl _))];rfl
theorem rE(g:s.heap.get? a=some (aL (aq w) mv m n d ep tk))(hm:m∈[7,15,31])(hn:n<64)(hd:d<64)(h0:d&&&n=0)
  (hs:uJ w slot k n)(h: ∀jH,(∀e,(fc w a ep n tk)[k]?=some e->uJ w jH (k+1) n)->Q ((fc w a ep n tk)[k]?.map λe=>(e.2,jH)) s):dE (dC prog w) A (setNext a slot k ep) Q E s:=by
 unfold setNext;refine ab (bX g hm hn hd h0 ?_);dsimp only;refine ab (jr ?_);cases hb:fJ w with
 |true=>simp only[↓reduceIte,bne_self_eq_false,kz];exact ab (xM g hm hn hd h0 (ax (h slot λaa aa=> .inl hb)))
 |false=>
  refine aac rfl ?_;have hl:aq w=true:=by show(!fJ w)=true;rw[hb];rfl
  refine agG ?_;rw[if_neg (by show¬((!true&&_)=true);simp)];show dE (dC prog w) A (do(if(!(tabOf (aq w) mv m n d).led&&!(bE n tk).isEmpty)=true then agN "set:maker-not-led" else pure aaY);pure (match(bE n tk)[tj (aB n).toArray slot]?,(aB n).toArray[tj (aB n).toArray slot]? with|some (_,x),some j=>some (x,j+1)|_,_=>none)) Q E s;rw[show(tabOf (aq w) mv m n d).led=true from hl];refine ab (ax (ax ?_));have hk:tj (aB n).toArray slot=k:=hs.elim (λq=>by rw[hb]at q;cases q) id;rw[hk];have ho:fc w a ep n tk=bE n tk:=by unfold fc;rw[hb];rfl
  rw[ho]at h;have hp:(aB n).toArray[k]?=(aB n)[k]?:=by simp
  cases q:(aB n)[k]? with
  |none=>
   have e:(bE n tk)[k]?=none:=by simp[bE,q]
   rw[hp];rw[q];rw[e];have:=h 0 λe' he=>by rw[e]at he;cases he
   rw[e]at this;exact this
  |some j=>
   have e:(bE n tk)[k]?=some ((j:Int),.int (j:Int) (tk j)):=by simp[bE,q]
   rw[hp];rw[q];rw[e];have:=h (j+1) λaa aa=> .inr (AK hn q);rw[e]at this;exact this
theorem tR(g:s.heap.get? a=some (aL (aq w) mv m n d ep tk))(hm:m∈[7,15,31])(hn:n<64)(hd:d<64)(h0:d&&&n=0)
  (gi:s.heap.get? I=some (nK slot k a (aB n).length ep))(hs:uJ w slot k n)(he:(fc w a ep n tk)[k]?=some e)
  (h: ∀h' jH,h'.get? I=some (nK jH (k+1) a (aB n).length ep)->uJ w jH (k+1) n->lL I s.heap h' ->Q (some e.2) {s with heap:=h' }):dE (dC prog w) A (aaW (.ref I)) Q E s:=by
 have hT:s.TypeIs (.ref I) "set_iterator" :=⟨_,gi,rfl⟩;have hf:=dO (led:=aq w) (mv:=mv) tk hm hn hd h0;unfold aaW;refine ab (ab0 (vx (name:=fe "__next__") hT cV (oe cV hT jG ?_ (ko _))));unfold Builtin.«set_iterator.__next__»;refine ab (m:=slotArgs "__next__" 0 _) (kA (a:=(.ref I,[])) rfl (ab (wpAny_fieldsOf gi rfl ?_)));simp only[wy];refine ab (aaP g rfl hf ?_);rw[bG];simp only[bne_self_eq_false,kz,↓reduceIte];simp only[sa];refine ab (rE g hm hn hd h0 hs λjH B8=>?_);rw[he];have g1:=DI (i:=0) (x:= .int (jH:Int) 0) gi;refine ab (aeC gi rfl (by simp) (ab (aeC g1 rfl (by simp) (ax ⟨e.2,rfl,ax (h _ jH ?_ (B8 e he) ((ik ..).trans (ik ..)))⟩))));rw[pE _ g1 (ad1 (afi rfl _))];rfl
theorem wc(hh:A.handled=none)(g:s.heap.get? a=some (aL (aq w) mv m n d ep tk))(hm:m∈[7,15,31])(hn:n<64)(hd:d<64)(h0:d&&&n=0)
  (gi:s.heap.get? I=some (nK slot k a (aB n).length ep))(hs:uJ w slot k n)(he:(fc w a ep n tk)[k]?=none)
  (h: ∀h',ail I s.heap h' ->Q none {s with heap:=h' }):dE (dC prog w) A (aaW (.ref I)) Q E s:=by
 have hT:s.TypeIs (.ref I) "set_iterator" :=⟨_,gi,rfl⟩;have hf:=dO (led:=aq w) (mv:=mv) tk hm hn hd h0;unfold aaW;refine ab (ab0 (vx (name:=fe "__next__") hT cV (oe cV hT jG ?_ (ko _))));unfold Builtin.«set_iterator.__next__»;refine ab (m:=slotArgs "__next__" 0 _) (kA (a:=(.ref I,[])) rfl (ab (wpAny_fieldsOf gi rfl ?_)));simp only[wy];refine ab (aaP g rfl hf ?_);rw[bG];simp only[bne_self_eq_false,kz,↓reduceIte];simp only[sa];refine ab (rE g hm hn hd h0 hs λjH B8=>?_);rw[he];refine ab (aeC gi rfl (by simp) ?_);show dE _ _ (newExc (.type "StopIteration") []>>=_) _ _ _;refine ab (ab (oP (ab (m:=aaC _ _) (kA (a:=tI) (by first|rfl|(simp only[aaC];rfl)) ?_)) (by size_fits)));refine oP ?_ (by size_fits);dsimp only;refine ab (afj ?_);first|rw[show A.in1.handled=none from hh]|rewrite [hh]
 refine ab (ax (agO ?_));refine ab (ub (T:="StopIteration") (b:=true) ⟨_,bc _ rfl,rfl⟩ aeD ?_);exact ax (h _ (((ik ..).extBut.push _).push _))
end
noncomputable def fS(m:Nat)(l:List Nat):Nat:=l.foldl (λm x=>m|||(1<<<x)) m
theorem Qx(hm:m<64)(hx:x<6):m|||(1<<<x)<64:=by
 have:1<<<x<2^6:=by rw[u3];exact Nat.pow_lt_pow_right (by decide) hx
 exact Nat.or_lt_two_pow (n:=6) hm this
section
variable{prog:d5}{w:fA}{A:ka}{R:abS->a8->Prop}{E:a7->a8->Prop}{I:dq}{fp wr:List dq}{n:Nat}{P:Nat->a7->Prop}{St:Nat->wq->Prop}
theorem DJ (g:s.heap.get? a=some o)(N:cL led n o)(hi:i<6)
  (h: ∀b h' o',lL a s.heap h' ->h'.get? a=some o' ->cL led (n|||(1<<<i)) o' ->Q b {s with heap:=h',toks:=s.toks+1}):dE (dC prog w) A (setAdd a (.int (i:Int) t)) Q E s:=by
 unfold setAdd;refine eJ (ab ((t4 prog w).pyHash (k:=(i:Int)) (aaX _ _ _ _) ?_));rw[show(t4 prog w).hash (i:Int)=(i:Int)from eN hi];exact mR (s:={s with toks:=s.toks+1}) g N hi λb h' o' h1 h2 h3=>h b h' o' h1 h2 h3
def Gives(P:Nat->a7->Prop)(vals:List Nat):Prop:= ∀i v,P i v->E2 λx t=>vals[i]?=some x/\v= .int (x:Int) t
theorem xN{vals:List Nat}(W:Walks prog w A.in1 I fp wr n P St)(S:dq)(Qy:S∉fp)(hv:Gives P vals)(hl:vals.length=n)(iE: ∀x∈vals,x<6):
  ∀(k i m:Nat) (s:a8) (o:Obj),n-i=k->i≤n->St i s.heap->s.heap.get? S=some o->cL led m o->
   (∀h' tk o',(∀b o,b∉S::wr->s.heap.get? b=some o->h'.get? b=some o)->h'.get? S=some o' ->cL led (fS m (vals.drop i)) o' ->R (.ok (.ret .none)) {s with heap:=h',toks:=tk})->
   tJ (dC prog w) A (.builtin "set.update.loop" ⟨[.ref S,.ref I],[]⟩) R s:=by
 have Pd:S∉wr:=λh=>Qy (W.sub _ h);intro k;induction k with
 |zero=>intro i m s o hk hi uK g N hR;have Qz:i=n:=sx hi (abH hk);subst Qz;refine iq aaD ?_;rw[eP Ap _];refine ab (W.done s _ _ uK λh' tk hm=>ax (hR h' tk o (λb o hb e=>hm b o (λq=>hb (.tail _ q)) e) (hm S o Pd g) ?_));rw[adG (km hl)];exact N
 |succ k ih=>
  intro i m s o hk hi uK g N hR;have cy:i<n:=acV (hk▸zt k);have SH:n-(i+1)=k:=by rw[ahb];rw[hk];rfl
  refine iq aaD ?_;rw[eP Ap _];refine ab (W.item i s _ _ cy uK λv h1 Np hP J4 Cw=>?_);obtain⟨x,t,hx,rfl⟩:=hv i v hP;have QA:=iE x (d3 hx);refine ab (eJ (DJ (s:={s with heap:=h1,toks:=Np}) (Cw S o Pd g) N QA λb h2 o2 uL g2 N2=>ax ⟨lj Ap _,ih (i+1) _ _ o2 SH cy (W.frame _ h1 h2 J4 λb hb o e=>(uL.2 b (λq=>Qy (q▸hb))).trans e) g2 N2 λh3 ES o3 QB g3 N3=>hR h3 ES o3 (λb o hb e=>QB b o hb ((uL.2 b (λq=>hb (q▸ .head _))).trans (Cw b o (λq=>hb (.tail _ q)) e))) g3 ?_⟩));have e:vals.drop i=x::vals.drop (i+1):=by obtain⟨Pa,e'⟩:=ed.mp hx;rw[mi Pa];rw[e'];rfl
  rw[e];exact N3
theorem Gs:((ar 64).all λr=>(ar 64).all λa=>(r&&&a !=r)||(decide ((aB r).length<(aB a).length)||r==a))=true:=tr
theorem J5(hr:r<64)(ha:a<64)(h:r&&&a=r)(hl:(aB a).length≤(aB r).length):r=a:=by have:=d6.mp (d6.mp Gs r (a9.mpr hr)) a (a9.mpr ha);rw[h,decide_eq_false (mr.mpr hl)]at this;simpa using this
theorem J6(a:Nat): ∀(l:List Nat) (m:Nat),fS m l&&&a=fS (m&&&a) (l.filter λx=>a.testBit x):=by
 intro lz;induction lz with
 |nil=>intro _;exact rfl
 |cons x l ih=>
  intro m;show fS (m|||(1<<<x)) l&&&a=_;rewrite [ih];rw[acW];cases q:a.testBit x with
  |true=>
   rw[Pm (by simpa using q)];show fS _ _=fS (m&&&a|||(1<<<x)) _;congr 2;apply tv;intro k;rw[DD];rw[u3];rw[uj]
   by_cases z:x=k
   ·subst z;simp[q]
   ·simp[z]
  |false=>
   rw[abd (by simp[q])];congr 1;have:(1<<<x)&&&a=0:=by
    apply tv;intro k;rw[DD];rw[u3];rw[uj]
    by_cases z:x=k
    ·subst z;simp[q]
    ·simp[z]
   rw[this];rw[Nat.or_zero];rfl
theorem Gu: ∀(l:List Nat),(∀x∈l,a.testBit x=true)->fS a l=a:=by
 intro lz;induction lz with
 |nil=>intro _;exact rfl
 |cons x l ih=>
  intro h;have:a|||(1<<<x)=a:=by
   apply tv;intro k;rw[acL];rw[u3];rw[uj]
   by_cases z:x=k
   ·subst z;simp[h x (.head _)]
   ·simp[z]
  show fS (a|||(1<<<x)) l=a;rw[this];exact ih λy hy=>h y (.tail _ hy)
theorem rF(g:s.heap.get? a=some o)(N:cz o led n)(hi:i<6)(h: ∀r:Option Nat,r.isSome=n.testBit i->Q r s):
  dE (dC prog w) A (agP a (.int (i:Int) t) (i:Int)) Q E s:=by
 have:=wpAny_setFind_of (E:=E) (A:=A) (Q:=Q) (aaX prog w (i:Int) t) rfl (cz.setOf g N) λr hr=>h r (by rw[hr];simp;lia);rw[show(t4 prog w).hash (i:Int)=(i:Int)from eN hi]at this;exact this
theorem iF(g:s.heap.get? a=some o)(N:cz o led n)(h:Q (aB n).length s):dE (dC prog w) A (aaZ a) Q E s:=by obtain⟨mv,m,d,ep,tk,rfl,hn,hd,h0,hm⟩:=N;unfold aaZ;refine ab (aaP g rfl (dO tk hm hn hd h0) (ax ?_));rw[bG];exact h
theorem iW:ago table "frozenset.intersection.loop" =some Builtin.«frozenset.intersection.loop»:=agc rfl
theorem dY:plainId "frozenset.intersection.loop" =true:=by decide+kernel
theorem AL{vals:List Nat}(W:Walks prog w A.in1 I fp wr n P St)(S a:dq)(Qy:S∉fp)(W6:a∉S::wr)(hv:Gives P vals)(hl:vals.length=n)(iE: ∀x∈vals,x<6)(Na:cz oa la ma):
  ∀(k i m:Nat) (s:a8) (o:Obj),n-i=k->i≤n->St i s.heap->s.heap.get? a=some oa->s.heap.get? S=some o->cL led m o->m&&&ma=m->
   (∀h' tk o',(∀b o,b∉S::wr->s.heap.get? b=some o->h'.get? b=some o)->h'.get? S=some o' ->cL led (fS m ((vals.drop i).filter λx=>ma.testBit x)) o' ->R (.ok (.ret .none)) {s with heap:=h',toks:=tk})->
   tJ (dC prog w) A (.builtin "frozenset.intersection.loop" ⟨[.ref a,.ref I,.ref S],[]⟩) R s:=by
 have Pd:S∉wr:=λh=>Qy (W.sub _ h);have Pe:ma<64:=by obtain⟨_,_,_,_,_,_,h,_⟩:=Na;exact h
 intro k;induction k with
 |zero=>intro i m s o hk hi uK ga g N Ux hR;have Qz:i=n:=sx hi (abH hk);subst Qz;refine iq iW ?_;rw[eP dY _];refine ab (W.done s _ _ uK λh' tk hm=>ax (hR h' tk o (λb o hb e=>hm b o (λq=>hb (.tail _ q)) e) (hm S o Pd g) ?_));rw[adG (km hl)];exact N
 |succ k ih=>
  intro i m s o hk hi uK ga g N Ux hR;have cy:i<n:=acV (hk▸zt k);have SH:n-(i+1)=k:=by rw[ahb];rw[hk];rfl
  refine iq iW ?_;rw[eP dY _];refine ab (W.item i s _ _ cy uK λv h1 Np hP J4 Cw=>?_);obtain⟨x,t,hx,rfl⟩:=hv i v hP;have QA:=iE x (d3 hx);have e:vals.drop i=x::vals.drop (i+1):=by obtain⟨Pa,e'⟩:=ed.mp hx;rw[mi Pa];rw[e'];rfl
  have Pf:=Cw a oa (λq=>W6 (.tail _ q)) ga;refine ab (eJ ((t4 prog w).pyHash (k:=(x:Int)) (aaX _ _ _ _) ?_));rw[show(t4 prog w).hash (x:Int)=(x:Int)from eN QA];refine ab (eJ (rF (s:={s with heap:=h1,toks:=Np+1}) Pf Na QA λr hr=>?_));rw[hr];cases hb:ma.testBit x with
  |false=>refine ax ⟨lj dY _,ih (i+1) m _ o SH cy J4 Pf (Cw S o Pd g) N Ux λh3 ES o3 QB g3 N3=>hR h3 ES o3 (λb o hb e=>QB b o hb (Cw b o (λq=>hb (.tail _ q)) e)) g3 ?_⟩;rw[e];rw[abd (by simp[hb])];exact N3
  |true=>
   refine ab (eJ (mR (s:={s with heap:=h1,toks:=Np+1}) (Cw S o Pd g) N QA λb h2 o2 uL g2 N2=>?_));have W7:h2.get? a=some oa:=(uL.2 a (λq=>W6 (q▸ .head _))).trans Pf;have QC:(m|||(1<<<x))&&&ma=m|||(1<<<x):=by
    rw[acW];rw[Ux];congr 1;apply tv;intro k;rw[DD];rw[u3];rw[uj]
    by_cases z:x=k
    ·subst z;simp[hb]
    ·simp[z]
   have EP: ∀b o,b∉S::wr->s.heap.get? b=some o->h2.get? b=some o:=λb o hb e=>(uL.2 b (λq=>hb (q▸ .head _))).trans (Cw b o (λq=>hb (.tail _ q)) e);refine ab (iF (s:={s with heap:=h2,toks:=Np+1}) g2 N2.rep (ab (iF (s:={s with heap:=h2,toks:=Np+1}) W7 Na ?_)));have Uy:m|||(1<<<x)<64:=by obtain⟨_,_,_,_,_,h,_⟩:=N2;exact h
   by_cases AM:(aB ma).length≤(aB (m|||(1<<<x))).length
   ·rw[if_pos AM];have Gq:=J5 Uy Pe QC AM;refine ab (Fn (ax (hR h2 (Np+1) o2 EP g2 ?_)));rw[e];rw[Pm (by simpa using hb)];show cL led (fS (m|||(1<<<x)) _) o2;rw[Gq]at N2⊢;rw[Gu _ λy hy=>by have:=(fI.mp hy).2;simpa using this];exact N2
   ·rw[if_neg AM];refine ax ⟨lj dY _,ih (i+1) _ _ o2 SH cy (W.frame _ h1 h2 J4 λb hb o e=>(uL.2 b (λq=>Qy (q▸hb))).trans e) W7 g2 N2 QC λh3 ES o3 QB g3 N3=>hR h3 ES o3 (λb o hb e=>QB b o hb (EP b o hb e)) g3 ?_⟩;rw[e];rw[Pm (by simpa using hb)];exact N3
end
theorem Gv:((ar 64).all λn=>(ar 6).all λi=>!n.testBit i||(match(aB n).findIdx? (· ==i)with|some j=>aaK (aB n).toArray j==(aB (n^^^(1<<<i))).toArray&&((aB n)[j]?==some i&&decide (n^^^(1<<<i)<64))|none=>false))=true:=tr
theorem J7(hn:n<64)(hi:i<6)(hb:n.testBit i=true): ∃j,A4 ((aB n).findIdx? (· ==i)=some j) (aaK (aB n).toArray j=(aB (n^^^(1<<<i))).toArray) ((aB n)[j]?=some i) (n^^^(1<<<i)<64):=by
 have:=d6.mp (d6.mp Gv n (a9.mpr hn)) i (a9.mpr hi);rw[hb,Pl,lh]at this;cases q:(aB n).findIdx? (· ==i)with
 |none=>rw[q]at this;cases this
 |some j=>rw[q]at this;simp only[dk,beq_iff_eq,decide_eq_true_eq]at this;exact⟨j,rfl,this.1,this.2.1,this.2.2⟩
theorem J8(prog:d5)(w:fA)(n i:Nat)(tk:Nat->Tok):(bE n tk).toList.findIdx? (λe=>(t4 prog w).is (i:Int) e.2)=(aB n).findIdx? (· ==i):=by
 simp only[bE];rw[List.findIdx?_map];congr 1;funext k;show sv (i:Int) (.int (k:Int) (tk k))=(k==i);simp only[sv]
 by_cases q:k=i
 ·subst q;simp
 ·rw[beq_eq_false_iff_ne.mpr q];rw[beq_eq_false_iff_ne.mpr (by lia)];rfl
theorem Gw(h:aaK (aB n).toArray j=(aB (n^^^(1<<<i))).toArray):aaK (bE n tk) j=bE (n^^^(1<<<i)) tk:=by
 have e: ∀m,bE m tk=(aB m).toArray.map λ(i:Nat)=>((i:Int),Value.int (i:Int) (tk i)):=λm=>by simp[bE]
 rw[e];rw[e];refine bS (h ..) ?_;simp[aaK]
section
variable{prog:d5}{w:fA}{A:ka}{E:a7->a8->Prop}{s:a8}
theorem qD {h:wq}{a:dq}{es Am:Array (Int×a7)}{ep:Nat}{t t' :aee}(g:h.get? a=some ⟨.type "set",none,.set es ep t,#[]⟩):(h.update a (aeh Am t')).get? a=some ⟨.type "set",none,.set Am (ep+1) t',#[]⟩:=by have:=pE (aeh Am t') g (by rw[agK Am t' rfl];rfl);rw[agK Am t' rfl]at this;exact this
theorem J9(g:s.heap.get? a=some (aL led mv m n d ep tk))(hm:m∈[7,15,31])(hn:n<64)(hd:d<64)(h0:d&&&n=0)(hi:i<6)(hj:(aB n).findIdx? (· ==i)=some j)
  (h:Q (some j) s):dE (dC prog w) A (agP a (.int (i:Int) t) (i:Int)) Q E s:=by
 have hf:=dO (led:=led) (mv:=mv) tk hm hn hd h0;have Nm:=mQ prog w n tk;have SI:(bE n tk).size<afh:=by rw[bG];have:=cH n;unfold afh;exact bj this (by decide)
 unfold agP setFindIn;refine ab (acT g rfl hf ?_);dsimp only;rw[byScan_of rfl SI Nm];refine ab (Fn ?_);have sc: ∀{Q:ScanMet->a8->Prop},Q (.found j) s->dE (dC prog w) A (setScan a (.int (i:Int) t) (i:Int) false (bE n tk)) Q E s:=λq=>by have:=agb (E:=E) (A:=A) (s:=s) (knd:=t4 prog w) (adding:=false) (aaX prog w (i:Int) t) g rfl hf Nm (by rewrite [J8,hj];dsimp only;rewrite [Mo];exact q);rw[show(t4 prog w).hash (i:Int)=(i:Int)from eN hi]at this;exact this
 exact ab (sc (ax h))
theorem AN(g:s.heap.get? a=some o)(N:cz o led n)(hi:i<6)(hb:n.testBit i=true)
  (h: ∀h' o',lL a s.heap h' ->h'.get? a=some o' ->cz o' led (n^^^(1<<<i))->Q .none {s with heap:=h',toks:=s.toks+1}):dE (dC prog w) A (call (.builtin "set.remove") [.ref a,.int (i:Int) t]) Q E s:=by
 refine nn λhN=>?_;obtain⟨mv,m,d,ep,tk,rfl,hn,hd,h0,hm⟩:=N;have hT:s.TypeIs (.ref a) "set" :=⟨_,g,rfl⟩;obtain⟨j,j1,j2,j3,j4⟩:=J7 hn hi hb;refine hN ?_;have Za:d.testBit i=false:=by
  cases q:d.testBit i with
  |false=>rfl
  |true=>
   have:(d&&&n).testBit i=true:=by rw[DD];rw[q];rw[hb];rfl
   rw[h0]at this;simp at this
 have hj5:j<(aB n).toArray.size:=by rw[eM];exact(ed.mp j3).1
 have Zb:(tabOf led mv m n d).drop j=tabOf led mv m (n^^^(1<<<i)) (d|||(1<<<i)):=by have p:=lq qC hm hd hi;rw[Za,lh,dk]at p;unfold SetTable.drop tabOf;dsimp only;rw[show(aB n).toArray[j]?=some i by simpa using j3];dsimp only;rw[j2];rw[eq_of_beq p.1];rfl
 have fq:d|||(1<<<i)<64:=Qx hd hi
 have DK:(d|||(1<<<i))&&&(n^^^(1<<<i))=0:=by
  apply tv;intro k;rw[DD];rw[acL];rw[agQ];rw[u3];rw[uj];rw[ui]
  by_cases q:i=k
  ·subst q;simp[hb]
  ·have:=congrArg (λz=>z.testBit k) h0;simp only[DD,ui]at this;simpa[q]using this
 have Gy:n^^^(1<<<i)<64:=j4;refine oe slot_set_remove hT entry_set_remove ?_ (args_set_remove_2 _ _);unfold Builtin.«set.remove»;refine ab (m:=ag6 "remove" _) (kA (a:=(a,.int (i:Int) t)) rfl ?_);dsimp only;unfold afY;refine ab (aaE ?_);unfold setDiscard;refine eJ (ab ((t4 prog w).pyHash (k:=(i:Int)) (aaX _ _ _ _) ?_));rw[show(t4 prog w).hash (i:Int)=(i:Int)from eN hi];unfold setDiscardHashed;refine ab (J9 (s:={s with toks:=s.toks+1}) g hm hn hd h0 hi j1 ?_);dsimp only;refine ab (bX (s:={s with toks:=s.toks+1}) g hm hn hd h0 ?_);dsimp only;rw[Gw j2];rw[Zb];refine ab (Kt (s:={s with toks:=s.toks+1}) g rfl ?_ (by rw[bG];rw[mB];have:=cH (n^^^(1<<<i));exact ae this (by decide)));refine ab (agB (ax ?_));show dE _ _ (ret tI) _ _ _;exact ax ⟨_,rfl,h _ _ (ik ..) (qD g) ⟨mv,m,d|||(1<<<i),ep+1,tk,rfl,Gy,fq,DK,hm⟩⟩
theorem tT(a:a7)
  (h:Q₁ (.ref s.heap.objs.size) {s with heap:=s.heap.push (aL (aq w) 0 7 0 0 0 λaa=>0)}):
  tJ (dC prog w) A (.call (.builtin "set.__new__") ⟨[.type "set",a],[]⟩) (wants Q₁ E) s:=by
 refine adU ?_;show dE _ A.in1 (do checkBuiltinCall "set.__new__" ⟨[.type "set",a],[]⟩;again (.builtin "set.__new__" ⟨[.type "set",a],[]⟩)) _ _ s;refine ab (kA (F.newCall_set_1 a) (ax ⟨lj agR _,iq F.entry_set_new ?_⟩));rw[eP agR _];unfold Builtin.«set.__new__»;refine ab (m:=acs "set" _) ?_;unfold acs;have qh:=ad2;obtain⟨hp,g,d,tk,os⟩:=s;dsimp only
 wp_walk
 refine Fm (ax ?_);dsimp only;exact ab (agH (ax (ax h)))
set_option maxHeartbeats 3200000 in
theorem lV(h:tJ M A c (wants Q E) s)(k: ∀v s',Q v s' ->R (.ok (.ret v)) s')(ke: ∀e s',E e s' ->R (.error e) s'):tJ M A c R s:=afX h λr s' z=>by
 cases r with
 |error e=>exact ke e s' z
 |ok f=>cases f with
  |ret v=>exact k v s' z
  |_=>exact z.elim
theorem DL(hS:s.heap.get? S=some (aL (aq w) 0 7 0 0 0 λaa=>0))(h:dE (dC prog w) A (vl "set.__init__" S x) (λaa s2=>W (.done (.ret tI)) s2) E s):dE (dC prog w) A (Builtin.«set.__init__» ⟨[.ref S,x],[]⟩) W E s:=by
 have hT:s.TypeIs (.ref S) "set" :=⟨_,hS,rfl⟩;have hu: ∀{Q' :Bool->a8->Prop} {E' :a7->a8->Prop},Q' false s->dE (dC prog w) A (setUsed S) Q' E' s:=λq=>by unfold setUsed;exact ab (bX hS (by decide) (by decide) (by decide) (by decide) (ax q))
 unfold Builtin.«set.__init__»;generalize hU:vl=U at h⊢;generalize hSU:setUsed=SU at hu⊢;unfold noKeywords
 wp_walk
 refine hu ?_;show dE _ _ (U "set.__init__" S x>>=λaa=>ret tI) _ _ _;exact ab (wpS h (λaa s2 q=>ax q))
theorem uM(h:dE (dC prog w) A.in1.in1 (vl "set.__init__" s.heap.objs.size x) (λaa s2=>Q (.ref s.heap.objs.size) s2) E {s with heap:=s.heap.push (aL (aq w) 0 7 0 0 0 λaa=>0)}):
  dE (dC prog w) A (call (.type "set") [x]) Q E s:=by
 obtain⟨c,tl,Zc⟩:=aad.mro;have W8:=aad.made;have qh:=aad.sub;refine abt (adU ?_);show dE _ _ (callAny (.type "set") _) _ _ _;refine ax ⟨Code.quiet_builtin _ (by decide+kernel),iq F.entry_type_call ?_⟩;rw[Around.under_plain (weight_type_call_type "set" [x] []) rfl];have h1:=aad.notType;have h2:=aad.canCreate;have Jw:=F.typeCall_set_1 x
 repeat(any_goals (first|assumption|wp_step))
 refine lV (tT x (E:=E) (Q₁:=λobj s₁=>obj= .ref s.heap.objs.size/\s₁={s with heap:=s.heap.push (aL (aq w) 0 7 0 0 0 λaa=>0)}) ⟨rfl,rfl⟩) (λr s₁ hr=>?_) λaa aa z=>z;have hS:(s.heap.push (aL (aq w) 0 7 0 0 0 λaa=>0)).get? s.heap.objs.size=some (aL (aq w) 0 7 0 0 0 λaa=>0):=bc _ rfl;have hT:ab1 {s with heap:=s.heap.push (aL (aq w) 0 7 0 0 0 λaa=>0)} (.ref s.heap.objs.size) "set" :=⟨_,hS,rfl⟩;have hli:=aad.init.lookup;have Jx:=aad.init.bind (.ref s.heap.objs.size);have QD:=codeAny_call_builtin (A:=A.in1) (R:=wants (λr s₂=>r= .none/\Q (.ref s.heap.objs.size) s₂) E) aad.init.plain F.entry_set_init (check_set_init_1 hT (DL hS (wpS h (λaa s2 q=>⟨rfl,q⟩))));rw[hr.1];rw[hr.2]
 repeat(any_goals (first|assumption|wp_step))
 refine lV QD (λr₂ s₂ LP=>?_) λaa aa z=>z;rw[LP.1];have hq:=LP.2
 repeat(any_goals (first|assumption|wp_step))
end
section
variable{prog:d5}{w:fA}{A:ka}{E:a7->a8->Prop}{s:a8}
theorem qE (hT:s.TypeIs v T)(h1:isSubtype (.type T) (.type "set")=pure b)(h2:b=false->isSubtype (.type T) (.type "frozenset")=pure false)(h:Q b s):dE (dC prog w) A (acu v) Q E s:=by
 unfold acu;refine ab (m:=isInstance v (.type "set")) (ub hT h1 ?_);cases b with
 |true=>exact ax h
 |false=>exact ub hT (h2 rfl) h
theorem rG(hh:A.handled=none)(hl:s.heap.IsList l items)(hv:Gives (λi v=>items[i]?=some v) vals)(hn:vals.length=items.size)(iE: ∀x∈vals,x<6)
  (h: ∀h' tk o,(∀b o,s.heap.get? b=some o->h'.get? b=some o)->h'.get? s.heap.objs.size=some o->cL (aq w) (fS 0 vals) o->Q (.ref s.heap.objs.size) {s with heap:=h',toks:=tk}):dE (dC prog w) A (call (.type "set") [.ref l]) Q E s:=by
 refine uM (nn λhN=>?_);obtain⟨ol,Nq,zF,nl,SJ⟩:=hl;refine hN ?_;have Nr:l<s.heap.objs.size:=d4 Nq;have Gz:(s.heap.push (aL (aq w) 0 7 0 0 0 λaa=>0)).get? l=some ol:=aw _ Nq;have hT:ab1 {s with heap:=s.heap.push (aL (aq w) 0 7 0 0 0 λaa=>0)} (.ref l) "list" :=⟨_,Gz,zF⟩;have zG:(s.heap.push (aL (aq w) 0 7 0 0 0 λaa=>0)).IsList l items:=⟨_,Gz,zF,nl,SJ⟩;unfold vl;refine ab (qE hT ahc (λaa=>aep) (ab (afZ hT ?_)));rw[if_neg (by decide)];refine ab (xc zG (ab (aeE ?_)));have Uz:A.in1.in1.in1.handled=none:=hh;have UA:s.heap.objs.size≠(s.heap.push (aL (aq w) 0 7 0 0 0 λaa=>0)).objs.size:=by rw[ot];exact du (gN _)
 have Nt:l≠(s.heap.push (aL (aq w) 0 7 0 0 0 λaa=>0)).objs.size:=by rw[ot];exact du (fg Nr)
 refine xN (ahl Uz _ l Nt items) s.heap.objs.size ?_ hv hn iE (items.size-0) 0 0 _ _ rfl (kS _) ⟨⟨_,bc _ rfl,rfl,rfl⟩,zG.push _⟩ (aw _ (bc _ rfl)) ⟨0,7,0,_,rfl,by decide,by decide⟩ λh' tk o hk g N=>?_
 ·simp only[a5,ij,or_false,not_or];exact⟨UA,pz Nr⟩
 ·refine ax (h h' tk o (λb o e=>hk b o ?_ (aw _ (aw _ e))) g N);have hb:=d4 e;simp only[a5,ij,or_false,not_or];exact⟨du hb,by rw[ot];exact du (fg hb)⟩
end
theorem GA:(∀led mv,([7,15,31].all λm=>(ar 64).all λn=>(ar 6).all λi=>(i !=0)||(match adj m 0 mv led true (((aB n).map λ(i:Nat)=>(i:Int)).toArray)with
  |some (t',order)=>t'.mask==m&&(t'.place==(aB n).toArray&&(t'.dummies== #[]&&(t'.finger==0&&(t'.plain&&(t'.led==led&&order==aca (aB n).length)))))
  |none=>false))=true):=λled aa=>by cases led<;>kernel_rfl
theorem Ka(hm:m∈[7,15,31])(hn:n<64): ∃Jv,adj m 0 mv led true (((aB n).map λ(i:Nat)=>(i:Int)).toArray)=some (tabOf led Jv m n 0,aca (aB n).length):=by
 have r:=lq (GA led mv) hm hn (show 0<6 by decide);simp only[bne_self_eq_false,lh]at r;cases q:adj m 0 mv led true (((aB n).map λ(i:Nat)=>(i:Int)).toArray)with
 |none=>rw[q]at r;cases r
 |some x=>obtain⟨⟨a,b,c,d,e,f,g⟩,order⟩:=x;rw[q]at r;simp only[dk,beq_iff_eq]at r;obtain⟨Sz,rfl,rfl,rfl,rfl,rfl,rfl⟩:=r;rw[Sz];exact⟨f,rfl⟩
section
variable{prog:d5}{w:fA}{A:ka}{E:a7->a8->Prop}{s:a8}
theorem GB (g:s.heap.get? a=some (aL led 0 7 0 0 0 tk))
  (h: ∀h' mv m ep,m∈[7,15,31]->lL a s.heap h' ->h'.get? a=some (aL led mv m 0 0 ep tk)->Q () {s with heap:=h' }):dE (dC prog w) A (setRoomFor a (aB n).length) Q E s:=by
 unfold setRoomFor;refine ab (bX g (by decide) (by decide) (by decide) (by decide) ?_);have hlen:=cH n;generalize (aB n).length=k at hlen⊢;have small: ∀wanted,wanted=10∨wanted=12->dE (dC prog w) A (setRelay a wanted) Q E s:=λwanted hw=>by unfold setRelay;refine ab (bX g (by decide) (by decide) (by decide) (by decide) ?_);dsimp only;rw[if_neg (by rcases hw with rfl|rfl<;>(rw[mB];decide))];refine ab (kA (a:=(#[],(⟨15,#[],#[],0,led,1,true⟩:aee))) (by rcases hw with rfl|rfl<;>kernel_rfl) ?_);refine Kt g rfl (h _ 1 15 1 (by decide) (ik ..) (qD g))
 rcases k with _|_|_|_|_|_|_|k
 ·exact ax (h s.heap 0 7 0 (by decide) (u4 ..) g)
 ·exact ax (h s.heap 0 7 0 (by decide) (u4 ..) g)
 ·exact ax (h s.heap 0 7 0 (by decide) (u4 ..) g)
 ·exact ax (h s.heap 0 7 0 (by decide) (u4 ..) g)
 ·exact ax (h s.heap 0 7 0 (by decide) (u4 ..) g)
 ·exact small 10 (.inl rfl)
 ·exact small 12 (.inr rfl)
 ·lia
theorem uN(g0:s.heap.get? S=some (aL (aq w) 0 7 0 0 0 tk0))(ga:s.heap.get? a=some oa)(QE:S≠a)(N:cz oa (aq w) n)
  (h: ∀h' o,lL S s.heap h' ->h'.get? S=some o->cL (aq w) n o->Q () {s with heap:=h' }):dE (dC prog w) A (setMerge S a each) Q E s:=by
 obtain⟨mv,m,d,ep,tk,rfl,hn,hd,h0,hm⟩:=N;unfold setMerge;rw[if_neg (by refine eV (beq_iff_eq ..) ?_;exact QE)];refine ab (bX ga hm hn hd h0 ?_);dsimp only;cases he:(bE n tk).isEmpty with
 |true=>
  have hz:aB n=[]:=by
   have:(bE n tk).size=0:=by simpa using he
   rw[bG]at this;exact nr this
  have xO:n=0:=by have:=(show((ar 64).all λn=>!(aB n).isEmpty||n==0)=true by kernel_rfl);have:=d6.mp this n (a9.mpr hn);rw[hz]at this;simpa using this
  refine ax (h _ _ (u4 ..) g0 ?_);rw[xO];exact⟨0,7,0,_,rfl,by decide,by decide⟩
 |false=>
  rw[bG];refine ab (GB g0 λh1 Jy m1 SK Cw qi g1=>?_);have Pf:h1.get? a=some (aL (aq w) mv m n d ep tk):=(qi.2 a (Nw QE)).trans ga;refine ab (bX (s:={s with heap:=h1}) g1 Cw (by decide) (by decide) (by decide) ?_);have hz:(bE n tk).size≤agn:=by rw[bG];rw[mB];have:=cH n;exact ae this (by decide)
  dsimp only;have QF:((tabOf (aq w) Jy m1 0 0).fill !=0)=false:=by kernel_rfl
  unfold SetTable.road;rw[QF];cases hr:((tabOf (aq w) Jy m1 0 0).mask==(tabOf (aq w) mv m n d).mask&&(tabOf (aq w) mv m n d).dummies.isEmpty)with
  |true=>
   rw[dk]at hr;have O9:(aB d).toArray= #[]:=by simpa[tabOf]using hr.2
   refine Kt (s:={s with heap:=h1}) g1 rfl (h _ _ (qi.trans (ik ..)) (qD g1) ⟨Jy,m,SK+1,tk,?_,hn,hm⟩) hz;show(⟨.type "set",none,.set (bE n tk) (SK+1) ⟨m,(aB n).toArray,(aB d).toArray,0,aq w&&aq w,Jy,true&&true⟩,#[]⟩:Obj)=_;rw[O9];rw[ahv];rfl
  |false=>
   simp only[kz,↓reduceIte];obtain⟨Jv,el⟩:=Ka (led:=aq w&&aq w) (mv:=Jy) Cw hn;have eh:(bE n tk).map (·.1)=(((aB n).map λ(i:Nat)=>(i:Int)).toArray):=by simp[bE]
   have Zd:adj (tabOf (aq w) Jy m1 0 0).mask (tabOf (aq w) Jy m1 0 0).finger (tabOf (aq w) Jy m1 0 0).moves ((tabOf (aq w) Jy m1 0 0).led&&(tabOf (aq w) mv m n d).led) ((tabOf (aq w) Jy m1 0 0).plain&&(tabOf (aq w) mv m n d).plain) ((bE n tk).map (·.1))=some (tabOf (aq w&&aq w) Jv m1 n 0,aca (aB n).length):=by rw[eh];exact el
   rw[Zd];refine ab (kA (a:=(bE n tk,tabOf (aq w&&aq w) Jv m1 n 0)) ?_ ?_)
   ·show(if((aca (aB n).length).filterMap (λi=>(bE n tk)[i]?)).size !=(bE n tk).size then _ else _)=_;rw[xK];simp only[bne_self_eq_false,kz,↓reduceIte]
   ·dsimp only;refine Kt (s:={s with heap:=h1}) g1 rfl ?_ hz;exact h _ _ (qi.trans (ik ..)) (qD g1) ⟨Jv,m1,SK+1,tk,by rw[ahv];rfl,hn,Cw⟩
theorem AP(ga:s.heap.get? a=some oa)(N:cz oa (aq w) n)
  (h: ∀h' o,(∀b o,s.heap.get? b=some o->h'.get? b=some o)->h'.get? s.heap.objs.size=some o->cL (aq w) n o->Q (.ref s.heap.objs.size) {s with heap:=h' }):dE (dC prog w) A (call (.type "set") [.ref a]) Q E s:=by
 refine uM ?_;have Nr:a<s.heap.objs.size:=d4 ga;have ET:(s.heap.push (aL (aq w) 0 7 0 0 0 λaa=>0)).get? a=some oa:=aw _ ga;have N0:=N;refine nn λhN=>?_;obtain⟨mv,m,d,ep,tk,rfl,hn,hd,h0,hm⟩:=N;refine hN ?_;have hT:ab1 {s with heap:=s.heap.push (aL (aq w) 0 7 0 0 0 λaa=>0)} (.ref a) "set" :=⟨_,ET,rfl⟩;unfold vl;refine ab (qE hT ad2 (λq=>by cases q) (ab (kA (a:=a) rfl ?_)));unfold ahw agp;exact ab (ab (bX (s:={s with heap:=s.heap.push (aL (aq w) 0 7 0 0 0 λaa=>0)}) ET hm hn hd h0 (ax (uN (s:={s with heap:=s.heap.push (aL (aq w) 0 7 0 0 0 λaa=>0)}) (bc _ rfl) ET (pz Nr) N0 λh' o hs g Nn=>h h' o (λb o e=>(hs.2 b (du (d4 e))).trans (aw _ e)) g Nn))))
end
theorem fT: ∀(l:List Nat) (m k:Nat),(fS m l).testBit k=(m.testBit k||decide (k∈l)):=by
 intro lz;induction lz with
 |nil=>intro m k;simp[fS]
 |cons x l ih=>intro m k;show(fS (m|||(1<<<x)) l).testBit k=_;rewrite [ih];rw[acL];rw[u3];rw[uj];rw[Bool.or_assoc];congr 1;refine eV (y3 ..) ?_;simp only[X1,decide_eq_true_eq,a5];exact⟨λh=>h.imp adR id,λh=>h.imp adR id⟩
theorem jI:ago table "set.intersection" =some Builtin.«frozenset.intersection»:=aeB (id' :="frozenset.intersection") rfl rfl (by decide+kernel) rfl
section
variable{prog:d5}{w:fA}{A:ka}{E:a7->a8->Prop}{s:a8}
def Small (L:List (Int×a7)):Prop:= ∀e∈L,E2 λ(i:Nat) (t:Tok)=>i<6/\e=((i:Int),Value.int (i:Int) t)
theorem rH{S a b:dq}{oa ob:Obj}{na nb:Nat}{Nu:Nat}(QE:S≠a)(W9:S≠b)(Na:cz oa (aq w) na)(Ze:E4 λmv m d tk=>A5 (ob=aL (aq w) mv m nb d Nu tk) (nb<64) (d<64) (d&&&nb=0) (m∈[7,15,31])){id:String}:
  ∀(L:List (Int×a7)) (m:Nat) (s:a8) (o:Obj) {Q:PUnit->a8->Prop},Small L->s.heap.get? a=some oa->s.heap.get? b=some ob->s.heap.get? S=some o->cL (aq w) m o->
   (∀h' o',lL S s.heap h' ->h'.get? S=some o' ->cL (aq w) (fS m ((L.map λe=>e.1.toNat).filter λx=>na.testBit x)) o' ->Q ⟨⟩ {s with heap:=h' })->
   dE (dC prog w) A (forIn L aaY λe aa=>do
    let _<-NA [e.2] (do
     if(<-agP a e.2 e.1).isSome then
      let _<-acC S e.2 e.1)
    vT id b Nu
    pure (sk aaY)) Q E s
 | [],m,s,o,Q,_,ga,gb,g,N,h=>by rw[aaA];exact ax (h s.heap o (u4 ..) g N)
 |e::L,m,s,o,Q,hL,ga,gb,g,N,h=>by
  obtain⟨i,t,hi,rfl⟩:=hL e (.head _);rw[Kj];have rest: ∀(K:ForInStep PUnit->Sem PUnit),K (.yield ⟨⟩)=(forIn L aaY λe aa=>do
    let _<-NA [e.2] (do
     if(<-agP a e.2 e.1).isSome then
      let _<-acC S e.2 e.1)
    vT id b Nu
    pure (sk aaY))-> ∀h1 o1,lL S s.heap h1->h1.get? S=some o1->cL (aq w) (fS m ([i].filter λx=>na.testBit x)) o1->dE (dC prog w) A (do
    vT id b Nu
    pure (sk aaY)) (λr s' =>dE (dC prog w) A (K r) Q E s') E {s with heap:=h1}:=λK hK h1 o1 qi g1 N1=>by
   have Xa:h1.get? b=some ob:=(qi.2 b (Nw W9)).trans gb;have Pf:h1.get? a=some oa:=(qi.2 a (Nw QE)).trans ga;obtain⟨mv,mm,d,tk,rfl,hn,hd,h0,hm⟩:=Ze;refine ab ?_;unfold vT agp;refine ab (ab (bX (s:={s with heap:=h1}) Xa hm hn hd h0 (ax ?_)));simp only[bne_self_eq_false,kz,↓reduceIte];refine ax (ax ?_);rw[hK];refine rH QE W9 Na ⟨mv,mm,d,tk,rfl,hn,hd,h0,hm⟩ L _ {s with heap:=h1} o1 (λe he=>hL e (.tail _ he)) Pf Xa g1 N1 λh2 o2 uL g2 N2=>h h2 o2 (qi.trans uL) g2 ?_;have:fS (fS m ([i].filter λx=>na.testBit x)) ((L.map λe=>e.1.toNat).filter λx=>na.testBit x)=fS m ((((((i:Int),Value.int (i:Int) t)::L).map λe=>e.1.toNat)).filter λx=>na.testBit x):=by rw[eA];rw[sa];show _=fS m ((([i]++L.map λe=>e.1.toNat)).filter λx=>na.testBit x);rw[Hm];unfold fS;rw[abx];rfl
   exact bS (this ..) N2
  refine ab (ab (eJ (ab (rF ga Na hi λr hr=>?_))));rw[hr];cases hb:na.testBit i with
  |false=>exact ax (rest _ rfl s.heap o (u4 ..) g (by rw[abd (by simp[hb])];exact N))
  |true=>refine ab (mR g N hi λb' h1 o1 qi g1 N1=>ax (rest _ rfl h1 o1 qi g1 ?_));rw[Pm (by simpa using hb)];exact N1
theorem rI(g:s.heap.get? a=some o)(hc:o.cls= .type "set")(h:Q (.type "set") s):dE (dC prog w) A (acX a) Q E s:=by unfold acX;exact ab (ub (T:="set") ⟨o,g,hc⟩ ad2 (ax h))
theorem iG(N:cz o led n):o.cls= .type "set" :=by obtain⟨_,_,_,_,_,rfl,_⟩:=N;rfl
theorem we(hh:A.handled=none)(ga:s.heap.get? a=some oa)(Na:cz oa (aq w) na)(hl:s.heap.IsList l items)(hv:Gives (λi v=>items[i]?=some v) vals)(hn:vals.length=items.size)(iE: ∀x∈vals,x<6)
  (h: ∀h' tk o,(∀b o,s.heap.get? b=some o->h'.get? b=some o)->h'.get? s.heap.objs.size=some o->cL (aq w) (fS 0 vals&&&na) o->Q (.ref s.heap.objs.size) {s with heap:=h',toks:=tk}):dE (dC prog w) A (call (.builtin "set.intersection") [.ref a,.ref l]) Q E s:=by
 have hT:s.TypeIs (.ref a) "set" :=⟨_,ga,iG Na⟩;obtain⟨ol,Nq,zF,nl,SJ⟩:=hl;have Pg:a<s.heap.objs.size:=d4 ga;have Nr:l<s.heap.objs.size:=d4 Nq;have Zf:l≠a:=λq=>by subst q;rw[ga]at Nq;cases Nq;rw[iG Na]at zF;simp at zF
 refine oe slot_set_intersection hT jI ?_ (args_set_intersection_2 _ _);unfold Builtin.«frozenset.intersection»;refine ab (m:=ab2 "intersection" _) (kA (a:=(a,[.ref l])) rfl ?_);simp only[afK,kz,↓reduceIte,Kj,aaA];refine ab (ab (ab (eJ (ab (kA (a:=a) rfl ?_)))));unfold abI;rw[if_neg (by simpa using Zf)];refine ab (rI ga (iG Na) (ab (v9 (ab (kA (a:=s.heap.objs.size) rfl (ab (eJ ?_)))))));have ET:(s.heap.push (aL (aq w) 0 7 0 0 0 λaa=>0)).get? a=some oa:=aw _ ga;have Gz:(s.heap.push (aL (aq w) 0 7 0 0 0 λaa=>0)).get? l=some ol:=aw _ Nq;have UB:ab1 {s with heap:=s.heap.push (aL (aq w) 0 7 0 0 0 λaa=>0)} (.ref l) "list" :=⟨_,Gz,zF⟩;have zG:(s.heap.push (aL (aq w) 0 7 0 0 0 λaa=>0)).IsList l items:=⟨_,Gz,zF,nl,SJ⟩;refine ab (qE UB ahc (λaa=>aep) (ab (xc zG (ab (aeE ?_)))));have UA:s.heap.objs.size≠(s.heap.push (aL (aq w) 0 7 0 0 0 λaa=>0)).objs.size:=by rw[ot];exact du (gN _)
 have Nt:l≠(s.heap.push (aL (aq w) 0 7 0 0 0 λaa=>0)).objs.size:=by rw[ot];exact du (fg Nr)
 have Zg:a≠(s.heap.push (aL (aq w) 0 7 0 0 0 λaa=>0)).objs.size:=by rw[ot];exact du (fg Pg)
 have Uz:A.in1.in1.handled=none:=hh;refine AL (ahl Uz _ l Nt items) s.heap.objs.size a ?_ ?_ hv hn iE Na (items.size-0) 0 0 _ _ rfl (kS _) ⟨⟨_,bc _ rfl,rfl,rfl⟩,zG.push _⟩ (aw _ ET) (aw _ (bc _ rfl)) ⟨0,7,0,_,rfl,by decide,by decide⟩ (by simp) λh' tk o hk g N=>?_
 ·simp only[a5,ij,or_false,not_or];exact⟨UA,pz Nr⟩
 ·simp only[a5,ij,or_false,not_or];exact⟨du Pg,Zg⟩
 ·refine ax (ax (ax (ax (ax ⟨_,rfl,h h' tk o (λb o e=>hk b o ?_ (aw _ (aw _ e))) g ?_⟩))))
  ·have hb:=d4 e;simp only[a5,ij,or_false,not_or];exact⟨du hb,by rw[ot];exact du (fg hb)⟩
  ·rw[J6];rw[Nat.zero_and];exact N
end
section
variable{prog:d5}{w:fA}{A:ka}{E:a7->a8->Prop}{s:a8}
theorem o7 (w:fA)(a:dq)(ep n:Nat)(tk:Nat->Tok):Small (fc w a ep n tk).toList:=λe he=>by obtain⟨i,h1,_,h3⟩:=fY.mp ((nJ w a ep n tk).mem_iff.mp he);exact⟨i,tk i,h1,h3⟩
theorem Kc(hn:n<64):fS 0 (((fc w a ep n tk).toList.map λe=>e.1.toNat).filter λx=>na.testBit x)=n&&&na:=by
 apply tv;intro k;rw[fT];rw[ui];rw[lh];rw[DD];refine eV (y3 ..) ?_;simp only[decide_eq_true_eq,dk,fI,bb];constructor
 ·rintro⟨⟨e,he,rfl⟩,h2⟩;obtain⟨i,h1,h3,rfl⟩:=fY.mp ((nJ w a ep n tk).mem_iff.mp he);rw[sa]at h2⊢;exact⟨h3,h2⟩
 ·rintro⟨h1,h2⟩;have hk:k<6:=by
   rcases He k 6 with q|q
   ·exact q
   ·have:n.testBit k=false:=Nat.testBit_lt_two_pow (a0 hn (by show 2^6≤_;exact aeq (by decide) q));rw[this]at h1;cases h1
  exact⟨⟨((k:Int),.int (k:Int) (tk k)),(nJ w a ep n tk).mem_iff.mpr (fY.mpr ⟨k,hk,h1,rfl⟩),sa k⟩,h2⟩
theorem rJ(g:s.heap.get? a=some (aL (aq w) mv m n d ep tk))(hm:m∈[7,15,31])(hn:n<64)(hd:d<64)(h0:d&&&n=0)
  (h:Q (fc w a ep n tk) s):dE (dC prog w) A (setWalkUnseen a others filled) Q E s:=by
 unfold setWalkUnseen;refine ab (bX g hm hn hd h0 (ab (jr ?_)));have hc:(fJ w||(tabOf (aq w) mv m n d).led&&(tabOf (aq w) mv m n d).plain||decide ((bE n tk).size≤1))=true:=by show(fJ w||(!fJ w)&&true||_)=true;cases fJ w<;>rfl
 rw[hc];exact xM g hm hn hd h0 h
theorem wg(ga:s.heap.get? a=some oa)(Na:cz oa (aq w) na)(gb:s.heap.get? b=some ob)(Nb:cz ob (aq w) nb)
  (h: ∀h' o,(∀b o,s.heap.get? b=some o->h'.get? b=some o)->h'.get? s.heap.objs.size=some o->cL (aq w) (nb&&&na) o->Q (.ref s.heap.objs.size) {s with heap:=h' }):dE (dC prog w) A (call (.builtin "set.intersection") [.ref a,.ref b]) Q E s:=by
 have hT:s.TypeIs (.ref a) "set" :=⟨_,ga,iG Na⟩;have Pg:a<s.heap.objs.size:=d4 ga;have Xb:b<s.heap.objs.size:=d4 gb;have ET:(s.heap.push (aL (aq w) 0 7 0 0 0 λaa=>0)).get? a=some oa:=aw _ ga;have Ph:(s.heap.push (aL (aq w) 0 7 0 0 0 λaa=>0)).get? b=some ob:=aw _ gb;have kp: ∀h',lL s.heap.objs.size (s.heap.push (aL (aq w) 0 7 0 0 0 λaa=>0)) h' -> ∀b o,s.heap.get? b=some o->h'.get? b=some o:=λh' hs b o e=>(hs.2 b (du (d4 e))).trans (aw _ e);refine oe slot_set_intersection hT jI ?_ (args_set_intersection_2 _ _);unfold Builtin.«frozenset.intersection»;refine ab (m:=ab2 "intersection" _) (kA (a:=(a,[.ref b])) rfl ?_);simp only[afK,kz,↓reduceIte,Kj,aaA];refine ab (ab (ab (eJ (ab (kA (a:=a) rfl ?_)))));have fin: ∀h' o,lL s.heap.objs.size (s.heap.push (aL (aq w) 0 7 0 0 0 λaa=>0)) h' ->h'.get? s.heap.objs.size=some o->cL (aq w) (nb&&&na) o->Q (.ref s.heap.objs.size) {s with heap:=h' }:=λh' o hs g N=>h h' o (kp h' hs) g N;unfold abI
 by_cases Jz:b=a
 ·subst Jz;have Zh:oa=ob:=by rw[ga]at gb;cases gb;rfl
  subst Zh;rw[if_pos (by simp)];unfold ahn;refine ab (rI ga (iG Na) (ab (v9 (ab (kA (a:=s.heap.objs.size) rfl (ab (uN (s:={s with heap:=s.heap.push (aL (aq w) 0 7 0 0 0 λaa=>0)}) (bc _ rfl) ET (pz Pg) Na λh' o hs g N=>?_)))))));have Nv:nb&&&na=na:=by
   have:nb=na:=by
    obtain⟨_,_,_,_,_,e1,r1,_⟩:=Na;obtain⟨_,_,_,_,_,e2,r2,_⟩:=Nb;have e:=e1.symm.trans e2;unfold aL tabOf at e;injection e with _ _ e _;injection e with _ _ e;injection e with _ e _ _ _ _ _;have e:aB na=aB nb:=by simpa using e
    have:=(show((ar 64).all λa=>(ar 64).all λb=>!(aB a==aB b)||a==b)=true by kernel_rfl);have:=d6.mp (d6.mp this na (a9.mpr r1)) nb (a9.mpr r2);rw[e,beq_self_eq_true,Pl,lh]at this;exact(eq_of_beq this).symm
   rw[this];rw[Nat.and_self];rfl
  exact ax (ax (ax (ax ⟨_,rfl,fin h' o hs g (by rw[Nv];exact N)⟩)))
 ·rw[if_neg (by simpa using Jz)];refine ab (rI ga (iG Na) (ab (v9 (ab (kA (a:=s.heap.objs.size) rfl (ab (eJ ?_)))))));have UB:ab1 {s with heap:=s.heap.push (aL (aq w) 0 7 0 0 0 λaa=>0)} (.ref b) "set" :=⟨_,Ph,iG Nb⟩;refine ab (qE UB ad2 (λq=>by cases q) (ab (kA (a:=b) rfl (ab (iF (s:={s with heap:=s.heap.push (aL (aq w) 0 7 0 0 0 λaa=>0)}) Ph Nb (ab (iF (s:={s with heap:=s.heap.push (aL (aq w) 0 7 0 0 0 λaa=>0)}) ET Na ?_)))))));have go: ∀(x y:dq) (ox oy:Obj) (nx ny mv m d ep:Nat) (tk:Nat->Tok),x<s.heap.objs.size->y<s.heap.objs.size->(s.heap.push (aL (aq w) 0 7 0 0 0 λaa=>0)).get? x=some ox->(s.heap.push (aL (aq w) 0 7 0 0 0 λaa=>0)).get? y=some oy->cz ox (aq w) nx->oy=aL (aq w) mv m ny d ep tk->ny<64->d<64->d&&&ny=0->m∈[7,15,31]->ny&&&nx=nb&&&na->
    ∀{Q' :PUnit->a8->Prop},(∀h' o,lL s.heap.objs.size (s.heap.push (aL (aq w) 0 7 0 0 0 λaa=>0)) h' ->h'.get? s.heap.objs.size=some o->cL (aq w) (nb&&&na) o->Q' ⟨⟩ {s with heap:=h' })->
    dE (dC prog w) A.in1 (forIn (fc w y ep ny tk) aaY λe aa=>do
      let _<-NA [e.2] (do
       if(<-agP x e.2 e.1).isSome then
        let _<-acC s.heap.objs.size e.2 e.1)
      vT "frozenset.intersection" y ep
      pure (sk aaY)) Q' E {s with heap:=s.heap.push (aL (aq w) 0 7 0 0 0 λaa=>0)}:=λx y ox oy nx ny mv m d ep tk Zi Zj gx gy Nx ey hn hd h0 hm Nv Q' SM=>by
   refine bS (afk ..) (rH (pz Zi) (pz Zj) Nx ⟨mv,m,d,tk,ey,hn,hd,h0,hm⟩ _ 0 {s with heap:=s.heap.push (aL (aq w) 0 7 0 0 0 λaa=>0)} _ (o7 w y ep ny tk) gx gy (bc _ rfl) ⟨0,7,0,_,rfl,by decide,by decide⟩ λh' o hs g N=>?_);rw[Kc hn,Nv]at N;exact SM h' o hs g N
  refine nn λhN=>?_;obtain⟨Xc,ma,da,Xd,Xe,ea,SN,SO,SP,Pe⟩:=Na;obtain⟨Xg,mb,db,Nu,Xh,eb,Gy,Kd,SQ,SR⟩:=Nb;refine hN ?_
  by_cases tP:(aB nb).length>(aB na).length
  ·rw[if_pos tP];dsimp only;unfold agp;exact ab (ab (bX (s:={s with heap:=s.heap.push (aL (aq w) 0 7 0 0 0 λaa=>0)}) (ea▸ET) Pe SN SO SP (ax (ab (rJ (s:={s with heap:=s.heap.push (aL (aq w) 0 7 0 0 0 λaa=>0)}) (ea▸ET) Pe SN SO SP (ab (go b a ob oa nb na Xc ma da Xd Xe Xb Pg Ph ET ⟨Xg,mb,db,Nu,Xh,eb,Gy,Kd,SQ,SR⟩ ea SN SO SP Pe (Nat.and_comm _ _) λh' o hs g N=>ax (ax (ax (ax (ax ⟨_,rfl,fin h' o hs g N⟩)))))))))))
  ·rw[if_neg tP];dsimp only;unfold agp;exact ab (ab (bX (s:={s with heap:=s.heap.push (aL (aq w) 0 7 0 0 0 λaa=>0)}) (eb▸Ph) SR Gy Kd SQ (ax (ab (rJ (s:={s with heap:=s.heap.push (aL (aq w) 0 7 0 0 0 λaa=>0)}) (eb▸Ph) SR Gy Kd SQ (ab (go a b oa ob na nb Xg mb db Nu Xh Pg Xb ET Ph ⟨Xc,ma,da,Xd,Xe,ea,SN,SO,SP,Pe⟩ eb Gy Kd SQ SR rfl λh' o hs g N=>ax (ax (ax (ax (ax ⟨_,rfl,fin h' o hs g N⟩)))))))))))
end
noncomputable def bodyOf(fd:Jn):List aa4:=match fd.body with| .stmts b=>b|_=> []
theorem iM{K:abE}{f:dq}{fd:Jn}(h: ∀L,(K.lookup f,codeIn K fd.code fd.qualname,fd.body,fd.globals,fd.scope.kind,fd.scope.isCoroutine,fd.scope.isGenerator,fd.closure,rk (sg fd L f))=(some ⟨.type "function",none,.func fd,#[]⟩,true,.stmts (bodyOf fd),abq,.function,false,false,[],false)):bx K f fd (bodyOf fd) where
 at_:=⟨_,_,_,congrArg (·.1) (h 0)⟩
 code:=congrArg (·.2.1) (h 0)
 body:=congrArg (·.2.2.1) (h 0)
 glob:=congrArg (·.2.2.2.1) (h 0)
 kind:=congrArg (·.2.2.2.2.1) (h 0)
 co:=congrArg (·.2.2.2.2.2.1) (h 0)
 gen:=congrArg (·.2.2.2.2.2.2.1) (h 0)
 PK:=congrArg (·.2.2.2.2.2.2.2.1) (h 0)
 inter L:=congrArg (·.2.2.2.2.2.2.2.2) (h L)
theorem SS(P:mA):bx (KK P) 30 pM (bodyOf pM):=iM λaa=>by kernel_rfl
theorem Zk(P:mA):bx (KK P) 37 BZ (bodyOf BZ):=iM λaa=>by kernel_rfl
theorem Zl(P:mA):bx (KK P) 45 B0 (bodyOf B0):=iM λaa=>by kernel_rfl
theorem Zm(P:mA):bx (KK P) 60 iQ (bodyOf iQ):=iM λaa=>by kernel_rfl
theorem QG(P:mA):bx (KK P) 102 zK (bodyOf zK):=iM λaa=>by kernel_rfl
theorem UC(P:mA):bx (KK P) 130 zL (bodyOf zL):=iM λaa=>by kernel_rfl
theorem UD(P:mA):bx (KK P) 158 zM (bodyOf zM):=iM λaa=>by kernel_rfl
theorem UE(P:mA):bx (KK P) 165 zN (bodyOf zN):=iM λaa=>by kernel_rfl
theorem UG(P:mA):bx (KK P) 179 zO (bodyOf zO):=iM λaa=>by kernel_rfl
theorem UH(P:mA):bx (KK P) 200 zP (bodyOf zP):=iM λaa=>by kernel_rfl
theorem UI(P:mA):bx (KK P) 237 qR (bodyOf qR):=iM λaa=>by kernel_rfl
theorem QH(P:mA):bx (KK P) 244 zQ (bodyOf zQ):=iM λaa=>by kernel_rfl
theorem QI(P:mA):bx (KK P) 259 zR (bodyOf zR):=iM λaa=>by kernel_rfl
theorem UJ(P:mA):bx (KK P) 280 zS (bodyOf zS):=iM λaa=>by kernel_rfl
theorem UK(P:mA):bx (KK P) 294 zT (bodyOf zT):=iM λaa=>by kernel_rfl
theorem UL(P:mA):bx (KK P) 322 zU (bodyOf zU):=iM λaa=>by kernel_rfl
theorem UM(P:mA):bx (KK P) 329 zV (bodyOf zV):=iM λaa=>by kernel_rfl
theorem UN(P:mA):bx (KK P) 346 eH (bodyOf eH):=iM λaa=>by kernel_rfl
theorem UO(P:mA):bx (KK P) 353 zW (bodyOf zW):=iM λaa=>by kernel_rfl
theorem UP(P:mA):bx (KK P) 361 zX (bodyOf zX):=iM λaa=>by kernel_rfl
theorem UQ(P:mA):bx (KK P) 443 zY (bodyOf zY):=iM λaa=>by kernel_rfl
theorem UR(P:mA):bx (KK P) 448 zZ (bodyOf zZ):=iM λaa=>by kernel_rfl
theorem US(P:mA):bx (KK P) 463 z0 (bodyOf z0):=iM λaa=>by kernel_rfl
theorem UT(P:mA):bx (KK P) 471 z6 (bodyOf z6):=iM λaa=>by kernel_rfl
theorem UU(P:mA):bx (KK P) 479 z7 (bodyOf z7):=iM λaa=>by kernel_rfl
theorem UW(P:mA):bx (KK P) 484 jV (bodyOf jV):=iM λaa=>by kernel_rfl
theorem UX(P:mA):bx (KK P) 497 z8 (bodyOf z8):=iM λaa=>by kernel_rfl
theorem UY(P:mA):bx (KK P) 505 z9 (bodyOf z9):=iM λaa=>by kernel_rfl
theorem UZ(P:mA):bx (KK P) 511 bq (bodyOf bq):=iM λaa=>by kernel_rfl
theorem U0(P:mA):bx (KK P) 524 Aa (bodyOf Aa):=iM λaa=>by kernel_rfl
theorem U1(P:mA):bx (KK P) 545 Ab (bodyOf Ab):=iM λaa=>by kernel_rfl
theorem U3(P:mA):bx (KK P) 552 qS (bodyOf qS):=iM λaa=>by kernel_rfl
theorem U4(P:mA):bx (KK P) 564 bO (bodyOf bO):=iM λaa=>by kernel_rfl
theorem U5(P:mA):bx (KK P) 590 jW (bodyOf jW):=iM λaa=>by kernel_rfl
theorem U6(P:mA):bx (KK P) 597 Ac (bodyOf Ac):=iM λaa=>by kernel_rfl
theorem U7(P:mA):bx (KK P) 612 Ad (bodyOf Ad):=iM λaa=>by kernel_rfl
theorem U8(P:mA):bx (KK P) 619 Ae (bodyOf Ae):=iM λaa=>by kernel_rfl
theorem U9(P:mA):bx (KK P) 626 Af (bodyOf Af):=iM λaa=>by kernel_rfl
theorem Va(P:mA):bx (KK P) 718 jX (bodyOf jX):=iM λaa=>by kernel_rfl
theorem Vb(P:mA):bx (KK P) 745 mz (bodyOf mz):=iM λaa=>by kernel_rfl
theorem Vc(P:mA):bx (KK P) 750 qT (bodyOf qT):=iM λaa=>by kernel_rfl
theorem Vd(P:mA):bx (KK P) 755 jf (bodyOf jf):=iM λaa=>by kernel_rfl
theorem Ve(P:mA):bx (KK P) 760 bP (bodyOf bP):=iM λaa=>by kernel_rfl
theorem Ny(P:mA):iB (KK P) 189 60 iQ (bodyOf iQ) where
 makes:=tr
 init:=rfl
 fn:=rfl
 def_:=Zm P
noncomputable abbrev FR(q:Rat):FV:= .inst 189 [("denominator",.int q.den),("numerator",.int q.num)]
theorem cB{P:Prop}(h:P):P:=h
theorem bB{P:Prop}(h:P):P:=h
theorem Nz(hl:0<l):(Sr u l).num=u.fdiv (Int.gcd l u):=by rw[ahd];rw[adH hl];rw[aim];rw[Ee _ (dA _)];rfl
theorem NB(hl:0<l):((Sr u l).den:Int)=l.fdiv (Int.gcd l u):=by rw[ahe];rw[if_neg (Bi hl)];rw[Ee _ (dA _)];rw[Int.natCast_ediv];rw[abT (qr hl)];rfl
theorem log2_small(h:d<2^64):d.log2<9000:=by
 rcases abb d with rfl|p
 ·decide
 ·have:=(agI (pz p)).mpr h;exact a0 this (by decide)
section
variable{prog:d5}{w:fA}{tt:List dq}{V:Fx}{n:Nat}
theorem GC {l:Int}(h:0≤l):l.toNat=l.natAbs:=Int.ofNat.inj ((Oy h).trans (abT h).symm)
set_option maxHeartbeats 1000000 in
theorem uO(u l:Int)(hl:l≠0)(gC:l.natAbs<2^64)(O' :bQ (b7 tt iQ 60 (KK w.params) prog w V) n)(hR:R (FR (Sr u l))):
  bM (b7 tt iQ 60 (KK w.params) prog w V) ((bodyOf iQ).drop 7) ⟨[("self",.own 0),("numerator",na),("denominator",da),("upper",.f (.int u)),("lower",.f (.int l))],[.inst 189 1,.attrs [] 0]⟩
   (uw 189 R):=by
 have O:=O'.toOk;have tail: ∀(u l:Int),0<l->l.natAbs<2^64->R (FR (Sr u l))->bM (b7 tt iQ 60 (KK w.params) prog w V) ((bodyOf iQ).drop 9) ⟨[("self",.own 0),("numerator",na),("denominator",da),("upper",.f (.int u)),("lower",.f (.int l))],[.inst 189 1,.attrs [] 0]⟩
   (uw 189 R):=by
  clear hR hl gC u l;intro u l hl hb hR;refine ah (aJ O (af O 4 rfl ⟨tr,ah (aJ O (au (af O 3 rfl (af O 4 rfl (qV (Bi hl) ⟨tr,ah (xA (λn st=>E2 λd r:Nat=>A5 (n=r) (0<d) (d<2^64/\r<2^64) (Nat.gcd d r=Int.gcd l u) (st=⟨[("self",.own 0),("numerator",na),("denominator",da),("upper",.f (.int u)),("lower",.f (.int l)),("divisor",.f (.int d)),("rest",.f (.int r))],[.inst 189 1,.attrs [] 0]⟩)) (u.fmod l).toNat ?_ ?_)⟩)))))⟩))
  ·have h1:0≤u.fmod l:=Int.fmod_nonneg_of_pos u hl;have h3:=Int.fmod_lt_of_pos u hl;have gu:l.toNat<2^64:=(GC (qr hl)).symm▸hb;refine⟨l.toNat,(u.fmod l).toNat,rfl,afV.mpr hl,⟨gu,bj (Int.toNat_le_toNat (qr h3)) gu⟩,?_,?_⟩
   ·have e1:Int.gcd l (u%l+l*(u/l))=Int.gcd l (u%l):=Int.gcd_add_mul_left_right ..;rw[Int.emod_add_mul_ediv]at e1;rw[e1];rw[aaq _ (qr hl)];have h2:0≤u%l:=Int.emod_nonneg _ (Bi hl);show Nat.gcd _ _=Nat.gcd _ _;exact congr (congrArg Nat.gcd (GC (qr hl))) (GC h2)
   ·rw[Oy (qr hl)];rw[Oy h1];rfl
  ·rintro n st ⟨d,r,rfl,hd,hd2,hg,rfl⟩;refine bF (af O 6 rfl ⟨_,.i _,?_⟩)
   by_cases hr:n=0
   ·subst hr;rw[Nat.gcd_zero_right]at hg;refine bB (aj ?_);have O9:(d:Int)≠0:=Bi (Hk.mpr hd);refine ah (bI O (au (af O 3 rfl (af O 5 rfl (oR O9 (log2_small hd2.1) (af O 0 rfl ⟨0,1,189,_,_,rfl,rfl,rfl,by decide,tr,tr,ah (bI O (au (af O 4 rfl (af O 5 rfl (oR O9 (log2_small hd2.1) (af O 0 rfl ⟨0,1,189,_,_,rfl,rfl,rfl,by decide,tr,tr,aj ⟨.inl rfl,_,_,_,rfl,rfl,.eY (.f _ rfl) (.eY (.f _ rfl) .Ai),?_⟩⟩))))))⟩))))));rw[hg];refine bS (Nz hl ..) ?_;refine bS (NB hl ..) ?_;exact hR
   ·have xO:(n:Int)≠0:=λz=>hr (Int.ofNat.inj z);rw[bne_iff_ne.mpr xO];have e2:(d:Int).fmod n=((d%n:Nat):Int):=by rw[aaq _ (dA _)];rw[Int.natCast_emod];rfl
    refine cB (ah (JV (x:="divisor") (y:="rest") O (e7 O rfl (af O 6 rfl (au (af O 5 rfl (af O 6 rfl (qV xO ⟨rfl,_,.cons (.f rfl) (.cons (.f rfl) .nil),_,_,_,_,.n _,gO (i:=6) tr,gO (i:=5) tr,aj ?_⟩))))))));have h4:=abw d (acD hr);refine⟨d%n,h4,n,d%n,rfl,(acD hr),⟨hd2.2,oo h4 hd2.2⟩,?_,?_⟩
    ·refine bS (hg ..) ?_;rewrite [ahV n];refine bS (Nat.gcd_rec ..) ?_;rw[ahV];rfl
    ·rw[e2];rfl
 refine ah (aK (aE (af O 4 rfl (aC (eX ⟨_,rfl,?_⟩)))));rw[beq_eq_false_iff_ne.mpr hl];refine bB (aj (ah (aK (aE (af O 4 rfl (aC (Ci ⟨_,rfl,?_⟩)))))))
 by_cases hn:l<0
 ·rw[decide_eq_true hn];exact cB (ah (d8 O 3 (mK (af O 3 rfl (mJ ⟨tr,ah (d8 O 4 (mK (af O 4 rfl (mJ ⟨tr,aj (tail (-u) (-l) (Int.neg_pos_of_neg hn) (by rw[Int.natAbs_neg];exact gC) (by rw[Rat.neg_divInt_neg];exact hR))⟩))))⟩)))))
 ·rw[decide_eq_false hn];exact bB (aj (tail u l (aer.mpr ⟨uk.mp hn,hl.symm⟩) gC hR))
end
section
variable{prog:d5}{w:fA}{tt:List dq}
set_option maxHeartbeats 1000000 in
theorem xP (a b:Int)(hb:b≠0)(gC:b.natAbs<2^64)(O' :bQ (b7 tt iQ 60 (KK w.params) prog w V) n)(hR:R (FR (Sr a b))):
  bM (b7 tt iQ 60 (KK w.params) prog w V) (bodyOf iQ) ⟨[("self",.own 0),("numerator",.f (.int a)),("denominator",.f (.int b))],[.inst 189 1,.attrs [] 0]⟩
   (uw 189 R):=by
  have O:=O'.toOk;exact ah (aK (gD (bF (ai O (f:= .builtin "isinstance") rfl tr rfl rfl (af O 1 rfl (e7 O rfl (bV O (v:= .type "int") rfl (bV O (v:= .ref 189) rfl ⟨rfl,_,.cons (.f rfl) (.cons (.f rfl) .nil),nu O (b:=true) [.type "int",.ref 189] rfl (.int a) rfl ⟨_,.b _,bB (aj (ah (aK (gD (bF (ai O (f:= .builtin "isinstance") rfl tr rfl rfl (af O 2 rfl (e7 O rfl (bV O (v:= .type "int") rfl (bV O (v:= .ref 189) rfl ⟨rfl,_,.cons (.f rfl) (.cons (.f rfl) .nil),nu O (b:=true) [.type "int",.ref 189] rfl (.int b) rfl ⟨_,.b _,bB (aj (ah (aJ O (af O 1 rfl ⟨tr,ah (aJ O (af O 2 rfl ⟨tr,ah (aK (bF (ai O (f:= .builtin "isinstance") rfl tr rfl rfl (af O 1 rfl (bV O (v:= .ref 189) rfl (kZ O (b:=false) (.int a) rfl ⟨_,.b _,bB (aj (ah (aK (bF (ai O (f:= .builtin "isinstance") rfl tr rfl rfl (af O 2 rfl (bV O (v:= .ref 189) rfl (kZ O (b:=false) (.int b) rfl ⟨_,.b _,bB (aj (ah (aK (bF (ai O (f:= .builtin "isinstance") rfl tr rfl rfl (af O 1 rfl (bV O (v:= .ref 189) rfl (kZ O (b:=false) (.int a) rfl ⟨_,.b _,bB (aj (uO a b hb gC O' hR))⟩))))))))⟩))))))))⟩))))))⟩))⟩))))⟩⟩))))))))))⟩⟩))))))))
theorem nL(a b:Int)(hb:b≠0)(gC:b.natAbs<2^64):
  Spec prog w (KK w.params) tt 1 (.ref 189) [.int a,.int b] [] (· =FR (Sr a b)):=by
 refine eL (Ny w.params) "self" [("numerator",.int a),("denominator",.int b)] tr (λaa=>tr) ?_ ?_
 ·rintro s P x vs ks ⟨_,_,rfl,⟨t,rfl⟩,_,_,rfl,⟨u,rfl⟩,rfl⟩ rfl X;exact⟨_,aS X (b:=("self",x)::[("numerator",.int a t),("denominator",.int b u)]) λM=>rfl,.cons ⟨t,rfl⟩ (.cons ⟨u,rfl⟩ .nil)⟩
 ·intro V O';exact xP a b hb gC O' (R:=(· =FR (Sr a b))) rfl
end
section
variable{prog:d5}{w:fA}{tt:List dq}
theorem rK (q:Rat):(q.den:Int)≠0:=by have:=q.den_nz;lia
def Sm(q:Rat):Prop:=q.num.natAbs<2^31/\q.den<2^31
set_option tactic.hygienic true in
theorem cP(h:a.natAbs<2^64):IntMulOk a b:=IntMulOk.of_left (by
 unfold ain;split
 ·exact kS _
 ·have:=(agI (n:=a.natAbs) (k:=64) (by rename_i q;intro z;exact q (by simp[Int.natAbs_eq_zero.mp z]))).mpr h;exact this)
theorem LQ(ha:a<2^31)(hb:b<2^31):a*b<2^62:=by have:=Nat.mul_lt_mul'' ha hb;omega
theorem Sm.n(h:Sm q):q.num.natAbs<2^64:=by have:=h.1;exact a0 this (by decide)
theorem Sm.d(h:Sm q):(q.den:Int).natAbs<2^64:=by have:=h.2;exact a0 this (by decide)
theorem DM(q:Rat)(k:Int)(hq:Sm q):Spec prog w (KK w.params) tt 3 (.ref 130) [FR q,.int k] [] (· =FR (q*(k:Rat))):=by
 refine aR (UC w.params) [("self",FR q),("other",.int k)] rfl (λaa aa aa=>rfl) ?_
 ·intro V O';have O:=O'.toOk;refine ah (aK (dG O 1 (.type "int") true rfl (.int k) (cB ?_)));refine ah (aF (ai O (f:= .ref 189) rfl tr rfl rfl (au (aG O (af O 0 rfl ⟨189,_,.f (.tail _ (.head _)),tr,rfl,af O 1 rfl (d7 (cP hq.n) (aG O (af O 0 rfl ⟨189,_,.f (.head _),tr,rfl,
   bh O' (nL _ _ (rK q) hq.d) (by decide) (.cons (.f _) (.cons (.f _) .nil)) .nil rfl ?_⟩)))⟩)))))
  rintro r rfl;refine⟨_,.n _,?_⟩;rw[Rat.mul_def'];refine bS (adx ..) ?_;simp
theorem DN(q:Rat)(k:Int)(hq:Sm q)(hk:k.natAbs<2^64):Spec prog w (KK w.params) tt 3 (.ref 102) [FR q,.int k] [] (· =FR (q+(k:Rat))):=by
 refine aR (QG w.params) [("self",FR q),("other",.int k)] rfl (λaa aa aa=>rfl) ?_
 ·intro V O';have O:=O'.toOk;refine ah (aK (dG O 1 (.type "int") true rfl (.int k) (cB ?_)));refine ah (aF (ai O (f:= .ref 189) rfl tr rfl rfl (au (aG O (af O 0 rfl ⟨189,_,.f (.tail _ (.head _)),tr,rfl,au (af O 1 rfl (aG O (af O 0 rfl ⟨189,_,.f (.head _),tr,rfl,d7 (cP hk) (f6 (aG O (af O 0 rfl ⟨189,_,.f (.head _),tr,rfl,
   bh O' (nL _ _ (rK q) hq.d) (by decide) (.cons (.f _) (.cons (.f _) .nil)) .nil rfl ?_⟩)))⟩)))⟩)))))
  rintro r rfl;refine⟨_,.n _,?_⟩;rw[ahW];refine bS (adx ..) ?_;simp
theorem xQ(q r:Rat)(hq:Sm q)(hr:Sm r):Spec prog w (KK w.params) tt 3 (.ref 102) [FR q,FR r] [] (· =FR (q+r)):=by
 refine aR (QG w.params) [("self",FR q),("other",FR r)] rfl (λaa aa aa=>rfl) ?_
 ·intro V O';have O:=O'.toOk;refine ah (aK (dG O 1 (.type "int") false rfl (.fi _ tr) (bB (aj (ah (aK (dG O 1 (.ref 189) true rfl (.fi _ tr) (cB (ah (aF (ai O (f:= .ref 189) rfl tr rfl rfl (au (au (aG O (af O 0 rfl ⟨189,_,.f (.tail _ (.head _)),tr,rfl,aG O (af O 1 rfl ⟨189,_,.f (.head _),tr,rfl,d7 (cP hq.n) (au (aG O (af O 1 rfl ⟨189,_,.f (.tail _ (.head _)),tr,rfl,aG O (af O 0 rfl ⟨189,_,.f (.head _),tr,rfl,d7 (cP hr.n) (f6 (au (aG O (af O 0 rfl ⟨189,_,.f (.head _),tr,rfl,aG O (af O 1 rfl ⟨189,_,.f (.head _),tr,rfl,d7 (cP hq.d) (bh O' (nL _ _ ?_ ?_) (by decide) (.cons (.f _) (.cons (.f _) .nil)) .nil rfl ?_)⟩)⟩))))⟩)⟩)))⟩)⟩)))))))))))))))
  ·exact agS (rK q) (rK r)
  ·have:=LQ hq.2 hr.2;rw[acM];rw[acE];rw[acE];exact a0 this (by decide)
  ·rintro x rfl;refine⟨_,.n _,?_⟩;rw[ahW];refine bS (adx ..) ?_;simp
theorem Ke(q r:Rat):Spec prog w (KK w.params) tt 1 (.ref 158) [FR q,FR r] [] (· = .bool (decide (q=r))):=by
 refine aR (UD w.params) [("self",FR q),("other",FR r)] rfl (λaa aa aa=>rfl) ?_
 ·intro V O';have O:=O'.toOk;refine ah (aK (dG O 1 (.type "int") false rfl (.fi _ tr) (bB (aj (ah (aK (dG O 1 (.ref 189) true rfl (.fi _ tr) (cB (ah (aF (JW (eK (aG O (af O 0 rfl ⟨189,_,.f (.tail _ (.head _)),tr,rfl,aG O (af O 1 rfl ⟨189,_,.f (.tail _ (.head _)),tr,rfl,eX ⟨_,rfl,FN (λh=>?_) λh=>?_⟩⟩)⟩))))))))))))))
  ·refine eK (aG O (af O 0 rfl ⟨189,_,.f (.head _),tr,rfl,aG O (af O 1 rfl ⟨189,_,.f (.head _),tr,rfl,eX ⟨_,.f _ rfl,?_⟩⟩)⟩));rw[beq_iff_eq]at h;congr 1;refine eV (y3 ..) ?_;refine eV (beq_iff_eq ..) ?_;refine eV (decide_eq_true_iff ..) ?_;exact⟨λe=>Rat.ext h (by lia),λe=>by rw[e];rfl⟩
  ·refine⟨_,.f _ rfl,?_⟩;congr 1;rw[beq_iff_eq]at h;have: ¬q=r:=λe=>h (by rw[e];rfl);rw[decide_eq_false this];exact beq_eq_false_iff_ne.mpr h
theorem Kf(q r:Rat)(hq:Sm q)(hr:Sm r):Spec prog w (KK w.params) tt 1 (.ref 165) [FR q,FR r] [] (· = .bool (decide (q<r))):=by
 refine aR (UE w.params) [("self",FR q),("other",FR r)] rfl (λaa aa aa=>rfl) ?_
 ·intro V O';have O:=O'.toOk;refine ah (aK (dG O 1 (.type "int") false rfl (.fi _ tr) (bB (aj (ah (aK (dG O 1 (.ref 189) true rfl (.fi _ tr) (cB (ah (aF (eK (au (aG O (af O 0 rfl ⟨189,_,.f (.tail _ (.head _)),tr,rfl,aG O (af O 1 rfl ⟨189,_,.f (.head _),tr,rfl,d7 (cP hq.n) (au (aG O (af O 1 rfl ⟨189,_,.f (.tail _ (.head _)),tr,rfl,aG O (af O 0 rfl ⟨189,_,.f (.head _),tr,rfl,d7 (cP hr.n) (Ci ⟨_,.f _ rfl,?_⟩)⟩)⟩)))⟩)⟩))))))))))))));congr 1;exact eV (decide_eq_decide ..) (Rat.lt_iff q r).symm
theorem Kg(q r:Rat)(hq:Sm q)(hr:Sm r):Spec prog w (KK w.params) tt 1 (.ref 179) [FR q,FR r] [] (· = .bool (decide (r<q))):=by
 refine aR (UG w.params) [("self",FR q),("other",FR r)] rfl (λaa aa aa=>rfl) ?_
 ·intro V O';have O:=O'.toOk;refine ah (aK (dG O 1 (.type "int") false rfl (.fi _ tr) (bB (aj (ah (aK (dG O 1 (.ref 189) true rfl (.fi _ tr) (cB (ah (aF (eK (au (aG O (af O 0 rfl ⟨189,_,.f (.tail _ (.head _)),tr,rfl,aG O (af O 1 rfl ⟨189,_,.f (.head _),tr,rfl,d7 (cP hq.n) (au (aG O (af O 1 rfl ⟨189,_,.f (.tail _ (.head _)),tr,rfl,aG O (af O 0 rfl ⟨189,_,.f (.head _),tr,rfl,d7 (cP hr.n) (nq ⟨_,.f _ rfl,?_⟩)⟩)⟩)))⟩)⟩))))))))))))));congr 1;exact eV (decide_eq_decide ..) (Rat.lt_iff r q).symm
theorem rL(k:Int):Sr k 1=(k:Rat):=afl (k:Rat)
theorem NC(q:Rat)(k:Int)(_hk:k≠0):Sr q.num (k*q.den)=q/(k:Rat):=by
 rw[aby];have e:(k:Rat)⁻¹ =Sr 1 k:=by refine bS (rL ..) ?_;rw[Rat.inv_divInt];rfl
 rw[e]
 conv=>rhs;rw[<-afl q]
 rw[Rat.divInt_mul_divInt];rw[adh];rw[ad3];rfl
theorem kq(k:Int):Spec prog w (KK w.params) tt 1 (.ref 189) [.int k] [] (· =FR (k:Rat)):=by
 refine eL (Ny w.params) "self" [("numerator",.int k),("denominator",.int 1)] tr (λaa=>tr) ?_ ?_
 ·rintro s P x vs ks ⟨_,_,rfl,⟨t,rfl⟩,rfl⟩ rfl X;exact⟨_,aS X (b:=("self",x)::[("numerator",.int k t),("denominator",.int 1 237)]) λM=>rfl,.cons ⟨t,rfl⟩ (.cons ⟨_,rfl⟩ .nil)⟩
 ·intro V O';have O:=O'.toOk;exact xP k 1 (by decide) (by decide) O' (R:=(· =FR (k:Rat))) (by rw[rL];rfl)
theorem Kh(q:Rat)(k:Int)(hq:Sm q)(hk:k≠0)(EP:k.natAbs<2^31):Spec prog w (KK w.params) tt 1 (.ref 189) [FR q,.int k] [] (· =FR (q/(k:Rat))):=by
 refine eL (Ny w.params) "self" [("numerator",FR q),("denominator",.int k)] tr (λaa=>tr) ?_ ?_
 ·rintro s P x vs ks ⟨y,_,rfl,hy,_,_,rfl,⟨u,rfl⟩,rfl⟩ rfl X;exact⟨_,aS X (b:=("self",x)::[("numerator",y),("denominator",.int k u)]) λM=>rfl,.cons hy (.cons ⟨u,rfl⟩ .nil)⟩
 ·intro V O';have O:=O'.toOk;refine ah (aK (gD (bF (ai O (f:= .builtin "isinstance") rfl tr rfl rfl (af O 1 rfl (e7 O rfl (bV O (v:= .type "int") rfl (bV O (v:= .ref 189) rfl ⟨rfl,_,.cons (.f rfl) (.cons (.f rfl) .nil),nu O (b:=true) [.type "int",.ref 189] rfl (.fi _ tr) rfl ⟨_,.b _,bB (aj (ah (aK (gD (bF (ai O (f:= .builtin "isinstance") rfl tr rfl rfl (af O 2 rfl (e7 O rfl (bV O (v:= .type "int") rfl (bV O (v:= .ref 189) rfl ⟨rfl,_,.cons (.f rfl) (.cons (.f rfl) .nil),nu O (b:=true) [.type "int",.ref 189] rfl (.int k) rfl ⟨_,.b _,bB (aj (ah (aJ O (af O 1 rfl ⟨tr,ah (aJ O (af O 2 rfl ⟨tr,ah (aK (dG O 1 (.ref 189) true rfl (.fi _ tr) (cB (ah (d8 O 3 (aG O (af O 1 rfl ⟨189,_,.f (.tail _ (.head _)),tr,rfl,tr,aj (ah (aK (dG O 2 (.ref 189) false rfl (.int k) (bB (aj (ah (aK (dG O 1 (.ref 189) true rfl (.fi _ tr) (cB (ah (d8 O 4 (au (af O 4 rfl (aG O (af O 1 rfl ⟨189,_,.f (.head _),tr,rfl,d7 (cP (a0 EP (by decide))) ⟨tr,aj (uO q.num (k*q.den) (agS hk (rK q)) ?_ O' (R:=(· =FR (q/(k:Rat)))) ?_)⟩⟩)))))))))))))))⟩)))))))⟩))⟩))))⟩⟩))))))))))⟩⟩))))))))
  ·have:=LQ EP hq.2;rewrite [acM,acE];exact a0 this (by decide)
  ·congr 1;rw[NC q k hk];rfl
end
section
variable{c:Cx}{st:St}
theorem b8 (r:Bool)(h:Q (.f (.bool r)) st)(hr:(a==b)=r:=by kernel_rfl):Op c [.f (.str b),.f (.str a)] (λvs=>match vs with| [y,x]=>md .Eq x y|_=> .raise .none) st Q:=M3 (by rw[hr];exact h)
end
section
variable{prog:d5}{w:fA}{tt:List dq}
theorem Kl (i:Int)(hi:0≤i)(h2:i<2^31):Spec prog w (KK w.params) tt 3 (.ref 280) [.int i] [] (· =FR (if i=0 then 0 else 1/(i:Rat))):=by
 refine aR (UJ w.params) [("i",.int i)] rfl (λaa aa aa=>rfl) ?_
 ·intro V O';have O:=O'.toOk;refine ah (aK (aE (af O 0 rfl (aC (eX ⟨_,rfl,FN (λh=>?_) λh=>?_⟩)))))
  ·rw[beq_iff_eq]at h;refine ah (aF (ai O (f:= .ref 189) rfl tr rfl rfl (aC (bh O' (kq _) (by decide) (.cons (.f _) .nil) .nil rfl ?_))));rintro r rfl;exact⟨_,.n _,by rw[if_pos h];rfl⟩
  ·rw[beq_iff_eq]at h;refine aj (ah (aF (ai O (f:= .ref 189) rfl tr rfl rfl (aC (af O 0 rfl (bh O' (nL _ _ h (by lia)) (by decide) (.cons (.f _) (.cons (.f _) .nil)) .nil rfl ?_))))));rintro r rfl;exact⟨_,.n _,by rw[if_neg h];rw[acY];rfl⟩
theorem GD(i:Int)(hi:0≤i)(h2:i<2^31):Spec prog w (KK w.params) tt 3 (.ref 294) [.int i] [] (· =FR (if i=0 then 0 else 1/((2*i-1:Int):Rat))):=by
 refine aR (UK w.params) [("i",.int i)] rfl (λaa aa aa=>rfl) ?_
 ·intro V O';have O:=O'.toOk;refine ah (aK (aE (af O 0 rfl (aC (eX ⟨_,rfl,FN (λh=>?_) λh=>?_⟩)))))
  ·rw[beq_iff_eq]at h;refine ah (aF (ai O (f:= .ref 189) rfl tr rfl rfl (aC (bh O' (kq _) (by decide) (.cons (.f _) .nil) .nil rfl ?_))));rintro r rfl;exact⟨_,.n _,by rw[if_pos h];rfl⟩
  ·rw[beq_iff_eq]at h;refine aj (ah (aF (ai O (f:= .ref 189) rfl tr rfl rfl (aC (au (au (aC (af O 0 rfl (d7 (cP (by decide)) (aC (oO (bh O' (nL _ _ (by lia) (by lia)) (by decide) (.cons (.f _) (.cons (.f _) .nil)) .nil rfl ?_))))))))))));rintro r rfl;exact⟨_,.n _,by rw[if_neg h];rw[acY];rfl⟩
noncomputable abbrev MS(x:Str):FV:= .inst 247 [("param",.none),("name",.str x)]
theorem Vf(P:mA):iB (KK P) 247 237 qR (bodyOf qR) where
 makes:=tr
 init:=rfl
 fn:=rfl
 def_:=UI P
theorem GF(x:Str):Spec prog w (KK w.params) tt 1 (.ref 247) [.str x] [] (· =MS x):=by
 refine eL (Vf w.params) "self" [("name",.str x),("param",.none)] tr (λaa=>tr) ?_ ?_
 ·rintro s P y vs ks ⟨_,_,rfl,⟨t,rfl⟩,rfl⟩ rfl X;exact⟨_,aS X (b:=("self",y)::[("name",.str x t),("param",.none)]) λM=>rfl,.cons ⟨t,rfl⟩ (.cons rfl .nil)⟩
 ·intro V O';have O:=O'.toOk;exact ah (bI O (af O 1 rfl (af O 0 rfl ⟨0,1,247,_,_,rfl,rfl,rfl,by decide,tr,tr,ah (bI O (af O 2 rfl (af O 0 rfl ⟨0,1,247,_,_,rfl,rfl,rfl,by decide,tr,tr,aj ⟨.inl rfl,_,_,_,rfl,rfl,.eY (.f _ rfl) (.eY (.f _ rfl) .Ai),rfl⟩⟩)))⟩)))
theorem GG(i:Int)(hi:0≤i)(h2:i<2^31):Spec prog w (KK w.params) tt 5 (.ref 244) [MS "pav",.int i] [] (· =FR (if i=0 then 0 else 1/(i:Rat))):=by
 refine aR (QH w.params) [("self",MS "pav"),("i",.int i)] rfl (λaa aa aa=>rfl) ?_
 ·intro V O';have O:=O'.toOk;refine ah (aK (aE (aG O (af O 0 rfl ⟨247,_,.f (.tail _ (.head _)),rfl,rfl,bz (b8 true ⟨_,rfl,cB (ah (aF (ai O (f:= .ref 280) (by kernel_rfl) rfl rfl rfl (af O 1 rfl (bh O' (Kl i hi h2) (by decide) (.cons (.f _) .nil) .nil rfl ?_)))))⟩)⟩))));rintro r rfl;exact⟨_,.n _,rfl⟩
theorem Km(i:Int)(hi:0≤i)(h2:i<2^31):Spec prog w (KK w.params) tt 5 (.ref 244) [MS "slav",.int i] [] (· =FR (if i=0 then 0 else 1/((2*i-1:Int):Rat))):=by
 refine aR (QH w.params) [("self",MS "slav"),("i",.int i)] rfl (λaa aa aa=>rfl) ?_
 ·intro V O';have O:=O'.toOk;refine ah (aK (aE (aG O (af O 0 rfl ⟨247,_,.f (.tail _ (.head _)),rfl,rfl,bz (b8 false ⟨_,rfl,bB (aj (ah (aK (aE (aG O (af O 0 rfl ⟨247,_,.f (.tail _ (.head _)),rfl,rfl,bz (b8 false ⟨_,rfl,bB (aj (ah (aK (aE (aG O (af O 0 rfl ⟨247,_,.f (.tail _ (.head _)),tr,rfl,bz (b8 true ⟨_,rfl,cB (ah (aF (ai O (f:= .ref 294) rfl tr rfl rfl (af O 1 rfl (bh O' (GD i hi h2) (by decide) (.cons (.f _) .nil) .nil rfl ?_)))))⟩)⟩))))))⟩)⟩))))))⟩)⟩))));rintro r rfl;exact⟨_,.n _,rfl⟩
theorem ly(k:Int):Spec prog w (KK w.params) tt 3 (.ref 259) [.str "pav",.int k] [] (· =MS "pav"):=by
 refine aR (QI w.params) [("scorefct_id",.str "pav"),("committeesize",.int k)] rfl (λaa aa aa=>by kernel_rfl) ?_
 ·intro V O';have O:=O'.toOk;refine ah (aK (aE (af O 0 rfl (bz (b8 true ⟨_,rfl,cB (ah (aF (ai O (f:= .ref 247) (by kernel_rfl) (by kernel_rfl) rfl rfl (bz (bh O' (GF _) (by decide) (.cons (.f _) .nil) .nil rfl ?_)))))⟩)))));rintro r rfl;exact⟨_,.n _,rfl⟩
theorem rM(k:Int):Spec prog w (KK w.params) tt 3 (.ref 259) [.str "slav",.int k] [] (· =MS "slav"):=by
 refine aR (QI w.params) [("scorefct_id",.str "slav"),("committeesize",.int k)] rfl (λaa aa aa=>by kernel_rfl) ?_
 ·intro V O';have O:=O'.toOk;refine ah (aK (aE (af O 0 rfl (bz (b8 false ⟨_,rfl,bB (aj (ah (aK (aE (af O 0 rfl (bz (b8 false ⟨_,rfl,bB (aj (ah (aK (aE (af O 0 rfl (bz (b8 true ⟨_,rfl,cB (ah (aF (ai O (f:= .ref 247) (by kernel_rfl) (by kernel_rfl) rfl rfl (bz (bh O' (GF _) (by decide) (.cons (.f _) .nil) .nil rfl ?_)))))⟩)))))))⟩)))))))⟩)))));rintro r rfl;exact⟨_,.n _,rfl⟩
end
section
variable{prog:d5}{w:fA}{tt:List dq}
theorem Vg (P:mA):iB (KK P) 699 590 jW (bodyOf jW) where
 makes:=tr
 init:=rfl
 fn:=rfl
 def_:=U5 P
variable{V:Fx}{n:Nat}
set_option maxHeartbeats 1000000 in
theorem wh (k:Nat)(hk:1≤k)(EP:k≤100)(O' :bQ (b7 tt jW 590 (KK w.params) prog w V) n)
  (hQ: ∀l,Q .next ⟨l,[.inst 699 1,.attrs [("_voters",.own 2),("cand_names",.n (.list ((ar k).map λaa=> .any))),("candidates",.n (.list (gz 0 k)))] 3,.list []]⟩):
  bM (b7 tt jW 590 (KK w.params) prog w V) (bodyOf jW) ⟨[("self",.own 0),("num_cand",.f (.int k)),("cand_names",.f .none)],[.inst 699 1,.attrs [] 0]⟩ Q:=by
 have O:=O'.toOk;have Xi:decide ((k:Int)≤0)=false:=by refine eV (decide_eq_false_iff_not ..) ?_;lia
 refine ah (aK (aE (af O 1 rfl (aC (LH ⟨_,rfl,?_⟩)))));rw[Xi];refine bB (aj (ah (bI O (ai O (f:= .type "list") rfl tr rfl rfl (ai O (f:= .type "range") rfl tr rfl rfl (af O 1 rfl (bW O (rz O (by decide) (by lia) (af O 0 rfl ⟨0,1,699,_,_,rfl,rfl,rfl,by decide,tr,tr,ah (bI O (bY O' [] (by rfl) (ai O (f:= .type "range") rfl tr rfl rfl (af O 1 rfl (bW O ⟨.m8 0 k,_,[],src_range (by decide) (by lia),.n _,.nil,λV2 OO=>Gf OO.toOk (λr st=>E2 λ(j:Nat) (loc:List (Str×AV))=>A4 (r=g7 (j:Int) k) (j≤k) (st=⟨loc,[.list ((ar j).map λ(i:Nat)=> .f (.str (toString (i:Int))))]⟩) (loc=[]∨ ∃v,loc=[(("cand" :Str),v)])) ⟨0,[],rfl,(ec hk),rfl,.inl rfl⟩ tr ?_ ?_⟩)))))⟩)))))))))
 ·rintro b r st H G ⟨j,loc,hr,hj,rfl,jl⟩;have Vh:(j:Int)<k:=by
   rcases Int.lt_or_le (j:Int) k with q|q
   ·exact q
   ·rw[rm q]at hr;cases hr
  rw[kg Vh]at hr;cases hr;refine⟨[("cand",.f (.int j))],?_,?_⟩
  ·rcases jl with rfl|⟨v,rfl⟩
   ·exact aU tr
   ·exact gO (i:=0) tr
  ·show Ev _ _ _ _;refine ai (OO.toOk.v H G) (f:= .type "str") rfl tr rfl rfl (af (OO.toOk.v H G) 0 rfl (Ct (by lia) ⟨_,rfl,by simp;lia,j+1,[(("cand" :Str),.f (.int j))],rfl,by lia,?_,.inr ⟨_,rfl⟩⟩));show St.mk _ [AO.list (_++[_])]=_;rw[Kk];rw[ew];rfl
 ·rintro aO ⟨j,loc,hr,hj,rfl,jl⟩;have Vh:j=k:=by
   rcases He j k with q|q
   ·rw[kg (by lia)]at hr;cases hr
   ·exact sx hj q
  subst Vh;refine⟨_,(ar j).map λaa=> .any,rfl,?_,?_⟩
  ·clear hr hj hk EP Xi hQ;generalize ar j=rr;generalize ([AO.list _]:List AO)=ow;induction rr with
   |nil=>exact .nil
   |cons y r ih=>exact .cons (.any _) ih
  ·refine af O 0 rfl ⟨0,1,699,_,_,rfl,rfl,rfl,by decide,tr,tr,?_⟩;exact ah (bI O (bR O rfl ⟨rfl,af O 0 rfl ⟨0,1,699,_,_,rfl,rfl,rfl,by decide,tr,tr,ah (aK (bF (ak O 2 rfl ⟨_,.none,bB (aj (aj (hQ _)))⟩)))⟩⟩))
end
section
variable{prog:d5}{w:fA}{tt:List dq}
theorem ND (G:Good (KK w.params) tt 1 A s)(h: ∀h₀ tk,(∀b o,s.heap.get? b=some o->h₀.get? b=some o)->R (.ok (.ret v)) {s with heap:=h₀,toks:=tk}):
  tJ (dC prog w) A (.call (.ref 552) ⟨[v,.none],[]⟩) R s:=by
 have D:=U3 w.params;obtain⟨od,sl,oc,hK⟩:=D.at_;refine uv (b:=[("votes",v),("threshold",.none)]) D (by have:=G.dp;exact w8 (a0 this (by decide))) (G.cO _ _ hK) rfl G.lim (ahi G.cO D.code) (aS G.cO λM=>rfl) (show [("votes" :Str),"threshold"].Nodup by decide+kernel) (λx hx=>?_) (λh₀ m tk Dr ng LG zF WZ=>?_)
 ·rcases a5.mp hx with rfl|hx
  ·kernel_rfl
  ·rcases a5.mp hx with rfl|hx
   ·kernel_rfl
   ·cases hx
 let c:Cx:=b7 tt qS 552 (KK w.params) prog w ⟨A.deeper (sg qS s.heap.objs.size 552),s.heap.objs.size,s.heap,s.gens,s.os,[],λaa=>False⟩
 have m1:m "votes" =some v:=(LG c rfl rfl "votes" v (.head _)).local (by rfl);have m2:m "threshold" =some .none:=(LG c rfl rfl "threshold" .none (.tail _ (.head _))).local (by rfl);exact aaI (wpAny_If (adP (Bz (y8 D.kind (by rfl) Dr m2 (aeI (isNot_none (xa (bB (aaI (afx (Bz (y8 D.kind (by rfl) Dr m1 (h _ _ ng)) rfl)))))))) rfl) (by rfl)))
end
section
variable{c:Cx}{st:St}
theorem Kn (O:bQ c n)(hK:c.K=KK c.w.params)(hn:2≤n)(h:Q a st):aZ c (.ref 552) [a,.f .none] [] [] st Q:=
 tK λT x y s S=>by
  have G:=S.good (n' :=1) O O.hh (cb c.A.depth 3) (cb c.A.units 39) hn;obtain⟨m,as,P,N,B⟩:=S;have hy:y= .none:=B.bw _ (.tail _ (.head _));subst hy;rw[hK]at G;refine abt (ND G λh₀ tk hk=>⟨a,st,⟨m,as,P,N,(az.grow (s' :={s with heap:=h₀,toks:=tk}) B (gB.of λb o e=>hk b o e) ⟨[],by simp,λaa h=>nomatch h⟩ rfl).less λp hp=>?_⟩,h⟩);rcases a5.mp hp with rfl|hp
  ·exact .head _
  ·exact .tail _ (.tail _ hp)
end
section
variable{prog:d5}{w:fA}{tt:List dq}
theorem o8 (at_:List (Str×FV))(x:Str)(r:List FV)(hr:r.length≤100)(ha:(("available_algorithms" :Str),.list (.str x::r))∈at_):Spec prog w (KK w.params) tt 1 (.ref 353) [.inst 364 at_] [] (· = .str x):=by
 refine aR (UO w.params) [("self",.inst 364 at_)] rfl (λaa aa aa=>rfl) ?_
 ·intro V O';have O:=O'.toOk;have hb:(!(FV.str x::r).isEmpty)=true:=rfl;refine ah (aK (bF (aG O (af O 0 rfl ⟨364,.f (.list (.str x::r)),.f ha,tr,rfl,_,.fl (by simp;exact ae hr (by decide)),?_⟩))));rw[hb];refine cB (ah (aF (aY (aG O (af O 0 rfl ⟨364,.f (.list (.str x::r)),.f ha,tr,rfl,aC (item_list (j:=0) (.f _) (.inl rfl) rfl (by simp;exact ae hr (by decide)) ?_)⟩)))));exact⟨_,.f _ rfl,rfl⟩
end
inductive wj:List Expr->List Str->Prop
 |nil:wj [] []
 |cons {s:Str} {k:Nat} {p:Pos} {es:List Expr} {ls:List Str}:wj es ls->wj (.Constant (.str s) k p::es) (s::ls)
theorem wj.plain(h:wj es ls):es.all plainArg=true:=by
 induction h with
 |nil=>rfl
 |cons _ ih=>exact ih
theorem wj.Xj{c:Cx}{st:St}{es:List Expr}{ls:List Str}(h:wj es ls): ∀{Q:List AV->St->Prop},Q (ls.map λs=> .f (.str s)) st->uq c es st Q:=by
 induction h with
 |nil=>exact λq=>q
 |cons _ ih=>exact λq=>bz (ih q)
theorem rN: ∀l:List Str,cT (l.map λs=> .f (.str s)) (l.map .str):=by
 intro lz;induction lz with
 |nil=>exact .nil
 |cons _ l ih=>exact .cons (.f rfl) (ih)
inductive Chain(x a:Str):List aa4->List aa4->Prop
 |here {lit:Str} {p1 p2 p3 pos:Pos} {k:Nat} {b r:List aa4}:(a==lit)=true->Chain x a [.If (.Compare (.Name x p1) [.Eq] [.Constant (.str lit) k p2] p3) b r pos] b
 |skip {lit:Str} {p1 p2 p3 pos:Pos} {k:Nat} {b r t:List aa4}:(a==lit)=false->Chain x a r t->Chain x a [.If (.Compare (.Name x p1) [.Eq] [.Constant (.str lit) k p2] p3) b r pos] t
theorem Chain.Zn{c:Cx}{st:St}{x a:Str}{l t:List aa4}(O:Ok c)(i:Nat)(hi:st.loc[i]?=some (x,.f (.str a)))(hl:c.env.kindOf x=some .local)(hd:(x==("__debug__" :Str))=false)(h:Chain x a l t){Q:Fl->St->Prop}(q:bM c t st Q):bM c l st Q:=by
 have one: ∀{b:List aa4},bM c b st Q->bM c b st (Fp c [] Q):=λh=>h.mono λf aO q=>by cases f<;>first|exact aj q|exact q
 induction h with
 |here e=>exact ah (aK (aE (af O i hi (bz (b8 true ⟨_,rfl,one q⟩ e)) hl hd)))
 |skip e _ ih=>exact ah (aK (aE (af O i hi (bz (b8 false ⟨_,rfl,one (ih q)⟩ e)) hl hd)))
theorem Chain.ex{c:Cx}{st:St}{x a:Str}{s:aa4}{t:List aa4}(O:Ok c)(i:Nat)(hi:st.loc[i]?=some (x,.f (.str a)))(h:Chain x a [s] t){Q:Fl->St->Prop}(q:bM c t st Q)(hl:c.env.kindOf x=some .local:=by rfl)(hd:(x==("__debug__" :Str))=false:=by kernel_rfl):Ex c s st Q:=by
 cases h with
 |here e=>exact aK (aE (af O i hi (bz (b8 true ⟨_,rfl,q⟩ e)) hl hd))
 |skip e h=>exact aK (aE (af O i hi (bz (b8 false ⟨_,rfl,h.Zn O i hi hl hd q⟩ e)) hl hd))
inductive Sets:List aa4->Str->Str->List Str->Prop
 |mk {sh lo:Str} {es:List Expr} {b6:List Str} {k1 k2 k3:Nat} {p1 p2 p3 p4 p5 p6 p7 p8 p9 q1 q2 q3 q4 q5 q6 q7 q8:Pos}:wj es b6->b6.length.ble 10=true->
  Sets [.Assign [.Attribute (.Name "self" p1) "shortname" p2] (.Constant (.str sh) k1 p3) p4,.Assign [.Attribute (.Name "self" p5) "longname" p6] (.Constant (.str lo) k2 p7) p8,.Assign [.Attribute (.Name "self" p9) "algorithms" q1] (.Tuple es k3 q2) q3,
   .Assign [.Attribute (.Name "self" q4) "resolute_values" q5] (.Attribute (.Name "self" q6) "_RESOLUTE_VALUES_FOR_SEQUENTIAL_RULES" q7) q8] sh lo b6
section
variable{prog:d5}{w:fA}{tt:List dq}
theorem Vi (P:mA):iB (KK P) 364 346 eH (bodyOf eH) where
 makes:=tr
 init:=rfl
 fn:=rfl
 def_:=UN P
variable{V:Fx}{n:Nat}
theorem Ko {id sh lo:Str}{b6:List Str}{t:List aa4}(ht:Chain "rule_id" id (((bodyOf eH).drop 1).take 1) t)(hs:Sets t sh lo b6)(O' :bQ (b7 tt eH 346 (KK w.params) prog w V) n){Q:Fl->St->Prop}
  (hQ:bM (b7 tt eH 346 (KK w.params) prog w V) ((bodyOf eH).drop 2) ⟨[("self",.own 0),("rule_id",.f (.str id))],[.inst 364 1,.attrs [("resolute_values",.f (.val (.ref 339))),("algorithms",.n (.tuple (b6.map .str))),("longname",.f (.str lo)),("shortname",.f (.str sh)),("rule_id",.f (.str id))] 5]⟩ Q):
  bM (b7 tt eH 346 (KK w.params) prog w V) (bodyOf eH) ⟨[("self",.own 0),("rule_id",.f (.str id))],[.inst 364 1,.attrs [] 0]⟩ Q:=by
 have O:=O'.toOk;refine ah (bI O (af O 1 rfl (af O 0 rfl ⟨0,1,364,_,_,rfl,rfl,rfl,by decide,by kernel_rfl,by kernel_rfl,ah (Chain.ex O 1 rfl ht ?_)⟩)));cases hs with
 |mk hl hlen=>
 refine ah (bI O (bz (af O 0 rfl ⟨0,1,364,_,_,rfl,rfl,rfl,by decide,by kernel_rfl,by kernel_rfl,ah (bI O (bz (af O 0 rfl ⟨0,1,364,_,_,rfl,rfl,rfl,by decide,by kernel_rfl,by kernel_rfl,ah (bI O (e7 O hl.plain (hl.Xj ⟨by rw[ag];exact Nat.ble_eq_true_of_le (ae (bo hlen) (by decide)),_,rN b6,af O 0 rfl ⟨0,1,364,_,_,rfl,rfl,rfl,by decide,by kernel_rfl,by kernel_rfl,?_⟩⟩)))⟩)))⟩)));exact ah (bI O (FT O (af O 0 rfl ⟨364,.ref 339,.own rfl rfl (by kernel_rfl),by kernel_rfl,af O 0 rfl ⟨0,1,364,_,_,rfl,rfl,rfl,by decide,by kernel_rfl,by kernel_rfl,aj hQ⟩⟩)))
end
structure cM(n:Nat)(A:ka):Prop where
 hh:A.handled=none
 dp:A.depth+4*n<ph
 un:A.units+40*n<cLine
structure HeapOk(K:abE)(tt:List dq)(s:a8):Prop where
 cO:K.In s.heap
 kt: ∀a o,K.lookup a=some o->a∉tt
 lim:s.heap.NoLimit
 st:aaj∉tt
 sz: ∀a∈tt,a<s.heap.objs.size
 tab: ∀a∈tt,dm s.heap a
theorem HeapOk.good{K:abE}{tt:List dq}{s:a8}{n:Nat}{A:ka}(h:HeapOk K tt s)(r:cM n A):Good K tt n A s:=⟨r.hh,r.dp,r.un,h.cO,h.kt,h.lim,h.st,h.sz,h.tab⟩
structure Gx where
 prog:d5
 w:fA
 K:abE
 tt:List dq
 cl:List (dq×a7)
 g0:Array de
 os:ac6
structure c8(g:Gx)(ro:List (a7×FV))(H:List (dq×Obj))(X:List de)(s:a8):Prop where
 ok:HeapOk g.K g.tt s
 ro: ∀p∈ro,VR s.heap (λa=>a∉g.tt/\a∉HA H) p.2 p.1
 cl: ∀p∈g.cl,s.heap.IsCell p.1 (some p.2)/\p.1∉g.tt/\p.1∉HA H
 aV: ∀p∈H,s.heap.get? p.1=some p.2/\p.1∉g.tt/\g.K.lookup p.1=none/\p.1≠aaj
 nd:(HA H).Nodup
 gens: ∃tl:List de,s.gens=g.g0++(X++tl).toArray/\ ∀y∈tl,y.bare=true
 bare: ∀y∈X,y.bare=true
 os:s.os=g.os
structure Fin'(g:Gx)(H:List (dq×Obj))(X:List de)(s:a8)(X' :List de)(s' :a8):Prop where
 keep: ∀b o,b∉g.tt->b∉HA H->s.heap.get? b=some o->s'.heap.get? b=some o
 tab: ∀b∈g.tt,dm s.heap b->dm s'.heap b
 os:s'.os=s.os
 len:X'.length=X.length
 bare: ∀y∈X',y.bare=true
 gens: ∀tl:List de,s.gens=g.g0++(X++tl).toArray-> ∃vO:List de,s'.gens=g.g0++(X' ++(tl++vO)).toArray/\ ∀y∈vO,y.bare=true
structure c9(g:Gx)(H:List (dq×Obj))(X:List de)(s:a8)(H' :List (dq×Obj))(X' :List de)(s' :a8):Prop extends Fin' g H X s X' s' where
 there: ∀a∈HA H,a∉g.tt->(s.heap.get? a).isSome->(s'.heap.get? a).isSome
 aV: ∀p∈H',s'.heap.get? p.1=some p.2
 new: ∀p∈H',p.1∈HA H∨(s.heap.get? p.1=none/\p.1∉g.tt)
 nd:(HA H').Nodup
def Yv(g:Gx)(ro:List (a7×FV))(H:List (dq×Obj))(s:a8)(H' :List (dq×Obj))(s' :a8)(ys:List (a7×FV)):Prop:=∀P:dq->Prop,(∀a,P a->a∉g.tt/\a∉HA H)->(∀p∈ro,VR s.heap P p.2 p.1)-> ∀q∈ys,VR s'.heap (λa=>P a∨(fC g.tt s.heap a/\a∉HA H')) q.2 q.1
inductive QJ(g:Gx)(H:List (dq×Obj))(X:List de)(s:a8)(r:Option a7)(s' :a8):Prop
 |mk (e:r=none) (X' :List de) (F:Fin' g H X s X' s')
inductive QK(g:Gx)(x:FV)(ro:List (a7×FV))(H:List (dq×Obj))(X:List de)(s:a8)(N:List (a7×FV)->List (dq×Obj)->List de->Prop)(v:a7)(s' :a8):Prop
 |mk (cY:List (a7×FV)) (H' :List (dq×Obj)) (X' :List de) (S:c9 g H X s H' X' s') (Y:Yv g ro H s H' s' ((v,x)::cY)) (L:N cY H' X')
inductive LR(M:adC)(A:ka)(tgt:Expr)(I:dq)(T:a7->a8->Prop)(r:Option a7)(s1:a8):Prop
 |mk (v:a7) (e:r=some v) (h:dE M A (Z3 tgt (.ref I) v) (λaa=>T v) (λaa aa=>False) s1)
def gf(g:Gx)(A:ka)(tgt:Expr)(I:dq):List FV->List (a7×FV)->List (dq×Obj)->List de->Prop
 | [],ro,H,X=> ∀s,c8 g ro H X s->dE (dC g.prog g.w) A (aaW (.ref I)) (QJ g H X s) (λaa aa=>False) s
 |x::l,ro,H,X=> ∀s,c8 g ro H X s->dE (dC g.prog g.w) A (aaW (.ref I)) (LR (dC g.prog g.w) A tgt I (QK g x ro H X s (gf g A tgt I l))) (λaa aa=>False) s
def lW(g:Gx)(I:dq)(ro:List (a7×FV))(H:List (dq×Obj))(X:List de):Prop:=∀(A:ka) (s:a8) (Q:a7->a8->Prop),c8 g ro H X s->Q (.ref I) s->dE (dC g.prog g.w) A (aba (.ref I)) Q (λaa aa=>False) s
section
variable{g:Gx}{ro cY:List (a7×FV)}{v:a7}{x:FV}{H H' :List (dq×Obj)}{X X' :List de}{s s' uP:a8}
theorem HeapOk.step (h:HeapOk g.K g.tt s)(hH: ∀p∈H,g.K.lookup p.1=none/\p.1≠aaj)(keep: ∀b o,b∉g.tt->b∉HA H->s.heap.get? b=some o->s'.heap.get? b=some o)(tab: ∀b∈g.tt,dm s.heap b->dm s'.heap b):HeapOk g.K g.tt s' where
 cO:=λa o e=>keep a o (h.kt a o e) (λq=>by obtain⟨p,hp,rfl⟩:=bb.mp q;rw[(hH p hp).1]at e;exact(cu rfl e).elim) (h.cO a o e)
 kt:=h.kt
 lim:=by obtain⟨mc,hm,e⟩:=h.lim;exact⟨mc,hm.at' λo q=>keep _ o h.st (λq=>by obtain⟨p,hp,e⟩:=bb.mp q;exact(hH p hp).2 e) q,e⟩
 st:=h.st
 sz:=λa ha=>by obtain⟨o,ps,e,_⟩:=tab a ha (h.tab a ha);exact d4 e
 tab:=λa ha=>tab a ha (h.tab a ha)
theorem c9.Cy(R:c8 g ro H X s)(S:c9 g H X s H' X' s')(Y:Yv g ro H s H' s' ((v,x)::cY)):c8 g cY H' X' s' where
 ok:=R.ok.step (λp hp=>(R.aV p hp).2.2) S.keep S.tab
 ro:=λp hp=>by
  have h1:=Y (λa=>(a∉g.tt/\a∉HA H)/\(s.heap.get? a).isSome) (λa q=>q.1) (λp hp=>(R.ro p hp).there) p (.tail _ hp);refine VR.mono (λaa aa aa e=>e) (λa q=>?_) h1;rcases q with q|q
  ·refine⟨q.1.1,λz=>?_⟩;obtain⟨p',o6,rfl⟩:=bb.mp z;rcases S.new p' o6 with y|y
   ·exact q.1.2 y
   ·rw[y.1]at q;exact absurd q.2 (by decide)
  ·exact⟨q.1.2,q.2⟩
 cl:=λp hp=>by
  obtain⟨⟨o,e,d⟩,h1,h2⟩:=R.cl p hp;refine⟨⟨o,S.keep _ o h1 h2 e,d⟩,h1,λz=>?_⟩;obtain⟨p',o6,e'⟩:=bb.mp z;rcases S.new p' o6 with y|y
  ·exact h2 (e' ▸y)
  ·rw[e',e]at y;cases y.1
 aV:=λp hp=>by
  refine⟨S.aV p hp,?_⟩;rcases S.new p hp with y|y
  ·obtain⟨p',o6,e⟩:=bb.mp y;refine bS (e ..) ?_;exact(R.aV p' o6).2
  ·refine⟨y.2,?_,?_⟩
   ·cases q:g.K.lookup p.1 with
    |none=>rfl
    |some o=>have:=R.ok.cO _ _ q;rw[y.1]at this;exact(cu rfl this).elim
   ·intro q;obtain⟨mc,⟨o,_,_,e,_⟩,_⟩:=R.ok.lim;rw[q,e]at y;cases y.1
 nd:=S.nd
 gens:=by obtain⟨tl,e,hb⟩:=R.gens;obtain⟨vO,e',gC⟩:=S.gens tl e;exact⟨tl++vO,e',λy hy=>(cp.mp hy).elim (hb y) (gC y)⟩
 bare:=S.bare
 os:=S.os.trans R.os
theorem c9.mS(R:c8 g ro H X s)(S:c9 g H X s H' X' s')(Y:Yv g ro H s H' s' cY):c8 g cY H' X' s' :=c9.Cy (v:= .none) (x:= .any) R S λP hP jc=>bH trivial (Y P hP jc)
theorem c9.Cz(S:c9 g H X s H' X' s')(ht:a∉g.tt)(e:s'.heap.get? a=none):s.heap.get? a=none:=by
 cases q:s.heap.get? a with
 |none=>rfl
 |some o=>
  by_cases z:a∈HA H
  ·have:=S.there a z ht (by rw[q];rfl);rw[e]at this;exact(um rfl this).elim
  ·rw[S.keep a o ht z q]at e;exact(cu e rfl).elim
theorem Fin'.trans{H2:List (dq×Obj)}{X2 X3:List de}{s2 s3:a8}(S1:c9 g H X s H2 X2 s2)(S2:Fin' g H2 X2 s2 X3 s3):Fin' g H X s X3 s3 where
 keep:=λb o h1 h2 e=>S2.keep b o h1 (λq=>by
  obtain⟨p,hp,rfl⟩:=bb.mp q;rcases S1.new p hp with y|y
  ·exact h2 y
  ·rw[e]at y;cases y.1) (S1.keep b o h1 h2 e)
 tab:=λb hb t=>S2.tab b hb (S1.tab b hb t)
 os:=S2.os.trans S1.os
 len:=S2.len.trans S1.len
 bare:=S2.bare
 gens:=λtl e=>by obtain⟨t1,e1,h1⟩:=S1.gens tl e;obtain⟨t2,e2,h2⟩:=S2.gens (tl++t1) e1;exact⟨t1++t2,by rewrite [<-hJ tl];exact e2,λy hy=>(cp.mp hy).elim (h1 y) (h2 y)⟩
theorem c9.trans(S1:c9 g H X s H2 X2 s2)(S2:c9 g H2 X2 s2 H3 X3 s3):c9 g H X s H3 X3 s3:=
 {toFin' :=Fin'.trans S1 S2.toFin'
  there:=λa ha ht hs=>by
   have h2:=S1.there a ha ht hs
   by_cases q:a∈HA H2
   ·exact S2.there a q ht h2
   ·obtain⟨o,e⟩:=cx.mp h2;rw[S2.keep a o ht q e];rfl
  aV:=S2.aV
  new:=λp hp=>by
   rcases S2.new p hp with y|y
   ·obtain⟨p',o6,e⟩:=bb.mp y;refine bS (e ..) ?_;exact S1.new p' o6
   ·exact .inr ⟨S1.Cz y.2 y.1,y.2⟩
  nd:=S2.nd}
theorem Yv.trans(S1:c9 g H X s H2 X2 s2)(Y1:Yv g ro H s H2 s2 JA)(S2:c9 g H2 X2 s2 H3 X3 s3)(Y2:Yv g JA H2 s2 H3 s3 ys):Yv g ro H s H3 s3 ys:=λP hP jc q hq=>by
 have h1:=Y1 (λa=>P a/\(s.heap.get? a).isSome) (λa h=>hP a h.1) (λp hp=>(jc p hp).there);have h2:=Y2 (λa=>((P a/\(s.heap.get? a).isSome)∨(fC g.tt s.heap a/\a∉HA H2))/\(s2.heap.get? a).isSome) (λa h=>by
  rcases h.1 with h|h
  ·refine⟨(hP a h.1).1,λz=>?_⟩;obtain⟨p,hp,rfl⟩:=bb.mp z;rcases S1.new p hp with y|y
   ·exact(hP _ h.1).2 y
   ·rw[y.1]at h;exact absurd h.2 (by decide)
  ·exact⟨h.1.2,h.2⟩) (λp hp=>(h1 p hp).there) q hq
 refine VR.mono (λaa aa aa e=>e) (λa h=>?_) h2;rcases h with⟨h|h,hs⟩|h
 ·exact .inl h.1
 ·refine .inr ⟨h.1,λz=>?_⟩;obtain⟨p,hp,e⟩:=bb.mp z;rcases S2.new p hp with y|y
  ·exact h.2 (e▸y)
  ·rw[e]at y;rw[y.1]at hs;exact absurd hs (by decide)
 ·exact .inr ⟨⟨S1.Cz h.1.2 h.1.1,h.1.2⟩,h.2⟩
theorem Yv.same(S:c9 g H X s H' X' s'):Yv g ro H s H' s' ro:=λP hP jc q hq=>VR.mono (λa o h e=>S.keep a o (hP a h).1 (hP a h).2 e) (λaa h=> .inl h) (jc q hq)
theorem VR.lst{x:dq}(H:VR h P (.list l) (.ref x)):E2 λvs n=>h.get? x=some ⟨.type "list",none,.seq (mM vs) n,#[]⟩/\eW h P l vs:=by obtain⟨_,vs,n,e,_,g,r⟩:=H;cases e;exact⟨vs,n,g,r⟩
theorem VR.Xk{h:wq}{P:dq->Prop}{l:List FV}{x:dq}{vs:List a7}{n i:Nat}{b:FV}{u:a7}(H:VR h P (.list l) (.ref x))(gx:h.get? x=some ⟨.type "list",none,.seq (mM vs) n,#[]⟩)(hb:l[i]?=some b)(hu:vs[i]?=some u):VR h P b u:=by obtain⟨vs',n',g,r⟩:=H.lst;rw[gx]at g;obtain⟨u',SV,q⟩:=r.get hb;cases g;rw[hu]at SV;cases SV;exact q
theorem CA(k: ∀b o,b≠I->s.heap.get? b=some o->h'.get? b=some o)(e:h'.get? I=some o')(ht:I∉g.tt):c9 g [(I,o)] [] s [(I,o')] [] {s with heap:=h',toks:=tk} where
 keep:=λb o aa hb e=>k b o (λq=>hb (q▸ .head _)) e
 tab:=λb hb t=>t.of λo=>k b o λq=>ht (q▸hb)
 os:=rfl
 len:=rfl
 bare:=λaa h=>nomatch h
 gens:=λtl e=>⟨[],by rw[fw];exact e,λaa h=>nomatch h⟩
 there:=λa ha aa aa=>by
  have:a=I:=by simpa using ha
  subst this;rw[e];rfl
 aV:=λp hp=>by
  have:p=(I,o'):=by simpa using hp
  subst this;exact e
 new:=λp hp=> .inl (by
  have:p=(I,o'):=by simpa using hp
  subst this;exact .head _)
 nd:=by simp
theorem CB(k: ∀b o,b≠I->s.heap.get? b=some o->h'.get? b=some o)(ht:I∉g.tt):Fin' g [(I,o)] [] s [] {s with heap:=h',toks:=tk} where
 keep:=λb o aa hb e=>k b o (λq=>hb (q▸ .head _)) e
 tab:=λb hb t=>t.of λo=>k b o λq=>ht (q▸hb)
 os:=rfl
 len:=rfl
 bare:=λaa h=>nomatch h
 gens:=λtl e=>⟨[],by rw[fw];exact e,λaa h=>nomatch h⟩
def plainT(tgt:Expr):Prop:= ∀it v,Z3 tgt it v=pure ()
theorem DO{x:dq}(hh:A.handled=none)(ht:plainT tgt): ∀(r:List FV) (i:Nat) (o:Obj),l.drop i=r->o.cls= .type "list_iterator" ->o.data= .fields #[.ref x,.int i 0]->
  gf g A tgt I r [(.ref x,.list l)] [(I,o)] []:=by
 intro lz;induction lz with
 |nil=>intro i o hr h1 h2;intro s R;obtain⟨vs,n,gx,r⟩:=VR.lst (R.ro _ (.head _));have hI:=R.aV _ (.head _);refine aaa hh ⟨o,hI.1,h1,h2⟩ (aP gx) ?_ λh' he=>⟨rfl,[],CB (λb o hb e=>he b o hb e) hI.2.1⟩;rw[yB];exact mn (by rw[r.length];exact E0 hr)
 |cons b r ih=>intro i o hr h1 h2;intro s R;refine nn λhN=>?_;obtain⟨vs,n,gx,rr⟩:=VR.lst (R.ro _ (.head _));have hI:=R.aV _ (.head _);have hb:=BW hr;obtain⟨u,hu,q⟩:=rr.get hb.1;refine hN (Ts ⟨o,hI.1,h1,h2⟩ (aP gx) (by rw[yB];exact hu) λh' hit hs=>?_);obtain⟨o',g',vU,vV⟩:=hit;have S:c9 g [(I,o)] [] s [(I,o')] [] {s with heap:=h',toks:=s.toks}:=CA (tk:=s.toks) (λb o hb e=>(hs.2 b hb).trans e) g' hI.2.1;exact⟨u,rfl,kA (a:=()) (ht _ _) ⟨[(.ref x,.list l)],[(I,o')],[],S,λP hP AQ=>bH (VR.mono (λa o p e=>S.keep a o (hP a p).1 (hP a p).2 e) (λaa p=> .inl p) ((AQ _ (.head _)).Xk gx hb.1 hu)) (Yv.same S P hP AQ),ih (i+1) o' hb.2 vU vV⟩⟩
theorem xR{x:dq}(hh:A.handled=none)(ht:plainT tgt)(hm:m∈[7,15,31])(hn:n<64)(hd:d<64)(h0:d&&&n=0): ∀(r:List (Int×a7)) (k slot:Nat),(fc g.w x ep n tk).toList.drop k=r->uJ g.w slot k n->
  gf g A tgt I (r.map λe=> .int e.1) [(.ref x,.obj (aL (aq g.w) mv m n d ep tk))] [(I,nK slot k x (aB n).length ep)] []
 | [],k,slot,hr,hs=>λs R=>by refine nn λhN=>?_;obtain⟨y,e,_,gx⟩:=R.ro _ (.head _);cases e;refine hN ?_;have hI:=R.aV _ (.head _);refine wc hh gx hm hn hd h0 hI.1 hs ?_ λh' he=>⟨rfl,[],CB (λb o hb e=>he b o hb e) hI.2.1⟩;have:=E0 hr;rw[aaO]at this;exact Tb this
 |b::r,k,slot,hr,hs=>λs R=>by
  obtain⟨y,e,_,gx⟩:=R.ro _ (.head _);cases e;have hI:=R.aV _ (.head _);have hb:(fc g.w x ep n tk)[k]?=some b:=by refine bS (Array.getElem?_toList ..) ?_;exact(BW hr).1
  obtain⟨i,t,hi,eb⟩:=o7 g.w x ep n tk b (by
   have:b∈(fc g.w x ep n tk).toList.drop k:=by rw[hr];exact .head _
   exact ael this)
  refine tR gx hm hn hd h0 hI.1 hs hb λh' jH g' B8 Xl=>?_;have S:c9 g [(I,nK slot k x (aB n).length ep)] [] s [(I,nK jH (k+1) x (aB n).length ep)] [] {s with heap:=h',toks:=s.toks}:=CA (tk:=s.toks) (λb o hb e=>(Xl.2 b hb).trans e) g' hI.2.1;refine⟨b.2,rfl,kA (a:=()) (ht _ _) ⟨[(.ref x,.obj (aL (aq g.w) mv m n d ep tk))],_,[],S,λP hP AQ=>?_,xR (mv:=mv) (m:=m) (d:=d) (ep:=ep) (tk:=tk) hh ht hm hn hd h0 r (k+1) jH ?_ B8⟩⟩
  ·exact bH (by rw[eb];exact⟨t,rfl⟩) (Yv.same S P hP AQ)
  ·exact(BW hr).2
end
open PySem.Sem (wp)
def bN(M:adC)(A:ka)(F:End->a8->Prop)(c:Code)(t:Sem PySem.Fin)(fs:List Frame)(s:a8):Prop:=∀Γ p,Γ.code=c->Γ.Woken A-> ∃e s',Runs M Γ p t fs s e s' /\F e s'
section
variable{M:adC}{A:ka}{F:End->a8->Prop}{c:Code}{fs:List Frame}{s:a8}
theorem nM {α:Type}{m:Sem α}{K:α->Sem PySem.Fin}{H:a7->Sem PySem.Fin}{gd lv}
  (h:dE M (A.over c fs) m (λa s' =>bN M A F c (K a) fs s') (λx s' =>bN M A F c (H x) fs s') s):bN M A F c (m.wrap K H gd lv) fs s:=by
 rintro Γ p rfl hΓ;exact runs_wrap_of_wp K H gd lv m (h (Γ.over fs) p (hΓ.over fs)) (λa p' s' h' =>h' Γ p' rfl hΓ) (λx p' s' h' =>h' Γ p' rfl hΓ)
theorem aT{α β:Type}{m:Sem α}{K:α->Sem β}{K' :β->Sem PySem.Fin}{H' :a7->Sem PySem.Fin}{gd lv}
  (h:dE M (A.over c fs) m (λa s' =>bN M A F c ((K a).wrap K' H' gd lv) fs s') (λx s' =>bN M A F c (H' x) fs s') s):bN M A F c ((m>>=K).wrap K' H' gd lv) fs s:=by
 rw[xi];rw[Hn];exact nM h
theorem GH(h:bN M A F c (k ()) fs s):bN M A F c (.at p' k) fs s:=nM (m:=aau p') (K:=k) (H:= .raise) (gd:=id) (lv:=id) (rn h)
theorem GI(h:bN M A F c (k ()) fs s):bN M A F c (.point l k) fs s:=nM (m:=point) (K:=k) (H:= .raise) (gd:=id) (lv:=λaa=>l) (agB h)
theorem Kp{h g l}(hc: ∀p,bN M A F c' (M.den c') (.ret k h g l c p []::fs) s):bN M A F c (.call c' h g l k) fs s:=by rintro Γ p rfl hΓ;obtain⟨e,s',hr,he⟩:=hc p (Γ.goto c') p rfl (hΓ.goto c');exact⟨e,s',runs_call_seg hr,he⟩
theorem Kq{k h g l c₁ p₁ kp}(r:abS)(hk:bN M A F c₁ (k r) fs s):bN M A F c (leafOf r) (.ret k h g l c₁ p₁ kp::fs) s:=by rintro Γ p rfl hΓ;obtain⟨e,s',hr,he⟩:=hk (Γ.goto c₁) p₁ rfl (hΓ.goto c₁);exact⟨e,s',Runs.pop r hr,he⟩
theorem g9(hq:c'.quiet=true)(hc:bN M A F c' (M.den c') fs s):bN M A F c (.pure (.again c')) fs s:=by rintro Γ p rfl hΓ;obtain⟨e,s',hr,he⟩:=hc (Γ.goto c') p rfl (hΓ.goto c');exact⟨e,s',Runs.head (c₁:=c') (λaa aa x=> .again hq x) hr,he⟩
theorem GJ(r:abS)(h:F (.ret r) s):bN M A F c (leafOf r) [] s:=by rintro Γ p rfl _;exact⟨.ret r,s,Runs.leaf r,h⟩
theorem xS{v g l}(QL:aei fs=none)(h: ∀p,F (.susp v g l k c p fs) s):bN M A F c (.yield v g l k) fs s:=by rintro Γ p rfl _;exact⟨_,s,Runs.yield' fs QL,h p⟩
def iX(M:adC)(A:ka)(F:End->a8->Prop)(gs:de)(s:a8):Prop:=
 match gs with
 | .fresh c=>bN M A F c (M.den c) [] s
 | .suspended k _ c _ fs _=>bN M A F c (k (.send .none)) fs s
 |_=>False
theorem CC{E:a7->a8->Prop}{g:Nat}{gs:de}{l:List a7}{α:Type}{k:ahX->Sem α}{Q:α->a8->Prop}(hg:s.gens[g]?=some gs)(CD:iX M A F gs (s.setGen g .running))
  (hF: ∀e s₁,F e s₁->e.quiet=true/\dE M A (k e.result) Q E (s₁.setGen g e.genState)):dE M A (.resume g (.send .none) l k) Q E s:=by
 intro Γ p hΓ;rw[Sem.wp_resume];have hB: ∀c,(Γ.wake c p).Woken A:=λc=>hΓ.wake c p;cases gs with
 |fresh c=>obtain⟨e₁,s₁,hr,he⟩:=CD (Γ.wake c p) p rfl (hB c);exact⟨_,_,by unfold Wakes;rw[hg];exact⟨e₁,s₁,hr,(hF e₁ s₁ he).1,rfl,rfl⟩,(hF e₁ s₁ he).2 Γ p hΓ⟩
 |suspended k₀ l₀ c₀ p₀ Xm cl=>obtain⟨e₁,s₁,hr,he⟩:=CD (Γ.wake c₀ p) p₀ rfl (hB c₀);exact⟨_,_,by unfold Wakes;rw[hg];exact⟨e₁,s₁,hr,(hF e₁ s₁ he).1,rfl,rfl⟩,(hF e₁ s₁ he).2 Γ p hΓ⟩
 |running=>exact CD.elim
 |finished=>exact CD.elim
end
section
variable{prog:d5}{w:fA}{A:ka}{E:a7->a8->Prop}{s:a8}{F:End->a8->Prop}
theorem rO (hh:A.handled=none)(hl:s.heap.NoLimit)(fX:A.depth<ph)(hg:s.heap.IsGen a g)(QM:s.gens[g]?=some gs)
  (CD:iX (dC prog w) A.in1 F gs (s.setGen g .running))
  (hF: ∀e s₁,F e s₁->e.quiet=true/\((∃v,e.result= .yielded v/\Q (some v) (s₁.setGen g e.genState))∨((e= .ret (.ok (.ret .none))∨e= .ret (.ok .next))/\ ∀h',(∀b o,s₁.heap.get? b=some o->h'.get? b=some o)->Q none {s₁.setGen g .finished with heap:=h' }))):
  dE (dC prog w) A (aaW (.ref a)) Q E s:=by
 unfold aaW;refine ab (ab0 (vx (name:=fe "__next__") hg.typeIs ab3
  (oe ab3 hg.typeIs entry_gen_next ?_ (args_gen_next _))))
 show dE _ A.in1 (H5 (.ref a) (.send .none)) _ _ s;unfold H5;refine ab (eJ (agT hg (ab (wpAny_genState QM ?_))));have main: ∀{k:ahX->Sem PySem.Fin} {Q' :PySem.Fin->a8->Prop} {E' :a7->a8->Prop} {l:List a7},(∀(v:a7) (s' :a8),Q (some v) s' ->dE (dC prog w) A.in1 (k (.yielded v)) Q' E' s')->
   (∀s₁:a8,(∀h' :wq,(∀b o,s₁.heap.get? b=some o->h'.get? b=some o)->Q none {s₁.setGen g .finished with heap:=h' })->dE (dC prog w) A.in1 (k (.returned .none)) Q' E' (s₁.setGen g .finished))->
   dE (dC prog w) A.in1 (.resume g (.send .none) l k) Q' E' s:=λh1 h2=>by
  refine CC QM CD λe s₁ he=>?_;obtain⟨q,z⟩:=hF e s₁ he;refine⟨q,?_⟩;rcases z with⟨v,e1,e2⟩|⟨rfl|rfl,z⟩
  ·rw[e1];exact h1 v _ e2
  ·exact h2 s₁ z
  ·exact h2 s₁ z
 cases gs with
 |running=>exact CD.elim
 |finished=>exact CD.elim
 |_=>
  refine ab (agd hl fX (main (λv s' hq=>?_) λs₁ hq=>?_))
  ·exact ax ⟨v,rfl,ax hq⟩
  ·show dE _ _ (newExc (.type "StopIteration") []>>=_) _ _ _;refine ab (ab (oP (ab (m:=aaC _ _) (kA (a:=tI) (by first|rfl|(simp only[aaC];rfl)) ?_)) (by size_fits)));refine oP (ab (ab (afj ?_))) (by size_fits);rw[show A.in1.handled=none from hh];exact agO (ab (ub (T:="StopIteration") (b:=true) ⟨_,bc _ rfl,rfl⟩ aeD (ax (hq _ λb o hb=>aw _ (aw _ hb)))))
end
section
variable{g:Gx}{ro cY:List (a7×FV)}{v:a7}{x:FV}{H H' :List (dq×Obj)}{X X' :List de}{s s' uP:a8}{a b:de}
theorem set_gens:(g0++(X++(a::tl)).toArray).setIfInBounds (g0.size+X.length) b=g0++(X++(b::tl)).toArray:=by apply RR;rw[Array.toList_setIfInBounds];rw[aeM];rw[aeM];rw[abJ _ _ (by simp)];simp
theorem get_gens:(g0++(X++(a::tl)).toArray)[g0.size+X.length]?=some a:=by rw[Array.getElem?_append_right (cb g0.size X.length)];simp
noncomputable abbrev ix(g:Gx)(X:List de):Nat:=g.g0.size+X.length
theorem AR:(X++[a])++tl=X++(a::tl):=by simp
theorem c8.set(R:c8 g ro H (X++[a]) s)(hb:b.bare=true):c8 g ro H (X++[b]) (s.setGen (ix g X) b) where
 ok:=⟨R.ok.cO,R.ok.kt,R.ok.lim,R.ok.st,R.ok.sz,R.ok.tab⟩
 ro:=R.ro
 cl:=R.cl
 aV:=R.aV
 nd:=R.nd
 gens:=by obtain⟨tl,e,ht⟩:=R.gens;refine⟨tl,?_,ht⟩;show s.gens.setIfInBounds (ix g X) b=_;rw[e];rw[AR];rw[AR];rw[set_gens];rfl
 bare:=λy hy=>by
  rcases cp.mp hy with hy|hy
  ·exact R.bare y (bp _ hy)
  ·have:y=b:=by simpa using hy
   subst this;exact hb
 os:=R.os
theorem c8.at_(R:c8 g ro H (X++[a]) s):s.gens[ix g X]?=some a:=by obtain⟨tl,e,_⟩:=R.gens;rw[e];rw[AR];exact get_gens
theorem Fin'.set(F:Fin' g H (X++[.running]) (s.setGen (ix g X) .running) (X' ++[.running]) s')(hb:b.bare=true):Fin' g H (X++[a]) s (X' ++[b]) (s'.setGen (ix g X) b) where
 keep:=F.keep
 tab:=F.tab
 os:=F.os
 len:=by have:=F.len;simp only[dy,ad4]at this⊢;exact this
 bare:=λy hy=>by
  rcases cp.mp hy with hy|hy
  ·exact F.bare y (bp _ hy)
  ·have:y=b:=by simpa using hy
   subst this;exact hb
 gens:=λtl e=>by
  have hl:X'.length=X.length:=by have:=F.len;simpa using this
  obtain⟨vO,e',ht⟩:=F.gens tl (by show s.gens.setIfInBounds (ix g X) .running=_;rw[e];rw[AR];rw[AR];rw[set_gens];rfl)
  refine⟨vO,?_,ht⟩;show s'.gens.setIfInBounds (ix g X) b=_;rw[e'];rw[AR];rw[AR];rw[show ix g X=g.g0.size+X'.length by rw[hl];rfl];rw[set_gens];rfl
theorem c9.set(F:c9 g H (X++[.running]) (s.setGen (ix g X) .running) H' (X' ++[.running]) s')(hb:b.bare=true):c9 g H (X++[a]) s H' (X' ++[b]) (s'.setGen (ix g X) b):={toFin' :=Fin'.set F.toFin' hb,there:=F.there,aV:=F.aV,new:=F.new,nd:=F.nd}
inductive LS(g:Gx)(ga:dq×Obj)(H:List (dq×Obj))(X:List de)(s:a8)(e:End)(s₁:a8):Prop
 |mk (h:e= .ret (.ok (.ret .none))∨e= .ret (.ok .next)) (X' :List de) (F:Fin' g (ga::H) (X++[.running]) s (X' ++[.running]) s₁)
inductive LU(g:Gx)(ga:dq×Obj)(x:FV)(ro:List (a7×FV))(H:List (dq×Obj))(X:List de)(s:a8)(N:List (a7×FV)->List (dq×Obj)->List de->de->Prop)(e:End)(s₁:a8):Prop
 |mk (v:a7) (h:e.result= .yielded v) (q:e.quiet=true) (cY:List (a7×FV)) (H' :List (dq×Obj)) (X' :List de) (S:c9 g (ga::H) (X++[.running]) s (ga::H') (X' ++[.running]) s₁) (Y:Yv g ro (ga::H) s (ga::H') s₁ ((v,x)::cY)) (G:N cY H' X' e.genState)
def iY(g:Gx)(A:ka)(ga:dq×Obj):List FV->List (a7×FV)->List (dq×Obj)->List de->de->Prop
 | [],ro,H,X,gs=> ∀s,c8 g ro (ga::H) (X++[.running]) s->iX (dC g.prog g.w) A (LS g ga H X s) gs s
 |x::l,ro,H,X,gs=> ∀s,c8 g ro (ga::H) (X++[.running]) s->iX (dC g.prog g.w) A (LU g ga x ro H X s (iY g A ga l)) gs s
def wk(g:Gx)(A:ka)(ga:dq×Obj):List FV->List (a7×FV)->List (dq×Obj)->List de->a8->End->a8->Prop
 | [],_,H,X,s=>LS g ga H X s
 |x::l,ro,H,X,s=>LU g ga x ro H X s (iY g A ga l)
theorem iY.of(h: ∀s,c8 g ro (ga::H) (X++[.running]) s->iX (dC g.prog g.w) A (wk g A ga l ro H X s) gs s):iY g A ga l ro H X gs:=by cases l<;>exact h
theorem wk.trans(S1:c9 g (ga::H) (X++[.running]) s (ga::H2) (X2++[.running]) s2)(Y1:Yv g ro (ga::H) s (ga::H2) s2 JA)
  (h:wk g A ga l JA H2 X2 s2 e s₁):wk g A ga l ro H X s e s₁:=by
 cases l with
 |nil=>obtain⟨h,X',F⟩:=h;exact⟨h,X',Fin'.trans S1 F⟩
 |cons x l=>obtain⟨v,h1,h2,cY,H',X',S2,Y2,G⟩:=h;exact⟨v,h1,h2,cY,H',X',S1.trans S2,Yv.trans S1 Y1 S2 Y2,G⟩
theorem bN.mono(h:bN M A F c t fs s)(hF: ∀e s₁,F e s₁->F' e s₁):bN M A F' c t fs s:=fun Γ p hc hΓ=>by obtain⟨e,s',hr,he⟩:=h Γ p hc hΓ;exact⟨e,s',hr,hF e s' he⟩
theorem iX.mono(h:iX M A F gs s)(hF: ∀e s₁,F e s₁->F' e s₁):iX M A F' gs s:=by cases gs<;>first|exact h.elim|exact bN.mono h hF
theorem ia{h:wq}{ad:dq}{k:Nat}{oa:Obj}(e:h.get? ad=some oa)(ho:oa.cls= .type "generator" /\(E2 λnm qn=>oa.data= .fields #[.int k 0,nm,qn])/\oa.slots= #[]):h.IsGen ad k:=by obtain⟨h1,⟨nm,qn,h2⟩,h3⟩:=ho;exact⟨oa,nm,qn,e,h1,h2,h3⟩
theorem rP{A:ka}{tgt:Expr}{ad:dq}{oa:Obj}(ht:plainT tgt)(hh:A.handled=none)(fX:A.depth<ph): ∀(l:List FV) (ro:List (a7×FV)) (H:List (dq×Obj)) (X:List de) (gs:de),
  (oa.cls= .type "generator" /\(E2 λnm qn=>oa.data= .fields #[.int (ix g X:Nat) 0,nm,qn])/\oa.slots= #[])->iY g A.in1 (ad,oa) l ro H X gs->gf g A tgt ad l ro ((ad,oa)::H) (X++[gs]):=by
 intro lz;induction lz with
 |nil=>intro ro H X gs ho G;intro s R;refine rO (gs:=gs) hh R.ok.lim fX (ia (R.aV _ (.head _)).1 ho) R.at_ (G _ (R.set rfl)) λe s₁ hF=>?_;obtain⟨he,X',F⟩:=hF;refine⟨by rcases he with rfl|rfl<;>rfl,.inr ⟨he,λh' hk=>⟨rfl,X' ++[.finished],?_⟩⟩⟩;have F' :=Fin'.set (a:=gs) (b:= .finished) F rfl;exact⟨λb o h1 h2 e=>hk b o (F'.keep b o h1 h2 e),λb hb t=>(F'.tab b hb t).of λo=>hk b o,F'.os,F'.len,F'.bare,F'.gens⟩
 |cons x l ih=>
  intro ro H X gs ho G;intro s R;refine rO (gs:=gs) hh R.ok.lim fX (ia (R.aV _ (.head _)).1 ho) R.at_ (G _ (R.set rfl)) λe s₁ hF=>nn λhN=>?_;obtain⟨v,he,hq,cY,H',X',S,Y,G'⟩:=hF;refine hN ?_;have hl:X'.length=X.length:=by have:=S.len;simpa using this
  exact⟨hq,.inl ⟨v,he,v,rfl,kA (a:=()) (ht _ _) ⟨cY,(ad,oa)::H',X' ++[e.genState],c9.set S (acZ hq),Y,ih cY H' X' e.genState (by rw[show ix g X' =ix g X by unfold ix;rw[hl];rfl];exact ho) G'⟩⟩⟩
theorem uQ{ad:dq}{oa:Obj}{k:Nat}(ho:oa.cls= .type "generator" /\(E2 λnm qn=>oa.data= .fields #[.int k 0,nm,qn])/\oa.slots= #[]):lW g ad ro ((ad,oa)::H) X:=λA s Q R h=>by exact wpAny_pyIter_gen (ia (R.aV _ (.head _)).1 ho) h
inductive NF(g:Gx)(x:FV)(ro:List (a7×FV))(H:List (dq×Obj))(X:List de)(s:a8)(N:List (a7×FV)->List (dq×Obj)->List de->Prop)(r:Option a7)(s' :a8):Prop
 |mk (v:a7) (e:r=some v) (cY:List (a7×FV)) (H' :List (dq×Obj)) (X' :List de) (S:c9 g H X s H' X' s') (Y:Yv g ro H s H' s' ((v,x)::cY)) (V:VR s'.heap (λb=>fC g.tt s.heap b/\b∉HA H') x v) (L:N cY H' X')
def o9(g:Gx)(A:ka)(I:dq):List FV->List (a7×FV)->List (dq×Obj)->List de->Prop
 | [],_,_,_=>True
 |x::l,ro,H,X=> ∀s,c8 g ro H X s->dE (dC g.prog g.w) A (aaW (.ref I)) (NF g x ro H X s λcY H' X' => ∀tgt,plainT tgt->gf g A tgt I l cY H' X') (λaa aa=>False) s
inductive uR(g:Gx)(A:ka)(ga:dq×Obj)(x:FV)(l:List FV)(ro:List (a7×FV))(H:List (dq×Obj))(X:List de)(s:a8)(e:End)(s₁:a8):Prop
 |mk (v:a7) (h:e.result= .yielded v) (q:e.quiet=true) (cY:List (a7×FV)) (H' :List (dq×Obj)) (X' :List de) (S:c9 g (ga::H) (X++[.running]) s (ga::H') (X' ++[.running]) s₁) (Y:Yv g ro (ga::H) s (ga::H') s₁ ((v,x)::cY)) (V:VR s₁.heap (λb=>fC g.tt s.heap b/\b∉HA (ga::H')) x v) (G:iY g A ga l cY H' X' e.genState)
theorem uR.trans(S1:c9 g (ga::H) (X++[.running]) s (ga::H2) (X2++[.running]) s2)(Y1:Yv g ro (ga::H) s (ga::H2) s2 JA)
  (h:uR g A ga x l JA H2 X2 s2 e s₁):uR g A ga x l ro H X s e s₁:=by
 obtain⟨v,h1,h2,cY,H',X',S2,Y2,V,G⟩:=h;exact⟨v,h1,h2,cY,H',X',S1.trans S2,Yv.trans S1 Y1 S2 Y2,VR.mono (λaa aa aa e=>e) (λb hb=>⟨⟨S1.Cz hb.1.2 hb.1.1,hb.1.2⟩,hb.2⟩) V,G⟩
def kr(g:Gx)(A:ka)(ga:dq×Obj):List FV->List (a7×FV)->List (dq×Obj)->List de->a8->End->a8->Prop
 | []=>wk g A ga []
 |x::l=>uR g A ga x l
theorem kr.post(h:kr g A ga l ro H X s e s₁):wk g A ga l ro H X s e s₁:=by
 cases l with
 |nil=>exact h
 |cons x l=>obtain⟨v,h1,h2,cY,H',X',S,Y,_,G⟩:=h;exact⟨v,h1,h2,cY,H',X',S,Y,G⟩
theorem kr.trans(S1:c9 g (ga::H) (X++[.running]) s (ga::H2) (X2++[.running]) s2)(Y1:Yv g ro (ga::H) s (ga::H2) s2 JA)
  (h:kr g A ga l JA H2 X2 s2 e s₁):kr g A ga l ro H X s e s₁:=by
 cases l with
 |nil=>exact wk.trans (A:=A) (l:=[]) S1 Y1 h
 |cons x l=>exact uR.trans S1 Y1 h
theorem DP{A:ka}{ad:dq}{oa:Obj}(hh:A.handled=none)(fX:A.depth<ph){x:FV}{l:List FV}{ro:List (a7×FV)}{H:List (dq×Obj)}{X:List de}{gs:de}(ho:oa.cls= .type "generator" /\(E2 λnm qn=>oa.data= .fields #[.int (ix g X:Nat) 0,nm,qn])/\oa.slots= #[])
  (G: ∀s,c8 g ro ((ad,oa)::H) (X++[.running]) s->iX (dC g.prog g.w) A.in1 (uR g A.in1 (ad,oa) x l ro H X s) gs s):o9 g A ad (x::l) ro ((ad,oa)::H) (X++[gs]):=λs R=>by
 refine rO (gs:=gs) hh R.ok.lim fX (ia (R.aV _ (.head _)).1 ho) R.at_ (G _ (R.set rfl)) λe s₁ hF=>nn λhN=>?_;obtain⟨v,he,hq,cY,H',X',S,Y,V,G'⟩:=hF;refine hN ?_;have hl:X'.length=X.length:=by have:=S.len;simpa using this
 exact⟨hq,.inl ⟨v,he,v,rfl,cY,(ad,oa)::H',X' ++[e.genState],c9.set S (acZ hq),Y,V,λtgt ht=>rP ht hh fX l cY H' X' e.genState (by rw[show ix g X' =ix g X by unfold ix;rw[hl];rfl];exact ho) G'⟩⟩
theorem AS{A:ka}{ad:dq}{oa:Obj}(hh:A.handled=none)(fX:A.depth<ph){l:List FV}{ro:List (a7×FV)}{H:List (dq×Obj)}{X:List de}{gs:de}(ho:oa.cls= .type "generator" /\(E2 λnm qn=>oa.data= .fields #[.int (ix g X:Nat) 0,nm,qn])/\oa.slots= #[])
  (G: ∀s,c8 g ro ((ad,oa)::H) (X++[.running]) s->iX (dC g.prog g.w) A.in1 (kr g A.in1 (ad,oa) l ro H X s) gs s):(∀tgt,plainT tgt->gf g A tgt ad l ro ((ad,oa)::H) (X++[gs]))/\o9 g A ad l ro ((ad,oa)::H) (X++[gs]):=by
 refine⟨λtgt ht=>rP ht hh fX l ro H X gs ho (iY.of λs R=>(G s R).mono λaa aa=>kr.post),?_⟩;cases l with
 |nil=>trivial
 |cons x l=>exact DP hh fX ho G
end
section
variable{M:adC}{A:ka}{F:End->a8->Prop}{c:Code}{fs:List Frame}{s:a8}{env:Env}
 {K:Flow->Sem PySem.Fin}{H:a7->Sem PySem.Fin}{gd:Bool->Bool}{lv:List a7->List a7}
theorem nO (h:bN M A F c (K .next) fs s):bN M A F c ((agv [] env).wrap K H gd lv) fs s:=h
theorem lX{st:aa4}{rest:List aa4}
  (h:bN M A F c ((exec st env).wrap (λf=>match f with| .next=>(agv rest env).wrap K H gd lv|f=>K f) H gd lv) fs s):bN M A F c ((agv (st::rest) env).wrap K H gd lv) fs s:=by
 rw[execs_cons_wrap];exact h
theorem GK(QL:aei fs=none)(Pj:gd false=false)(Vj:fs.any adk=false)
  (h:dE M (A.over c fs) (acp e env) (λv s' => ∀(k:Resume->Sem PySem.Fin) (p:Pos) (g:Bool) (l:List a7),(End.susp v g l k c p fs).quiet=true->(∀F' uP,bN M A F' c (K .next) fs uP->bN M A F' c (k (.send .none)) fs uP)->F (.susp v g l k c p fs) s')
   (λx s' =>bN M A F c (H x) fs s') s)(wm:env.scope.isCoroutine=false:=by rfl)(hi:rk env=false:=by rfl):
  bN M A F c ((exec (.Expr (.Yield (some e) fK) pos) env).wrap K H gd lv) fs s:=by
 rw[exec_Expr env _ pos hi rfl];show bN M A F c (.at pos λaa=>((acp e env>>=λv=>(aau fK>>=λaa=>afm env v))>>=λx=>dropValue (.Yield (some e) fK) pos x).wrap K H gd lv) fs s
 have hy: ∀v,afm env v=yieldValue v:=λv=>by simp only[afm,wm,kz,if_false]
 simp only[hy];refine GH ?_;rw[xi];rw[xi];rw[Hn];rw[Hn];refine nM (hO h (λv s' h' =>GH (xS QL λp=>h' _ p _ _ ?_ λF' uP hx=>hx)) λaa aa x=>x);simp[End.quiet,Pj,Vj]
theorem Kr
  (h:bN (dC prog w) A F (.func body env) ((agv body env).wrap (λf=> .pure (.done (.ret (match f with| .ret v=>v|_=> .none))))
   (λe=>(ahx env e).wrap (λaa=> .raise e) .raise id id) id id) fs s):bN (dC prog w) A F (.func body env) ((dC prog w).den (.func body env)) fs s:=by
 show bN (dC prog w) A F (.func body env) (.point [] λaa=>((agv body env).onRaise (ahx env))>>=_) fs s;refine GI ?_;rw[Px];rw[xi];rw[Hn];rw[Sem.wrap_congr (agv body env) _ _ (K' :=λf=> .pure (.done (.ret (match f with| .ret v=>v|_=> .none))))
  (H' :=λe=>(ahx env e).wrap (λaa=> .raise e) .raise id id) (λf=>by cases f<;>rfl)
  (λe=>by rw[Sem.bind_eq_wrap];rw[Hn];rfl)]
 exact h
noncomputable abbrev ic(env:Env)(K:Flow->Sem PySem.Fin)(H:a7->Sem PySem.Fin)(gd:Bool->Bool)(lv:List a7->List a7)(c:Code)(p:Pos):Frame:=
 .ret (λr=>((match r with| .ok f=>(.pure f:Sem Flow)| .error e=> .raise e).onRaise λ(x:a7)=>do
    if(<-field x 1)==tI then agN "frame.own-activation:exception-without-traceback"
    setFlight x env.frame).wrap K H gd lv) none (gd false) (lv []) c p []
theorem NG(hs: ∀x,il iter env x=pure x)
  (h:dE M (A.over c fs) (acp iter env) (λx s1=>dE M (A.over c fs) (aba x) (λit s2=> ∀p,bN M A F (.forLoop target it body orelse env) (M.den (.forLoop target it body orelse env)) (ic env K H gd lv c p::fs) s2) (λx s' =>bN M A F c (H x) fs s') s1) (λx s' =>bN M A F c (H x) fs s') s):
  bN M A F c ((exec (.For target iter body orelse pos) env).wrap K H gd lv) fs s:=by
 rw[exec_For];exact aT (rn (aT (wpS h (λx s1 h1=>aT (kA (hs x) (aT (rn (aT (eJ (wpS h1 (λit s2 h2=>Kp h2)))))))))))
end
section
variable{prog:d5}{w:fA}{A:ka}{F:End->a8->Prop}{fs:List Frame}{s:a8}{env:Env}
theorem aM {p:a7->a8->Prop}: ∀(e:a7) (s:a8),(λ(_:a7) (_:a8)=>False) e s->p e s:=λaa aa z=>z.elim
theorem CE{x:Str}{px p2 fK pos:Pos}{it:dq}{K:Flow->Sem PySem.Fin}{H:a7->Sem PySem.Fin}{gd:Bool->Bool}{lv:List a7->List a7}{c:Code}{p:Pos}(QL:aei fs=none)(Vj:fs.any adk=false)(Pj:gd false=false)
  (hx:env.kindOf x=some .local)(Kd:(x==("__debug__" :Str))=false)(hk:env.scope.kind= .function)(wm:env.scope.isCoroutine=false)(hi:rk env=false)
  (h:dE (dC prog w) (A.over (.forLoop (.Name x px) (.ref it) [.Expr (.Yield (some (.Name x p2)) fK) pos] [] env) (ic env K H gd lv c p::fs)) (aaW (.ref it)) (λr s1=>match r with
   |none=>bN (dC prog w) A F c (K .next) fs s1
   |some v=> ∃m,s1.heap.Ns env.locals m/\ ∀(h' :wq) (tk:Nat) (k:Resume->Sem PySem.Fin) (c' :Code) (q:Pos) (SW:List Frame) (g:Bool) (l:List a7),h'.Ns env.locals (λy=>if y=x then some v else m y)->lL env.locals s1.heap h' ->(End.susp v g l k c' q SW).quiet=true->
     (∀F' uP,bN (dC prog w) A F' (.forLoop (.Name x px) (.ref it) [.Expr (.Yield (some (.Name x p2)) fK) pos] [] env) ((dC prog w).den (.forLoop (.Name x px) (.ref it) [.Expr (.Yield (some (.Name x p2)) fK) pos] [] env)) (ic env K H gd lv c p::fs) uP->bN (dC prog w) A F' c' (k (.send .none)) SW uP)->F (.susp v g l k c' q SW) {s1 with heap:=h',toks:=tk}) (λaa aa=>False) s):
  bN (dC prog w) A F (.forLoop (.Name x px) (.ref it) [.Expr (.Yield (some (.Name x p2)) fK) pos] [] env) ((dC prog w).den (.forLoop (.Name x px) (.ref it) [.Expr (.Yield (some (.Name x p2)) fK) pos] [] env)) (ic env K H gd lv c p::fs) s:=by
 show bN _ A F _ ((forTurn (.Name x px) (.ref it) [.Expr (.Yield (some (.Name x p2)) fK) pos] [] env).onRaise (λx=>do noteFrame x env;agU x)) _ s;rw[Px];unfold forTurn;refine aT (rn (aT (wpAny_onRaise (hO h (λr s1 h1=>?_) aM))));cases r with
 |none=>refine g9 rfl ?_;show bN _ A F _ (((agv [] env).onRaise (λx=>do noteFrame x env;agU x))>>=λf=>pure (.done f)) _ s1;rw[Px];rw[xi];rw[Hn];exact nO (Kq (.ok .next) h1)
 |some v=>
  dsimp only;obtain⟨m,Dr,h1⟩:=h1;refine aT (kA (a:=()) rfl (aT (xb (adL hx Dr (λh' hn hs=>?_) (by rw[hk];rfl)))));rw[xi];rw[Hn];refine lX (GK ?_ rfl ?_ (Bz (y8 hk hx hn (if_pos rfl) ?_) Kd) wm hi)
  ·show aei (ic env K H gd lv c p::fs)=none;simp[aei,QL]
  ·show(ic env K H gd lv c p::fs).any adk=false;rw[ahy];rw[Vj];simp[adk,Pj]
  ·intro k q g l hq hk;exact h1 h' _ k _ q _ g l hn hs hq λF' uP hS=>hk F' uP (nO (g9 rfl hS))
end
def NsObj(o:Obj):Prop:= ∃(m:Str->Option a7),∀(h:wq) (a:dq),h.get? a=some o->h.Ns a m
theorem rQ{h:wq}{a:dq}{m:Str->Option a7}(n:h.Ns a m): ∃o,h.get? a=some o/\NsObj o:=by obtain⟨o,es,ep,e,hd,hk,hm⟩:=n;exact⟨o,e,m,λh' a' e' =>⟨o,es,ep,e',hd,hk,hm⟩⟩
section
variable{g:Gx}{A:ka}{env:Env}
theorem NH {ga:dq×Obj}{x:Str}{px p2 fK pos:Pos}{it lx:dq}{l:List FV}{K:Flow->Sem PySem.Fin}{H:a7->Sem PySem.Fin}{gd:Bool->Bool}{lv:List a7->List a7}{c:Code}{p:Pos}(hA:A.handled=none)(Pj:gd false=false)
  (hx:env.kindOf x=some .local)(Kd:(x==("__debug__" :Str))=false)(hk:env.scope.kind= .function)(wm:env.scope.isCoroutine=false)(hi:rk env=false)(AB: ∀(F:End->a8->Prop) s,F (.ret (.ok (.ret .none))) s->bN (dC g.prog g.w) A F c (K .next) [] s):
  ∀(r:List FV) (i:Nat) (o oL:Obj),l.drop i=r->o.cls= .type "list_iterator" ->o.data= .fields #[.ref lx,.int i 0]->NsObj oL->
   ∀s,c8 g [(.ref lx,.list l)] (ga::[(env.locals,oL),(it,o)]) ([]++[.running]) s->bN (dC g.prog g.w) A (wk g A ga r [(.ref lx,.list l)] [(env.locals,oL),(it,o)] [] s) (.forLoop (.Name x px) (.ref it) [.Expr (.Yield (some (.Name x p2)) fK) pos] [] env) ((dC g.prog g.w).den (.forLoop (.Name x px) (.ref it) [.Expr (.Yield (some (.Name x p2)) fK) pos] [] env)) [ic env K H gd lv c p] s:=by
 intro lz;induction lz with
 |nil=>
  intro i o oL hr h1 h2 hL;intro s R;refine CE rfl rfl Pj hx Kd hk wm hi ?_;obtain⟨vs,n,gx,rr⟩:=VR.lst (R.ro _ (.head _));have hI:=R.aV (it,o) (.tail _ (.tail _ (.head _)));refine aaa (by exact hA) ⟨o,hI.1,h1,h2⟩ (aP gx) ?_ λh' he=>AB _ _ ⟨.inl rfl,[],?_⟩
  ·rw[yB];exact mn (by rw[rr.length];exact E0 hr)
  ·exact⟨λb o aa hb e=>he b o (λq=>hb (q▸ .tail _ (.tail _ (.head _)))) e,λb hb t=>t.of λo=>he b o λq=>hI.2.1 (q▸hb),rfl,rfl,bH rfl gU,λtl e=>⟨[],by rw[fw];exact e,λaa h=>nomatch h⟩⟩
 |cons b r ih=>
  intro i o oL hr h1 h2 hL;intro s R;refine CE rfl rfl Pj hx Kd hk wm hi ?_;obtain⟨vs,n,gx,rr⟩:=VR.lst (R.ro _ (.head _));have hI:=R.aV (it,o) (.tail _ (.tail _ (.head _)));have Ks:=R.aV (env.locals,oL) (.tail _ (.head _));have hb:=BW hr;obtain⟨u,hu,q⟩:=rr.get hb.1;have nd:=R.nd;have n1:env.locals≠it:=λq=>by have:=(dn.mp (dn.mp nd).2).1;exact this (by rw[q];exact .head _)
  refine Ts ⟨o,hI.1,h1,h2⟩ (aP gx) (by rw[yB];exact hu) λh' hit hs=>?_;obtain⟨o',g',vU,vV⟩:=hit;obtain⟨m,hm⟩:=hL;have gL:h'.get? env.locals=some oL:=(hs.2 _ n1).trans Ks.1;refine⟨m,hm h' _ gL,λh2 tk k c' q' SW gg ll SX uL hq CD=>?_⟩;obtain⟨wo,DA,NI⟩:=rQ SX;have keep: ∀b o,b≠env.locals->b≠it->s.heap.get? b=some o->h2.get? b=some o:=λb o n1 n2 e=>(uL.2 b n1).trans ((hs.2 b n2).trans e);have Xn:h2.get? it=some o' :=(uL.2 it (Nw n1)).trans g';have QN:=R.aV ga (.head _);have QO:ga.1≠env.locals:=λq=>(dn.mp nd).1 (by show ga.1∈_;rw[q];exact .head _);have QS:ga.1≠it:=λq=>(dn.mp nd).1 (by show ga.1∈_;rw[q];exact .tail _ (.head _));have S:c9 g (ga::[(env.locals,oL),(it,o)]) ([]++[.running]) s (ga::[(env.locals,wo),(it,o')]) ([]++[.running]) {s with heap:=h2,toks:=tk}:=
   {keep:=λb o aa hb e=>keep b o (λq=>hb (q▸ .tail _ (.head _))) (λq=>hb (q▸ .tail _ (.tail _ (.head _)))) e
    tab:=λb hb t=>t.of λo=>keep b o (λq=>Ks.2.1 (q▸hb)) λq=>hI.2.1 (q▸hb)
    os:=rfl
    len:=rfl
    bare:=bH rfl gU
    gens:=λtl e=>⟨[],by rw[fw];exact e,λaa h=>nomatch h⟩
    there:=bH (λaa aa=>by rw[keep _ _ QO QS QN.1];rfl) (bH (λaa aa=>by rw[DA];rfl) (bH (λaa aa=>by rw[Xn];rfl) gU))
    aV:=bH (keep _ _ QO QS QN.1) (bH DA (bH Xn gU))
    new:=bH (.inl (.head _)) (bH (.inl (.tail _ (.head _))) (bH (.inl (.tail _ (.tail _ (.head _)))) gU))
    nd:=nd}
  exact⟨u,rfl,hq,[(.ref lx,.list l)],[(env.locals,wo),(it,o')],[],S,λP hP AQ=>bH (VR.mono (λa o p e=>S.keep a o (hP a p).1 (hP a p).2 e) (λaa p=> .inl p) ((AQ _ (.head _)).Xk gx hb.1 hu)) (Yv.same S P hP AQ),iY.of λuP Vk=>CD _ uP (ih (i+1) o' wo hb.2 vU vV NI uP Vk)⟩
end
structure DQ(tt:List dq)(s s' :a8)(H:List (dq×Obj))(X:List de):Prop where
 keep: ∀b o,s.heap.get? b=some o->s'.heap.get? b=some o
 aV: ∀p∈H,s'.heap.get? p.1=some p.2/\s.heap.get? p.1=none/\p.1∉tt
 nd:(HA H).Nodup
 gens:s'.gens=s.gens++X.toArray
 bare: ∀y∈X,y.bare=true
 os:s'.os=s.os
def Source(prog:d5)(w:fA)(K:abE)(tt:List dq)(n:Nat)(x0:FV)(Ls:List FV->Prop)(tgt:Expr):Prop:=
 ∀(A:ka) (s:a8) (v0:a7) (Q:a7->a8->Prop),Good K tt n A s->VR s.heap (· ∉tt) x0 v0->
  (∀I H X ro s' l,Ls l->DQ tt s s' H X->(∀P:dq->Prop,VR s.heap P x0 v0-> ∀q∈ro,VR s'.heap P q.2 q.1)->(∀A',cM n A' ->gf ⟨prog,w,K,tt,[],s.gens,s.os⟩ A' tgt I l ro H X)->(∀g0 os,lW ⟨prog,w,K,tt,[],g0,os⟩ I ro H X)->Q (.ref I) s')->
  dE (dC prog w) A (aba v0) Q (λaa aa=>False) s
def lA(prog:d5)(w:fA)(K:abE)(tt:List dq)(n:Nat)(x0:FV)(Ls:List FV->Prop):Prop:=
 ∀(A:ka) (s:a8) (v0:a7) (Q:a7->a8->Prop),Good K tt n A s->VR s.heap (· ∉tt) x0 v0->
  (∀ad oa gs H X ro s' l,Ls l->DQ tt s s' ((ad,oa)::H) (X++[gs])->(∀P:dq->Prop,VR s.heap P x0 v0-> ∀q∈ro,VR s'.heap P q.2 q.1)->(oa.cls= .type "generator" /\(E2 λnm qn=>oa.data= .fields #[.int (s.gens.size+X.length:Nat) 0,nm,qn])/\oa.slots= #[])->
   (∀A',cM n A' ->iY ⟨prog,w,K,tt,[],s.gens,s.os⟩ A'.in1 (ad,oa) l ro H X gs)->Q (.ref ad) s')->
  dE (dC prog w) A (aba v0) Q (λaa aa=>False) s
theorem lA.source{prog:d5}{w:fA}{K:abE}{tt:List dq}{n:Nat}{x0:FV}{Ls:List FV->Prop}{tgt:Expr}(ht:plainT tgt)(S:lA prog w K tt n x0 Ls):Source prog w K tt n x0 Ls tgt:=λA s v0 Q G hv h=>S A s v0 Q G hv λad oa gs H X ro s' l hl C jc ho hg=>h ad _ _ ro s' l hl C jc (λA' tD=>rP ht tD.hh (by have:=tD.dp;exact w8 (a0 this (cb ph (4*n)))) l _ _ _ gs ho (hg A' tD)) λaa aa=>uQ ho
section
variable{prog:d5}{w:fA}{K:abE}{tt:List dq}
theorem Good.dF (G:Good K tt n A s):s.heap.objs.size∉tt:=λq=>ib _ (G.sz _ q)
theorem Good.QT(G:Good K tt n A s)(h:s.heap.objs.size≤a):a∉tt:=λq=>ib _ (a0 (G.sz _ q) h)
theorem rR(G:Good K tt n A s)(ho:o.isFreed=false):DQ tt s {s with heap:=s.heap.push o} [(s.heap.objs.size,o)] [] where
 keep:=λb o e=>aw _ e
 aV:=λp hp=>by
  have:p=(s.heap.objs.size,o):=by simpa using hp
  subst this;exact⟨bc _ ho,dv (cq _),G.dF⟩
 nd:=by simp
 gens:=rfl
 bare:=λaa h=>nomatch h
 os:=rfl
theorem cZ(ht:plainT tgt):Source prog w K tt n (.list l) (· =l) tgt:=λA s v0 Q G hv h=>by
 obtain⟨x,vs,k,rfl,hp,gx,r⟩:=hv;refine xc (aP gx) (h s.heap.objs.size _ [] [(.ref x,.list l)] _ l rfl (rR G (o:=⟨.type "list_iterator",none,.fields #[.ref x,.int 0 0],#[]⟩) rfl) (λP hP q hq=>?_) (λA' tD=>DO (i:=0) tD.hh ht l _ rfl rfl rfl) λg0 os A s Q R hQ=>?_)
 ·have:q=(.ref x,.list l):=by simpa using hq
  subst this;exact VR.mono (λb o aa e=>aw _ e) (λaa p=>p) hP
 ·exact adS ⟨_,(R.aV _ (.head _)).1,rfl,rfl⟩ hQ
theorem qj:ago table "set_iterator.__iter__" =some Builtin.«dict_keyiterator.__iter__»:=aeB (id' :="dict_keyiterator.__iter__") rfl rfl (by decide+kernel) rfl
theorem rS(a:a7):agM "set_iterator.__iter__" ⟨[a],[]⟩:=by unfold agM;kernel_rfl
theorem fL(ht:plainT tgt):Source prog w K tt n (.aW (aq w) m) (λl=> ∃r:List Nat,l=r.map (λ(i:Nat)=> .int (i:Int))/\acU r (aB m)) tgt:=λA s v0 Q G hv h=>by
 refine nn λhN=>?_;obtain⟨x,ox,rfl,hp,gx,mv,mm,d,ep,tk,rfl,hn,hd,h0,hm⟩:=hv;refine hN (Gr gx hm hn hd h0 (h s.heap.objs.size [(s.heap.objs.size,nK 0 0 x (aB m).length ep)] [] [(.ref x,.obj (aL (aq w) mv mm m d ep tk))] _ ((fc w x ep m tk).toList.map λe=> .int e.1) ?_ (rR G rfl) (λP hP q hq=>?_) (λA' tD=>xR (g:=⟨prog,w,K,tt,[],s.gens,s.os⟩) tD.hh ht hm hn hd h0 _ 0 0 rfl (.inr (AJ hn))) λg0 os A s Q R hQ=>?_))
 ·refine⟨(fc w x ep m tk).toList.map λe=>e.1.toNat,?_,?_⟩
  ·rw[dT];apply i5;intro e he;obtain⟨i,t,hi,Pc⟩:=o7 w x ep m tk e he;rw[Pc];simp
  ·have p:=(nJ w x ep m tk).map λe=>e.1.toNat;refine p.trans ?_;have:(bE m tk).toList.map (λe=>e.1.toNat)=aB m:=by
    simp only[bE,dT]
    conv=>rhs;rw[<-aeN (aB m)]
    apply i5;intro i _;simp
   rw[this];rfl
 ·have:q=(.ref x,.obj (aL (aq w) mv mm m d ep tk)):=by simpa using hq
  refine nn λhN=>?_;subst this;obtain⟨x',o',e,o6,Vl,_⟩:=hP;cases e;exact hN ⟨x,rfl,o6,aw _ gx⟩
 ·obtain⟨gI,_⟩:=R.aV _ (.head _);have hT:s.TypeIs (.ref _) "set_iterator" :=⟨_,gI,rfl⟩;refine afJ hT kj (oe kj hT qj ?_ (rS _));show dE _ _ (ret (.ref _)) _ _ s;exact ax ⟨_,rfl,"set_iterator",_,hT,cV.lookup,hQ⟩
theorem jt(h:fd.scope.names.lookup x=some .local):(sg fd L f).kindOf x=some .local:=by show(newEnv fd.scope L fd.globals _ _ _ _ _ _).kindOf x=_;unfold Env.kindOf newEnv;simp[h]
structure wu(K:abE)(C f:dq)(fd:Jn)(attr xT x:Str)(fp ap ip px p2 fK pos:Pos):Prop where
 fn:aaV K (.ref C) "__iter__" =some (some (.ref f))
 QU:isFn K (.ref f)=true
 at_:E3 λod sl oc=>K.lookup f=some ⟨oc,od,.func fd,sl⟩
 code:codeIn K fd.code fd.qualname=true
 body:fd.body= .stmts [.For (.Name x px) (.Attribute (.Name xT ap) attr ip) [.Expr (.Yield (some (.Name x p2)) fK) pos] [] fp]
 co:fd.scope.isCoroutine=false
 gen:fd.scope.isGenerator=true
 kind:fd.scope.kind= .function
 PK:fd.closure=[]
 cells:(fd.scope.names.all λy=>y.2 != .cell)=true
 hx:fd.scope.names.lookup x=some .local
 uS:fd.scope.names.lookup xT=some .local
 dx:(x==("__debug__" :Str))=false
 LV:(xT==("__debug__" :Str))=false
 inter: ∀L,rk (sg fd L f)=false
 bind: ∀v:a7,∀(M:adC),ag7 K ⟨M.prog,M.w.params⟩ (bindArgs fd ⟨[v],[]⟩)=some [(xT,v)]
 LW:qZ K C attr=true
 Xo: ∀env:Env,acp (.Attribute (.Name xT ap) attr ip) env=(do let o<-acp (.Name xT ap) env;aau ip.atName;let r<-NA [o] (agy o attr true);aay (.Name xT ap) o r;pure r)
 Xp: ∀env y,il (.Attribute (.Name xT ap) attr ip) env y=pure y
theorem GL(X:K.In s.heap)(I:abY s.heap x ox C od)(hs:aaV K (.ref C) "__iter__" =some (some (.ref f)))(hf:isFn K (.ref f)=true)
  (h:dE M A (call (.ref f) [.ref x]) (λv s' =>s'.TypeIs v "generator" /\Q v s') E s):dE M A (aba (.ref x)) Q E s:=by
 have call2:dE M A (call (.ref f) [.ref x]>>=λv=>pure (some v)) (λr s' => ∃v,A3 (r=some v) (s'.TypeIs v "generator") (Q v s')) E s:=ab (wpS h (λv s' h' =>ax ⟨v,rfl,h'.1,h'.2⟩))
 have LX: ∀refuse:Sem a7,dE M A (if(Value.ref f==tI)=true then(refuse>>=λv=>pure (some v))else(call (.ref f) [.ref x]>>=λv=>pure (some v))) (λr s' => ∃v,A3 (r=some v) (s'.TypeIs v "generator") (Q v s')) E s:=λrefuse=>by rw[if_neg (show¬((Value.ref f==tI)=true)from Bool.false_ne_true)];exact call2
 unfold aba;refine ab (ab (I.type.here ((adO X hs).here ?_)));show dE M A (callSpecialIfBoundUnlessNone? (.ref x) "__iter__" _>>=_) Q E s;refine ab (Q:=Q) (hO (Q:=λr s' => ∃v,A3 (r=some v) (s'.TypeIs v "generator") (Q v s')) (E:=E) ?_ (λr s' hr=>?_) λaa aa z=>z)
 ·refine eJ (ab (ab (ab (I.type.here ((adO X hs).here (ab (Fm (agG ?_))))))));refine Tr ?_ ?_
  ·exact ab ((ah9 X _ (beq_iff_eq.mp hf)).here (ax (LX _)))
  ·exact aaE (ab ((ah9 X _ (beq_iff_eq.mp hf)).here (ax (LX _))))
 ·obtain⟨v,rfl,hT,hv⟩:=hr;exact ab (aa9 hT ab3.lookup (ax hv))
section
variable{C f:dq}{fd:Jn}{attr xT x:Str}{fp ap ip px p2 fK pos:Pos}
theorem AU (hg:g.K=K)(D:wu K C f fd attr xT x fp ap ip px p2 fK pos)(hA:A.handled=none)(ha:(attr,.list l)∈at_)
  (hL: ∃m:Str->Option a7,(∀(h:wq) (a:dq),h.get? a=some oL->h.Ns a m)/\m xT=some (.ref x0)):
  iY g A ga l [(.ref x0,.inst C at_)] [(L,oL)] [] (.fresh (.func [.For (.Name x px) (.Attribute (.Name xT ap) attr ip) [.Expr (.Yield (some (.Name x p2)) fK) pos] [] fp] (sg fd L f))):=iY.of λs R=>by
 refine nn λhN=>?_;subst hg;obtain⟨m,hm,Zo⟩:=hL;have Ks:=R.aV (L,oL) (.tail _ (.head _));have QN:=R.aV ga (.head _);obtain⟨y,d,m0,e,Pk,Zp,gx,gd,ra,ex⟩:=R.ro _ (.head _);cases e;obtain⟨u,hu,lu⟩:=vL.get ra ha;have lu0:=lu;obtain⟨lx,vs,k,rfl,wz,gl,rl⟩:=lu;refine hN ?_;have L1:(sg fd L f).locals=L:=rfl;refine Kr (lX (NG (D.Xp _) (acK (Bz (y8 D.kind (jt D.uS) (hm _ _ Ks.1) Zo (xy R.ok.cO gx gd D.LW hu rfl (xc (aP gl) λp=>?_))) D.LV) (D.Xo _))));have nd:=R.nd;let it:=s.heap.objs.size
 let oI:Obj:=⟨.type "list_iterator",none,.fields #[.ref lx,.int 0 0],#[]⟩
 have Pn: ∀b o,s.heap.get? b=some o->(s.heap.push oI).get? b=some o:=λb o e=>aw _ e;have Zq:it∉g.tt:=λq=>ib _ (R.ok.sz _ q);have Zr:L≠it:=du (d4 Ks.1);have Zs:ga.1≠it:=du (d4 QN.1);have S: ∀tk,c9 g (ga::[(L,oL)]) ([]++[.running]) s (ga::[(L,oL),(it,oI)]) ([]++[.running]) {s with heap:=s.heap.push oI,toks:=tk}:=λtk=>
  {keep:=λb o aa aa e=>Pn b o e
   tab:=λb hb t=>t.of λo=>Pn b o
   os:=rfl
   len:=rfl
   bare:=bH rfl gU
   gens:=λtl e=>⟨[],by rw[fw];exact e,λaa h=>nomatch h⟩
   there:=λa aa aa h=>by obtain⟨o,e⟩:=cx.mp h;show((s.heap.push oI).get? a).isSome=true;rw[Pn a o e];rfl
   aV:=bH (Pn _ _ QN.1) (bH (Pn _ _ Ks.1) (bH (bc _ rfl) gU))
   new:=bH (.inl (.head _)) (bH (.inl (.tail _ (.head _))) (bH (.inr ⟨dv (cq _),Zq⟩) gU))
   nd:=by have h1:=(dn.mp nd).1;simp only[HA,eA,XB,dn,a5,ij,or_false,not_or,not_false_eq_true,rp,and_true];exact⟨⟨λq=>h1 (by show ga.1∈_;rw[q];exact .head _),Zs⟩,Zr⟩}
 have Y: ∀tk,Yv g [(.ref x0,.inst C at_)] (ga::[(L,oL)]) s (ga::[(L,oL),(it,oI)]) {s with heap:=s.heap.push oI,toks:=tk} [(.ref lx,.list l)]:=λtk P hP jc=>bH (by
  refine nn λhN=>?_;obtain⟨y',d',m',e,_,_,Vl,Zt,Zu,_⟩:=jc _ (.head _);cases e;refine hN ?_;rw[gx]at Vl;have Ua:d=d' :=by simpa[VU]using Vl
  refine nn λhN=>?_;subst Ua;obtain⟨u',SV,Zv⟩:=vL.get Zu ha;obtain⟨o1,es1,SK,e1,d1,_,n1⟩:=gd;obtain⟨o2,es2,ep2,e2,d2,_,n2⟩:=Zt;refine hN ?_;rw[e1]at e2;cases e2;rw[d1]at d2;cases d2;have:u' = .ref lx:=by have:=(n1 attr).trans hu;rw[n2 attr,SV]at this;simpa using this
  subst this;exact VR.mono (λb o aa e=>Pn b o e) (λaa p=> .inl p) Zv) gU
 have R2: ∀tk,c8 g [(.ref lx,.list l)] (ga::[(L,oL),(it,oI)]) ([]++[.running]) {s with heap:=s.heap.push oI,toks:=tk}:=λtk=>c9.mS R (S tk) (Y tk)
 exact bN.mono (NH hA rfl (jt D.hx) D.dx D.kind D.co (D.inter L) (λF s h=>GJ (.ok (.ret .none)) h) l 0 oI oL rfl rfl rfl ⟨m,hm⟩ _ (R2 _)) λe s₁ h=>wk.trans (S _) (Y _) h
theorem nQ(D:wu K C f fd attr xT x fp ap ip px p2 fK pos)(ha:(attr,.list l)∈at_)(hn:1≤n):lA prog w K tt n (.inst C at_) (· =l):=λA s v0 Q G hv h=>by
 obtain⟨x0,d,m0,rfl,Pk,Zp,gx,gd,ra,ex⟩:=id hv;have xU:=hv;obtain⟨od,sl,oc,hK⟩:=D.at_;obtain⟨oI,esI,epI,eI,dI,kI,mI⟩:=gd;have I:abY s.heap x0 (VU C d) C (some oI):=⟨gx,rfl,rfl,eI⟩;refine GL G.cO I D.fn D.QU (abt (codeAny_call_generator (by have:=G.dp;exact w8 (a0 this (cb ph (4*n)))) (G.cO f _ hK) rfl D.co D.gen D.body (ahi G.cO D.code) ?_));refine aS G.cO (λM=>D.bind (.ref x0) M) _ _ _ _ ?_;rw[D.PK];refine acq D.kind (λy hy=>?_) λenv he s' X=>?_
 ·have:y=(xT,.ref x0):=by simpa using hy
  subst this;exact .inl D.uS
 refine nn λhN=>?_;subst he;obtain⟨h₀,tk,rfl,hk⟩:=X.done;have hL:=X.toInCall.ns;obtain⟨oL,Qq,Qs,gL,dL,kL,mL⟩:=hL;refine hN ?_;have hz:s.heap.objs.size<h₀.objs.size:=d4 gL;refine⟨G.lim.keeps hk,⟨_,bc _ rfl,rfl⟩,h h₀.objs.size ⟨.type "generator",none,.fields #[.int s.gens.size 0,.str fd.name tk,.str fd.qualname (tk+1)],#[]⟩ (.fresh (.func [.For (.Name x px) (.Attribute (.Name xT ap) attr ip) [.Expr (.Yield (some (.Name x p2)) fK) pos] [] fp] (sg fd s.heap.objs.size f))) [(s.heap.objs.size,oL)] [] [(.ref x0,.inst C at_)] _ l rfl ⟨λb o e=>aw _ (hk b o e),λp hp=>?_,?_,RR (by simp;rfl),λy hy=>?_,rfl⟩ (λP hP q hq=>?_) ⟨rfl,⟨_,_,rfl⟩,rfl⟩ λA' tD=>?_⟩
 ·rcases a5.mp hp with rfl|hp
  ·exact⟨bc _ rfl,dv (ec hz),G.QT (ec hz)⟩
  ·have:p=(s.heap.objs.size,oL):=by simpa using hp
   subst this;exact⟨aw _ gL,dv (cq _),G.dF⟩
 ·simp only[HA,eA,XB,dn,a5,ij,or_false,not_false_eq_true,rp,and_true];exact pz hz
 ·have:y= .fresh (.func [.For (.Name x px) (.Attribute (.Name xT ap) attr ip) [.Expr (.Yield (some (.Name x p2)) fK) pos] [] fp] (sg fd s.heap.objs.size f)):=by simpa using hy
  subst this;rfl
 ·have:q=(.ref x0,.inst C at_):=by simpa using hq
  subst this;exact VR.mono (λb o aa e=>aw _ (hk b o e)) (λaa p=>p) hP
 ·exact AU (A:=A'.in1) rfl D (show A'.in1.handled=none from tD.hh) ha ⟨_,λh' a' e=>⟨oL,Qq,Qs,e,dL,kL,mL⟩,qX (jt D.uS) (by simp) (.head _)⟩
theorem xV(ht:plainT tgt)(D:wu K C f fd attr xT x fp ap ip px p2 fK pos)(ha:(attr,.list l)∈at_)(hn:1≤n):Source prog w K tt n (.inst C at_) (· =l) tgt:=(nQ D ha hn).source ht
end
end
section
variable{g:Gx}{ro cY rv:List (a7×FV)}{E H H' :List (dq×Obj)}{X X' Y:List de}{s s' :a8}
theorem c8.sub (R:c8 g (ro++rv) (E++H) (X++Y) s):c8 {g with cl:=[]} ro H X s where
 ok:=R.ok
 ro:=λp hp=>VR.mono (λaa aa aa e=>e) (λa h=>⟨h.1,λq=>h.2 (by rewrite [HA];rw[ew];exact ba _ q)⟩) (R.ro p (bp _ hp))
 cl:=λaa h=>nomatch h
 aV:=λp hp=>R.aV p (ba _ hp)
 nd:=by have:=R.nd;rw[HA,ew]at this;exact(kd.mp this).2.1
 gens:=by obtain⟨tl,e,h⟩:=R.gens;exact⟨Y++tl,by rw[e];rw[hJ];rfl,λy hy=>(cp.mp hy).elim (λq=>R.bare y (ba _ q)) (h y)⟩
 bare:=λy hy=>R.bare y (bp _ hy)
 os:=R.os
theorem c8.apart(R:c8 g ro (E++H) X s): ∀p∈E,p.1∉HA H:=λp hp q=>by have:=R.nd;rw[HA,ew]at this;exact(kd.mp this).2.2 p.1 (eD hp) p.1 q rfl
theorem Fin'.lift{g' :Gx}(hg:g'.tt=g.tt/\g'.g0=g.g0)(R:c8 g ro (E++H) (X++Y) s)(S:Fin' g' H X s X' s'):Fin' g (E++H) (X++Y) s (X' ++Y) s' where
 keep:=λb o h1 h2 e=>S.keep b o (hg.1▸h1) (λq=>h2 (by rewrite [HA];rw[ew];exact ba _ q)) e
 tab:=λb hb t=>S.tab b (hg.1▸hb) t
 os:=S.os
 len:=by rw[dy];rw[dy];rw[S.len];rfl
 bare:=λy hy=>(cp.mp hy).elim (S.bare y) λq=>R.bare y (ba _ q)
 gens:=λtl e=>by obtain⟨t1,e1,h1⟩:=S.gens (Y++tl) (by rw[hg.2];rw[e];rw[hJ];rfl);exact⟨t1,by rw[e1];rw[hg.2];simp[hJ],h1⟩
theorem c9.lift(hg:g'.tt=g.tt/\g'.g0=g.g0)(R:c8 g ro (E++H) (X++Y) s)(S:c9 g' H X s H' X' s'):c9 g (E++H) (X++Y) s (E++H') (X' ++Y) s' :=
 {toFin' :=Fin'.lift hg R S.toFin'
  there:=λa ha ht hs=>by
   rw[HA,ew]at ha
   by_cases q:a∈HA H
   ·exact S.there a q (hg.1▸ht) hs
   ·obtain⟨o,e⟩:=cx.mp hs;rw[S.keep a o (hg.1▸ht) q e];rfl
  aV:=λp hp=>by
   rcases cp.mp hp with hp|hp
   ·have h:=R.aV p (bp _ hp);exact S.keep p.1 p.2 (hg.1▸h.2.1) (R.apart p hp) h.1
   ·exact S.aV p hp
  new:=λp hp=>by
   rcases cp.mp hp with hp|hp
   ·exact .inl (by rewrite [HA];rw[ew];exact bp _ (eD hp))
   ·rcases S.new p hp with y|y
    ·exact .inl (by rewrite [HA];rw[ew];exact ba _ y)
    ·exact .inr (hg.1▸y)
  nd:=by
   have nd:=R.nd;rw[HA,ew]at nd⊢;obtain⟨n1,_,_⟩:=kd.mp nd;refine kd.mpr ⟨n1,S.nd,λa ha b hb q=>?_⟩;subst q;obtain⟨p,hp,rfl⟩:=bb.mp ha;obtain⟨p',o6,e⟩:=bb.mp hb;rcases S.new p' o6 with y|y
   ·exact R.apart p hp (e▸y)
   ·rw[e,(R.aV p (bp _ hp)).1]at y;cases y.1}
theorem Yv.lift(hg:g'.tt=g.tt/\g'.g0=g.g0)(R:c8 g (ro++rv) (E++H) (X++Y) s)(S:c9 g' H X s H' X' s')(Yy:Yv g' ro H s H' s' ys):Yv g (ro++rv) (E++H) s (E++H') s' (ys++rv):=λP hP jc q hq=>by
 have SY: ∀a,P a->a∉g'.tt/\a∉HA H:=λa h=>⟨hg.1▸(hP a h).1,λz=>(hP a h).2 (by rewrite [HA];rw[ew];exact ba _ z)⟩;rcases cp.mp hq with hq|hq
 ·refine VR.mono (λaa aa aa e=>e) (λa h=>?_) (Yy P SY (λp hp=>jc p (bp _ hp)) q hq);rcases h with h|h
  ·exact .inl h
  ·refine .inr ⟨⟨h.1.1,hg.1▸h.1.2⟩,λz=>?_⟩;rw[HA,ew]at z;rcases cp.mp z with z|z
   ·obtain⟨p,hp,rfl⟩:=bb.mp z;have:=h.1.1;rw[(R.aV p (bp _ hp)).1]at this;exact(cu this rfl).elim
   ·exact h.2 z
 ·exact VR.mono (λa o h e=>S.keep a o (SY a h).1 (SY a h).2 e) (λaa h=> .inl h) (jc q (ba _ hq))
theorem c9.upd(R:c8 g ro ((a,o)::H) X s)(hs:lL a s.heap h')(e:h'.get? a=some o'):c9 g ((a,o)::H) X s ((a,o')::H) X {s with heap:=h',toks:=tk} where
 keep:=λb o aa hb e=>(hs.2 b λq=>hb (q▸ .head _)).trans e
 tab:=λb hb t=>t.of λo e=>(hs.2 b λq=>(R.aV (a,_) (.head _)).2.1 (q▸hb)).trans e
 os:=rfl
 len:=rfl
 bare:=R.bare
 gens:=λtl e=>⟨[],by rw[fw];exact e,λaa h=>nomatch h⟩
 there:=λb aa aa hb=>by
  by_cases q:b=a
  ·subst q;show(h'.get? b).isSome=true;rw[e];rfl
  ·show(h'.get? b).isSome=true;rw[hs.2 b q];exact hb
 aV:=λp hp=>by
  rcases a5.mp hp with rfl|hp
  ·exact e
  ·exact(hs.2 p.1 λq=>(dn.mp R.nd).1 (by refine bS (q ..) ?_;exact eD (f:=(·.1)) hp)).trans (R.aV p (.tail _ hp)).1
 new:=λp hp=> .inl (by
  rcases a5.mp hp with rfl|hp
  ·exact .head _
  ·exact .tail _ (eD hp))
 nd:=R.nd
end
noncomputable abbrev tU(g:Gx)(A:ka)(env:Env)(h0:wq)(gens:Array de)(aV:List (dq×Obj)):Cx:=⟨g.prog,g.w,A,env,h0,gens,g.os,g.K,g.tt,[],λa=>(h0.get? a).isSome,λaa=>false,aV⟩
def DR(g:Gx)(env:Env)(ro:List (a7×FV))(fr:List (Str×FV)):Prop:=∀e∈fr,env.kindOf e.1=some .free/\E2 λb v=>A3 (env.cells.lookup e.1=some b) ((b,v)∈g.cl) ((v,e.2)∈ro)
structure CF(g:Gx)(env:Env):Prop where
 kind:env.scope.kind= .function
 inter:rk env=false
 co:env.scope.isCoroutine=false
 klt: ∀a o,g.K.lookup a=some o->a<env.locals
section
variable{g:Gx}{ro:List (a7×FV)}{H:List (dq×Obj)}{X:List de}{s s' :a8}{env:Env}{A:ka}{ga:dq×Obj}{oL:Obj}{fr:List (Str×FV)}
noncomputable abbrev AW (g:Gx)(ga:dq)(L:dq)(H:List (dq×Obj))(s:a8):wq:=abu s.heap (ga::L::(HA H++g.tt))
theorem nR{ga L:dq}(e:s.heap.get? b=some o)(h1:b∉g.tt)(h2:b≠ga)(h3:b≠L)(h4:b∉HA H):(AW g ga L H s).get? b=some o:=by refine YP _ e ?_;simp only[a5,cp,not_or];exact⟨h2,h3,h4,h1⟩
theorem AX{ga L:dq}(e:(AW g ga L H s).get? b=some o):s.heap.get? b=some o/\b∉g.tt/\b≠ga/\b≠L/\b∉HA H:=by
 refine⟨afy _ e,?_⟩;have:b∉ga::L::(HA H++g.tt):=λq=>by rw[show AW g ga L H s=abu s.heap _ from rfl,aaU _ q]at e;exact(cu rfl e).elim
 simp only[a5,cp,not_or]at this;exact⟨this.2.2.2,this.1,this.2.1,this.2.2.1⟩
theorem NJ{n:Nat}(R:c8 g ro (ga::(env.locals,oL)::H) X s)(EO:CF g env)(hA:cM n A):bQ (tU g A env (AW g ga.1 env.locals H s) s.gens (ga::H)) n where
 cO:=λa o e=>by
  have nt:=R.ok.kt a o e;have hg:=λp hp=>(R.aV p hp).2.2.1;refine nR (R.ok.cO a o e) nt (λq=>?_) (λq=>?_) (λq=>?_)
  ·have:=hg ga (.head _);rw[<-q,e]at this;exact(cu this rfl).elim
  ·have:=hg (env.locals,oL) (.tail _ (.head _));rw[show(env.locals,oL).1=a from q.symm,e]at this;exact(cu this rfl).elim
  ·obtain⟨p,hp,rfl⟩:=bb.mp q;have:=hg p (.tail _ (.tail _ hp));rw[e]at this;exact(cu this rfl).elim
 lim:=by obtain⟨mc,hm,e⟩:=R.ok.lim;have hc:=λp hp=>(R.aV p hp).2.2.2;refine⟨mc,hm.at' λo q=>nR q R.ok.st (λq=>hc ga (.head _) q.symm) (λq=>hc (env.locals,oL) (.tail _ (.head _)) q.symm) (λq=>?_),e⟩;obtain⟨p,hp,e⟩:=bb.mp q;exact hc p (.tail _ (.tail _ hp)) e
 hh:=hA.hh
 kind:=EO.kind
 inter:=EO.inter
 sz:=λa ha=>by show a<(abu s.heap _).objs.size;rw[acy];exact R.ok.sz a ha
 cin:=λx y a aa aa w aa=>by cases w
 dp:=hA.dp
 un:=hA.un
 kt:=R.ok.kt
 st:=R.ok.st
theorem Ku(R:c8 g ro (ga::(env.locals,oL)::H) X s)(hL:NsObj oL)(EO:CF g env)(jU:DR g env ro fr):
  aX (tU g A env (AW g ga.1 env.locals H s) s.gens (ga::H)) ⟨fr.map λp=>(p.1,.f p.2),[]⟩ (ro.map λp=>(p.1,.f p.2)) s:=by
 obtain⟨m,hm⟩:=hL;have Ks:=R.aV (env.locals,oL) (.tail _ (.head _));have nd:=R.nd;have Vm:ga.1≠env.locals:=λq=>(dn.mp nd).1 (by show ga.1∈_;rw[q];exact .head _);have PL: ∀a,(a∉g.tt/\a∉HA (ga::(env.locals,oL)::H))/\(s.heap.get? a).isSome->((AW g ga.1 env.locals H s).get? a).isSome:=λa h=>by obtain⟨o,e⟩:=cx.mp h.2;rw[nR e h.1.1 (λq=>h.1.2 (q▸ .head _)) (λq=>h.1.2 (q▸ .tail _ (.head _))) (λq=>h.1.2 (.tail _ (.tail _ q)))];rfl
 have val: ∀p∈ro,VR s.heap (λa=>((AW g ga.1 env.locals H s).get? a).isSome) p.2 p.1:=λp hp=>VR.mono (λaa aa aa e=>e) PL (R.ro p hp).there;refine⟨m,[],λa=>((AW g ga.1 env.locals H s).get? a).isSome,λaa=>False,⟨hm _ _ Ks.1,λb o e=>(AX e).1,⟨⟨aaU _ (.tail _ (.head _)),λa o e=>EO.klt a o e⟩,R.ok.tab⟩,⟨[],by simp,λaa h=>nomatch h⟩,R.os,?_,rfl,rp,λaa h=>(nomatch h),?_,λa h=> .inl h,λb o e=>(AX e).2.1,λaa h=>h.elim,λaa h=>h.elim,Ks.2.1,λaa aa h=>(nomatch h),λaa aa aa w=>(by cases w),?_,?_,?_⟩⟩
 ·intro e he;refine nn λhN=>?_;obtain⟨p,hp,rfl⟩:=bb.mp he;obtain⟨hk,b,v,hb,zF,jc⟩:=jU p hp;obtain⟨⟨o,e1,d1⟩,h1,h2⟩:=R.cl _ zF;refine hN ⟨v,?_,val _ jc⟩;unfold bC;rw[show(tU g A env (AW g ga.1 env.locals H s) s.gens (ga::H)).env.kindOf p.1=some .free from hk];refine⟨b,hb,⟨o,e1,d1⟩,.inr (PL b ⟨⟨h1,h2⟩,by rw[e1];rfl⟩)⟩
 ·intro a ha;obtain⟨o,e⟩:=cx.mp ha;have h:=AX e;exact⟨h.2.2.2.1,by rw[h.1];rfl,h.2.1⟩
 ·intro p hp;have key: ∀{q:dq},q∈ga.1::env.locals::(HA H++g.tt)->(AW g ga.1 env.locals H s).get? q=none:=λh=>aaU _ h;rcases a5.mp hp with rfl|hp
  ·have h:=R.aV p (.head _);refine⟨h.1,key (.head _),Vm,?_,λq=>(nomatch q),h.2.1,λaa aa=>rfl⟩;show¬((AW g p.1 env.locals H s).get? p.1).isSome=true;rw[key (.head _)];decide
  ·have h:=R.aV p (.tail _ (.tail _ hp));have Sy:p.1∈ga.1::env.locals::(HA H++g.tt):= .tail _ (.tail _ (bp _ (eD hp)));refine⟨h.1,key Sy,λq=>?_,?_,λq=>(nomatch q),h.2.1,λaa aa=>rfl⟩
   ·exact(dn.mp (dn.mp nd).2).1 (by show env.locals∈_;refine bS (q ..) ?_;exact eD (f:=(·.1)) hp)
   ·show¬((AW g ga.1 env.locals H s).get? p.1).isSome=true;rw[key Sy];decide
 ·show((ga::H).map (·.1)).Nodup;refine dn.mpr ⟨λq=>(dn.mp nd).1 (.tail _ q),(dn.mp (dn.mp nd).2).2⟩
 ·intro p hp;obtain⟨q,hq,rfl⟩:=bb.mp hp;exact val q hq
theorem xW{T:List (a7×AV)}{st:St}(R:c8 g ro (ga::(env.locals,oL)::H) X s)(S:aX (tU g A env (AW g ga.1 env.locals H s) s.gens (ga::H)) st T s'):
  ∃wo,A3 (NsObj wo) (c9 g (ga::(env.locals,oL)::H) X s (ga::(env.locals,wo)::H) X s') (∀(v:a7) (a:AV) (r:FV),(v,a)∈T->jE st.own a r->VR s'.heap (λb=>fC g.tt s.heap b/\b∉HA (ga::(env.locals,wo)::H)) r v):=by
 obtain⟨m,as,P,N,B⟩:=S;obtain⟨wo,DA,NI⟩:=rQ B.ns;have nd:=R.nd;refine⟨wo,NI,{keep:=λb o h1 h2 e=>B.keep b o (nR e h1 (λq=>h2 (q▸ .head _)) (λq=>h2 (q▸ .tail _ (.head _))) (λq=>h2 (.tail _ (.tail _ q)))),tab:=λb hb aa=>B.low.2 b hb,os:=B.os.trans R.os.symm,len:=rfl,bare:=R.bare,gens:=λtl e=>?_,there:=λa ha aa aa=>?_,aV:=λp hp=>?_,new:=λp hp=>?_,nd:=nd},λv a r hv hs=>?_⟩
 ·obtain⟨vO,e',hb⟩:=B.gens;refine⟨vO,?_,hb⟩;rw[e'];rw[show(tU g A env (AW g ga.1 env.locals H s) s.gens (ga::H)).g0=s.gens from rfl];rw[e];simp[acx,hJ]
 ·obtain⟨p,hp,rfl⟩:=bb.mp ha;rcases a5.mp hp with rfl|hp
  ·rw[(B.aV p (.head _)).1];rfl
  ·rcases a5.mp hp with rfl|hp
   ·show(s'.heap.get? env.locals).isSome=true;rw[show s'.heap.get? env.locals=some wo from DA];rfl
   ·rw[(B.aV p (.tail _ hp)).1];rfl
 ·rcases a5.mp hp with rfl|hp
  ·exact(B.aV p (.head _)).1
  ·rcases a5.mp hp with rfl|hp
   ·exact DA
   ·exact(B.aV p (.tail _ hp)).1
 ·refine .inl ?_;rcases a5.mp hp with rfl|hp
  ·exact .head _
  ·rcases a5.mp hp with rfl|hp
   ·exact .tail _ (.head _)
   ·exact .tail _ (.tail _ (eD hp))
 ·refine VR.mono (λaa aa aa e=>e) (λb hb=>?_) (B.Ft hs v (B.bw _ hv));have z:b∉g.tt/\(AW g ga.1 env.locals H s).get? b=none/\b≠env.locals/\b∉HA (ga::H):=by
   rcases hb with hb|hb
   ·refine⟨(B.pf b (B.nP b hb)).2.2,B.new b hb,(B.pf b (B.nP b hb)).1,λq=>?_⟩;obtain⟨p,hp,rfl⟩:=bb.mp q;exact(B.aV p hp).2.2.2.1 (B.nP _ hb)
   ·refine⟨(B.fresh b hb).2.2.2,(B.fresh b hb).1,(B.fresh b hb).2.1,λq=>?_⟩;obtain⟨p,hp,rfl⟩:=bb.mp q;exact(B.aV p hp).2.2.2.2.1 hb
  obtain⟨z1,z2,z3,z4⟩:=z;have z5:b∉HA (ga::(env.locals,wo)::H):=λq=>by
   rcases a5.mp q with q|q
   ·exact z4 (q▸ .head _)
   ·rcases a5.mp q with q|q
    ·exact z3 q
    ·exact z4 (.tail _ q)
  refine⟨⟨?_,z1⟩,z5⟩;cases q:s.heap.get? b with
  |none=>rfl
  |some o=>rw[nR q z1 (λy=>z4 (y▸ .head _)) z3 (λy=>z4 (.tail _ y))]at z2;exact(cu z2 rfl).elim
end
def QV(r:FV):AV->St->Prop:=λy gW=>jE gW.own y r
def NK(c:Cx)(elt:Expr)(o:Option FV):Bool->St->Prop:=λok bD=>if ok=true then∃r,o=some r/\Ev c elt bD (QV r)else o=none
def iH(g:Gx)(env:Env)(n:Nat)(fr:List (Str×FV))(tgt:Expr)(ifs:List Expr)(elt:Expr)(out:FV->Option FV)(x:FV):Prop:=
 ∀(A:ka) (h0:wq) (gens:Array de) (aV:List (dq×Obj)),bQ (tU g A env h0 gens aV) n-> ∀(T:List (a7×AV)) (v:a7) (s:a8),aX (tU g A env h0 gens aV) ⟨fr.map λp=>(p.1,.f p.2),[]⟩ ((v,.f x)::T) s->
  dE (dC g.prog g.w) A (afd tgt env v) (λaa s' => ∃l2,aX (tU g A env h0 gens aV) ⟨l2,[]⟩ T s' /\jF (tU g A env h0 gens aV) ifs ⟨l2,[]⟩ (NK (tU g A env h0 gens aV) elt (out x))) (λaa aa=>False) s
theorem DR.mono(h:DR g env ro fr)(hs: ∀p∈ro,p∈cY):DR g env cY fr:=λe he=>by obtain⟨a,b,v,c,d,r⟩:=h e he;exact⟨a,b,v,c,d,hs _ r⟩
structure Ge where(elt tgt iter:Expr)(ifs:List Expr)(scope:aeY)(pos:Pos)
noncomputable abbrev Ge.e (q:Ge):Expr:= .GeneratorExp q.elt [⟨q.tgt,q.iter,q.ifs,0⟩] q.scope q.pos
noncomputable abbrev Ge.code(q:Ge)(I:dq)(env:Env):Code:= .compLoop q.e 0 (.ref I) .none env
section
variable{M:adC}{A:ka}{F:End->a8->Prop}{s:a8}{q:Ge}{I:dq}{env:Env}
inductive Zw (M:adC)(A:ka)(F:End->a8->Prop)(q:Ge)(I:dq)(env:Env)(ok:Bool)(s:a8):Prop
 |no (e:ok=false) (h:bN M A F (q.code I env) (M.den (q.code I env)) [] s)
 |yes (e:ok=true) (h:dE M (A.over (q.code I env) []) (acp q.elt env) (λy s4=> ∀(k:Resume->Sem PySem.Fin) (p:Pos),(∀F' uP,bN M A F' (q.code I env) (M.den (q.code I env)) [] uP->bN M A F' (q.code I env) (k (.send .none)) [] uP)->F (.susp y false [] k (q.code I env) p []) s4) (λaa aa=>False) s)
inductive QW(M:adC)(A:ka)(F:End->a8->Prop)(q:Ge)(I:dq)(env:Env)(r:Option a7)(s:a8):Prop
 |stop (e:r=none) (h:F (.ret (.ok .next)) s)
 |go (v:a7) (e:r=some v) (h:dE M (A.over (q.code I env) []) (Z3 q.tgt (.ref I) v) (λaa s1=>dE M (A.over (q.code I env) []) (afd q.tgt env v) (λaa s2=>dE M (A.over (q.code I env) []) (forIn q.ifs true λt r=>if r=true then do let ok<-abF t env (acp t env);pure (sk ok)else pure (sk r)) (Zw M A F q I env) (λaa aa=>False) s2) (λaa aa=>False) s1) (λaa aa=>False) s)
theorem CG(wm:env.scope.isCoroutine=false)(h:dE (dC prog w) (A.over (q.code I env) []) (aaW (.ref I)) (QW (dC prog w) A F q I env) (λaa aa=>False) s):bN (dC prog w) A F (q.code I env) ((dC prog w).den (q.code I env)) [] s:=by
 show bN _ A _ _ ((ahs q.e 0 (.ref I) .none env).onRaise (ahx env)) [] s;rw[compTurn_gen];rw[Px];refine aT (rn (aT (hO h (λr s1 z=>?_) aM)));cases z with
 |stop e h=>rw[e];exact GJ (.ok .next) h
 |go v e h=>
  rw[e];refine aT (hO h (λaa s2 z=>aT (hO z (λaa s3 z=>aT (hO z (λok s4 z=>?_) aM)) aM)) aM);cases z with
  |no e h=>rw[e];exact g9 rfl h
  |yes e h=>
   rw[e];have hy: ∀v,afm env v=yieldValue v:=λv=>by unfold afm;rw[wm];rfl
   show bN _ A _ _ (((acp q.elt env>>=λv=>aau q.elt.pos>>=λaa=>afm env v>>=λaa=>pure ())>>=_).wrap _ _ _ _) [] _;simp only[hy];rw[xi];rw[xi];rw[Hn];rw[Hn];exact nM (hO h (λy s5 z=>GH (xS rfl λp=>z _ p λF' uP hS=>g9 rfl hS)) aM)
end
section
variable{g:Gx}{A:ka}{env:Env}{ga:dq×Obj}{fr:List (Str×FV)}{rv:List (a7×FV)}
theorem NL {n:Nat}{q:Ge}{I:dq}{out:FV->Option FV}(hA:cM n (A.over (q.code I env) []))
  (EO:CF g env)(jU:DR g env rv fr): ∀(l:List FV) (ro:List (a7×FV)) (H:List (dq×Obj)) (X:List de) (oL:Obj) (s:a8),
   gf {g with cl:=[]} (A.over (q.code I env) []) q.tgt I l ro H X->(∀x∈l,iH g env n fr q.tgt q.ifs q.elt out x)->NsObj oL->c8 g (ro++rv) (ga::(env.locals,oL)::H) (X++[.running]) s->
   bN (dC g.prog g.w) A (kr g A ga (l.filterMap out) (ro++rv) ((env.locals,oL)::H) X s) (q.code I env) ((dC g.prog g.w).den (q.code I env)) [] s:=λl=>by
 induction l with
 |nil=>intro ro H X oL s hl _ _ R;refine CG EO.co (hO (hl s (c8.sub (E:=[ga,(env.locals,oL)]) R)) (λr s1 z=>?_) aM);obtain⟨e,X',F⟩:=z;exact .stop e ⟨.inr rfl,X',Fin'.lift (E:=[ga,(env.locals,oL)]) (g' :={g with cl:=[]}) ⟨rfl,rfl⟩ R F⟩
 |cons x l ih=>
  intro ro H X oL s hl ht hL R;refine CG EO.co (hO (hl s (c8.sub (E:=[ga,(env.locals,oL)]) R)) (λr s0 z=>?_) aM);obtain⟨v,e,z⟩:=z;refine .go v e (wpS z (λaa s1 z=>nn λhN=>?_));obtain⟨cY,H',X',S0,Y0,JY⟩:=z;have S1:c9 g (ga::(env.locals,oL)::H) (X++[.running]) s (ga::(env.locals,oL)::H') (X' ++[.running]) s1:=c9.lift (E:=[ga,(env.locals,oL)]) (g' :={g with cl:=[]}) ⟨rfl,rfl⟩ R S0;have Y1:Yv g (ro++rv) (ga::(env.locals,oL)::H) s (ga::(env.locals,oL)::H') s1 (((v,x)::cY)++rv):=Yv.lift (E:=[ga,(env.locals,oL)]) (g' :={g with cl:=[]}) ⟨rfl,rfl⟩ R S0 Y0;have R1:c8 g (((v,x)::cY)++rv) (ga::(env.locals,oL)::H') (X' ++[.running]) s1:=c9.mS R S1 Y1;refine hN (wpS (ht x (.head _) _ _ _ _ (NJ R1 EO hA) _ v s1 (Ku (A:=A.over (q.code I env) []) R1 hL EO (jU.mono λp hp=>ba _ hp))) (λaa s2 z=>?_));obtain⟨l2,S2,Zx⟩:=z;refine wpS (F4 q.ifs Zx _ s2 S2) (λok s3 z=>?_);obtain⟨gW,S3,hq⟩:=z;cases ok with
  |false=>refine .no rfl (nn λhN=>?_);obtain⟨wo,NI,S4,_⟩:=xW R1 S3;have Y2:Yv g (((v,x)::cY)++rv) (ga::(env.locals,oL)::H') s1 (ga::(env.locals,wo)::H') s3 (cY++rv):=λP hP jc q hq=>Yv.same S4 P hP jc q (.tail _ hq);refine hN (bN.mono (ih cY H' X' wo s3 JY (λy hy=>ht y (.tail _ hy)) NI (c9.mS R1 S4 Y2)) λe s₁ h=>?_);rw[aa0 hq];exact kr.trans (S1.trans S4) (Yv.trans S1 Y1 S4 Y2) h
  |true=>obtain⟨r,hr,Vn⟩:=hq;refine .yes rfl (wpS (Vn.run _ s3 S3) (λy s4 z=>λk p hk=>nn λhN=>?_));obtain⟨ay,ER,S4,qz⟩:=z;obtain⟨wo,NI,S5,Vo⟩:=xW R1 S4;have Y2:Yv g (((v,x)::cY)++rv) (ga::(env.locals,oL)::H') s1 (ga::(env.locals,wo)::H') s4 (cY++rv):=λP hP jc q hq=>Yv.same S5 P hP jc q (.tail _ hq);have DS:VR s4.heap (λb=>fC g.tt s.heap b/\b∉HA (ga::(env.locals,wo)::H')) r y:=VR.mono (λaa aa aa e=>e) (λb hb=>⟨⟨S1.Cz hb.1.2 hb.1.1,hb.1.2⟩,hb.2⟩) (Vo y ay r (.head _) qz);rw[va hr]at hN;exact hN ⟨y,rfl,rfl,cY++rv,(env.locals,wo)::H',X',S1.trans S5,λP hP jc=>bH (VR.mono (λaa aa aa e=>e) (λb hb=> .inr hb) DS) (Yv.trans S1 Y1 S5 Y2 P hP jc),DS,iY.of λuP Vk=>hk _ uP (bN.mono (ih cY H' X' wo uP JY (λy hy=>ht y (.tail _ hy)) NI Vk) λaa aa=>kr.post)⟩
theorem AY{F:End->a8->Prop}{q:Ge}{I:dq}{ro:List (a7×FV)}{H:List (dq×Obj)}{X:List de}{oL:Obj}{s:a8}(hs:lW {g with cl:=[]} I ro H X)(R:c8 g (ro++rv) (ga::(env.locals,oL)::H) (X++[.running]) s)
  (loop:bN (dC g.prog g.w) A F (q.code I env) ((dC g.prog g.w).den (q.code I env)) [] s):
  iX (dC g.prog g.w) A F (.fresh (.compStart q.e 0 (.ref I) .none env)) s:=by
 have R0:c8 {g with cl:=[]} ro H X s:=c8.sub (E:=[ga,(env.locals,oL)]) R;show bN _ A _ _ ((compStart q.e 0 (.ref I) .none env).onRaise (ahx env)) [] s;unfold compStart;rw[Px];refine aT (Fm ?_);split
 ·exact g9 rfl loop
 ·first
   |exact aT (Fn (aT (rn (aT (hO (hs _ s (λit s' =>it= .ref I/\s' =s) R0 ⟨rfl,rfl⟩) (λit s' z=>by obtain⟨rfl,rfl⟩:=z;exact g9 rfl loop) aM)))))
   |(refine aT (Fn ?_)
     exact aT (rn (aT (hO (hs _ s (λit s' =>it= .ref I/\s' =s) R0 ⟨rfl,rfl⟩) (λit s' z=>by obtain⟨rfl,rfl⟩:=z;exact g9 rfl loop) aM))))
theorem DT{n:Nat}{q:Ge}{I:dq}{out:FV->Option FV}(hA:cM n (A.over (q.code I env) []))
  (EO:CF g env)(jU:DR g env rv fr){l:List FV}{ro:List (a7×FV)}{H:List (dq×Obj)}{X:List de}{oL:Obj}(hl:gf {g with cl:=[]} (A.over (q.code I env) []) q.tgt I l ro H X)
  (hs:lW {g with cl:=[]} I ro H X)(ht: ∀x∈l,iH g env n fr q.tgt q.ifs q.elt out x)(hL:NsObj oL){s:a8}(R:c8 g (ro++rv) (ga::(env.locals,oL)::H) (X++[.running]) s):
  iX (dC g.prog g.w) A (kr g A ga (l.filterMap out) (ro++rv) ((env.locals,oL)::H) X s) (.fresh (.compStart q.e 0 (.ref I) .none env)) s:=
 AY hs R (NL (ga:=ga) hA EO jU l ro H X oL s hl ht hL R)
end
def cQ(K:abE)(cd P:dq):Prop:= ∃o vs file tf flags tg Vp text Vq,K.lookup cd=some o/\o.data= .fields vs/\vs.getD 11 .none= .ref P/\vs.getD 18 .none= .str file tf/\
  vs.getD 7 .none= .int flags tg/\vs.getD 9 .none= .bool Vp/\vs.getD 10 .none= .int text Vq/\cd≠P/\o.cls= .type "code"
theorem cQ.NN{K:abE}{cd P:dq}{h:wq}(C:cQ K cd P)(X:K.In h)(T:dm h P): ∃ps,h.IsCode cd P ps/\h.TableAt cd P ps:=by
 refine nn λhN=>?_;obtain⟨o,vs,file,tf,flags,tg,Vp,text,Vq,e,r1,r2,r3,r4,r5,r6,ne,hc⟩:=C;obtain⟨op,ps,e2,rfl,t2⟩:=T;refine hN ⟨ps,⟨o,vs,file,tf,flags,tg,Vp,text,Vq,_,X _ _ e,r1,r2,r3,r4,r5,r6,e2,rfl,t2,ne⟩,⟨o,vs,X _ _ e,hc,r1,?_⟩,e2⟩;rw[acb]at r2;cases q:vs[11]? with
 |none=>rw[q]at r2;cases r2
 |some v=>rw[q]at r2;exact congrArg some r2
theorem lY(x:h.IsCode cd P ps)(y:h.TableAt cd P ps):dm h P:=
by refine nn λhN=>?_;obtain⟨_,_,_,_,_,_,_,_,_,_,_,_,_,_,_,_,_,_,_,t,_⟩:=x;exact hN ⟨_,ps,y.2,rfl,t⟩
theorem qk(hc:env.code= .ref c)(wA:s.heap.IsCode c P ps)(QX:s.heap.TableAt c P ps)
  (hQ: ∀code h' tk Xq,ail P s.heap h' ->h'.IsCode c P Xq->h'.TableAt c P Xq->Q code {s with heap:=h',toks:=tk}):dE M A (genexprCode env pos qualname scope) Q E s:=by
 cases Xs:codeAmong pos ps.toList with
 |some cv=>exact wpAny_genexprCode_hit hc wA Xs (hQ cv s.heap s.toks ps (aiu _ _) wA QX)
 |none=>exact wpAny_genexprCodeX hc wA QX Xs λc' h' tk h1 aa aa h2 aa h3 aa=>hQ _ h' tk _ h1 h2 h3
inductive QY(c:Cx)(scope:aeY)(cl:List (Str×dq))(st:St):List (Str×FV)->Prop
 |nil:QY c scope cl st []
 |cons {x:Str} {av:AV} {fv:FV} {r:List (Str×FV)} (i:Nat):st.loc[i]?=some (x,av)->c.env.kindOf x=some .cell->(∀C code bi,(afn scope cl C code bi c.env).kindOf x=some .free)->cl.lookup x=c.env.cells.lookup x->Snap st.own av fv->
  QY c scope cl st r->QY c scope cl st ((x,fv)::r)
section
variable{c:Cx}{st:St}{T:List (a7×AV)}{s:a8}{m:Str->Option a7}{as:List dq}{P N:dq->Prop}
set_option tactic.hygienic true in
theorem az.frees (B:az c st T s m as P N){scope:aeY}{cl:List (Str×dq)}{fr:List (Str×FV)}(F:QY c scope cl st fr):
  E2 λ(cs:List (dq×a7)) (rv:List (a7×FV))=>A3 (∀p∈cs,s.heap.IsCell p.1 (some p.2)/\p.1∉c.tt) (∀p∈rv,VR s.heap (· ∉c.tt) p.2 p.1) (∀e∈fr,(∀C code bi,(afn scope cl C code bi c.env).kindOf e.1=some .free)/\E2 λb v=>A3 (cl.lookup e.1=some b) ((b,v)∈cs) ((v,e.2)∈rv)):=by
 induction F with
 |nil=>exact⟨[],[],λaa h=>(nomatch h),λaa h=>(nomatch h),λaa h=>nomatch h⟩
 |cons i h1 h2 h3 h4 h5 _ ih=>
  rename_i x av fv r _
  refine nn λhN=>?_;obtain⟨cs,rv,i1,i2,i3⟩:=ih;obtain⟨v,hv,hr⟩:=B.loc _ (d3 h1);refine hN ?_;unfold bC at hv;rw[h2]at hv;refine nn λhN=>?_;obtain⟨b,hb,hc,hw⟩:=hv;refine hN ?_;have Uo:b∉c.tt:=by
   rcases hw with hw|hw
   ·exact(B.kU _ b hb hw).2.2.2.2.2
   ·obtain⟨o',e'⟩:=cx.mp hw;exact B.qf b o' e'
  refine⟨(b,v)::cs,(v,fv)::rv,λp hp=>?_,λp hp=>?_,λe he=>?_⟩
  ·rcases a5.mp hp with rfl|hp
   ·exact⟨hc,Uo⟩
   ·exact i1 p hp
  ·rcases a5.mp hp with rfl|hp
   ·exact B.snap h5 v hr
   ·exact i2 p hp
  ·rcases a5.mp he with rfl|he
   ·exact⟨h3,b,v,h4.trans hb,.head _,.head _⟩
   ·obtain⟨j1,b',v',j2,j3,j4⟩:=i3 e he;exact⟨j1,b',v',j2,.tail _ j3,.tail _ j4⟩
structure Made(c:Cx)(s1 s' :a8)(ad:dq)(l:List FV)(g:Gx)(ro:List (a7×FV))(H:List (dq×Obj))(X:List de)(n2:Nat):Prop where
 gp:g.prog=c.prog/\g.w=c.w/\g.K=c.K/\g.tt=c.tt/\g.g0=s1.gens/\g.os=s1.os
 Cy:c8 g ro H X s'
 live: ∀(A' :ka) (tgt:Expr),plainT tgt->cM n2 A' ->gf g A' tgt ad l ro H X
 first: ∀(A' :ka),cM n2 A' ->o9 g A' ad l ro H X
 self:lW g ad ro H X
 Xu: ∀s,c8 g ro H X s->s.TypeIs (.ref ad) "generator"
 new: ∀p∈H,s1.heap.get? p.1=none
 keep: ∀b o,b∉c.tt->s1.heap.get? b=some o->s'.heap.get? b=some o
 old: ∀a,(s1.heap.get? a).isSome->(s'.heap.get? a).isSome
theorem room_in{n:Nat}{A:ka}{c:Code}(R:cM (n+1) A)(hw:c.weight≤2)(hu:c.cUnits≤6):cM n (A.in1.over c []) where
 hh:=R.hh
 dp:=by have h1:=R.dp;show A.depth+0+c.weight+4*n<ph;lia
 un:=by have h1:=R.un;show A.in1.units+0+c.cUnits+40*n<cLine;rw[aaz];lia
theorem cM.mono(R:cM n A)(h:n' ≤n):cM n' A:=⟨R.hh,eT R.dp h,eT R.un h⟩
noncomputable def Act:=d5->fA->ka->a7->(a7->a8->Prop)->a8->Prop
noncomputable def lB:Act:=λprog w A v Q s=>dE (dC prog w) A (aba v) Q (λaa aa=>False) s
def qF(act:Act)(prog:d5)(w:fA)(K:abE)(tt:List dq)(n:Nat)(x0:FV)(Ls:List FV->Prop)(tgt:Expr):Prop:=
 ∀(A:ka) (s:a8) (v0:a7) (Q:a7->a8->Prop),Good K tt n A s->VR s.heap (· ∉tt) x0 v0->
  (∀I H X ro s' l,Ls l->DQ tt s s' H X->(∀P:dq->Prop,VR s.heap P x0 v0-> ∀q∈ro,VR s'.heap P q.2 q.1)->(∀A',cM n A' ->gf ⟨prog,w,K,tt,[],s.gens,s.os⟩ A' tgt I l ro H X)->(∀g0 os,lW ⟨prog,w,K,tt,[],g0,os⟩ I ro H X)->Q (.ref I) s')->
  act prog w A v0 Q s
def xX(c:Cx)(e iter:Expr)(act:Act):Prop:= ∀(s:a8) (Q:a7->a8->Prop),c.K.In s.heap->
 dE (dC c.prog c.w) c.A (acp e c.env) (λv s1=>c.K.In s1.heap/\act c.prog c.w c.A v Q s1) (λaa aa=>False) s->
 dE (dC c.prog c.w) c.A (acp iter c.env) (λv s1=>dE (dC c.prog c.w) c.A (aba v) Q (λaa aa=>False) s1) (λaa aa=>False) s
inductive GenQ(c:Cx)(act:Act)(n1 n2:Nat)(scope:aeY)(cl:List (Str×dq))(bi:dq)(tgt:Expr)(ifs:List Expr)(elt:Expr)(QQ:St->List FV->Prop)(a:AV)(bl:St):Prop
 |mk (xf:FV) (Ls:List FV->Prop) (out:FV->Option FV) (fr:List (Str×FV)) (h1:qF act c.prog c.w c.K c.tt n1 xf Ls tgt) (h2:Snap bl.own a xf) (h3:QY c scope cl bl fr) (q: ∀l,Ls l->QQ bl (l.filterMap out)/\ ∀x∈l,∀g C code,(g.prog=c.prog/\g.w=c.w/\g.K=c.K/\g.tt=c.tt)->iH g (afn scope cl C code bi c.env) n2 fr tgt ifs elt out x)
theorem mT:xX c e e lB:=λaa aa aa h=>wpS h (λaa aa z=>z.2)
set_option maxHeartbeats 1000000 in
theorem uT(O:bQ c n)(hn:n1+1≤n)(Kv:n1+1≤n3)(Kw:n2+1≤n3)(cl:List (Str×dq))(eE:RF scope c.env=pure cl)(cd Pt:dq)(nS:c.env.code= .ref cd)(Jw:cQ c.K cd Pt)(hP:Pt∈c.tt)
  (Jx:ag7 c.K ⟨c.prog,c.w.params⟩ (adl c.env.globals c.env.builtins)=some bi)
  (GN:xX c e0 iter act)(h:Ev c e0 st (GenQ c act n1 n2 scope cl bi tgt ifs elt QQ))
  (wm:scope.isCoroutine=false)(nU: ∀y∈scope.names,y.2≠ .cell)(h0:scope.names.lookup (".0" :Str)=some NameKind.local)(dw:scope.kind= .function)(cj: ∀C code bi,rk (afn scope cl C code bi c.env)=false)(hs: ∀x,ahz iter c.env x=pure x)(T:List (a7×AV))(s:a8)(S:aX c st T s):
  dE (dC c.prog c.w) c.A (acp (.GeneratorExp elt [⟨tgt,iter,ifs,0⟩] scope pos) c.env) (λgv s' => ∃bl s1 l v0 a g ro H X ad,gv= .ref ad/\aX c bl ((v0,a)::T) s1/\Made c s1 s' ad l g ro H X n3/\QQ bl l) (λaa aa=>False) s:=by
 refine wpAny_GeneratorExp_make wm eE nU h0 dw (by have:=O.dp;exact w8 (a0 this (cb ph (4*n)))) (GN s _ (S.cO O.toOk) (wpS (h.run T s S) (λv0 s1 z=>?_))) hs;refine nn λhN=>?_;obtain⟨a,bl,S1,xf,Ls,out,fr,v5,qz,jU,GO⟩:=z;have G1:=S1.good (A:=c.A) (n' :=n1) O O.hh (cb c.A.depth 3) (cb c.A.units 39) hn;have M9:=S1;obtain⟨m,as,P,N,B⟩:=M9;have hv:=B.snap qz v0 (B.bw _ (.head _));obtain⟨cs,rv,f1,f2,f3⟩:=B.frees jU;refine hN ⟨S1.cO O.toOk,v5 c.A s1 v0 _ G1 hv λI H X ro s2 l hl C jc xY uS=>?_⟩;have X2:c.K.In s2.heap:=λb o e=>C.keep b o (G1.cO b o e);have T2: ∀b∈c.tt,dm s2.heap b:=λb hb=>(G1.tab b hb).of λo=>C.keep b o;obtain⟨ps,wA,Zy⟩:=Jw.NN X2 (T2 Pt hP);refine⟨G1.lim.keeps C.keep,qk nS wA Zy λcode h3 ES ps3 Zz QZ Q0=>?_⟩;have k3: ∀b o,b≠Pt->s2.heap.get? b=some o->h3.get? b=some o:=λb o nb e=>Zz b o nb e;have X3:c.K.In h3:=λb o e=>k3 b o (λq=>G1.kt b o e (q▸hP)) (X2 b o e);refine(Hc (M:=dC c.prog c.w) (h:=h3) X3 Jx).here (s:={s2 with heap:=h3,toks:=ES}) ?_;intro h5 Po Vr;dsimp only at Vr Po;obtain⟨oL,gL,hL⟩:=rQ Po;have Tc:h5.objs.size=h3.objs.size+1:=by rw[Vr.1];rw[ot];rfl
 have k5: ∀b o,h3.get? b=some o->h5.get? b=some o:=λb o e=>Vr.extBut b o (du (d4 e)) (aw _ e);have z12: ∀b o,s1.heap.get? b=some o->b<s2.heap.objs.size:=λb o e=>d4 (C.keep b o e);have ZA: ∀o,s2.heap.get? Pt=some o-> ∃o',h3.get? Pt=some o' :=λo aa=>by obtain⟨op,_,e,_⟩:=lY QZ Q0;exact⟨op,e⟩
 have AZ: ∀b o,s2.heap.get? b=some o-> ∃o',h3.get? b=some o' :=λb o e=>by
  by_cases q:b=Pt
  ·subst q;exact ZA o e
  ·exact⟨o,k3 b o q e⟩
 have Td: ∀b o,s2.heap.get? b=some o->Nat.lt b h3.objs.size:=λb o e=>by obtain⟨o',e'⟩:=AZ b o e;exact d4 e'
 let oa:Obj:={cls:=aej "generator",data:=agV #[Value.int (s2.gens.size:Nat) 0,Value.str (fe "<genexpr>") (ES+1),Value.str (c.env.qual++fe "<genexpr>") (ES+1+1)]}
 let gs:de:= .fresh (.compStart (.GeneratorExp elt [⟨tgt,iter,ifs,0⟩] scope pos) 0 (.ref I) .none (afn scope cl h3.objs.size code bi c.env))
 have k6: ∀b o,h3.get? b=some o->(h5.push oa).get? b=some o:=λb o e=>aw _ (k5 b o e);have Q2: ∀b o,b∉c.tt->s1.heap.get? b=some o->(h5.push oa).get? b=some o:=λb o nb e=>k6 b o (k3 b o (λq=>nb (q▸hP)) (C.keep b o e));have Xv: ∀b o,b∉c.tt->s2.heap.get? b=some o->(h5.push oa).get? b=some o:=λb o nb e=>k6 b o (k3 b o (λq=>nb (q▸hP)) e);have uo: ∀b:Nat,h3.objs.size≤b->s1.heap.get? b=none:=λb hb=>by
  cases q:s1.heap.get? b with
  |none=>rfl
  |some o=>exact absurd (Td b o (C.keep b o q)) (mr.mpr hb)
 have Js: ∀b:Nat,h3.objs.size≤b->b∉c.tt:=λb hb q=>by obtain⟨o,_,e,_⟩:=T2 b q;exact absurd (Td b o e) (mr.mpr hb)
 have Vs: ∀b,s1.heap.get? b=none->c.K.lookup b=none/\b≠aaj:=λb hb=>by
  refine⟨?_,λq=>?_⟩
  ·cases q:c.K.lookup b with
   |none=>rfl
   |some o=>have:=G1.cO b o q;rw[hb]at this;exact(cu rfl this).elim
  ·obtain⟨mc,⟨o,_,_,e,_⟩,_⟩:=G1.lim;rw[<-q,hb]at e;exact(cu rfl e).elim
 have hH: ∀p∈H,Nat.lt p.1 h3.objs.size:=λp hp=>Td p.1 p.2 (C.aV p hp).1;have DS: ∀p∈(h5.objs.size,oa)::(h3.objs.size,oL)::H,s1.heap.get? p.1=none:=bH (uo _ (by rw[Tc];exact me _)) (bH (uo _ (cq _)) λp hp=>(C.aV p hp).2.1);have Vt: ∀a,(s1.heap.get? a).isSome->a∉HA ((h5.objs.size,oa)::(h3.objs.size,oL)::H):=λa ha q=>by obtain⟨p,hp,rfl⟩:=bb.mp q;rw[DS p hp]at ha;exact absurd ha (by decide)
 have ZC:HeapOk c.K c.tt ⟨h5.push oa,s2.gens.push gs,s2.drawn,ES+1+1+1,s2.os⟩:=
  {cO:=λa o e=>Q2 a o (G1.kt a o e) (G1.cO a o e)
   kt:=G1.kt
   lim:=by obtain⟨mc,hm,e⟩:=G1.lim;exact⟨mc,hm.at' λo q=>Q2 _ o G1.st q,e⟩
   st:=G1.st
   sz:=λa ha=>by obtain⟨o,_,e,_⟩:=T2 a ha;obtain⟨o',e'⟩:=AZ a o e;exact d4 (k6 a o' e')
   tab:=λa ha=>by
    by_cases q:a=Pt
    ·subst q;exact(lY QZ Q0).of λo=>k6 _ o
    ·exact(T2 a ha).of λo e=>k6 a o (k3 a o q e)}
 have hz:s2.gens.size=s1.gens.size+X.length:=by rw[C.gens];simp
 have both: ∀A',cM n3 A' ->(∀tgt,plainT tgt->gf ⟨c.prog,c.w,c.K,c.tt,cs,s1.gens,s1.os⟩ A' tgt h5.objs.size (l.filterMap out) (ro++rv) ((h5.objs.size,oa)::(h3.objs.size,oL)::H) (X++[gs]))/\o9 ⟨c.prog,c.w,c.K,c.tt,cs,s1.gens,s1.os⟩ A' h5.objs.size (l.filterMap out) (ro++rv) ((h5.objs.size,oa)::(h3.objs.size,oL)::H) (X++[gs]):=λA' tD=>by
  refine AS tD.hh (by have:=tD.dp;lia) ⟨rfl,⟨Value.str (fe "<genexpr>") (ES+1),Value.str (c.env.qual++fe "<genexpr>") (ES+1+1),?_⟩,rfl⟩ λs' R' =>?_
  ·show agV #[Value.int (s2.gens.size:Nat) 0,_,_]=agV #[Value.int ((s1.gens.size+X.length:Nat):Int) 0,_,_];rw[hz];rfl
  ·refine DT (q:=⟨elt,tgt,iter,ifs,scope,pos⟩) (g:=⟨c.prog,c.w,c.K,c.tt,cs,s1.gens,s1.os⟩) (A:=A'.in1) (n:=n2) (fr:=fr) (rv:=rv) (env:=afn scope cl h3.objs.size code bi c.env) (room_in (tD.mono Kw) ?_ ?_) ⟨dw,cj _ _ _,wm,λb o e=>Td b o (X2 b o e)⟩ (λe he=>?_) (xY _ (room_in (tD.mono Kv) ?_ ?_)) (uS _ _) (λx hx=>(GO l hl).2 x hx _ _ _ ⟨rfl,rfl,rfl,rfl⟩) hL R'
   ·exact bo rfl
   ·exact bo rfl
   ·obtain⟨j1,b,v,j2,j3,j4⟩:=f3 e he;exact⟨j1 _ _ _,b,v,j2,j3,j4⟩
   ·exact bo rfl
   ·exact bo rfl
 refine⟨bl,s1,l.filterMap out,v0,a,⟨c.prog,c.w,c.K,c.tt,cs,s1.gens,s1.os⟩,ro++rv,(h5.objs.size,oa)::(h3.objs.size,oL)::H,X++[gs],h5.objs.size,rfl,S1,⟨⟨rfl,rfl,rfl,rfl,rfl,rfl⟩,⟨ZC,λp hp=>?_,λp hp=>?_,λp hp=>?_,?_,⟨[],?_,λaa h=>nomatch h⟩,λy hy=>?_,C.os⟩,λA' Vu ht tD=>(both A' tD).1 Vu ht,λA' tD=>(both A' tD).2,uQ (k:=s2.gens.size) ⟨rfl,⟨_,_,rfl⟩,rfl⟩,λs R=>(ia (k:=s2.gens.size) (R.aV _ (.head _)).1 ⟨rfl,⟨_,_,rfl⟩,rfl⟩).typeIs,DS,Q2,λb hb=>?_⟩,(GO l hl).1⟩
 ·rcases cp.mp hp with hp|hp
  ·have:=jc (λa=>a∉c.tt/\(s1.heap.get? a).isSome) hv.there p hp;exact VR.mono (λb o h e=>Xv b o h.1 e) (λb h=>⟨h.1,Vt b h.2⟩) this
  ·exact VR.mono (λb o h e=>Q2 b o h.1 e) (λb h=>⟨h.1,Vt b h.2⟩) (f2 p hp).there
 ·obtain⟨⟨o,e,d⟩,hb⟩:=f1 p hp;exact⟨⟨o,Q2 _ o hb e,d⟩,hb,Vt _ (by rw[e];rfl)⟩
 ·have: ∀p∈(h5.objs.size,oa)::(h3.objs.size,oL)::H,(h5.push oa).get? p.1=some p.2/\p.1∉c.tt:=bH ⟨bc _ rfl,Js _ (by rw[Tc];exact me _)⟩ (bH ⟨aw _ gL,Js _ (cq _)⟩ λp hp=>⟨Xv _ _ (C.aV p hp).2.2 (C.aV p hp).1,(C.aV p hp).2.2⟩);exact⟨(this p hp).1,(this p hp).2,Vs p.1 (DS p hp)⟩
 ·refine dn.mpr ⟨λq=>?_,dn.mpr ⟨λq=>?_,C.nd⟩⟩
  ·rcases a5.mp q with q|q
   ·exact adw _ (Tc.symm.trans q)
   ·obtain⟨p,hp,e⟩:=bb.mp q;have h1:=hH p hp;rw[e,Tc]at h1;exact Nat.not_succ_lt_self h1
  ·obtain⟨p,hp,e⟩:=bb.mp q;have h1:=hH p hp;rw[e]at h1;exact ib _ h1
 ·show s2.gens.push gs=s1.gens++((X++[gs])++[]).toArray;rw[C.gens];apply RR;simp
 ·rcases cp.mp hy with hy|hy
  ·exact C.bare y hy
  ·have:y=gs:=by simpa using hy
   subst this;rfl
 ·obtain⟨o,e⟩:=cx.mp hb;obtain⟨o',e'⟩:=AZ b o (C.keep b o e);rw[k6 b o' e'];rfl
theorem GP(O:bQ c n)(hn:n1+1≤n)(Kv:n1+1≤n3)(Kw:n2+1≤n3)(cl:List (Str×dq))(eE:RF scope c.env=pure cl)(cd Pt:dq)(nS:c.env.code= .ref cd)(Jw:cQ c.K cd Pt)(hP:Pt∈c.tt)
  (Jx:ag7 c.K ⟨c.prog,c.w.params⟩ (adl c.env.globals c.env.builtins)=some bi)
  (h:Ev c iter st (GenQ c lB n1 n2 scope cl bi tgt ifs elt QQ))
  (wm:scope.isCoroutine=false)(nU: ∀y∈scope.names,y.2≠ .cell)(h0:scope.names.lookup (".0" :Str)=some NameKind.local)(dw:scope.kind= .function)(cj: ∀C code bi,rk (afn scope cl C code bi c.env)=false)(hs: ∀x,ahz iter c.env x=pure x)(T:List (a7×AV))(s:a8)(S:aX c st T s):
  dE (dC c.prog c.w) c.A (acp (.GeneratorExp elt [⟨tgt,iter,ifs,0⟩] scope pos) c.env) (λgv s' => ∃bl s1 l v0 a g ro H X ad,gv= .ref ad/\aX c bl ((v0,a)::T) s1/\Made c s1 s' ad l g ro H X n3/\QQ bl l) (λaa aa=>False) s:=
 uT O hn Kv Kw cl eE cd Pt nS Jw hP Jx mT h wm nU h0 dw cj hs T s S
end
section
variable{g:Gx}{ro cY:List (a7×FV)}{H H' :List (dq×Obj)}{X X' :List de}{s s' :a8}{A:ka}{I:dq}{tgt:Expr}
theorem pe {α:Type}{it v:a7}{m:Sem α}{Q:α->a8->Prop}{E:a7->a8->Prop}(ht:plainT tgt)(h:dE (dC g.prog g.w) A (Z3 tgt it v) (λaa s' =>dE (dC g.prog g.w) A m Q E s') (λaa aa=>False) s):dE (dC g.prog g.w) A m Q E s:=by have:=ab (E:=E) (hO h (λaa aa z=>z) aM);rw[ht]at this;exact this
theorem uU{α:Type}{x:FV}{l:List FV}{k:Option a7->Sem α}{Q:α->a8->Prop}{E:a7->a8->Prop}(ht:plainT tgt)(L:gf g A tgt I (x::l) ro H X)(R:c8 g ro H X s)
  (h: ∀v s' cY H' X',c9 g H X s H' X' s' ->VR s'.heap (λa=>a∉g.tt/\a∉HA H') x v->c8 g cY H' X' s' ->gf g A tgt I l cY H' X' ->Yv g ro H s H' s' ((v,x)::cY)->dE (dC g.prog g.w) A (k (some v)) Q E s'):
  dE (dC g.prog g.w) A (aaW (.ref I)>>=k) Q E s:=by
 refine ab (hO (L s R) (λr s1 z=>?_) aM);obtain⟨v,rfl,z⟩:=z;refine pe (tgt:=tgt) (it:= .ref I) (v:=v) ht (wpS z (λaa s2 z=>?_));obtain⟨cY,H',X',S,Y,L'⟩:=z;have R2:c8 g ((v,x)::cY) H' X' s2:=c9.mS R S Y;exact h v s2 cY H' X' S (R2.ro _ (.head _)) (c9.Cy R S Y) L' Y
theorem xZ{α:Type}{k:Option a7->Sem α}{Q:α->a8->Prop}{E:a7->a8->Prop}(L:gf g A tgt I [] ro H X)(R:c8 g ro H X s)
  (h: ∀s' X',Fin' g H X s X' s' ->dE (dC g.prog g.w) A (k none) Q E s'):dE (dC g.prog g.w) A (aaW (.ref I)>>=k) Q E s:=by
 refine ab (hO (L s R) (λr s1 z=>?_) aM);obtain⟨rfl,X',F⟩:=z;exact h s1 X' F
variable{R' :abS->a8->Prop}
theorem x8 (ht:plainT tgt): ∀(l:List Bool) (ro:List (a7×FV)) (H:List (dq×Obj)) (X:List de) (s:a8),gf g A.in1 tgt I (l.map .bool) ro H X->c8 g ro H X s->
  (∀X' s',Fin' g H X s X' s' ->R' (.ok (.ret (.bool (l.all id)))) s')->tJ (dC g.prog g.w) A (.builtin "all.loop" ⟨[.ref I],[]⟩) R' s
 | [],ro,H,X,s,L,R,h=>by refine iq age ?_;rw[eP abN _];exact xZ L R λs' X' F=>ab (Fn (ax (h X' s' F)))
 |b::l,ro,H,X,s,L,R,h=>by
  refine iq age ?_;rw[eP abN _];refine uU ht L R λv s' cY H' X' S hv R' L' Y=>?_;have hv:v= .bool b:=hv;subst hv;refine ab (eJ (xa (ab (y6 ?_))));cases b with
  |true=>exact ax ⟨lj abN _,x8 ht l cY H' X' s' L' R' λX2 s2 F=>h X2 s2 (Fin'.trans S F)⟩
  |false=>exact ab (Fn (ax (h X' s' S.toFin')))
theorem x9(ht:plainT tgt): ∀(l:List Bool) (ro:List (a7×FV)) (H:List (dq×Obj)) (X:List de) (s:a8),gf g A.in1 tgt I (l.map .bool) ro H X->c8 g ro H X s->
  (∀X' s',Fin' g H X s X' s' ->R' (.ok (.ret (.bool (l.any id)))) s')->tJ (dC g.prog g.w) A (.builtin "any.loop" ⟨[.ref I],[]⟩) R' s
 | [],ro,H,X,s,L,R,h=>by refine iq agf ?_;rw[eP abO _];exact xZ L R λs' X' F=>ab (Fn (ax (h X' s' F)))
 |b::l,ro,H,X,s,L,R,h=>by
  refine iq agf ?_;rw[eP abO _];refine uU ht L R λv s' cY H' X' S hv R' L' Y=>?_;have hv:v= .bool b:=hv;subst hv;refine ab (eJ (xa (ab (y6 ?_))));cases b with
  |false=>exact ax ⟨lj abO _,x9 ht l cY H' X' s' L' R' λX2 s2 F=>h X2 s2 (Fin'.trans S F)⟩
  |true=>exact ab (Fn (ax (h X' s' S.toFin')))
structure Kx(g:Gx)(H:List (dq×Obj))(s s' :a8):Prop where
 keep: ∀b o,b∉g.tt->b∉HA H->s.heap.get? b=some o->s'.heap.get? b=some o
 tab: ∀b∈g.tt,dm s.heap b->dm s'.heap b
 os:s'.os=s.os
 gens: ∃Y:List de,s'.gens=g.g0++Y.toArray/\ ∀y∈Y,y.bare=true
theorem Fin'.w(R:c8 g ro H X s)(F:Fin' g H X s X' s'):Kx g H s s' :=⟨F.keep,F.tab,F.os,by
 obtain⟨tl,e,hb⟩:=R.gens;obtain⟨vO,e',gC⟩:=F.gens tl e;refine⟨X' ++(tl++vO),e',λy hy=>?_⟩;rcases cp.mp hy with hy|hy
 ·exact F.bare y hy
 ·exact(cp.mp hy).elim (hb y) (gC y)⟩
def ie(prog:d5)(w:fA)(K:abE)(tt:List dq)(n3 n4:Nat)(f:a7)(l:List FV)(kw:List (Str×a7))(Rr:FV->Prop):Prop:=
 ∀(A:ka) (g:Gx) (ro:List (a7×FV)) (H:List (dq×Obj)) (X:List de) (ad:dq) (s:a8) (Q:a7->a8->Prop),(g.prog=prog/\g.w=w/\g.K=K/\g.tt=tt)->cM n4 A->c8 g ro H X s->
  (∀(A' :ka) (tgt:Expr),plainT tgt->cM n3 A' ->gf g A' tgt ad l ro H X)->lW g ad ro H X->(∀(A' :ka),cM n3 A' ->o9 g A' ad l ro H X)->(∀s',c8 g ro H X s' ->s'.TypeIs (.ref ad) "generator")->
  (∀v s' r,Rr r->Kx g H s s' ->VR s'.heap (λb=>(s.heap.get? b=none∨b∈HA H)/\b∉tt) r v->Q v s')->dE (dC prog w) A (call f [.ref ad] kw) Q (λaa aa=>False) s
theorem aN:plainT (.Name x p):=λaa aa=>rfl
theorem cM.in1(h:cM n A)(hn:n' +1≤n):cM n' A.in1:=⟨h.hh,eT h.dp (xk hn),vK h.un (km (aaz ..)) (by decide) hn⟩
variable{prog:d5}{w:fA}{K:abE}{tt:List dq}
theorem wB {n3 n4:Nat}{l:List Bool}(hn:n3+2≤n4):ie prog w K tt n3 n4 (.builtin "all") (l.map .bool) [] (· = .bool (l.all id)):=λA g ro H X ad s Q hg hA R hl hs aa aa h=>by obtain⟨rfl,rfl,rfl,rfl⟩:=hg;refine TC F.kind_all F.plain_all F.entry_all (F.args_all1 _) ?_;unfold Builtin.«all»;refine ab (m:=oneArg "all" _) (ax (ab (hO (hs A.in1 s (λit s' =>it= .ref ad/\s' =s) R ⟨rfl,rfl⟩) (λit s2 z=>?_) aM)));obtain⟨rfl,rfl⟩:=z;exact ax ⟨lj abN _,x8 (tgt:= .Name (fe "x") ⟨0,0,0,0⟩) aN l ro H X _ (hl _ _ aN (hA.in1 (by lia))) R λX' s' F=>h _ s' _ rfl (F.w R) rfl⟩
theorem wC{n3 n4:Nat}{l:List Bool}(hn:n3+2≤n4):ie prog w K tt n3 n4 (.builtin "any") (l.map .bool) [] (· = .bool (l.any id)):=λA g ro H X ad s Q hg hA R hl hs aa aa h=>by obtain⟨rfl,rfl,rfl,rfl⟩:=hg;refine TC F.kind_any F.plain_any F.entry_any (F.args_any1 _) ?_;unfold Builtin.«any»;refine ab (m:=oneArg "any" _) (ax (ab (hO (hs A.in1 s (λit s' =>it= .ref ad/\s' =s) R ⟨rfl,rfl⟩) (λit s2 z=>?_) aM)));obtain⟨rfl,rfl⟩:=z;exact ax ⟨lj abO _,x9 (tgt:= .Name (fe "x") ⟨0,0,0,0⟩) aN l ro H X _ (hl _ _ aN (hA.in1 (by lia))) R λX' s' F=>h _ s' _ rfl (F.w R) rfl⟩
end
section
variable{g:Gx}{ro cY:List (a7×FV)}{p:dq×Obj}{H H' :List (dq×Obj)}{X X' :List de}{s s' :a8}{A:ka}{I:dq}{tgt:Expr}
theorem c8.jJ (R:c8 g ro (p::H) X s):c8 g ro H X s where
 ok:=R.ok
 ro:=λq hq=>VR.mono (λaa aa aa e=>e) (λa h=>⟨h.1,λz=>h.2 (.tail _ z)⟩) (R.ro q hq)
 cl:=λq hq=>by obtain⟨a,b,c⟩:=R.cl q hq;exact⟨a,b,λz=>c (.tail _ z)⟩
 aV:=λq hq=>R.aV q (.tail _ hq)
 nd:=(dn.mp R.nd).2
 gens:=R.gens
 bare:=R.bare
 os:=R.os
theorem c9.iZ(R:c8 g ro (p::H) X s)(S:c9 g H X s H' X' s'):c9 g (p::H) X s (p::H') X' s' :=by have:=c9.lift (g' :=g) (E:=[p]) (Y:=[]) (ro:=ro) ⟨rfl,rfl⟩ (by simpa using R) S;simpa using this
theorem Fin'.iZ(R:c8 g ro (p::H) X s)(S:Fin' g H X s X' s'):Fin' g (p::H) X s X' s' :=by have:=Fin'.lift (g' :=g) (E:=[p]) (Y:=[]) (ro:=ro) ⟨rfl,rfl⟩ (by simpa using R) S;simpa using this
theorem Yv.iZ(R:c8 g ro (p::H) X s)(S:c9 g H X s H' X' s')(Yy:Yv g ro H s H' s' ys):Yv g ro (p::H) s (p::H') s' ys:=by have:=Yv.lift (g' :=g) (E:=[p]) (Y:=[]) (rv:=[]) (ro:=ro) ⟨rfl,rfl⟩ (by simpa using R) S Yy;simpa using this
theorem Yv.tail(Y:Yv g ro H s H' s' (q::ys)):Yv g ro H s H' s' ys:=λP hP hr z hz=>Y P hP hr z (.tail _ hz)
theorem c8.push(R:c8 g ro H X s)(ho:o.isFreed=false):c8 g ro ((s.heap.objs.size,o)::H) X {s with heap:=s.heap.push o,toks:=tk} where
 ok:=R.ok.step (H:=[]) (λaa h=>nomatch h) (λb o aa aa e=>aw _ e) λb aa t=>t.of λo=>aw _
 ro:=λq hq=>VR.mono (λb o aa e=>aw _ e) (λa h=>⟨h.1.1,λz=>by
  rcases a5.mp z with z|z
  ·rw[z,dv (cq _)]at h;exact absurd h.2 (by decide)
  ·exact h.1.2 z⟩) (R.ro q hq).there
 cl:=λq hq=>by
  refine nn λhN=>?_;obtain⟨⟨o',e,d⟩,h1,h2⟩:=R.cl q hq;refine hN ⟨⟨o',aw _ e,d⟩,h1,λz=>?_⟩;rcases a5.mp z with z|z
  ·rw[z,dv (cq _)]at e;cases e
  ·exact h2 z
 aV:=λq hq=>by
  rcases a5.mp hq with rfl|hq
  ·refine⟨bc _ ho,λz=>ib _ (R.ok.sz _ z),?_,λz=>?_⟩
   ·cases z:g.K.lookup s.heap.objs.size with
    |none=>rfl
    |some o=>exact absurd (d4 (R.ok.cO _ _ z)) (ib _)
   ·obtain⟨mc,⟨o',_,_,e,_⟩,_⟩:=R.ok.lim;have:=d4 e;rw[<-z]at this;exact ib _ this
  ·have h:=R.aV q hq;exact⟨aw _ h.1,h.2⟩
 nd:=dn.mpr ⟨λz=>by obtain⟨q,hq,e⟩:=bb.mp z;have:=d4 (R.aV q hq).1;rw[e]at this;exact ib _ this,R.nd⟩
 gens:=R.gens
 bare:=R.bare
 os:=R.os
noncomputable abbrev rT(acc:Int)(t:Tok)(c:Nat):Obj:={cls:= .type "list",dict:=none,data:= .seq #[.int acc t] c,slots:= #[]}
variable{R' :abS->a8->Prop}
theorem NO (hi:0≤i/\i≤1000000)(h1:acc+i≤1000000000)(h0:0≤acc+i):((decide (-(2^63)≤i)&&decide (i<2^63))&&(decide (-(2^63)≤acc+i)&&decide (acc+i<2^63)))=true:=by simp only[dk,decide_eq_true_eq];exact⟨E6 hi.1 (hV hi.2 (by decide)),E6 h0 h1⟩
inductive Vv(M:adC)(A:ka)(I S:dq)(acc:Int)(R' :abS->a8->Prop)(v:a7)(s2:a8):Prop
 |mk (i:Int) (t tA:Tok) (c:Nat) (e:v= .int i t) (hc:((decide (-(2^63)≤i)&&decide (i<2^63))&&(decide (-(2^63)≤acc+i)&&decide (acc+i<2^63)))=true) (g:s2.heap.get? S=some (rT acc tA c))
  (k:tJ M A (.builtin "sum.loop" ⟨[.ref I,.ref S,wy 0,wy 0],[]⟩) R' {s2 with heap:=s2.heap.update S (lr λaa=> #[Value.int (acc+i) s2.toks]),toks:=s2.toks+1})
inductive Vw(M:adC)(A:ka)(tgt:Expr)(I S:dq)(acc:Int)(tA:Tok)(R' :abS->a8->Prop)(r:Option a7)(s1:a8):Prop
 |stop (e:r=none) (h:R' (.ok (.ret (.int acc tA))) s1)
 |go (h:LR M A.in1 tgt I (Vv M A I S acc R') r s1)
theorem ya(ht:plainT tgt)(hS:s.heap.get? S=some (rT acc tA c))(h:dE (dC g.prog g.w) A.in1 (aaW (.ref I)) (Vw (dC g.prog g.w) A tgt I S acc tA R') (λaa aa=>False) s):tJ (dC g.prog g.w) A (.builtin "sum.loop" ⟨[.ref I,.ref S,wy 0,wy 0],[]⟩) R' s:=by
 refine iq F.entry_sum_loop ?_;rw[eP ady _];refine aV λW V hW=>ab (wpAny_seqItems hS rfl (Tu λf hf=>aaE (hO h (λr s1 z=>?_) aM)));cases z with
 |stop e h=>rw[e];exact hf _ _ (ax (hW (.done (.ret (.int acc tA))) _ h))
 |go z=>obtain⟨v,e,z⟩:=z;rw[e];refine pe (g:=g) (tgt:=tgt) (it:= .ref I) (v:=v) ht (wpS z (λaa s2 z=>?_));obtain⟨i,t,tA',c',ev,hc,JB,k⟩:=z;rw[ev];refine hf _ _ ?_;show dE _ A.in1 (if(_:Bool)=true then(mkInt (acc+i)>>=_)else _) _ _ _;exact wpAny_ite_true (decide_eq_true hc) (ab (aeO (ab (L9 JB rfl (ax (hW (.again (.builtin "sum.loop" ⟨[.ref I,.ref S,wy 0,wy 0],[]⟩)) _ ⟨lj ady _,k⟩))))))
theorem GQ(ht:plainT tgt): ∀(l:List Int) (acc:Int) (tA:Tok) (c:Nat) (ro:List (a7×FV)) (H:List (dq×Obj)) (X:List de) (s:a8),gf g A.in1 tgt I (l.map .int) ro H X->c8 g ro ((S,rT acc tA c)::H) X s->
  (∀i∈l,0≤i/\i≤1000000)->(0≤acc/\acc+1000000*l.length≤1000000000)->
  (∀X' s' t',Fin' g ((S,rT acc tA c)::H) X s X' s' ->R' (.ok (.ret (.int (acc+l.sum) t'))) s')->tJ (dC g.prog g.w) A (.builtin "sum.loop" ⟨[.ref I,.ref S,wy 0,wy 0],[]⟩) R' s:=λl=>by
 induction l with
 |nil=>intro acc tA c ro H X s L R hb ha h;refine ya ht (R.aV _ (.head _)).1 (wpS (L s R.jJ) (λr s1 z=>?_));obtain⟨e,X',F⟩:=z;have:=h X' s1 tA (Fin'.iZ R F);rw[ahS,adT]at this;exact .stop e this
 |cons i l ih=>intro acc tA c ro H X s L R hb ha h;have hi:=hb i (.head _);have Xw:=ha.2;rw[show(((i::l).length:Nat):Int)=(l.length:Int)+1 from rfl,aij,adh]at Xw;have hA:0≤acc+i/\acc+i+1000000*(l.length:Int)≤1000000000:=⟨abD ha.1 hi.1,hV (by rw[adf];rewrite [afU i];exact aaQ (aaQ hi.2 _) acc) Xw⟩;refine ya ht (R.aV _ (.head _)).1 (wpS (L s R.jJ) (λr s1 z=>?_));obtain⟨v,e,z⟩:=z;refine .go ⟨v,e,wpS z (λaa s2 z=>?_)⟩;obtain⟨cY,H',X',S0,Y,L'⟩:=z;obtain⟨t,ev⟩:=(c9.mS R.jJ S0 Y).ro _ (.head _);have S1:=c9.iZ R S0;have R1:=c9.mS R S1 (Yv.iZ R S0 Y).tail;have JB:=(R1.aV _ (.head _)).1;have S2:=c9.upd (tk:=s2.toks+1) R1 (ik s2.heap S _) (pE (lr λaa=> #[Value.int (acc+i) s2.toks]) JB rfl);refine⟨i,t,tA,c,ev,NO hi (hV (Int.le_add_of_nonneg_right (ahf (by decide) (dA _))) hA.2) hA.1,JB,ih (acc+i) s2.toks _ cY H' X' _ L' (c9.mS R1 S2 (Yv.same S2)) (λj hj=>hb j (.tail _ hj)) hA λX3 s3 t3 F3=>?_⟩;have:=h X3 s3 t3 (Fin'.trans S1 (Fin'.trans S2 F3));rw[vy,<-adf]at this;exact this
variable{prog:d5}{w:fA}{K:abE}{tt:List dq}
theorem wD {n3 n4:Nat}{l:List Int}(hn:n3+2≤n4)(hb: ∀i∈l,0≤i/\i≤1000000)(zG:l.length≤100):ie prog w K tt n3 n4 (.builtin "sum") (l.map .int) [] (· = .int l.sum):=λA g ro H X ad s Q hg hA R hl hs aa aa h=>by
 obtain⟨rfl,rfl,rfl,Pc⟩:=hg;refine TC F.kind_sum F.plain_sum F.entry_sum (F.args_sum1 _) ?_;unfold Builtin.«sum»;refine aac rfl (ab (kA (show aae "sum" ["start"] 0 {}=pure [none]from rfl) (ab (hO (hs A.in1 s (λit s' =>it= .ref ad/\s' =s) R ⟨rfl,rfl⟩) (λit s2 z=>?_) aM))));obtain⟨rfl,rfl⟩:=z;refine ab (aeO (ab (ax (ab (ab (ab (ub (T:="int") (b:=false) (aeg _ _ _) PySem.sub_int_str (aac rfl (ax (ab (ab (ub (T:="int") (b:=false) (aeg _ _ _) PySem.sub_int_bytes (aac rfl (ax (ab (ab (ub (T:="int") (b:=false) (aeg _ _ _) PySem.sub_int_bytearray (aac rfl (ax (ax (ab (oP ?_))))))))))))))))))))));have R2:=R.push (o:=rT 0 s2.toks 0) (tk:=s2.toks+1) rfl;refine ax ⟨lj ady _,GQ (tgt:= .Name (fe "x") ⟨0,0,0,0⟩) aN l 0 s2.toks 0 ro H X _ (hl _ _ aN (hA.in1 (ec hn))) R2 hb (by lia) λX' s' t' F=>?_⟩;rw[adZ];refine h _ s' _ rfl (Fin'.w (X' :=X') R ⟨λb o h1 h2 e=>F.keep b o h1 (λz=>?_) (aw _ e),λb hb t=>F.tab b hb (t.of λo=>aw _),F.os,F.len,F.bare,F.gens⟩) ⟨t',rfl⟩;rcases a5.mp z with z|z
 ·rw[z,dv (cq _)]at e;cases e
 ·exact h2 z
end
section
variable{g:Gx}{ro cY:List (a7×FV)}{p:dq×Obj}{H H' :List (dq×Obj)}{X X' :List de}{s s' :a8}{A:ka}{I:dq}{tgt:Expr}{R' :abS->a8->Prop}
noncomputable abbrev gh (vs:List a7)(c:Nat):Obj:={cls:= .type "list",dict:=none,data:= .seq vs.toArray c,slots:= #[]}
theorem rU(ht:plainT tgt): ∀(l:List FV) (acc:List a7) (c:Nat) (ro:List (a7×FV)) (H:List (dq×Obj)) (X:List de) (s:a8),(∀x∈l,x.flat=true)->gf g A.in1 tgt I l ro H X->c8 g ro ((S,gh acc c)::H) X s->
  acc.length+l.length≤100->(∀vs X' s' c',Fin' g ((S,gh acc c)::H) X s X' s' ->s'.heap.get? S=some (gh (acc++vs) c')->eW s'.heap (λaa=>False) l vs->R' (.ok (.ret res)) s')->tJ (dC g.prog g.w) A (.builtin "list.extend.loop" ⟨[.ref S,.ref I,res],[]⟩) R' s:=by
 intro lz;induction lz with
 |nil=>intro acc c ro H X s hf L R hlen h;refine iq acd ?_;rw[eP D1 _];refine ab (hO (L s R.jJ) (λr s1 z=>?_) aM);obtain⟨rfl,X',F⟩:=z;refine ax (h [] X' s1 c (Fin'.iZ R F) ?_ rfl);have hS:=R.aV _ (.head _);rw[fw];exact F.keep _ _ hS.2.1 (λz=>(dn.mp R.nd).1 z) hS.1
 |cons x l ih=>
  intro acc c ro H X s hf L R hlen h;refine iq acd ?_;rw[eP D1 _];refine ab (hO (L s R.jJ) (λr s1 z=>?_) aM);obtain⟨v,rfl,z⟩:=z;refine pe (tgt:=tgt) (it:= .ref I) (v:=v) ht (wpS z (λaa s2 z=>nn λhN=>?_));obtain⟨cY,H',X',S0,Y,L'⟩:=z;refine hN ?_;have hv:=(c9.mS R.jJ S0 Y).ro _ (.head _);have S1:=c9.iZ R S0;have Y1:=(Yv.iZ R S0 Y).tail;have R1:=c9.mS R S1 Y1;have JB:=(R1.aV _ (.head _)).1;have Xx:acc.length+(l.length+1)≤100:=hlen;refine ab ?_;obtain⟨c2,e2⟩: ∃c2,(s2.heap.update S (lr (·.push v))).get? S=some (gh (acc++[v]) c2):=⟨_,(Md JB (·.push v)).trans (by rw[afL];rfl)⟩;have S2:=c9.upd (tk:=s2.toks) R1 (ik s2.heap S _) e2;have R2:=c9.mS R1 S2 (Yv.same S2);refine L9 JB rfl (ax ⟨lj D1 _,ih (acc++[v]) _ cY H' X' _ (λy hy=>hf y (.tail _ hy)) L' R2 (by rw[dy];show acc.length+1+_≤_;lia) λvs X3 s3 c3 F3 e3 EU=>?_⟩)
   (by show acc.toArray.size≤agn;rw[mB];rw[eM];lia) (by show(acc.toArray.push v).size≤agn+1;rw[mB];rw[Array.size_push];rw[eM];lia)
  refine h (v::vs) X3 s3 c3 (Fin'.trans S1 (Fin'.trans S2 F3)) (by rw[e3];rw[hJ];rfl) ⟨v,vs,rfl,VR.vM (hf x (.head _)) hv,EU⟩
inductive LY(S:dq)(Q:List a7->a8->Prop)(r:abS)(s' :a8):Prop
 |mk (vs:List a7) (c' :Nat) (e:r= .ok (.ret (.ref S))) (g:s'.heap.get? S=some (gh vs c')) (q:Q vs s')
theorem nV(J:dq->a8->Prop)(hT:s.TypeIs (.ref x) t)(hr:room=true∨t="set")(h2:(aej t==aej "list")=false)(h3:(aej t==aej "tuple")=false)
  (iter: ∀(W:a7->a8->Prop) (V:a7->a8->Prop),(∀I s2,J I s2->W (.ref I) s2)->dE (dC prog w) A.in1 (aba (.ref x)) W V {s with heap:=s.heap.push (gh [] 0)})
  (hint: ∀I s2,J I s2-> ∀(W:Bool->a8->Prop) (V:a7->a8->Prop),W room s2->dE (dC prog w) A.in1 (aaf (.ref x)) W V s2)(gS: ∀I s2,J I s2->s2.heap.get? s.heap.objs.size=some (gh [] 0))
  (loop: ∀I s2 h3 c,J I s2->lL s.heap.objs.size s2.heap h3->h3.get? s.heap.objs.size=some (gh [] c)->tJ (dC prog w) A (.builtin "list.extend.loop" ⟨[.ref s.heap.objs.size,.ref I,.ref s.heap.objs.size],[]⟩) (LY s.heap.objs.size Q) {s2 with heap:=h3}):
  dE (dC prog w) A (ahA (.ref x)) Q E s:=by
 obtain⟨o,gx,hc⟩:=hT;have ne:s.heap.objs.size≠x:=λe=>ib _ (e▸d4 gx);unfold ahA;refine ab (aeE (iq F.entry_proto_collect ?_));rw[eP F.plain_proto_collect _];refine aV λW V hW=>ab (oP (ax (hW _ _ ⟨lj afM _,iq F.entry_list_iadd ?_⟩)));rw[eP afM _];refine aV λW2 V2 ZD=>?_;show dE _ A.in1 (ace (.ref s.heap.objs.size) (.ref x) (.ref s.heap.objs.size)) _ _ _;unfold ace;refine ab (afZ ⟨o,aw _ gx,hc⟩ ?_);rw[show ac0 (.ref s.heap.objs.size) (.ref x)=false by simp[ac0,ne]];rw[h2];rw[h3];refine aac rfl (ab (iter _ _ λI s2 j=>ab (eJ (hint I s2 j _ _ (wpAny_ite_true (decide_eq_true (hr.elim (λe=>by rw[e];rfl) λe=>by rw[e];cases room<;>decide+kernel)) (ab (Fn ?_)))))));have g2:=pE (lr (·.push tI)) (gS I s2 j) rfl;refine ab (ab (L9 (gS I s2 j) rfl (L9 g2 rfl (ax (ZD _ _ ⟨lj D1 _,afX (loop I s2 _ _ j ((ik _ _ _).trans (ik _ _ _)) (pE (lr (·.pop)) g2 rfl)) λr s' z=>?_⟩)))));obtain⟨vs,c',e,g,q⟩:=z;rw[e];exact ab (wpAny_load g (ax (by simpa using q)))
theorem lZ{Q:List a7->a8->Prop}{ad:dq}(R:c8 g ro H X s)(hs:lW g ad ro H X)(hg: ∀s,c8 g ro H X s->s.TypeIs (.ref ad) "generator")
  (h: ∀s1 c,s1.gens=s.gens->s1.os=s.os->(∀b o,s.heap.get? b=some o->s1.heap.get? b=some o)->c8 g ro ((s.heap.objs.size,gh [] c)::H) X s1->
   tJ (dC g.prog g.w) A (.builtin "list.extend.loop" ⟨[.ref s.heap.objs.size,.ref ad,.ref s.heap.objs.size],[]⟩) (LY s.heap.objs.size Q) s1):
  dE (dC g.prog g.w) A (ahA (.ref ad)) Q (λaa aa=>False) s:=by
 have R1:c8 g ro ((s.heap.objs.size,gh [] 0)::H) X {s with heap:=s.heap.push (gh [] 0),toks:=s.toks}:=R.push (o:=gh [] 0) (tk:=s.toks) rfl;refine nV (λI s2=>I=ad/\s2={s with heap:=s.heap.push (gh [] 0)}) (hg s R) (room:=true) (.inl rfl) (by decide) (by decide) (λW V k=>hO (hs A.in1 _ (λit s' =>it= .ref ad/\s' =_) R1.jJ ⟨rfl,rfl⟩) (λit s2 z=>?_) aM)
  (λI s2 j W V q=>j.2▸ab (aa9 (hg _ R1.jJ) F.gen_no_len (ab (aa9 (hg _ R1.jJ) F.gen_no_hint (ax (j.2▸q)))))) (λI s2 j=>j.2▸(R1.aV _ (.head _)).1) λI s2 h3 c j sb g3=>?_
 ·rw[z.1];exact k _ _ ⟨rfl,z.2⟩
 ·rw[j.1];have e2:s2.heap=s.heap.push (gh [] 0):=congrArg (·.heap) j.2;rw[e2]at sb;have S1:=c9.upd (tk:=s.toks) R1 sb g3;rw[j.2];exact h _ _ rfl rfl (λb o e=>(sb.2 b λq=>ib _ (q▸d4 e)).trans (aw _ e)) (c9.mS R1 S1 (Yv.same S1))
end
section
variable{g:Gx}{ro cY:List (a7×FV)}{p:dq×Obj}{H H' :List (dq×Obj)}{X X' :List de}{s s' s1:a8}{A:ka}{I:dq}{tgt:Expr}
theorem Fin'.pop {o:Obj}(Nf:s1.gens=s.gens)(ho:s1.os=s.os)(hk: ∀b o,s.heap.get? b=some o->s1.heap.get? b=some o)(F:Fin' g ((s.heap.objs.size,o)::H) X s1 X' s'):Fin' g H X s X' s' where
 keep:=λb o' h1 h2 e=>F.keep b o' h1 (λz=>by
  rcases a5.mp z with z|z
  ·exact ib _ (z▸d4 e)
  ·exact h2 z) (hk b o' e)
 tab:=λb hb t=>F.tab b hb (t.of λo=>hk b o)
 os:=F.os.trans ho
 len:=F.len
 bare:=F.bare
 gens:=λtl e=>F.gens tl (Nf.trans e)
theorem Fin'.ext(F:Fin' g H X s X' s')(hk: ∀b o,s'.heap.get? b=some o->h'.get? b=some o):Fin' g H X s X' {s' with heap:=h',toks:=tk} where
 keep:=λb o h1 h2 e=>hk b o (F.keep b o h1 h2 e)
 tab:=λb hb t=>(F.tab b hb t).of λo=>hk b o
 os:=F.os
 len:=F.len
 bare:=F.bare
 gens:=F.gens
theorem wF{Q:List a7->a8->Prop}{ad:dq}{l:List FV}(ht:plainT tgt)(hf: ∀x∈l,x.flat=true)(hlen:l.length≤100)(L:gf g A.in1 tgt ad l ro H X)(hs:lW g ad ro H X)(hg: ∀s,c8 g ro H X s->s.TypeIs (.ref ad) "generator")(R:c8 g ro H X s)
  (h: ∀vs s' X',Fin' g H X s X' s' ->s.heap.objs.size≤s'.heap.objs.size->eW s'.heap (λaa=>False) l vs->Q vs s'):dE (dC g.prog g.w) A (ahA (.ref ad)) Q (λaa aa=>False) s:=
 lZ R hs hg λs1 c Nf ho hk R1=>rU ht l [] c ro H X s1 hf L R1 (by simpa using hlen) λvs X' s' c' F e hv=>⟨vs,c',rfl,by simpa using e,h vs s' X' (F.pop Nf ho hk) (ec (d4 e)) hv⟩
theorem tV{Q:List a7->a8->Prop}{ad:dq}{x:FV}(L:o9 g A.in1 ad [x] ro H X)(hs:lW g ad ro H X)(hg: ∀s,c8 g ro H X s->s.TypeIs (.ref ad) "generator")(R:c8 g ro H X s)
  (h: ∀v s' X',Fin' g H X s X' s' ->s.heap.objs.size≤s'.heap.objs.size->VR s'.heap (fC g.tt s.heap) x v->Q [v] s'):dE (dC g.prog g.w) A (ahA (.ref ad)) Q (λaa aa=>False) s:=
 lZ R hs hg λs1 c Nf ho hk R1=>by
  have ht:plainT (.Name (fe "x") ⟨0,0,0,0⟩):=λaa aa=>rfl;refine iq acd ?_;rw[eP D1 _];refine ab (hO (L s1 R1.jJ) (λr s2 z=>nn λhN=>?_) aM);obtain⟨v,rfl,cY,H',X',S0,Y,hv,L'⟩:=z;refine hN ?_;have S1:=c9.iZ R1 S0;have Y1:=(Yv.iZ R1 S0 Y).tail;have R2:=c9.mS R1 S1 Y1;have JB:=(R2.aV _ (.head _)).1;refine ab ?_;obtain⟨c2,e2⟩: ∃c2,(s2.heap.update s.heap.objs.size (lr (·.push v))).get? s.heap.objs.size=some (gh ([]++[v]) c2):=⟨_,(Md JB (·.push v)).trans (by rw[afL];rfl)⟩;have S2:=c9.upd (tk:=s2.toks) R2 (ik s2.heap s.heap.objs.size _) e2;have R3:=c9.mS R2 S2 (Yv.same S2);refine L9 JB rfl (ax ⟨lj D1 _,rU ht [] [v] c2 cY H' X' _ (λy hy=>nomatch hy) (L' _ ht) R3 (bo rfl) λvs X3 s3 c3 F3 e3 EU=>?_⟩);have EU:vs=[]:=EU;subst EU;refine⟨[v],c3,rfl,e3,h v s3 X3 (Fin'.pop Nf ho hk (Fin'.trans S1 (Fin'.trans S2 F3))) (ec (d4 e3)) (VR.mono (λb o hb e=>?_) (λb hb=>?_) hv.there)⟩
  ·have Te:b∉HA ((s.heap.objs.size,gh [] c)::H'):=λz=>by
    rcases a5.mp z with z|z
    ·have:=hb.1.1.1;rw[z,(R1.aV _ (.head _)).1]at this;exact(cu this rfl).elim
    ·exact hb.1.2 z
   have NP:s.heap.objs.size≠b:=λz=>Te (z▸ .head _);exact F3.keep b o hb.1.1.2 Te ((oC _ _ NP).trans e)
  ·refine⟨?_,hb.1.1.2⟩;cases q:s.heap.get? b with
   |none=>rfl
   |some o=>have:=hk b o q;rw[hb.1.1.1]at this;exact(cu rfl this).elim
theorem GR: ∀{ss:List Str},∀x∈ss.map FV.str,x.flat=true:=λx hx=>by obtain⟨_,_,rfl⟩:=bb.mp hx;rfl
theorem A8{h:wq}{P:dq->Prop}: ∀{ss:List Str} {vs:List a7},eW h P (ss.map .str) vs->aik vs ss:=by
 intro lz;induction lz with
 |nil=>intro _ H;cases H;exact .nil
 |cons n ns ih=>intro _ bA;obtain⟨v,r,e,⟨t,q⟩,y⟩:=bA;subst e;subst q;exact .cons n t (ih y)
variable{prog:d5}{w:fA}{K:abE}{tt:List dq}
theorem rV (hn:n3+2≤n4)(hl:ss.length<64):ie prog w K tt n3 n4 (.builtin "sorted") (ss.map .str) [] (λr=> ∃LZ:List Str,LZ.Perm ss/\r= .list (LZ.map .str)):=λA g ro H X ad s Q hg hA R JY hs aa NQ h=>by
 obtain⟨rfl,rfl,rfl,rfl⟩:=hg;refine It aeP ad5 ad6 (af0 _) ?_;unfold Builtin.«sorted»;refine ab (m:=afN "sorted" 1 1 _) (ax (ab (wF aN GR (by rw[ag];exact ec (a0 hl (by decide))) (JY _ (.Name (fe "x") ⟨0,0,0,0⟩) aN ((hA.in1 (n' :=n3+1) (by omega)).in1 (oT (xt n3)))) hs NQ R λvs s1 X' F AM hv=>?_)));have hS:=A8 hv;have hlen:vs.length=ss.length:=by have:=hv.length;simpa using this
 refine ab (abe ?_);have DU:(s1.heap.push (sT "list" vs.toArray 0)).get? s1.heap.objs.size=some (sT "list" vs.toArray 0):=bc _ rfl;refine ab (eJ (oe acN ⟨_,DU,rfl⟩ acf (list_sort_treeK strKind_oneLt DU hS.keysOf (λv₁ v₂ rest e=>keyKind_strs (by refine bS (e ..) ?_;exact hS)) (by lia) λaO a1 a2=>⟨_,rfl,?_⟩) (aeF _)));refine nn λhN=>?_;obtain⟨LZ,b1,b2,_⟩:=sorted_out_str hS a1 a2;have old: ∀b o,s1.heap.get? b=some o->(sortedHeap (s1.heap.push (sT "list" vs.toArray 0)) s1.heap.objs.size vs ((ait aO).map (·.2))).get? b=some o:=λb o e=>by have cy:=d4 e;rw[sortedHeap_old (du cy) (by rw[aa1];exact fg cy)];exact aw _ e
 obtain⟨e,he⟩:=sortedHeap_at (vs:=vs) (out:=(ait aO).map (·.2)) DU;exact hN (ax ⟨_,rfl,h _ _ _ ⟨LZ,b2,rfl⟩ ((F.ext (tk:=s1.toks) old).w R) ⟨_,((ait aO).map (·.2)).toList,e,rfl,⟨.inl (dv AM),λq=>ib _ (bj AM (R.ok.sz _ q))⟩,he,xG b1⟩⟩)
end
theorem mU(a v:a7):agM "list.sort" ⟨[a],[(fe "key",v)]⟩:=by unfold agM;kernel_rfl
theorem qm(a v:a7):agM "sorted" ⟨[a],[(fe "key",v)]⟩:=by unfold agM;kernel_rfl
theorem tW(a f:dq):Builtin.«list.sort» ⟨[.ref a],[(fe "key",.ref f)]⟩=(do
  let items<-abn (.ref a)
  wa (.ref a) λaa=> #[]
  let before<-seqEpoch a
  let held<-newTuple items.toList
  let i0<-afG []
  NA [held,i0] do
   xv "list.sort.key"
   for x in items do
    match<-(call (.ref f) [x]).attempt with
    | .ok k=>wa i0 (·.push k)
    | .error e=>
     xv "list.sort.key-raised"
     let made<-abn i0
     wa i0 λaa=> #[]
     letGo made.toList.reverse [e]
     wa (.ref a) λaa=>items;throw e
   let keys<-abn i0
   let kind<-if items.size<2 then pure general' else keyKind' keys
   let((),s)<-(if items.size<2 then pure ()else sortRuns').run (SortSt.mk' kind (keys.zip items) #[] 7 none)
   let sorted:=(ait s).map (·.2)
   wa i0 λaa=> #[]
   letGo ((ait s).map (·.1)).toList (failedOf s).toList
   let touched:=(<-seqEpoch a) !=before
   wa (.ref a) λaa=>sorted
   if let some e:=failedOf s then xv "list.sort.comparison-raised";throw e
   if touched then xv "list.sort.modified";raiseError "ValueError" "list modified during sort"
   ret .none):=by
 first|rfl|(fail "not by rfl")
section
variable{prog:d5}{w:fA}{A:ka}{E:a7->a8->Prop}{s:a8}
theorem tX (ho:s.heap.get? a=some (sT "list" #[v] n))
  (hf: ∀s1 (Q:a7->a8->Prop),s1.gens=s.gens->s1.os=s.os->s1.heap.objs.size=s.heap.objs.size+2->(∀b o,b≠a->s.heap.get? b=some o->s1.heap.get? b=some o)->(∀k s2,(∀b o,s.heap.objs.size≤b∨b=a->s1.heap.get? b=some o->s2.heap.get? b=some o)->
    (∀s3,s3.gens=s2.gens->s3.os=s2.os->s3.heap.objs.size=s2.heap.objs.size->(∀b o,b≠a->b≠s.heap.objs.size+1->s2.heap.get? b=some o->s3.heap.get? b=some o)->(∃c,s3.heap.get? a=some (sT "list" #[v] c))->P (.done (.ret .none)) s3)->Q k s2)->
   dE (dC prog w) A (call (.ref f) [v]) Q (λaa aa=>False) s1):
  dE (dC prog w) A (Builtin.«list.sort» ⟨[.ref a],[(fe "key",.ref f)]⟩) P E s:=by
 rw[tW];have ha:a<s.heap.objs.size:=d4 ho;refine ab (af1 ho rfl (ab (abf ho rfl ?_)));obtain⟨e1,Q3⟩: ∃e1,(s.heap.update a (lr λaa=> #[])).get? a=some (sT "list" #[] e1):=⟨_,Md ho (λaa=> #[])⟩;refine ab (aeQ Q3 rfl (ab (aeG (ab (abe (eJ ?_))))));have Tf:(((s.heap.update a (lr λaa=> #[])).push (sT "tuple" #[v] 0)).push (sT "list" #[] 0)).get? a=some (sT "list" #[] e1):=by rw[xl _ _ _ (by rw[aa1];rw[tm];exact du (fg ha))];rw[xl _ _ _ (by rw[tm];exact du ha)];exact Q3
 have tP:(((s.heap.update a (lr λaa=> #[])).push (sT "tuple" #[v] 0))).objs.size=s.heap.objs.size+1:=by rw[aa1];rw[tm];rfl
 have ZE:(((s.heap.update a (lr λaa=> #[])).push (sT "tuple" #[v] 0)).push (sT "list" #[] 0)).get? (s.heap.objs.size+1)=some (sT "list" #[] 0):=by refine bS (tP ..) ?_;exact bc _ rfl
 show dE (dC prog w) A _ P E {s with heap:=((s.heap.update a (lr λaa=> #[])).push (sT "tuple" #[v] 0)).push (sT "list" #[] 0)};dsimp only;rw[show(({s with heap:=(s.heap.update a (lr λaa=> #[])).push (sT "tuple" #[v] 0)}:a8)).heap.objs.size=s.heap.objs.size+1 from tP];refine ab (Fn (bS (afk ..) ?_));simp only[Kj,aaA,bind_assoc];refine ab (ab0 (hO (hf {s with heap:=((s.heap.update a (lr λaa=> #[])).push (sT "tuple" #[v] 0)).push (sT "list" #[] 0)} _ rfl rfl ?_ (λb o hb e=>?_) λk s2 h2 hP=>?_) (λaa aa z=>z) aM))
 ·show(Heap.push _ _).objs.size=_;rw[aa1];rw[tP];rfl
 ·exact aw _ (aw _ ((oC _ _ (Nw hb)).trans e))
 have g1:=h2 a _ (.inr rfl) Tf;have g2:=h2 (s.heap.objs.size+1) _ (.inl (me _)) ZE;have ne:s.heap.objs.size+1≠a:=pz (fg ha);refine ab (ab (abf g2 rfl ?_));obtain⟨e3,g3⟩: ∃c,(s2.heap.update (s.heap.objs.size+1) (lr (·.push k))).get? (s.heap.objs.size+1)=some (sT "list" #[k] c):=⟨_,Md g2 (·.push k)⟩;refine ax (ab (ax (ab (af1 g3 rfl ?_))));have Xy: #[v].size<2:=gN 1;rw[if_pos Xy];rw[if_pos Xy];refine ab (ax ?_);rw[StateT.run_pure];refine ab (ax ?_);dsimp only;refine ab (abf g3 rfl (ab (y6 ?_)));have g4:((s2.heap.update (s.heap.objs.size+1) (lr (·.push k))).update (s.heap.objs.size+1) (lr λaa=> #[])).get? a=some (sT "list" #[] e1):=(oC _ _ ne).trans ((oC _ _ ne).trans g1);refine ab (aeQ g4 rfl ?_);have Vx:(ait (SortSt.mk' general' (#[k].zip #[v]) #[] 7 none)).map (·.2)= #[v]:=by apply RR;rw[Array.toList_map];rw[Array.toList_zip];rfl
 rw[Vx];refine ab (abf g4 rfl ?_);simp only[bne_self_eq_false,kz,if_false];refine ax (hP _ rfl rfl ?_ (λb o h1 h3 e=>?_) ⟨_,Md g4 λaa=> #[v]⟩)
 ·show(Heap.update _ _ _).objs.size=_;rw[tm];rw[tm];rw[tm];rfl
 ·exact(oC _ _ (Nw h1)).trans ((oC _ _ (Nw h3)).trans ((oC _ _ (Nw h3)).trans e))
end
section
variable{prog:d5}{w:fA}{K:abE}{tt:List dq}
theorem qo (hn:n3+2≤n4)(Po:n5+2≤n4)(D:Spec prog w K tt n5 (.ref f) [x] [] Rf):ie prog w K tt n3 n4 (.builtin "sorted") [x] [(fe "key",.ref f)] (· = .list [x]):=λA g ro H X ad s Q hg hA R JY hs NR NQ h=>by
 obtain⟨rfl,rfl,rfl,rfl⟩:=hg;refine call_function_entry_kw aeP ad5 ad6 (qm _ _) ?_;unfold Builtin.«sorted»;refine ab (m:=afN "sorted" 1 1 _) (ax ?_);have A2:cM n5 A.in1.in1:=(hA.in1 (n' :=n5+1) (by omega)).in1 (oT (xt n5));refine ab (tV (NR _ ((hA.in1 (n' :=n3+1) (by omega)).in1 (oT (xt n3)))) hs NQ R λv s1 X' F AM hv=>ab (abe ?_));have DU:(s1.heap.push (sT "list" #[v] 0)).get? s1.heap.objs.size=some (sT "list" #[v] 0):=bc _ rfl;have Vy:HeapOk g.K g.tt s1:=R.ok.step (λp hp=>(R.aV p hp).2.2) F.keep F.tab;have Js: ∀b:Nat,s1.heap.objs.size≤b->b∉g.tt:=λb hb q=>ib _ (a0 (Vy.sz _ q) hb);refine ab (eJ (wpAny_call_entry_kw acN ⟨_,DU,rfl⟩ acf (tX DU λs2 Q' g2 o2 z2 k2 SM=>?_) (mU _ _)));dsimp only at g2 o2 z2 k2 SM;have Q4: ∀b o,s1.heap.get? b=some o->s2.heap.get? b=some o:=λb o e=>k2 b o (λq=>ib _ (q▸d4 e)) (aw _ e);have ZF:HeapOk g.K g.tt s2:=Vy.step (H:=[]) (g:=g) (λaa h=>nomatch h) (λb o aa aa e=>Q4 b o e) λb aa t=>t.of λo=>Q4 b o;refine D.call _ s2 [v] [] _ (ZF.good A2) ⟨v,[],rfl,VR.mono (λb o aa e=>Q4 b o e) (λb hb=>hb.2) hv,rfl⟩ rfl λkv s3 r hr x3 aa=>?_;have Nh:(s1.heap.push (sT "list" #[v] 0)).objs.size=s1.heap.objs.size+1:=aa1 _ _;refine SM kv s3 (λb o hb e=>x3.keep.1 b o (Js b ?_) e) λs4 g4 o4 z4 k4 a4=>?_
 ·rcases hb with hb|hb
  ·rw[Nh]at hb;exact xk hb
  ·exact km hb.symm
 have Xz: ∀b o,b∉g.tt->s1.heap.get? b=some o->s4.heap.get? b=some o:=λb o hb e=>by have cy:=d4 e;exact k4 b o (du cy) (by rw[Nh];exact du (oo cy (oo (gN _) (gN _)))) (x3.keep.1 b o hb (Q4 b o e))
 refine⟨_,rfl,ax ⟨_,rfl,h _ _ _ rfl (Fin'.w (X' :=X') R ⟨λb o h1 h2 e=>Xz b o h1 (F.keep b o h1 h2 e),λb hb t=>?_,(o4.trans (x3.os.trans o2)).trans F.os,F.len,F.bare,λtl e=>?_⟩) ?_⟩⟩
 ·refine(x3.keep.2 b hb ((F.tab b hb t).of λo=>Q4 b o)).of λo e=>?_;have cy:=Vy.sz b hb;exact k4 b o (du cy) (by rw[Nh];exact du (oo cy (oo (gN _) (gN _)))) e
 ·obtain⟨vO,e',gC⟩:=F.gens tl e;obtain⟨t2,e2,NP⟩:=x3.gens;refine⟨vO++t2,?_,λy hy=>(cp.mp hy).elim (gC y) (NP y)⟩;rw[g4];rw[e2];rw[g2];rw[e'];apply RR;simp
 ·obtain⟨c4,a4⟩:=a4;exact⟨_,[v],c4,rfl,⟨.inl (dv AM),Js _ (cq _)⟩,a4,v,[],rfl,VR.mono (λb o hb e=>Xz b o hb.2 e) (λb hb=>⟨.inl hb.1,hb.2⟩) hv,rfl⟩
end
section
variable{c:Cx}{st:St}{T:List (a7×AV)}
theorem nW (O:bQ c n)(h:n' ≤n):cM n' c.A:=⟨O.hh,eT O.dp h,eT O.un h⟩
theorem uV{s1 s' s2:a8}{bl:St}{ad:dq}{l:List FV}{g:Gx}{ro:List (a7×FV)}{H:List (dq×Obj)}{X:List de}{n3:Nat}{v:a7}{r:FV}(S1:aX c bl T s1)(M:Made c s1 s' ad l g ro H X n3)(F:Kx g H s' s2)(hr:VR s2.heap (λb=>(s'.heap.get? b=none∨b∈HA H)/\b∉c.tt) r v):aX c bl ((v,.n r)::T) s2:=by
 obtain⟨g1,g2,g3,g4,g5,g6⟩:=M.gp;have hx:Ext c.tt s1 s2:=by
  refine⟨⟨λb o hb e=>F.keep b o (g4▸hb) (λz=>?_) (M.keep b o hb e),λb hb t=>F.tab b (g4▸hb) (M.Cy.ok.tab b (g4▸hb))⟩,?_,?_⟩
  ·obtain⟨p,hp,e'⟩:=bb.mp z;have:=M.new p hp;rw[e',e]at this;exact(cu this rfl).elim
  ·obtain⟨Y,e,hb⟩:=F.gens;exact⟨Y,by rw[e];rw[g5];rfl,hb⟩
  ·rw[F.os];rw[M.Cy.os];rw[g6];rfl
 refine S1.jk hx (VR.mono (λaa aa aa e=>e) (λb hb=>⟨?_,hb.2⟩) hr);cases q:s1.heap.get? b with
 |none=>rfl
 |some o=>
  rcases hb.1 with z|z
  ·have:=M.old b (by rw[q];rfl);rw[z]at this;exact absurd this (by decide)
  ·obtain⟨p,hp,rfl⟩:=bb.mp z;rw[M.new p hp]at q;exact(cu rfl q).elim
def GS(c:Cx)(n3 n4:Nat)(f:a7)(kw:List (Str×a7))(Q:AV->St->Prop):St->List FV->Prop:=λbl l=> ∃Rr,ie c.prog c.w c.K c.tt n3 n4 f l kw Rr/\ ∀r,Rr r->Q (.nw r) bl
theorem uW(O:bQ c n)(hn:n1+1≤n)(Kv:n1+1≤n3)(Kw:n2+1≤n3)(h4:n4≤n)(cl:List (Str×dq))(cd Pt:dq)
  (ef:ag7 c.K ⟨c.prog,c.w.params⟩ (abC c.env x)=some f)(Q5:pN c.K f=true)
  (eE:RF scope c.env=pure cl)(nS:c.env.code= .ref cd)(Jw:cQ c.K cd Pt)(hP:Pt∈c.tt)(Jx:ag7 c.K ⟨c.prog,c.w.params⟩ (adl c.env.globals c.env.builtins)=some bi)
  (GN:xX c e0 iter act)(h:Ev c e0 st (GenQ c act n1 n2 scope cl bi tgt ifs elt (GS c n3 n4 f [] Q)))
  (wm:scope.isCoroutine=false)(nU: ∀y∈scope.names,y.2≠ .cell)(h0:scope.names.lookup (".0" :Str)=some NameKind.local)(dw:scope.kind= .function)(cj: ∀C code bi,rk (afn scope cl C code bi c.env)=false)(hs: ∀x,ahz iter c.env x=pure x)(hd:(x==("__debug__" :Str))=false:=by kernel_rfl):
  Ev c (.Call (.Name x px) [.GeneratorExp elt [⟨tgt,iter,ifs,0⟩] scope p] [] pos) st Q:= .mk λT s S=>by
 refine aak (Bz ((Hc (M:=dC c.prog c.w) (S.cO O.toOk) ef).here (ac7 (P:=λh=>c.K.In h) rfl (m9 Q5) (dU rfl rfl (adN (wpS (uT (n2:=n2) (n3:=n3) (QQ:=GS c n3 n4 f [] Q) O hn Kv Kw cl eE cd Pt nS Jw hP Jx GN h wm nU h0 dw cj hs T s S) (λgv s' z=>nn λhN=>?_)) rfl)))) hd);obtain⟨bl,s1,l,v0,a,g,ro,H,X,ad,rfl,S1,M,Rr,GU,hQ⟩:=z;refine hN (adM (ae1 ?_));have M9:aX c bl T s1:=S1.sub λp hp=> .tail _ hp;refine nn λhN=>?_;obtain⟨g1,g2,g3,g4,g5,g6⟩:=M.gp;refine hN ⟨?_,?_⟩
 ·have:=M.Cy.ok.cO;rw[g3]at this;exact this
 ·exact GU c.A g ro H X ad s' _ ⟨g1,g2,g3,g4⟩ (nW O h4) M.Cy M.live M.self M.first M.Xu λv s2 r hr F hv=>⟨.nw r,bl,(uV M9 M F (g4▸hv)).nw,hQ r hr⟩
theorem nX(O:bQ c n)(hn:n1+1≤n)(Kv:n1+1≤n3)(Kw:n2+1≤n3)(h4:n4≤n)(cl:List (Str×dq))(cd Pt:dq)
  (ef:ag7 c.K ⟨c.prog,c.w.params⟩ (abC c.env x)=some f)(Q5:pN c.K f=true)
  (eE:RF scope c.env=pure cl)(nS:c.env.code= .ref cd)(Jw:cQ c.K cd Pt)(hP:Pt∈c.tt)(Jx:ag7 c.K ⟨c.prog,c.w.params⟩ (adl c.env.globals c.env.builtins)=some bi)
  (h:Ev c iter st (GenQ c lB n1 n2 scope cl bi tgt ifs elt (GS c n3 n4 f [] Q)))
  (wm:scope.isCoroutine=false)(nU: ∀y∈scope.names,y.2≠ .cell)(h0:scope.names.lookup (".0" :Str)=some NameKind.local)(dw:scope.kind= .function)(cj: ∀C code bi,rk (afn scope cl C code bi c.env)=false)(hs: ∀x,ahz iter c.env x=pure x)(hd:(x==("__debug__" :Str))=false:=by kernel_rfl):
  Ev c (.Call (.Name x px) [.GeneratorExp elt [⟨tgt,iter,ifs,0⟩] scope p] [] pos) st Q:=
 uW O hn Kv Kw h4 cl cd Pt ef Q5 eE nS Jw hP Jx mT h wm nU h0 dw cj hs hd
theorem DV(O:bQ c n)(hn:n1+1≤n)(Kv:n1+1≤n3)(Kw:n2+1≤n3)(h4:n4≤n)(cl:List (Str×dq))(cd Pt:dq)
  (ef:ag7 c.K ⟨c.prog,c.w.params⟩ (abC c.env x)=some f)(Q5:pN c.K f=true)(ek:ag7 c.K ⟨c.prog,c.w.params⟩ (abC c.env y)=some fk)
  (eE:RF scope c.env=pure cl)(nS:c.env.code= .ref cd)(Jw:cQ c.K cd Pt)(hP:Pt∈c.tt)(Jx:ag7 c.K ⟨c.prog,c.w.params⟩ (adl c.env.globals c.env.builtins)=some bi)
  (h:Ev c iter st (GenQ c lB n1 n2 scope cl bi tgt ifs elt (GS c n3 n4 f [(k,fk)] Q)))
  (wm:scope.isCoroutine=false)(nU: ∀y∈scope.names,y.2≠ .cell)(h0:scope.names.lookup (".0" :Str)=some NameKind.local)(dw:scope.kind= .function)(cj: ∀C code bi,rk (afn scope cl C code bi c.env)=false)(hs: ∀x,ahz iter c.env x=pure x)(hd:(x==("__debug__" :Str))=false:=by kernel_rfl)(hd2:(y==("__debug__" :Str))=false:=by kernel_rfl):
  Ev c (.Call (.Name x px) [.GeneratorExp elt [⟨tgt,iter,ifs,0⟩] scope p] [⟨some k,.Name y py,pk⟩] pos) st Q:= .mk λT s S=>by
 refine aak (Bz ((Hc (M:=dC c.prog c.w) (S.cO O.toOk) ef).here (ac7 (P:=λh=>c.K.In h) rfl (m9 Q5) (dU rfl rfl (adN (wpS (GP (n2:=n2) (n3:=n3) (QQ:=GS c n3 n4 f [(k,fk)] Q) O hn Kv Kw cl eE cd Pt nS Jw hP Jx h wm nU h0 dw cj hs T s S) (λgv s' z=>nn λhN=>?_)) rfl)))) hd);obtain⟨bl,s1,l,v0,a,g,ro,H,X,ad,rfl,S1,M,Rr,GU,hQ⟩:=z;refine hN ?_;have hX:c.K.In s'.heap:=by have:=M.Cy.ok.cO;rw[M.gp.2.2.1]at this;exact this
 refine adM (kwAll_cons (Bz ((Hc (M:=dC c.prog c.w) hX ek).here (ae1 ?_)) hd2));have M9:aX c bl T s1:=S1.sub λp hp=> .tail _ hp;refine nn λhN=>?_;obtain⟨g1,g2,g3,g4,g5,g6⟩:=M.gp;refine hN ⟨?_,?_⟩
 ·have:=M.Cy.ok.cO;rw[g3]at this;exact this
 ·exact GU c.A g ro H X ad s' _ ⟨g1,g2,g3,g4⟩ (nW O h4) M.Cy M.live M.self M.first M.Xu λv s2 r hr F hv=>⟨.nw r,bl,(uV M9 M F (g4▸hv)).nw,hQ r hr⟩
end
section
variable{c:Cx}{st:St}
theorem A9 (hp:es.all plainArg=true)(hk:kwOk kws=true)(hn:es.length+kws.length<29):
  methodCallForm (es.length+kws.length) (adv pos (Tx es env)) (Kb pos (ts kws env))=true:=by
 have h1:(adv pos (Tx es env)).all (!·.1)=true:=by refine eV (d6 ..) ?_;intro x hx;have:=afE.mp (kW es env pos hp) x hx;simpa using this
 unfold methodCallForm;rw[h1];rw[(j5 kws env pos hk).2.1];simp only[ab4,decide_eq_true_eq];split<;>lia
theorem b9(hp:es.all plainArg=true)(hk:kwOk kws=true)(hn:es.length+kws.length<29)(hl:(apos.endLine==pos.line)=true)
  (hb: ∀whole,adm o name env whole=whole):acp (.Call (.Attribute o name apos) es kws pos) env=(do
   let ov<-acp o env
   aau apos.atName
   let(f,first)<-NA [ov] (adQ ov name (do return (<-importBound o env).getD true))
   aef pos f first (adv pos (Tx es env)) (Kb pos (ts kws env))):=by
 show(adm o name env (acp o env)>>=λov=>aau apos.atName>>=λaa=>methodCall o name apos pos env ov (es.length+kws.length) (adv pos (Tx es env)) (Kb pos (ts kws env)))=_;rw[hb];unfold methodCall methodCallPos calleeOf;rw[A9 hp hk hn];rw[hl];rfl
def Ky(c:Cx)(name:Str)(f:a7)(a:AV)(tL:St):Prop:= ∀(T:List (a7×AV)) (s:a8) (v:a7) (pl:Sem Bool),aX c tL ((v,a)::T) s-> ∀Q' :a7×List a7->a8->Prop,Q' (f,[v]) s->dE (dC c.prog c.w) c.A (adQ v name pl) Q' (λaa aa=>False) s
inductive NS(c:Cx)(name:Str)(es:List Expr)(Q:AV->St->Prop)(a:AV)(tL:St):Prop
 |mk (f:a7) (h1:pN c.K f=true) (h2:Ky c name f a tL) (q:uq c es tL (Au c f [] Q a))
theorem nY(O:Ok c)(hp:es.all plainArg=true)
  (h:Ev c o st (NS c name es Q))
  (hn:es.length<29:=by decide)(hl:(apos.endLine==pos.line)=true:=by rfl)(hb: ∀whole,adm o name c.env whole=whole:=by intro;rfl):Ev c (.Call (.Attribute o name apos) es [] pos) st Q:= .mk λT s S=>by
 refine afb (wpS (h.run T s S) (λv s1 z=>nn λhN=>?_)) (b9 hp rfl hn hl hb);obtain⟨a,tL,S0,f,hf,hg,q⟩:=z;exact hN (hg T s1 v _ S0 _ (jo (kws:=[]) O hf hp rfl q S0))
theorem Kz(S:aX c st ((v,.f (.str a))::T) s)(Q' :a7×List a7->a8->Prop)(h:Q' (.builtin "str.join",[v]) s):dE (dC c.prog c.w) c.A (adQ v "join" pl) Q' (λaa aa=>False) s:=by obtain⟨m,as,P,N,B⟩:=S;obtain⟨t,rfl⟩:=B.bw _ (.head _);exact GM.join h
theorem qG(tP:a.length+b.length≤1000000)(h:Q (.f (.str (a++b))) st):Op c [.f (.str b),.f (.str a)] (λvs=>match vs with| [y,x]=>FX .Add x y|_=> .raise .none) st Q:=qU λT x y s S=>by obtain⟨m,as,P,N,B⟩:=S;obtain⟨t,rfl⟩:=B.bw _ (.head _);obtain⟨u,rfl⟩:=B.bw _ (.tail _ (.head _));refine add_str (λt' k=>?_) (by rw[mB];exact ae tP (by decide));have S:aX c st T s:=⟨m,as,P,N,B.less λp hp=> .tail _ (.tail _ hp)⟩;exact⟨_,st,(S.dH (t' :=k)).str,h⟩
theorem strsAre_values(H:aik vs ss): ∃l:List (Str×Tok),vs=strValues l/\l.map (·.1)=ss:=by
 induction H with
 |nil=>exact⟨[],rfl,rfl⟩
 |cons n t _ ih=>obtain⟨l,rfl,rfl⟩:=ih;exact⟨(n,t)::l,rfl,rfl⟩
theorem yb(hx:x.length≤10)(hs: ∀y∈ss,y.length≤10)(hl:ss.length≤100):(Txt.join x ss).length≤2000:=by show(ahB x ss).length≤2000;rw[StrLaws.glued_eq_join];have h1:=StrLaws.join_length_le x ss;have h2:=StrLaws.sumLen_le ss hs;have h3:=aaB hl hx;lia
theorem wG(ss:List Str):aQ own (AV.nw (.list (ss.map FV.str))) (ss.map λi=> .f (.str i)):=by have:=aQ.n (own:=own) (ss.map FV.str);rw[dT]at this;exact this
theorem GV(H:aQ st.own a (ss.map λi=> .f (.str i)))(hx:x.length≤10)(hs: ∀y∈ss,y.length≤10)(hl:ss.length≤100)(h:Q (.f (.str (Txt.join x ss))) st):aZ c (.builtin "str.join") [.f (.str x),a] [] [] st Q:=
 tK λT y z s S=>by
  refine nn λhN=>?_;obtain⟨m,as,P,N,B⟩:=S;obtain⟨t,rfl⟩:=B.bw _ (.head _);obtain⟨y,vs,n,rfl,g,r⟩:=B.list H (B.bw _ (.tail _ (.head _)));obtain⟨l,rfl,rfl⟩:=strsAre_values (AF r);refine hN (SC.join (aP g) rfl ?_ λt' k=>?_)
  ·unfold JoinOk;rw[StrLaws.joinFits hs (by have:=aaB hl hx;lia)];rfl
  ·have S:aX c st T s:=⟨m,as,P,N,B.less λp hp=> .tail _ (.tail _ hp)⟩;exact⟨_,st,(S.dH (t' :=k)).str,h⟩
end
theorem iH.of{prog:d5}{w:fA}{K:abE}{tt:List dq}{g:Gx}{env:Env}{n:Nat}{fr:List (Str×FV)}{tgt:Expr}{ifs:List Expr}{elt:Expr}{out:FV->Option FV}{x:FV}(hg:g.prog=prog/\g.w=w/\g.K=K/\g.tt=tt)
  (h: ∀cl g0 os,iH ⟨prog,w,K,tt,cl,g0,os⟩ env n fr tgt ifs elt out x):iH g env n fr tgt ifs elt out x:=by
 refine nn λhN=>?_;obtain⟨gp,gw,gK,gt,gcl,gg0,gos⟩:=g;obtain⟨h1,h2,h3,h4⟩:=hg;dsimp only at h1 h2 h3 h4;subst h1 h2 h3 h4;exact hN (h _ _ _)
theorem ig(hl:noName (fr.map λp=>(p.1,AV.f p.2)) x=true)
  (hx: ∀A h0 gens aV,storeOk (tU g A env h0 gens aV) x=true)
  (h: ∀A h0 gens aV,bQ (tU g A env h0 gens aV) n->jF (tU g A env h0 gens aV) ifs ⟨(fr.map λp=>(p.1,AV.f p.2))++[(x,.f v)],[]⟩ (NK (tU g A env h0 gens aV) elt (out v))):
  iH g env n fr (.Name x px) ifs elt out v:=λA h0 gens aV O T val s S=>
 xb (mu (aX.eZ (c:=tU g A env h0 gens aV) S O.toOk (hx _ _ _ _) (aU hl)) (λaa s' S' =>⟨_,S',h A h0 gens aV O⟩))
theorem ju{K:abE}(h:K.lookup cd=some (Tz fd t l n d f r [x,y,z]))(ne:cd≠r+1):cQ K cd (r+1):=⟨_,_,_,_,_,_,_,_,_,h,rfl,rfl,rfl,rfl,rfl,rfl,ne,rfl⟩
theorem cQ.app{K K' :abE}(C:cQ K cd b):cQ (K++K') cd b:=by obtain⟨o,vs,x1,x2,x3,x4,x5,x6,x7,e,r⟩:=C;exact⟨o,vs,x1,x2,x3,x4,x5,x6,x7,by rw[acA];rw[e];rfl,r⟩
theorem Vz(P:mA):cQ (KK P) 29 25:=ju (fd:=pM) (t:=196) (l:=5) (n:=2) (d:=8) (f:=3) (r:=24) (x:= .ref 26) (y:= .ref 27) (z:= .ref 28) (by kernel_rfl) (by decide)
theorem XA(P:mA):cQ (KK P) 36 32:=ju (fd:=BZ) (t:=207) (l:=17) (n:=1) (d:=4) (f:=3) (r:=31) (x:= .ref 33) (y:= .ref 34) (z:= .ref 35) (by kernel_rfl) (by decide)
theorem XC(P:mA):cQ (KK P) 44 40:=ju (fd:=B0) (t:=214) (l:=19) (n:=2) (d:=7) (f:=3) (r:=39) (x:= .ref 41) (y:= .ref 42) (z:= .ref 43) (by kernel_rfl) (by decide)
theorem NT(P:mA):cQ (KK P) 510 508:=ju (fd:=bq) (t:=866) (l:=584) (n:=5) (d:=3) (f:=3) (r:=507) (x:= .none) (y:= .none) (z:= .ref 509) (by kernel_rfl) (by decide)
noncomputable abbrev TT:List dq:=[25,32,40,508]
section
variable{prog:d5}{w:fA}{tt:List dq}
theorem wH (i:Nat)(h:i<6):(toString (i:Int):Str).length≤10:=by
 match i,h with
 |0,_=>decide
 |1,_=>decide
 |2,_=>decide
 |3,_=>decide
 |4,_=>decide
 |5,_=>decide
theorem qH{c:Cx}{st:St}(h:Q true st):jF c [] st Q:=h
noncomputable def NU(x:FV):Option FV:=x.JF none none (λi=>some (.str (toString i))) (λaa=>none) (λaa=>none) (λaa=>none) (λaa=>none) none
theorem GW: ∀r:List Nat,(r.map λ(i:Nat)=>FV.int (i:Int)).filterMap NU=(r.map λ(i:Nat)=>(toString (i:Int):Str)).map FV.str:=by
 intro lz;induction lz with
 |nil=>exact rfl
 |cons i r ih=>rw[eA];rw[va (show NU (.int (i:Int))=some (.str (toString (i:Int)))from rfl)];rw[ih];rfl
theorem str_set(m:Nat):Spec prog w (KK w.params) TT 5 (.ref 45) [.aW (aq w) m] [] (λr=> ∃x,r= .str x):=by
 refine eu (Zl w.params) [("candset",.aW (aq w) m),("cand_names",.none)] tr (λaa=>tr) ?_ ?_
 ·rintro s P vs ks ⟨x,_,rfl,hx,rfl⟩ rfl X;exact⟨_,aS X (b:=[("candset",x),("cand_names",.none)]) λM=>rfl,.cons hx (.cons rfl .nil)⟩
 ·intro V O';have O:=O'.toOk;refine ah (aK (aE (ak O 1 rfl (jh (FI .none ⟨_,rfl,cB (ah (aJ O (nX (n1:=1) (n2:=1) (n3:=2) (n4:=4) O' (by decide) (by decide) (by decide) (by decide) [] 44 40 (f:= .builtin "sorted") (bi:=0) rfl tr rfl rfl (XC _) (.tail _ (.tail _ (.head _))) rfl (af O 0 rfl ⟨_,_,NU,[],fL aN,.f _,.nil,?_⟩) rfl (by decide+kernel) rfl rfl (λaa aa aa=>rfl) (λaa=>rfl))))⟩)))));rintro l ⟨r,rfl,hr⟩;have hlen:r.length<64:=by rw[hr.length_eq];exact bj (cH m) (by decide)
  have VA: ∀y∈r.map λ(i:Nat)=>(toString (i:Int):Str),y.length≤10:=λy hy=>by obtain⟨i,hi,rfl⟩:=bb.mp hy;exact wH i (dN.mp (hr.mem_iff.mp hi)).1
  refine⟨⟨_,by rw[GW];exact rV (by decide) (by rw[ag];exact hlen),?_⟩,?_⟩
  ·rintro _ ⟨LZ,hp,rfl⟩;have VB: ∀y∈LZ,y.length≤10:=λy hy=>VA y (hp.mem_iff.mp hy);have gu:LZ.length<64:=by rw[hp.length_eq];rw[ag];exact hlen
   refine⟨tr,aj (ah (aF (au (au (bz (nY O rfl (bz ⟨.builtin "str.join",rfl,λT s v pl S Q' hq=>Kz S Q' hq,af O 2 rfl (GV (wG LZ) (by decide) VB (ec (a0 gu (by decide))) (qG ?_ (bz (qG ?_ ⟨_,.f _ rfl,_,rfl⟩))))⟩)))))))⟩
   ·have:=yb (x:=fe ", ") (by decide) VB (ec (a0 gu (by decide)));show 1+_≤_;exact ae (eQ this 1) (by decide)
   ·have:=yb (x:=fe ", ") (by decide) VB (ec (a0 gu (by decide)));rw[Str.length_append];show 1+_+1≤_;lia
  ·intro x hx g C code hg;refine iH.of hg λQ6 Q7 Q8=>?_;obtain⟨i,hi,rfl⟩:=bb.mp hx;refine ig tr (λaa aa aa aa=>tr) λA' DK yc GX OO=>?_;refine qH ⟨_,rfl,ai OO.toOk (f:= .type "str") rfl tr rfl rfl (af OO.toOk 0 rfl (Ct ?_ (.f _ rfl)))⟩;have:=(dN.mp (hr.mem_iff.mp hi)).1;exact a0 this (by decide)
end
section
variable{c:Cx}{st:St}{T:List (a7×AV)}{s s' :a8}{m:Str->Option a7}{as:List dq}{P N:dq->Prop}{H H' :List (dq×Obj)}{X X' :List de}{g:Gx}{ro cY:List (a7×FV)}
theorem az.GY (B:az c st T s m as P N)(h:a∈as):(s.heap.get? a).isSome:=cx.mpr (B.own.there h)
theorem az.KA(B:az c st T s m as P N)(C:DQ c.tt s s' H X):az (c.v H (s.gens++X.toArray)) st T s' m as P N:=az.JQ (c:=c) (H:=[]) (G:=c.g0) (Z:=λaa=>False) B (λaa h=>h.elim) (λb o aa aa=>C.keep b o) (gB.of C.keep).2 ⟨[],by rw[C.gens];simp,λaa h=>nomatch h⟩ C.os (λp hp=>⟨(C.aV p hp).1,.inr (C.aV p hp).2⟩) C.nd
theorem az.Cy{n:Nat}(B:az (c.v H (g.g0++X.toArray)) st T s m as P N)(O:bQ c n)(hg:g.K=c.K/\g.tt=c.tt/\(∀p∈g.cl,c.h0.IsCell p.1 (some p.2))/\g.os=c.os)(hb: ∀y∈X,y.bare=true)(jc: ∀p∈ro,VR s.heap P p.2 p.1):c8 g ro H X s where
 ok:=⟨hg.1▸O.cO.keeps B.keep,hg.1▸hg.2.1▸O.kt,O.lim.keeps B.keep,hg.2.1▸O.st,λa ha=>by obtain⟨_,_,e,_,_⟩:=B.low.2 a (hg.2.1▸ha);exact d4 e,hg.2.1▸B.low.2⟩
 ro:=λp hp=>VR.mono (λaa aa aa e=>e) (λa h=>⟨hg.2.1▸(B.pf a h).2.2,λz=>(B.qw z).nP h⟩) (jc p hp)
 cl:=λp hp=>by obtain⟨o,e,d⟩:=hg.2.2.1 p hp;exact⟨⟨o,B.keep _ o e,d⟩,hg.2.1▸B.qf _ o e,λz=>cu (B.qw z).h0 e⟩
 aV:=λp hp=>by have A:=B.qw (eD hp);refine⟨(B.aV p (bp _ hp)).1,hg.2.1▸A.nt,hg.1▸FK.mpr λo q=>cu A.h0 (O.cO _ _ q),λq=>?_⟩;obtain⟨mc,⟨o,_,_,e',_⟩,_⟩:=O.lim;exact cu A.h0 (q▸e')
 nd:=(kd.mp B.PD).1
 gens:=by obtain⟨tl,e,hb⟩:=B.gens;refine⟨tl,?_,hb⟩;rw[e];apply RR;simp
 bare:=hb
 os:=B.os.trans hg.2.2.2.symm
theorem az.XD(B:az (c.v H (g.g0++X.toArray)) st T s m as P N)(hg:g.tt=c.tt)(F:Fin' g H X s X' s')(hG: ∃tl:List de,s'.gens=G++tl.toArray/\ ∀y∈tl,y.bare=true)
  (hH:(∀p∈H2,s'.heap.get? p.1=some p.2/\(p.1∈HA H∨(s.heap.get? p.1=none/\p.1∉g.tt)))/\(HA H2).Nodup):az (c.v H2 G) st T s' m as P N:=
 az.JQ B (Z:=(· ∈HA H)) (λaa h=>h) (λb o h1 h2=>F.keep b o (hg▸h1) h2) (λb h=>F.tab b (hg▸h)) hG F.os (hg▸hH.1) hH.2
theorem GZ{α:Type}{a b g0:Array α}{t0 X X' t t' :List α}(e0:b=g0++t0.toArray)(e:a=b++(X' ++(t++t')).toArray):a=g0++(t0++(X' ++(t++t'))).toArray:=by rw[e];rw[e0];apply RR;simp
theorem az.G5(B:az (c.v H (g.g0++X.toArray)) st T s m as P N)(hg:g.tt=c.tt)(h0: ∃Pp:List de,g.g0=c.g0++Pp.toArray/\ ∀y∈Pp,y.bare=true)(hR: ∃tl:List de,s.gens=g.g0++(X++tl).toArray/\ ∀y∈tl,y.bare=true)(F:Fin' g H X s X' s'):az c st T s' m as P N:=az.XD (H2:=[]) (G:=c.g0) B hg F (by obtain⟨Pp,e0,Pq⟩:=h0;obtain⟨tl,e,hb⟩:=hR;obtain⟨vO,e',gC⟩:=F.gens tl e;exact⟨_,GZ (X:=X) e0 e',λy hy=>(cp.mp hy).elim (Pq y) λhy=>(cp.mp hy).elim (F.bare y) λhy=>(cp.mp hy).elim (hb y) (gC y)⟩) ⟨λaa h=>(nomatch h),rp⟩
theorem az.step(B:az (c.v H (g.g0++X.toArray)) st T s m as P N)(hg:g.tt=c.tt)(S:c9 g H X s H' X' s')(Y:Yv g ro H s H' s' ys)(jc: ∀p∈ro,VR s.heap P p.2 p.1):
  E2 λP' N' =>A3 (az (c.v H' (g.g0++X'.toArray)) st T s' m as P' N') (∀a,P a->P' a) (∀p∈ys,VR s'.heap P' p.2 p.1):=by
 have hG: ∃tl:List de,s'.gens=(g.g0++X'.toArray)++tl.toArray/\ ∀y∈tl,y.bare=true:=by obtain⟨tl,e,hb⟩:=B.gens;obtain⟨vO,e',gC⟩:=S.gens tl (by rw[e];apply RR;simp);refine⟨tl++vO,by rw[e'];apply RR;simp,λy hy=>(cp.mp hy).elim (hb y) (gC y)⟩
 have B1:az (c.v H' (g.g0++X'.toArray)) st T s' m as P N:=B.XD hg S.toFin' hG ⟨λp hp=>⟨S.aV p hp,S.new p hp⟩,S.nd⟩;let F:dq->Prop:=λa=>(fC g.tt s.heap a/\a∉HA H')/\(s'.heap.get? a).isSome
 have hv:=Y (λa=>P a) (λa h=>⟨hg▸(B.pf a h).2.2,λz=>by obtain⟨q,hq,rfl⟩:=bb.mp z;exact(B.aV q (bp _ hq)).2.2.2.1 h⟩) jc
 refine⟨λa=>P a∨F a,λa=>N a∨F a,B1.widen (F:=F) (λa h=>?_),λa h=> .inl h,λp hp=>VR.mono (λaa aa aa e=>e) (λa h=>?_) (hv p hp).there⟩
 ·have q:=B.cE h.1.1.1 (hg▸h.1.1.2);exact⟨h.2,⟨q.h0,q.nl,id,q.na,q.nt,q.nc⟩,λp hp e=>(cp.mp hp).elim (λhp=>h.1.2 (e▸eD hp)) λhp=>B.jg h.1.1.1 (ba H hp) e⟩
 ·exact h.1.elim .inl λq=> .inr ⟨q,h.2⟩
end
section
variable{c:Cx}{st:St}
inductive VC (c:Cx)(body:List aa4)(Q:Fl->St->Prop)(T:List (a7×AV))(s' :a8):Prop
 |mk (gW:St) (S:aX c gW T s') (q:bM c body gW Q)
def G6(c:Cx)(tgt:Expr)(body:List aa4)(b:FV)(bD:St)(Q:Fl->St->Prop):Prop:=∀(T:List (a7×AV)) (v:a7) (s:a8),aX c bD ((v,.f b)::T) s->dE (dC c.prog c.w) c.A (afd tgt c.env v) (λaa s' =>VC c body Q T s') (λaa aa=>False) s
def G7(c:Cx)(tgt:Expr)(body:List aa4)(Inv:List FV->St->Prop):Prop:= ∀b r bD H G,Inv (b::r) bD->G6 (c.v H G) tgt body b bD (Cn (Inv r))
inductive Q9(c:Cx)(tgt:Expr)(body:List aa4)(Q:Fl->St->Prop)(l:List FV)(bl:St):Prop
 |mk (Inv:List FV->St->Prop) (h1:Inv l bl) (h2:G7 c tgt body Inv) (q: ∀bD,Inv [] bD->Q .next bD)
inductive L2(c:Cx)(act:Act)(n1:Nat)(tgt:Expr)(body:List aa4)(Q:Fl->St->Prop)(a:AV)(bl:St):Prop
 |mk (x0:FV) (Ls:List FV->Prop) (h0:a= .f x0∨a= .n x0) (h1:qF act c.prog c.w c.K c.tt n1 x0 Ls tgt) (q: ∀l,Ls l->Q9 c tgt body Q l bl)
inductive Ra(g:Gx)(c:Cx)(T:List (a7×AV))(tgt:Expr)(I:dq)(Inv:List FV->St->Prop)(n:Nat)(s:a8):Prop
 |mk (r:List FV) (st:St) (H:List (dq×Obj)) (X:List de) (ro:List (a7×FV)) (e:n=r.length) (S:aX (c.v H (g.g0++X.toArray)) st ((ro.map λp=>(p.1,AV.f p.2))++T) s) (hb: ∀y∈X,y.bare=true) (L:gf g c.A tgt I r ro H X) (h:Inv r st)
theorem az.G8{T:List (a7×AV)}{s:a8}{m:Str->Option a7}{as:List dq}{P N:dq->Prop}(B:az c st T s m as P N){ro:List (a7×FV)}(h: ∀p∈ro,VR s.heap P p.2 p.1):az c st ((ro.map λp=>(p.1,AV.f p.2))++T) s m as P N:=by
 induction ro with
 |nil=>exact B
 |cons p ro ih=>exact az.push (ih λq hq=>h q (.tail _ hq)) (h p (.head _))
theorem uX{g:Gx}{n:Nat}{tgt:Expr}{I:dq}{body:List aa4}{T:List (a7×AV)}{Inv:List FV->St->Prop}{Q:Fl->St->Prop}{R' :abS->a8->Prop}(O:bQ c n)(hg:g.prog=c.prog/\g.w=c.w/\g.K=c.K/\g.tt=c.tt/\(∀p∈g.cl,c.h0.IsCell p.1 (some p.2))/\g.os=c.os)(ZG: ∃Pp:List de,g.g0=c.g0++Pp.toArray/\ ∀y∈Pp,y.bare=true)
  (turn:G7 c tgt body Inv)(fin: ∀bD,Inv [] bD->Q .next bD)
  {l:List FV}{bl:St}{H:List (dq×Obj)}{X:List de}{ro:List (a7×FV)}{s:a8}(S:aX (c.v H (g.g0++X.toArray)) bl ((ro.map λp=>(p.1,AV.f p.2))++T) s)(hb: ∀y∈X,y.bare=true)(L:gf g c.A tgt I l ro H X)(hI:Inv l bl)
  (hR: ∀f s',JR c T Q f s' ->R' (.ok f) s'):
  tJ (dC c.prog c.w) c.A (.forLoop tgt (.ref I) body [] c.env) R' s:=by
 refine xC (Ra g c T tgt I Inv) (λn s hI=>?_) l.length ⟨l,bl,H,X,ro,rfl,S,hb,L,hI⟩;obtain⟨r,bD,H2,X2,JA,en,⟨m2,pT,P2,N2,B3⟩,NP,L,hI⟩:=hI;have Rb: ∀p∈JA,VR s.heap P2 p.2 p.1:=λp hp=>B3.bw (p.1,AV.f p.2) (bp _ (eD (f:=λp:a7×FV=>(p.1,AV.f p.2)) hp));have R:=B3.Cy (g:=g) (ro:=JA) O hg.2.2 NP Rb;refine bS (hg.1 ..) ?_;refine bS (hg.2.1 ..) ?_;cases r with
 |nil=>refine mu (L s R) (λov s3 z=>?_);obtain⟨e,X3,F⟩:=z;rw[e];exact .stop (hR _ _ ⟨.next,bD,⟨rfl,m2,pT,P2,N2,(B3.G5 hg.2.2.2.1 ZG R.gens F).less λp hp=>ba _ hp⟩,fin bD hI⟩)
 |cons b r=>
  refine mu (L s R) (λov s3 z=>?_);obtain⟨u,e,z⟩:=z;rw[e];refine .go (mu z (λaa s4 z=>?_));obtain⟨cY,H',X',S4,Y4,L'⟩:=z;obtain⟨P',N',B4,SY,Nj⟩:=az.step B3 hg.2.2.2.1 S4 Y4 Rb;have S5:aX (c.v H' (g.g0++X'.toArray)) bD ((u,.f b)::((cY.map λp=>(p.1,AV.f p.2))++T)) s4:=⟨m2,pT,P',N',az.push ((B4.less λp hp=>ba _ hp).G8 λq hq=>Nj q (.tail _ hq)) (Nj _ (.head _))⟩
  rw[hg.1];rw[hg.2.1];refine mu (turn b r bD H' _ hI _ u s4 S5) (λaa s5 z=>?_);obtain⟨gW,S6,Rc⟩:=z;refine mu (Rc.run _ s5 S6) (λf s6 z=>?_);obtain⟨fl,ER,hf,Cg,Um⟩:=z;exact⟨(hf.loop Cg).1,r.length,en▸gN _,r,ER,H',X',cY,rfl,(hf.loop Cg).2,S4.bare,L',Um⟩
theorem yd(O:bQ c n)(hn:n1+1≤n)(GN:xX c e0 iter act)
  (h:Ev c e0 st (L2 c act n1 tgt body Q))
  (hs: ∀y,il iter c.env y=pure y:=by intro _;rfl):Ex c (.For tgt iter body [] pos) st Q:= .mk λT s S=>by
 refine ahQ (GN s _ (S.cO O.toOk) (wpS (h.run T s S) (λv s1 z=>?_))) hs;obtain⟨a,bl,S1,x0,Ls,ha,v5,GO⟩:=z;refine⟨S1.cO O.toOk,?_⟩;have G1:=S1.good (A:=c.A) (n' :=n1) O O.hh (cb c.A.depth 3) (cb c.A.units 39) hn;obtain⟨m,as,P,N,B⟩:=S1;have hv:VR s1.heap P x0 v:=by
  have:=B.bw _ (.head _);rcases ha with rfl|rfl
  ·exact this
  ·exact VR.mono (λaa aa aa e=>e) (λa h=>B.nP a h) this
 refine v5 c.A s1 v _ G1 (VR.mono (λaa aa aa e=>e) (λa h=>(B.pf a h).2.2) hv) λI H X ro s2 l hl C jc xY aa=>?_;obtain⟨Inv,h0,turn,fin⟩:=GO l hl;have B2:az (c.v H (s1.gens++X.toArray)) bl T s2 m as P N:=(B.KA C).less λp hp=> .tail _ hp;have S2:aX (c.v H (s1.gens++X.toArray)) bl ((ro.map λp=>(p.1,AV.f p.2))++T) s2:=⟨m,as,P,N,B2.G8 λq hq=>jc P hv q hq⟩;exact uX (g:=⟨c.prog,c.w,c.K,c.tt,[],s1.gens,s1.os⟩) O ⟨rfl,rfl,rfl,rfl,(λaa h=>(nomatch h)),B.os⟩ B.gens turn fin S2 C.bare (xY _ (nW O (ec hn))) h0 λf s' h=>h
theorem CH(O:bQ c n)(hn:n1+1≤n)
  (h:Ev c iter st (L2 c lB n1 tgt body Q))
  (hs: ∀y,il iter c.env y=pure y:=by intro _;rfl):Ex c (.For tgt iter body [] pos) st Q:=yd O hn mT h hs
inductive Rd(c:Cx)(x:Str)(b:FV)(body:List aa4)(Q:Fl->St->Prop)(bD:St):Prop
 |mk (l2:List (Str×AV)) (h:cA bD.loc x (.f b) l2) (q:bM c body ⟨l2,bD.own⟩ Q)
theorem uY(O:Ok c)(h:Rd (c.v H G) x b body Q bD)(hx:storeOk c x=true:=by kernel_rfl):
  G6 (c.v H G) (.Name x px) body b bD Q:=λT v s S=>by
 obtain⟨l2,gu,hb⟩:=h;exact xb (mu (aX.eZ (c:=c.v H G) S (O.v H G) hx gu) (λaa s' S' =>⟨_,S',hb⟩))
end
inductive fM(own:List AO):AV->Bool->Nat->Prop
 |f (b:Bool) (n:Nat):fM own (.f (.aW b n)) b n
 |n (b:Bool) (n:Nat):fM own (.n (.aW b n)) b n
 |own {i:Nat} {b:Bool} {n:Nat}:own[i]?=some (.aW b n)->fM own (.own i) b n
noncomputable abbrev ku(ns:List Nat):List AV:=ns.map λ(i:Nat)=> .f (.int (i:Int))
section
variable{c:Cx}{st:St}{T:List (a7×AV)}{s:a8}{m:Str->Option a7}{as:List dq}{P N:dq->Prop}
theorem az.aW (B:az c st T s m as P N)(H:fM st.own a b n)(h:dj s.heap P N as a v):E2 λx o=>A3 (v= .ref x) (s.heap.get? x=some o) (cz o b n):=by
 cases H with
 |f=>obtain⟨x,o,e,_,g,r⟩:=h;exact⟨x,o,e,g,r⟩
 |n=>obtain⟨x,o,e,_,g,r⟩:=h;exact⟨x,o,e,g,r⟩
 |own hi=>obtain⟨x,hx,e⟩:=h;obtain⟨x',mG,o,g,r⟩:=B.own.get hi;cases hx.symm.trans mG;exact⟨x,o,e,g,r⟩
theorem pg{h:wq}{P N:dq->Prop}{as:List dq}: ∀{ns:List Nat} {vs:List a7},bu h P N as (ku ns) vs->Gives (λi v=>vs.toArray[i]?=some v) ns:=by
 intro lz;induction lz with
 |nil=>intro vs H;exact λi v e=>by cases H;simp at e
 |cons n ns ih=>
  intro _ xx;obtain⟨v,r,e,⟨t,q⟩,y⟩:=xx;intro i w e';subst e;subst q;cases i with
  |zero=>exact⟨n,t,rfl,by simpa using e'.symm⟩
  |succ i=>obtain⟨x,t,h1,h2⟩:=ih y i w (by simpa using e');exact⟨x,t,by simpa using h1,h2⟩
theorem ye(O:Ok c)(H:aQ st.own a (ku ns))(hs: ∀x∈ns,x<6)(h:Q (.n (.aW (aq c.w) (fS 0 ns))) st):aZ c (.type "set") [a] [] [] st Q:=jn λT x s S=>by obtain⟨m,as,P,N,B⟩:=S;obtain⟨y,vs,n,rfl,g,r⟩:=B.list H (B.bw _ (.head _));have hlen:=r.length;refine rG O.hh (aP g) (pg r) (by rw[eM];rw[hlen];rw[ag];rfl) hs λh' tk o hk g' hn=>?_;have ext:Ext c.tt s {s with heap:=h',toks:=tk}:=⟨gB.of λb o e=>hk b o e,⟨[],by simp,λaa h=>nomatch h⟩,rfl⟩;exact⟨.n (.aW (aq c.w) _),st,(B.less λp hp=> .tail _ hp).jk ext ⟨_,o,rfl,.inr ⟨dv (cq _),B.dF O⟩,g',hn.rep⟩,h⟩
theorem yf(O:Ok c)(H:fM st.own a (aq c.w) n)(h:Q (.n (.aW (aq c.w) n)) st):aZ c (.type "set") [a] [] [] st Q:=jn λT x s S=>by refine nn λhN=>?_;obtain⟨m,as,P,N,B⟩:=S;obtain⟨y,o0,rfl,g,r⟩:=B.aW H (B.bw _ (.head _));refine hN (AP g r λh' o hk g' hn=>?_);have ext:Ext c.tt s {s with heap:=h' }:=⟨gB.of λb o e=>hk b o e,⟨[],by simp,λaa h=>nomatch h⟩,rfl⟩;exact⟨.n (.aW (aq c.w) _),st,(B.less λp hp=> .tail _ hp).jk ext ⟨_,o,rfl,.inr ⟨dv (cq _),B.dF O⟩,g',hn.rep⟩,h⟩
theorem kB(H:fM st.own a b n)(h:Q (.f (.int (aB n).length)) st):aZ c (.builtin "len") [a] [] [] st Q:=jn λT x s S=>by have S' :=S;obtain⟨m,as,P,N,B⟩:=S';obtain⟨y,o0,rfl,g,r⟩:=B.aW H (B.bw _ (.head _));obtain⟨mv,m,d,ep,tk,rfl,hn,hd,h0,hm⟩:=r;refine call_len_set g ⟨rfl,rfl,rfl⟩ rfl (dO tk hm hn hd h0) (by rw[bG];have:=cH n;lia) ⟨_,st,?_,h⟩;rw[bG];exact(S.pop.dH (t' :=s.toks+1+1)).int
theorem NV(H:fM st.own a b n)(h:Q (.f (.bool (decide (0≤k/\k<6)&&n.testBit k.toNat))) st):
  Op c [a,.f (.int k)] (λvs=>match vs with| [y,x]=>md .In x y|_=> .raise .none) st Q:=
 qU λT x y s S=>by obtain⟨t,rfl⟩:=S.pop.jZ;have S' :=S;obtain⟨m,as,P,N,B⟩:=S';obtain⟨y,o0,rfl,g,r⟩:=B.aW H (B.bw _ (.head _));refine wpAny_inSet_of (knd:=t4 c.prog c.w) (k:=k) (by show sv k (.int k t)=true;simp[sv]) rfl (cz.setOf g r) ?_;exact⟨_,st,(S.jR.dH (t' :=s.toks+1)).bool,h⟩
theorem DW(H:fM st.own a b n)(h:Q (.f (.bool (!(decide (0≤k/\k<6)&&n.testBit k.toNat)))) st):
  Op c [a,.f (.int k)] (λvs=>match vs with| [y,x]=>md .NotIn x y|_=> .raise .none) st Q:=
 qU λT x y s S=>by obtain⟨t,rfl⟩:=S.pop.jZ;have S' :=S;obtain⟨m,as,P,N,B⟩:=S';obtain⟨y,o0,rfl,g,r⟩:=B.aW H (B.bw _ (.head _));refine wpAny_notInSet_of (knd:=t4 c.prog c.w) (k:=k) (by show sv k (.int k t)=true;simp[sv]) rfl (cz.setOf g r) ?_;exact⟨_,st,(S.jR.dH (t' :=s.toks+1)).bool,h⟩
theorem Ba{name:Str}{id:String}{a:AV}{b:Bool}{n:Nat}{v:a7}{pl:Sem Bool}(H:fM st.own a b n)(slot:Slot "set" name id)(ty:typeOf (.builtin id)=pure (.type "method_descriptor"))(S:aX c st ((v,a)::T) s)(Q' :a7×List a7->a8->Prop)(h:Q' (.builtin id,[v]) s):
  dE (dC c.prog c.w) c.A (adQ v name pl) Q' (λaa aa=>False) s:=by
 obtain⟨m,as,P,N,B⟩:=S;obtain⟨y,o0,rfl,g,r⟩:=B.aW H (B.bw _ (.head _));refine getMethod_builtin ⟨o0,g,iG r⟩ F.plainAttrs_set slot ty (λa e=>?_) h;cases e;obtain⟨mv,m,d,ep,tk,rfl,_⟩:=r;exact⟨_,g,rfl⟩
theorem Bb(O:Ok c)(Ha:fM st.own a (aq c.w) na)(H:aQ st.own b (ku ns))(hs: ∀x∈ns,x<6)(h:Q (.n (.aW (aq c.w) (fS 0 ns&&&na))) st):aZ c (.builtin "set.intersection") [a,b] [] [] st Q:=tK λT x y s S=>by obtain⟨m,as,P,N,B⟩:=S;obtain⟨x,oa,rfl,ga,ra⟩:=B.aW Ha (B.bw _ (.head _));obtain⟨y,vs,n,rfl,g,r⟩:=B.list H (B.bw _ (.tail _ (.head _)));have hlen:=r.length;refine we O.hh ga ra (aP g) (pg r) (by rw[eM];rw[hlen];rw[ag];rfl) hs λh' tk o hk g' hn=>?_;have ext:Ext c.tt s {s with heap:=h',toks:=tk}:=⟨gB.of λb o e=>hk b o e,⟨[],by simp,λaa h=>nomatch h⟩,rfl⟩;exact⟨.n (.aW (aq c.w) _),st,(B.less λp hp=> .tail _ (.tail _ hp)).jk ext ⟨_,o,rfl,.inr ⟨dv (cq _),B.dF O⟩,g',hn.rep⟩,h⟩
theorem Bc(O:Ok c)(Ha:fM st.own a (aq c.w) na)(Hb:fM st.own b (aq c.w) nb)(h:Q (.n (.aW (aq c.w) (nb&&&na))) st):aZ c (.builtin "set.intersection") [a,b] [] [] st Q:=tK λT x y s S=>by obtain⟨m,as,P,N,B⟩:=S;obtain⟨x,oa,rfl,ga,ra⟩:=B.aW Ha (B.bw _ (.head _));obtain⟨y,ob,rfl,gb,rb⟩:=B.aW Hb (B.bw _ (.tail _ (.head _)));refine wg ga ra gb rb λh' o hk g' hn=>?_;have ext:Ext c.tt s {s with heap:=h' }:=⟨gB.of λb o e=>hk b o e,⟨[],by simp,λaa h=>nomatch h⟩,rfl⟩;exact⟨.n (.aW (aq c.w) _),st,(B.less λp hp=> .tail _ (.tail _ hp)).jk ext ⟨_,o,rfl,.inr ⟨dv (cq _),B.dF O⟩,g',hn.rep⟩,h⟩
theorem Bd{j i:Nat}{n:Nat}{Q:AV->St->Prop}(hj:st.own[j]?=some (.aW (aq c.w) n))(hi:i<6)(hb:n.testBit i=true)(h:Q (.f .none) ⟨st.loc,st.own.set j (.aW (aq c.w) (n^^^(1<<<i)))⟩):aZ c (.builtin "set.remove") [.own j,.f (.int (i:Int))] [] [] st Q:=tK λT x y s S=>by refine nn λhN=>?_;obtain⟨m,as,P,N,B⟩:=S;obtain⟨x',hx,rfl⟩:=B.bw _ (.head _);obtain⟨t,rfl⟩:=B.bw _ (.tail _ (.head _));obtain⟨x2,mG,o,g,r⟩:=B.own.get hj;refine hN ?_;cases hx.symm.trans mG;refine AN g r hi hb λh' o' hs g' r' =>?_;have S' :aX c ⟨st.loc,st.own.set j (.aW (aq c.w) (n^^^(1<<<i)))⟩ T {s with heap:=h',toks:=s.toks+1}:=⟨m,as,P,N,(B.mH (o' := .aW (aq c.w) (n^^^(1<<<i))) (t' :=s.toks+1) hx hs ⟨o',g',r'⟩).less λaa h=> .tail _ (.tail _ h)⟩;exact⟨_,_,S'.Fo,h⟩
end
section
variable{prog:d5}{w:fA}
noncomputable def CI (k:Int)(x:FV):Option FV:=x.JF none none (λi=>some (.bool (decide (k≤i)))) (λaa=>none) (λaa=>none) (λaa=>none) (λaa=>none) none
noncomputable def G9:FV->Option FV:=CI 0
theorem DX: ∀r:List Nat,(r.map λ(i:Nat)=>FV.int (i:Int)).filterMap G9=(r.map λaa=>true).map FV.bool:=by
 intro lz;induction lz with
 |nil=>exact rfl
 |cons i r ih=>rw[eA];rw[va (show G9 (.int (i:Int))=some (.bool true)from congrArg (λb=>some (FV.bool b)) (decide_eq_true (dA i)))];rw[ih];rfl
theorem DY: ∀r:List Nat,(∀i∈r,(i:Int)<k)->(r.map λ(i:Nat)=>FV.int (i:Int)).filterMap (CI k)=(r.map λaa=>false).map FV.bool:=by
 intro lz;induction lz with
 |nil=>intro _;exact rfl
 |cons i r ih=>intro h;have h1:=h i (.head _);rw[eA];rw[va (show CI k (.int (i:Int))=some (.bool false)from congrArg (λb=>some (FV.bool b)) (decide_eq_false (Int.not_le.mpr h1)))];rw[ih λj hj=>h j (.tail _ hj)];rfl
variable{V:Fx}
theorem lC {x0 nc:FV}{Ls:List FV->Prop}{m:Nat}(O' :bQ (b7 TT pM 30 (KK w.params) prog w V) 4)
  (VD: ∀{c:Cx} {st:St} {Q:AV->St->Prop},Ok c->c.w=w->Q (.n (.aW (aq w) m)) st->aZ c (.type "set") [.f x0] [] [] st Q)
  (hlen: ∀{c:Cx} {st:St} {Q:AV->St->Prop},Q (.f (.int (aB m).length)) st->aZ c (.builtin "len") [.f x0] [] [] st Q)
  (v5: ∀tgt,plainT tgt->Source prog w (KK w.params) TT 1 x0 Ls tgt)(GO: ∀l,Ls l-> ∃ns:List Nat,A3 (l=ns.map (λ(i:Nat)=>FV.int (i:Int))) (ns.length≤6) (∀i∈ns,i<6/\ ∀k,nc= .int k->(i:Int)<k))
  (Rg:nc= .none∨ ∃k:Int,nc= .int k):
  bM (b7 TT pM 30 (KK w.params) prog w V) (bodyOf pM) ⟨[("candidates",.f x0),("num_cand",.f nc)],[]⟩ λf st=>E2 λa r=>A3 (f= .ret a) (jE st.own a r) (r= .aW (aq w) m):=by
 have O:=O'.toOk;refine ah (aJ O (ai O (f:= .type "set") rfl tr rfl rfl (af O 0 rfl (VD O rfl ⟨tr,ah (aK (aE (ai O (f:= .builtin "len") rfl tr rfl rfl (af O 0 rfl (hlen (ai O (f:= .builtin "len") rfl tr rfl rfl (af O 2 rfl (kB (.n _ _) (PV ⟨_,rfl,?_⟩)))))))))⟩))));rw[bne_self_eq_false];refine bB (aj (ah (CH O' (n1:=1) (by decide) (af O 0 rfl ⟨x0,Ls,.inl rfl,v5 _ aN,λl hl=>⟨λr st=>(∀y∈r,∃i:Nat,y= .int (i:Int))/\(st=⟨[("candidates",.f x0),("num_cand",.f nc),("approved",.n (.aW (aq w) m))],[]⟩∨ ∃v,st=⟨[("candidates",.f x0),("num_cand",.f nc),("approved",.n (.aW (aq w) m)),("cand",v)],[]⟩),⟨?_,.inl rfl⟩,?_,?_⟩⟩))))
 ·obtain⟨ns,rfl,_⟩:=GO l hl;intro y hy;obtain⟨i,_,rfl⟩:=bb.mp hy;exact⟨i,rfl⟩
 ·rintro b r bD H G ⟨hr,uK⟩;obtain⟨i,TL⟩:=hr b (.head _);rw[TL];refine uY O ⟨[("candidates",.f x0),("num_cand",.f nc),("approved",.n (.aW (aq w) m)),("cand",.f (.int i))],?_,?_⟩
  ·rcases uK with rfl|⟨v,rfl⟩
   ·exact aU tr
   ·exact gO (i:=3) tr
  ·have OO:=O.v H G;refine ah (aK (gD (bF (ai OO (f:= .builtin "isinstance") rfl tr rfl rfl (af OO 3 rfl (bV OO (v:= .type "int") rfl (kZ OO (b:=true) (.int i) rfl ⟨_,.b _,bB (aj (aj ⟨.inl rfl,λy hy=>hr y (.tail _ hy),.inr ⟨.f (.int i),?_⟩⟩))⟩)))))));rcases uK with rfl|⟨v,rfl⟩<;>rfl
 ·rintro bD ⟨-,uK⟩;obtain⟨e,rfl⟩: ∃e:List (Str×AV),bD=⟨("candidates",AV.f x0)::("num_cand",AV.f nc)::("approved",AV.n (.aW (aq w) m))::e,[]⟩:=by
   rcases uK with rfl|⟨v,rfl⟩
   ·exact⟨[],rfl⟩
   ·exact⟨[("cand",v)],rfl⟩
  refine ah (aK (gD (bF (nX (n1:=1) (n2:=1) (n3:=2) (n4:=4) O' (by decide) (by decide) (by decide) (by decide) [] 29 25 (f:= .builtin "all") (bi:=0) rfl tr rfl rfl (Vz _) (.head _) rfl (af O 0 rfl ⟨x0,Ls,G9,[],v5 _ aN,.f _,.nil,λl hl=>?_⟩) rfl (by decide+kernel) rfl rfl (λaa aa aa=>rfl) (λaa=>rfl)))));obtain⟨ns,rfl,Rh,Dr⟩:=GO l hl;refine⟨⟨_,by rw[DX];exact wB (by decide),?_⟩,λx hx g C code hg=>iH.of hg λQ6 Q7 Q8=>?_⟩
  ·rintro _ rfl;refine⟨true,?_,bB (aj ?_)⟩
   ·have:(ns.map λaa=>true).all id=true:=by simp
    rw[this];exact .b _
   have fin: ∀e:List (Str×AV),bM (b7 TT pM 30 (KK w.params) prog w V) [.Return (some (.Name "approved" ⟨16,11,16,19⟩)) ⟨16,4,16,19⟩] ⟨("candidates",AV.f x0)::("num_cand",AV.f nc)::("approved",AV.n (.aW (aq w) m))::e,[]⟩ λf st=>E2 λa r=>A3 (f= .ret a) (jE st.own a r) (r= .aW (aq w) m):=λe=>ah (aF (af O 2 rfl ⟨_,_,rfl,.n _,rfl⟩))
   refine ah (aK (dD (aE (ak O 1 rfl (jh ?_)))));rcases Rg with rfl|⟨k,rfl⟩
   ·exact j9 .none ⟨_,rfl,bB (bB (aj (fin _)))⟩
   ·refine j9 (.int k) ⟨_,rfl,cB (dD (bF (nX (n1:=1) (n2:=1) (n3:=2) (n4:=4) O' (by decide) (by decide) (by decide) (by decide) [("num_cand",V.L+1)] 29 25 (f:= .builtin "any") (bi:=0) rfl tr rfl rfl (Vz _) (.head _) rfl (af O 0 rfl ⟨x0,Ls,CI k,[("num_cand",.int k)],v5 _ aN,.f _,.cons 1 rfl rfl (λaa aa aa=>rfl) rfl (.f _) .nil,λl hl=>?_⟩) rfl (by decide+kernel) rfl rfl (λaa aa aa=>rfl) (λaa=>rfl))))⟩;obtain⟨ns,rfl,Rh,Dr⟩:=GO l hl;refine⟨⟨_,by rw[DY _ λi hi=>(Dr i hi).2 k rfl];exact wC (by decide),?_⟩,λx hx g C code hg=>iH.of hg λQ6 Q7 Q8=>?_⟩
    ·rintro _ rfl;refine⟨false,?_,bB (bB (aj (fin _)))⟩;have:(ns.map λaa=>false).any id=false:=by simp
     rw[this];exact .b _
    ·obtain⟨i,hi,rfl⟩:=bb.mp hx;refine ig tr (λaa aa aa aa=>tr) λA' DK yc GX OO=>?_;refine qH ⟨_,rfl,eK (af OO.toOk 1 rfl (qy OO.toOk 0 rfl (LI (.f _ rfl))))⟩
  ·obtain⟨i,hi,rfl⟩:=bb.mp hx;refine ig tr (λaa aa aa aa=>tr) λA' DK yc GX OO=>?_;refine qH ⟨_,rfl,eK (af OO.toOk 0 rfl (aC (LI (.f _ rfl))))⟩
theorem bM.imp{c:Cx}{b:List aa4}{st:St}{Q Q' :Fl->St->Prop}(H:bM c b st Q)(h: ∀f aO,Q f aO->Q' f aO):bM c b st Q' := .mk λT s S=>wpS (H.run T s S) (λf s' z=>by obtain⟨a,aO,x,q⟩:=z;exact⟨a,aO,x,h _ _ q⟩)
theorem fU(ns:List Nat):aQ own (.f (.list (ns.map λ(i:Nat)=> .int (i:Int)))) (ku ns):=by have:=aQ.f (own:=own) (ns.map λ(i:Nat)=>FV.int (i:Int));rw[dT]at this;exact this
theorem lD(hs: ∀x∈ns,x<6)(hd:ns.Nodup):(aB (fS 0 ns)).Perm ns:=by have hb:(aB (fS 0 ns)).Nodup:=acF acg aaL;refine(aar hb hd).mpr λi=>?_;refine eV (dN ..) ?_;rw[fT];simp only[ui,lh,decide_eq_true_eq];exact⟨λh=>h.2,λh=>⟨hs i h,h⟩⟩
theorem uZ(hs: ∀x∈ns,x<6)(hd:ns.Nodup):Spec prog w (KK w.params) TT 5 (.ref 30) [.list (ns.map λ(i:Nat)=> .int (i:Int))] [] (· = .aW (aq w) (fS 0 ns)):=by
 have hlen:=(lD hs hd).length_eq;have h6:=cH (fS 0 ns);refine eu (SS w.params) [("candidates",.list (ns.map λ(i:Nat)=> .int (i:Int))),("num_cand",.none)] tr (λaa=>tr) ?_ ?_
 ·rintro s P vs ks ⟨x,_,rfl,hx,rfl⟩ rfl X;exact⟨_,aS X (b:=[("candidates",x),("num_cand",.none)]) λM=>rfl,.cons hx (.cons rfl .nil)⟩
 ·intro V O';refine bM.imp (lC (m:=fS 0 ns) O' (λO e q=>ye O (fU _) hs (by rw[e];exact q)) (λq=>jq (fU _) (by simp;lia) (by simpa[hlen]using q)) (λaa ht=>cZ ht) ?_ (.inl rfl)) ?_
  ·rintro l rfl;exact⟨ns,rfl,by lia,λi hi=>⟨hs i hi,λk h=>nomatch h⟩⟩
  ·rintro f st ⟨a,r,rfl,h1,rfl⟩;exact⟨_,h1,rfl⟩
theorem DZ{ns:List Nat}{nc:FV}(hs: ∀x∈ns,x<6)(hd:ns.Nodup)(Rg:nc= .none∨ ∃k:Int,nc= .int k)(hk: ∀k,nc= .int k-> ∀x∈ns,(x:Int)<k):Spec prog w (KK w.params) TT 5 (.ref 30) [.list (ns.map λ(i:Nat)=> .int (i:Int))] [("num_cand",nc)] (· = .aW (aq w) (fS 0 ns)):=by
 have hlen:=(lD hs hd).length_eq;have h6:=cH (fS 0 ns);refine aR (SS w.params) [("candidates",.list (ns.map λ(i:Nat)=> .int (i:Int))),("num_cand",nc)] rfl (λaa aa aa=>rfl) ?_
 ·intro V O';refine bM.imp (lC (m:=fS 0 ns) O' (λO e q=>ye O (fU _) hs (by rw[e];exact q)) (λq=>jq (fU _) (by simp;lia) (by simpa[hlen]using q)) (λaa ht=>cZ ht) ?_ Rg) ?_
  ·rintro l rfl;exact⟨ns,rfl,by lia,λi hi=>⟨hs i hi,λk h=>hk k h i hi⟩⟩
  ·rintro f st ⟨a,r,rfl,h1,rfl⟩;exact⟨_,h1,rfl⟩
theorem CJ{m:Nat}{nc:FV}(hk: ∀k,nc= .int k-> ∀x∈aB m,(x:Int)<k): ∀l:List FV,(∃r:List Nat,l=r.map (λ(i:Nat)=> .int (i:Int))/\acU r (aB m))-> ∃ns:List Nat,A3 (l=ns.map (λ(i:Nat)=>FV.int (i:Int))) (ns.length≤6) (∀i∈ns,i<6/\ ∀k,nc= .int k->(i:Int)<k):=by rintro l ⟨r,rfl,hr⟩;exact⟨r,rfl,by rw[hr.length_eq];exact cH m,λi hi=>⟨(dN.mp (hr.mem_iff.mp hi)).1,λk h=>hk k h i (hr.mem_iff.mp hi)⟩⟩
theorem u0:Spec prog w (KK w.params) TT 5 (.ref 30) [.aW (aq w) m] [] (· = .aW (aq w) m):=by
 refine eu (SS w.params) [("candidates",.aW (aq w) m),("num_cand",.none)] tr (λaa=>tr) ?_ ?_
 ·rintro s P vs ks ⟨x,_,rfl,hx,rfl⟩ rfl X;exact⟨_,aS X (b:=[("candidates",x),("num_cand",.none)]) λM=>rfl,.cons hx (.cons rfl .nil)⟩
 ·intro V O';refine bM.imp (lC (m:=m) O' (λ{c} aa aa O e q=>yf O (by rw[e];exact .f _ _) (by rw[e];exact q)) (λq=>kB (.f _ _) q) (λaa ht=>fL ht) (CJ λk h=>nomatch h) (.inl rfl)) ?_;rintro f st ⟨a,r,rfl,h1,rfl⟩;exact⟨_,h1,rfl⟩
theorem Be(Rg:nc= .none∨ ∃k:Int,nc= .int k)(hk: ∀k,nc= .int k-> ∀x∈aB m,(x:Int)<k):Spec prog w (KK w.params) TT 5 (.ref 30) [.aW (aq w) m] [("num_cand",nc)] (· = .aW (aq w) m):=by
 refine aR (SS w.params) [("candidates",.aW (aq w) m),("num_cand",nc)] rfl (λaa aa aa=>rfl) ?_
 ·intro V O';refine bM.imp (lC (m:=m) O' (λ{c} aa aa O e q=>yf O (by rw[e];exact .f _ _) (by rw[e];exact q)) (λq=>kB (.f _ _) q) (λaa ht=>fL ht) (CJ hk) Rg) ?_;rintro f st ⟨a,r,rfl,h1,rfl⟩;exact⟨_,h1,rfl⟩
end
section
variable{prog:d5}{w:fA}
theorem jv (hx:Spec prog w (KK w.params) TT 5 (.ref 30) [x] [] (· = .aW (aq w) m)):Spec prog w (KK w.params) TT 10 (.ref 37) [.list [x]] [] (· = .list [.aW (aq w) m]):=by
 refine aR (Zk w.params) [("committees",.list [x])] rfl (λaa aa aa=>rfl) ?_
 ·intro V O';have O:=O'.toOk;refine ah (aF (DV (n1:=1) (n2:=6) (n3:=7) (n4:=9) O' (by decide) (by decide) (by decide) (by decide) [] 36 32 (f:= .builtin "sorted") (fk:= .ref 45) (bi:=0) rfl tr rfl rfl rfl (XA _) (.tail _ (.head _)) rfl (af O 0 rfl ⟨.list [x],_,λaa=>some (.aW (aq w) m),[],cZ aN,.f _,.nil,?_⟩) rfl (by decide+kernel) rfl rfl (λaa aa aa=>rfl) (λaa=>rfl)));rintro l rfl;refine⟨⟨_,qo (n5:=5) (by decide) (by decide) (str_set m),?_⟩,λy hy g C code hg=>iH.of hg λQ6 Q7 Q8=>?_⟩
  ·rintro _ rfl;exact⟨_,.n _,rfl⟩
  ·have hy:y=x:=by simpa using hy
   subst hy;refine ig tr (λaa aa aa aa=>tr) λA' DK yc GX OO=>?_;exact qH ⟨_,rfl,ai OO.toOk (f:= .ref 30) rfl tr rfl rfl (af OO.toOk 0 rfl (aH OO hx (by decide) (.cons (.f _) .nil) .nil rfl (.n _)))⟩
end
noncomputable abbrev VT(led:Bool)(wt:Int)(m:Nat):FV:= .inst 736 [("weight",.int wt),("approved",.aW led m)]
section
variable{prog:d5}{w:fA}
theorem Ri (P:mA):iB (KK P) 736 718 jX (bodyOf jX) where
 makes:=tr
 init:=rfl
 fn:=rfl
 def_:=Va P
variable{V:Fx}
theorem rW (O' :bQ (b7 TT jX 718 (KK w.params) prog w V) 6)(hw:1≤wt)(hx:Spec prog w (KK w.params) TT 5 (.ref 30) [x] [("num_cand",nc)] (· = .aW (aq w) m)):
  bM (b7 TT jX 718 (KK w.params) prog w V) (bodyOf jX) ⟨[("self",.own 0),("approved",.f x),("weight",.f (.int wt)),("num_cand",.f nc)],[.inst 736 1,.attrs [] 0]⟩ (uw 736 (· =VT (aq w) wt m)):=by
 have O:=O'.toOk;refine ah (bI O (ai O (f:= .ref 30) rfl tr rfl rfl (af O 1 rfl (af O 3 rfl (aH O' hx (by decide) (.cons (.f _) .nil) (.cons (.f _) .nil) rfl (af O 0 rfl ⟨0,1,736,_,_,rfl,rfl,rfl,by decide,tr,tr,ah (bI O (af O 2 rfl (af O 0 rfl ⟨0,1,736,_,_,rfl,rfl,rfl,by decide,tr,tr,ah (aK (aE (aG O (af O 0 rfl ⟨736,_,.own rfl rfl (.head _),tr,rfl,aC (LH ⟨_,rfl,?_⟩)⟩))))⟩)))⟩))))));rw[show decide (wt≤0)=false by refine eV (decide_eq_false_iff_not ..) ?_;exact Int.not_le_of_gt hw];exact bB (aj (aj ⟨.inl rfl,_,_,_,rfl,rfl,.eY (.f _ rfl) (.eY (.n _) .Ai),rfl⟩))
theorem u5(hw:1≤wt)(hx:Spec prog w (KK w.params) TT 5 (.ref 30) [x] [("num_cand",.none)] (· = .aW (aq w) m)):Spec prog w (KK w.params) TT 7 (.ref 736) [x] [("weight",.int wt)] (· =VT (aq w) wt m):=by
 refine eL (Ri w.params) "self" [("approved",x),("weight",.int wt),("num_cand",.none)] tr (λaa=>tr) ?_ ?_
 ·rintro s P y vs ks ⟨a,_,rfl,ha,rfl⟩ ⟨b,_,rfl,⟨t,rfl⟩,rfl⟩ X;exact⟨_,aS X (b:=("self",y)::[("approved",a),("weight",.int wt t),("num_cand",.none)]) λM=>rfl,.cons ha (.cons ⟨t,rfl⟩ (.cons rfl .nil))⟩
 ·intro V O';exact rW O' hw hx
theorem Bf(hw:1≤wt)(hx:Spec prog w (KK w.params) TT 5 (.ref 30) [x] [("num_cand",nc)] (· = .aW (aq w) m)):Spec prog w (KK w.params) TT 7 (.ref 736) [x] [("weight",.int wt),("num_cand",nc)] (· =VT (aq w) wt m):=by
 refine eL (Ri w.params) "self" [("approved",x),("weight",.int wt),("num_cand",nc)] tr (λaa=>tr) ?_ ?_
 ·rintro s P y vs ks ⟨a,_,rfl,ha,rfl⟩ ⟨b,_,rfl,⟨t,rfl⟩,d,_,rfl,hd,rfl⟩ X;exact⟨_,aS X (b:=("self",y)::[("approved",a),("weight",.int wt t),("num_cand",d)]) λM=>rfl,.cons ha (.cons ⟨t,rfl⟩ (.cons hd .nil))⟩
 ·intro V O';exact rW O' hw hx
end
noncomputable abbrev PT(k:Nat)(vs:List FV):FV:= .inst 699 [("_voters",.list vs),("cand_names",.list ((ar k).map λaa=> .any)),("candidates",.list (gz 0 k))]
section
variable{prog:d5}{w:fA}{tt:List dq}
theorem u6 (k:Nat):(gz 0 k).length=k:=by simp[gz]
theorem kC(hk:k≤100):Spec prog w (KK w.params) tt 1 (.ref 597) [PT k vs] [] (· = .int k):=by
 refine aR (U6 w.params) [("self",PT k vs)] rfl (λaa aa aa=>rfl) ?_
 ·intro V O';have O:=O'.toOk;refine ah (aF (ai O (f:= .builtin "len") rfl tr rfl rfl (aG O (af O 0 rfl ⟨699,_,.f (.tail _ (.tail _ (.head _))),tr,rfl,jq (.f _) (by rw[ag];rw[u6];exact ae hk (by decide)) ⟨_,.f _ rfl,by rw[ag];rw[u6];rfl⟩⟩))))
theorem yg(hk:vs.length≤100):Spec prog w (KK w.params) tt 1 (.ref 612) [PT k vs] [] (· = .int vs.length):=by
 refine aR (U7 w.params) [("self",PT k vs)] rfl (λaa aa aa=>rfl) ?_
 ·intro V O';have O:=O'.toOk;refine ah (aF (ai O (f:= .builtin "len") rfl tr rfl rfl (aG O (af O 0 rfl ⟨699,_,.f (.head _),tr,rfl,jq (.f _) (by rw[ag];exact ae hk (by decide)) ⟨_,.f _ rfl,by rw[ag];rfl⟩⟩))))
theorem D3(hk:k≤100)(hw:1≤wt)(hm: ∀x∈aB m,x<k):Spec prog w (KK w.params) TT 9 (.ref 619) [PT k vs,VT (aq w) wt m] [] (· =VT (aq w) wt m):=by
 refine aR (U8 w.params) [("self",PT k vs),("voter",VT (aq w) wt m)] rfl (λaa aa aa=>rfl) ?_
 ·intro V O';have O:=O'.toOk;refine ah (aK (bF (ai O (f:= .builtin "isinstance") rfl tr rfl rfl (af O 1 rfl (bV O (v:= .ref 736) rfl (kZ O (b:=true) (.fi _ tr) rfl ⟨_,.b _,cB (ah (aJ O (ai O (f:= .ref 736) rfl tr rfl rfl (aG O (af O 1 rfl ⟨736,_,.f (.tail _ (.head _)),tr,rfl,aG O (af O 1 rfl ⟨736,_,.f (.head _),tr,rfl,nv O' (af O 0 rfl ⟨699,598,597,_,_,?_,tr,kC hk,by decide,.f _,?_⟩)⟩)⟩)))))⟩))))))
  ·exact .f _
  rintro _ rfl;refine⟨rfl,bh O' (Bf hw (Be (.inr ⟨k,rfl⟩) ?_)) (by decide) (.cons (.f _) .nil) (.cons (.f _) (.cons (.f _) .nil)) rfl ?_⟩
  ·rintro k' h x hx;cases h;have:=hm x hx;lia
  ·rintro _ rfl;exact⟨tr,aj (ah (aF (af O 2 rfl ⟨_,.n _,rfl⟩)))⟩
end
section
variable{c:Cx}{st:St}{T:List (a7×AV)}{s s' :a8}{m:Str->Option a7}{as dZ:List dq}{P N P' N' :dq->Prop}{bK:List AO}
theorem az.back (B:az c st T s m as P N)(K:Back c.w c.tt [] s.gens s s' as dZ P P' N' bK):az c ⟨st.loc,bK⟩ T s' m dZ (λa=>P a∨P' a) (λa=>N a∨N' a):=by
 have kP: ∀a o,P a->s.heap.get? a=some o->s'.heap.get? a=some o:=λa o p=>K.xu a o (B.pf a p).2.2 λz=>(B.fresh a z).2.2.1 p;have kN: ∀a o,N a->s.heap.get? a=some o->s'.heap.get? a=some o:=λa o p=>kP a o (B.nP a p);have k0: ∀a o o',c.h0.get? a=some o' ->s.heap.get? a=some o->s'.heap.get? a=some o:=λa o o' e=>K.xu a o (B.qf a o' e) λz=>by have:=(B.fresh a z).1;rw[e]at this;cases this
 have kc: ∀x a,c.env.cells.lookup x=some a->c.cw x=true-> ∀o,s.heap.get? a=some o->s'.heap.get? a=some o:=λx a e w o g=>K.xu a o (B.kU x a e w).2.2.2.2.2 (B.kU x a e w).2.2.2.2.1 g;have up: ∀{f:AV} {v:a7},dj s.heap P N as f v->dj s'.heap (λa=>P a∨P' a) (λa=>N a∨N' a) dZ f v:=λq=>q.mono kP (λaa x=> .inl x) kN (λaa x=> .inl x) K.pre;have pS: ∀a,s.heap.get? a=none->c.h0.get? a=none:=λa h=>by
  cases q:c.h0.get? a with
  |none=>rfl
  |some o=>have:=B.keep _ _ q;rw[h]at this;cases this
 have Rj: ∀a,(s.heap.get? a).isSome-> ¬N' a:=λa h q=>by rw[K.W0 a q]at h;exact absurd h (by decide)
 have Hf:(s.heap.get? c.env.locals).isSome:=by obtain⟨o,_,_,e,_⟩:=B.ns;rw[e];rfl
 have L3: ∀a,(s.heap.get? a).isSome-> ¬P a-> ¬P' a:=λa h p q=>(K.old a q).elim p (Rj a h);refine⟨B.ns.at' λo e=>K.xu _ o B.qg (λz=>(B.fresh _ z).2.1 rfl) e,λa o e=>k0 a o o e (B.keep a o e),⟨B.low.1,λa h=>K.tab a h (B.low.2 a h)⟩,?_,K.os.trans B.os,λe he=>?_,?_,K.nd,λa ha=>?_,λa ha=>?_,λa ha=>?_,B.qf,λa ha=>ha.imp (B.nP a) (K.nP a),λa ha=>ha.elim (B.new a) λh=>pS a (K.W0 a h),B.qg,λi a e=>K.pre i a (B.pre i a e),λx a e w=>?_,λp hp=>?_,B.bU,λp hp=>up (B.bw p hp)⟩
 ·obtain⟨tl,e,hb⟩:=B.gens;obtain⟨vO,e',gC⟩:=K.gens;refine⟨tl++vO,?_,λy hy=>(cp.mp hy).elim (hb y) (gC y)⟩;rw[e'];rw[e];rw[acx];simp
 ·obtain⟨v,x,y⟩:=B.loc e he;exact⟨v,x.mono k0 (kc _),up y⟩
 ·exact K.own.mono (λaa aa aa e=>e) (λaa x=> .inr x) (λaa aa aa e=>e) (λaa x=> .inr x) (λaa aa x=>x) λaa aa aa e=>e
 ·rcases K.MX a ha with h|h
  ·have f:=B.fresh a h;exact⟨f.1,f.2.1,λq=>q.elim f.2.2.1 (K.Ak a ha),f.2.2.2⟩
  ·refine⟨pS a h.1,λq=>?_,λq=>q.elim (λq=>?_) (K.Ak a ha),h.2⟩
   ·rw[<-q,h.1]at Hf;exact absurd Hf (by decide)
   ·have:=(B.pf a q).2.1;rw[h.1]at this;exact absurd this (by decide)
 ·rcases ha with ha|ha
  ·obtain⟨o,e⟩:=cx.mp (B.pf a ha).2.1;exact⟨(B.pf a ha).1,by rw[kP a o ha e];rfl,(B.pf a ha).2.2⟩
  ·refine⟨?_,K.pf a ha⟩;rcases K.old a ha with h|h
   ·exact(B.pf a h).1
   ·intro q;exact Rj _ Hf (q▸h)
 ·rcases ha with ha|ha
  ·exact(B.old a ha).imp id .inl
  ·rcases K.old a ha with h|h
   ·exact(B.old a h).imp id .inl
   ·exact .inr (.inr h)
 ·obtain⟨⟨v,o,g,d⟩,r⟩:=B.kU x a e w;have hs:(s.heap.get? a).isSome:=by rw[g];rfl
  refine⟨⟨v,o,kc x a e w o g,d⟩,r.1,r.2.1,λq=>q.elim r.2.2.1 (L3 a hs r.2.2.1),λq=>?_,r.2.2.2.2⟩;rcases K.MX a q with h|h
  ·exact r.2.2.2.1 h
  ·rw[h.1]at hs;exact absurd hs (by decide)
 ·obtain⟨g,r⟩:=B.aV p hp;have hs:(s.heap.get? p.1).isSome:=by rw[g];rfl
  refine⟨K.xu p.1 p.2 r.2.2.2.2.1 r.2.2.2.1 g,r.1,r.2.1,λq=>q.elim r.2.2.1 (L3 _ hs r.2.2.1),λq=>?_,r.2.2.2.2⟩;rcases K.MX _ q with h|h
  ·exact r.2.2.2.1 h
  ·rw[h.1]at hs;exact absurd hs (by decide)
end
noncomputable def AV.settle:AV->AV
 | .n x=> .f x
 |a=>a
noncomputable def AO.settle:AO->AO
 | .list l=> .list (l.map AV.settle)
 | .tuple l=> .tuple (l.map AV.settle)
 | .dict l=> .dict (l.map λp=>(p.1,p.2.settle))
 | .aW b n=> .aW b n
 | .inst C j=> .inst C j
 | .attrs l n=> .attrs (l.map λp=>(p.1,p.2.settle)) n
section
variable{w:fA}{h:wq}{P N:dq->Prop}{as:List dq}
theorem dj.settle (hn: ∀a,N a->P a): ∀{a:AV} {v:a7},dj h P N as a v->dj h P (λaa=>False) as a.settle v:=by
 intro lz;cases lz with
 |f _=>intro _ H;exact H
 |n _=>intro _ H;exact VR.mono (λaa aa aa e=>e) (λa q=>hn a q) H
 |own _=>intro _ H;exact H
theorem bu.settle(hn: ∀a,N a->P a): ∀{l:List AV} {vs:List a7},bu h P N as l vs->bu h P (λaa=>False) as (l.map AV.settle) vs:=by
 intro lz;induction lz with
 |nil=>intro _ H;exact H
 |cons _ _ ih=>intro _ bA;obtain⟨v,r,e,a,b⟩:=bA;exact⟨v,r,e,a.settle hn,ih b⟩
theorem jQ.settle(hn: ∀a,N a->P a): ∀{l:List (FV×AV)} {vs:List Ki},jQ w h P N as l vs->jQ w h P (λaa=>False) as (l.map λp=>(p.1,p.2.settle)) vs:=by
 intro lz;induction lz with
 |nil=>intro _ H;exact H
 |cons mE _ ih=>intro _ bA;obtain⟨_,_⟩:=mE;obtain⟨v,r,e,x,a,b⟩:=bA;exact⟨v,r,e,x,a.settle hn,ih b⟩
theorem iR.settle(hn: ∀a,N a->P a): ∀{l:List (Str×AV)} {m:Str->Option a7},iR h P N as l m->iR h P (λaa=>False) as (l.map λp=>(p.1,p.2.settle)) m:=by
 intro lz;induction lz with
 |nil=>intro _ H;exact H
 |cons mE _ ih=>intro _ bA;obtain⟨_,_⟩:=mE;obtain⟨⟨v,e,a⟩,b⟩:=bA;exact⟨⟨v,e,a.settle hn⟩,ih b⟩
theorem OR.settle(hn: ∀a,N a->P a): ∀{o:AO} {a:dq},OR w h P N as o a->OR w h P (λaa=>False) as o.settle a:=by
 intro lz;cases lz with
 |list _=>intro _ bA;obtain⟨vs,n,g,r⟩:=bA;exact⟨vs,n,g,r.settle hn⟩
 |tuple _=>intro _ bA;obtain⟨vs,n,g,r⟩:=bA;exact⟨vs,n,g,r.settle hn⟩
 |dict _=>intro _ bA;obtain⟨vs,n,g,r⟩:=bA;exact⟨vs,n,g,r.settle hn⟩
 |aW _ _=>intro _ H;exact H
 |inst _ _=>intro _ H;exact H
 |attrs l n=>intro _ bA;obtain⟨m,g,r,e⟩:=bA;exact⟨m,g,r.settle hn,λk hk=>e k (by simpa[dT]using hk)⟩
theorem jT.settle(hn: ∀a,N a->P a): ∀{l:List AO} {bs:List dq},jT w h P N as l bs->jT w h P (λaa=>False) as (l.map AO.settle) bs:=by
 intro lz;induction lz with
 |nil=>intro _ H;exact H
 |cons _ _ ih=>intro _ bA;obtain⟨b,r,e,a,q⟩:=bA;exact⟨b,r,e,a.settle hn,ih q⟩
end
section
variable{prog:d5}{w:fA}{K:abE}{tt:List dq}
theorem l8 {names:List Str}{vs:List a7}(hl:vs.length=names.length):((names.zip vs).map (·.1))=names:=by rewrite [agg];rfl;exact km (adR hl)
theorem rX{h:wq}{P N:dq->Prop}{as:List dq}: ∀{names:List Str} {qp:List AV} {vs:List a7},names.length=qp.length->bu h P N as qp vs-> ∀e∈names.zip qp,∃v,(e.1,v)∈names.zip vs/\dj h P N as e.2 v
 | [],_,_,_,_,e,he=>by simp at he
 |_::_,[],_,hl,_,_,_=>by simp at hl
 |x::names,a::qp,_,hl,⟨v,r,eq,q,y⟩,e,he=>by
  subst eq;rcases a5.mp he with rfl|he
  ·exact⟨v,.head _,q⟩
  ·obtain⟨u,h1,h2⟩:=rX (by simpa using hl) y e he;exact⟨u,.tail _ h1,h2⟩
end
section
variable{c:Cx}{st:St}
theorem az.apart (B:az c st T s m as P N)(O:Ok c)(ha:a∈as):a∉c.tt/\ ¬P a/\c.K.lookup a=none/\a≠aaj/\(s.heap.get? a).isSome:=by
 obtain⟨h1,h2,h3,h4⟩:=B.fresh a ha;refine⟨h4,h3,?_,λq=>?_,B.GY ha⟩
 ·cases q:c.K.lookup a with
  |none=>rfl
  |some o=>have:=O.cO _ _ q;rw[h1]at this;exact(cu rfl this).elim
 ·obtain⟨mc,⟨o,_,_,e',_⟩,_⟩:=O.lim;rw[<-q,h1]at e';exact(cu rfl e').elim
theorem KC(O:bQ c n)(D:bx c.K f fd body)(dd:List Str)(hn:decide (names++dd).Nodup=true)(jl: ∀L,((names++dd).all λx=>f7 fd L x)=true)(hlen:names.length=qp.length)
  (hb: ∀(s:a8) (vs:List a7),vs.length=qp.length->c.K.In s.heap->ac8 s fd ⟨vs,[]⟩ (names.zip vs++dd.map λx=>(x,.none)))(Nv:n' +2≤n)
  (h: ∀V,bQ (b7 c.tt fd f c.K c.prog c.w V) n' ->bM (b7 c.tt fd f c.K c.prog c.w V) body ⟨names.zip (qp.map AV.settle)++dd.map (λx=>(x,.f .none)),st.own.map AO.settle⟩ (MW R))
  (hq: ∀a bK,R a bK->Q a ⟨st.loc,bK⟩):aZ c (.ref f) qp [] [] st Q:=λT vs us s hl gu S=>by
 cases len0 gu;have G:=S.good (n' :=n' +1) O O.hh (cb c.A.depth 3) (cb c.A.units 39) Nv;have S0:=S;obtain⟨m,as,P,N,B⟩:=S;have EU:bu s.heap P N as qp vs:=bu.mO hl λp hp=>B.bw p (ba _ (bp _ hp));have bf:((names.zip vs++dd.map λx=>(x,tI)).map (·.1))=names++dd:=by rw[ew];rw[l8 (hl.trans hlen.symm)];rw[dT];rw[show((·.1)∘λx:Str=>(x,tI))=id from rfl];rw[aeN];rfl
 refine abt (qY (own:=st.own.map AO.settle) (loc:=names.zip (qp.map AV.settle)++dd.map λx=>(x,.f .none)) D (G.deep G.hh (me _) (me _) (λaa aa e=>e) (cq _)) (hb s vs hl (S0.cO O.toOk)) (bf▸of_decide_eq_true hn) (λx hx=>?_) (λe he=>?_) (B.own.settle B.nP) B.nd (λa ha=>B.apart O.toOk ha) (λa ha=>⟨(B.pf a ha).2.1,(B.pf a ha).2.2⟩) h λv s' dZ P' N' a bK hr K hv=>?_)
 ·have:x.1∈names++dd:=bf▸eD (f:=(·.1)) hx;exact d6.mp (jl _) _ this
 ·rcases cp.mp he with he|he
  ·obtain⟨v,hm,r⟩:=rX (by rw[ag];exact hlen) (EU.settle B.nP) e he;exact⟨v,bp _ hm,r⟩
  ·obtain⟨x,hx,e⟩:=bb.mp he;refine bS (e ..) ?_;exact⟨.none,ba _ (eD hx),rfl⟩
 ·have B' :=B.back K;exact⟨a,⟨st.loc,bK⟩,⟨m,dZ,_,_,(B'.less λp hp=>ba _ (ba _ hp)).push (hv.mono (λaa aa aa e=>e) (λaa x=> .inr x) (λaa aa aa e=>e) (λaa x=> .inr x) λaa aa x=>x)⟩,hq a bK hr⟩
end
section
variable{c:Cx}{st:St}
theorem tY (O:bQ c n)(D:iB c.K C f fd body)(dd:List Str)(hn:decide ((self::names)++dd).Nodup=true)(jl: ∀L,(((self::names)++dd).all λx=>f7 fd L x)=true)(hlen:names.length=qp.length)
  (hb: ∀(s:a8) (x:a7) (vs:List a7),vs.length=qp.length->c.K.In s.heap->ac8 s fd ⟨x::vs,[]⟩ ((self::names).zip (x::vs)++dd.map λx=>(x,.none)))(Nv:n' +2≤n)
  (h: ∀V,bQ (b7 c.tt fd f c.K c.prog c.w V) n' ->bM (b7 c.tt fd f c.K c.prog c.w V) body ⟨(self,.own st.own.length)::(names.zip (qp.map AV.settle)++dd.map λx=>(x,.f .none)),st.own.map AO.settle++[.inst C (st.own.length+1),.attrs [] 0]⟩ (FA R))
  (hq: ∀bK,R bK->Q (.own st.own.length) ⟨st.loc,bK⟩):aZ c (.ref C) qp [] [] st Q:=λT vs us s hl gu S=>by
 cases len0 gu;have G:=S.good (n' :=n' +1) O O.hh (cb c.A.depth 3) (cb c.A.units 39) Nv;have cO:=S.cO O.toOk;obtain⟨m,as,P,N,B⟩:=S;have EU:bu s.heap P N as qp vs:=bu.mO hl λp hp=>B.bw p (ba _ (bp _ hp));have O8:as.length=st.own.length:=B.own.length;have up: ∀(i:Nat) (a:dq),as[i]?=some a->(as++two s)[i]?=some a:=λi a e=>by rw[aax (ed.mp e).1];exact e
 have g0:(as++two s)[st.own.length]?=some (s.heap.objs.size+1):=by refine bS (O8 ..) ?_;rw[D2 (cq _)];rw[abG];rfl
 have VE:bu (made s C).heap P (λaa=>False) (as++two s) (qp.map AV.settle) vs:=(EU.settle B.nP).mono (λa o aa e=>cS e) (λaa x=>x) (λaa aa x=>x.elim) (λaa x=>x) up;have bf:(((self::names).zip (.ref (s.heap.objs.size+1)::vs)++dd.map λx=>(x,tI)).map (·.1))=(self::names)++dd:=by rw[ew];rw[l8 (congrArg (· +1) (hl.trans hlen.symm))];rw[dT];rw[show((·.1)∘λx:Str=>(x,tI))=id from rfl];rw[aeN];rfl
 have L4:(st.own.map AO.settle).length=st.own.length:=ag ..;rw[<-L4]at h g0;refine abt (uy (own:=st.own.map AO.settle) (R:=R) D G (hb (made s C) _ vs hl (cO.keeps λaa aa e=>cS e)) (bf▸of_decide_eq_true hn) (λx hx L=>?_) (λe he=>?_) (B.own.settle B.nP) B.nd (λa ha=>B.apart O.toOk ha) (λa ha=>⟨(B.pf a ha).2.1,(B.pf a ha).2.2⟩) h λs' dZ P' N' bK hr K h0=>?_)
 ·have:x.1∈(self::names)++dd:=bf▸eD (f:=(·.1)) hx;exact d6.mp (jl L) _ this
 ·rcases a5.mp he with e|he
  ·rw[e];exact⟨_,.head _,_,g0,rfl⟩
  rcases cp.mp he with he|he
  ·obtain⟨v,hm,r⟩:=rX (by rw[ag];exact hlen) VE e he;exact⟨v,.tail _ (bp _ hm),r⟩
  ·obtain⟨x,hx,e⟩:=bb.mp he;refine bS (e ..) ?_;exact⟨.none,.tail _ (ba _ (eD hx)),rfl⟩
 ·have B' :=B.back K;rw[L4]at h0;exact⟨.own st.own.length,⟨st.loc,bK⟩,⟨m,dZ,_,_,(B'.less λp hp=>ba _ (ba _ hp)).push ⟨_,h0,rfl⟩⟩,hq bK hr⟩
end
noncomputable abbrev PO(k:Nat)(vs:List FV):List AO:=[.inst 699 1,.attrs [("_voters",.own 2),("cand_names",.f (.list ((ar k).map λaa=> .any))),("candidates",.f (.list (gz 0 k)))] 3,.list (vs.map AV.f)]
section
variable{c:Cx}{st:St}
theorem KD: ∀vs:List FV,fD own (vs.map AV.f) vs:=by
 intro lz;induction lz with
 |nil=>exact .nil
 |cons x vs ih=>exact .cons (.f x) (ih)
theorem yh(O:bQ c n)(hK:c.K=KK c.w.params)(hn:12≤n)(h0:st.own=[])(hk:1≤k)(EP:k≤100)(h: ∀bK,bK.map AO.settle=PO k []->Q (.own 0) ⟨st.loc,bK⟩):aZ c (.ref 699) [.f (.int k)] [] [] st Q:=by
 have jS:Q (.own st.own.length) ⟨st.loc,[.inst 699 1,.attrs [("_voters",.own 2),("cand_names",.n (.list ((ar k).map λaa=> .any))),("candidates",.n (.list (gz 0 k)))] 3,.list []]⟩:=by rw[h0];exact h _ rfl
 refine tY (n' :=10) (self:="self") (names:=["num_cand"]) (R:=λo=>o=[.inst 699 1,.attrs [("_voters",.own 2),("cand_names",.n (.list ((ar k).map λaa=> .any))),("candidates",.n (.list (gz 0 k)))] 3,.list []]) O (hK▸Vg c.w.params) ["cand_names"] tr (λaa=>rfl) rfl ?_ hn ?_ (λbK e=>e▸jS)
 ·rintro s x vs hl X;obtain⟨v,rfl⟩:=JE hl;rw[hK]at X;exact aS X (b:=[("self",x),("num_cand",v),("cand_names",.none)]) λM=>rfl
 ·intro V O';rw[h0];rw[hK]at O' ⊢;exact wh k hk EP O' λl=>⟨.inl rfl,rfl⟩
theorem CK(O:bQ c n)(hK:c.K=KK c.w.params)(ht:c.tt=TT)(hn:12≤n)(h0:st.own.map AO.settle=PO k vs)(ha:a.settle= .f (VT (aq c.w) wt m))(hk:k≤100)(hw:1≤wt)(hm: ∀x∈aB m,x<k)(hv:vs.length≤100)
  (h: ∀bK,bK.map AO.settle=PO k (vs++[VT (aq c.w) wt m])->Q (.f .none) ⟨st.loc,bK⟩):aZ c (.ref 626) [.own 0,a] [] [] st Q:=by
 refine KC (n' :=10) (names:=["self","voter"]) (R:=λa bK=>a= .f .none/\bK.map AO.settle=PO k (vs++[VT (aq c.w) wt m])) O (hK▸U9 c.w.params) [] tr (λaa=>rfl) rfl ?_ hn ?_ ?_
 ·rintro s vs hl X;obtain⟨x,y,rfl⟩:=E1 hl;rw[hK]at X;exact aS X (b:=[("self",x),("voter",y)]) λM=>rfl
 ·intro V O';rw[h0];rw[hK,ht]at O' ⊢;have O:=O'.toOk;rw[show([AV.own 0,a].map AV.settle)=[.own 0,.f (VT (aq c.w) wt m)] by show [(AV.own 0).settle,a.settle]=_;rw[ha];rfl];refine ah (dR O (iT O rfl (aG O (af O 0 rfl ⟨699,_,.own rfl rfl (.head _),tr,rfl,2,vs.map AV.f,rfl,rfl,dW (he:=b9 rfl rfl (by decide) tr λaa=>rfl) O rfl rfl (af O 0 rfl ⟨699,619,.own rfl rfl tr,tr,af O 1 rfl (aH O' (D3 (vs:=vs) hk hw hm) (by decide) (.cons (.inst rfl rfl (.eY (.list rfl (KD vs)) (.eY (.f _) (.eY (.f _) .Ai)))) (.cons (.f _) .nil)) .nil rfl ⟨vs.map AV.f,rfl,by rw[ag];exact ae hv (by decide),aj ⟨rfl,?_⟩⟩)⟩)⟩))));refine congrArg (λl=>(PO k []).set 2 (AO.list l)) (?_:(vs.map AV.f++[_]).map AV.settle=(vs++[_]).map AV.f);rw[ew];rw[ew];rw[dT];rfl
 ·rintro a bK ⟨rfl,e⟩;exact h bK e
end
section
theorem VF(P:mA):E3 λod sl oc=>(KK P).lookup 668=some ⟨oc,od,.func vN,sl⟩:=⟨none,#[],.type "function",rfl⟩
theorem Hg:E7 λfp ap ip px p2 fK pos=>vN.body= .stmts [.For (.Name "voter" px) (.Attribute (.Name "self" ap) "_voters" ip) [.Expr (.Yield (some (.Name "voter" p2)) fK) pos] [] fp]:=⟨_,_,_,_,_,_,_,rfl⟩
theorem u7(P:mA):E7 λfp ap ip px p2 fK pos=>wu (KK P) 699 668 vN "_voters" "self" "voter" fp ap ip px p2 fK pos:=by
 obtain⟨fp,ap,ip,px,p2,fK,pos,hb⟩:=Hg;refine⟨fp,ap,ip,px,p2,fK,pos,?_⟩;exact{
  body:=hb
  fn:=rfl
  QU:=tr
  at_:=VF P
  code:=tr
  co:=rfl
  gen:=tr
  kind:=rfl
  PK:=rfl
  cells:=tr
  hx:=rfl
  uS:=rfl
  dx:=rfl
  LV:=rfl
  inter:=λaa=>rfl
  bind:=λaa aa=>rfl
  LW:=tr
  Xo:=λaa=>rfl
  Xp:=λaa aa=>rfl}
variable{prog:d5}{w:fA}
theorem rY (ht:plainT tgt)(hn:1≤n):Source prog w (KK w.params) TT n (PT k vs) (· =vs) tgt:=by obtain⟨_,_,_,_,_,_,_,D⟩:=u7 w.params;exact xV ht D (.head _) hn
end
inductive dc:AV->Rat->Prop
 |f (q:Rat):dc (.f (FR q)) q
 |n (q:Rat):dc (.n (FR q)) q
theorem dc.inst(h:dc a q):d9 own 189 a:=by
 cases h
 ·exact .f _
 ·exact .n _
theorem dc.snap(h:dc a q):Snap own a (FR q):=by
 cases h
 ·exact .f _
 ·exact .n _
section
variable{c:Cx}{st:St}
theorem pq (O:bQ c n)(hK:c.K=KK c.w.params)(hn:4≤n)(ha:dc a q)(hq:Sm q)(h:Q (.n (FR (q*i))) st):
  Op c [.f (.int i),a] (λvs=>match vs with| [y,x]=>FX .Mult x y|_=> .raise .none) st Q:=by
 refine Cm (C:=189) (f:=130) (n' :=3) (rc:=some (.ref 137)) (fo:=some (.builtin "int.__mul__")) (ro:=some (.builtin "int.__rmul__")) O ha.inst (by rw[hK];kernel_rfl) (by rw[hK];kernel_rfl) (by rw[hK];kernel_rfl) (by rw[hK];kernel_rfl) (.inr ⟨_,rfl⟩) (by rw[hK];kernel_rfl) (by rw[hK];kernel_rfl) (by rw[hK];kernel_rfl) (hK▸DM q i hq) hn (.cons ha.snap (.cons (.f _) .nil)) ?_;rintro _ rfl;exact⟨rfl,h⟩
theorem pA(O:bQ c n)(hK:c.K=KK c.w.params)(hn:4≤n)(ha:dc a q)(hq:Sm q)(hi:i.natAbs<2^64)(h:Q (.n (FR (q+i))) st):
  Op c [.f (.int i),a] (λvs=>match vs with| [y,x]=>FX .Add x y|_=> .raise .none) st Q:=by
 refine Cm (C:=189) (f:=102) (n' :=3) (rc:=some (.ref 109)) (fo:=some (.builtin "int.__add__")) (ro:=some (.builtin "int.__radd__")) O ha.inst (by rw[hK];kernel_rfl) (by rw[hK];kernel_rfl) (by rw[hK];kernel_rfl) (by rw[hK];kernel_rfl) (.inr ⟨_,rfl⟩) (by rw[hK];kernel_rfl) (by rw[hK];kernel_rfl) (by rw[hK];kernel_rfl) (hK▸DN q i hq hi) hn (.cons ha.snap (.cons (.f _) .nil)) ?_;rintro _ rfl;exact⟨rfl,h⟩
theorem u9(O:bQ c n)(hK:c.K=KK c.w.params)(hn:4≤n)(ha:dc a q)(hb:dc b r)(hq:Sm q)(hr:Sm r)(h:Q (.n (FR (q+r))) st):
  Op c [b,a] (λvs=>match vs with| [y,x]=>afa .Add x y|_=> .raise .none) st Q:=by
 refine As (op:= .Add) (C:=189) (f:=102) (n' :=3) O ha.inst hb.inst (by rw[hK];kernel_rfl) (by rw[hK];kernel_rfl) (by rw[hK];kernel_rfl) (by rw[hK];kernel_rfl) (hK▸xQ q r hq hr) hn (.cons ha.snap (.cons hb.snap .nil)) ?_;rintro _ rfl;exact⟨rfl,h⟩
theorem Hh(O:bQ c n)(hK:c.K=KK c.w.params)(hn:4≤n)(ha:dc a q)(hb:dc b r)(hq:Sm q)(hr:Sm r)(h:Q (.n (FR (q+r))) st):
  Op c [b,a] (λvs=>match vs with| [y,x]=>FX .Add x y|_=> .raise .none) st Q:=by
 refine M5 (op:= .Add) (C:=189) (f:=102) (n' :=3) O ha.inst hb.inst (by rw[hK];kernel_rfl) (by rw[hK];kernel_rfl) (by rw[hK];kernel_rfl) (hK▸xQ q r hq hr) hn (.cons ha.snap (.cons hb.snap .nil)) ?_;rintro _ rfl;exact⟨rfl,h⟩
theorem wI(O:bQ c n)(hK:c.K=KK c.w.params)(hn:2≤n)(ha:dc a q)(hb:dc b r)(h:Q (.f (.bool (decide (q=r)))) st):
  Op c [b,a] (λvs=>match vs with| [y,x]=>md .Eq x y|_=> .raise .none) st Q:=by
 refine Ar (op:= .Eq) (C:=189) (f:=158) (n' :=1) O ha.inst hb.inst (by rw[hK];kernel_rfl) (by rw[hK];kernel_rfl) (hK▸Ke q r) hn (.cons ha.snap (.cons hb.snap .nil)) ?_ (λaa aa=>rfl);rintro _ rfl;exact⟨rfl,h⟩
end
section
variable{c:Cx}{st:St}
theorem KG (O:bQ c n)(hK:c.K=KK c.w.params)(hn:4≤n)(ha:dc a q)(hb:dc b r)(hq:Sm q)(hr:Sm r)(h:Q (.f (.bool (decide (r<q)))) st):
  Op c [b,a] (λvs=>match vs with| [y,x]=>md .Gt x y|_=> .raise .none) st Q:=by
 refine Ar (op:= .Gt) (C:=189) (f:=179) (n' :=1) O ha.inst hb.inst (by rw[hK];kernel_rfl) (by rw[hK];kernel_rfl) (hK▸Kg q r hq hr) (xk (ec hn)) (.cons ha.snap (.cons hb.snap .nil)) ?_ (λaa aa=>rfl);rintro _ rfl;exact⟨rfl,h⟩
theorem KH(O:bQ c n)(hK:c.K=KK c.w.params)(hn:4≤n)(ha:dc a q)(hb:dc b r)(hq:Sm q)(hr:Sm r)(h:Q (.f (.bool (decide (q<r)))) st):
  Op c [b,a] (λvs=>match vs with| [y,x]=>md .Lt x y|_=> .raise .none) st Q:=by
 refine Ar (op:= .Lt) (C:=189) (f:=165) (n' :=1) O ha.inst hb.inst (by rw[hK];kernel_rfl) (by rw[hK];kernel_rfl) (hK▸Kf q r hq hr) (xk (ec hn)) (.cons ha.snap (.cons hb.snap .nil)) ?_ (λaa aa=>rfl);rintro _ rfl;exact⟨rfl,h⟩
end
noncomputable abbrev fN(led:Bool)(l:List (Int×Nat)):List FV:=l.map λv=>VT led v.1 v.2
noncomputable def eG(g:Nat->Rat)(cm:Nat)(l:List (Int×Nat))(i:Nat):Rat:=l.foldl (λq v=>if v.2.testBit i then q+g (aB (cm&&&v.2)).length*v.1 else q) 0
theorem D4:eG g cm (l++[v]) i=if v.2.testBit i then eG g cm l i+g (aB (cm&&&v.2)).length*v.1 else eG g cm l i:=by unfold eG;rw[abx];rfl
noncomputable abbrev n6(k:Nat)(q:Nat->Rat):List AV:=(ar k).map λi=> .n (FR (q i))
noncomputable abbrev yi(k:Nat)(q:Nat->Rat):List FV:=(ar k).map λi=>FR (q i)
theorem jw:(n6 k q).length=k:=by simp
theorem wJ(h:i<k):(n6 k q)[i]?=some (.n (FR (q i))):=by simp[h]
theorem qI:(n6 k q).set i (.n (FR r))=n6 k λj=>if j=i then r else q j:=by
 apply abz;intro j;rw[afO]
 by_cases h:i=j
 ·subst h
  by_cases hk:i<k
  ·simp[hk]
  ·simp[hk]
 ·have h' : ¬j=i:=λe=>h e.symm
  by_cases hk:j<k
  ·simp[h,h',hk]
  ·simp[h,hk]
theorem lE(h: ∀i<k,q i=r i):n6 k q=n6 k r:=i5 λi hi=>by rw[h i (a9.mp hi)];rfl
theorem yj{q:Nat->Rat}: ∀l:List Nat,j0 own (l.map λi=>AV.n (FR (q i))) (l.map λi=>FR (q i)):=by
 intro lz;induction lz with
 |nil=>exact .nil
 |cons i l ih=>exact .cons (.n _) (ih)
structure gj(g:Nat->Rat)(cm:Nat)(vs:List (Int×Nat))(k:Nat):Prop where
 k6:k≤6
 bits: ∀v∈vs,∀x∈aB v.2,x<k
 sm: ∀j≤vs.length,∀i<k,Sm (eG g cm (vs.take j) i)
 g1: ∀n≤6,Sm (g n)
 gw: ∀n≤6,∀v∈vs,Sm (g n*v.1)
theorem bits_le(m:Nat):(aB m).length≤6:=cH m
noncomputable def addQ(g:Nat->Rat)(vs:List (Int×Nat))(dg:List Nat)(i:Nat):Rat:=if i∈dg then-1 else eG g (fS 0 dg) vs i
section
variable{c:Cx}{st:St}
inductive L5 (c:Cx)(x:Str)(body:List aa4)(Q:Fl->St->Prop)(l:List FV)(bl:St):Prop
 |mk {α X:Type} (cX:α->FV) (xs:List α) (e:l=xs.map cX) (D:Lp (List α) X) (y0:X) (h2:D.P [] y0) (h3:bl=⟨D.L [] y0,D.W [] y0⟩) (hn: ∀p y,noName (D.L p y) x=true)
  (turn: ∀p b r,xs=p++b::r->D.Turn c x body p (p++[b]) (.f (cX b))) (q: ∀y,D.P xs y->Q .next ⟨D.L xs y,D.W xs y⟩)
theorem Hi{X:Type}{x:Str}{body:List aa4}{Q:Fl->St->Prop}{k:Nat}{l:List FV}{bl:St}(e:l=gz 0 k)(D:Lp Nat X)(y0:X)(h2:D.P 0 y0)(h3:bl=⟨D.L 0 y0,D.W 0 y0⟩)(hn: ∀p y,noName (D.L p y) x=true)
  (turn: ∀i,i<k->D.Turn c x body i (i+1) (.f (.int (i:Nat))))(q: ∀y,D.P k y->Q .next ⟨D.L k y,D.W k y⟩):L5 c x body Q l bl:=by
 refine⟨_,ar k,e.trans (k8 k),⟨λp=>D.L p.length,λp=>D.W p.length,λp=>D.P p.length⟩,y0,h2,h3,λp y=>hn _ y,λp b r e=>?_,λy hp=>?_⟩
 ·obtain⟨hb,hk⟩:=k9 e;rw[hb];intro y R H G hp hR;refine turn p.length hk y R H G hp λy' tl o6=>?_;have:=hR y' tl;dsimp only at this;rw[dy]at this;exact this o6
 ·dsimp only at hp⊢;rw[cf]at hp⊢;exact q y hp
inductive Rk(c:Cx)(n1:Nat)(x:Str)(px:Pos)(body:List aa4)(Q:Fl->St->Prop)(a:AV)(bl:St):Prop
 |mk (x0:FV) (Ls:List FV->Prop) (h0:a= .f x0∨a= .n x0) (h1:qF lB c.prog c.w c.K c.tt n1 x0 Ls (.Name x px)) (q: ∀l,Ls l->L5 c x body Q l bl)
theorem L6{α X:Type}{x:Str}{px:Pos}{body:List aa4}{cX:α->FV}{xs:List α}{D:Lp (List α) X}(O:Ok c)(hn: ∀p y,noName (D.L p y) x=true)(turn: ∀p b r,xs=p++b::r->D.Turn c x body p (p++[b]) (.f (cX b)))(hx:storeOk c x=true):G7 c (.Name x px) body (DE cX xs D):=λb r bD H G hI=>by
 obtain⟨p,s,y,e1,e2,hp,e3⟩:=hI;cases s with
 |nil=>cases e2
 |cons b0 s=>obtain⟨eb,er⟩:=List.cons.inj e2;rw[e3];rw[eb];exact uY O ⟨_,aU (hn p y),v8 (turn p b0 s e1 y _ H G hp λy' tl o6=>⟨_,λe he=>bp tl he,.inl rfl,p++[b0],s,y',by rw[hJ];exact e1,er,o6,rfl⟩)⟩ hx
theorem DE.last{α β X:Type}{cX:α->β}{xs:List α}{D:Lp (List α) X}(h:DE cX xs D [] st): ∃y,D.P xs y/\st=⟨D.L xs y,D.W xs y⟩:=by
 obtain⟨p,s,y,e1,e2,hp,e3⟩:=h;cases s with
 |nil=>rw[fw]at e1;rw[e1];exact⟨y,hp,e3⟩
 |cons _ _=>cases e2
theorem ff(O:bQ c n)(oK:n1+1≤n)(h:Ev c iter st (Rk c n1 x px body Q))(hx:storeOk c x=true:=by kernel_rfl)
  (hs: ∀y,il iter c.env y=pure y:=by intro _;rfl):Ex c (.For (.Name x px) iter body [] pos) st Q:=
 CH O oK (hs:=hs) (h.mono λa bl z=>by obtain⟨x0,Ls,h0,h1,q⟩:=z;refine⟨x0,Ls,h0,h1,λl hl=>?_⟩;obtain⟨cX,xs,e,D,y0,h2,h3,hn,turn,q⟩:=q l hl;exact⟨DE cX xs D,⟨[],xs,y0,rfl,e,h2,h3⟩,L6 O.toOk hn turn hx,λbD hI=>by obtain⟨y,hp,e⟩:=hI.last;exact e▸q y hp⟩)
end
section
variable{prog:d5}{w:fA}
theorem CL (k:Nat)(q:Rat):js k (AV.n (FR q))=n6 k λaa=>q:=by
 apply abz;intro i
 by_cases h:i<k<;>simp[h]
noncomputable def bump(q:Nat->Rat)(d:Rat)(pre:List Nat)(i:Nat):Rat:=if i∈pre then q i+d else q i
theorem Hj(h:i∉pre):bump q d pre i=q i:=if_neg h
theorem CM(h:i∉pre)(s:Sm (q i)):Sm (bump q d pre i):=by rw[Hj h];exact s
theorem vc(h:i∉pre):(n6 k (bump q d pre)).set i (.n (FR (bump q d pre i+d)))=n6 k (bump q d (pre++[i])):=qI.trans (lE λj aa=>by
 unfold bump
 by_cases e:j=i
 ·subst e;simp[h]
 ·simp[e])
theorem yk(hk:k≤6)(hp:r.Perm (aB v.2)):n6 k (bump (eG g cm p) (g (aB (cm&&&v.2)).length*v.1) r)=n6 k (eG g cm (p++[v])):=lE λj hj=>by
 have hm:j∈r↔v.2.testBit j=true:=hp.mem_iff.trans (dN.trans ⟨λh=>h.2,λh=>⟨a0 hj hk,h⟩⟩);rw[D4]
 by_cases e:v.2.testBit j=true
 ·rw[if_pos e];exact if_pos (hm.mpr e)
 ·rw[if_neg e];exact if_neg λz=>e (hm.mp z)
theorem rZ{r:List Nat}{n:Nat}(hp:r.Perm (aB n)):r.Nodup:=hp.nodup_iff.mpr (acF acg aaL)
theorem vd(h:r.Nodup)(e:r=p++i::s):i∉p:=λz=>by rw[e]at h;exact(kd.mp h).2.2 _ z _ (.head _) rfl
theorem mem_mid{α:Type}{r p s:List α}{i:α}(e:r=p++i::s):i∈r:=e▸ba _ (.head _)
theorem gj.at(M:gj g cm vs k)(e:vs=p++v::s)(hi:i<k):Sm (eG g cm p i):=by have:=M.sm p.length (by rw[e];rw[dy];exact cb _ _) i hi;rwa[e,aex]at this
noncomputable def Rl(w:fA)(k:Nat)(vs:List (Int×Nat))(dg:List Nat)(x:Str)(r:List (Str×AV)):List (Str×AV):=("marginal_scorefct",.f (MS x))::("profile",.f (PT k (fN (aq w) vs)))::("committee",.f (.list (dg.map λ(i:Nat)=> .int (i:Int))))::("marginal",.own 1)::r
noncomputable def Rm{α:Type}(w:fA)(k:Nat)(vs:List (Int×Nat))(dg:List Nat)(x:Str)(q:α->Nat->Rat):Lp α Unit:=⟨λaa aa=>Rl w k vs dg x [],λp aa=> [.list [.n (FR ((0:Int):Rat))],.list (n6 k (q p))],λaa aa=>True⟩
noncomputable def VG(w:fA)(k:Nat)(vs:List (Int×Nat))(dg:List Nat)(x:Str)(g:Nat->Rat)(p:List (Int×Nat))(v:Int×Nat):Lp (List Nat) Unit:=⟨λaa aa=>Rl w k vs dg x [("voter",.f (VT (aq w) v.1 v.2)),("intersectionsize",.f (.int (aB (fS 0 dg&&&v.2)).length))],λp2 aa=> [.list [.n (FR ((0:Int):Rat))],.list (n6 k (bump (eG g (fS 0 dg) p) (g (aB (fS 0 dg&&&v.2)).length*v.1) p2))],λaa aa=>True⟩
theorem Hl{k:Nat}{vs:List (Int×Nat)}{dg:List Nat}{x:Str}{g:Nat->Rat}(hf: ∀n:Nat,n≤6->Spec prog w (KK w.params) TT 5 (.ref 244) [MS x,.int ((n:Int)+1)] [] (· =FR (g n)))(M:gj g (fS 0 dg) vs k)(hc: ∀i∈dg,i<k):
  Spec prog w (KK w.params) TT 9 (.ref 322) [MS x,PT k (fN (aq w) vs),.list (dg.map λ(i:Nat)=> .int (i:Int))] [] (· = .list (yi k (addQ g vs dg))):=by
 have iO:=M.k6;have VH: ∀i∈dg,i<6:=λi hi=>a0 (hc i hi) iO;have lF: ∀q,(n6 k q).length≤1000000:=λq=>by rw[jw];exact ae iO (by decide)
 refine aR (UL w.params) [("marginal_scorefct",MS x),("profile",PT k (fN (aq w) vs)),("committee",.list (dg.map λ(i:Nat)=> .int (i:Int)))] rfl (λaa aa aa=>rfl) λV O' =>cU λQ hQ=>?_;have O:=O'.toOk;refine ah (aJ O (au (bR O rfl (ai O (f:= .ref 189) rfl tr rfl rfl (aC (aH O' (kq 0) (by decide) (.cons (.f _) .nil) .nil rfl ⟨rfl,nv O' (af O 1 rfl ⟨699,598,597,_,_,.f _,tr,kC (ae iO (by decide)),by decide,.f _,xJ ⟨rfl,qA (j:=0) O rfl (ae iO (by decide)) ⟨tr,?_⟩⟩⟩)⟩))))));refine ah (ff O' (n1:=1) (by decide) (af O 1 rfl ⟨_,_,.inl rfl,rY aN (by decide),λl hl=>⟨_,vs,hl,
  Rm w k vs dg x λp=>eG g (fS 0 dg) p,(),trivial,congrArg (λz=>St.mk _ [_,AO.list z]) (CL k _),λaa aa=>rfl,λp v r e y R H G aa hR=>?_,λy aa=>?_⟩⟩))
 ·have fu:=O'.v H G;have OO:=fu.toOk;refine ah (aJ OO (ai OO (f:= .builtin "len") rfl tr rfl rfl (nY OO rfl (aG OO (af OO 4 rfl ⟨736,_,.f (.tail _ (.head _)),tr,rfl,.builtin "set.intersection",rfl,λT s v pl S Q' hq=>Ba (.f _ _) adn ado S Q' hq,af OO 2 rfl (Bb OO (.f _ _) (fU dg) VH (kB (.n _ _) ⟨tr,ah (ff fu (n1:=1) (by decide) (aG OO (af OO 4 rfl ⟨736,_,.f (.tail _ (.head _)),tr,rfl,_,_,.inl rfl,fL aN,?_⟩)))⟩))⟩)))));rintro l2 ⟨r2,gu,JC⟩;have bU:=rZ JC;refine⟨_,r2,gu,VG w k vs dg x g p v,(),trivial,rfl,λaa aa=>rfl,λp2 i r3 e2 y R2 H2 G2 aa VI=>?_,λy aa=>?_⟩
  ·have wK:=fu.v H2 G2;have Ho:=wK.toOk;have hv:=mem_mid e;have jK:i<k:=M.bits v hv i (JC.mem_iff.mp (mem_mid e2));have CN:=vd bU e2;refine ah (mP (af Ho 3 rfl (af Ho 6 rfl ⟨1,_,i,_,rfl,rfl,rfl,wJ jK,lF _,au (rg (C:=247) (f:=244) wK 0 rfl (.f _) tr rfl (au (af Ho 5 rfl (aC (f6 ⟨.f _,_,_,hf _ (bits_le _),by decide,.cons (.f _) (.cons (.f _) .nil),xJ (aG Ho (af Ho 4 rfl ⟨736,_,.f (.head _),tr,rfl,pq wK rfl (by decide) (.n _) (M.g1 _ (bits_le _)) (u9 wK rfl (by decide) (.n _) (.n _) (CM CN (M.at e jK)) (M.gw _ (bits_le _) v hv) ⟨_,rfl,rfl,aj ?_⟩)⟩))⟩)))))⟩)));show R2 _ ⟨[_,_,_,_,_,_,_],[_,.list ((n6 k (bump _ _ _)).set i _)]⟩;rw[vc CN];exact VI () [_] trivial
  ·refine aj ?_;show R _ ⟨[_,_,_,_,_,_],[_,.list (n6 k (bump _ _ _))]⟩;rw[yk iO JC];exact hR () [_,_] trivial
 ·refine ah (ff O' (n1:=1) (by decide) (af O 2 rfl ⟨_,_,.inl rfl,cZ aN,λl hl=>⟨_,dg,hl,
   Rm w k vs dg x λp i=>if i∈p then-1 else eG g (fS 0 dg) vs i,(),trivial,rfl,λaa aa=>rfl,λp i r e y R H G aa hR=>?_,λy aa=>?_⟩⟩))
  ·have fu:=O'.v H G;have OO:=fu.toOk;have jK:i<k:=hc i (mem_mid e);refine ah (fH (ai OO (f:= .ref 189) rfl tr rfl rfl (mK (aC (mJ (aH fu (kq (-1)) (by decide) (.cons (.f _) .nil) .nil rfl (af OO 3 rfl (af OO 4 rfl ⟨1,_,i,rfl,rfl,rfl,by rw[jw];exact jK,lF _,aj ?_⟩))))))));refine cast (congrArg (λz=>R .next ⟨_,[_,.list z]⟩) (qI.trans (lE λj hj=>?_)).symm) (hR () [_] trivial)
   by_cases e:j=i
   ·subst e;simp
   ·simp[e]
  ·exact ah (aF (af O 3 rfl (hQ ⟨_,.list rfl (yj _),rfl⟩)))
end
noncomputable abbrev Cx.at(c:Cx)(A:ka):Cx:={c with A:=A}
section
variable{c:Cx}{st:St}{T:List (a7×AV)}{s:a8}{m:Str->Option a7}{as:List dq}{P N:dq->Prop}{H:List (dq×Obj)}{G:Array de}{A:ka}
theorem az.at(B:az c st T s m as P N):az (c.at A) st T s m as P N:=⟨B.ns,B.keep,B.low,B.gens,B.os,λe he=>by obtain⟨v,a,b⟩:=B.loc e he;exact⟨v,a,b⟩,B.own,B.nd,B.fresh,B.pf,B.old,B.qf,B.nP,B.new,B.qg,B.pre,B.kU,B.aV,B.bU,B.bw⟩
theorem az.KI(B:az (c.at A) st T s m as P N):az c st T s m as P N:=⟨B.ns,B.keep,B.low,B.gens,B.os,λe he=>by obtain⟨v,a,b⟩:=B.loc e he;exact⟨v,a,b⟩,B.own,B.nd,B.fresh,B.pf,B.old,B.qf,B.nP,B.new,B.qg,B.pre,B.kU,B.aV,B.bU,B.bw⟩
theorem az.swap(B:az (c.v (p::q::H) G) st T s m as P N):az (c.v (q::p::H) G) st T s m as P N:=by
 refine⟨B.ns,B.keep,B.low,B.gens,B.os,λe he=>by obtain⟨v,a,b⟩:=B.loc e he;exact⟨v,a,b⟩,B.own,B.nd,B.fresh,B.pf,B.old,B.qf,B.nP,B.new,B.qg,B.pre,B.kU,λr hr=>B.aV r ?_,?_,B.bw⟩
 ·have hr:r∈q::p::(H++c.aV):=hr;show r∈p::q::(H++c.aV);rcases a5.mp hr with rfl|hr
  ·exact .tail _ (.head _)
  ·rcases a5.mp hr with rfl|hr
   ·exact .head _
   ·exact .tail _ (.tail _ hr)
 ·have h:(p.1::q.1::(H++c.aV).map (·.1)).Nodup:=B.bU;show(q.1::p.1::(H++c.aV).map (·.1)).Nodup;have h1:=dn.mp h;have h2:=dn.mp h1.2;refine dn.mpr ⟨λz=>?_,dn.mpr ⟨λz=>h1.1 (.tail _ z),h2.2⟩⟩;rcases a5.mp z with z|z
  ·exact h1.1 (z▸ .head _)
  ·exact h2.1 z
inductive yl:List AV->List Rat->Prop
 |nil:yl [] []
 |cons {a:AV} {q:Rat} {l:List AV} {qs:List Rat}:dc a q->yl l qs->yl (a::l) (q::qs)
noncomputable abbrev jx(v:a7)(c:Nat):Obj:={cls:= .type "list",dict:=none,data:= .seq #[v,v] c,slots:= #[]}
noncomputable abbrev n7(c:Cx)(A:ka)(I S:dq)(o oS:Obj):Cx:=(c.at A.in1).v [(I,o),(S,oS)] c.g0
noncomputable def wL(x:dq):Obj:=⟨.type "list_iterator",none,.fields #[.ref x,.int 0 0],#[]⟩
noncomputable def ym:Obj:=⟨.type "list",none,.seq #[] 0,#[]⟩
theorem gT{X:Type}{n i k:Nat}{I S x:dq}{a:AV}{l:List AV}{o oS:Obj}{xs:Array a7}{hand:Option (Array a7)->a7->Sem (Option a7)}{g:Option (Array a7)->Option a7->Sem X}{Q:X->a8->Prop}{E:a7->a8->Prop}(O:bQ (c.at A.in1) n)(hl:aQ st.own a l)(h1:o.cls= .type "list_iterator")(h2:o.data= .fields #[.ref x,.int i 0])(hx:(.ref x,a)∈T)(hS:oS.data= .seq xs k)
  (S0:aX (n7 c A I S o oS) st T s)
  (hi: ∀d,l[i]?=some d-> ∀u o' h',o'.cls= .type "list_iterator" ->o'.data= .fields #[.ref x,.int (i+1:Nat) 0]->aX (n7 c A I S o' oS) st ((u,d)::T) {s with heap:=h' }->dE (dC c.prog c.w) A.in1 (g (some xs) (some u)) Q E {s with heap:=h' })
  (he:l[i]?=none-> ∀h',aX ((c.at A.in1).v [(S,oS)] c.g0) st T {s with heap:=h' }->dE (dC c.prog c.w) A.in1 (g (some xs) none) Q E {s with heap:=h' }):
  dE (dC c.prog c.w) A.in1 (seqItems? (.ref S)>>=λy=>tryCatch (aaW (.ref I)) (hand y)>>=g y) Q E s:=by
 refine nn λhN=>?_;obtain⟨m,as,P,N,B⟩:=S0;obtain⟨x',vs,n',e,gl,rr⟩:=az.list B hl (B.bw _ hx);refine hN ?_;have e:x=x' :=Value.ref.inj e;rw[<-e]at gl;refine ab (wpAny_seqItems (B.aV (S,oS) (.tail _ (.head _))).1 hS (ab (aaE ?_)));have hI:=(B.aV (I,o) (.head _)).1;cases hd:l[i]? with
 |none=>exact aaa O.hh ⟨o,hI,h1,h2⟩ (aP gl) (Tb (ae (km rr.length) (List.getElem?_eq_none_iff.mp hd))) λh' ZH=>he hd h' ⟨m,as,P,N,az.e8 (c:=c.at A.in1) (H:=[(S,oS)]) (H2:=[(S,oS)]) B ZH (.inl rfl)⟩
 |some d=>refine nn λhN=>?_;obtain⟨u,hu,qd⟩:=rr.get hd;refine hN (Ts ⟨o,hI,h1,h2⟩ (aP gl) ((yB ..).trans hu) λh' hit hs=>nn λhN=>?_);obtain⟨o',g',vU,vV⟩:=hit;exact hN (hi d hd u o' h' vU vV ⟨m,as,P,N,az.e8 (c:=c.at A.in1) (H:=[(S,oS)]) (H2:=[(I,o'),(S,oS)]) (az.push B qd) (λb o hb e=>(hs.2 b hb).trans e) (.inr ⟨o',g',rfl⟩)⟩)
theorem r7{X:Type}{n:Nat}{a:AV}{l:List AV}{y:a7}{f:a7->a7->Sem X}{Q:X->a8->Prop}{E:a7->a8->Prop}(O:bQ (c.at A.in1) n)(hl:aQ st.own a l)(S:aX c st ((y,a)::T) s)
  (h: ∀x I S' h',y= .ref x->aX (n7 c A I S' (wL x) ym) st ((y,a)::T) {s with heap:=h' }->dE (dC c.prog c.w) A.in1 (f (.ref I) (.ref S')) Q E {s with heap:=h' }):
  dE (dC c.prog c.w) A.in1 (aba y>>=λit=>afG []>>=f it) Q E s:=by
 refine nn λhN=>?_;obtain⟨m,as,P,N,B⟩:=S;obtain⟨x,vs,n2,e,g,_⟩:=B.list hl (B.bw _ (.head _));refine hN ?_;subst e;refine ab (xc (aP g) ?_);have B1:=az.hide (c:=c.at A.in1) (H:=[]) (G:=c.g0) (o:=wL x) (B.at) O.toOk rfl;have B2:=az.hide (c:=c.at A.in1) (H:=[(s.heap.objs.size,wL x)]) (G:=c.g0) (o:=ym) B1 O.toOk rfl;exact ab (oP (h x _ _ _ rfl ⟨m,as,P,N,az.swap B2⟩))
theorem n8{X:Type}{I S:dq}{o oS:Obj}{u:a7}{xs:Array a7}{k:Nat}{T' :List (a7×AV)}{f:Unit->Sem X}{Q:X->a8->Prop}{E:a7->a8->Prop}(S0:aX (n7 c A I S o oS) st T s)(e:oS=⟨.type "list",none,.seq xs k,#[]⟩)(hz:xs.size≤2)
  (hs: ∀p∈T',p∈T)(h: ∀h' c2,aX (n7 c A I S o (jx u c2)) st T' {s with heap:=h' }->dE (dC c.prog c.w) A.in1 (f ()) Q E {s with heap:=h' }):dE (dC c.prog c.w) A.in1 (updateSeq S (λaa=> #[u,u])>>=f) Q E s:=by
 refine nn λhN=>?_;obtain⟨m,as,P,N,B⟩:=S0;refine hN ?_;have hS:=(B.aV (S,oS) (.tail _ (.head _))).1;rw[e]at hS;exact ab (L9 hS rfl (h _ _ ⟨m,as,P,N,(az.swap (az.e8 (c:=c.at A.in1) (H:=[(I,o)]) (H2:=[(S,jx u _),(I,o)]) (az.swap B) (λb o hb e=>(oC _ _ (Nw hb)).trans e) (.inr ⟨_,Md hS λaa=> #[u,u],rfl⟩))).less hs⟩) (ae hz (by decide+kernel)))
theorem vf{X:Type}{S:dq}{v:a7}{b:AV}{p:a7×AV}{cc:Nat}{f:Unit->Sem X}{Q:X->a8->Prop}{E:a7->a8->Prop}(S0:aX ((c.at A.in1).v [(S,jx v cc)] c.g0) st ((v,b)::p::T) s)
  (h: ∀h',aX c st ((v,b)::T) {s with heap:=h' }->dE (dC c.prog c.w) A.in1 (f ()) Q E {s with heap:=h' }):dE (dC c.prog c.w) A.in1 (updateSeq S (λaa=> #[])>>=f) Q E s:=by
 refine nn λhN=>?_;obtain⟨m,as,P,N,B⟩:=S0;exact hN (ab (L9 (B.aV _ (.head _)).1 rfl (h _ ⟨m,as,P,N,((az.e8 (c:=c.at A.in1) (H:=[]) (H2:=[]) B (λb o hb e=>(oC _ _ (Nw hb)).trans e) (.inl rfl)).KI (c:=c)).less λaa hp=>(a5.mp hp).elim (λe=>e▸ .head _) λhp=> .tail _ (.tail _ hp)⟩)))
def KJ(c:Cx)(A:ka)(st:St)(T:List (a7×AV))(I S:dq)(op:CmpOp)(bt:Rat->Rat->Bool):Prop:= ∀(o:Obj) (v u:a7) (cc:Nat) (d b:AV) (y q:Rat) (s:a8),dc d y->dc b q->Sm y->Sm q->aX (n7 c A I S o (jx v cc)) st ((u,d)::(v,b)::T) s->
 dE (dC c.prog c.w) A.in1 (ada op u v) (λr s' =>r= .bool (bt y q)/\aX (n7 c A I S o (jx v cc)) st ((u,d)::(v,b)::T) s') (λaa aa=>False) s
theorem yo(h: ∀(o:Obj) (v:a7) (cc:Nat) (d b:AV) (y q:Rat),dc d y->dc b q->Sm y->Sm q->Op (n7 c A I S o (jx v cc)) [b,d] (λvs=>match vs with| [y,x]=>ada op x y|_=> .raise .none) st (λa' aO=>a' = .f (.bool (bt y q))/\aO=st)):KJ c A st T I S op bt:=λo v u cc d b y q s hd hb hy hq S0=>by refine wpS (h o v cc d b y q hd hb hy hq ((u,d)::(v,b)::T) [v,u] s rfl (S0.sub (bH (.tail _ (.head _)) (bH (.head _) λaa hp=>hp)))) (λr s' z=>?_);obtain⟨a',aO,S3,z1,z2⟩:=z;rw[z1,z2]at S3;exact⟨S3.B9,S3.pop⟩
structure L7(c:Cx)(A:ka)(st:St)(T:List (a7×AV))(x:dq)(a:AV)(l:List AV)(I S:dq)(i:Nat)(r:List AV)(q:Rat)(s:a8):Prop where
 dr:l.drop i=r
 ex: ∃o vb b cc,A5 (o.cls= .type "list_iterator") (o.data= .fields #[.ref x,.int i 0]) (dc b q) (Sm q) (aX (n7 c A I S o (jx vb cc)) st ((vb,b)::(.ref x,a)::T) s)
variable{R:abS->a8->Prop}
def L8 (c:Cx)(st:St)(T:List (a7×AV))(q:Rat)(R:abS->a8->Prop):Prop:= ∀v b s,dc b q->aX c st ((v,b)::T) s->R (.ok (.ret v)) s
theorem Hp(O:bQ (c.at A.in1) n)(hK:c.K=KK c.w.params)(hn:4≤n)(hl:aQ st.own a l)(hq:yl r qs): ∀(i:Nat) (q:Rat) (s:a8),(∀y∈qs,Sm y)->L7 c A st T x a l I S i r q s->
   L8 c st T (qs.foldl (λm q=>if m<q then q else m) q) R->tJ (dC c.prog c.w) A (.builtin "max.loop" ⟨[.ref I,.none,.ref S],[]⟩) R s:=by
 induction hq with
 |nil=>
  intro i q s _ Z h;refine nn λhN=>?_;obtain⟨hr,o,vb,b,cc,h1,h2,hb,_,S0⟩:=Z;refine hN (iq adz ?_);rw[eP Fs _];refine aV λW V hW=>gT O hl h1 h2 (.tail _ (.head _)) rfl S0 (λd hd=>?_) λaa h' S1=>vf S1 λZI S2=>?_
  case' refine_2=>exact ab (y6 (ax (hW _ _ (h vb b _ hb S2))))
  rw[<-te i,<-vu,hr]at hd;cases hd
 |cons hd Rn ih=>
  intro i q s iE Z h;refine nn λhN=>?_;obtain⟨hr,o,vb,b,cc,h1,h2,hb,Ro,S0⟩:=Z;refine hN (iq adz ?_);rw[eP Fs _];refine aV λW V hW=>gT O hl h1 h2 (.tail _ (.head _)) rfl S0 (λd' fq u o' h' vU vV S1=>?_) λfq=>?_
  case' refine_2=>rw[<-te i,<-vu,hr]at fq;cases fq
  rw[<-te i,<-vu,hr]at fq;have fq:dc d' _:=Option.some.inj fq▸hd;have NW:=congrArg aeX hr;rw[aev]at NW;have cmp:=yo (op:= .Gt) (bt:=λy q=>decide (q<y)) (λo v cc d b y q hd hb hy hq=>KG (O.v _ _) hK hn hd hb hy hq ⟨rfl,rfl⟩) o' vb u cc d' b _ q _ fq hb (iE _ (.head _)) Ro S1;show dE _ A.in1 (tryCatch (NA [u,u] (ada .Gt u vb>>=_)) _>>=_) _ _ _;refine ab (aaE (eJ (ab (hO cmp (λr' s3 z=>?_) aM))));rw[z.1];refine ab (eJ (xa (ab (y6 (ax (ach (λcy=>?_) λcy=>?_))))))
  ·refine n8 z.2 rfl (cq 2) (bH (.head _) λaa hp=> .tail _ (.tail _ hp)) λh3 c2 S3=>ab (y6 (ax (hW _ _ ⟨lj Fs _,ih (i+1) _ _ (λz hz=>iE z (.tail _ hz)) ⟨NW,o',u,d',c2,vU,vV,fq,iE _ (.head _),S3⟩ ?_⟩)));rw[lp,if_pos (of_decide_eq_true cy)]at h;exact h
  ·refine ab (y6 (ax (hW _ _ ⟨lj Fs _,ih (i+1) _ _ (λz hz=>iE z (.tail _ hz)) ⟨NW,o',vb,b,cc,vU,vV,hb,Ro,z.2.sub λaa hp=> .tail _ hp⟩ ?_⟩)));rw[lp,if_neg λe=>cy (decide_eq_true e)]at h;exact h
theorem Hq(O:bQ (c.at A.in1) n)(hK:c.K=KK c.w.params)(hn:4≤n)(hl:aQ st.own a l)(hq:yl r qs): ∀(i:Nat) (q:Rat) (s:a8),(∀y∈qs,Sm y)->L7 c A st T x a l I S i r q s->
   L8 c st T (qs.foldl (λm q=>if q<m then q else m) q) R->tJ (dC c.prog c.w) A (.builtin "min.loop" ⟨[.ref I,.none,.ref S],[]⟩) R s:=by
 induction hq with
 |nil=>
  intro i q s _ Z h;refine nn λhN=>?_;obtain⟨hr,o,vb,b,cc,h1,h2,hb,_,S0⟩:=Z;refine hN (iq adA ?_);rw[eP Fu _];refine aV λW V hW=>gT O hl h1 h2 (.tail _ (.head _)) rfl S0 (λd hd=>?_) λaa h' S1=>vf S1 λZI S2=>?_
  case' refine_2=>exact ab (y6 (ax (hW _ _ (h vb b _ hb S2))))
  rw[<-te i,<-vu,hr]at hd;cases hd
 |cons hd Rn ih=>
  intro i q s iE Z h;refine nn λhN=>?_;obtain⟨hr,o,vb,b,cc,h1,h2,hb,Ro,S0⟩:=Z;refine hN (iq adA ?_);rw[eP Fu _];refine aV λW V hW=>gT O hl h1 h2 (.tail _ (.head _)) rfl S0 (λd' fq u o' h' vU vV S1=>?_) λfq=>?_
  case' refine_2=>rw[<-te i,<-vu,hr]at fq;cases fq
  rw[<-te i,<-vu,hr]at fq;have fq:dc d' _:=Option.some.inj fq▸hd;have NW:=congrArg aeX hr;rw[aev]at NW;have cmp:=yo (op:= .Lt) (bt:=λy q=>decide (y<q)) (λo v cc d b y q hd hb hy hq=>KH (O.v _ _) hK hn hd hb hy hq ⟨rfl,rfl⟩) o' vb u cc d' b _ q _ fq hb (iE _ (.head _)) Ro S1;show dE _ A.in1 (tryCatch (NA [u,u] (ada .Lt u vb>>=_)) _>>=_) _ _ _;refine ab (aaE (eJ (ab (hO cmp (λr' s3 z=>?_) aM))));rw[z.1];refine ab (eJ (xa (ab (y6 (ax (ach (λcy=>?_) λcy=>?_))))))
  ·refine n8 z.2 rfl (cq 2) (bH (.head _) λaa hp=> .tail _ (.tail _ hp)) λh3 c2 S3=>ab (y6 (ax (hW _ _ ⟨lj Fu _,ih (i+1) _ _ (λz hz=>iE z (.tail _ hz)) ⟨NW,o',u,d',c2,vU,vV,fq,iE _ (.head _),S3⟩ ?_⟩)));rw[lp,if_pos (of_decide_eq_true cy)]at h;exact h
  ·refine ab (y6 (ax (hW _ _ ⟨lj Fu _,ih (i+1) _ _ (λz hz=>iE z (.tail _ hz)) ⟨NW,o',vb,b,cc,vU,vV,hb,Ro,z.2.sub λaa hp=> .tail _ hp⟩ ?_⟩)));rw[lp,if_neg λe=>cy (decide_eq_true e)]at h;exact h
theorem bQ.Ma{n:Nat}(O:bQ c (n+1)):bQ (c.at c.A.in1) n where
 cO:=O.cO
 lim:=O.lim
 hh:=O.hh
 kind:=O.kind
 inter:=O.inter
 sz:=O.sz
 cin:=O.cin
 dp:=eT O.dp (me n)
 un:=vK O.un (km (aaz ..)) (by decide) (cq _)
 kt:=O.kt
 st:=O.st
theorem wM(O:bQ c n)(hK:c.K=KK c.w.params)(hn:5≤n)(hl:aQ st.own a l)(hq:yl l (q::qs))(iE: ∀y∈q::qs,Sm y)(h: ∀b',dc b' (qs.foldl (λm q=>if m<q then q else m) q)->Q b' st):aZ c (.builtin "max") [a] [] [] st Q:=
 jn λT y s S=>by
  refine nn λhN=>?_;obtain⟨n',rfl⟩: ∃n',n=n' +1:=⟨n-1,(aes (oT (og hn)) (Eq.refl (n-1)))⟩;obtain⟨d,r,hr,hd,Rn⟩: ∃d r,A3 (l=d::r) (dc d q) (yl r qs):=by cases hq with|cons a b=>exact⟨_,_,rfl,a,b⟩
  refine hN ?_;have O1:=O.Ma;refine TC F.kind_max F.plain_max F.entry_max (F.args_max1 _) (ab (kA (show aae "max" ["key","default"] 0 ⟨[],[]⟩=pure [none,none]from rfl) (ab (ax (r7 O1 hl S λx I S' h1 e S1=>ax ⟨lj Fs _,iq adz ?_⟩)))));rw[eP Fs _];refine aV λW V hW=>gT (i:=0) O1 hl rfl rfl (e▸ .head _) rfl S1 (λd' fq u o' h2 vU vV S2=>n8 S2 rfl (kS 2) (λaa hp=>hp) λh3 c2 S3=>?_) λfq=>?_
  case' refine_2=>rw[hr]at fq;cases fq
  rw[hr]at fq;have fq:dc d' _:=Option.some.inj fq▸hd;rw[e]at S3;exact ax (hW _ _ ⟨lj Fs _,Hp O1 hK (vi hn) hl Rn 1 q _ (λz hz=>iE z (.tail _ hz)) ⟨hr▸rfl,o',u,d',c2,vU,vV,fq,iE q (.head _),S3⟩ λv b' s' gC S' =>⟨b',st,S',h b' gC⟩⟩)
theorem wN(O:bQ c n)(hK:c.K=KK c.w.params)(hn:5≤n)(hl:aQ st.own a l)(hq:yl l (q::qs))(iE: ∀y∈q::qs,Sm y)(h: ∀b',dc b' (qs.foldl (λm q=>if q<m then q else m) q)->Q b' st):aZ c (.builtin "min") [a] [] [] st Q:=
 jn λT y s S=>by
  refine nn λhN=>?_;obtain⟨n',rfl⟩: ∃n',n=n' +1:=⟨n-1,(aes (oT (og hn)) (Eq.refl (n-1)))⟩;obtain⟨d,r,hr,hd,Rn⟩: ∃d r,A3 (l=d::r) (dc d q) (yl r qs):=by cases hq with|cons a b=>exact⟨_,_,rfl,a,b⟩
  refine hN ?_;have O1:=O.Ma;refine TC F.kind_min F.plain_min F.entry_min (F.args_min1 _) (ab (kA (show aae "min" ["key","default"] 0 ⟨[],[]⟩=pure [none,none]from rfl) (ab (ax (r7 O1 hl S λx I S' h1 e S1=>ax ⟨lj Fu _,iq adA ?_⟩)))));rw[eP Fu _];refine aV λW V hW=>gT (i:=0) O1 hl rfl rfl (e▸ .head _) rfl S1 (λd' fq u o' h2 vU vV S2=>n8 S2 rfl (kS 2) (λaa hp=>hp) λh3 c2 S3=>?_) λfq=>?_
  case' refine_2=>rw[hr]at fq;cases fq
  rw[hr]at fq;have fq:dc d' _:=Option.some.inj fq▸hd;rw[e]at S3;exact ax (hW _ _ ⟨lj Fu _,Hq O1 hK (vi hn) hl Rn 1 q _ (λz hz=>iE z (.tail _ hz)) ⟨hr▸rfl,o',u,d',c2,vU,vV,fq,iE q (.head _),S3⟩ λv b' s' gC S' =>⟨b',st,S',h b' gC⟩⟩)
end
def Dv(D B:Nat)(q:Rat):Prop:= ∃a:Int,q*(D:Rat)=(a:Rat)/\a.natAbs≤B
theorem Dv.add:Dv D B q->Dv D C r->Dv D (B+C) (q+r):=λ⟨a,e,h⟩ ⟨b,e',h'⟩=>⟨a+b,by rw[Rat.add_mul];rw[e];rw[e'];rw[agW];rfl,ae (Int.natAbs_add_le a b) (SF h h')⟩
theorem Dv.mono(h:B≤C):Dv D B q->Dv D C q:=λzz=>by obtain⟨a,e,h'⟩:=zz;exact⟨a,e,ae h' h⟩
theorem Dv.NX{D B C:Nat}{q:Rat}{i:Int}(h:i.natAbs≤C):Dv D B q->Dv D (B*C) (q*i):=λ⟨a,e,h'⟩=>⟨a*i,by rw[aam];rewrite [Rat.mul_comm (i:Rat)];refine bS (aam ..) ?_;rw[e];rw[abg];rfl,by rw[acM];exact aaB h' h⟩
theorem Dv.zero:Dv D 0 0:=⟨0,by simp,by simp⟩
theorem Dv.int{D:Nat}{i:Int}:Dv D (i.natAbs*D) (i:Rat):=⟨i*D,by rw[abg];rfl,by rw[acM];simp⟩
theorem Dv.sm(hD:0<D)(Hr:D<2^31)(hB:B<2^31):Dv D B q->Sm q:=λ⟨a,e,h⟩=>by
 have hd:(D:Rat)≠0:=by
  intro z;have:(D:Int)=0:=by exact_mod_cast z
  exact pz hD (Int.ofNat.inj this)
 have hq:q=Sr a D:=by rw[acY];have:=congrArg (λz=>z/(D:Rat)) e;simp only[aby,aam]at this⊢;rw[Rat.mul_inv_cancel _ hd,agX]at this;exact this
 have XE:(0:Int)<D:=Hk.mpr hD;rw[hq];constructor
 ·rw[ahd];rw[adH XE];rw[aim];have h1:(a/((Int.gcd D a:Nat):Int)).natAbs≤a.natAbs:=Int.natAbs_ediv_le_natAbs _ _;exact bj (ae h1 h) hB
 ·rw[ahe];rw[if_neg (Bi XE)];exact bj (Nat.div_le_self (D:Int).natAbs (Int.gcd D a)) Hr
theorem l9: ∀(l:List Rat) (q:Rat),l.foldl (λm q=>if m<q then q else m) q∈q::l:=by
 intro lz;induction lz with
 |nil=>intro q;exact .head _
 |cons y l ih=>
  intro q;rw[lp];have:=ih (if q<y then y else q);rcases a5.mp this with h|h
  ·rw[h];split
   ·exact .tail _ (.head _)
   ·exact .head _
  ·exact .tail _ (.tail _ h)
theorem wO: ∀(l:List Rat) (q:Rat),∀y∈q::l,y≤l.foldl (λm q=>if m<q then q else m) q:=by
 intro lz;induction lz with
 |nil=>
  intro q y h;have:y=q:=by simpa using h
  rw[this];exact aaR
 |cons z l ih=>
  intro q y h;rw[lp];have ih:=ih (if q<z then z else q);have h0:=ih _ (.head _)
  by_cases CO:q<z
  ·simp only[CO,if_true]at ih h0⊢;rcases a5.mp h with rfl|h
   ·exact Bn (abK CO) h0
   ·exact ih y h
  ·simp only[CO,if_false]at ih h0⊢;rcases a5.mp h with rfl|h
   ·exact h0
   ·rcases a5.mp h with rfl|h
    ·exact Bn (abA.mp CO) h0
    ·exact ih y (.tail _ h)
section
variable{prog:d5}{w:fA}
theorem qJ: ∀(l:List Nat) (q:Nat->Rat),yl (l.map λi=>AV.n (FR (q i))) (l.map q):=by
 intro lz;induction lz with
 |nil=>intro _;exact .nil
 |cons _ l ih=>intro q;exact .cons (.n _) (ih q)
noncomputable def NY{α X:Type}(w:fA)(k:Nat)(vs:List (Int×Nat))(cm:Nat)(x:Str)(r:List (Str×AV))(q:α->X->Nat->Rat)(P:α->X->Prop):Lp α X:=⟨λaa aa=>("marginal_scorefct",.f (MS x))::("profile",.f (PT k (fN (aq w) vs)))::("committee",.f (.aW (aq w) cm))::("marg_util_cand",.own 1)::r,λp y=> [.list [.n (FR ((0:Int):Rat))],.list (n6 k (q p y))],P⟩
theorem Hs(q:Rat):q<q+((1:Int):Rat):=by
 have:=Rat.add_lt_add_left (c:=q)|>.mpr (show(0:Rat)<((1:Int):Rat) by decide)
 rwa[ad7]at this
structure r8(g:Nat->Rat)(cm:Nat)(vs:List (Int×Nat))(k D B i:Nat)(q:Nat->Rat):Prop where
 h1: ∀j<k,cm.testBit j=true->q j=eG g cm vs j
 h2: ∀n<i,cm.testBit n=false-> ∀j<k,cm.testBit j=true->eG g cm vs j<q n
 h3: ∀n<k,Dv D (B+i*D) (q n)
theorem r8.skip(h:r8 g cm vs k D B i q)(hb:cm.testBit i=true):r8 g cm vs k D B (i+1) q:=⟨h.h1,λn hn Gy=>(ac1.mp hn).elim (λz=>h.h2 n z Gy) λz=>absurd (z▸hb) (by rw[Gy];decide),λn hn=>(h.h3 n hn).mono (eQ (tx D (me i)) B)⟩
theorem r8.put(h:r8 g cm vs k D B i q)(hb:cm.testBit i=false)(xO:n0<k)(he:mx=q n0)(AM: ∀n<k,q n≤mx):
  r8 g cm vs k D B (i+1) λj=>if j=i then mx+((1:Int):Rat)else q j where
 h1 j hj jd:=by rw[if_neg λe=>by rw[e,hb]at jd;cases jd];exact h.h1 j hj jd
 h2 n hn Gy j hj jd:=by
  by_cases e:n=i
  ·rw[if_pos e];refine bS (h.h1 j hj jd ..) ?_;exact afP.mp λz=>absurd (Hs mx) (abA.mpr (Bn z (AM j hj)))
  ·rw[if_neg e];exact h.h2 n ((ac1.mp hn).resolve_right e) Gy j hj jd
 h3 n hn:=by
  have hd:Dv D (B+(i+1)*D) (mx+((1:Int):Rat)):=(Dv.add (he▸h.h3 n0 xO) (Dv.int (D:=D) (i:=1))).mono (by rw[vw];exact eQ (km (Nat.add_mul i 1 D).symm) B)
  by_cases e:n=i
  ·rw[if_pos e];exact hd
  ·rw[if_neg e];exact(h.h3 n hn).mono (eQ (tx D (me i)) B)
theorem Ht(hf: ∀n:Nat,n≤6->Spec prog w (KK w.params) TT 5 (.ref 244) [MS x,.int (n:Int)] [] (· =FR (g n)))(M:gj g cm vs k)(hD:0<D)(Hr:D<2^31)(hB:B+8*D<2^31)(VJ: ∀i<k,Dv D B (eG g cm vs i)):
  Spec prog w (KK w.params) TT 9 (.ref 329) [MS x,PT k (fN (aq w) vs),.aW (aq w) cm] [] (λr=> ∃q,A4 (r= .list (yi k q)) (∀i<k,cm.testBit i=true->q i=eG g cm vs i) (∀i<k,cm.testBit i=false-> ∀j<k,cm.testBit j=true->eG g cm vs j<q i) (∀i<k,Dv D (B+8*D) (q i))):=by
 have iO:=M.k6;have lF: ∀q,(n6 k q).length≤1000000:=λq=>by rw[jw];exact ae iO (by decide)
 refine aR (UM w.params) [("marginal_scorefct",MS x),("profile",PT k (fN (aq w) vs)),("committee",.aW (aq w) cm)] rfl (λaa aa aa=>rfl) λV O' =>cU λQ hQ=>?_;have O:=O'.toOk;refine ah (aJ O (au (bR O rfl (ai O (f:= .ref 189) rfl tr rfl rfl (aC (aH O' (kq 0) (by decide) (.cons (.f _) .nil) .nil rfl ⟨rfl,nv O' (af O 1 rfl ⟨699,598,597,_,_,.f _,tr,kC (ae iO (by decide)),by decide,.f _,xJ ⟨rfl,qA (j:=0) O rfl (ae iO (by decide)) ⟨tr,ah (ff O' (n1:=1) (by decide) (af O 1 rfl ⟨_,_,.inl rfl,rY aN (by decide),λl hl=>⟨_,vs,hl,NY w k vs cm x [] (λp (_:Unit)=>eG g cm p) (λaa aa=>True),(),trivial,congrArg (λz=>St.mk _ [_,AO.list z]) (CL k _),λaa aa=>rfl,λp v r e y R H G aa hR=>?_,λy aa=>?_⟩⟩))⟩⟩⟩)⟩))))))
 ·have fu:=O'.v H G;have OO:=fu.toOk;refine ah (aJ OO (ai OO (f:= .builtin "len") rfl tr rfl rfl (nY OO rfl (aG OO (af OO 4 rfl ⟨736,_,.f (.tail _ (.head _)),tr,rfl,.builtin "set.intersection",rfl,λT s v pl S Q' hq=>Ba (.f _ _) adn ado S Q' hq,af OO 2 rfl (Bc OO (.f _ _) (.f _ _) (kB (.n _ _) ⟨tr,ah (ff fu (n1:=1) (by decide) (aG OO (af OO 4 rfl ⟨736,_,.f (.tail _ (.head _)),tr,rfl,_,_,.inl rfl,fL aN,?_⟩)))⟩))⟩)))));rintro l2 ⟨r2,gu,JC⟩;have bU:=rZ JC;refine⟨_,r2,gu,NY w k vs cm x [("voter",.f (VT (aq w) v.1 v.2)),("satisfaction",.f (.int (aB (cm&&&v.2)).length))] (λp2 (_:Unit)=>bump (eG g cm p) (g (aB (cm&&&v.2)).length*v.1) p2) (λaa aa=>True),(),trivial,rfl,λaa aa=>rfl,λp2 i r3 e2 y R2 H2 G2 aa VI=>?_,λy aa=>?_⟩
  ·have wK:=fu.v H2 G2;have Ho:=wK.toOk;have hv:=mem_mid e;have jK:i<k:=M.bits v hv i (JC.mem_iff.mp (mem_mid e2));have CN:=vd bU e2;refine ah (mP (af Ho 3 rfl (af Ho 6 rfl ⟨1,_,i,_,rfl,rfl,rfl,wJ jK,lF _,au (rg (C:=247) (f:=244) wK 0 rfl (.f _) tr rfl (af Ho 5 rfl ⟨.f _,_,_,hf _ (bits_le _),by decide,.cons (.f _) (.cons (.f _) .nil),xJ (aG Ho (af Ho 4 rfl ⟨736,_,.f (.head _),tr,rfl,pq wK rfl (by decide) (.n _) (M.g1 _ (bits_le _)) (u9 wK rfl (by decide) (.n _) (.n _) (CM CN (M.at e jK)) (M.gw _ (bits_le _) v hv) ⟨_,rfl,rfl,aj ?_⟩)⟩))⟩))⟩)));show R2 _ ⟨_,[_,.list ((n6 k (bump _ _ _)).set i _)]⟩;rw[vc CN];exact VI () [_] trivial
  ·refine aj ?_;show R _ ⟨_,[_,.list (n6 k (bump _ _ _))]⟩;rw[yk iO JC];exact hR () [_,_] trivial
 ·refine ah (ff O' (n1:=1) (by decide) (aG O (af O 1 rfl ⟨699,_,.f (.tail _ (.tail _ (.head _))),tr,rfl,_,_,.inl rfl,cZ aN,λl hl=>⟨λ(i:Nat)=> .int (i:Int),ar k,hl.trans (k8 k),NY w k vs cm x [] (λaa q=>q) (λp q=>r8 g cm vs k D B p.length q),eG g cm vs,⟨λaa aa aa=>rfl,λn h=>absurd h (t5 _),λn h=>by simpa using VJ n h⟩,rfl,λaa aa=>rfl,λp i r e q R H G hp hR=>?_,λq hq=>?_⟩⟩)))
  ·have fu:=O'.v H G;have OO:=fu.toOk;obtain⟨hi,jK⟩:=k9 e;subst hi;have hp:r8 g cm vs k D B p.length q:=hp;have Rp: ∀n<k,Sm (q n):=λn hn=>(hp.h3 n hn).sm hD Hr (bj (eQ (tx D (ae (ec jK) (ae iO (by decide)))) B) hB);refine ah (aK (aE (af OO 4 rfl (af OO 2 rfl (DW (.f _ _) ⟨_,rfl,?_⟩)))));rw[show decide (0≤(p.length:Int)/\(p.length:Int)<6)=true from decide_eq_true ⟨dA _,Hk.mpr (a0 jK iO)⟩];rw[ab4];rw[sa];cases KL:cm.testBit p.length with
   |true=>exact bB (aj (aj (hR q [_] (by show r8 _ _ _ _ _ _ (aab _) _;rw[dy];exact hp.skip KL))))
   |false=>
    refine cB ?_;have hm:(ar k).map q=q 0::(kl 1 (k-1)).map q:=by rw[bJ (bj (kS _) jK)];rfl
    have jU:yl (n6 k q) (q 0::(kl 1 (k-1)).map q):=hm▸qJ (ar k) q;have kD: ∀y,y∈q 0::(kl 1 (k-1)).map q↔ ∃n<k,y=q n:=λy=>by refine bS (hm ..) ?_;refine eV (bb ..) ?_;exact⟨λzz=>by obtain⟨n,hn,e⟩:=zz;exact⟨n,a9.mp hn,e.symm⟩,λ⟨n,hn,e⟩=>⟨n,a9.mpr hn,e.symm⟩⟩
    refine ah (fH (au (ai OO (f:= .builtin "max") rfl tr rfl rfl (af OO 3 rfl (wM fu rfl (by decide) (.own rfl) jU (λy hy=>let⟨n,hn,e⟩:=(kD y).mp hy;e▸Rp n hn) λb' gC=>?_)))));obtain⟨n0,xO,VK⟩:=(kD _).mp (l9 _ _);have AM:=wO ((kl 1 (k-1)).map q) (q 0);generalize afH (λm q=>if m<q then q else m) (q 0) (List.map q (kl 1 (k-1)))=mx at gC VK AM;refine aC (pA fu rfl (by decide) gC (VK▸Rp n0 xO) (by decide) (af OO 3 rfl (af OO 4 rfl ⟨1,_,p.length,rfl,rfl,rfl,by rw[jw];exact jK,lF _,aj (aj ?_)⟩)));show R _ ⟨_,[_,.list ((n6 k q).set _ _)]⟩;rw[qI];exact hR _ [_] (by show r8 _ _ _ _ _ _ (aab _) _;rw[dy];exact hp.put KL xO VK λn hn=>AM _ ((kD _).mpr ⟨n,hn,rfl⟩))
  ·have hq:r8 g cm vs k D B (ar k).length q:=hq;rw[cf]at hq;exact ah (aF (af O 3 rfl (hQ ⟨_,.list rfl (yj _),q,rfl,hq.h1,hq.h2,λn hn=>(hq.h3 n hn).mono (eQ (tx D (ae iO (by decide))) _)⟩)))
end
def gk{K:Type}(h:wq)(P N:dq->Prop)(as:List dq):List (K×AV)->List (K×a7)->Prop
 | [],gG=>gG=[]
 |(k,f)::r,gG=>E2 λv r' =>A3 (gG=(k,v)::r') (dj h P N as f v) (gk h P N as r r')
theorem gk.keys{K:Type}{h:wq}{P N:dq->Prop}{as:List dq}: ∀{l:List (K×AV)} {gG:List (K×a7)},gk h P N as l gG->gG.map (·.1)=l.map (·.1):=by
 intro lz;induction lz with
 |nil=>intro _ H;cases H;rfl
 |cons mE _ ih=>intro _ xx;obtain⟨_,_⟩:=mE;obtain⟨_,_,e,_,q⟩:=xx;subst e;simp[ih q]
theorem gk.mono{K:Type}{h h' :wq}{P P' N N' :dq->Prop}{as dZ:List dq}(k: ∀a o,P a->h.get? a=some o->h'.get? a=some o)(p: ∀a,P a->P' a)(kn: ∀a o,N a->h.get? a=some o->h'.get? a=some o)(pn: ∀a,N a->N' a)(q: ∀(i:Nat) (a:dq),as[i]?=some a->dZ[i]?=some a):
  ∀{l:List (K×AV)} {gG:List (K×a7)},gk h P N as l gG->gk h' P' N' dZ l gG
 | [],_,H=>H
 |(_,_)::_,_,⟨v,r,e,a,b⟩=>⟨v,r,e,a.mono k p kn pn q,b.mono k p kn pn q⟩
theorem gk.get{K:Type}[DecidableEq K]{h:wq}{P N:dq->Prop}{as:List dq}{k:K}{f:AV}: ∀{l:List (K×AV)} {gG:List (K×a7)},gk h P N as l gG->(l.find? λe=>e.1=k)=some (k,f)-> ∃v,aio gG k=some v/\dj h P N as f v
 |(k',f')::l,_,⟨v,r,e,a,b⟩,hf=>by
  subst e;unfold aio;rw[ad8]at hf⊢
  by_cases q:k' =k
  ·subst q;simp only[decide_true]at hf⊢;cases hf;exact⟨v,rfl,a⟩
  ·simp only[decide_eq_false q]at hf⊢;exact gk.get b hf
noncomputable def iI{K:Type}[DecidableEq K](l:List (K×AV))(k:K)(f:AV):List (K×AV):=if l.any (λe=>e.1=k)then l.map (λe=>if e.1=k then(e.1,f)else e)else l++[(k,f)]
theorem gk.map{K:Type}[DecidableEq K]{h:wq}{P N:dq->Prop}{as:List dq}{k:K}{f:AV}{v:a7}(hv:dj h P N as f v): ∀{l:List (K×AV)} {gG:List (K×a7)},gk h P N as l gG->gk h P N as (l.map λe=>if e.1=k then(e.1,f)else e) (gG.map λe=>if e.1=k then(e.1,v)else e):=by
 intro lz;induction lz with
 |nil=>intro _ H;cases H;rfl
 |cons mE l ih=>
  intro _ xx;obtain⟨k',f'⟩:=mE;obtain⟨u,r,e,a,b⟩:=xx;subst e;rw[eA];rw[eA]
  by_cases q:k' =k
  ·simp only[if_pos q];exact⟨v,_,rfl,hv,ih b⟩
  ·simp only[if_neg q];exact⟨u,_,rfl,a,ih b⟩
theorem gk.snoc{K:Type}{h:wq}{P N:dq->Prop}{as:List dq}{k:K}{f:AV}{v:a7}(hv:dj h P N as f v): ∀{l:List (K×AV)} {gG:List (K×a7)},gk h P N as l gG->gk h P N as (l++[(k,f)]) (gG++[(k,v)]):=by
 intro lz;induction lz with
 |nil=>intro _ H;cases H;exact⟨v,[],rfl,hv,rfl⟩
 |cons mE _ ih=>intro _ xx;obtain⟨_,_⟩:=mE;obtain⟨u,r,e,a,b⟩:=xx;subst e;exact⟨u,_,rfl,a,ih b⟩
theorem gk.stored{K:Type}[DecidableEq K]{h:wq}{P N:dq->Prop}{as:List dq}{k:K}{f:AV}{v:a7}{l:List (K×AV)}{gG:List (K×a7)}(hv:dj h P N as f v)(H:gk h P N as l gG):gk h P N as (iI l k f) (ahY gG k v):=by
 have e:gG.any (λkv=>kv.1=k)=l.any (λe=>e.1=k):=by have:=congrArg (λz=>z.any λy=>decide (y=k)) H.keys;simpa[List.any_map,Function.comp_def]using this
 unfold iI ahY;rw[e];split
 ·exact H.map hv
 ·exact H.snoc hv
section
variable{prog:d5}{w:fA}{K:Type}[DecidableEq K]{knd:agY prog w K}{cX:K->FV}{h:wq}{P N:dq->Prop}{as:List dq}{a:dq}
def Mb (knd:agY prog w K)(cX:K->FV):Prop:= ∀k hs v,PC w (cX k) hs v↔(knd.is k v=true/\hs=knd.hash k)
theorem qK:Mb (agZ prog w) FV.str:=λk hs v=>by
 constructor
 ·rintro⟨⟨t,rfl⟩,e⟩;exact⟨by show adp k (.str k t)=true;simp[adp],e⟩
 ·rintro⟨e,e2⟩;exact⟨Value.isStrOf_shape e,e2⟩
theorem CP:Mb (t4 prog w) FV.int:=λk hs v=>by
 constructor
 ·rintro⟨⟨t,rfl⟩,e⟩;exact⟨by show sv k (.int k t)=true;simp[sv],e⟩
 ·rintro⟨e,e2⟩;exact⟨Value.isInt_shape e,e2⟩
theorem Hu(E:Mb knd cX): ∀{l:List (K×AV)} {es:List Ki},jQ w h P N as (l.map λp=>(cX p.1,p.2)) es->(∀e∈es,∃k,knd.is k e.key=true/\e.hash=knd.hash k)/\ ∃gG,Pairs knd es gG/\gk h P N as l gG:=by
 intro lz;induction lz with
 |nil=>intro _ H;cases H;exact⟨λaa h=>(nomatch h),[],.nil,rfl⟩
 |cons mE l ih=>
  intro _ xx;obtain⟨k,f⟩:=mE;obtain⟨e,r,eq,hk,hv,hr⟩:=xx;subst eq;obtain⟨i1,gG,i2,i3⟩:=ih hr;have MZ:=(E k _ _).mp hk;refine⟨λx hx=>?_,(k,e.val)::gG,.cons MZ.1 rfl i2,_,_,rfl,hv,i3⟩;rcases a5.mp hx with rfl|hx
  ·exact⟨k,MZ⟩
  ·exact i1 x hx
set_option tactic.hygienic true in
theorem Hv(E:Mb knd cX): ∀{l:List (K×AV)} {es:List Ki} {gG:List (K×a7)},(∀e∈es,∃k,knd.is k e.key=true/\e.hash=knd.hash k)->Pairs knd es gG->gk h P N as l gG->jQ w h P N as (l.map λp=>(cX p.1,p.2)) es:=by
 intro lz;induction lz with
 |nil=>intro es gG _ hp H;cases H;cases hp;rfl
 |cons mE l ih=>
  intro es _ hk hp ZJ;obtain⟨k,f⟩:=mE;obtain⟨v,r,eq,hv,hr⟩:=ZJ;subst eq;cases hp with
  |cons h1 h2 h3=>
   rename_i e es
   obtain⟨k',q1,q2⟩:=hk e (.head _);have:k' =k:=knd.inj _ _ _ q1 h1;subst this;exact⟨e,es,rfl,(E k' _ _).mpr ⟨q1,q2⟩,h2▸hv,ih (λx hx=>hk x (.tail _ hx)) h3 hr⟩
theorem pB(E:Mb knd cX)(hn:(l.map (·.1)).Nodup)(H:OR w h P N as (.dict (l.map λp=>(cX p.1,p.2))) a): ∃gG,h.DictOf knd a gG/\gk h P N as l gG:=by refine nn λhN=>?_;obtain⟨es,n,g,r⟩:=H;obtain⟨i1,gG,i2,i3⟩:=Hu E r;refine hN ?_;refine⟨gG,⟨_,es.toArray,n,g,⟨rfl,rfl,rfl⟩,rfl,λe he=>i1 e (by simpa using he),by simpa using i2,by rw[i3.keys];exact hn⟩,i3⟩
theorem vg(E:Mb knd cX)(D:h.DictOf knd a gG)(H:gk h P N as l gG):OR w h P N as (.dict (l.map λp=>(cX p.1,p.2))) a:=by refine nn λhN=>?_;obtain⟨o,es,ep,ho,⟨h1,h2,h3⟩,hd,hk,hp,_⟩:=D;obtain⟨c0,d0,dt,sl⟩:=o;dsimp only at h1 h2 h3 hd;subst h1 h2 h3 hd;exact hN ⟨es.toList,ep,by simpa using ho,Hv E (λe he=>hk e (by simpa using he)) hp H⟩
end
section
variable{c:Cx}{st:St}{K:Type}[DecidableEq K]{knd:agY c.prog c.w K}{cX:K->FV}
theorem item_dict (E:Mb knd cX){j:Nat}{l:List (K×AV)}{k:K}{b f:AV}{Q:AV->St->Prop}(hj:st.own[j]?=some (.dict (l.map λp=>(cX p.1,p.2))))(hn:(l.map (·.1)).Nodup)(hb: ∀{h P N as v},dj h P N as b v->knd.is k v=true)(hf:(l.find? λe=>e.1=k)=some (k,f))(h:Q f st):Item c b (.own j) st Q:=λT x y s S=>by have S' :=S;obtain⟨m,as,P,N,B⟩:=S';obtain⟨d,hd,rfl⟩:=B.bw _ (.tail _ (.head _));obtain⟨d2,hd2,r⟩:=B.own.get hj;cases hd.symm.trans hd2;obtain⟨gG,D,A⟩:=pB E hn r;obtain⟨v,hv,q⟩:=A.get hf;refine⟨"dict",_,adq.lookup,D.mapOf.typeIs,agh (hb (B.bw _ (.head _))) D.mapOf hv ⟨f,st,⟨m,as,P,N,?_⟩,h⟩⟩;have B2:az c st T {s with toks:=s.toks+1} m as P N:=(B.less λp hp=> .tail _ (.tail _ hp)).grow (s' :={s with toks:=s.toks+1}) (gB.of λaa aa e=>e) ⟨[],by simp,λaa h=>(nomatch h)⟩ rfl;exact B2.push q
inductive Rq(knd:agY c.prog c.w K)(cX:K->FV)(Q:Fl->St->Prop)(a b d:AV)(gW:St):Prop
 |mk (j:Nat) (l:List (K×AV)) (k:K) (e:b= .own j) (h1:gW.own[j]?=some (.dict (l.map λp=>(cX p.1,p.2)))) (h2:(l.map (·.1)).Nodup) (h3:l.length≤1000) (h4: ∀{h P N as v},dj h P N as d v->knd.is k v=true) (q:Q .next ⟨gW.loc,gW.own.set j (.dict ((iI l k a).map λp=>(cX p.1,p.2)))⟩)
variable(c)in
def Rt (i:Expr)(knd:agY c.prog c.w K)(cX:K->FV)(Q:Fl->St->Prop)(a:AV):AV->St->Prop:=λb bD=>Ev c i bD (Rq knd cX Q a b)
variable(c)in
def Ru (o i:Expr)(knd:agY c.prog c.w K)(cX:K->FV)(Q:Fl->St->Prop):AV->St->Prop:=λa bl=>Ev c o bl (Rt c i knd cX Q a)
theorem kE(E:Mb knd cX)
  (h:Ev c e st (Ru c o i knd cX Q))
  (hs:ab7 e (some (.Subscript o i p')) pos.line c.env=pure false:=by rfl):Ex c (.Assign [.Subscript o i p'] e pos) st Q:= .mk λT s S=>by
 refine adE (wpS (h.run T s S) (λv s1 z=>?_)) hs;obtain⟨a,bl,S1,h1⟩:=z;refine wpS (h1.run _ s1 S1) (λu s2 z=>?_);obtain⟨b,bD,S2,h2⟩:=z;refine wpS (h2.run _ s2 S2) (λy s3 z=>?_);obtain⟨d,gW,S3,j,l,k,rfl,hj,hn,hl,hd,q⟩:=z;obtain⟨m,as,P,N,B⟩:=S3;have hy:=B.bw _ (.head _);obtain⟨x,hx,rfl⟩:=B.bw _ (.tail _ (.head _));obtain⟨x',mG,r⟩:=B.own.get hj;cases hx.symm.trans mG;have hv:=B.bw _ (.tail _ (.tail _ (.head _)));obtain⟨gG,D,A⟩:=pB E hn r;have hb:=B.fresh x (d3 hx);have hlen:gG.length=l.length:=by have:=congrArg aab A.keys;simpa using this
 refine wpAny_setItem_pairs (hd hy) D (λh' D' hs=>⟨.next,_,⟨rfl,m,as,P,N,(B.mH (o' := .dict ((iI l k a).map λp=>(cX p.1,p.2))) (t' :=s3.toks+1) hx hs ?_).less λaa h=> .tail _ (.tail _ (.tail _ h))⟩,q⟩) (by rw[mB];lia);have kP: ∀a o,P a->s3.heap.get? a=some o->h'.get? a=some o:=λa o p e=>(hs.2 a λq=>hb.2.2.1 (q▸p)).trans e;exact vg E D' ((gk.stored hv A).mono kP (λaa x=>x) (λa o p=>kP a o (B.nP a p)) (λaa x=>x) λaa aa x=>x)
theorem yp(O:Ok c)(h:Q (.own st.own.length) ⟨st.loc,st.own++[.dict []]⟩):Ev c (.Dict [] [] pos) st Q:= .mk λT s S=>by obtain⟨m,as,P,N,B⟩:=S;exact wpAny_Dict_empty ⟨_,_,⟨m,_,P,N,B.iS O (ao:= .dict []) ⟨[],0,bc _ rfl,rfl⟩⟩,h⟩
end
section
variable{c:Cx}{st:St}
theorem isStrOf_self (x:Str)(t:Tok):adp x (.str x t)=true:=by simp[adp]
noncomputable abbrev r9(c:Cx)(pos:Pos)(ps:List (Str×Nat×Pos×Expr)):List (Sem a7×Sem a7):=ps.map λp=>(acp (.Constant (.str p.1) p.2.1 p.2.2.1) c.env,do let x<-acp p.2.2.2 c.env;aau pos;pure x)
theorem Hw{pos:Pos}: ∀{ps:List (Str×Nat×Pos×Expr)} {st:St} {Q:List AV->St->Prop},uq c (ps.map (·.2.2.2)) st Q-> ∀(T:List (a7×AV)) (s:a8),aX c st T s->
  dE (dC c.prog c.w) c.A (evalPairs (r9 c pos ps)) (λvs s' =>E3 λas aO us=>A5 (Carries (agZ c.prog c.w) vs ((ps.map (·.1)).zip us)) (us.length=as.length) (us.length=ps.length) (aX c aO (us.zip as++T) s') (Q as aO)) (λaa aa=>False) s:=by
 intro lz;induction lz with
 |nil=>intro st Q H T s S;exact evalPairs_nil ⟨[],st,[],trivial,rfl,rfl,S,H⟩
 |cons p ps ih=>
  intro st Q H T s S;refine evalPairs_cons (ae0 (ab (wpS (Ev.run H T _ (S.dH (t' :=s.toks+1))) (λv s1 z=>?_))));obtain⟨a,bl,S1,h1⟩:=z;refine ab (rn (ax (wpS (ih h1 _ s1 S1) (λvs s2 z=>?_))));obtain⟨as,bD,us,hc,hl,gu,S2,q⟩:=z;refine⟨a::as,bD,v::us,⟨isStrOf_self p.1 s.toks,rfl,hc⟩,by simp[hl],by simp[gu],S2.sub λx hx=>?_,q⟩;rcases a5.mp hx with rfl|hx
  ·exact ba _ (.head _)
  ·rcases cp.mp hx with hx|hx
   ·exact bp _ hx
   ·exact ba _ (.tail _ hx)
theorem yq{K:Type}{h:wq}{P N:dq->Prop}{as:List dq}: ∀{ks:List K} {us:List a7} {qp:List AV},us.length=qp.length->us.length=ks.length->(∀p∈us.zip qp,dj h P N as p.2 p.1)->gk h P N as (ks.zip qp) (ks.zip us)
 | [],us,qp,hl,gu,H=>by have:us=[]:=nr gu;subst this;rfl
 |k::ks,u::us,a::qp,hl,gu,H=>⟨u,_,rfl,H (u,a) (.head _),yq (by simpa using hl) (by simpa using gu) λp hp=>H p (.tail _ hp)⟩
 |_::_,[],_,_,gu,_=>by simp at gu
 |_::_,_::_,[],hl,_,_=>by simp at hl
inductive Hx(n:Nat)(ks:List Str)(Q:AV->St->Prop)(as:List AV)(aO:St):Prop
 |mk (h:aO.own[n]?=some (.dict [])) (q:Q (.own n) ⟨aO.loc,aO.own.set n (.dict ((ks.zip as).map λp=>(.str p.1,p.2)))⟩)
theorem yr(O:Ok c)
  (NZ:(evalEachOpt keys c.env).zip ((evalEach values c.env).map λv=>do let x<-v;aau pos;pure x)=(r9 c pos ps).map λp=>(some p.1,p.2))(h0:ps≠ [])(hlen:ps.length≤15)(hn:(ps.map (·.1)).Nodup)
  (h:uq c (ps.map (·.2.2.2)) ⟨st.loc,st.own++[.dict []]⟩ (Hx st.own.length (ps.map (·.1)) Q)):
  Ev c (.Dict keys values pos) st Q:= .mk λT s S=>by
 obtain⟨m,as,P,N,B⟩:=S;have B1:=B.iS O (o:={cls:= .type "dict",data:= .dict #[]}) (ao:= .dict []) ⟨[],0,bc _ rfl,rfl⟩;refine wpAny_Dict_pairs (knd:=agZ c.prog c.w) (pairs:=r9 c pos ps) NZ (by simpa using h0) (by simpa using hlen) (wpS (Hw h _ _ ⟨m,_,P,N,B1⟩) (λvs s1 z=>nn λhN=>?_));obtain⟨qp,aO,us,hc,hl,gu,S2,hj,q⟩:=z;have Rv:=hl.symm.trans gu;obtain⟨m2,pT,P2,N2,B2⟩:=S2;obtain⟨d,hd,e⟩:=B2.bw _ (ba _ (.head _));cases e;obtain⟨d',fq,r⟩:=B2.own.get hj;refine hN ?_;cases hd.symm.trans fq;refine nn λhN=>?_;obtain⟨VL,D0,A0⟩:=pB (l:=([]:List (Str×AV))) (qK (prog:=c.prog)) rp r;have:VL=[]:=A0;subst this;refine hN ⟨_,hc,D0,λh' D' hs=>?_⟩;have hk:((ps.map (·.1)).zip us).map (·.1)=ps.map (·.1):=by rewrite [agg];rfl;simp[gu]
 rw[merged_nil_of_nodup _ (by rw[hk];exact hn)]at D';have hb:=B2.fresh _ (d3 hd);have kP: ∀a o,P2 a->s1.heap.get? a=some o->h'.get? a=some o:=λa o p e=>(hs.2 a λq=>hb.2.2.1 (q▸p)).trans e;have A1:gk s1.heap P2 N2 pT ((ps.map (·.1)).zip qp) ((ps.map (·.1)).zip us):=yq hl (by simpa using gu) λp hp=>B2.bw p (bp _ hp);have B3:=B2.mH (o' := .dict (((ps.map (·.1)).zip qp).map λp=>(.str p.1,p.2))) (h' :=h') (t' :=s1.toks+vs.length) hd hs (vg qK D' (A1.mono kP (λaa x=>x) (λa o p=>kP a o (B2.nP a p)) (λaa x=>x) λaa aa x=>x));exact⟨.own st.own.length,_,⟨m2,pT,P2,N2,B3.less λp hp=>ba _ hp⟩,q⟩
end
section
variable{c:Cx}{st:St}{T:List (a7×AV)}{s:a8}
theorem se (O:Ok c)(S:aX c st ((v,a)::T) s)(H:gc st.own a [u,w])(h1:cA st.loc x u l1)(h2:cA l1 y w l2)
  (hx:storeOk c x=true:=by kernel_rfl)(hy:storeOk c y=true:=by kernel_rfl):dE (dC c.prog c.w) c.A (afd (.Tuple [.Name x px,.Name y py] k pos) c.env v) (λaa s' =>aX c ⟨l2,st.own⟩ T s') (λaa aa=>False) s:=by
 rw[arm_assign_Tuple];refine ab (rn ?_);show dE _ c.A (NA [v] (unpackItems v 2 none)>>=λitems=>assignInOrder [afd (.Name x px) c.env,afd (.Name y py) c.env] items) _ _ s;refine ab (eJ (Cj O S H rfl λvs s2 hl S2=>?_));obtain⟨a1,b1,rfl⟩:=E1 hl;exact aa8 (xb (wpS (S2.eZ O hx h1) (λaa s3 S4=>aa8 (xb (wpS (S4.eZ O hy h2) (λaa s4 S5=>afC S5))))))
inductive Rw(x y:Str)(Q:Fl->St->Prop)(a:AV)(bl:St):Prop
 |mk (u v:AV) (l1 l2:List (Str×AV)) (h1:gc bl.own a [u,v]) (h2:cA bl.loc x u l1) (h3:cA l1 y v l2) (q:Q .next ⟨l2,bl.own⟩)
theorem mV(O:Ok c)
  (h:Ev c e st (Rw x y Q))
  (hx:storeOk c x=true:=by kernel_rfl)(hy:storeOk c y=true:=by kernel_rfl)
  (hs:swapsWithSole [.Tuple [.Name x px,.Name y py] k FL] e pos.line c.env=pure false:=by rfl)
  (hw:swappedStores [.Tuple [.Name x px,.Name y py] k FL] e c.env=pure none:=by rfl):Ex c (.Assign [.Tuple [.Name x px,.Name y py] k FL] e pos) st Q:= .mk λT s S=>by
 refine Assign_Tuple (wpS (h.run T s S) (λv s1 z=>?_)) hs hw;obtain⟨a,bl,S1,u,v',l1,l2,H,h1,h2,q⟩:=z;exact wpS (se O S1 H h1 h2 hx hy) (λaa s2 S2=>⟨.next,_,⟨rfl,S2⟩,q⟩)
end
noncomputable def Hy(k:Nat)(q:Nat->Rat):Rat:=((kl 1 (k-1)).map q).foldl (λm q=>if m<q then q else m) (q 0)
noncomputable def n9(k:Nat)(q:Nat->Rat):List Nat:=(ar k).filter λi=>decide (q i=Hy k q)
theorem Mc: ∀(l:List Nat) (q:Nat->Rat),yl (l.map λi=>AV.f (FR (q i))) (l.map q):=by
 intro lz;induction lz with
 |nil=>intro _;exact .nil
 |cons _ l ih=>intro q;exact .cons (.f _) (ih q)
theorem Hz(k:Nat)(q:Nat->Rat):(yi k q).map AV.f=(ar k).map λi=>AV.f (FR (q i)):=by simp
section
variable{c:Cx}{st:St}
theorem HB (O:bQ c n)(hK:c.K=KK c.w.params)(hn:5≤n)(hk:1≤k)(iE: ∀i<k,Sm (q i))(h: ∀b',dc b' (Hy k q)->Q b' st):aZ c (.builtin "max") [.f (.list (yi k q))] [] [] st Q:=by
 have jU:yl ((yi k q).map AV.f) (q 0::(kl 1 (k-1)).map q):=by rw[Hz];have:=Mc (ar k) q;rwa[show(ar k).map q=q 0::(kl 1 (k-1)).map q by rw[bJ hk];rfl]at this
 refine wM O hK hn (.f _) jU (λy hy=>?_) h;rw[show q 0::(kl 1 (k-1)).map q=(ar k).map q by rw[bJ hk];rfl,bb]at hy;obtain⟨i,hi,rfl⟩:=hy;exact iE i (a9.mp hi)
end
section
variable{c:Cx}{st:St}{T:List (a7×AV)}{s:a8}{m:Str->Option a7}{as:List dq}{P N:dq->Prop}
theorem az.KN (B:az c st T s m as P N)(x:Ext c.tt s s')(hf:s.heap.get? a=none)(ht:a∉c.tt)(ho:OR c.w s'.heap P N as ao a):az c ⟨st.loc,st.own++[ao]⟩ ((.ref a,.own st.own.length)::T) s' m (as++[a]) P N:=az.Ah (B.grow x.keep x.gens x.os) ho (B.cE hf ht) λaa hp=>B.jg hf hp
theorem HC(O:Ok c)(H:aQ st.own a (ku ns))(hs: ∀x∈ns,x<6)(h:Q (.own st.own.length) ⟨st.loc,st.own++[.aW (aq c.w) (fS 0 ns)]⟩):aZ c (.type "set") [a] [] [] st Q:=jn λT x s S=>by obtain⟨m,as,P,N,B⟩:=S;obtain⟨y,vs,n,rfl,g,r⟩:=B.list H (B.bw _ (.head _));have hlen:=r.length;refine rG O.hh (aP g) (pg r) (by rw[eM];rw[hlen];rw[ag];rfl) hs λh' tk o hk g' hn=>?_;have ext:Ext c.tt s {s with heap:=h',toks:=tk}:=⟨gB.of λb o e=>hk b o e,⟨[],by simp,λaa h=>nomatch h⟩,rfl⟩;exact⟨_,_,⟨m,_,P,N,az.KN (B.less λp hp=> .tail _ hp) ext (dv (cq _)) (B.dF O) (ao:= .aW (aq c.w) (fS 0 ns)) ⟨o,g',hn.rep⟩⟩,h⟩
end
section
variable{prog:d5}{w:fA}{A:ka}{E:a7->a8->Prop}{s:a8}{F:End->a8->Prop}
theorem sf (hh:A.handled=none)(hl:s.heap.NoLimit)(fX:A.depth<ph)(hg:s.heap.IsGen a g)(QM:s.gens[g]?=some gs)
  (CD:iX (dC prog w) A.in1 F gs (s.setGen g .running))
  (hF: ∀e s₁,F e s₁->e.quiet=true/\((∃v,e.result= .yielded v/\Q v (s₁.setGen g e.genState))∨((e= .ret (.ok (.ret .none))∨e= .ret (.ok .next))/\ ∀h' x,(∀b o,s₁.heap.get? b=some o->h'.get? b=some o)->(∃o,h'.get? x=some o/\o.cls= .type "StopIteration")->E (.ref x) {s₁.setGen g .finished with heap:=h' }))):
  dE (dC prog w) A (xI (.ref a)) Q E s:=by
 unfold xI;refine ab (vx (name:=fe "__next__") hg.typeIs ab3
  (oe ab3 hg.typeIs entry_gen_next ?_ (args_gen_next _)))
 show dE _ A.in1 (H5 (.ref a) (.send .none)) _ _ s;unfold H5;refine ab (eJ (agT hg (ab (wpAny_genState QM ?_))));have main: ∀{k:ahX->Sem PySem.Fin} {Q' :PySem.Fin->a8->Prop} {E' :a7->a8->Prop} {l:List a7},(∀(v:a7) (s' :a8),Q v s' ->dE (dC prog w) A.in1 (k (.yielded v)) Q' E' s')->
   (∀s₁:a8,(∀(h' :wq) (x:dq),(∀b o,s₁.heap.get? b=some o->h'.get? b=some o)->(∃o,h'.get? x=some o/\o.cls= .type "StopIteration")->E (.ref x) {s₁.setGen g .finished with heap:=h' })->dE (dC prog w) A.in1 (k (.returned .none)) Q' E' (s₁.setGen g .finished))->
   dE (dC prog w) A.in1 (.resume g (.send .none) l k) Q' E' s:=λh1 h2=>by
  refine CC QM CD λe s₁ he=>?_;obtain⟨q,z⟩:=hF e s₁ he;refine⟨q,?_⟩;rcases z with⟨v,e1,e2⟩|⟨rfl|rfl,z⟩
  ·rw[e1];exact h1 v _ e2
  ·exact h2 s₁ z
  ·exact h2 s₁ z
 cases gs with
 |running=>exact CD.elim
 |finished=>exact CD.elim
 |_=>
  refine ab (agd hl fX (main (λv s' hq=>?_) λs₁ hq=>?_))
  ·exact ax ⟨v,rfl,ax hq⟩
  ·show dE _ _ (newExc (.type "StopIteration") []>>=_) _ _ _;refine ab (ab (oP (ab (m:=aaC _ _) (kA (a:=tI) (by first|rfl|(simp only[aaC];rfl)) ?_)) (by size_fits)));refine oP ?_ (by size_fits);dsimp only;refine ab (ab (afj ?_));rw[show A.in1.handled=none from hh];exact agO (hq _ _ (λb o hb=>aw _ (aw _ hb)) ⟨_,bc _ rfl,rfl⟩)
theorem D5{Q:a7->a8->Prop}(he:af2 s.heap e it i old)
  (h:dE (dC prog w) A (xI (.ref it)) (λx s1=>af2 s1.heap e it i old/\ ∀(h' :wq) (tk t:Nat),ahZ h' e it ((i:Int)+1) x s1.heap.objs.size->h'.get? s1.heap.objs.size=some {cls:= .type "tuple",data:= .seq #[.int i t,x]}->
   (∀b o,b≠e->s1.heap.get? b=some o->h'.get? b=some o)->Q (.ref s1.heap.objs.size) {s1 with heap:=h',toks:=tk}) E s):
  dE (dC prog w) A (Builtin.«enumerate.__next__» ⟨[.ref e],[]⟩) (λfin s' => ∃v,fin= .done (.ret v)/\Q v s') E s:=by
 show dE _ _ (field (.ref e) 2>>=_) _ _ _;refine ab (aci he rfl (x:= .ref it) rfl (ab (wpS h (λx s1 z=>?_))));obtain⟨yt,hQ⟩:=z;obtain⟨h₁,g,d,tk,os⟩:=s1;dsimp only at yt hQ;refine ab (aci yt rfl (x:=wy i) rfl (ab (aci yt rfl (x:= .none) rfl (ab (aeO (ab (TK yt (by simp) λh₂ HD CQ=>?_)))))));replace CQ:lL e h₁ h₂:=CQ;replace HD:af2 h₂ e it ((i:Int)+1) old:=HD;refine ab (TK HD (by simp) λh₃ HE CR=>?_);replace CR:lL e h₂ h₃:=CR;replace HE:af2 h₃ e it ((i:Int)+1) old:=HE;show dE _ _ (newTuple [.int i tk,x]>>=_) _ _ ⟨h₃,g,d,tk+1,os⟩;refine ab (aeG ?_);have CS:af2 (h₃.push {cls:= .type "tuple",data:= .seq #[.int i tk,x]}) e it ((i:Int)+1) old:=aw _ HE;generalize Me:h₃.push {cls:= .type "tuple",data:= .seq #[.int i tk,x]}=h₄ at CS;have tP:h₃.objs.size=h₁.objs.size:=by rw[CR.1];rw[CQ.1];rfl
 have Nm:e<h₁.objs.size:=d4 yt;have Rx:h₄.get? h₁.objs.size=some {cls:= .type "tuple",data:= .seq #[.int i tk,x]}:=by refine bS (Me ..) ?_;refine bS (tP ..) ?_;exact bc _ rfl
 have Ry: ∀b o,b≠e->h₁.get? b=some o->h₄.get? b=some o:=λb o KO hb=>by refine bS (Me ..) ?_;exact aw _ (CR.extBut b o KO (CQ.extBut b o KO hb))
 rw[tP];refine ab ?_;unfold aeR;refine ab (aci CS rfl (x:= .none) rfl (ax (ab (Fn (ab (aci CS rfl (x:=old) rfl (ab (TK CS (by simp) λh₅ HF HG=>?_))))))));replace HG:lL e h₄ h₅:=HG;replace HF:af2 h₅ e it ((i:Int)+1) x:=HF;show dE _ _ (aaF (.ref e) (.ref h₁.objs.size)>>=_) _ _ ⟨h₅,g,d,tk+1,os⟩;refine ab ?_;unfold aaF;refine ab (TK HF (by simp) λh₆ HH HJ=>?_);replace HJ:lL e h₅ h₆:=HJ;replace HH:ahZ h₆ e it ((i:Int)+1) x h₁.objs.size:=HH;refine TK HH (by simp) λh₇ HK HL=>?_;replace HL:lL e h₆ h₇:=HL;replace HK:ahZ h₇ e it ((i:Int)+1) x h₁.objs.size:=HK;have kk: ∀b o,b≠e->h₄.get? b=some o->h₇.get? b=some o:=λb o KO hb=>HL.extBut b o KO (HJ.extBut b o KO (HG.extBut b o KO hb));exact ab (y6 (ax ⟨_,rfl,hQ h₇ (tk+1) tk HK (kk _ _ (pz Nm) Rx) λb o KO hb=>kk b o KO (Ry b o KO hb)⟩))
theorem N5{M:adC}{A:ka}{F:a7->a8->Prop}{E:a7->a8->Prop}{R:Bool->a8->Prop}{s:a8}{g:_->Bool}(h: ∀b,R b s):dE M A stack (λa s' =>dE M A (pure (g a)) R E s') F s:=wpAny_stack_any λaa=>ax (h _)
set_option tactic.hygienic true in
theorem D6(h:dE (dC prog w) A.in1.in1 (aba v) (λr s' => ∃it,r= .ref it/\Q (.ref s'.heap.objs.size) {s' with heap:=s'.heap.push {cls:= .type "enumerate",data:= .fields #[.none,.bool false,.ref it,wy 0,.none,.none]}}) (λaa aa=>False) s):
  dE (dC prog w) A (call (.type "enumerate") [v]) Q E s:=by
 refine callType_newIn (S:=λA R s=>dE (dC prog w) A.in1 (aba v) (λr s' => ∃it,r= .ref it/\R (.ok (.ret (.ref s'.heap.objs.size))) {s' with heap:=s'.heap.push {cls:= .type "enumerate",data:= .fields #[.none,.bool false,.ref it,wy 0,.none,.none]}}) (λaa aa=>False) s) F.called_enumerate (by decide) (F.typeCall_enumerate_1 _) (F.newCall_enumerate_1 _) (λobj=>F.args_object_init_2 obj _) F.entry_enumerate_new
  (.of_wp λA R s h=>?_) (wpS h (λr s' z=>?_))
 ·have qh:=sub_enumerate;obtain⟨hp,g,d,tk,os⟩:=s
  wp_walk
  have key:dE (dC prog w) A.in1 (aba v>>=λx=>agq (.type "enumerate") (aeS++[x,wy 0,.none,.none])>>=λy=>ret y) (λfin s' => ∃v,fin= .done (.ret v)/\R (.ok (.ret v)) s') (λe s' =>R (.error e) s') ⟨hp,g,d,tk,os⟩:=by refine ab (hO h (λr s' z=>?_) aM);obtain⟨it,rfl,q⟩:=z;show dE _ _ (newObj (.type "enumerate") (.fields #[.none,.bool false,.ref it,wy 0,.none,.none])>>=λy=>ret y) _ _ s';exact ab (oP (ax ⟨_,rfl,q⟩) (by size_fits))
  refine N5 λb=>?_;cases b
  ·exact key
  ·exact key
 ·obtain⟨it,rfl,q⟩:=z;exact⟨it,rfl,⟨_,bc _ rfl,rfl⟩,q⟩
end
noncomputable abbrev jy(it:dq)(i:Int)(old:a7):Obj:={cls:= .type "enumerate",dict:=none,data:= .fields #[.none,.bool false,.ref it,wy i,.none,old],slots:= #[]}
def HM(g:Gx)(A:ka)(I:dq):List FV->List (a7×FV)->List (dq×Obj)->List de->Prop
 | [],ro,H,X=> ∀s,c8 g ro H X s->dE (dC g.prog g.w) A (xI (.ref I)) (λaa aa=>False) (λe s' =>(E2 λx o=>A3 (e= .ref x) (s'.heap.get? x=some o) (o.cls= .type "StopIteration"))/\ ∃X',Fin' g H X s X' s') s
 |x::l,ro,H,X=> ∀s,c8 g ro H X s->dE (dC g.prog g.w) A (xI (.ref I)) (λv s' =>E3 λcY H' X' =>A3 (c9 g H X s H' X' s') (Yv g ro H s H' s' ((v,x)::cY)) (HM g A I l cY H' X')) (λaa aa=>False) s
section
variable{g:Gx}{ro cY:List (a7×FV)}{v:a7}{x:FV}{H H' :List (dq×Obj)}{X X' :List de}{s s' :a8}{A:ka}
theorem D7 {ad:dq}{oa:Obj}(hh:A.handled=none)(fX:A.depth<ph): ∀(l:List FV) (ro:List (a7×FV)) (H:List (dq×Obj)) (X:List de) (gs:de),
  (oa.cls= .type "generator" /\(E2 λnm qn=>oa.data= .fields #[.int (ix g X:Nat) 0,nm,qn])/\oa.slots= #[])->iY g A.in1 (ad,oa) l ro H X gs->HM g A ad l ro ((ad,oa)::H) (X++[gs]):=by
 intro lz;induction lz with
 |nil=>intro ro H X gs ho G;intro s R;refine sf (gs:=gs) hh R.ok.lim fX (ia (R.aV _ (.head _)).1 ho) R.at_ (G _ (R.set rfl)) λe s₁ hF=>?_;obtain⟨he,X',F⟩:=hF;refine⟨by rcases he with rfl|rfl<;>rfl,.inr ⟨he,λh' x hk hx=>⟨let⟨o,a,b⟩:=hx;⟨x,o,rfl,a,b⟩,X' ++[.finished],?_⟩⟩⟩;have F' :=Fin'.set (a:=gs) (b:= .finished) F rfl;exact⟨λb o h1 h2 e=>hk b o (F'.keep b o h1 h2 e),λb hb t=>(F'.tab b hb t).of λo=>hk b o,F'.os,F'.len,F'.bare,F'.gens⟩
 |cons x l ih=>
  intro ro H X gs ho G;intro s R;refine sf (gs:=gs) hh R.ok.lim fX (ia (R.aV _ (.head _)).1 ho) R.at_ (G _ (R.set rfl)) λe s₁ hF=>nn λhN=>?_;obtain⟨v,he,hq,cY,H',X',S,Y,G'⟩:=hF;refine hN ?_;have hl:X'.length=X.length:=by have:=S.len;simpa using this
  exact⟨hq,.inl ⟨v,he,cY,(ad,oa)::H',X' ++[e.genState],c9.set S (acZ hq),Y,ih cY H' X' e.genState (by rw[show ix g X' =ix g X by unfold ix;rw[hl];rfl];exact ho) G'⟩⟩
theorem c9.VM(R:c8 g ro ((a,o)::H) X s)(hs: ∀b o,b≠a->s.heap.get? b=some o->h'.get? b=some o)(e:h'.get? a=some o'):c9 g ((a,o)::H) X s ((a,o')::H) X {s with heap:=h',toks:=tk} where
 keep:=λb o aa hb e=>hs b o (λq=>hb (q▸ .head _)) e
 tab:=λb hb t=>t.of λo=>hs b o λq=>(R.aV _ (.head _)).2.1 (q▸hb)
 os:=rfl
 len:=rfl
 bare:=R.bare
 gens:=λtl e=>⟨[],by rw[fw];exact e,λaa h=>nomatch h⟩
 there:=λb hb aa hx=>by
  by_cases q:b=a
  ·rw[q];show(h'.get? a).isSome=true;rw[e];rfl
  ·obtain⟨o,e⟩:=cx.mp hx;rw[hs b o q e];rfl
 aV:=λp hp=>by
  rcases a5.mp hp with rfl|hp
  ·exact e
  ·refine hs _ _ (λq=>?_) (R.aV p (.tail _ hp)).1;have:=(dn.mp R.nd).1;exact this (bb.mpr ⟨p,hp,q⟩)
 new:=λp hp=> .inl (by
  rcases a5.mp hp with rfl|hp
  ·exact .head _
  ·exact .tail _ (eD hp))
 nd:=R.nd
noncomputable def pW:Nat->List FV->List FV
 |_,[]=> []
 |i,x::l=> .tuple [.int (i:Int),x]::pW (i+1) l
theorem vh(hT:s.TypeIs (.ref e) "enumerate")
  (h:dE (dC g.prog g.w) A.in1 (Builtin.«enumerate.__next__» ⟨[.ref e],[]⟩) (λfin s' => ∃v,fin= .done (.ret v)/\Q (some v) s') (λx s' =>E2 λa o=>A4 (x= .ref a) (s'.heap.get? a=some o) (o.cls= .type "StopIteration") (Q none s')) s):dE (dC g.prog g.w) A (aaW (.ref e)) Q E s:=by
 unfold aaW;refine ab (ab0 (vx (name:=fe "__next__") hT ad9
  (oe ad9 hT F.entry_enumerate_next (hO h (λfin s' z=>?_) λx s' z=>?_) (F.args_enumerate_next_1 _))))
 ·obtain⟨v,rfl,q⟩:=z;exact⟨v,rfl,ax q⟩
 ·obtain⟨a,o,rfl,h1,h2,q⟩:=z;exact ab (ub (T:="StopIteration") (b:=true) ⟨o,h1,h2⟩ aeD (ax q))
theorem D8{x1}: ∀(l:List FV) (i:Nat) (old:a7) (ro:List (a7×FV)) (H:List (dq×Obj)) (X:List de),HM g A.in1 it l ro H X->gf g A (.Tuple elts x1 pos) e (pW i l) ro ((e,jy it i old)::H) X:=by
 intro lz;induction lz with
 |nil=>intro i old ro H X L;intro s R;have he:af2 s.heap e it i old:=(R.aV _ (.head _)).1;refine vh ⟨_,he,rfl⟩ ?_;show dE _ _ (field (.ref e) 2>>=_) _ _ _;refine ab (aci he rfl (x:= .ref it) rfl (ab (hO (L s R.jJ) (λaa aa z=>z.elim) λx s1 z=>?_)));obtain⟨⟨a,o,rfl,h1,h2⟩,X',F⟩:=z;exact⟨a,o,rfl,h1,h2,rfl,X',Fin'.iZ R F⟩
 |cons x l ih=>
  intro i old ro H X L;intro s R;have he:af2 s.heap e it i old:=(R.aV _ (.head _)).1;refine vh ⟨_,he,rfl⟩ (D5 he (hO (L s R.jJ) (λv s1 z=>nn λhN=>?_) aM));obtain⟨cY,H',X',S0,Y0,L'⟩:=z;refine hN ?_;have S1:=c9.iZ R S0;have Y1:=Yv.iZ R S0 Y0;have R1:=c9.mS R S1 Y1;have XF:af2 s1.heap e it i old:=(R1.aV _ (.head _)).1;refine⟨XF,λh' tk t ho ht hk=>⟨_,rfl,wpAny_letOwnedTupleGo_enum ho λh2 VN uL=>?_⟩⟩;have k2: ∀b o,b≠e->s1.heap.get? b=some o->h2.get? b=some o:=λb o n q=>(uL.2 b n).trans (hk b o n q);have S2:c9 g ((e,jy it i old)::H') X' s1 ((e,jy it ((i:Int)+1) v)::H') X' {s1 with heap:=h2,toks:=tk}:=c9.VM R1 k2 VN;have nT:s1.heap.get? s1.heap.objs.size=none:=dv (cq _);have XG:s1.heap.objs.size≠e:=λq=>by rw[q,XF]at nT;exact(cu nT rfl).elim
  have ZK:h2.get? s1.heap.objs.size=some {cls:= .type "tuple",data:= .seq #[.int i t,v]}:=(uL.2 _ XG).trans ht;have ZL:s1.heap.objs.size∉g.tt:=λq=>ib _ (R1.ok.sz _ q);have Y2:Yv g ((v,x)::cY) ((e,jy it i old)::H') s1 ((e,jy it ((i:Int)+1) v)::H') {s1 with heap:=h2,toks:=tk} ((.ref s1.heap.objs.size,.tuple [.int i,x])::cY):=λP hP jc q hq=>by
   have up: ∀{p:a7×FV},VR s1.heap P p.2 p.1->VR h2 (λa=>P a∨(fC g.tt s1.heap a/\a∉HA ((e,jy it ((i:Int)+1) v)::H'))) p.2 p.1:=λz=>VR.mono (λb o pb q=>k2 b o (λz=>(hP b pb).2 (z▸ .head _)) q) (λaa h=> .inl h) z
   rcases a5.mp hq with rfl|hq
   ·refine⟨_,[.int i t,v],0,rfl,.inr ⟨⟨nT,ZL⟩,λz=>?_⟩,ZK,_,_,rfl,⟨t,rfl⟩,_,_,rfl,up (jc _ (.head _)),rfl⟩;obtain⟨p,hp,e'⟩:=bb.mp z;rcases a5.mp hp with rfl|hp
    ·exact XG e'.symm
    ·have:=(R1.aV p (.tail _ hp)).1;rw[e',nT]at this;exact(cu rfl this).elim
   ·exact up (jc q (.tail _ hq))
  exact⟨cY,_,X',S1.trans S2,Yv.trans S1 Y1 S2 Y2,ih (i+1) v cY H' X' L'⟩
end
noncomputable def CT:Act:=λprog w A v Q s=>dE (dC prog w) A (call (.type "enumerate") [v]) (λu s1=>dE (dC prog w) A (aba u) Q (λaa aa=>False) s1) (λaa aa=>False) s
section
variable{prog:d5}{w:fA}{K:abE}{tt:List dq}
theorem Good.in1 (G:Good K tt (n+1) A s):Good K tt n A.in1.in1 s:=by have R:cM (n+1) A:=⟨G.hh,G.dp,G.un⟩;exact⟨G.hh,by have:=G.dp;show A.depth+_<_;lia,by have:=G.un;show A.in1.in1.units+_<_;rw[aaz];rw[aaz];lia,G.cO,G.kt,G.lim,G.st,G.sz,G.tab⟩
theorem lA.enum{x1}(S:lA prog w K tt n x0 Ls):qF CT prog w K tt (n+1) x0 (λl' => ∃l,Ls l/\l' =pW 0 l) (.Tuple elts x1 pos):=λA s v0 Q G hv h=>by
 refine D6 (S A.in1.in1 s v0 _ G.in1 hv λad oa gs H X ro s' l hl C jc ho hg=>⟨ad,rfl,?_⟩);let eo:Obj:=jy ad 0 .none
 have gE:(s'.heap.push eo).get? s'.heap.objs.size=some eo:=bc _ rfl;refine afQ (e:=s'.heap.objs.size) (it:=ad) (i:=0) (old:= .none) gE ?_;have nE:s'.heap.get? s'.heap.objs.size=none:=dv (cq _);have tE:s'.heap.objs.size∉tt:=λq=>by obtain⟨o,_,e,_⟩:=G.tab _ q;have:=C.keep _ o e;rw[nE]at this;exact(cu rfl this).elim
 refine h s'.heap.objs.size ((s'.heap.objs.size,eo)::(ad,oa)::H) (X++[gs]) ro _ (pW 0 l) ⟨l,hl,rfl⟩ ⟨λb o e=>aw _ (C.keep b o e),λp hp=>?_,dn.mpr ⟨λz=>?_,C.nd⟩,C.gens,C.bare,C.os⟩ (λP hP q hq=>VR.mono (λb o aa e=>aw _ e) (λaa p=>p) (jc P hP q hq)) (λA' tD=>?_) λg0 os A s Q R hQ=>afQ (i:=0) (old:= .none) (R.aV _ (.head _)).1 hQ
 ·rcases a5.mp hp with rfl|hp
  ·refine⟨gE,?_,tE⟩;cases q:s.heap.get? s'.heap.objs.size with
   |none=>rfl
   |some o=>have:=C.keep _ o q;rw[nE]at this;exact(cu rfl this).elim
  ·exact⟨aw _ (C.aV p hp).1,(C.aV p hp).2⟩
 ·obtain⟨p,hp,e⟩:=bb.mp z;have:=(C.aV p hp).1;rw[e,nE]at this;exact(cu rfl this).elim
 ·have h1:cM n A'.in1:=tD.in1 (cq _);exact D8 l 0 .none ro _ _ (D7 h1.hh (by have:=h1.dp;exact w8 (a0 this (cb ph (4*n)))) l ro H X gs ho (hg A'.in1 h1))
end
theorem sj(ef:ag7 c.K ⟨c.prog,c.w.params⟩ (abC c.env "enumerate")=some (.type "enumerate")):xX c (.Name x px) (.Call (.Name "enumerate" p) [.Name x px] [] pos) CT:=λs Q hk h=>by exact aak (Bz ((Hc (M:=dC c.prog c.w) hk ef).here (ac7 (P:=λh=>c.K.In h) rfl (m9 rfl) (dU rfl rfl (adN (wpS h (λv s1 z=>adM (ae1 z))) rfl)))) rfl)
section
variable{g:Gx}{ro:List (a7×FV)}{H:List (dq×Obj)}{X:List de}{s:a8}{A:ka}{ad:dq}
noncomputable abbrev VO (g:Gx)(H:List (dq×Obj))(s:a8)(fd:Jn)(f:dq)(A:ka):Cx:=MV g.prog g.w g.K g.tt f fd A s [] (λa=>vQ g.tt s a/\a∉HA H) H g.g0
theorem D9(D:bx g.K f fd body)(R:c8 g ro H X s)(hA:cM (n+2) A)
  (hb:g.K.In s.heap->ac8 s fd ⟨[.ref ad],[]⟩ [(x,.ref ad)])(hx:f7 fd s.heap.objs.size x=true)
  (h: ∀A',bQ (VO g H s fd f A') n->cM n A' -> ∀s',aX ((VO g H s fd f A').v H (g.g0++X.toArray)) ⟨[(x,.f (.val (.ref ad)))],[]⟩ (ro.map λp=>(p.1,AV.f p.2)) s' ->
   dE (dC g.prog g.w) A' (agv body (sg fd s.heap.objs.size f)) (λfl s2=>E5 λv aO T' a r=>A4 (fl= .ret v) (aX (VO g H s fd f A') aO ((v,a)::T') s2) (jE aO.own a r) (∀v s',Kx g H s s' ->VR s'.heap (λb=>(s.heap.get? b=none∨b∈HA H)/\b∉g.tt) r v->Q v s')) (λaa aa=>False) s'):
  dE (dC g.prog g.w) A (call (.ref f) [.ref ad] []) Q (λaa aa=>False) s:=by
 have G:=R.ok.good (n:=n+2) hA;refine abt (enter (P0:=λa=>vQ g.tt s a/\a∉HA H) (own:=[]) (as:=[]) (loc:=[(x,.f (.val (.ref ad)))]) (T:=ro.map λp=>(p.1,AV.f p.2)) (H:=H) (g0:=g.g0) (G0:=g.g0++X.toArray) (n:=n) D (Good.deep (n:=n) ⟨G.hh,bj (eQ (rh 4 (me _)) _) G.dp,bj (eQ (rh 40 (me _)) _) G.un,G.cO,G.kt,G.lim,G.st,G.sz,G.tab⟩ G.hh (me _) (me _) (λaa aa e=>e) (cq _)) (hb G.cO) (dn.mpr ⟨ij,rp⟩) (λy hy=>?_) (λe he=>?_) rfl rp (λa ha=>?_) (λa ha=>ha.1) (λp hp=>⟨(R.aV p hp).1,ij⟩) R.nd ?_ (λp hp=>?_) λs' O S=>wpS (h _ O ⟨O.hh,O.dp,O.un⟩ s' S) (λfl s2 z=>?_))
 ·rw[fx.mp hy];exact hx
 ·rw[fx.mp he];exact⟨_,.head _,rfl⟩
 ·obtain⟨p,hp,e⟩:=bb.mp (ha.resolve_left ij);obtain⟨h1,h2,h3,h4⟩:=R.aV p hp;refine bS (e ..) ?_;exact⟨h2,λq=>q.2 (eD hp),h3,h4,by rw[h1];rfl⟩
 ·obtain⟨tl,e,hb⟩:=R.gens;exact⟨tl,by rw[e];apply RR;simp,hb⟩
 ·obtain⟨q,hq,e⟩:=bb.mp hp;exact bS (e ..) (VR.mono (λaa aa aa e=>e) (λa q=>⟨⟨q.2,q.1.1⟩,q.1.2⟩) (R.ro q hq).there)
 ·obtain⟨v,aO,T',a,r,e,⟨m,as,P,N,B⟩,qz,hq⟩:=z;have K:=leave B;rw[e];refine hq v s2 ⟨λb o h1 h2 e=>K.keep b o h1 ij h2 e,K.tab,K.os,K.gens⟩ (VR.mono (λaa aa aa e=>e) (λb hb=>?_) (B.Ft qz v (B.bw _ (.head _))));rcases hb with hb|hb
  ·exact⟨(K.nN b hb).symm,(K.pf b (K.nP b hb)).2⟩
  ·exact⟨((K.new b hb).resolve_left ij).symm,K.Js b hb⟩
end
noncomputable def AV.loose:AV->Bool
 | .f x=>x.flat
 | .n _=>true
 | .own _=>false
theorem AV.Bg{h h' :wq}{P N P' N' :dq->Prop}{as dZ:List dq}(k: ∀a o,N a->h.get? a=some o->h'.get? a=some o)(n: ∀a,N a->N' a): ∀{a:AV} {v:a7},a.loose=true->dj h P N as a v->dj h' P' N' dZ a v:=by
 intro lz;cases lz with
 |f _=>intro _ q r;exact VR.vM q r
 |n _=>intro _ _ r;exact VR.mono k n r
 |own _=>intro _ q _;cases q
theorem bu.loose{h h' :wq}{P N P' N' :dq->Prop}{as dZ:List dq}(k: ∀a o,N a->h.get? a=some o->h'.get? a=some o)(n: ∀a,N a->N' a): ∀{l:List AV} {vs:List a7},l.all AV.loose=true->bu h P N as l vs->bu h' P' N' dZ l vs:=by
 intro lz;induction lz with
 |nil=>intro _ _ r;exact r
 |cons a l ih=>intro _ q TF;obtain⟨v,r,e,x,y⟩:=TF;rw[xp,dk]at q;exact⟨v,r,e,a.Bg k n q.1 x,ih q.2 y⟩
section
variable{c:Cx}{st:St}
def Bh (Q:List AV->St->Prop):List AO->List AV->St->Prop:=λaa la bl=>la.all AV.loose=true/\Q la bl
theorem Bj(O:bQ c n)(cl:List (Str×dq))(eE:RF scope c.env=pure cl)
  (h:Ev c iter st (AA c scope cl n (.ListComp elt (⟨.Name x px,iter,ifs,0⟩::rest) scope pos) (Bh Q)))
  (dw:scope.kind= .function:=by kernel_rfl)(g8:(scope.names.all λx=>decide (x.2= .local->scope.names.lookup x.1=some .local))=true:=by kernel_rfl)
  (cj: ∀L,rk (abZ scope (si (L+1) scope.names cl) L c.env)=false:=by intro _;kernel_rfl)
  (hs: ∀y,il iter c.env y=pure y:=by intro _;rfl): ∀(T:List (a7×AV)) (s:a8) (use:Option (a7->Sem Unit)) (QQ:a7->a8->Prop),aX c st T s->
   (∀s' cF L o m p la bl,aX (c.v [(L,o)] c.g0) ⟨bl.loc,bl.own++[.list la]⟩ ((cF,.own bl.own.length)::p::T) s' ->s'.heap.get? L=some o->s'.heap.Ns L m->Q la bl->aht (dC c.prog c.w) c.A (λaa aa=>False) use QQ cF L (.ok .next) s')->
   dE (dC c.prog c.w) c.A (adg (.ListComp elt (⟨.Name x px,iter,ifs,0⟩::rest) scope pos) scope c.env (adV (⟨.Name x px,iter,ifs,0⟩::rest) pos) (afG []) false (acp iter c.env) use) QQ (λaa aa=>False) s:=λT s use QQ S AB=>ry (Q:=Bh Q) O cl eE h dw g8 cj hs T s use QQ S λs1 s' m as P N v a bl aO la pv B S' e1 Ur=>by
 obtain⟨hl,hq⟩:=Ur;obtain⟨m',dZ,P',N',B'⟩:=S';obtain⟨acc,N6,vs,cn,Rz,ZM⟩:=B'.own.get e1;obtain⟨Ni,RA,VP⟩:=B'.bw _ (.tail _ (.head _));have ea:acc=s1.heap.objs.size+1:=(Option.some.inj (N6.symm.trans RA)).trans (Value.ref.inj VP).symm;rw[ea]at Rz N6;have B2:=(B.grow (nF B').keep (nF B').gens (nF B').os).widen (F:=N') λb hb=>⟨(B'.pf b (B'.nP b hb)).2.1,{B.cE (nG B' (.inl hb)).1.1 (nG B' (.inl hb)).1.2 with nP:=id},λp hp=>B.jg (nG B' (.inl hb)).1.1 hp⟩;have A1:=B.cE (gQ 1) (B.uF 1);have A2:=B.cE (gQ 2) (B.uF 2);have B3:=az.Ah B2 (a:=s1.heap.objs.size+1) (ao:= .list la) ⟨vs,cn,Rz,bu.loose (λaa aa aa e=>e) (λaa h=> .inr h) hl ZM⟩ {A1 with nP:=λq=>q.elim A1.nP λq=>(B'.fresh _ (d3 N6)).2.2.1 (B'.nP _ q)} λp hp=>B.jg (gQ 1) hp;obtain⟨oL,Qq,Qs,DA,r⟩:=B'.ns;exact AB s' _ _ oL m' (v,a) la bl ⟨m,_,_,_,B3.vX DA {A2 with nP:=λq=>q.elim A2.nP λq=>(B'.pf _ (B'.nP _ q)).1 rfl,na:=λq=>(cp.mp q).elim A2.na λq=>absurd (fx.mp q) (adw _)} λp hp=>B.jg (gQ 2) hp⟩ DA ⟨oL,Qq,Qs,DA,r⟩ hq
end
theorem yu{M:adC}{A:ka}{E:a7->a8->Prop}{s:a8}{K:abE}{x C f:dq}{ox:Obj}{od:Option Obj}{name:Str}{Q:Option a7->a8->Prop}(X:K.In s.heap)(I:abY s.heap x ox C od)(hs:aaV K (.ref C) name=some (some (.ref f)))(hf:isFn K (.ref f)=true)
  (h:dE M A (call (.ref f) [.ref x]) (λv s' =>Q (some v) s') E s):dE M A (af3 (.ref x) name) Q E s:=by
 unfold af3;exact ab (ab (I.type.here ((adO X hs).here (eJ (ab ((ah9 X _ (beq_iff_eq.mp hf)).here (ab (wpS h (λv s' h' =>ax h')))))))))
section
variable{c:Cx}{st:St}
theorem yv {n n' :Nat}{C f:dq}{a:AV}{x:FV}{k:Nat}{Q:AV->St->Prop}(O:bQ c n)(ha:d9 st.own C a)(hs:aaV c.K (.ref C) "__len__" =some (some (.ref f)))(hf:isFn c.K (.ref f)=true)(H:Spec c.prog c.w c.K c.tt n' (.ref f) [x] [] (· = .int k))(hn:n' +1≤n)(qz:Snap st.own a x)(hk:k<2^62)
  (h:Q (.f (.int k)) st):aZ c (.builtin "len") [a] [] [] st Q:=jn λT v s S=>by
 have S' :=S;obtain⟨m,bs,P,N,B⟩:=S';obtain⟨x',d,o,rfl,I⟩:=B.inst ha (B.bw _ (.head _));have hv:=B.snap qz _ (B.bw _ (.head _));refine It kind_len plain_len entry_len (args_len1 _) ?_;unfold Builtin.«len»;refine ab (m:=oneArg "len" _) (ax (ab (m:=af3 (.ref x') (fe "__len__")) (yu (S.cO O.toOk) I hs hf (H.call c.A.in1 s [.ref x'] [] _ (S.good (A:=c.A.in1) O O.hh (cb _ _) (by rw[aaz];lia) hn) ⟨_,_,rfl,hv,rfl⟩ rfl λv s' r hr e hx=>?_))));subst hr;obtain⟨t,rfl⟩:=hx;show dE _ _ _ _ _ s';refine ab (eJ (ax (ab (y6 ?_))));rw[if_neg (Int.not_lt_of_ge (dA k))];show dE _ _ (if(k:Int)≥2^63 then _ else _) _ _ _;rw[if_neg (by lia)];refine ab (aeO (ax ⟨_,rfl,.f (.int k),st,?_,h⟩));have S2:aX c st ((.int k t,.n (.int k))::((.ref x',a)::T)) s' :=S.jk e ⟨t,rfl⟩;exact((S2.sub λp hp=> .tail _ (.tail _ hp)).dH (t' :=s'.toks+1)).int
end
section
variable{c:Cx}{st:St}{T:List (a7×AV)}{s:a8}{m:Str->Option a7}{as:List dq}{P N:dq->Prop}
theorem Ea (O:Ok c)(ha:aQ st.own a l)(hl:l.length≤1000)(kx:cT l xs)(h:Q (.n (.list xs)) st):aZ c (.type "list") [a] [] [] st Q:=jn λT y s S=>by obtain⟨m,as,P,N,B⟩:=S;obtain⟨x,vs,n,rfl,g,r⟩:=B.list ha (B.bw _ (.head _));have h1:=r.length;refine call_list_seq x (.inl rfl) g rfl rfl (λh' c' hk g' =>?_) (by rw[eM];rw[mB];lia);have ext:Ext c.tt s {s with heap:=h' }:=⟨gB.of λb o e=>hk b o e,⟨[],by simp,λaa h=>nomatch h⟩,rfl⟩;exact⟨.n (.list xs),st,(B.less λp hp=> .tail _ hp).jk ext ⟨_,vs,c',rfl,.inr ⟨dv (cq _),B.dF O⟩,g',kx.Pb (λa o aa e=>hk a o e) (λaa p=> .inl p) r⟩,h⟩
theorem HN(O:Ok c)(ha:aQ st.own a l)(hl:l.length≤1000)(kx:cT l xs)(h:Q (.n (.tuple xs)) st):aZ c (.type "tuple") [a] [] [] st Q:=
 jn λT y s S=>by
  obtain⟨m,as,P,N,B⟩:=S;obtain⟨x,vs,n,rfl,g,r⟩:=B.list ha (B.bw _ (.head _));have h1:=r.length;refine call_tuple_list (aP g) (λh' hk=>?_) (by rw[eM];rw[mB];lia);have k2: ∀b o,s.heap.get? b=some o->(h'.push {cls:= .type "tuple",data:= .seq vs.toArray}).get? b=some o:=λb o e=>aw _ (hk b o e);have ext:Ext c.tt s {s with heap:=h'.push {cls:= .type "tuple",data:= .seq vs.toArray}}:=⟨gB.of λb o e=>k2 b o e,⟨[],by simp,λaa h=>nomatch h⟩,rfl⟩;have nz:s.heap.get? h'.objs.size=none:=by
   cases q:s.heap.get? h'.objs.size with
   |none=>rfl
   |some o=>exact absurd (d4 (hk _ o q)) (ib _)
  refine⟨.n (.tuple xs),st,(B.less λp hp=> .tail _ hp).jk ext ⟨_,vs,0,rfl,.inr ⟨nz,λq=>?_⟩,bc _ rfl,kx.Pb (λa o aa e=>k2 a o e) (λaa p=> .inl p) r⟩,h⟩;obtain⟨o,_,e,_⟩:=B.low.2 _ q;rw[nz]at e;exact(cu rfl e).elim
def AV.lt(n:Nat):AV->Prop
 | .own i=>i<n
 |_=>True
def AO.lt(n:Nat):AO->Prop
 | .list l=> ∀a∈l,a.lt n
 | .tuple l=> ∀a∈l,a.lt n
 | .dict l=> ∀p∈l,p.2.lt n
 | .aW _ _=>True
 | .inst _ j=>j<n
 | .attrs l _=> ∀p∈l,p.2.lt n
theorem dj.lt(H:dj h P N as a v):a.lt as.length:=by
 cases a with
 |f x=>trivial
 |n x=>trivial
 |own i=>obtain⟨b,e,_⟩:=H;exact(ed.mp e).1
theorem bu.lt{h:wq}: ∀{l:List AV} {vs:List a7},bu h P N as l vs-> ∀a∈l,a.lt as.length:=by
 intro lz;induction lz with
 |nil=>intro _ _;exact gU
 |cons _ _ ih=>intro _ H;obtain⟨_,_,_,x,y⟩:=H;exact bH (dj.lt x) (ih y)
theorem jQ.lt{w:fA}{h:wq}: ∀{l:List (FV×AV)} {es:List Ki},jQ w h P N as l es-> ∀p∈l,p.2.lt as.length:=by
 intro lz;induction lz with
 |nil=>intro _ _;exact gU
 |cons mE _ ih=>intro _ H;obtain⟨_,_⟩:=mE;obtain⟨_,_,_,_,x,y⟩:=H;exact bH (dj.lt x) (ih y)
theorem iR.lt{h:wq}{m' :Str->Option a7}: ∀{l:List (Str×AV)},iR h P N as l m' -> ∀p∈l,p.2.lt as.length:=by
 intro lz;induction lz with
 |nil=>intro _;exact gU
 |cons mE _ ih=>intro H;obtain⟨_,_⟩:=mE;obtain⟨⟨_,_,x⟩,y⟩:=H;exact bH (dj.lt x) (ih y)
theorem OR.lt(H:OR w h P N as o a):o.lt as.length:=by
 cases o with
 |list l=>obtain⟨_,_,_,r⟩:=H;exact bu.lt r
 |tuple l=>obtain⟨_,_,_,r⟩:=H;exact bu.lt r
 |dict l=>obtain⟨_,_,_,r⟩:=H;exact jQ.lt r
 |aW b l=>trivial
 |inst C j=>obtain⟨_,e,_⟩:=H;exact(ed.mp e).1
 |attrs l k=>obtain⟨_,_,r,_⟩:=H;exact iR.lt r
theorem jT.lt{w:fA}{h:wq}: ∀{l:List AO} {bs:List dq},jT w h P N as l bs-> ∀o∈l,o.lt as.length:=by
 intro lz;induction lz with
 |nil=>intro _ _;exact gU
 |cons _ _ ih=>intro _ H;obtain⟨_,_,_,x,y⟩:=H;exact bH (OR.lt x) (ih y)
theorem dj.cut(H:dj h P N as a v)(hl:a.lt n):dj h P N (as.take n) a v:=by
 cases a with
 |f x=>exact H
 |n x=>exact H
 |own i=>obtain⟨b,e,q⟩:=H;exact⟨b,by rw[acG];rw[if_pos (show i<n from hl)];exact e,q⟩
theorem bu.cut{h:wq}{n:Nat}: ∀{l:List AV} {vs:List a7},bu h P N as l vs->(∀a∈l,a.lt n)->bu h P N (as.take n) l vs:=by
 intro lz;induction lz with
 |nil=>intro _ H _;exact H
 |cons _ _ ih=>intro _ bA hl;obtain⟨v,r,e,x,y⟩:=bA;exact⟨v,r,e,x.cut (hl _ (.head _)),ih y λa q=>hl a (.tail _ q)⟩
theorem jQ.cut{w:fA}{h:wq}{n:Nat}: ∀{l:List (FV×AV)} {es:List Ki},jQ w h P N as l es->(∀p∈l,p.2.lt n)->jQ w h P N (as.take n) l es:=by
 intro lz;induction lz with
 |nil=>intro _ H _;exact H
 |cons mE _ ih=>intro _ bA hl;obtain⟨_,_⟩:=mE;obtain⟨v,r,e,k,x,y⟩:=bA;exact⟨v,r,e,k,x.cut (hl _ (.head _)),ih y λa q=>hl a (.tail _ q)⟩
theorem iR.cut{h:wq}{n:Nat}{m' :Str->Option a7}: ∀{l:List (Str×AV)},iR h P N as l m' ->(∀p∈l,p.2.lt n)->iR h P N (as.take n) l m' :=by
 intro lz;induction lz with
 |nil=>intro _ _;exact trivial
 |cons mE _ ih=>intro bA hl;obtain⟨_,_⟩:=mE;obtain⟨⟨v,e,x⟩,y⟩:=bA;exact⟨⟨v,e,x.cut (hl _ (.head _))⟩,ih y λa q=>hl a (.tail _ q)⟩
theorem OR.cut(H:OR w h P N as o a)(hl:o.lt n):OR w h P N (as.take n) o a:=by
 cases o with
 |list l=>obtain⟨vs,k,g,r⟩:=H;exact⟨vs,k,g,r.cut hl⟩
 |tuple l=>obtain⟨vs,k,g,r⟩:=H;exact⟨vs,k,g,r.cut hl⟩
 |dict l=>obtain⟨vs,k,g,r⟩:=H;exact⟨vs,k,g,r.cut hl⟩
 |aW b l=>exact H
 |inst C j=>obtain⟨d,e,g⟩:=H;exact⟨d,by rw[acG];rw[if_pos (show j<n from hl)];exact e,g⟩
 |attrs l k=>obtain⟨m',g,r,q⟩:=H;exact⟨m',g,r.cut hl,q⟩
theorem jT.cut{w:fA}{h:wq}{n:Nat}: ∀{l x:List AO} {bs:List dq},jT w h P N as (l++x) bs->(∀o∈l,o.lt n)->jT w h P N (as.take n) l (bs.take l.length):=by
 intro lz;induction lz with
 |nil=>exact λaa aa=>rfl
 |cons _ _ ih=>intro _ _ bA hl;obtain⟨b,r,e,p,q⟩:=bA;subst e;exact⟨b,_,rfl,p.cut (hl _ (.head _)),ih q λo z=>hl o (.tail _ z)⟩
def St.lt(st:St)(n:Nat):Prop:=(∀e∈st.loc,e.2.lt n)/\ ∀o∈st.own,o.lt n
theorem az.lt(B:az c st T s m as P N):st.lt st.own.length/\ ∀p∈T,p.2.lt st.own.length:=by exact bS (B.own.length ..) ⟨⟨λe he=>by obtain⟨_,_,r⟩:=B.loc e he;exact r.lt,B.own.lt⟩,λp hp=>(B.bw p hp).lt⟩
theorem az.cut{loc:List (Str×AV)}{own ex:List AO}(B:az c ⟨loc,own++ex⟩ T s m as P N)(hl:St.lt ⟨loc,own⟩ own.length)(hT: ∀p∈T,p.2.lt own.length)(h0:c.Jr.length≤own.length):az c ⟨loc,own⟩ T s m (as.take own.length) P N:=by
 have sub: ∀a∈as.take own.length,a∈as:=λa h=>wd h;refine⟨B.ns,B.keep,B.low,B.gens,B.os,λe he=>?_,B.own.cut hl.2,B.nd.sublist (afR _ _),λa h=>B.fresh a (sub a h),B.pf,B.old,B.qf,B.nP,B.new,B.qg,λi a e=>?_,λx a e w=>?_,λp hp=>?_,B.bU,λp hp=>(B.bw p hp).cut (hT p hp)⟩
 ·obtain⟨v,x,y⟩:=B.loc e he;exact⟨v,x,y.cut (hl.1 e he)⟩
 ·rw[acG];rw[if_pos (a0 (ed.mp e).1 h0)];exact B.pre i a e
 ·obtain⟨c1,c2,c3,c4,c5,c6⟩:=B.kU x a e w;exact⟨c1,c2,c3,c4,λq=>c5 (sub a q),c6⟩
 ·obtain⟨c1,c2,c3,c4,c5,c6⟩:=B.aV p hp;exact⟨c1,c2,c3,c4,λq=>c5 (sub _ q),c6⟩
theorem KP(h:c.Jr=[]->bM c b ⟨loc,[]⟩ Q):bM c b ⟨loc,[]⟩ Q:= .mk λT s S=>by
 refine(h ?_).run T s S;obtain⟨m,as,P,N,B⟩:=S;have:as=[]:=B.own;cases hq:c.Jr with
 |nil=>rfl
 |cons a l=>have:=B.pre 0 a (by rw[hq];rfl);rw[‹as=[]›]at this;exact(cu rfl this).elim
def RB(n:Nat)(Q:Fl->St->Prop):Fl->St->Prop:=λf aO=>E3 λl own ex=>A6 (∀e∈l,e∈aO.loc) (aO.own=own++ex) (St.lt ⟨l,own⟩ own.length) (own.length≥n) (f= .next∨f= .cont) (Q f ⟨l,own⟩)
theorem HO(h0:c.Jr=[])(H:bM c b st (RB st.own.length Q)):bM c b st Q:= .mk λT s S=>by
 have hT: ∀p∈T,p.2.lt st.own.length:=by obtain⟨m,as,P,N,B⟩:=S;exact B.lt.2
 refine wpS (H.run T s S) (λf s' z=>?_);obtain⟨a,aO,x,l,own,ex,hl,he,cy,AM,hf,q⟩:=z;have go:aX c aO T s' ->aX c ⟨l,own⟩ T s' :=λS2=>by
  have S3:=S2.loc hl;rw[he]at S3;obtain⟨m,as,P,N,B⟩:=S3;refine⟨m,_,P,N,az.cut B cy (λp hp=>?_) (by rw[h0];exact kS _)⟩;have:=hT p hp;cases JC:p.2 with
  |f x=>trivial
  |n x=>trivial
  |own i=>rw[JC]at this;exact a0 this AM
 refine⟨a,⟨l,own⟩,?_,q⟩;rcases hf with rfl|rfl
 ·exact⟨x.1,go x.2⟩
 ·exact⟨x.1,go x.2⟩
theorem yw{prog:d5}{w:fA}{h:wq}: ∀{l:List (Int×FV)} {es:List Ki},BX h P l es->(∀e∈es,∃k,(t4 prog w).is k e.key=true/\e.hash=(t4 prog w).hash k)/\ ∃gG,A3 (Pairs (t4 prog w) es gG) (gG.map (·.1)=l.map (·.1)) (∀k f,(l.find? λe=>e.1=k)=some (k,f)-> ∃v,aio gG k=some v/\VR h P f v):=by
 intro lz;induction lz with
 |nil=>intro _ H;cases H;exact⟨λaa h=>(nomatch h),[],.nil,rfl,λaa aa h=>nomatch h⟩
 |cons mE l ih=>
  intro _ xx;obtain⟨k,f⟩:=mE;obtain⟨e,r,eq,⟨t,hk⟩,hh,hv,hr⟩:=xx;subst eq;obtain⟨i1,gG,i2,i3,i4⟩:=ih hr;have MZ:(t4 prog w).is k e.key=true:=by rw[hk];show sv k (.int k t)=true;simp[sv]
  refine⟨λx hx=>?_,(k,e.val)::gG,.cons MZ rfl i2,by simp[i3],λk' f' hf=>?_⟩
  ·rcases a5.mp hx with rfl|hx
   ·exact⟨k,MZ,hh⟩
   ·exact i1 x hx
  ·unfold aio;rw[ad8]at hf⊢
   by_cases q:k=k'
   ·subst q;simp only[decide_true]at hf⊢;cases hf;exact⟨e.val,rfl,hv⟩
   ·simp only[decide_eq_false q]at hf⊢;exact i4 k' f' hf
theorem mW(hn:(l.map (·.1)).Nodup)(hf:(l.find? λe=>e.1=k)=some (k,f))(h:Q (.f f) st):Item c (.f (.int k)) (.f (.iP l)) st Q:=λT x y s S=>by have S' :=S;obtain⟨m,as,P,N,B⟩:=S';obtain⟨t,rfl⟩:=B.bw _ (.head _);obtain⟨d,es,n,rfl,_,g,r⟩:=B.bw _ (.tail _ (.head _));obtain⟨i1,gG,i2,i3,i4⟩:=yw (prog:=c.prog) (w:=c.w) r;obtain⟨v,hv,q⟩:=i4 k f hf;have D:s.heap.DictOf (t4 c.prog c.w) d gG:=⟨_,es.toArray,n,g,⟨rfl,rfl,rfl⟩,rfl,λe he=>i1 e (by simpa using he),by simpa using i2,by rw[i3];exact hn⟩;refine⟨"dict",_,adq.lookup,D.mapOf.typeIs,agh (k:=k) (by show sv k (.int k t)=true;simp[sv]) D.mapOf hv ⟨.f f,st,⟨m,as,P,N,?_⟩,h⟩⟩;have B2:az c st T {s with toks:=s.toks+1} m as P N:=(B.less λp hp=> .tail _ (.tail _ hp)).grow (s' :={s with toks:=s.toks+1}) (gB.of λaa aa e=>e) ⟨[],by simp,λaa h=>(nomatch h)⟩ rfl;exact B2.push (a:= .f f) q
end
theorem Bk{prog:d5}{w:fA}{h:wq}{P:dq->Prop}: ∀{ks:List Int} {vs:List a7},eW h P (ks.map .int) vs->PySem.ItemsAre (t4 prog w) ks vs:=by
 intro lz;induction lz with
 |nil=>intro _ H;cases H;exact .nil
 |cons k ks ih=>intro _ xx;obtain⟨v,r,e,⟨t,hv⟩,y⟩:=xx;subst e;subst hv;exact .cons (by show sv k (.int k t)=true;simp[sv]) (ih y)
section
variable{c:Cx}{st:St}
theorem HP {ks:List Int}(O:bQ c n)(h0:c.Jr=[])
  (h:Ev c ke ⟨st.loc,st.own++[.dict []]⟩ λa bl=>a= .n (.tuple (ks.map .int))/\Ev c ve bl λaa bD=>bD=⟨st.loc,st.own++[.dict []]⟩/\Q (.f .any) st):Ev c (.Dict [some ke] [ve] pos) st Q:= .mk λT s S=>by
 obtain⟨m,as,P,N,B⟩:=S;obtain⟨cy,hT⟩:=B.lt;have B1:=B.iS O.toOk (o:={cls:= .type "dict",data:= .dict #[]}) (ao:= .dict []) ⟨[],0,bc _ rfl,rfl⟩;refine wpAny_Dict_any rfl rfl (abP _ _) (bo rfl) (evalPairs_cons (wpS (h.run _ _ ⟨m,_,P,N,B1⟩) (λkv s1 z=>?_)));obtain⟨a,bl,S1,rfl,h1⟩:=z;refine ab (wpS (h1.run _ s1 S1) (λvv s2 z=>?_));obtain⟨b,bD,S2,rfl,q⟩:=z;refine ab (rn (ax (evalPairs_nil (nn λhN=>?_))));obtain⟨m2,pT,P2,N2,B2⟩:=S2;obtain⟨d,hd,e⟩:=B2.bw _ (.tail _ (.tail _ (.head _)));cases e;obtain⟨d',fq,es,n0,gd,rd⟩:=B2.own.get (show(st.own++[AO.dict []])[st.own.length]?=some (.dict []) by simp);refine hN ?_;cases hd.symm.trans fq;cases rd;obtain⟨t,vs,nt,rfl,_,gt,rt⟩:=B2.bw _ (.tail _ (.head _));have hm:s2.heap.DictOfH (afo (t4 c.prog c.w)) s.heap.objs.size []:=⟨_,#[],n0,gd,⟨rfl,rfl,rfl⟩,rfl,rfl,λaa hx=>(by simp at hx),rp⟩;have hk:(afo (t4 c.prog c.w)).is s2.heap ks t:=⟨_,vs.toArray,nt,gt,rfl,rfl,by simpa using Bk rt⟩;unfold storeAll;rw[Kj];refine ab (ab (wpAny_dictSet_heap (knd:=afo (t4 c.prog c.w)) (by have:=O.un;show c.A.units<cLine;lia) hk hm (λh' aa hs=>ax ?_)));refine ax ⟨.f .any,st,?_,q⟩;have VQ:=d3 hd;refine nn λhN=>?_;obtain⟨f1,f2,f3,f4⟩:=B2.fresh _ VQ;refine hN ?_;have hlen:pT.length=st.own.length+1:=by rw[B2.own.length];simp
 have ZN:s.heap.objs.size∉pT.take st.own.length:=λz=>by
  have bU:=B2.nd;rw[<-aag st.own.length pT]at bU;refine(kd.mp bU).2.2 _ z _ ?_ rfl;have:(pT.drop st.own.length)[0]?=some s.heap.objs.size:=by rw[vu];exact hd
  exact d3 this
 have ZO: ∀p∈T,p.2.lt st.own.length:=hT;have B3:=az.cut (B2.less λp hp=> .tail _ (.tail _ (.tail _ hp)):az c ⟨st.loc,st.own++[.dict []]⟩ T s2 m2 pT P2 N2) cy ZO (by rw[h0];exact kS _);have B4:=az.vX B3 gd ⟨f1,f2,f3,ZN,f4,λx e=>abr.mpr λw=>(B2.kU x _ e w).2.2.2.2.1 VQ⟩ λp hp e=>(B2.aV p hp).2.2.2.2.1 (e▸VQ);have B5:=az.e8 (H:=[]) (H2:=[]) (t' :=s2.toks+(afo (t4 c.prog c.w)).draws ks) B4 (λb o hb e=>(hs.2 b hb).trans e) (.inl rfl);have B6:az c st T {s2 with heap:=h',toks:=s2.toks+(afo (t4 c.prog c.w)).draws ks} m2 (pT.take st.own.length) P2 N2:=B5;exact⟨m2,_,P2,N2,B6.push (a:= .f .any) trivial⟩
def Mf(Q:AV->St->Prop):List AV->St->Prop:=λla bl=>Q (.own bl.own.length) ⟨bl.loc,bl.own++[.list la]⟩
theorem sq(O:bQ c n)(cl:List (Str×dq))(eE:RF scope c.env=pure cl)
  (h:Ev c iter st (AA c scope cl n (.ListComp elt (⟨.Name x px,iter,ifs,0⟩::rest) scope pos) (Bh (Mf Q))))
  (dw:scope.kind= .function:=by kernel_rfl)(g8:(scope.names.all λx=>decide (x.2= .local->scope.names.lookup x.1=some .local))=true:=by kernel_rfl)
  (cj: ∀L,rk (abZ scope (si (L+1) scope.names cl) L c.env)=false:=by intro _;kernel_rfl)
  (hs: ∀y,il iter c.env y=pure y:=by intro _;rfl):Ev c (.ListComp elt (⟨.Name x px,iter,ifs,0⟩::rest) scope pos) st Q:= .mk λT s S=>by
 rw[eval_ListComp];refine Bj (Q:=Mf Q) O cl eE h dw g8 cj hs T s none _ S λs' cF L o m p la bl S' g ns hq=>⟨m,ns,λh' B8=>?_⟩;obtain⟨m2,pT,P2,N2,B2⟩:=S';have B3:=az.e8 (H:=[]) (H2:=[]) (t' :=s'.toks) B2 (λb o hb e=>(B8.2 b hb).trans e) (.inl rfl);exact⟨_,_,⟨m2,pT,P2,N2,B3.less λq hq=>by
  rcases a5.mp hq with rfl|hq
  ·exact .head _
  ·exact .tail _ (.tail _ hq)⟩,hq⟩
end
theorem HQ(x:FV):(AV.nw x).loose=true:=by cases x<;>rfl
theorem yx: ∀l:List FV,(l.map AV.nw).all AV.loose=true
 | []=>rfl
 |x::l=>by rw[eA];rw[xp];rw[HQ];rw[yx l];rfl
theorem HR(x:FV):jE own (AV.nw x) x:=by cases x<;>first|exact .f _ rfl|exact .n _
theorem pC: ∀l:List FV,j0 own (l.map AV.nw) l:=by
 intro lz;induction lz with
 |nil=>exact .nil
 |cons x l ih=>exact .cons (HR x) (ih)
theorem Bl(h:noName fr x=true):cA (fr++[(x,v)]) x a (fr++[(x,a)]):=by have:=gO (l:=fr++[(x,v)]) (x:=x) (a:=a) (i:=fr.length) (by rewrite [List.eraseIdx_append_of_length_le (cq _)];simpa using h);rwa[abJ _ _ (cq _),abG]at this
theorem Bm{c:Cx}{Q Q' :Bool->St->Prop}(h: ∀b st,Q b st->Q' b st): ∀{ifs:List Expr} {st:St},jF c ifs st Q->jF c ifs st Q' :=by
 intro lz;induction lz with
 |nil=>intro _ H;exact h _ _ H
 |cons _ _ ih=>
  intro _ H;exact λT s S=>wpS (H T s S) (λb s' z=>by
   obtain⟨aO,S',q⟩:=z;refine⟨aO,S',?_⟩;cases b with
   |true=>exact ih q
   |false=>exact h _ _ q)
section
variable{c:Cx}
def N7 (a:AV)(tL:St):AV->St->Prop:=λy gW=>y=a/\gW=tL
def ZP(b:Bool)(tL:St):Bool->St->Prop:=λx bD=>x=b/\bD=tL
def RC(c:Cx)(elt:Expr)(b:Bool)(r:AV)(tL:St):Bool->St->Prop:=λok bD=>A3 (ok=b) (bD=tL) (b=true->Ev c elt tL (N7 r tL))
def RD{α:Type}(l:List α)(cX:α->AV)(p:α->Bool)(res:α->FV)(fr:List (Str×AV))(x:Str)(r:List AV)(st:St):Prop:=E3 λ(done rest:List α) (e:List (Str×AV))=>A4 (l=done++rest) (r=rest.map cX) (e=[]∨ ∃v,e=[(x,v)]) (st=⟨fr++e,[.list (((done.filter p).map res).map AV.nw)]⟩)
theorem wQ{α:Type}(O:Ok c)(l:List α)(cX:α->AV)(p:α->Bool)(res:α->FV)(fr:List (Str×AV))(hlen:l.length≤1000)(jU:noName fr x=true)(hx:storeOk c x=true)
  (h: ∀a∈l,∀H G (la:List AV),jF (c.v H G) ifs ⟨fr++[(x,cX a)],[.list la]⟩ (RC (c.v H G) elt (p a) (AV.nw (res a)) ⟨fr++[(x,cX a)],[.list la]⟩)):
  nD c (.ListComp elt [⟨.Name x px,iter,ifs,0⟩] scope pos) (l.map cX) fr λaa la=>la=((l.filter p).map res).map AV.nw:=λI cF pv H G T s R Y S hR=>
 oZ O rfl rfl Y (RD l cX p res fr x) ⟨[],l,[],rfl,rfl,.inl rfl,by rw[fw];rfl⟩ (λaa aa aa=>trivial) hx (λb r st H G hI=>by
  obtain⟨done,rest,e,hl,hr,he,rfl⟩:=hI
  match rest,hr with
  |a::rest,hr=>
  cases hr;have ha:a∈l:=by rw[hl];exact ba _ (.head _)
  have SJ:done.length≤1000:=by have:=congrArg aab hl;rw[dy]at this;lia
  have Cg:=ml p done;refine⟨fr++[(x,cX a)],?_,?_⟩
  ·rcases he with rfl|⟨v,rfl⟩
   ·rw[fw];exact aU jU
   ·exact Bl jU
  ·have key:=h a ha H G (((done.filter p).map res).map AV.nw);have step: ∀(ok:Bool) (bD:St),RC (c.v H G) elt (p a) (AV.nw (res a)) ⟨fr++[(x,cX a)],[.list (((done.filter p).map res).map AV.nw)]⟩ ok bD->F5 (c.v H G) elt (RD l cX p res fr x (rest.map cX)) ok bD:=by
    rintro ok bD ⟨wA,rfl,Vn⟩;subst wA;cases hp:p a with
    |true=>refine(Vn hp).mono λy gW z=>?_;obtain⟨rfl,rfl⟩:=z;refine⟨_,rfl,by rw[ag];rw[ag];lia,done++[a],rest,[(x,cX a)],by rw[hl];rw[hJ];rfl,rfl,.inr ⟨_,rfl⟩,?_⟩;rw[Hm];rw[y7];rw[if_pos hp];simp
    |false=>refine⟨done++[a],rest,[(x,cX a)],by rw[hl];rw[hJ];rfl,rfl,.inr ⟨_,rfl⟩,?_⟩;rw[Hm];rw[y7];rw[if_neg (by rw[hp];decide)];simp
   exact Bm step key) S λs' aO S' Ng=>hR s' aO S' (by
  obtain⟨done,rest,e,hl,hr,he,Pc⟩:=Ng;rw[Pc];have:rest=[]:=by cases rest with|nil=>rfl|cons=>cases hr
  subst this;rw[fw]at hl;subst hl;exact⟨_,rfl,rfl⟩)
theorem run_map{α:Type}(O:Ok c)(l:List α)(cX:α->AV)(res:α->FV)(fr:List (Str×AV))(hlen:l.length≤1000)(jU:noName fr x=true)(hx:storeOk c x=true)(hQ:Q (l.map res))
  (h: ∀a∈l,∀H G (la:List AV),Ev (c.v H G) elt ⟨fr++[(x,cX a)],[.list la]⟩ (N7 (AV.nw (res a)) ⟨fr++[(x,cX a)],[.list la]⟩)):
  k7 c (.ListComp elt [⟨.Name x px,iter,[],0⟩] scope pos) (l.map cX) fr Q:=λI cF pv H G T s R Y S hR=>
 wQ (elt:=elt) (ifs:=[]) O l cX (λaa=>true) res fr hlen jU hx (λa ha H G la=>⟨rfl,rfl,λaa=>h a ha H G la⟩) I cF pv H G T s R Y S λs' aO S' ⟨la,e,q⟩=>hR s' aO S' ⟨la,e,l.map res,by rw[q];rw[acj.mpr λaa aa=>rfl];exact pC _,hQ⟩
theorem sr{α:Type}{Q:List AV->Prop}(O:Ok c)(l:List α)(cX:α->AV)(res:α->FV)(fr:List (Str×AV))(hlen:l.length≤1000)(jU:noName fr x=true)(hx:storeOk c x=true)(hQ:Q ((l.map res).map AV.nw))
  (h: ∀a∈l,∀H G (la:List AV),Ev (c.v H G) elt ⟨fr++[(x,cX a)],[.list la]⟩ (N7 (AV.nw (res a)) ⟨fr++[(x,cX a)],[.list la]⟩)):
  nD c (.ListComp elt [⟨.Name x px,iter,[],0⟩] scope pos) (l.map cX) fr λaa la=>la.all AV.loose=true/\Q la:=λI cF pv H G T s R Y S hR=>
 wQ (elt:=elt) (ifs:=[]) O l cX (λaa=>true) res fr hlen jU hx (λa ha H G la=>⟨rfl,rfl,λaa=>h a ha H G la⟩) I cF pv H G T s R Y S λs' aO S' ⟨la,e,q⟩=>hR s' aO S' ⟨la,e,by rw[acj.mpr λaa aa=>rfl]at q;rw[q];exact⟨yx _,hQ⟩⟩
theorem dP{α:Type}(O:Ok c)(l:List α)(cX:α->AV)(p:α->Bool)(res:α->FV)(fr:List (Str×AV))(hlen:l.length≤1000)(jU:noName fr x=true)(hx:storeOk c x=true)(hQ:Q ((l.filter p).map res))
  (ht: ∀a∈l,∀H G (la:List AV),tG (c.v H G) t ⟨fr++[(x,cX a)],[.list la]⟩ (ZP (p a) ⟨fr++[(x,cX a)],[.list la]⟩))
  (h: ∀a∈l,p a=true-> ∀H G (la:List AV),Ev (c.v H G) elt ⟨fr++[(x,cX a)],[.list la]⟩ (N7 (AV.nw (res a)) ⟨fr++[(x,cX a)],[.list la]⟩)):
  k7 c (.ListComp elt [⟨.Name x px,iter,[t],0⟩] scope pos) (l.map cX) fr Q:=λI cF pv H G T s R Y S hR=>
 wQ (elt:=elt) (ifs:=[t]) O l cX p res fr hlen jU hx (λa ha H G la=>λT s S=>wpS (ht a ha H G la T s S) (λb s' z=>by
   obtain⟨aO,S',rfl,rfl⟩:=z;refine⟨_,S',?_⟩;cases hp:p a with
   |true=>exact⟨rfl,rfl,λaa=>h a ha hp H G la⟩
   |false=>exact⟨rfl,rfl,λz=>by cases z⟩)) I cF pv H G T s R Y S λs' aO S' zz=>by obtain⟨la,e,q⟩:=zz;exact hR s' aO S' ⟨la,e,_,by rw[q];exact pC _,hQ⟩
end
theorem HS(k:Str): ∀{h:wq},dj h P N as (.f (.str k)) v->(agZ prog w).is k v=true:=λzz=>by obtain⟨t,e⟩:=zz;exact by subst e;exact isStrOf_self k t
section
variable{c:Cx}{st:St}
theorem ir (H:aQ st.own a l)(e:l.length=n)(hl:n≤1000000)(h:Q (.f (.int n)) st):aZ c (.builtin "len") [a] [] [] st Q:=by subst e;exact jq H hl h
theorem ZQ{i n:Nat}(h:i<6):(decide (0≤(i:Int)/\(i:Int)<6)&&n.testBit (i:Int).toNat)=n.testBit i:=by rw[decide_eq_true (⟨dA _,Hk.mpr h⟩:0≤(i:Int)/\(i:Int)<6)];rw[ab4];rw[sa];rfl
theorem wR(H:fM st.own a b n)(hi:i<6)(h:Q (.f (.bool (n.testBit i))) st):Op c [a,.f (.int (i:Nat))] (λvs=>match vs with| [y,x]=>md .In x y|_=> .raise .none) st Q:=NV H (by rw[ZQ hi];exact h)
theorem fV(O:Ok c)(i:Nat)(l:List (Str×AV))(h1:st.loc[i]?=some (x,.own j))(h2:st.own[j]?=some (.dict (l.map λp=>(FV.str p.1,p.2))))
  (hn:decide (l.map (·.1)).Nodup=true)(h3:(l.find? λe=>e.1=key)=some (key,.own m))(h4:st.own[m]?=some (.list la))(hp:plainArg e=true)(h:Ev c e st (LM (LC Q) m))
  (hl:c.env.kindOf x=some .local:=by rfl)(hd:(x==("__debug__" :Str))=false:=by kernel_rfl)(ha:(apos.endLine==pos.line)=true:=by rfl)(hb: ∀whole,adm (.Subscript (.Name x px) (.Constant (.str key) k0 p1) p2) "append" c.env whole=whole:=by intro _;rfl)
  (JS:ab7 (.Call (.Attribute (.Subscript (.Name x px) (.Constant (.str key) k0 p1) p2) "append" apos) [e] [] pos) none pos'.line c.env=pure false:=by rfl):
  Ex c (.Expr (.Call (.Attribute (.Subscript (.Name x px) (.Constant (.str key) k0 p1) p2) "append" apos) [e] [] pos) pos') st Q:=
 dR O (iT O hp (aY (af O i h1 (bz (item_dict (K:=Str) (knd:=agZ c.prog c.w) (cX:=FV.str) qK h2 (of_decide_eq_true hn) (HS _) h3 ⟨m,la,rfl,h4,h⟩)) hl hd)) (he:=b9 (by rw[xp];rw[hp];rfl) rfl (bo rfl) ha hb)) JS
end
section
variable{c:Cx}{st:St}
theorem yy (O:Ok c)(hn:decide [k0,k1,k2].Nodup=true)
  (h:uq c [v0,v1,v2] ⟨st.loc,st.own++[.dict []]⟩ (Hx st.own.length [k0,k1,k2] Q))(he:e= .Dict [some (.Constant (.str k0) n0 p0),some (.Constant (.str k1) n1 p1),some (.Constant (.str k2) n2 p2)] [v0,v1,v2] pos):Ev c e st Q:=by
 subst he;exact yr (ps:=[(k0,n0,p0,v0),(k1,n1,p1,v1),(k2,n2,p2,v2)]) O rfl (abP _ _) (bo rfl) (of_decide_eq_true hn) h
theorem HT(O:Ok c)(hn:decide [k0,k1,k2,k3].Nodup=true)
  (h:uq c [v0,v1,v2,v3] ⟨st.loc,st.own++[.dict []]⟩ (Hx st.own.length [k0,k1,k2,k3] Q))(he:e= .Dict [some (.Constant (.str k0) n0 p0),some (.Constant (.str k1) n1 p1),some (.Constant (.str k2) n2 p2),some (.Constant (.str k3) n3 p3)] [v0,v1,v2,v3] pos):Ev c e st Q:=by
 subst he;exact yr (ps:=[(k0,n0,p0,v0),(k1,n1,p1,v1),(k2,n2,p2,v2),(k3,n3,p3,v3)]) O rfl (abP _ _) (bo rfl) (of_decide_eq_true hn) h
end
noncomputable def cC(g:Nat->Rat)(vs:List (Int×Nat))(k:Nat):Nat->List Nat
 |0=> []
 |n+1=>cC g vs k n++[(n9 k (addQ g vs (cC g vs k n))).headD 0]
theorem yz:cC g vs k (n+1)=cC g vs k n++[(n9 k (addQ g vs (cC g vs k n))).headD 0]:=rfl
theorem CU(hk:1≤k):E2 λi r=>n9 k q=i::r:=by
 have hm:=l9 ((kl 1 (k-1)).map q) (q 0);rw[show q 0::(kl 1 (k-1)).map q=(ar k).map q by rw[bJ hk];rfl,bb]at hm;obtain⟨i,hi,e⟩:=hm;have:i∈n9 k q:=fI.mpr ⟨hi,by rw[decide_eq_true_eq];exact e⟩;cases h:n9 k q with
 |nil=>rw[h]at this;cases this
 |cons i r=>exact⟨i,r,rfl⟩
theorem N8:Sm ((-1:Int):Rat):=by constructor<;>decide
theorem KQ(M:gj g (fS 0 dg) vs k): ∀i<k,Sm (addQ g vs dg i):=λi hi=>by
 unfold addQ;split
 ·exact N8
 ·have:=M.sm vs.length (cq _) i hi;rwa[ti]at this
noncomputable abbrev oh:List (Str×AV):=[("next_cand",.own 2),("tied_cands",.own 3),("delta_score",.own 4)]
noncomputable def Mg(loc:List (Str×AV))(dg:Nat->AO):Lp Nat (List AV×List AV×List AV):=⟨λaa aa=>loc,λj y=> [dg j,.dict (oh.map λp=>(FV.str p.1,p.2)),.list y.1,.list y.2.1,.list y.2.2],λj y=>A3 (y.1.length≤j) (y.2.1.length≤j) (y.2.2.length≤j)⟩
theorem mh(h:l.length≤j):(l++[a]).length≤j+1:=by rw[dy];exact FC h
section
variable{prog:d5}{w:fA}
theorem su: ∀l:List Nat,fD own (ku l) (l.map λ(i:Nat)=> .int (i:Int)):=by
 intro lz;induction lz with
 |nil=>exact .nil
 |cons _ l ih=>exact .cons (.f _) (ih)
theorem HU{c:Cx}{st:St}{n k:Nat}{q:Nat->Rat}{Q:AV->St->Prop}(O:bQ c n)(hK:c.K=KK c.w.params)(hn:5≤n)(hk:1≤k)(iE: ∀i<k,Sm (q i))(h: ∀b',dc b' (Hy k q)->Q b' st):aZ c (.builtin "max") [.n (.list (yi k q))] [] [] st Q:=by
 have jU:yl ((yi k q).map AV.nw) (q 0::(kl 1 (k-1)).map q):=by rw[show(yi k q).map AV.nw=n6 k q by rw[dT];rfl];have:=qJ (ar k) q;rwa[show(ar k).map q=q 0::(kl 1 (k-1)).map q by rw[bJ hk];rfl]at this
 refine wM O hK hn (.n _) jU (λy hy=>?_) h;rw[show q 0::(kl 1 (k-1)).map q=(ar k).map q by rw[bJ hk];rfl,bb]at hy;obtain⟨i,hi,rfl⟩:=hy;exact iE i (a9.mp hi)
theorem wU(h:i<k):((yi k q).map AV.f)[i]?=some (.f (FR (q i))):=by rw[my];rw[my];rw[eR h];rfl
theorem Bo: ∀m,(cC g vs k m).length=m:=by
 intro lz;induction lz with
 |zero=>exact rfl
 |succ m ih=>exact(dy ..).trans (congrArg (· +1) (ih))
theorem HV:(n9 k q).length≤k:=ae (ml _ _) (km cf)
noncomputable def HW(w:fA)(k n:Nat)(vs:List (Int×Nat))(x:Str):List (Str×AV):=[("scorefct_id",.f (.str x)),("profile",.f (PT k (fN (aq w) vs))),("committeesize",.f (.int (n:Int))),("committee",.own 0),("marginal_scorefct",.n (MS x)),("detailed_info",.own 1)]
theorem CV{k n:Nat}{vs:List (Int×Nat)}{x:Str}{g:Nat->Rat}(hs:Spec prog w (KK w.params) TT 3 (.ref 259) [.str x,.int (n:Int)] [] (· =MS x))(hf: ∀n:Nat,n≤6->Spec prog w (KK w.params) TT 5 (.ref 244) [MS x,.int ((n:Int)+1)] [] (· =FR (g n)))
  (M: ∀j<n,gj g (fS 0 (cC g vs k j)) vs k)(Bp:1≤k)(iO:k≤6)(hn:n≤6)(cy: ∀j≤n,(∀i∈cC g vs k j,i<k)/\(cC g vs k j).Nodup):
  Spec prog w (KK w.params) TT 13 (.ref 448) [.str x,PT k (fN (aq w) vs),.int (n:Int)] [] (· = .tuple [.list [.aW (aq w) (fS 0 (cC g vs k n))],.any]):=by
 have lF:=ae iO (show 6≤1000000 by decide);have Mh: ∀{l j:Nat},l≤j->j<n->l≤1000000:=λh hj=>ae h (ae (ec hj) (ae hn (by decide)));refine aR (UR w.params) [("scorefct_id",.str x),("profile",PT k (fN (aq w) vs)),("committeesize",.int (n:Int))] rfl (λaa aa aa=>rfl) λV O' =>cU λQ hQ=>?_;have O:=O'.toOk;refine ah (aJ O (bR O rfl ⟨rfl,tr,?_⟩));refine ah (aJ O (ai O (f:= .ref 259) rfl tr rfl rfl (af O 0 rfl (af O 2 rfl (aH O' hs (by decide) (.cons (.f _) (.cons (.f _) .nil)) .nil rfl ⟨tr,?_⟩)))));show bM _ _ ⟨[_,_,_,_,_],[_]⟩ _;refine ah (aJ O ?_);refine yy (he:=rfl) O rfl ?_;refine bR O rfl ⟨rfl,?_⟩;refine bR O rfl ⟨rfl,?_⟩;refine bR O rfl ⟨rfl,?_⟩;refine⟨rfl,tr,?_⟩;show bM _ _ ⟨HW w k n vs x,[.list [],.dict (oh.map _),.list [],.list [],.list []]⟩ _;refine ah (lg O (ai O (f:= .type "range") rfl tr rfl rfl (af O 2 rfl (bW O ⟨n,Mg (HW w k n vs x) λj=> .list (ku (cC g vs k j)),rfl,ae hn (by decide),([],[],[]),⟨cq _,cq _,cq _⟩,rfl,λaa aa=>rfl,λj hj y R H G hp hR=>?_,λy aa=>?_⟩))))
 ·have fu:=O'.v H G;have OO:=fu.toOk;have hM:=M j hj;have N9:=(cy j (ec hj)).1;refine ah (aJ OO (ai OO (f:= .ref 322) rfl tr rfl rfl (af OO 4 rfl (af OO 1 rfl (af OO 3 rfl (aH fu (Hl hf hM N9) (by decide) (.cons (.n _) (.cons (.f _) (.cons (.list rfl (su _)) .nil))) .nil rfl ⟨tr,?_⟩))))));have iE:=KQ hM;have Mi:cC g vs k (j+1)=cC g vs k j++[(n9 k (addQ g vs (cC g vs k j))).headD 0]:=rfl;have hlen:= @Bo g vs k j;generalize addQ g vs (cC g vs k j)=q at iE Mi;obtain⟨t0,tl,ht⟩:=CU (q:=q) Bp;have yC:= @HV k q;rw[ht]at yC Mi;have Mi:ku (cC g vs k j)++[.f (.int (t0:Int))]=ku (cC g vs k (j+1)):=by rw[Mi];rewrite [ku];rewrite [ku];rw[ew];rfl
  refine ah (iD fu [("additional_score_cand",V.L+1)] (by rfl) (ai OO (f:= .type "range") rfl tr rfl rfl (ai OO (f:= .builtin "len") rfl tr rfl rfl (ak OO 7 rfl (ir (n:=k) (.n _) (by rw[ag];rw[ag];rw[cf];rfl) lF (bW OO ⟨.m8 0 k,_,[("additional_score_cand",.list (yi k q))],ck lF,.n _,.cons 7 rfl rfl rfl (λaa=>rfl) (.n _) .nil,λV2 OK=>dP OK.toOk (ar k) _ (λi=>decide (q i=Hy k q)) (λi=> .int (i:Int)) _ (by rw[cf];exact ae iO (by decide)) rfl tr ⟨_,aU rfl,?_⟩ (λi hi H2 G2 la=>?_) (λi hi aa H2 G2 la=>af (OK.v H2 G2).toOk 1 rfl ⟨rfl,rfl⟩)⟩))))))
  ·show bM _ _ ⟨_++[(_,.n (.list ((n9 k q).map _)))],_⟩ _;rw[ht];refine ah (aJ OO (aY (af OO 8 rfl (aC (item_list (j:=0) (e:= .f (.int (t0:Int))) (.n _) (.inl rfl) rfl (by rw[ag];rw[ag];exact ae yC lF) ⟨rfl,?_⟩)))));refine ah (dR OO (iT OO rfl (af OO 3 rfl ⟨0,_,rfl,rfl,af OO 9 rfl ⟨_,rfl,by rw[ag];rw[hlen];exact Mh (cq _) hj,?_⟩⟩) (he:=b9 rfl rfl (by decide) rfl λaa=>rfl)));refine ah (fV OO 5 oh rfl rfl tr rfl rfl rfl (af OO 9 rfl ⟨_,rfl,Mh hp.1 hj,?_⟩));refine ah (fV OO 5 oh rfl rfl tr rfl rfl rfl (af OO 8 rfl ⟨_,rfl,Mh hp.2 hj,?_⟩));refine ah (fV OO 5 oh rfl rfl tr rfl rfl rfl (ai OO (f:= .builtin "max") rfl rfl rfl rfl (ak OO 7 rfl (HU fu rfl (by decide) Bp iE λb' gC=>⟨_,rfl,Mh hp.3 hj,aj ?_⟩))));show R _ ⟨_,[.list (ku (cC g vs k j)++[.f (.int (t0:Int))]),_,_,_,_]⟩;rw[Mi];exact hR (y.1++[.f (.int (t0:Int))],y.2.1++[.n (.list ((t0::tl).map λ(a:Nat)=> .int (a:Int)))],y.2.2++[b']) [_,_,_,_] ⟨mh hp.1,mh hp.2,mh hp.3⟩
  ·have OV:=OK.v H2 G2;have jK:=a9.mp hi;exact aE (aY (ak OV.toOk 0 rfl (af OV.toOk 1 rfl (item_list (j:=i) (e:= .f (FR (q i))) (.f _) (.inl rfl) (wU jK) (by rw[ag];rw[ag];rw[cf];exact lF) (ai OV.toOk (f:= .builtin "max") rfl tr rfl rfl (ak OV.toOk 0 rfl (HB OV rfl (by decide) Bp iE λb' gC=>wI OV rfl (by decide) (.f _) gC ⟨_,rfl,rfl,rfl⟩)))))))
 ·obtain⟨N9,VS⟩:=cy n (cq _);refine ah (aF (oV O rfl (ai O (f:= .ref 37) rfl tr rfl rfl (bR O rfl (af O 3 rfl ⟨rfl,aH O' (jv (uZ (λi hi=>a0 (N9 i hi) iO) VS)) (by decide) (.cons (.list rfl (.cons (.list rfl (su _)) .nil)) .nil) .nil rfl (af O 5 rfl ⟨rfl,?_⟩)⟩)))));exact hQ ⟨_,.tuple rfl (.cons (.n _) (.cons (.any _) .nil)),rfl⟩
end
section
variable{prog:d5}{w:fA}{tt:List dq}
theorem Oa (hq:Sm q)(hi:i≠0)(ZR:i.natAbs<2^31):Spec prog w (KK w.params) tt 3 (.ref 524) [FR q,.int i] [] (· =FR (q/(i:Rat))):=by
 refine aR (U0 w.params) [("x",FR q),("y",.int i)] rfl (λaa aa aa=>rfl) ?_
 ·intro V O';have O:=O'.toOk;exact ah (aF (ai O (f:= .ref 189) rfl tr rfl rfl (af O 0 rfl (af O 1 rfl (aH O' (Kh q i hq hi ZR) (by decide) (.cons (.f _) (.cons (.f _) .nil)) .nil rfl ⟨_,.n _,rfl⟩)))))
end
theorem tZ(k:Nat):aQ own (.f (.list (gz 0 k))) (ku (ar k)):=by rw[k8];exact fU _
noncomputable def t6(k:Nat)(q:Nat->Rat):Rat:=((kl 1 (k-1)).map q).foldl (λm q=>if q<m then q else m) (q 0)
noncomputable def eO(k:Nat)(q:Nat->Rat):List Nat:=(ar k).filter λi=>decide (q i=t6 k q)
theorem HX{c:Cx}{st:St}{n k:Nat}{q:Nat->Rat}{Q:AV->St->Prop}(O:bQ c n)(hK:c.K=KK c.w.params)(hn:5≤n)(hk:1≤k)(iE: ∀i<k,Sm (q i))(h: ∀b',dc b' (t6 k q)->Q b' st):aZ c (.builtin "min") [.f (.list (yi k q))] [] [] st Q:=by
 have jU:yl ((yi k q).map AV.f) (q 0::(kl 1 (k-1)).map q):=by rw[Hz];have:=Mc (ar k) q;rwa[show(ar k).map q=q 0::(kl 1 (k-1)).map q by rw[bJ hk];rfl]at this
 refine wN O hK hn (.f _) jU (λy hy=>?_) h;rw[show q 0::(kl 1 (k-1)).map q=(ar k).map q by rw[bJ hk];rfl,bb]at hy;obtain⟨i,hi,rfl⟩:=hy;exact iE i (a9.mp hi)
theorem HY{c:Cx}{st:St}{n k:Nat}{q:Nat->Rat}{Q:AV->St->Prop}(O:bQ c n)(hK:c.K=KK c.w.params)(hn:5≤n)(hk:1≤k)(iE: ∀i<k,Sm (q i))(h: ∀b',dc b' (t6 k q)->Q b' st):aZ c (.builtin "min") [.n (.list (yi k q))] [] [] st Q:=by
 have jU:yl ((yi k q).map AV.nw) (q 0::(kl 1 (k-1)).map q):=by rw[show(yi k q).map AV.nw=n6 k q by rw[dT];rfl];have:=qJ (ar k) q;rwa[show(ar k).map q=q 0::(kl 1 (k-1)).map q by rw[bJ hk];rfl]at this
 refine wN O hK hn (.n _) jU (λy hy=>?_) h;rw[show q 0::(kl 1 (k-1)).map q=(ar k).map q by rw[bJ hk];rfl,bb]at hy;obtain⟨i,hi,rfl⟩:=hy;exact iE i (a9.mp hi)
section
variable{prog:d5}{w:fA}
noncomputable def HZ (w:fA)(k n:Nat)(vs:List (Int×Nat))(x:Str):List (Str×AV):=[("scorefct_id",.f (.str x)),("profile",.f (PT k (fN (aq w) vs))),("committeesize",.f (.int (n:Int))),("marginal_scorefct",.n (MS x)),("committee",.own 0),("detailed_info",.own 1)]
theorem Eb{k n:Nat}{vs:List (Int×Nat)}{x:Str}(hs:Spec prog w (KK w.params) TT 3 (.ref 259) [.str x,.int (n:Int)] [] (· =MS x))(iO:k≤6){V:Fx}(O' :bQ (b7 TT jV 484 (KK w.params) prog w V) 12){Q:Fl->St->Prop}
  (h:bM (b7 TT jV 484 (KK w.params) prog w V) ((bodyOf jV).drop 3) ⟨HZ w k n vs x,[.aW (aq w) (fS 0 (ar k)),.dict (oh.map λp=>(FV.str p.1,p.2)),.list [],.list [],.list []]⟩ Q):
  bM (b7 TT jV 484 (KK w.params) prog w V) (bodyOf jV) ⟨[("scorefct_id",.f (.str x)),("profile",.f (PT k (fN (aq w) vs))),("committeesize",.f (.int (n:Int)))],[]⟩ Q:=by
 have O:=O'.toOk;refine ah (aJ O (ai O (f:= .ref 259) rfl tr rfl rfl (af O 0 rfl (af O 2 rfl (aH O' hs (by decide) (.cons (.f _) (.cons (.f _) .nil)) .nil rfl ?_)))));refine⟨tr,?_⟩;refine ah (aJ O (ai O (f:= .type "set") rfl tr rfl rfl (aG O (af O 1 rfl ⟨699,_,.f (.tail _ (.tail _ (.head _))),tr,rfl,HC O (tZ k) (λi hi=>a0 (a9.mp hi) iO) ⟨tr,?_⟩⟩))));show bM _ _ ⟨[_,_,_,_,_],[_]⟩ _;refine ah ?_;refine aJ O ?_;refine yy (he:=rfl) O rfl ?_;refine bR O rfl ⟨rfl,?_⟩;refine bR O rfl ⟨rfl,?_⟩;refine bR O rfl ⟨rfl,?_⟩;exact⟨rfl,tr,h⟩
end
theorem CW{g:Nat->Rat}{D C W cm i:Nat}(hg: ∀n≤6,Dv D C (g n)): ∀(l:List (Int×Nat)) (q:Rat) (B:Nat),Dv D B q->(∀v∈l,v.1.natAbs≤W)->
  Dv D (B+l.length*(C*W)) (l.foldl (λq v=>if v.2.testBit i then q+g (aB (cm&&&v.2)).length*v.1 else q) q):=by
 intro lz;induction lz with
 |nil=>intro q B h _;simpa using h
 |cons v l ih=>
  intro q B h hw;rw[lp];have hv:=(hg _ (bits_le (cm&&&v.2))).NX (hw v (.head _));have hl:(v::l).length*(C*W)=C*W+l.length*(C*W):=by rw[th];rw[af4];rw[wx];rfl
  rw[hl];refine bS (vw ..) ?_;refine ih _ (B+C*W) ?_ λu hu=>hw u (.tail _ hu);split
  ·exact h.add hv
  ·exact h.mono (cb _ _)
theorem gj.of{g:Nat->Rat}{D C W cm k:Nat}{vs:List (Int×Nat)}(hD:0<D)(Hr:D<2^31)(hB:7*(C*(W+1))<2^31)(hg: ∀n≤6,Dv D C (g n))(hw: ∀v∈vs,v.1.natAbs≤W)(hl:vs.length≤6)(hk:k≤6)(hb: ∀v∈vs,∀x∈aB v.2,x<k):gj g cm vs k where
 k6:=hk
 bits:=hb
 sm:=λj hj i aa=>by
  have h:=CW (i:=i) (cm:=cm) hg (vs.take j) 0 0 Dv.zero λv hv=>hw v (wd hv);refine h.sm hD Hr ?_;have h1:(vs.take j).length≤6:=by rw[oD];exact ae (Dx j vs.length) (ae hj hl)
  have h2:=tx (C*W) h1;have h3:C*W≤C*(W+1):=rh _ (me _);lia
 g1:=λn hn=>(hg n hn).sm hD Hr (by have h3:C*1≤C*(W+1):=rh _ (aah 1 W);lia)
 gw:=λn hn v hv=>((hg n hn).NX (hw v hv)).sm hD Hr (by have h3:C*W≤C*(W+1):=rh _ (me _);lia)
theorem sy(h:n∣D)(hn:0<n):Dv D D (1/(n:Rat)):=by
 obtain⟨m,rfl⟩:=h;have hd:(n:Rat)≠0:=by
  intro z;have:(n:Int)=0:=by exact_mod_cast z
  lia
 refine⟨m,?_,?_⟩
 ·rw[show((n*m:Nat):Rat)=(n:Rat)*(m:Rat) by exact_mod_cast rfl];rw[aby];rw[ag0];refine bS (aam ..) ?_;rw[acH _ hd];rw[ag0];rfl
 ·show m≤n*m;exact adI m hn
noncomputable def H6(n:Nat):Rat:=1/((n+1:Nat):Rat)
theorem CX: ∀n≤6,Dv 420 420 (H6 n):=λn hn=>sy ((by decide: ∀n,n<7->n+1∣420) n (aan hn)) (zt n)
noncomputable def CY(n:Nat):Rat:=1/((2*n+1:Nat):Rat)
theorem H7: ∀n≤6,Dv 45045 45045 (CY n):=λn hn=>sy ((by decide: ∀n,n<7->2*n+1∣45045) n (aan hn)) (zt _)
section
variable{prog:d5}{w:fA}
theorem Ob: ∀n:Nat,n≤6->Spec prog w (KK w.params) TT 5 (.ref 244) [MS "pav",.int ((n:Int)+1)] [] (· =FR (H6 n)):=λn hn=>by refine Spec.mono (GG ((n:Int)+1) (abD (dA n) (by decide)) (by lia)) (cq _) ?_;rintro r rfl;rw[if_neg (Bi (aet (dA n)))];unfold H6;rw[show(((n:Int)+1:Int):Rat)=((n+1:Nat):Rat) by exact_mod_cast rfl];rfl
theorem KR: ∀n:Nat,n≤6->Spec prog w (KK w.params) TT 5 (.ref 244) [MS "slav",.int ((n:Int)+1)] [] (· =FR (CY n)):=λn hn=>by refine Spec.mono (Km ((n:Int)+1) (abD (dA n) (by decide)) (by lia)) (cq _) ?_;rintro r rfl;rw[if_neg (Bi (aet (dA n)))];unfold CY;rw[show((2*((n:Int)+1)-1:Int):Rat)=((2*n+1:Nat):Rat) by rw[show(2*((n:Int)+1)-1:Int)=((2*n+1:Nat):Int) by lia];rfl];rfl
end
noncomputable def vj(g:Nat->Rat)(vs:List (Int×Nat))(k cm:Nat):List Nat:=(ar k).filter λi=>cm.testBit i&&(ar k).all λj=>!cm.testBit j||decide (eG g cm vs i≤eG g cm vs j)
noncomputable def qq(g:Nat->Rat)(vs:List (Int×Nat))(k:Nat):Nat->Nat
 |0=>fS 0 (ar k)
 |n+1=>qq g vs k n^^^(1<<<(vj g vs k (qq g vs k n)).getLastD 0)
theorem vm:qq g vs k 0=fS 0 (ar k):=rfl
theorem t7: ∀(l:List Rat) (q:Rat),l.foldl (λm q=>if q<m then q else m) q∈q::l:=by
 intro lz;induction lz with
 |nil=>intro q;exact .head _
 |cons y l ih=>
  intro q;rw[lp];have:=ih (if y<q then y else q);rcases a5.mp this with h|h
  ·rw[h];split
   ·exact .tail _ (.head _)
   ·exact .head _
  ·exact .tail _ (.tail _ h)
theorem wV: ∀(l:List Rat) (q:Rat),∀y∈q::l,l.foldl (λm q=>if q<m then q else m) q≤y:=by
 intro lz;induction lz with
 |nil=>
  intro q y h;have:y=q:=by simpa using h
  rw[this];exact aaR
 |cons z l ih=>
  intro q y h;rw[lp];have ih:=ih (if z<q then z else q);have h0:=ih _ (.head _)
  by_cases CO:z<q
  ·simp only[CO,if_true]at ih h0⊢;rcases a5.mp h with rfl|h
   ·exact Bn h0 (abK CO)
   ·exact ih y h
  ·simp only[CO,if_false]at ih h0⊢;rcases a5.mp h with rfl|h
   ·exact h0
   ·rcases a5.mp h with rfl|h
    ·exact Bn h0 (abA.mp CO)
    ·exact ih y (.tail _ h)
theorem yD(hk:1≤k): ∃i<k,t6 k q=q i:=by have hm:=t7 ((kl 1 (k-1)).map q) (q 0);rw[show q 0::(kl 1 (k-1)).map q=(ar k).map q by rw[bJ hk];rfl,bb]at hm;obtain⟨i,hi,e⟩:=hm;exact⟨i,a9.mp hi,e.symm⟩
theorem oj(hi:i<k):t6 k q≤q i:=by refine wV ((kl 1 (k-1)).map q) (q 0) (q i) ?_;rw[show q 0::(kl 1 (k-1)).map q=(ar k).map q by rw[bJ (oT (og hi))];rfl];exact bb.mpr ⟨i,a9.mpr hi,rfl⟩
theorem Ec(h1: ∀i<k,cm.testBit i=true->q i=eG g cm vs i)(h2: ∀i<k,cm.testBit i=false-> ∀j<k,cm.testBit j=true->eG g cm vs j<q i)(hex: ∃i<k,cm.testBit i=true):eO k q=vj g vs k cm:=by
 unfold eO vj;refine ac2 λi hi=>?_;have hi:=a9.mp hi;refine eV (y3 ..) ?_;rw[decide_eq_true_eq];rw[dk];refine eV (d6 ..) ?_;obtain⟨z,hz,ez⟩:=yD (q:=q) (k:=k) (oT (og hi));have Mk:cm.testBit z=true:=by
  cases hb:cm.testBit z with
  |true=>rfl
  |false=>obtain⟨j,hj,jd⟩:=hex;have:=h2 z hz hb j hj jd;rw[<-h1 j hj jd,<-ez]at this;exact absurd (oj hj) (afP.mpr this)
 constructor
 ·intro e;have hb:cm.testBit i=true:=by
   cases hb:cm.testBit i with
   |true=>rfl
   |false=>have:=h2 i hi hb z hz Mk;rw[<-h1 z hz Mk,<-ez,e]at this;exact absurd this (abA.mpr aaR)
  refine⟨hb,λj hj=>?_⟩;have hj:=a9.mp hj;cases jd:cm.testBit j with
  |false=>rfl
  |true=>rw[Pl];rw[lh];rw[decide_eq_true_eq];refine bS (h1 i hi hb ..) ?_;refine bS (h1 j hj jd ..) ?_;rw[e];exact oj hj
 ·rintro⟨hb,ha⟩;refine Rat.le_antisymm ?_ (oj hi);have:=ha z (a9.mpr hz);rw[Mk,Pl,lh,decide_eq_true_eq]at this;rw[ez];rw[h1 i hi hb];rw[h1 z hz Mk];exact this
theorem H8(hex: ∃i<k,cm.testBit i=true):vj g vs k cm≠ []:=by
 have key: ∀l:List Nat,(∃i∈l,cm.testBit i=true)-> ∃i∈l,cm.testBit i=true/\ ∀j∈l,cm.testBit j=true->eG g cm vs i≤eG g cm vs j:=by
  intro l;induction l with
  |nil=>rintro⟨i,hi,_⟩;cases hi
  |cons a l ih=>
   rintro⟨i,hi,hb⟩
   by_cases hl: ∃i∈l,cm.testBit i=true
   ·obtain⟨z,hz,Mk,hm⟩:=ih hl
    by_cases ha:cm.testBit a=true/\eG g cm vs a<eG g cm vs z
    ·refine⟨a,.head _,ha.1,λj hj jd=>?_⟩;rcases a5.mp hj with rfl|hj
     ·exact aaR
     ·exact Bn (abK ha.2) (hm j hj jd)
    ·refine⟨z,.tail _ hz,Mk,λj hj jd=>?_⟩;rcases a5.mp hj with rfl|hj
     ·exact abA.mp λq=>ha ⟨jd,q⟩
     ·exact hm j hj jd
   ·rcases a5.mp hi with rfl|hi
    ·refine⟨i,.head _,hb,λj hj jd=>?_⟩;rcases a5.mp hj with rfl|hj
     ·exact aaR
     ·exact absurd ⟨j,hj,jd⟩ hl
    ·exact absurd ⟨i,hi,hb⟩ hl
 obtain⟨i,hi,hb,hm⟩:=key (ar k) (by obtain⟨i,hi,hb⟩:=hex;exact⟨i,a9.mpr hi,hb⟩);intro e;have:i∈vj g vs k cm:=fI.mpr ⟨hi,by
  rw[hb];rw[ab4];refine eV (d6 ..) ?_;intro j hj;cases jd:cm.testBit j with
  |false=>rfl
  |true=>rw[Pl];rw[lh];rw[decide_eq_true_eq];exact hm j hj jd⟩
 rw[e]at this;cases this
theorem Ed(h:i∈vj g vs k cm):i<k/\cm.testBit i=true:=by obtain⟨a,b⟩:=fI.mp h;exact⟨a9.mp a,(dk _ _▸b).1⟩
section
variable{prog:d5}{w:fA}
theorem fO: ∀l:List Nat,cT (ku l) (l.map λ(i:Nat)=> .int (i:Int)):=by
 intro lz;induction lz with
 |nil=>exact .nil
 |cons _ l ih=>exact .cons (.f rfl) (ih)
theorem kF(ns:List Nat):aQ own (.n (.list (ns.map λ(i:Nat)=> .int (i:Int)))) (ku ns):=by have:=aQ.n (own:=own) (ns.map λ(i:Nat)=>FV.int (i:Int));rw[dT]at this;exact this
theorem CZ:(eO k q).length≤k:=ae (ml _ _) (km cf)
theorem H9(h:l≠ []):l[l.length-1]?=some (l.getLastD 0):=by rw[acO];rw[List.getLast?_eq_getElem?];rw[eC (ac3 (aaS.mpr h) Nat.one_pos)];rfl
theorem KS{k n D C W:Nat}{vs:List (Int×Nat)}{x:Str}{g:Nat->Rat}(hs:Spec prog w (KK w.params) TT 3 (.ref 259) [.str x,.int (n:Int)] [] (· =MS x))(hf: ∀n:Nat,n≤6->Spec prog w (KK w.params) TT 5 (.ref 244) [MS x,.int (n:Int)] [] (· =FR (g n)))
  (hD:0<D)(Hr:D<2^31)(hB:7*(C*(W+1))+8*D<2^31)(hg: ∀n≤6,Dv D C (g n))(hw: ∀v∈vs,v.1.natAbs≤W)(hl:vs.length≤6)(hk:k≤6)(hb: ∀v∈vs,∀x∈aB v.2,x<k)(KU:n≤k)
  (O8: ∀j<k-n,∃i<k,(qq g vs k j).testBit i=true):
  Spec prog w (KK w.params) TT 13 (.ref 484) [] [("scorefct_id",.str x),("profile",PT k (fN (aq w) vs)),("committeesize",.int (n:Int))] (· = .tuple [.list [.aW (aq w) (qq g vs k (k-n))],.any]):=by
 have hM: ∀cm,gj g cm vs k:=λcm=>gj.of hD Hr (by lia) hg hw hl hk hb;have VJ: ∀cm,∀i<k,Dv D (6*(C*W)) (eG g cm vs i):=λcm i aa=>by have h:=CW (i:=i) (cm:=cm) hg vs 0 0 Dv.zero hw;exact h.mono (by rw[Mo];exact tx (C*W) hl)
 have XH:6*(C*W)+8*D<2^31:=bj (nf (aaB (by decide) (rh _ (me _))) _) hB;have lF:=ae hk (show 6≤1000000 by decide);have Mh: ∀{l j:Nat},l≤j->j<k-n->l≤1000000:=λh hj=>ae h (ae (ec hj) (ae (Q1 _ _) lF));refine aR (UW w.params) [("scorefct_id",.str x),("profile",PT k (fN (aq w) vs)),("committeesize",.int (n:Int))] rfl (λaa aa aa=>rfl) λV O' =>cU λQ hQ=>Eb hs hk O' ?_;have O:=O'.toOk;refine ah (lg O (ai O (f:= .type "range") rfl tr rfl rfl (au (nv O' (af O 1 rfl ⟨699,598,597,_,_,.f _,tr,kC (ae hk (by decide)),by decide,.f _,xJ ⟨rfl,af O 2 rfl (oO (bW O ⟨k-n,Mg (HZ w k n vs x) λj=> .aW (aq w) (qq g vs k j),by rw[afp KU];rfl,ae (Q1 _ _) lF,([],[],[]),⟨cq _,cq _,cq _⟩,rfl,λaa aa=>rfl,λj hj y R H G hp hR=>?_,λy aa=>?_⟩))⟩⟩)))))
 ·have fu:=O'.v H G;have OO:=fu.toOk;have hex:=O8 j hj;refine ah (aJ OO (ai OO (f:= .ref 329) rfl tr rfl rfl (af OO 3 rfl (af OO 1 rfl (af OO 4 rfl (bh fu (Ht (B:=6*(C*W)) hf (hM _) hD Hr XH (VJ _)) (by decide) (.cons (.n _) (.cons (.f _) (.cons (.aW rfl) .nil))) .nil rfl ?_))))));rintro _ ⟨q,rfl,RE,XI,XJ⟩;refine⟨tr,?_⟩;have iE: ∀i<k,Sm (q i):=λi hi=>(XJ i hi).sm hD Hr XH;have Bp:1≤k:=a0 (og hj) (Q1 _ _);have sA:=Ec RE XI hex;have KL: ∀i∈eO k q,i<k/\(qq g vs k j).testBit i=true:=λi hi=>Ed (sA▸hi);have m7:eO k q≠ []:=sA▸H8 hex;have Mi:qq g vs k (j+1)=qq g vs k j^^^(1<<<(eO k q).getLastD 0):=by rw[sA];rfl
  have yC:= @CZ k q;clear RE XI XJ sA;refine ah (iD fu [("marg_util_cand",V.L+1)] (by rfl) (aG OO (af OO 1 rfl ⟨699,_,.f (.tail _ (.tail _ (.head _))),tr,rfl,?_⟩)));refine⟨_,_,[("marg_util_cand",.list (yi k q))],o5 k,.f _,.cons 7 rfl rfl rfl (λaa=>rfl) (.n _) .nil,λV2 OK=>dP OK.toOk (ar k) _ (λi=>decide (q i=t6 k q)) (λi=> .int (i:Int)) _ (by rw[cf];exact ae hk (by decide)) rfl tr ⟨_,aU rfl,?_⟩ (λi hi H2 G2 la=>?_) (λi hi aa H2 G2 la=>af (OK.v H2 G2).toOk 1 rfl ⟨rfl,rfl⟩)⟩
  ·show bM _ _ ⟨_++[(_,.n (.list ((eO k q).map _)))],_⟩ _;have hz:=H9 m7;generalize (eO k q).getLastD 0=z at Mi hz;obtain⟨ZS,Mk⟩:=KL z (d3 hz);generalize eO k q=lw at yC m7 hz;have RG:0<lw.length:=aaS.mpr m7;have XK:=ae yC lF;refine ah (aJ OO (aY (af OO 8 rfl (mK (aC (mJ (item_list (j:=lw.length-1) (e:= .f (.int (z:Int))) (kF lw) (.inr ⟨by decide,by rw[ag];lia⟩) (by rw[my];rw[hz];rfl) (by rw[ag];exact XK) ⟨tr,?_⟩)))))));refine ah (aJ OO (dK OO (af OO 8 rfl (mK (aC (mJ ⟨_,rfl,_,_,kF lw,by rw[ag];exact XK,fO lw,tr,?_⟩))))));refine ah (dR OO (nY OO rfl (af OO 4 rfl ⟨.builtin "set.remove",rfl,λT s v pl S Q' hq=>Ba (.own rfl) F.slot_set_remove F.type_set_remove S Q' hq,af OO 9 rfl (Bd rfl (a0 ZS hk) Mk (ah (fV OO 5 oh rfl rfl tr rfl rfl rfl (af OO 9 rfl ⟨_,rfl,Mh hp.1 hj,ah (fV OO 5 oh rfl rfl tr rfl rfl rfl (af OO 10 rfl ⟨_,rfl,Mh hp.2 hj,ah (fV OO 5 oh rfl rfl tr rfl rfl rfl (ai OO (f:= .builtin "min") rfl tr rfl rfl (ak OO 7 rfl (HY fu rfl (by decide) Bp iE λb' gC=>⟨_,rfl,Mh hp.3 hj,aj ?_⟩))))⟩))⟩))))⟩)));show R _ ⟨_,[.aW _ (qq g vs k j^^^_),_,_,_,_]⟩;refine bS (Mi ..) ?_;exact hR (y.1++[.f (.int (z:Int))],y.2.1++[.n (.list (cK (lw.map λ(a:Nat)=> .int (a:Int)) none (some (-1))))],y.2.2++[b']) [_,_,_,_,_] ⟨mh hp.1,mh hp.2,mh hp.3⟩
  ·have OV:=OK.v H2 G2;have jK:=a9.mp hi;exact aE (aY (ak OV.toOk 0 rfl (af OV.toOk 1 rfl (item_list (j:=i) (e:= .f (FR (q i))) (.f _) (.inl rfl) (wU jK) (by rw[ag];rw[ag];rw[cf];exact lF) (ai OV.toOk (f:= .builtin "min") rfl tr rfl rfl (ak OV.toOk 0 rfl (HX OV rfl (by decide) Bp iE λb' gC=>wI OV rfl (by decide) (.f _) gC ⟨_,rfl,rfl,rfl⟩)))))))
 ·exact ah (aF (oV O rfl (ai O (f:= .ref 37) rfl tr rfl rfl (bR O rfl (af O 4 rfl ⟨rfl,aH O' (jv u0) (by decide) (.cons (.list rfl (.cons (.aW rfl) .nil)) .nil) .nil rfl (af O 5 rfl ⟨rfl,hQ ⟨_,.tuple rfl (.cons (.n _) (.cons (.any _) .nil)),rfl⟩⟩)⟩)))))
end
noncomputable def mX(l:List Rat):Rat:=l.foldl (λa q=>q+a) 0
noncomputable def t8:List Rat->FV
 | []=> .int 0
 |q::l=>FR (mX (q::l))
theorem Ef(l:List Rat)(q:Rat):mX (l++[q])=q+mX l:=by unfold mX;rw[abx];rfl
noncomputable def wW:List Rat->AV
 | []=> .f (.int 0)
 |q::l=> .n (FR (mX (q::l)))
theorem Eg: ∀l:List Rat,jE own (wW l) (t8 l)
 | []=> .f _
 |_::_=> .n _
theorem vn: ∀(l:List Rat) (q:Rat),AV.n (FR (q+mX l))=wW (l++[q])
 | [],q=>rfl
 |x::l,q=>by refine bS (Ef ..) ?_;rfl
noncomputable def VV(ad:dq):Lp (List Rat) Unit:=⟨λp aa=> [("values",.f (.val (.ref ad))),("result",wW p)],λaa aa=> [],λaa aa=>True⟩
def Mm(a:Fl)(tL:St):Fl->St->Prop:=λb st=>b=a/\st=tL
theorem Mm.got(h:JR c T (Mm a tL) f s):Sx c tL T f s a:=by obtain⟨b,st,hf,e1,e2⟩:=h;refine bS (e1 ..) ?_;refine bS (e2 ..) ?_;exact hf
section
variable{prog:d5}{w:fA}
theorem sC (hn:n3+2≤n4)(Po:5≤n3)(hq: ∀q∈ql,Sm q)(iE: ∀j≤ql.length,Sm (mX (ql.take j))):ie prog w (KK w.params) TT n3 n4 (.ref 200) (ql.map FR) [] (· =t8 ql):=λA g ro H X ad s Q hg hA R hl hs aa aa h=>by
 obtain⟨h1,h2,hK,hT⟩:=hg;subst h1 h2;refine D9 (x:="values") (D:=by rw[hK];exact UH g.w.params) R (hA.mono hn) (λcO=>aS (hK▸cO) (b:=[("values",.ref ad)]) λM=>rfl) rfl λA' O' tD s' S=>aV λW V hW=>?_;have O:=O'.toOk;have OV:=O.v H (g.g0++X.toArray);have zF: ∀p∈g.cl,(base s g.tt [] H).IsCell p.1 (some p.2):=λp hp=>by obtain⟨⟨o,e,d⟩,h1,h2⟩:=R.cl p hp;exact⟨o,j6 h1 ij h2 e,d⟩
 refine aaI (mu ((aJ (st:=⟨[("values",.f (.val (.ref ad)))],[]⟩) (x:="result") (Q:=Mm .next ⟨[("values",.f (.val (.ref ad))),("result",.f (.int 0))],[]⟩) OV (aC ⟨tr,rfl,rfl⟩)).run _ _ S) (λf s2 z=>?_));obtain⟨e,S2⟩:=Mm.got z;rw[e];refine aaI (ahQ (mu ((af (Q:=N7 (.f (.val (.ref ad))) ⟨[("values",.f (.val (.ref ad))),("result",.f (.int 0))],[]⟩) OV 0 rfl ⟨rfl,rfl⟩).run _ _ S2) (λv s3 z=>?_)) (by intro _;rfl));obtain⟨_,_,S3,e1,e2⟩:=z;rw[e1,e2]at S3;rw[show v= .ref ad from S3.TJ];have S4:=S3.sub (T' :=(ro.map λp=>(p.1,AV.f p.2))++[]) λp hp=> .tail _ (by rwa[fw]at hp);have R3:c8 g ro H X s3:=by obtain⟨m3,as3,P3,N3,B3⟩:=S4;exact B3.Cy (g:=g) O' ⟨rfl,rfl,zF,R.os.symm⟩ R.bare λp hp=>B3.bw (p.1,AV.f p.2) (bp _ (eD (f:=λp:a7×FV=>(p.1,AV.f p.2)) hp))
 refine mu (hs A' s3 (λit s' =>it= .ref ad/\s' =s3) R3 ⟨rfl,rfl⟩) (λit s4 z=>?_);rw[z.1];rw[z.2];refine uX (g:=g) (Q:=Mm .next ⟨[("values",.f (.val (.ref ad))),("result",wW ql)],[]⟩) (Inv:=DE FR ql (VV ad)) O' ⟨rfl,rfl,rfl,rfl,zF,R.os.symm⟩ ⟨[],(ae3).symm,λaa h=>(nomatch h)⟩ (L6 O (λaa aa=>rfl) (λp q r e aa R2 H2 G2 aa hR=>?_) (x:="value") tr) (λbD hI=>by obtain⟨_,_,e⟩:=hI.last;exact⟨rfl,e⟩) S4 R.bare (hl A' _ aN tD) ⟨[],ql,(),rfl,rfl,trivial,rfl⟩ λf s5 z=>?_
 ·have fu:=O'.v H2 G2;have OO:=fu.toOk;have RE:Sm q:=hq _ (mem_mid e);have fin: ∀{a:AV},a=wW (p++[q])->R2 .next ⟨[("values",.f (.val (.ref ad))),("result",a),("value",.f (FR q))],[]⟩:=λe=>e▸hR () [("value",.f (FR q))] trivial;refine ah (d8 (i:=1) OO (j8 (dG OO 2 (.ref 189) true rfl (.fi _ ?_) (au (af OO 2 rfl (af OO 1 rfl ?_))) rfl ?_ ?_ ?_)))
  case' refine_2=>cases p with
  |nil=>exact pA fu hK (ec Po) (.f _) RE (by decide) ⟨tr,aj (fin (vn [] q))⟩
  |cons x p=>have h1:=iE (x::p).length (by rw[e];rw[dy];exact cb _ _);rw[e,aex]at h1;exact Hh fu hK (ec Po) (.f _) (.n _) RE h1 ⟨tr,aj (fin (vn (x::p) q))⟩
  ·show uA g.K 189=true;rw[hK];rfl
  ·show ag7 g.K _ _=_;rw[hK];kernel_rfl
  ·show ag7 g.K _ _=_;rw[hK];kernel_rfl
  ·show kitOne g.K _ _=_;rw[hK];kernel_rfl
 ·obtain⟨e,S5⟩:=Mm.got z;rw[e];refine mu (bM.run (ah (Q:=Mm (.ret (wW ql)) ⟨[("values",.f (.val (.ref ad))),("result",wW ql)],[]⟩) (aF (af (x:="result") (st:=⟨[("values",.f (.val (.ref ad))),("result",wW ql)],[]⟩) O 1 rfl ⟨rfl,rfl⟩))) _ _ S5) (λfl s6 z=>?_);obtain⟨v,e,S7⟩:=Mm.got z;exact hW _ _ ⟨v,_,_,wW ql,_,e,S7,Eg ql,λv s' h1 h2=>h v s' _ rfl h1 (by refine bS (hT ..) ?_;exact h2)⟩
end
noncomputable def vo(vs:List (Int×Nat))(i:Nat):Int:=((vs.filter λv=>v.2.testBit i).map (·.1)).sum
noncomputable def pX(vs:List (Int×Nat))(ld:List Rat)(i:Nat):List Rat:=((vs.zip ld).filter λp=>p.1.2.testBit i).map λp=>p.2*(p.1.1:Rat)
noncomputable def yE(vs:List (Int×Nat))(ld:List Rat)(n i:Nat):Rat:=if 0<vo vs i then(mX (pX vs ld i)+((1:Int):Rat))/(vo vs i:Rat)else((n+1:Int):Rat)
noncomputable def qL(vs:List (Int×Nat))(ld:List Rat)(dg:List Nat)(n i:Nat):Rat:=if i∈dg then((n+2:Int):Rat)else yE vs ld n i
noncomputable def dh(vs:List (Int×Nat))(ld:List Rat)(i:Nat)(q:Rat):List Rat:=(vs.zip ld).map λp=>if p.1.2.testBit i then q else p.2
noncomputable def jL(vs:List (Int×Nat))(k n:Nat):Nat->List Rat×List Nat
 |0=>(vs.map λaa=>((0:Int):Rat),[])
 |j+1=>let st:=jL vs k n j
  let q:=qL vs st.1 st.2 n
  let i:=(eO k q).headD 0
  (dh vs st.1 i (q i),st.2++[i])
theorem C0(vs:List (Int×Nat))(k n:Nat): ∀j,(jL vs k n j).1.length=vs.length/\(jL vs k n j).2.length=j:=by
 intro lz;induction lz with
 |zero=>exact⟨ag ..,rfl⟩
 |succ j ih=>obtain⟨h1,h2⟩:=ih;show(dh vs (jL vs k n j).1 _ _).length=_/\((jL vs k n j).2++[_]).length=_;simp[dh,h1,h2]
structure Bq(vs:List (Int×Nat))(ld:List Rat)(dg:List Nat)(k n:Nat):Prop where
 XM: ∀q∈ld,Sm q
 prod: ∀i<k,∀q∈pX vs ld i,Sm q
 VW: ∀i<k,∀j≤(pX vs ld i).length,Sm (mX ((pX vs ld i).take j))
 one: ∀i<k,Sm (mX (pX vs ld i)+((1:Int):Rat))
 q: ∀i<k,Sm (qL vs ld dg n i)
noncomputable def XN(x:FV):Int:=x.JF 0 0 id (λaa=>0) (λaa=>0) (λaa=>0) (λaa=>0) 0
noncomputable def ZT(x:FV):Nat:=x.JF 0 0 (λaa=>0) (λaa=>0) id (λaa=>0) (λaa=>0) 0
noncomputable def XO(x:FV):List (Str×FV):=x.JF [] [] (λaa=> []) (λaa=> []) (λaa=> []) id (λaa=> []) []
noncomputable def VX(x:FV):List FV:=x.JF [] [] (λaa=> []) id (λaa=> []) (λaa=> []) (λaa=> []) []
noncomputable def Ma(l:List FV)(i:Nat):FV:=l.getD i .none
noncomputable def XQ(x:FV):Int:=XN (Ma ((XO x).map (·.2)) 0)
noncomputable def Tg(x:FV):Nat:=ZT (Ma ((XO x).map (·.2)) 1)
noncomputable def Ia(i:Nat)(x:FV):Option FV:=if(Tg x).testBit i=true then some (.int (XQ x))else none
noncomputable def Ib(i:Nat)(ld:List Rat)(y:FV):Option FV:=if(Tg (Ma (VX y) 1)).testBit i=true then(ld[(XN (Ma (VX y) 0)).toNat]?).map λq=>FR (q*(XQ (Ma (VX y) 1):Rat))else none
theorem vp{led:Bool}{i v:Nat}{ld:List Rat}{w:Int}{m:Nat}(h:m.testBit i=true)(hv:v<ld.length):Ib i ld (.tuple [.int (v:Int),VT led w m])=some (FR (ld[v]*(w:Rat))):=by show(if m.testBit i=true then(ld[v]?).map λq=>FR (q*(w:Rat))else none)=_;rw[if_pos h];rw[eC hv];rfl
theorem Ic(led:Bool)(i:Nat): ∀vs:List (Int×Nat),(fN led vs).filterMap (Ia i)=((vs.filter λv=>v.2.testBit i).map (·.1)).map FV.int:=by
 intro lz;induction lz with
 |nil=>exact rfl
 |cons v vs ih=>
  have ih:=ih;show(VT led v.1 v.2::fN led vs).filterMap (Ia i)=_;rw[y7]
  by_cases h:v.2.testBit i=true
  ·rw[va (show Ia i (VT led v.1 v.2)=some (.int v.1)from if_pos h)];rw[ih];rw[if_pos h];rfl
  ·rw[aa0 (show Ia i (VT led v.1 v.2)=none from if_neg h)];rw[ih];rw[if_neg h];rfl
theorem Ie(led:Bool)(i:Nat)(ld:List Rat): ∀(vs:List (Int×Nat)) (j:Nat),j+vs.length=ld.length->(pW j (fN led vs)).filterMap (Ib i ld)=(pX vs (ld.drop j) i).map FR:=by
 intro lz;induction lz with
 |nil=>intro j _;exact rfl
 |cons v vs ih=>
  intro j hl;have ih:=ih (j+1) (by simp at hl;lia);have hj:j<ld.length:=by simp at hl;lia
  have hd:ld.drop j=ld[j]::ld.drop (j+1):=mi hj;unfold pX at ih⊢;rw[hd];rw[afq];rw[y7];show((FV.tuple [.int (j:Int),VT led v.1 v.2])::pW (j+1) (fN led vs)).filterMap (Ib i ld)=_
  by_cases h:v.2.testBit i=true
  ·rw[va (vp h hj)];rw[ih];rw[if_pos h];rfl
  ·rw[aa0 (show Ib i ld (.tuple [.int (j:Int),VT led v.1 v.2])=none from if_neg h)];rw[ih];rw[if_neg h];rfl
noncomputable abbrev sD(k:Nat)(f:Nat->AV):List (Int×AV):=(ar k).map λ(i:Nat)=>((i:Int),f i)
theorem sF:iI (sD k f) (k:Int) (f k)=sD (k+1) f:=by
 unfold iI;rewrite [if_neg]
 ·simp only[sD,Kk,ew];rfl
 ·simp only[List.any_eq_true,bb,a9,decide_eq_true_eq,not_exists,not_and];rintro x ⟨i,hi,rfl⟩ e;simp at e;lia
theorem sG:((sD k f).map (·.1)).Nodup:=by rw[dT];exact List.Pairwise.map _ (λa b (h:a≠b)=>by show(a:Int)≠(b:Int);lia) aaL
theorem yF:(sD k f).length=k:=by simp
section
variable{prog:d5}{w:fA}
noncomputable def yG (w:fA)(vs:List (Int×Nat))(k n:Nat)(r:List (Str×AV)):List (Str×AV):=("profile",.f (PT k (fN (aq w) vs)))::("committeesize",.f (.int (n:Int)))::("algorithm",.f (.str "standard-fractions"))::("start_load",.f .none)::("partial_committee",.f .none)::r
noncomputable def Pr(vs:List (Int×Nat))(k:Nat):AO:= .dict ((sD k λi=> .f (.int (vo vs i))).map λp=>(FV.int p.1,p.2))
theorem Eh:AO.dict ((iI (sD i λi=> .f (.int (vo vs i))) (i:Int) (.f (.int (vo vs i)))).map λp=>(FV.int p.1,p.2))=Pr vs (i+1):=congrArg (λz:List (Int×AV)=>AO.dict (z.map λp=>(FV.int p.1,p.2))) (@sF i λi=> .f (.int (vo vs i)))
theorem isInt_self{prog:d5}{w:fA}{i:Int}: ∀{h:wq} {P N:dq->Prop} {as:List dq} {v:a7},dj h P N as (.f (.int i)) v->(t4 prog w).is i v=true:=λzz=>by obtain⟨t,e⟩:=zz;exact by subst e;show sv i (.int i t)=true;simp[sv]
noncomputable def VY(w:fA)(vs:List (Int×Nat))(k n:Nat):Lp Nat Unit:=⟨λaa aa=>yG w vs k n [("approvers_weight",.own 0)],λi aa=> [Pr vs i],λaa aa=>True⟩
theorem VZ(iO:k≤6)(hv: ∀v∈vs,0≤v.1/\v.1≤1000000)(hl:vs.length≤6)(O' :bQ (b7 TT bq 511 (KK w.params) prog w V) 12)
  (h:bM (b7 TT bq 511 (KK w.params) prog w V) ((bodyOf bq).drop 4) ⟨yG w vs k n [("approvers_weight",.own 0)],[Pr vs k]⟩ Q):
  bM (b7 TT bq 511 (KK w.params) prog w V) (bodyOf bq) ⟨yG w vs k n [],[]⟩ Q:=by
 have O:=O'.toOk;refine ah (aK (aE (af O 2 rfl (bz (b8 false ⟨_,rfl,bB (aj (ah (aK (aE (af O 2 rfl (bz (M4 ⟨_,rfl,fF (by kernel_rfl) (aj (ah (aJ O (yp O ⟨tr,ah (ff O' (n1:=1) (by decide) (aG O (af O 0 rfl ⟨699,_,.f (.tail _ (.tail _ (.head _))),tr,rfl,_,_,.inl rfl,cZ aN,λl RH=>Hi RH (VY w vs k n) () trivial rfl (λaa aa=>rfl) (λi jK y R H2 G2 aa hR=>?_) λaa aa=>h⟩)))⟩))))⟩)))))))⟩)))));have fu:=O'.v H2 G2;have OO:=fu.toOk;refine ah (kE (knd:=t4 prog w) CP (nX (n1:=1) (n2:=1) (n3:=2) (n4:=4) fu (by decide) (by decide) (by decide) (by decide) [("cand",V.L+4)] 510 508 (f:= .builtin "sum") (bi:=0) rfl tr rfl rfl (NT _) (.tail _ (.tail _ (.tail _ (.head _)))) rfl (af OO 0 rfl ⟨_,_,Ia i,[("cand",.int (i:Int))],rY aN (by decide),.f _,.cons 6 rfl rfl (λaa aa aa=>rfl) rfl (.f _) .nil,λl2 gu=>?_⟩) rfl (by decide+kernel) rfl rfl (λaa aa aa=>rfl) (λaa=>rfl)));subst gu;have Te: ∀z∈(vs.filter λv=>v.2.testBit i).map (·.1),0≤z/\z≤1000000:=λz hz=>by obtain⟨v,Jt,rfl⟩:=bb.mp hz;exact hv v (fI.mp Jt).1
 have NP:((vs.filter λv=>v.2.testBit i).map (·.1)).length≤100:=by rw[ag];exact ae (ml _ _) (ae hl (by decide))
 refine⟨⟨_,by rw[Ic];exact wD (by decide) Te NP,xJ ?_⟩,λx hx g C code hg=>iH.of hg λQ6 Q7 Q8=>?_⟩
 ·refine ak OO 5 rfl (ak OO 6 rfl ⟨0,sD i λi=> .f (.int (vo vs i)),(i:Int),rfl,rfl,sG,by rw[yF];exact ae (ec jK) (ae iO (by decide)),isInt_self,aj ?_⟩);exact cast (congrArg (λz=>R .next ⟨_,[z]⟩) Eh.symm) (hR () [_] trivial)
 ·obtain⟨v,Jt,rfl⟩:=bb.mp hx;refine ig tr (λaa aa aa aa=>tr) λA' DK yc GX OG=>aE (qy OG.toOk 0 rfl (aG OG.toOk (af OG.toOk 1 rfl ⟨736,_,.f (.tail _ (.head _)),tr,rfl,wR (.f _ _) (a0 jK iO) ⟨_,rfl,?_⟩⟩)));cases hb:v.2.testBit i with
  |true=>exact cB ⟨.int v.1,if_pos hb,aG OG.toOk (af OG.toOk 1 rfl ⟨736,_,.f (.head _),tr,rfl,.f _ rfl⟩)⟩
  |false=>exact bB (if_neg (by rw[show Tg _=v.2 from rfl];rw[hb];decide))
end
section
variable{prog:d5}{w:fA}
theorem Ei (hl:vs.length≤6):Spec prog w (KK w.params) TT 1 (.ref 612) [PT k (fN (aq w) vs)] [] (· = .int vs.length):=by have:=yg (prog:=prog) (w:=w) (tt:=TT) (k:=k) (vs:=fN (aq w) vs) (by rw[ag];exact ae hl (by decide));rw[ag]at this;exact this
noncomputable abbrev EV(l:List Rat):List AV:=l.map λq=> .n (FR q)
noncomputable def sH(w:fA)(vs:List (Int×Nat))(k n:Nat)(ca:AV)(r:List (Str×AV)):List (Str×AV):=yG w vs k n (("approvers_weight",.own 0)::("load",.own 1)::("committee",ca)::("detailed_info",.own 3)::r)
noncomputable abbrev sI:List (Str×AV):=[("next_cand",.own 4),("tied_cands",.own 5),("load",.own 6),("max_load",.own 7)]
structure fh where
 a:List AV
 b:List AV
 c:List AV
 d:List AV
noncomputable def iJ(vs:List (Int×Nat))(k:Nat)(ld:List Rat)(y:fh)(r:List AO):List AO:=Pr vs k:: .list (EV ld):: .list []:: .dict (sI.map λp=>(FV.str p.1,p.2)):: .list y.a:: .list y.b:: .list y.c:: .list y.d::r
theorem KV{α:Type}(vs:List α):((ar vs.length).map λaa=>FR q).map AV.nw=EV (vs.map λaa=>q):=by unfold EV;rw[dT];rw[dT];refine(ag1 ..).trans ?_;rw[cf];exact(ag1 ..).symm
theorem V0(hl:vs.length≤6)(O' :bQ (b7 TT bq 511 (KK w.params) prog w V) 12)
  (h:bM (b7 TT bq 511 (KK w.params) prog w V) ((bodyOf bq).drop 9) ⟨sH w vs k n (.own 2) [],iJ vs k (vs.map λaa=>((0:Int):Rat)) ⟨[],[],[],[]⟩ []⟩ Q):
  bM (b7 TT bq 511 (KK w.params) prog w V) ((bodyOf bq).drop 4) ⟨yG w vs k n [("approvers_weight",.own 0)],[Pr vs k]⟩ Q:=by
 have O:=O'.toOk;have lF:=ae hl (show 6≤1000000 by decide);refine ah (aJ O (af O 3 rfl ⟨tr,?_⟩));refine ah (aK (aE (ak O 6 rfl (jh (FI .none ⟨_,rfl,cB ?_⟩)))));refine ah (d8 (i:=6) O (sq O' [] (by rfl) (ai O (f:= .type "range") rfl tr rfl rfl (ai O (f:= .builtin "len") rfl tr rfl rfl (af O 0 rfl (yv (C:=699) (f:=612) (k:=vs.length) O' (.f _) rfl tr (Ei hl) (by decide) (.f _) (bj hl (by decide)) (bW O ?_)))))));refine⟨.m8 0 vs.length,_,[],ck lF,.n _,.nil,λV2 OK=>sr OK.toOk (ar vs.length) _ (λaa=>FR ((0:Int):Rat)) [] (by rw[cf];exact ae hl (by decide)) rfl tr ⟨tr,?_⟩ λi hi H2 G2 la=>?_⟩
 ·rw[KV vs];refine aj ?_;refine ah (aJ O (af O 4 rfl ⟨tr,?_⟩));refine ah (aK (aE (af O 4 rfl (jh (FI .none ⟨_,rfl,cB ?_⟩)))));refine ah (d8 (i:=7) O (bR O rfl ⟨rfl,tr,aj ?_⟩));refine ah ?_;refine aJ O ?_;refine HT (he:=rfl) O rfl ?_;refine bR O rfl ⟨rfl,?_⟩;refine bR O rfl ⟨rfl,?_⟩;refine bR O rfl ⟨rfl,?_⟩;refine bR O rfl ⟨rfl,?_⟩;exact⟨rfl,tr,h⟩
 ·have OV:=OK.v H2 G2;exact ai OV.toOk (f:= .ref 189) rfl tr rfl rfl (aC (aH OV (kq 0) (by decide) (.cons (.f _) .nil) .nil rfl ⟨rfl,rfl⟩))
end
theorem Br(hl:noName (fr.map λp=>(p.1,AV.f p.2)) x=true)(gu:noName ((fr.map λp=>(p.1,AV.f p.2))++[(x,.f u)]) y=true)
  (hx: ∀A h0 gens aV,storeOk (tU g A env h0 gens aV) x=true)(hy: ∀A h0 gens aV,storeOk (tU g A env h0 gens aV) y=true)
  (h: ∀A h0 gens aV,bQ (tU g A env h0 gens aV) n->jF (tU g A env h0 gens aV) ifs ⟨((fr.map λp=>(p.1,AV.f p.2))++[(x,.f u)])++[(y,.f v)],[]⟩ (NK (tU g A env h0 gens aV) elt (out (.tuple [u,v])))):
  iH g env n fr (.Tuple [.Name x px,.Name y py] m pos) ifs elt out (.tuple [u,v]):=λA h0 gens aV O T val s S=>
 wpS (se (c:=tU g A env h0 gens aV) O.toOk S (.f [u,v]) (aU hl) (aU gu) (hx _ _ _ _) (hy _ _ _ _)) (λaa s' S' =>⟨_,S',h A h0 gens aV O⟩)
theorem Ig: ∀l:List Rat,fD own (EV l) (l.map FR):=by
 intro lz;induction lz with
 |nil=>exact .nil
 |cons _ l ih=>exact .cons (.n _) (ih)
section
variable{prog:d5}{w:fA}
theorem vq (hn:1≤n):lA prog w (KK w.params) TT n (PT k vs) (· =vs):=by obtain⟨_,_,_,_,_,_,_,D⟩:=u7 w.params;exact nQ D (.head _) hn
noncomputable def KW(vs:List (Int×Nat))(ld:List Rat)(k:Nat):AO:= .dict ((sD k λi=>AV.nw (t8 (pX vs ld i))).map λp=>(FV.int p.1,p.2))
theorem Ej{vs:List (Int×Nat)}{ld:List Rat}{i:Nat}:AO.dict ((iI (sD i λi=>AV.nw (t8 (pX vs ld i))) (i:Int) (AV.nw (t8 (pX vs ld i)))).map λp=>(FV.int p.1,p.2))=KW vs ld (i+1):=congrArg (λz:List (Int×AV)=>AO.dict (z.map λp=>(FV.int p.1,p.2))) (@sF i λi=>AV.nw (t8 (pX vs ld i)))
noncomputable def sJ(w:fA)(vs:List (Int×Nat))(k n:Nat)(ca:AV)(j:Int)(r:List (Str×AV)):List (Str×AV):=sH w vs k n ca (("_",.f (.int j))::r)
noncomputable def iu(b:List aa4):List aa4:=mw (b.getD 9 default)
theorem Ek: ∀(l:List (Int×Nat)) (a:Nat),x∈pW a (fN led l)->E2 λv w2=>A3 (v<a+l.length) (w2∈l) (x= .tuple [.int ((v:Nat):Int),VT led w2.1 w2.2]):=by
 intro lz;induction lz with
 |nil=>intro a h;exact nomatch h
 |cons y l ih=>
  intro a h;rcases a5.mp h with h|h
  ·exact⟨a,y,zr (zt _),.head _,h⟩
  ·obtain⟨v,w2,q1,q2,q3⟩:=ih (a+1) h;exact⟨v,w2,by rw[acQ]at q1;exact q1,.tail _ q2,q3⟩
variable{V:Fx}{H:List (dq×Obj)}{G:Array de}
noncomputable def V1 (w:fA)(vs:List (Int×Nat))(k n:Nat)(ca:AV)(j:Int)(ld:List Rat)(y:fh):Lp Nat Unit:=⟨λaa aa=>sJ w vs k n ca j [("approvers_load",.own 8)],λi aa=>iJ vs k ld y [KW vs ld i],λaa aa=>True⟩
theorem RI{k n:Nat}{j:Int}{vs:List (Int×Nat)}{ld:List Rat}{dg:List Nat}{ca:AV}{y:fh}(iO:k≤6)(M:Bq vs ld dg k n)(Ih:ld.length=vs.length)(lF:vs.length≤6)(O0:bQ (b7 TT bq 511 (KK w.params) prog w V) 12){Q:Fl->St->Prop}
  (h:bM ((b7 TT bq 511 (KK w.params) prog w V).v H G) ((iu (bodyOf bq)).drop 2) ⟨sJ w vs k n ca j [("approvers_load",.own 8)],iJ vs k ld y [KW vs ld k]⟩ Q):
  bM ((b7 TT bq 511 (KK w.params) prog w V).v H G) (iu (bodyOf bq)) ⟨sJ w vs k n ca j [],iJ vs k ld y []⟩ Q:=by
 have O' :=O0.v H G;have O:=O'.toOk;refine ah (aJ O (yp O ⟨tr,ah (ff O' (n1:=1) (by decide) (aG O (af O 0 rfl ⟨699,_,.f (.tail _ (.tail _ (.head _))),tr,rfl,_,_,.inl rfl,cZ aN,λl RH=>Hi RH (V1 w vs k n ca j ld y) () trivial rfl (λaa aa=>rfl) (λi jK aa R H2 G2 aa hR=>?_) λaa aa=>h⟩)))⟩));have fu:=O'.v H2 G2;have OO:=fu.toOk;refine ah (kE (knd:=t4 prog w) CP (uW (n1:=2) (n2:=4) (n3:=5) (n4:=7) fu (by decide) (by decide) (by decide) (by decide) [("load",V.L+7),("cand",V.L+4)] 510 508 (f:= .ref 200) (bi:=0) rfl tr rfl rfl (NT _) (.tail _ (.tail _ (.tail _ (.head _)))) rfl (sj rfl) (af OO 0 rfl ⟨_,_,Ib i ld,[("cand",.int (i:Int)),("load",.list (ld.map FR))],(vq (by decide)).enum,.f _,.cons 11 rfl rfl (λaa aa aa=>rfl) rfl (.f _) (.cons 6 rfl rfl (λaa aa aa=>rfl) rfl (.list rfl (Ig ld)) .nil),λl2 gu=>?_⟩) rfl (by decide+kernel) rfl rfl (λaa aa aa=>rfl) (λaa=>rfl)));obtain⟨l3',Rv,rfl⟩:=gu;subst Rv;refine⟨⟨_,by rw[Ie _ _ _ _ 0 (by rw[Mo];exact Ih.symm)];rw[aew];exact sC (by decide) (by decide) (M.prod i jK) (M.VW i jK),xJ ?_⟩,λx hx g C code hg=>iH.of hg λQ6 Q7 Q8=>?_⟩
 ·refine ak OO 10 rfl (ak OO 11 rfl ⟨8,sD i λi=>AV.nw (t8 (pX vs ld i)),(i:Int),rfl,rfl,sG,by rw[yF];exact ae (ec jK) (ae iO (by decide)),isInt_self,aj ?_⟩);exact cast (congrArg (λz=>R .next ⟨_,iJ vs k ld y [z]⟩) Ej.symm) (hR () [_] trivial)
 ·obtain⟨v,w2,tO,hw2,Qj⟩:=Ek vs 0 hx;rw[Qj];rw[Mo,<-Ih]at tO;refine Br tr tr (λaa aa aa aa=>tr) (λaa aa aa aa=>tr) λA' DK yc GX OG=>aE (qy OG.toOk 0 rfl (aG OG.toOk (af OG.toOk 3 rfl ⟨736,_,.f (.tail _ (.head _)),tr,rfl,wR (.f _ _) (a0 jK iO) ⟨_,rfl,?_⟩⟩)));cases hb:w2.2.testBit i with
  |true=>refine cB ⟨FR (ld[v]*(w2.1:Rat)),vp hb tO,au (aY (qy OG.toOk 1 rfl (af OG.toOk 2 rfl (item_list (j:=v) (e:= .f (FR ld[v])) (.f _) (.inl rfl) (by rw[my];rw[my];rw[eC tO];rfl) (by rw[ag];rw[ag];rw[Ih];exact ae lF (by decide)) ?_))))⟩;exact aG OG.toOk (af OG.toOk 3 rfl ⟨736,_,.f (.head _),tr,rfl,pq OG rfl (by decide) (.f _) (M.XM _ (Qb tO)) (.n _)⟩)
  |false=>exact bB (if_neg (by rw[show Tg _=w2.2 from rfl];rw[hb];decide))
end
theorem yH{F:Nat->FV}: ∀l:List Nat,fR ((l.map λ(i:Nat)=>((i:Int),AV.nw (F i))).map λp=>(FV.int p.1,p.2)) (l.map λ(i:Nat)=>((i:Int),F i)):=by
 intro lz;induction lz with
 |nil=>exact .nil
 |cons i l ih=>
  have ih:=ih;show fR ((.int (i:Int),AV.nw (F i))::_) ((((i:Nat):Int),F i)::_);cases F i with
  |none=>exact .f _ _ ih
  |bool b=>exact .f _ _ ih
  |int b=>exact .f _ _ ih
  |str b=>exact .f _ _ ih
  |val b=>exact .f _ _ ih
  |any=>exact .f _ _ ih
  |list b=>exact .n _ _ ih
  |tuple b=>exact .n _ _ ih
  |aW b c=>exact .n _ _ ih
  |inst b c=>exact .n _ _ ih
  |m8 b c=>exact .n _ _ ih
  |obj b=>exact .n _ _ ih
  |iP b=>exact .n _ _ ih
theorem find_key{α:Type}{F:Nat->α}(h:i<k):((ar k).map λ(i:Nat)=>((i:Int),F i)).find? (λe=>e.1=(i:Int))=some ((i:Int),F i):=by
 have key: ∀l:List Nat,i∈l->(l.map λ(i:Nat)=>((i:Int),F i)).find? (λe=>e.1=(i:Int))=some ((i:Int),F i):=by
  intro l;induction l with
  |nil=>intro h;cases h
  |cons a l ih=>
   intro h;rw[eA];rw[ad8]
   by_cases q:(a:Int)=(i:Int)
   ·have:a=i:=by lia
    subst this;simp
   ·simp only[q,decide_false];exact ih ((a5.mp h).resolve_left λe=>q (by rw[e];rfl))
 exact key _ (a9.mpr h)
theorem keys_nodup{α:Type}{F:Nat->α}:(((ar k).map λ(i:Nat)=>((i:Int),F i)).map (·.1)).Nodup:=by rw[dT];exact List.Pairwise.map _ (λa b (h:a≠b)=>by show(a:Int)≠(b:Int);lia) aaL
theorem Oc{vs:List (Int×Nat)}{ld:List Rat}{i:Nat}(hl:ld.length=vs.length)(h:0<vo vs i):E2 λq l=>pX vs ld i=q::l:=by
 cases hq:pX vs ld i with
 |cons q l=>exact⟨q,l,rfl⟩
 |nil=>
  exfalso;have: ∀(vs:List (Int×Nat)) (ld:List Rat),ld.length=vs.length->pX vs ld i=[]->vo vs i=0:=by
   intro vs;induction vs with
   |nil=>intro ld _ _;rfl
   |cons v vs ih=>
    intro ld hl he;cases ld with
    |nil=>cases hl
    |cons q ld=>
     unfold pX at he;rw[afq,y7]at he;unfold vo;rw[y7]
     by_cases hb:v.2.testBit i=true
     ·rw[if_pos hb]at he;cases he
     ·rw[if_neg hb]at he⊢;exact ih ld (by simpa using hl) he
  rw[this vs ld hl hq]at h;exact absurd h (by decide)
section
variable{prog:d5}{w:fA}
variable {V:Fx}{H:List (dq×Obj)}{G:Array de}
noncomputable def jz (vs:List (Int×Nat))(k:Nat)(ld:List Rat)(y:fh)(q:Nat->Rat)(r:List AO):List AO:=iJ vs k ld y (KW vs ld k:: .list (n6 k q)::r)
noncomputable def pD(w:fA)(vs:List (Int×Nat))(k n:Nat)(ca:AV)(j:Int)(r:List (Str×AV)):List (Str×AV):=sJ w vs k n ca j (("approvers_load",.own 8)::("new_maxload",.own 9)::r)
theorem RJ{k n:Nat}{j:Int}{vs:List (Int×Nat)}{ld:List Rat}{dg:List Nat}{ca:AV}{y:fh}(iO:k≤6)(Mn:n≤6)(M:Bq vs ld dg k n)(Ih:ld.length=vs.length)(hW: ∀i<k,vo vs i≤1000000)(O0:bQ (b7 TT bq 511 (KK w.params) prog w V) 12){Q:Fl->St->Prop}
  (h:bM ((b7 TT bq 511 (KK w.params) prog w V).v H G) ((iu (bodyOf bq)).drop 3) ⟨pD w vs k n ca j [],jz vs k ld y (yE vs ld n) []⟩ Q):
  bM ((b7 TT bq 511 (KK w.params) prog w V).v H G) ((iu (bodyOf bq)).drop 2) ⟨sJ w vs k n ca j [("approvers_load",.own 8)],iJ vs k ld y [KW vs ld k]⟩ Q:=by
 have O' :=O0.v H G;have O:=O'.toOk;refine ah (aJ O (sq O' [("committeesize",V.L+1),("approvers_weight",V.L+2),("approvers_load",V.L+3)] (by rfl) (aG O (af O 0 rfl ⟨699,_,.f (.tail _ (.tail _ (.head _))),tr,rfl,?_⟩))));refine⟨_,_,[("approvers_load",.iP ((ar k).map λ(i:Nat)=>((i:Int),t8 (pX vs ld i)))),("approvers_weight",.iP ((ar k).map λ(i:Nat)=>((i:Int),.int (vo vs i)))),("committeesize",.int (n:Int))],o5 k,.f _,.cons 10 rfl rfl rfl (λaa=>rfl) (.iP rfl (yH _)) (.cons 5 rfl rfl rfl (λaa=>rfl) (.iP rfl (yH (F:=λi=> .int (vo vs i)) _)) (.cons 1 rfl rfl rfl (λaa=>rfl) (.f _) .nil)),λV2 OK=>sr OK.toOk (ar k) _ (λi=>FR (yE vs ld n i)) _ (by rw[cf];exact ae iO (by decide)) tr tr ⟨tr,by rw[dT];exact h⟩ λi hi H2 G2 la=>?_⟩
 have jK:=a9.mp hi;have OV:=OK.v H2 G2;refine j8 (aE (aY (ak OV.toOk 1 rfl (af OV.toOk 3 rfl (mW keys_nodup (find_key (F:=λi=>FV.int (vo vs i)) jK) (aC (nq ⟨_,rfl,?_⟩)))))));unfold yE
 by_cases hw:0<vo vs i
 ·obtain⟨q0,ql,hq⟩:=Oc Ih hw;have ht:t8 (pX vs ld i)=FR (mX (pX vs ld i)):=by rw[hq];rfl
  have qi:=M.VW i jK _ (cq _);rw[ti]at qi;rw[if_pos hw];refine iV (decide_eq_true hw) (ai OV.toOk (f:= .ref 524) rfl tr rfl rfl (au (aY (ak OV.toOk 0 rfl (af OV.toOk 3 rfl (mW keys_nodup (find_key (F:=λi=>t8 (pX vs ld i)) jK) (aC ?_)))))));rw[ht];exact pA OV rfl (by decide) (.f _) qi (by decide) (aY (ak OV.toOk 1 rfl (af OV.toOk 3 rfl (mW keys_nodup (find_key (F:=λi=>FV.int (vo vs i)) jK) (aH OV (Oa (i:=vo vs i) (M.one i jK) (Bi hw) (by have:=hW i jK;lia)) (by decide) (.cons (.n _) (.cons (.f _) .nil)) .nil rfl ⟨rfl,rfl⟩)))))
 ·rw[if_neg hw];exact fF (decide_eq_false hw) (ai OV.toOk (f:= .ref 189) rfl tr rfl rfl (au (ak OV.toOk 2 rfl (aC (f6 (aH OV (kq ((n:Int)+1)) (by decide) (.cons (.f _) .nil) .nil rfl ⟨rfl,rfl⟩))))))
end
theorem lay_ints: ∀l:List Int,rx (l.map .int)=true:=by
 intro lz;induction lz with
 |nil=>exact rfl
 |cons _ l ih=>have:=ih;simp[rx,Ta,this]at*
theorem any_ints: ∀l:List Int,(l.map PyData.int).any (λy=>PyData.eqv y (.int i))=decide (i∈l):=by
 intro lz;induction lz with
 |nil=>exact rfl
 |cons a l ih=>
  have ih:=ih;rw[eA];rw[ahy];rw[ih];have:PyData.eqv (.int a) (.int i)=decide (a=i):=by
   show(a==i)=decide (a=i)
   by_cases q:a=i
   ·subst q;simp
   ·simp[q]
  rw[this]
  by_cases h:a=i
  ·subst h;simp
  ·have h' : ¬i=a:=λe=>h e.symm;simp[h,h']
section
variable{c:Cx}{st:St}
theorem Ii {n:Nat}{b:AV}{i:Int}{ns:List Int}{Q:AV->St->Prop}(O:bQ c n)(hb:Snap st.own b (.list (ns.map .int)))(hn:1≤n)(h:Q (.f (.bool (decide (i∈ns)))) st):Op c [b,.f (.int i)] (λvs=>match vs with| [y,x]=>md .In x y|_=> .raise .none) st Q:=LO O (.f _) hb (.int i) (gR ns) (lay_ints ns) rfl (ae (tp _ _) (bo rfl)) hn (by rw[any_ints];exact h)
end
structure Bs(ca:AV)(cs:List Nat):Prop where
 snap: ∀own:List AO,own[2]?=some (.list [])->Snap own ca (.list (cs.map λ(i:Nat)=> .int (i:Int)))
 XR: ∀own:List AO,own[2]?=some (.list [])->aQ own ca (ku cs)
theorem Bs.own:Bs (.own 2) []:=⟨λaa h=> .list h .nil,λaa h=> .own h⟩
theorem Bs.n(cs:List Nat):Bs (.n (.list (cs.map λ(i:Nat)=> .int (i:Int)))) cs:=⟨λaa aa=> .n _,λaa aa=>kF cs⟩
theorem mem_cast{i:Nat}{cs:List Nat}:decide ((i:Int)∈cs.map λ(i:Nat)=>(i:Int))=decide (i∈cs):=by apply decide_eq_decide.mpr;exact eV (bb ..) ⟨λzz=>by obtain⟨a,h,e⟩:=zz;exact(by lia:a=i)▸h,λh=>⟨i,h,rfl⟩⟩
theorem pY(cs:List Nat):(cs.map λ(i:Nat)=>(i:Int)).map FV.int=cs.map λ(i:Nat)=> .int (i:Int):=by rw[dT];rfl
theorem mY{α:Type}{p q:Prop}[Decidable p][Decidable q]{a b:α}(h:p↔q):(if p then a else b)=if q then a else b:=by
 by_cases z:p
 ·rw[if_pos z];rw[if_pos (h.mp z)];rfl
 ·rw[if_neg z];rw[if_neg λy=>z (h.mpr y)];rfl
section
variable{prog:d5}{w:fA}
variable {V:Fx}{H:List (dq×Obj)}{G:Array de}
noncomputable def V5 (w:fA)(vs:List (Int×Nat))(k n:Nat)(ca:AV)(j:Int)(ld:List Rat)(y:fh)(cs:List Nat):Lp Nat Unit:=⟨λaa aa=>pD w vs k n ca j [],λi aa=>jz vs k ld y (λa=>if a<i/\a∈cs then((n+2:Int):Rat)else yE vs ld n a) [],λaa aa=>True⟩
theorem RK{k n:Nat}{j:Int}{vs:List (Int×Nat)}{ld:List Rat}{cs:List Nat}{ca:AV}{y:fh}(iO:k≤6)(KX:Bs ca cs)(O0:bQ (b7 TT bq 511 (KK w.params) prog w V) 12){Q:Fl->St->Prop}
  (h:bM ((b7 TT bq 511 (KK w.params) prog w V).v H G) ((iu (bodyOf bq)).drop 4) ⟨pD w vs k n ca j [],jz vs k ld y (qL vs ld cs n) []⟩ Q):
  bM ((b7 TT bq 511 (KK w.params) prog w V).v H G) ((iu (bodyOf bq)).drop 3) ⟨pD w vs k n ca j [],jz vs k ld y (yE vs ld n) []⟩ Q:=by
 have O' :=O0.v H G;have O:=O'.toOk;have Th: ∀{p q:Nat->Rat},(∀a<k,p a=q a)->jz vs k ld y p []=jz vs k ld y q []:=λh=>congrArg (λz=>iJ vs k ld y (KW vs ld k:: .list z::[])) (lE h);refine ah (ff O' (n1:=1) (by decide) (aG O (af O 0 rfl ⟨699,_,.f (.tail _ (.tail _ (.head _))),tr,rfl,_,_,.inl rfl,cZ aN,λl RH=>Hi RH (V5 w vs k n ca j ld y cs) () trivial (congrArg (St.mk _) (Th λa ha=>(if_neg λz=>t5 _ z.1).symm)) (λaa aa=>rfl) (λi jK aa R H2 G2 aa hR=>?_) λaa aa=>?_⟩)))
 ·have fu:=O'.v H2 G2;have OO:=fu.toOk;refine ah (aK (aE (ak OO 12 rfl (af OO 7 rfl (Ii (ns:=cs.map λ(i:Nat)=>(i:Int)) fu (by rw[pY];exact KX.snap _ rfl) (by decide) ⟨_,rfl,?_⟩)))));rw[mem_cast];cases kD:decide (i∈cs)with
  |true=>
   refine cB (ah (fH (ai OO (f:= .ref 189) rfl tr rfl rfl (au (ak OO 1 rfl (aC (f6 (aH fu (kq ((n:Int)+2)) (by decide) (.cons (.f _) .nil) .nil rfl (ak OO 11 rfl (ak OO 12 rfl ⟨9,_,i,rfl,rfl,rfl,by rw[jw];exact jK,by rw[jw];exact ae iO (by decide),aj (aj ?_)⟩))))))))));refine cast (congrArg (λz=>R .next ⟨_,z⟩) (Eq.trans (Th λa ha=>?_) (congrArg (λz=>iJ vs k ld y (KW vs ld k:: .list z::[])) qI.symm))) (hR () [_] trivial)
   by_cases e:a=i
   ·rw[if_pos e];rw[if_pos ⟨e▸gN _,e▸of_decide_eq_true kD⟩];rfl
   ·rw[if_neg e];exact mY ⟨λz=>⟨TO (vi z.1) e,z.2⟩,λz=>⟨fg z.1,z.2⟩⟩
  |false=>exact bB (aj (aj (cast (congrArg (λz=>R .next ⟨_,z⟩) (Th λa ha=>mY ⟨λz=>⟨TO (vi z.1) λe=>of_decide_eq_false kD (e▸z.2),z.2⟩,λz=>⟨fg z.1,z.2⟩⟩)) (hR () [_] trivial))))
 ·refine cast (congrArg (λz=>bM _ _ ⟨_,z⟩ Q) (Th λa ha=>?_)) h;unfold qL;exact mY ⟨λz=>⟨ha,z⟩,λz=>z.2⟩
end
theorem El{q:Nat->Rat}: ∀l:List Nat,fD own (l.map λi=>AV.n (FR (q i))) (l.map λi=>FR (q i)):=by
 intro lz;induction lz with
 |nil=>exact .nil
 |cons _ l ih=>exact .cons (.n _) (ih)
theorem Ij{c:Cx}{st:St}{n k:Nat}{a:AV}{q:Nat->Rat}{Q:AV->St->Prop}(O:bQ c n)(hK:c.K=KK c.w.params)(hn:5≤n)(ha:aQ st.own a (n6 k q))(hk:1≤k)(iE: ∀i<k,Sm (q i))(h: ∀b',dc b' (t6 k q)->Q b' st):aZ c (.builtin "min") [a] [] [] st Q:=by
 have jU:yl (n6 k q) (q 0::(kl 1 (k-1)).map q):=by have:=qJ (ar k) q;rwa[show(ar k).map q=q 0::(kl 1 (k-1)).map q by rw[bJ hk];rfl]at this
 refine wN O hK hn ha jU (λy hy=>?_) h;rw[show q 0::(kl 1 (k-1)).map q=(ar k).map q by rw[bJ hk];rfl,bb]at hy;obtain⟨i,hi,rfl⟩:=hy;exact iE i (a9.mp hi)
theorem C1(hk:1≤k):E2 λi r=>eO k q=i::r:=by
 obtain⟨i,hi,e⟩:=yD (q:=q) hk;have:i∈eO k q:=fI.mpr ⟨a9.mpr hi,by rw[decide_eq_true_eq];exact e.symm⟩;cases h:eO k q with
 |nil=>rw[h]at this;cases this
 |cons i r=>exact⟨i,r,rfl⟩
section
variable{prog:d5}{w:fA}
variable {V:Fx}{H:List (dq×Obj)}{G:Array de}
noncomputable def kG (w:fA)(vs:List (Int×Nat))(k n:Nat)(ca:AV)(j:Int)(b' :AV)(tl:List FV)(i:Nat)(r:List (Str×AV)):List (Str×AV):=pD w vs k n ca j (("opt",b')::("tied_cands",.n (.list tl))::("next_cand",.f (.int (i:Int)))::r)
theorem RL{k n:Nat}{j:Int}{vs:List (Int×Nat)}{ld:List Rat}{q:Nat->Rat}{ca:AV}{y:fh}(Bp:1≤k)(iO:k≤6)(iE: ∀i<k,Sm (q i))(O0:bQ (b7 TT bq 511 (KK w.params) prog w V) 12){Q:Fl->St->Prop}
  (h: ∀b' i r,dc b' (t6 k q)->eO k q=i::r->bM ((b7 TT bq 511 (KK w.params) prog w V).v H G) ((iu (bodyOf bq)).drop 7) ⟨kG w vs k n ca j b' ((eO k q).map λ(i:Nat)=> .int (i:Int)) i [],jz vs k ld y q []⟩ Q):
  bM ((b7 TT bq 511 (KK w.params) prog w V).v H G) ((iu (bodyOf bq)).drop 4) ⟨pD w vs k n ca j [],jz vs k ld y q []⟩ Q:=by
 have O' :=O0.v H G;have O:=O'.toOk;have lF:=ae iO (show 6≤1000000 by decide);refine ah (aJ O (ai O (f:= .builtin "min") rfl tr rfl rfl (ak O 11 rfl (Ij O' rfl (by decide) (.own rfl) Bp iE λb' gC=>⟨tr,ah (iD O' [("opt",V.L+6),("new_maxload",V.L+5)] (by rfl) (aG O (af O 0 rfl ⟨699,_,.f (.tail _ (.tail _ (.head _))),tr,rfl,?_⟩)))⟩))));refine⟨_,_,[("new_maxload",.list (yi k q)),("opt",FR (t6 k q))],o5 k,.f _,.cons 11 rfl rfl rfl (λaa=>rfl) (.list rfl (El _)) (.cons 12 rfl rfl rfl (λaa=>rfl) gC.snap .nil),λV2 OK=>dP OK.toOk (ar k) _ (λi=>decide (q i=t6 k q)) (λi=> .int (i:Int)) _ (by rw[cf];exact ae iO (by decide)) rfl tr ⟨_,aU rfl,?_⟩ (λi hi H2 G2 la=>?_) (λi hi aa H2 G2 la=>af (OK.v H2 G2).toOk 2 rfl ⟨rfl,rfl⟩)⟩
 ·obtain⟨t0,tl,ht⟩:=C1 (q:=q) Bp;have h2:=h b' t0 tl gC ht;have hlen:= @CZ k q;show bM _ _ ⟨_++[(_,.n (.list ((eO k q).map _)))],_⟩ _;rw[ht]at h2 hlen⊢;exact ah (aJ O (aY (af O 13 rfl (aC (item_list (j:=0) (e:= .f (.int (t0:Int))) (.n _) (.inl rfl) rfl (by rw[ag];rw[ag];exact ae hlen lF) ⟨rfl,h2⟩)))))
 ·have OV:=OK.v H2 G2;have jK:=a9.mp hi;exact aE (aY (ak OV.toOk 0 rfl (af OV.toOk 2 rfl (item_list (j:=i) (e:= .f (FR (q i))) (.f _) (.inl rfl) (wU jK) (by rw[ag];rw[ag];rw[cf];exact lF) (ak OV.toOk 1 rfl (wI OV rfl (by decide) (.f _) (.f _) ⟨_,rfl,rfl,rfl⟩))))))
end
section
variable{c:Cx}{st:St}
theorem Em (O:Ok c)(h:E2 λl1 l2=>A3 (cA bD.loc x (.f u) l1) (cA l1 y (.f v) l2) (bM (c.v H G) body ⟨l2,bD.own⟩ Q))(hx:storeOk c x=true:=by kernel_rfl)(hy:storeOk c y=true:=by kernel_rfl):
  G6 (c.v H G) (.Tuple [.Name x px,.Name y py] m pos) body (.tuple [u,v]) bD Q:=λT val s S=>by
 obtain⟨l1,l2,h1,h2,hb⟩:=h;exact wpS (se (c:=c.v H G) (O.v H G) S (.f [u,v]) h1 h2 hx hy) (λaa s' S' =>⟨_,S',hb⟩)
end
section
variable{prog:d5}{w:fA}
variable {V:Fx}{H:List (dq×Obj)}{G:Array de}
noncomputable def jM (ld:List Rat)(i:Nat)(z:Rat)(p:List (Int×Nat)):List Rat:=dh p (ld.take p.length) i z++ld.drop p.length
theorem sL{ld:List Rat}{i:Nat}{z:Rat}{p:List (Int×Nat)}(h:p.length≤ld.length):(dh p (ld.take p.length) i z).length=p.length:=by unfold dh;rw[ag];rw[ag2];rw[oD];rw[so h];rw[ah0];rfl
theorem C2{ld:List Rat}{i:Nat}{z:Rat}{p:List (Int×Nat)}(h:p.length≤ld.length):(EV (jM ld i z p)).length=ld.length:=by unfold jM;rw[ag];rw[dy];rw[sL h];rw[Qr];rw[aeT h];rfl
theorem Ik{ld:List Rat}{i:Nat}{z:Rat}{p:List (Int×Nat)}{v:Int×Nat}(h:p.length<ld.length):EV (jM ld i z (p++[v]))=if v.2.testBit i=true then(EV (jM ld i z p)).set p.length (.n (FR z))else EV (jM ld i z p):=by
 have hl:=sL (i:=i) (z:=z) (ec h);have e1:jM ld i z (p++[v])=dh p (ld.take p.length) i z++(if v.2.testBit i=true then z else ld[p.length])::ld.drop (p.length+1):=by unfold jM dh;rw[dy];rw[ad4];rw[abv];rw[eC h];rw[List.zip_append (by rw[oD];rw[so (ec h)];rfl)];rw[ew];rw[hJ];rfl
 have e2:jM ld i z p=dh p (ld.take p.length) i z++ld[p.length]::ld.drop (p.length+1):=congrArg (_++ ·) (mi h);rw[e1];rw[e2]
 by_cases hb:v.2.testBit i=true
 ·rw[if_pos hb];rw[if_pos hb];unfold EV;rw[ew];rw[ew];rw[abJ _ _ (by rw[ag];rw[hl];exact cq _)];rw[ag];rw[hl];rw[abG];rfl
 ·rw[if_neg hb];rw[if_neg hb];rfl
theorem KY{vs:List (Int×Nat)}{ld:List Rat}{i:Nat}{z:Rat}(h:ld.length=vs.length):jM ld i z vs=dh vs ld i z:=by unfold jM;refine bS (h ..) ?_;rw[ti];rw[agi];rw[fw];rfl
inductive V6(w:fA)(vs:List (Int×Nat))(loc:List (Str×AV))(own:List (Int×Nat)->List AO)(r:List FV)(st:St):Prop
 |mk (p s:List (Int×Nat)) (e1:vs=p++s) (e2:r=pW p.length (fN (aq w) s)) (e:st=⟨loc,own p⟩)
noncomputable def qM(vs:List (Int×Nat))(k:Nat)(ld:List Rat)(y:fh)(q:Nat->Rat)(la:List AV):List AO:=Pr vs k:: .list la:: .list []:: .dict (sI.map λp=>(FV.str p.1,p.2)):: .list y.a:: .list y.b:: .list y.c:: .list y.d::KW vs ld k:: .list (n6 k q)::[]
noncomputable def wX(vs:List (Int×Nat))(k:Nat)(ld:List Rat)(y:fh)(q:Nat->Rat)(Mp:List Rat):List AO:=qM vs k ld y q (EV Mp)
theorem RM{k n i:Nat}{j:Int}{vs:List (Int×Nat)}{ld:List Rat}{q:Nat->Rat}{ca b' :AV}{tl:List FV}{y:fh}(iO:k≤6)(jK:i<k)(lF:vs.length≤6)(Ih:ld.length=vs.length)(O0:bQ (b7 TT bq 511 (KK w.params) prog w V) 12){Q:Fl->St->Prop}
  (h:bM ((b7 TT bq 511 (KK w.params) prog w V).v H G) ((iu (bodyOf bq)).drop 8) ⟨kG w vs k n ca j b' tl i [],wX vs k ld y q (dh vs ld i (q i))⟩ Q):
  bM ((b7 TT bq 511 (KK w.params) prog w V).v H G) ((iu (bodyOf bq)).drop 7) ⟨kG w vs k n ca j b' tl i [],jz vs k ld y q []⟩ Q:=by
 have O' :=O0.v H G;have O:=O'.toOk;refine ah (yd (n1:=2) O' (by decide) (sj rfl) (af O 0 rfl ⟨_,_,.inl rfl,(vq (by decide)).enum,λl hl=>?_⟩));obtain⟨l',JY,rfl⟩:=hl;subst JY;refine⟨V6 w vs (kG w vs k n ca j b' tl i []) λp=>wX vs k ld y q (jM ld i (q i) p),⟨[],vs,rfl,rfl,rfl⟩,λb r bD H2 G2 hI=>?_,λbD hI=>?_⟩
 ·obtain⟨p,s,e1,e2,e⟩:=hI;cases s with
  |nil=>cases e2
  |cons v s=>
   obtain⟨eb,er⟩:=List.cons.inj e2;rw[e];rw[eb];have fu:=O'.v H2 G2;have OO:=fu.toOk;have wz:p.length<ld.length:=by rw[Ih];rw[e1];rw[dy];exact zr (zt _)
   refine Em O ⟨_,_,aU tr,aU tr,rB 15 (cU λR hR=>?_)⟩;have hR:R .next ⟨kG w vs k n ca j b' tl i [("v",.f (.int (p.length:Nat))),("voter",.f (VT (aq w) v.1 v.2))],wX vs k ld y q (jM ld i (q i) (p++[v]))⟩:=hR ⟨.inl rfl,p++[v],s,by rw[e1];rw[hJ];rfl,er.trans (by rw[dy];rfl),rfl⟩;have e3:= @Ik ld i (q i) p v wz;refine ah (aK (aE (af OO 14 rfl (aG OO (af OO 16 rfl ⟨736,_,.f (.tail _ (.head _)),tr,rfl,wR (.f _ _) (a0 jK iO) ⟨_,rfl,?_⟩⟩)))));cases hb:v.2.testBit i with
   |true=>rw[if_pos hb]at e3;refine cB (ah (fH (aY (ak OO 11 rfl (af OO 14 rfl (item_list (j:=i) (e:= .n (FR (q i))) (.own rfl) (.inl rfl) (wJ jK) (by rw[jw];exact ae iO (by decide)) ?_))))));refine ak OO 6 rfl (af OO 15 rfl ⟨1,_,p.length,rfl,rfl,rfl,by rw[C2 (ec wz)];exact wz,by rw[C2 (ec wz)];rw[Ih];exact ae lF (by decide),aj (aj ?_)⟩);exact cast (congrArg (λz=>R .next ⟨_,qM vs k ld y q z⟩) e3) hR
   |false=>rw[if_neg (by rw[hb];decide)]at e3;exact bB (aj (aj (cast (congrArg (λz=>R .next ⟨_,qM vs k ld y q z⟩) e3) hR)))
 ·obtain⟨p,s,e1,e2,e⟩:=hI;cases s with
  |nil=>rw[fw]at e1;rw[e];refine bS (e1 ..) ?_;rw[KY Ih];exact h
  |cons _ _=>cases e2
end
theorem Il: ∀l:List Rat,cT (EV l) (l.map FR):=by
 intro lz;induction lz with
 |nil=>exact .nil
 |cons _ l ih=>exact .cons (.n _) (ih)
theorem En{l:List Nat}{ns:List Int}(h:ns.Perm (l.map λ(i:Nat)=>(i:Int))): ∃l' :List Nat,l'.Perm l/\ns.map FV.int=l'.map λ(i:Nat)=> .int (i:Int):=by
 refine⟨ns.map ah1,?_,?_⟩
 ·have:=h.map ah1;rw[dT]at this;have e:(ah1∘λ(i:Nat)=>(i:Int))=id:=by funext i;simp
  rwa[e,aeN]at this
 ·rw[dT];refine i5 λx hx=>?_;obtain⟨i,_,rfl⟩:=bb.mp (h.mem_iff.mp hx);simp
theorem dz(l:List Int):aQ own (.n (.list (l.map .int))) (l.map λi=> .f (.int i)):=by have:=aQ.n (own:=own) (l.map FV.int);rwa[dT]at this
section
variable{prog:d5}{w:fA}
variable {V:Fx}{H:List (dq×Obj)}{G:Array de}
theorem RN {k n i:Nat}{j:Int}{vs:List (Int×Nat)}{ld Mp:List Rat}{q:Nat->Rat}{ca b' :AV}{cs:List Nat}{tl:List FV}{y:fh}(KX:Bs ca cs)(XS:cs.length≤50)(Ih:Mp.length≤50)(hy:A4 (y.a.length≤50) (y.b.length≤50) (y.c.length≤50) (y.d.length≤50))(O0:bQ (b7 TT bq 511 (KK w.params) prog w V) 12){Q:Fl->St->Prop}
  (h: ∀(K0:List Nat) (ex:List AO),K0.Perm (cs++[i])->Q .next ⟨kG w vs k n (.n (.list (K0.map λ(i:Nat)=> .int (i:Int)))) j b' tl i [],iJ vs k Mp ⟨y.a++[.f (.int (i:Int))],y.b++[.n (.list tl)],y.c++[.n (.list (Mp.map FR))],y.d++[b']⟩ ex⟩):
  bM ((b7 TT bq 511 (KK w.params) prog w V).v H G) ((iu (bodyOf bq)).drop 8) ⟨kG w vs k n ca j b' tl i [],wX vs k ld y q Mp⟩ Q:=by
 have O' :=O0.v H G;have O:=O'.toOk;refine ah (d8 (i:=7) O (ai O (f:= .builtin "sorted") rfl tr rfl rfl (au (af O 7 rfl (bR O rfl (af O 14 rfl ⟨rfl,Cv O (KX.XR _ rfl) (.own rfl) (by rw[ag];exact ae XS (by decide)) (bo rfl) (fO cs) (.cons (.f rfl) .nil) ?_⟩))))));rw[show(cs.map λ(i:Nat)=>FV.int (i:Int))++[.int (i:Int)]=((cs++[i]).map λ(i:Nat)=>(i:Int)).map .int by rw[dT];rw[ew];rfl];refine pV O (dz _) (by rw[ag];rw[dy];exact bj (nf XS 1) (by decide)) λAG hp aa=>⟨tr,?_⟩;obtain⟨K0,o6,he⟩:=En hp;rw[he];show bM _ _ ⟨kG w vs k n _ j b' tl i [],qM vs k ld y q (EV Mp)++[_]⟩ _;refine ah (fV O 8 sI rfl rfl tr rfl rfl rfl (af O 14 rfl ⟨_,rfl,ae hy.1 (by decide),ah (fV O 8 sI rfl rfl tr rfl rfl rfl (af O 13 rfl ⟨_,rfl,ae hy.2 (by decide),ah (fV O 8 sI rfl rfl tr rfl rfl rfl (ai O (f:= .type "list") rfl tr rfl rfl (ak O 6 rfl (Ea O (.own rfl) (by rw[ag];exact ae Ih (by decide)) (Il Mp) ⟨_,rfl,ae hy.3 (by decide),?_⟩))))⟩))⟩));exact ah (fV O 8 sI rfl rfl tr rfl rfl rfl (ak O 12 rfl ⟨_,rfl,ae hy.4 (by decide),aj (h K0 [KW vs ld k,.list (n6 k q),.list [.f (.int (i:Int))]] o6)⟩))
end
theorem yI{vs:List (Int×Nat)}{ld:List Rat}{cs dg:List Nat}{n:Nat}(h:cs.Perm dg):qL vs ld cs n=qL vs ld dg n:=by
 funext i;unfold qL
 by_cases q:i∈cs
 ·rw[if_pos q];rw[if_pos (h.mem_iff.mp q)];rfl
 ·rw[if_neg q];rw[if_neg λz=>q (h.mem_iff.mpr z)];rfl
theorem Bq.perm{vs:List (Int×Nat)}{ld:List Rat}{cs dg:List Nat}{k n:Nat}(M:Bq vs ld dg k n)(h:cs.Perm dg):Bq vs ld cs k n:=⟨M.XM,M.prod,M.VW,M.one,λi hi=>by rw[yI h];exact M.q i hi⟩
structure fh.Ok(y:fh)(j:Nat):Prop where
 la:y.a.length≤j
 lb:y.b.length≤j
 lc:y.c.length≤j
 ld:y.d.length≤j
 ta: ∀a∈y.a,a.lt 8
 tb: ∀a∈y.b,a.lt 8
 tc: ∀a∈y.c,a.lt 8
 td: ∀a∈y.d,a.lt 8
theorem qN{l:List AV}{x:AV}(h: ∀a∈l,a.lt 8)(hx:x.lt 8): ∀a∈l++[x],a.lt 8:=λa ha=>(cp.mp ha).elim (h a) λz=>by rw[fx.mp z];exact hx
theorem fh.Ok.app{y:fh}{j:Nat}{a b c d:AV}(h:y.Ok j)(ha:a.lt 8)(hb:b.lt 8)(hc:c.lt 8)(hd:d.lt 8):fh.Ok ⟨y.a++[a],y.b++[b],y.c++[c],y.d++[d]⟩ (j+1):=⟨mh h.la,mh h.lb,mh h.lc,mh h.ld,qN h.ta ha,qN h.tb hb,qN h.tc hc,qN h.td hd⟩
theorem Im{vs:List (Int×Nat)}{k j:Nat}{ld:List Rat}{y:fh}(h:y.Ok j): ∀o∈iJ vs k ld y [],o.lt 8:=by
 refine bH ?_ (bH ?_ (bH gU (bH ?_ (bH h.ta (bH h.tb (bH h.tc (bH h.td gU)))))))
 ·intro p hp;obtain⟨q,hq,e⟩:=bb.mp hp;obtain⟨i,_,e2⟩:=bb.mp hq;refine bS (e ..) ?_;refine bS (e2 ..) ?_;trivial
 ·intro a ha;obtain⟨q,_,e⟩:=bb.mp ha;refine bS (e ..) ?_;trivial
 ·exact bH (bo rfl) (bH (bo rfl) (bH (bo rfl) (bH (bo rfl) gU)))
structure XT where
 ca:AV
 cs:List Nat
 y:fh
structure ZU(vs:List (Int×Nat))(k n j:Nat)(z:XT):Prop where
 ca:Bs z.ca z.cs
 perm:z.cs.Perm (jL vs k n j).2
 nw:0<j->z.ca= .n (.list (z.cs.map λ(i:Nat)=> .int (i:Int)))
 ok:z.y.Ok j
noncomputable def ZV(w:fA)(vs:List (Int×Nat))(k n:Nat):Lp Nat XT:=⟨λaa z=>sH w vs k n z.ca [],λj z=>iJ vs k (jL vs k n j).1 z.y [],ZU vs k n⟩
theorem Io(h:cs.Perm (jL vs k n j).2)(hl:eO k (qL vs (jL vs k n j).1 cs n)=i::r):jL vs k n (j+1)=(dh vs (jL vs k n j).1 i (qL vs (jL vs k n j).1 cs n i),(jL vs k n j).2++[i]):=by rw[yI h]at hl⊢;show(dh vs (jL vs k n j).1 ((eO k _).headD 0) (qL vs (jL vs k n j).1 (jL vs k n j).2 n ((eO k _).headD 0)),_++[(eO k _).headD 0])=_;rw[hl];rfl
section
variable{prog:d5}{w:fA}
theorem Od (Bp:1≤k)(iO:k≤6)(oK:1≤n)(Mn:n≤6)(hv: ∀v∈vs,0≤v.1/\v.1≤1000000)(lF:vs.length≤6)(hW: ∀i<k,vo vs i≤1000000)(M: ∀j<n,Bq vs (jL vs k n j).1 (jL vs k n j).2 k n):
  Spec prog w (KK w.params) TT 13 (.ref 511) [] [("profile",PT k (fN (aq w) vs)),("committeesize",.int (n:Int)),("algorithm",.str "standard-fractions")] (λr=> ∃cs:List Nat,cs.Perm (jL vs k n n).2/\r= .tuple [.list [.list (cs.map λ(i:Nat)=> .int (i:Int))],.any]):=by
 have ZW:n≤50:=ae Mn (by decide);refine eu (UZ w.params) [("profile",PT k (fN (aq w) vs)),("committeesize",.int (n:Int)),("algorithm",.str "standard-fractions"),("start_load",.none),("partial_committee",.none)] tr (λaa=>tr) ?_ λV O' =>cU λQ hQ=>KP λhz=>VZ iO hv lF O' (V0 lF O' ?_)
 ·rintro s P us ks rfl ⟨a,_,rfl,ha,b,_,rfl,hb,d,_,rfl,hd,rfl⟩ X;exact⟨_,aS X (b:=[("profile",a),("committeesize",b),("algorithm",d),("start_load",.none),("partial_committee",.none)]) λM=>rfl,.cons ha (.cons hb (.cons hd (.cons rfl (.cons rfl .nil))))⟩
 ·have O:=O'.toOk;refine ah (lg O (ai O (f:= .type "range") rfl tr rfl rfl (ai O (f:= .builtin "len") rfl tr rfl rfl (af O 7 rfl (jq (.own rfl) (by decide) (ak O 1 rfl (Ax O ⟨n,ZV w vs k n,rfl,ae Mn (by decide),⟨.own 2,[],⟨[],[],[],[]⟩⟩,⟨.own,.nil,λh=>absurd h (ib _),⟨kS _,kS _,kS _,kS _,gU,gU,gU,gU⟩⟩,rfl,λaa aa=>rfl,λj hj z R H G hp hR=>?_,λz hp=>?_⟩)))))))
  ·obtain⟨KX,iK,_,wA⟩:=hp;obtain⟨e1,e2⟩:=C0 vs k n j;have RO:=ae (ec hj) ZW;have Mj:=(M j hj).perm iK;refine HO hz (RI iO Mj e1 lF O' (RJ iO Mn Mj e1 hW O' (RK iO KX O' (RL Bp iO Mj.q O' λb' i r gC XU=>RM iO ?_ lF e1 O' (RN KX (by rw[iK.length_eq];rw[e2];exact RO) ?_ ⟨ae wA.la RO,ae wA.lb RO,ae wA.lc RO,ae wA.ld RO⟩ O' λK0 ex o6=>?_)))))
   ·exact a9.mp (fI.mp (XU▸List.Mem.head r:i∈eO k _)).1
   ·unfold dh;rw[ag];rw[ag2];rw[e1];rw[ah0];exact ae lF (by decide)
   ·have hs:=Io iK XU;have ZX:b'.lt 8:=by cases gC<;>trivial
    have K1:=wA.app (a:= .f (.int (i:Int))) (b:= .n (.list ((eO k (qL vs (jL vs k n j).1 z.cs n)).map λ(i:Nat)=> .int (i:Int)))) (c:= .n (.list ((dh vs (jL vs k n j).1 i (qL vs (jL vs k n j).1 z.cs n i)).map FR))) (d:=b') trivial trivial trivial ZX;have:=hR ⟨.n (.list (K0.map λ(i:Nat)=> .int (i:Int))),K0,_⟩ [] ⟨.n K0,by rw[hs];exact o6.trans (iK.append_right _),λaa=>rfl,K1⟩;rw[fw]at this;refine⟨sH w vs k n (.n (.list (K0.map λ(i:Nat)=> .int (i:Int)))) [],_,ex,λe he=>?_,rfl,⟨?_,Im K1⟩,bo rfl,.inl rfl,?_⟩
    ·exact wd (i:=9) he
    ·exact bH trivial (bH trivial (bH trivial (bH trivial (bH trivial (bH (bo rfl) (bH (bo rfl) (bH trivial (bH (bo rfl) gU))))))))
    ·exact cast (congrArg (λl=>R .next ⟨_,iJ vs k l _ []⟩) (congrArg (·.1) hs)) this
  ·obtain⟨ca,cs,y⟩:=z;obtain⟨KX,iK,Mq,_⟩:=hp;dsimp only at KX iK Mq;show bM _ _ ⟨sH w vs k n ca [],iJ vs k _ y []⟩ _;have Mq:=Mq oK;have VH:cs.length≤6:=by rw[iK.length_eq];rw[(C0 vs k n n).2];exact Mn
   refine ah (kE (knd:=agZ prog w) qK (HP (ks:=cs.map λ(i:Nat)=>(i:Int)) O' hz (ai O (f:= .type "tuple") rfl tr rfl rfl (af O 7 rfl (HN O (KX.XR _ rfl) (by rw[ag];exact ae VH (by decide)) (fO cs) ⟨by rw[pY];rfl,ak O 6 rfl ⟨rfl,?_⟩⟩)))));exact af O 8 rfl (bz ⟨3,sI,"committee_load_pairs",rfl,rfl,by decide+kernel,by decide,HS _,ah (aF (oV O rfl (bR O rfl (af O 7 rfl ⟨rfl,af O 8 rfl ⟨rfl,hQ ⟨_,.tuple rfl (.cons (.list rfl (.cons (Mq▸ .n _) .nil)) (.cons (.any _) .nil)),cs,iK,rfl⟩⟩⟩))))⟩)
end
noncomputable abbrev RU(id:Str)(b6 av:List Str)(sh lo:Str):FV:= .inst 364 [("available_algorithms",.list (av.map .str)),("resolute_values",.val (.ref 339)),("algorithms",.tuple (b6.map .str)),("longname",.str lo),("shortname",.str sh),("rule_id",.str id)]
noncomputable abbrev RP:List ahj:=[.str "branch-and-bound",.str "brute-force",.str "standard",.str "standard-fractions"]
noncomputable def vz(a:Str):Bool:=RP.any λy=>PyData.eqv y (.str a)
theorem yJ: ∀l:List Str,j0 own (l.map λx=> .f (.str x)) (l.map .str):=by
 intro lz;induction lz with
 |nil=>exact .nil
 |cons _ l ih=>exact .cons (.f _ rfl) (ih)
section
variable{prog:d5}{w:fA}{tt:List dq}
noncomputable abbrev XW (id:Str)(b6:List Str)(sh lo:Str):List (Str×AV):=[("resolute_values",.f (.val (.ref 339))),("algorithms",.n (.tuple (b6.map .str))),("longname",.f (.str lo)),("shortname",.f (.str sh)),("rule_id",.f (.str id))]
variable{V:Fx}{n:Nat}
theorem Ip {id sh lo:Str}{b6:List Str}(hl:b6.length≤10)(hc: ∀a∈b6,(PyData.str a).canLay0=true)(O' :bQ (b7 tt eH 346 (KK w.params) prog w V) n)(hn:1≤n){R:FV->Prop}(hR:R (RU id b6 (b6.filter vz) sh lo)):
  bM (b7 tt eH 346 (KK w.params) prog w V) ((bodyOf eH).drop 2) ⟨[("self",.own 0),("rule_id",.f (.str id))],[.inst 364 1,.attrs (XW id b6 sh lo) 5]⟩ (uw 364 R):=by
 have O:=O'.toOk;refine ah (bI O (bR O rfl ⟨rfl,af O 0 rfl ⟨0,1,364,_,_,rfl,rfl,rfl,by decide,tr,tr,ah (Nc O (λr st=> ∃i:Nat,A3 (i≤b6.length) (r=(b6.drop i).map (λx=> .f (.str x))) (st=⟨[("self",.own 0),("rule_id",.f (.str id))],[.inst 364 1,.attrs (("available_algorithms",.own 2)::XW id b6 sh lo) 6,.list (((b6.take i).filter vz).map λx=> .f (.str x))]⟩)) (aG O (af O 0 rfl ⟨364,.n (.tuple (b6.map .str)),.own rfl rfl (.tail _ (.tail _ (.head _))),tr,rfl,_,_,iter_tuple O (.n _),⟨0,kS _,by rw[dT];rfl,rfl⟩,λr st h=>?_,?_,?_⟩)))⟩⟩))
 ·exact .n _
 ·rintro b r st H G ⟨i,hi,hr,rfl⟩;have Oe:i<b6.length:=by
   rcases He i b6.length with h|h
   ·exact h
   ·rw[abm h]at hr;cases hr
  rw[mi Oe,eA]at hr;cases hr;have fu:=O'.v H G;have OO:=fu.toOk;refine⟨_,aU tr,rB 2 ?_⟩;have XX:b6.take (i+1)=b6.take i++[b6[i]]:=by rw[abv];rw[eC Oe];rfl
  have hlen:((b6.take i).filter vz).length≤10:=ae (ml _ _) (by rw[oD];exact ae (Dx i b6.length) (ae hi hl));refine ah (aK (aE (af OO 2 rfl (bV OO (v:= .ref 435) rfl (Nl (ds:=RP) (vs:=[.str "branch-and-bound" 738,.str "brute-force" 739,.str "standard" 740,.str "standard-fractions" 741]) (k:=0) fu rfl (λh=>⟨_,.cons (.str _ _) (.cons (.str _ _) (.cons (.str _ _) (.cons (.str _ _) .nil)))⟩) (.f _) (.str _) (by kernel_rfl) (hc _ (Qb Oe)) (ae (tp _ _) (bo rfl)) hn ⟨_,rfl,?_⟩)))));show if vz b6[i]=true then _ else _
  cases hb:vz b6[i]with
  |true=>refine cB (ah (dR OO (iT OO rfl (aG OO (af OO 0 rfl ⟨364,.own 2,.own rfl rfl (.head _),tr,rfl,2,_,rfl,rfl,af OO 2 rfl ⟨_,rfl,by rw[ag];exact ae hlen (by decide),?_⟩⟩)) (he:=b9 rfl rfl (by decide) tr λaa=>rfl))));refine aj (aj ⟨.inl rfl,i+1,Oe,rfl,?_⟩);rw[XX];rw[Hm];rw[y7];rw[if_pos hb];rw[ew];rfl
  |false=>refine bB (aj (aj ⟨.inl rfl,i+1,Oe,rfl,?_⟩));rw[XX];rw[Hm];rw[y7];rw[if_neg (by rw[hb];decide)];rw[List.filter_nil];rw[fw];rfl
 ·rintro st ⟨i,hi,hr,rfl⟩;have Oe:i=b6.length:=by
   rcases He i b6.length with h|h
   ·rw[mi h]at hr;cases hr
   ·exact sx hi h
  subst Oe;rw[ti];exact aj ⟨.inl rfl,_,_,_,rfl,rfl,.eY (.list rfl (yJ _)) (.eY (.f _ rfl) (.eY (.n _) (.eY (.f _ rfl) (.eY (.f _ rfl) (.eY (.f _ rfl) .Ai))))),hR⟩
theorem om{id sh lo:Str}{b6 av:List Str}{t:List aa4}(ht:Chain "rule_id" id (((bodyOf eH).drop 1).take 1) t)(hs:Sets t sh lo b6)(hc:(b6.all λa=>(PyData.str a).canLay0)=true)(ZY:b6.filter vz=av):
  Spec prog w (KK w.params) tt 2 (.ref 364) [.str id] [] (λr=>E2 λsh lo=>r=RU id b6 av sh lo):=by
 refine eL (Vi w.params) "self" [("rule_id",.str id)] tr (λaa=>tr) ?_ ?_
 ·rintro s P y vs ks ⟨a,_,rfl,ha,rfl⟩ rfl X;exact⟨_,aS X (b:=("self",y)::[("rule_id",a)]) λM=>rfl,.cons ha .nil⟩
 ·intro V O';have hl:b6.length≤10:=by cases hs with|mk _ h=>exact bo h
  refine Ko ht hs O' (Ip (R:=λr=>E2 λsh lo=>r=RU id b6 av sh lo) hl (λa ha=>d6.mp hc a ha) O' (by decide) ⟨sh,lo,?_⟩);rw[ZY];rfl
theorem Bu:Spec prog w (KK w.params) tt 2 (.ref 364) [.str "seqpav"] [] (λr=>E2 λsh lo=>r=RU "seqpav" ["standard"] ["standard"] sh lo):=om (by repeat first|exact .here (by decide+kernel)|refine .skip rfl ?_) (.mk (.cons .nil) rfl) (by kernel_rfl) rfl
theorem t9:Spec prog w (KK w.params) tt 2 (.ref 364) [.str "revseqpav"] [] (λr=>E2 λsh lo=>r=RU "revseqpav" ["standard"] ["standard"] sh lo):=om (by repeat first|exact .here (by decide+kernel)|refine .skip rfl ?_) (.mk (.cons .nil) rfl) (by kernel_rfl) rfl
theorem yK:Spec prog w (KK w.params) tt 2 (.ref 364) [.str "seqslav"] [] (λr=>E2 λsh lo=>r=RU "seqslav" ["standard"] ["standard"] sh lo):=om (by repeat first|exact .here (by decide+kernel)|refine .skip rfl ?_) (.mk (.cons .nil) rfl) (by kernel_rfl) rfl
theorem qt:Spec prog w (KK w.params) tt 2 (.ref 364) [.str "seqphragmen"] [] (λr=>E2 λsh lo=>r=RU "seqphragmen" ["float-fractions","gmpy2-fractions","standard-fractions"] ["standard-fractions"] sh lo):=om (by repeat first|exact .here (by decide+kernel)|refine .skip rfl ?_) (.mk (.cons (.cons (.cons .nil))) rfl) (by kernel_rfl) rfl
end
section
variable{prog:d5}{w:fA}{tt:List dq}
theorem kH {k n:Nat}{vs:List FV}{id sh lo x:Str}{b6 av:List Str}(hk:k≤100)(zG:1≤vs.length)(hl:vs.length≤100)(oK:1≤n)(KU:n≤k)(hx:(PyData.str x).canLay0=true)(hc:rx (b6.map .str)=true)(Qz:((b6.map PyData.str).any λy=>PyData.eqv y (.str x))=true):
  Spec prog w (KK w.params) tt 4 (.ref 361) [RU id b6 av sh lo] [("profile",PT k vs),("committeesize",.int (n:Int)),("algorithm",.str x),("resolute",.bool true),("max_num_of_committees",.none)] (· = .none):=by
 refine aR (UP w.params) [("self",RU id b6 av sh lo),("profile",PT k vs),("committeesize",.int (n:Int)),("algorithm",.str x),("resolute",.bool true),("max_num_of_committees",.none)] rfl (λaa aa aa=>rfl) λV O' =>cU λQ hQ=>?_;have O:=O'.toOk;refine ah (aK (aE (af O 2 rfl (aC (Ci ⟨_,rfl,fF (decide_eq_false (uk.mpr (mN.mpr oK))) (aj (ah (aK (aE (af O 2 rfl (nv O' (af O 1 rfl ⟨699,598,597,_,_,.f _,tr,kC (ae hk (by decide)),by decide,.f _,xJ ⟨rfl,nq ⟨_,rfl,fF (decide_eq_false (uk.mpr (mN.mpr KU))) (aj (ah (aK (aE (ai O (f:= .builtin "len") rfl tr rfl rfl (af O 1 rfl (yv (C:=699) (f:=612) (k:=vs.length) O' (.f _) rfl tr (yg hl) (by decide) (.f _) (bj hl (by decide)) (aC (eX ⟨_,rfl,fF (beq_eq_false_iff_ne.mpr (ac4.mpr (pz zG))) (aj (ah (aK (aE (af O 3 rfl (aG O (af O 0 rfl ⟨364,.f (.tuple (b6.map .str)),.f (.tail _ (.tail _ (.head _))),tr,rfl,DC O' (.f _) (.f _) (.str x) (uH b6) hc hx (ae (tp _ _) (bo rfl)) (by decide) ⟨_,rfl,fF (congrArg _ Qz) (aj ?_)⟩⟩)))))))⟩)))))))))⟩⟩⟩)))))))⟩)))));exact ah (aK (aE (af O 4 rfl (aG O (af O 0 rfl ⟨364,.f (.val (.ref 339)),.f (.tail _ (.head _)),tr,rfl,AH (ds:=[.bool true,.bool false]) (vs:=[.bool true,.bool false]) (k:=0) O' rfl (λh=>⟨_,.cons (.bool _) (.cons (.bool _) .nil)⟩) (.f (.bool true)) (.bool true) tr rfl (ae (tp _ _) (bo rfl)) (by decide) ⟨false,rfl,bB (aj (ah (aK (FH (dD (aE (af O 5 rfl (jh (j9 .none ⟨_,rfl,bB (bB (FH (dD (aE (af O 5 rfl (jh (j9 .none ⟨_,rfl,bB (bB (An (bB (aj (ah (aK (dD (aE (af O 5 rfl (jh (j9 .none ⟨_,rfl,bB (bB (aj (aj (hQ ⟨_,.f _,rfl⟩))))⟩)))))))))))⟩)))))))⟩)))))))))⟩⟩)))))
end
section
variable{prog:d5}{w:fA}
theorem sM {k n m:Nat}{vs:List (Int×Nat)}{x id:Str}(hk:k≤100)(zG:1≤vs.length)(hl:vs.length≤100)(oK:1≤n)(KU:n≤k)(aV:("seq" :Str)++x=id)(V7:("seq" :Str).length+x.length≤1000000)
  (hs:Spec prog w (KK w.params) TT 3 (.ref 259) [.str x,.int (n:Int)] [] (· =MS x))(hr:Spec prog w (KK w.params) TT 2 (.ref 364) [.str id] [] (λr=>E2 λsh lo=>r=RU id ["standard"] ["standard"] sh lo))
  (hq:Spec prog w (KK w.params) TT 13 (.ref 448) [.str x,PT k (fN (aq w) vs),.int (n:Int)] [] (· = .tuple [.list [.aW (aq w) m],.any])):
  Spec prog w (KK w.params) TT 15 (.ref 443) [] [("scorefct_id",.str x),("profile",PT k (fN (aq w) vs)),("committeesize",.int (n:Int)),("algorithm",.str "fastest"),("resolute",.bool true),("max_num_of_committees",.none)] (· = .list [.aW (aq w) m]):=by
 refine aR (UQ w.params) [("scorefct_id",.str x),("profile",PT k (fN (aq w) vs)),("committeesize",.int (n:Int)),("algorithm",.str "fastest"),("resolute",.bool true),("max_num_of_committees",.none)] rfl (λaa aa aa=>rfl) ?_
 ·intro V O';have O:=O'.toOk;refine ah (dR O (ai O (f:= .ref 259) rfl tr rfl rfl (af O 0 rfl (af O 2 rfl (aH O' hs (by decide) (.cons (.f _) (.cons (.f _) .nil)) .nil rfl (ah (aJ O (au (bz (af O 0 rfl (qG V7 ⟨tr,?_⟩)))))))))));rw[aV];refine ah (aJ O (ai O (f:= .ref 364) rfl tr rfl rfl (af O 6 rfl (bh O' hr (by decide) (.cons (.f _) .nil) .nil rfl ?_))));rintro _ ⟨sh,lo,rfl⟩;refine⟨tr,ah (aK (aE (af O 3 rfl (bz (b8 true ⟨_,rfl,cB (ah (d8 (i:=3) O (dW (he:=b9 rfl rfl (by decide) tr λaa=>rfl) O rfl rfl (af O 7 rfl ⟨364,353,.n tr,tr,aH O' (o8 (prog:=prog) (tt:=TT) _ "standard" [] (by decide) (.head _)) (by decide) (.cons (.n _) .nil) .nil rfl ⟨tr,aj (ah (dR O (dW (he:=b9 rfl rfl (by decide) tr λaa=>rfl) O rfl rfl (af O 7 rfl ⟨364,361,.n tr,tr,af O 1 rfl (af O 2 rfl (af O 3 rfl (af O 4 rfl (af O 5 rfl (aH O' (kH (prog:=prog) (tt:=TT) (vs:=fN (aq w) vs) (x:="standard") (b6:=["standard"]) hk (by rw[ag];exact zG) (by rw[ag];exact hl) oK KU (by kernel_rfl) (by kernel_rfl) tr) (by decide) (.cons (.n _) .nil) (.cons (.f _) (.cons (.f _) (.cons (.f _) (.cons (.f _) (.cons (.f _) .nil))))) rfl ?_)))))⟩))))⟩⟩))))⟩)))))⟩;exact ah (aK (aE (af O 3 rfl (bz (b8 true ⟨_,rfl,cB (ah (aK (bF (af O 4 rfl ⟨true,.b _,cB (ah (mV O (ai O (f:= .ref 448) rfl tr rfl rfl (af O 0 rfl (af O 1 rfl (af O 2 rfl (aH O' hq (by decide) (.cons (.f _) (.cons (.f _) (.cons (.f _) .nil))) .nil rfl ⟨_,_,_,_,.n _,aU tr,aU tr,aj (aj (ah (aF (ai O (f:= .ref 37) rfl tr rfl rfl (af O 8 rfl (aH O' (jv u0) (by decide) (.cons (.n _) .nil) .nil rfl ⟨_,.n _,rfl⟩))))))⟩)))))))⟩))))⟩)))))
end
theorem Iq(h:l.Perm l'):fS 0 l=fS 0 l' :=by refine tv λi=>?_;rw[fT];rw[fT];congr 1;exact decide_eq_decide.mpr h.mem_iff
section
variable{prog:d5}{w:fA}
theorem Bv {k n m:Nat}{vs:List (Int×Nat)}{x id:Str}(hk:k≤100)(zG:1≤vs.length)(hl:vs.length≤100)(oK:1≤n)(KU:n≤k)(aV:("revseq" :Str)++x=id)(V7:("revseq" :Str).length+x.length≤1000000)
  (hs:Spec prog w (KK w.params) TT 3 (.ref 259) [.str x,.int (n:Int)] [] (· =MS x))(hr:Spec prog w (KK w.params) TT 2 (.ref 364) [.str id] [] (λr=>E2 λsh lo=>r=RU id ["standard"] ["standard"] sh lo))
  (hq:Spec prog w (KK w.params) TT 13 (.ref 484) [] [("scorefct_id",.str x),("profile",PT k (fN (aq w) vs)),("committeesize",.int (n:Int))] (· = .tuple [.list [.aW (aq w) m],.any])):
  Spec prog w (KK w.params) TT 15 (.ref 479) [] [("scorefct_id",.str x),("profile",PT k (fN (aq w) vs)),("committeesize",.int (n:Int)),("algorithm",.str "fastest"),("resolute",.bool true),("max_num_of_committees",.none)] (· = .list [.aW (aq w) m]):=by
 refine aR (UU w.params) [("scorefct_id",.str x),("profile",PT k (fN (aq w) vs)),("committeesize",.int (n:Int)),("algorithm",.str "fastest"),("resolute",.bool true),("max_num_of_committees",.none)] rfl (λaa aa aa=>rfl) ?_
 ·intro V O';have O:=O'.toOk;refine ah (dR O (ai O (f:= .ref 259) rfl tr rfl rfl (af O 0 rfl (af O 2 rfl (aH O' hs (by decide) (.cons (.f _) (.cons (.f _) .nil)) .nil rfl (ah (aJ O (au (bz (af O 0 rfl (qG V7 ⟨tr,?_⟩)))))))))));rw[aV];refine ah (aJ O (ai O (f:= .ref 364) rfl tr rfl rfl (af O 6 rfl (bh O' hr (by decide) (.cons (.f _) .nil) .nil rfl ?_))));rintro _ ⟨sh,lo,rfl⟩;refine⟨tr,ah (aK (aE (af O 3 rfl (bz (b8 true ⟨_,rfl,cB (ah (d8 (i:=3) O (dW (he:=b9 rfl rfl (by decide) tr λaa=>rfl) O rfl rfl (af O 7 rfl ⟨364,353,.n tr,tr,aH O' (o8 (prog:=prog) (tt:=TT) _ "standard" [] (by decide) (.head _)) (by decide) (.cons (.n _) .nil) .nil rfl ⟨tr,aj (ah (dR O (dW (he:=b9 rfl rfl (by decide) tr λaa=>rfl) O rfl rfl (af O 7 rfl ⟨364,361,.n tr,tr,af O 1 rfl (af O 2 rfl (af O 3 rfl (af O 4 rfl (af O 5 rfl (aH O' (kH (prog:=prog) (tt:=TT) (vs:=fN (aq w) vs) (x:="standard") (b6:=["standard"]) hk (by rw[ag];exact zG) (by rw[ag];exact hl) oK KU (by kernel_rfl) (by kernel_rfl) tr) (by decide) (.cons (.n _) .nil) (.cons (.f _) (.cons (.f _) (.cons (.f _) (.cons (.f _) (.cons (.f _) .nil))))) rfl ?_)))))⟩))))⟩⟩))))⟩)))))⟩;exact ah (aK (aE (af O 3 rfl (bz (b8 true ⟨_,rfl,cB (ah (aK (bF (af O 4 rfl ⟨true,.b _,cB (ah (mV O (ai O (f:= .ref 484) rfl tr rfl rfl (af O 0 rfl (af O 1 rfl (af O 2 rfl (aH O' hq (by decide) .nil (.cons (.f _) (.cons (.f _) (.cons (.f _) .nil))) rfl ⟨_,_,_,_,.n _,aU tr,aU tr,aj (aj (ah (aF (af O 8 rfl ⟨_,.n _,rfl⟩))))⟩)))))))⟩))))⟩)))))
theorem yL(hk:k≤100)(zG:1≤vs.length)(hl:vs.length≤100)(oK:1≤n)(KU:n≤k)(cy: ∀i∈dg,i<6)(bU:dg.Nodup)
  (hq:Spec prog w (KK w.params) TT 13 (.ref 511) [] [("profile",PT k (fN (aq w) vs)),("committeesize",.int (n:Int)),("algorithm",.str "standard-fractions")] (λr=> ∃cs:List Nat,cs.Perm dg/\r= .tuple [.list [.list (cs.map λ(i:Nat)=> .int (i:Int))],.any])):
  Spec prog w (KK w.params) TT 15 (.ref 505) [PT k (fN (aq w) vs),.int (n:Int)] [] (· = .list [.aW (aq w) (fS 0 dg)]):=by
 refine eu (UY w.params) [("profile",PT k (fN (aq w) vs)),("committeesize",.int (n:Int)),("algorithm",.str "fastest"),("resolute",.bool true),("max_num_of_committees",.none)] tr (λaa=>tr) ?_ ?_
 ·rintro s P us ks ⟨a,_,rfl,ha,b,_,rfl,hb,rfl⟩ rfl X;exact⟨_,aS X (b:=[("profile",a),("committeesize",b),("algorithm",.str "fastest" 850),("resolute",.bool true),("max_num_of_committees",.none)]) λM=>rfl,.cons ha (.cons hb (.cons ⟨_,rfl⟩ (.cons rfl (.cons rfl .nil))))⟩
 ·intro V O';have O:=O'.toOk;refine ah (aJ O (bz ⟨tr,ah (aJ O (ai O (f:= .ref 364) rfl tr rfl rfl (af O 5 rfl (bh O' qt (by decide) (.cons (.f _) .nil) .nil rfl ?_))))⟩));rintro _ ⟨sh,lo,rfl⟩;refine⟨tr,ah (aK (aE (af O 2 rfl (bz (b8 true ⟨_,rfl,cB (ah (d8 (i:=2) O (dW (he:=b9 rfl rfl (by decide) tr λaa=>rfl) O rfl rfl (af O 6 rfl ⟨364,353,.n tr,tr,aH O' (o8 (prog:=prog) (tt:=TT) _ "standard-fractions" [] (by decide) (.head _)) (by decide) (.cons (.n _) .nil) .nil rfl ⟨tr,aj (ah (dR O (dW (he:=b9 rfl rfl (by decide) tr λaa=>rfl) O rfl rfl (af O 6 rfl ⟨364,361,.n tr,tr,af O 0 rfl (af O 1 rfl (af O 2 rfl (af O 3 rfl (af O 4 rfl (aH O' (kH (prog:=prog) (tt:=TT) (vs:=fN (aq w) vs) (x:="standard-fractions") (b6:=["float-fractions","gmpy2-fractions","standard-fractions"]) hk (by rw[ag];exact zG) (by rw[ag];exact hl) oK KU (by kernel_rfl) (by kernel_rfl) tr) (by decide) (.cons (.n _) .nil) (.cons (.f _) (.cons (.f _) (.cons (.f _) (.cons (.f _) (.cons (.f _) .nil))))) rfl ?_)))))⟩))))⟩⟩))))⟩)))))⟩;refine ah (aK (bF (af O 3 rfl ⟨true,.b _,cB (ah (mV O (ai O (f:= .ref 511) rfl tr rfl rfl (af O 0 rfl (af O 1 rfl (af O 2 rfl (bh O' hq (by decide) .nil (.cons (.f _) (.cons (.f _) (.cons (.f _) .nil))) rfl ?_)))))))⟩)));rintro _ ⟨cs,hp,rfl⟩;refine⟨_,_,_,_,.n _,aU tr,aU tr,aj (ah (aF (ai O (f:= .ref 37) rfl tr rfl rfl (af O 7 rfl (aH O' (jv (uZ (ns:=cs) (λi hi=>cy i (hp.mem_iff.mp hi)) (hp.nodup_iff.mpr bU))) (by decide) (.cons (.n _) .nil) .nil rfl ?_)))))⟩;exact⟨_,.n _,by rw[Iq hp];rfl⟩
theorem Ir
  (h:Spec prog w (KK w.params) TT 15 (.ref 443) [] [("scorefct_id",.str "pav"),("profile",PT k (fN (aq w) vs)),("committeesize",.int (n:Int)),("algorithm",.str "fastest"),("resolute",.bool true),("max_num_of_committees",.none)] (· = .list [.aW (aq w) m])):
  Spec prog w (KK w.params) TT 17 (.ref 463) [PT k (fN (aq w) vs),.int (n:Int)] [] (· = .list [.aW (aq w) m]):=by
 refine eu (US w.params) [("profile",PT k (fN (aq w) vs)),("committeesize",.int (n:Int)),("algorithm",.str "fastest"),("resolute",.bool true),("max_num_of_committees",.none)] tr (λaa=>tr) ?_ ?_
 ·rintro s P us ks ⟨a,_,rfl,ha,b,_,rfl,hb,rfl⟩ rfl X;exact⟨_,aS X (b:=[("profile",a),("committeesize",b),("algorithm",.str "fastest" 785),("resolute",.bool true),("max_num_of_committees",.none)]) λM=>rfl,.cons ha (.cons hb (.cons ⟨_,rfl⟩ (.cons rfl (.cons rfl .nil))))⟩
 ·intro V O';have O:=O'.toOk;exact ah (aF (ai O (f:= .ref 443) rfl tr rfl rfl (bz (af O 0 rfl (af O 1 rfl (af O 2 rfl (af O 3 rfl (af O 4 rfl (aH O' h (by decide) .nil (.cons (.f _) (.cons (.f _) (.cons (.f _) (.cons (.f _) (.cons (.f _) (.cons (.f _) .nil)))))) rfl ⟨_,.n _,rfl⟩)))))))))
theorem Eo
  (h:Spec prog w (KK w.params) TT 15 (.ref 443) [] [("scorefct_id",.str "slav"),("profile",PT k (fN (aq w) vs)),("committeesize",.int (n:Int)),("algorithm",.str "fastest"),("resolute",.bool true),("max_num_of_committees",.none)] (· = .list [.aW (aq w) m])):
  Spec prog w (KK w.params) TT 17 (.ref 471) [PT k (fN (aq w) vs),.int (n:Int)] [] (· = .list [.aW (aq w) m]):=by
 refine eu (UT w.params) [("profile",PT k (fN (aq w) vs)),("committeesize",.int (n:Int)),("algorithm",.str "fastest"),("resolute",.bool true),("max_num_of_committees",.none)] tr (λaa=>tr) ?_ ?_
 ·rintro s P us ks ⟨a,_,rfl,ha,b,_,rfl,hb,rfl⟩ rfl X;exact⟨_,aS X (b:=[("profile",a),("committeesize",b),("algorithm",.str "fastest" 797),("resolute",.bool true),("max_num_of_committees",.none)]) λM=>rfl,.cons ha (.cons hb (.cons ⟨_,rfl⟩ (.cons rfl (.cons rfl .nil))))⟩
 ·intro V O';have O:=O'.toOk;exact ah (aF (ai O (f:= .ref 443) rfl tr rfl rfl (bz (af O 0 rfl (af O 1 rfl (af O 2 rfl (af O 3 rfl (af O 4 rfl (aH O' h (by decide) .nil (.cons (.f _) (.cons (.f _) (.cons (.f _) (.cons (.f _) (.cons (.f _) (.cons (.f _) .nil)))))) rfl ⟨_,.n _,rfl⟩)))))))))
theorem yM
  (h:Spec prog w (KK w.params) TT 15 (.ref 479) [] [("scorefct_id",.str "pav"),("profile",PT k (fN (aq w) vs)),("committeesize",.int (n:Int)),("algorithm",.str "fastest"),("resolute",.bool true),("max_num_of_committees",.none)] (· = .list [.aW (aq w) m])):
  Spec prog w (KK w.params) TT 17 (.ref 497) [PT k (fN (aq w) vs),.int (n:Int)] [] (· = .list [.aW (aq w) m]):=by
 refine eu (UX w.params) [("profile",PT k (fN (aq w) vs)),("committeesize",.int (n:Int)),("algorithm",.str "fastest"),("resolute",.bool true),("max_num_of_committees",.none)] tr (λaa=>tr) ?_ ?_
 ·rintro s P us ks ⟨a,_,rfl,ha,b,_,rfl,hb,rfl⟩ rfl X;exact⟨_,aS X (b:=[("profile",a),("committeesize",b),("algorithm",.str "fastest" 838),("resolute",.bool true),("max_num_of_committees",.none)]) λM=>rfl,.cons ha (.cons hb (.cons ⟨_,rfl⟩ (.cons rfl (.cons rfl .nil))))⟩
 ·intro V O';have O:=O'.toOk;exact ah (aF (ai O (f:= .ref 479) rfl tr rfl rfl (bz (af O 0 rfl (af O 1 rfl (af O 2 rfl (af O 3 rfl (af O 4 rfl (aH O' h (by decide) .nil (.cons (.f _) (.cons (.f _) (.cons (.f _) (.cons (.f _) (.cons (.f _) (.cons (.f _) .nil)))))) rfl ⟨_,.n _,rfl⟩)))))))))
end
section
variable{c:Cx}{st:St}
theorem lG (O:bQ c n)(hn:1≤n)(i:Nat)(hi:st.loc[i]?=some (x,.f (.str a)))(ls:List Str)(t:Bool)(h:Q t st)(hx:(PyData.str a).canLay0=true)(hr:((ls.map PyData.str).any λy=>PyData.eqv y (.str a))=t)
  (GO:wj es ls:=by repeat constructor)(hlen:ls.length.ble 1000=true:=by kernel_rfl)(hc:rx (ls.map .str)=true:=by kernel_rfl)(hl:c.env.kindOf x=some .local:=by rfl)(hd:(x==("__debug__" :Str))=false:=by kernel_rfl):
  tG c (.Compare (.Name x p1) [.In] [.List es p2] p3) st Q:=
 aE (af O.toOk i hi (gY O.toOk GO.plain (GO.Xj ⟨by rw[ag];exact hlen,_,rN ls,LO O (.f _) (.n _) (.str a) (uH ls) hc hx (ae (tp _ _) (bo rfl)) hn ⟨_,rfl,by rw[hr];exact h⟩⟩)) hl hd)
end
section
variable{prog:d5}{w:fA}
theorem yN {n m:Nat}{vs:List Int}{x:Str}{R:FV->Prop}(hx:x="dhondt" ∨x="saintelague")(hm:1≤m)
  (hd:Spec prog w (KK w.params) TT m (.ref 564) [.list (vs.map .int),.int (n:Int),.str x,.bool true] [] R)(hR: ∀r,R r-> ∃l,r= .list l):
  Spec prog w (KK w.params) TT (m+2) (.ref 545) [.str x,.list (vs.map .int),.int (n:Int)] [] R:=by
 refine eu (U1 w.params) [("method",.str x),("votes",.list (vs.map .int)),("seats",.int (n:Int)),("threshold",.none),("tiesallowed",.bool true)] (by kernel_rfl) (λaa=>by kernel_rfl) ?_ ?_
 ·rintro s P us ks ⟨y,_,rfl,hy,a,_,rfl,ha,b,_,rfl,hb,rfl⟩ rfl X;exact⟨_,aS X (b:=[("method",y),("votes",a),("seats",b),("threshold",.none),("tiesallowed",.bool true)]) λM=>by kernel_rfl,.cons hy (.cons ha (.cons hb (.cons rfl (.cons rfl .nil))))⟩
 ·intro V O';have O:=O'.toOk;refine ah (aJ O (ai O (f:= .ref 552) (by kernel_rfl) (by kernel_rfl) rfl rfl (af O 1 rfl (af O 3 rfl (Kn O' rfl (FC hm) ⟨by kernel_rfl,?_⟩)))));refine ah (aK (aE (af O 0 rfl (bz (b8 false ⟨_,rfl,bB ?_⟩ (by rcases hx with rfl|rfl<;>kernel_rfl))))));refine ah (aK (lG O' (aah 1 m) 0 rfl ["lrm","hamilton","largest_remainder"] false (bB ?_) (by rcases hx with rfl|rfl<;>kernel_rfl) (by rcases hx with rfl|rfl<;>kernel_rfl)));refine ah (aK (lG O' (aah 1 m) 0 rfl ["dhondt","jefferson","saintelague","webster","modified_saintelague","huntington","hill","adams","dean","smallestdivisor","harmonicmean","equalproportions","majorfractions","greatestdivisors"] true (cB ?_) (by rcases hx with rfl|rfl<;>kernel_rfl) (by rcases hx with rfl|rfl<;>kernel_rfl)));refine ah (aF (ai O (f:= .ref 564) (by kernel_rfl) (by kernel_rfl) rfl rfl (af O 5 rfl (af O 2 rfl (af O 0 rfl (af O 4 rfl (bh O' hd (oT (xt m)) (.cons (.f _) (.cons (.f _) (.cons (.f _) (.cons (.f _) .nil)))) .nil rfl ?_)))))));intro r hr;obtain⟨l,rfl⟩:=hR r hr;exact⟨_,.n _,hr⟩
end
noncomputable def xo(b:Bool)(j:Nat):Int:=if b=true then(j:Int)+1 else 2*j+1
noncomputable def yO(b:Bool)(n:Nat):List Int:=(ar n).map (xo b)
noncomputable def jA(b:Bool):Nat->Int
 |0=>1
 |n+1=>jA b n*xo b n
noncomputable def fj(b:Bool)(n:Nat)(p:Int):List Int:=(ar n).map λj=>(p*1*jA b n).fdiv (xo b j)
noncomputable def iL(b:Bool):Str:=if b=true then "dhondt" else "saintelague"
section
variable{prog:d5}{w:fA}{V:Fx}
theorem Iu:(yO b n).map (λd=>FV.tuple [.int d,.int 1])=(ar n).map λi=> .tuple [.int (xo b i),.int 1]:=by rewrite [yO];rw[dT];rfl
noncomputable def RQ(vs:List Int)(n:Nat)(b:Bool)(r:List (Str×AV)):List (Str×AV):=("votes",.f (.list (vs.map .int)))::("seats",.f (.int (n:Int)))::("method",.f (.str (iL b)))::("tiesallowed",.f (.bool true))::r
noncomputable def sN(vs:List Int)(n:Nat)(b:Bool)(r:List (Str×AV)):List (Str×AV):=RQ vs n b (("representatives",.own 1)::("divisors",.n (.list ((yO b n).map λd=> .tuple [.int d,.int 1])))::r)
noncomputable def pZ(vs:List Int)(r:List AO):List AO:= .list [.f (.int 0)]:: .list (js vs.length (.f (.int 0)))::r
theorem V8(hn:n≤100)(hv:vs.length≤100)(O' :bQ (b7 TT bO 564 (KK w.params) prog w V) 4)
  (h:bM (b7 TT bO 564 (KK w.params) prog w V) ((bodyOf bO).drop 2) ⟨sN vs n b [],pZ vs []⟩ Q):
  bM (b7 TT bO 564 (KK w.params) prog w V) (bodyOf bO) ⟨RQ vs n b [],[]⟩ Q:=by
 have O:=O'.toOk;have Mn:=ae hn (show 100≤1000000 by decide);have XY:(ar n).length≤1000:=by rw[cf];exact ae hn (by decide)
 refine ah (aJ O (au (bR O rfl (aC ⟨rfl,ai O (f:= .builtin "len") rfl tr rfl rfl (af O 0 rfl (ir (n:=vs.length) c7 (ag ..) (ae hv (by decide)) (qA (j:=0) O rfl (ae hv (by decide)) ⟨tr,?_⟩)))⟩))));cases b with
 |true=>
  refine ah (aK (lG O' (by decide) 2 rfl ["dhondt","jefferson","greatestdivisors"] true (cB ?_) (by kernel_rfl) tr));refine ah (aJ O (bY O' [] (by rfl) (ai O (f:= .type "range") rfl tr rfl rfl (af O 1 rfl (bW O ⟨.m8 0 n,_,[],ck Mn,.n _,.nil,λV2 OK=>run_map OK.toOk (ar n) _ (λi=> .tuple [.int (xo true i),.int 1]) [] XY rfl tr ⟨tr,aj ?_⟩ λa ha H G la=>?_⟩)))))
  ·exact cast (congrArg (λz=>bM _ _ ⟨RQ vs n true [("representatives",.own 1),("divisors",.n (.list z))],_⟩ Q) Iu) h
  ·have OO:=(OK.v H G).toOk;exact e7 OO rfl (au (af OO 0 rfl (aC (f6 (aC ⟨rfl,_,.cons (.f rfl) (.cons (.f rfl) .nil),rfl,rfl⟩)))))
 |false=>
  refine ah (aK (lG O' (by decide) 2 rfl ["dhondt","jefferson","greatestdivisors"] false (bB (ah (aK (lG O' (by decide) 2 rfl ["saintelague","webster","majorfractions"] true (cB ?_) (by kernel_rfl) tr)))) (by kernel_rfl) rfl));refine ah (aJ O (bY O' [] (by rfl) (ai O (f:= .type "range") rfl tr rfl rfl (af O 1 rfl (bW O ⟨.m8 0 n,_,[],ck Mn,.n _,.nil,λV2 OK=>run_map OK.toOk (ar n) _ (λi=> .tuple [.int (xo false i),.int 1]) [] XY rfl tr ⟨tr,aj (aj ?_)⟩ λa ha H G la=>?_⟩)))))
  ·exact cast (congrArg (λz=>bM _ _ ⟨RQ vs n false [("representatives",.own 1),("divisors",.n (.list z))],_⟩ Q) Iu) h
  ·have OO:=(OK.v H G).toOk;exact e7 OO rfl (au (au (aC (af OO 0 rfl (d7 (cP (by decide)) (aC (f6 (aC ⟨rfl,_,.cons (.f rfl) (.cons (.f rfl) .nil),rfl,rfl⟩))))))))
end
theorem yP(h:noName l x=true)(Ti:x≠y):noName ((y,v)::l) x=true:=by unfold noName at h⊢;rw[xp];rw[h];rw[ahC];rw[decide_eq_true_eq];exact λe=>Ti e.symm
section
variable{α β:Type}{m:α->List β}{res:α->β->FV}
noncomputable def sO (m:α->List β)(res:α->β->FV)(done:List α):List FV:=done.flatMap λa=>(m a).map (res a)
noncomputable def mj(m:α->List β)(res:α->β->FV)(done:List α)(a:α)(d:List β):List AV:=(sO m res done++d.map (res a)).map .nw
theorem Ep(done:List α)(a:α):(sO m res done).map .nw=mj m res done a []:=by unfold mj;rw[XB];rw[fw];rfl
theorem Bw(done:List α)(a:α)(d:List β)(b:β):mj m res done a d++[.nw (res a b)]=mj m res done a (d++[b]):=by unfold mj;rw[ew];rw[ew];rw[hJ];rw[ew];rw[ew];rfl
theorem Er(done:List α)(a:α):mj m res done a (m a)=(sO m res (done++[a])).map .nw:=by unfold mj sO;rw[ack];rw[tq];rw[agj];rw[fw];rfl
theorem Iv(hl:l=done++a::rest)(hm:m a=d++r)(h:(l.flatMap m).length≤1000):(mj m res done a d).length≤1000000:=by
 have e: ∀k:List α,(sO m res k).length=(k.flatMap m).length:=λk=>by
  induction k with
  |nil=>rfl
  |cons y k ih=>show((m y).map (res y)++sO m res k).length=(m y++k.flatMap m).length;rw[dy];rw[dy];rw[ag];rw[ih];rfl
 unfold mj;rw[hl,ack,tq,hm,dy,hJ,dy,<-vw]at h;rw[ag];rw[dy];rw[e];rw[ag];exact ae (cb ..) (ae h (by decide))
inductive RS(m:α->List β)(res:α->β->FV)(fr:List (Str×AV))(x:Str)(cX:α->AV)(l:List α)(r:List AV)(st:St):Prop
 |mk (done rest:List α) (e1:List (Str×AV)) (hl:l=done++rest) (hr:r=rest.map cX) (he:noName e1 x=true) (h1: ∀e∈fr,e∈st.loc) (h2: ∀e∈e1,e∈st.loc) (ho:st.own=[.list ((sO m res done).map .nw)])
inductive Mr(m:α->List β)(res:α->β->FV)(fr:List (Str×AV))(x:Str)(w:AV)(ua:β->AV)(done:List α)(a:α)(r:List AV)(st:St):Prop
 |mk (d r2:List β) (e1:List (Str×AV)) (hm:m a=d++r2) (hr:r=r2.map ua) (he:noName e1 x=true) (uK:st=⟨fr++(x,w)::e1,[.list (mj m res done a d)]⟩)
theorem Iw(h:noName fr x=true)(he:noName e1 x=true)(h1: ∀e∈fr,e∈L)(h2: ∀e∈e1,e∈L):cA L x a (fr++(x,a)::e1):=λe z=>(cp.mp z).elim (λq=> .inr ⟨h1 e q,gX h q⟩) λz=>(a5.mp z).elim .inl λq=> .inr ⟨h2 e q,gX he q⟩
theorem K2(h:noName fr x1=true)(m7:x≠x1):cA (fr++(x,w)::e1) x1 z (fr++[(x,w),(x1,z)]):=λe he=>(cp.mp he).elim (λq=> .inr ⟨bp _ q,gX h q⟩) λhe=>(a5.mp he).elim (λq=> .inr (by rw[q];exact⟨ba _ (.head _),m7⟩)) λq=> .inl (fx.mp q)
variable{c:Cx}
theorem ZZ (H H2:List (dq×Obj))(G G2:Array de):(c.v H G).v H2 G2=c.v (H2++H) G2:=congrArg (Cx.mk c.prog c.w c.A c.env c.h0 G2 c.os c.K c.tt c.Jr c.P0 c.cw) (hJ ..).symm
theorem Es(hl:l=done++a::rest)(hlen:(l.flatMap m).length≤1000)(Of:noName fr x1=true)(m7:x≠x1)
  (h2: ∀b∈m a,∀H G (la:List AV),Ev (c.v H G) elt ⟨fr++[(x,w),(x1,ua b)],[.list la]⟩ (N7 (AV.nw (res a b)) ⟨fr++[(x,w),(x1,ua b)],[.list la]⟩)):nB (c.v H G) elt x1 [] (Mr m res fr x w ua done a):=λb2 r2 st H2 G2 z=>by
 refine nn λhN=>?_;obtain⟨d,r3,e1,hm,hr,_,uK⟩:=z;cases r3 with
 |nil=>exact(Fe (hr).symm).elim
 |cons b r3=>
 refine hN ⟨_,by rw[uK];rw[(List.cons.inj hr).1];exact K2 Of m7,?_⟩;rw[ZZ];rw[uK];refine(h2 b (hm▸ba _ (.head _)) (H2++H) G2 _).mono λy' ER z=>?_;rw[z.1];rw[z.2];exact⟨_,rfl,Iv hl hm hlen,d++[b],r3,[(x1,ua b)],hm.trans (agk ..),(List.cons.inj hr).2,yP rfl m7,by refine bS (Bw ..) ?_;rfl⟩
theorem oq(O:Ok c)(l:List α)(cX:α->AV)(m:α->List β)(ua:α->β->AV)(res:α->β->FV)(fr:List (Str×AV))(hlen:(l.flatMap m).length≤1000)(jU:noName fr x=true)(Of:noName fr x1=true)(m7:decide (x≠x1)=true)(hx:storeOk c x=true)(Ju:storeOk c x1=true)(hQ:Q (l.flatMap λa=>(m a).map (res a)))
  (qi: ∀y,il i1 c.env y=pure y)
  (h1: ∀a∈l,∀H G (e:List (Str×AV)) (la:List AV),Ev (c.v H G) i1 ⟨fr++(x,cX a)::e,[.list la]⟩ λv gW=>gW=⟨fr++(x,cX a)::e,[.list la]⟩/\ ∃good,e9 (c.v H G) v gW ((m a).map (ua a)) good/\ ∀st,good st)
  (h2: ∀a∈l,∀b∈m a,∀H G (la:List AV),Ev (c.v H G) elt ⟨fr++[(x,cX a),(x1,ua a b)],[.list la]⟩ (N7 (AV.nw (res a b)) ⟨fr++[(x,cX a),(x1,ua a b)],[.list la]⟩)):
  k7 c (.ListComp elt [⟨.Name x px,iter,[],0⟩,⟨.Name x1 p1,i1,[],0⟩] scope pos) (l.map cX) fr Q:=by
 have m7:=of_decide_eq_true m7;refine DB O (RS m res fr x cX l) ⟨[],l,[],rfl,rfl,rfl,λaa h=>h,λaa h=>(nomatch h),rfl⟩ hx Ju qi (λb r st H G z=>?_) λst z=>?_
 ·refine nn λhN=>?_;obtain⟨done,rest,e1,hl,hr,he,i1,i2,ho⟩:=z;cases rest with
  |nil=>exact(Fe (hr).symm).elim
  |cons a rest=>
  have ha:a∈l:=hl▸ba _ (.head _);refine hN ⟨_,by rw[(List.cons.inj hr).1];exact Iw jU he i1 i2,?_⟩;rw[ho];refine(h1 a ha H G e1 _).mono λav gW z=>nn λhN=>?_;obtain⟨uK,good,hit,iU⟩:=z;refine hN ⟨_,good,Mr m res fr x (cX a) (ua a) done a,hit,⟨[],m a,e1,rfl,rfl,he,by rw[uK];rewrite [Ep];rfl⟩,λaa st aa=>iU st,Es hl hlen Of m7 (h2 a ha),λER z=>?_⟩;obtain⟨d,r3,e2,hm,Z0,VN,uK⟩:=z;rw[acm.mp Z0.symm,fw]at hm;rw[uK];exact⟨done++[a],rest,e2,hl.trans (agk ..),(List.cons.inj hr).2,VN,λaa h=>bp _ h,λaa h=>ba _ (.tail _ h),by refine bS (Er ..) ?_;rw[hm];rfl⟩
 ·obtain⟨done,rest,e1,hl,hr,_,_,_,ho⟩:=z;rw[acm.mp hr.symm,fw]at hl;rw[hl]at hQ;exact⟨_,_,by rw[ho];rfl,by rw[ho];exact pC _,hQ⟩
end
theorem yQ(b:Bool): ∀i≤4,1≤jA b i/\jA b i≤105:=by cases b<;>decide
theorem K3(b:Bool)(j:Nat):1≤xo b j:=by unfold xo;split<;>lia
theorem Og(b:Bool)(h:j<4):xo b j≤7:=by unfold xo;split<;>lia
theorem sP(h:own[j]?=some (.list (js k (.f (.int 0))))):aQ own (.own j) ((js k (0:Int)).map λi=> .f (.int i)):=by rw[acI];exact .own h
section
variable{prog:d5}{w:fA}{V:Fx}
noncomputable abbrev XZ (b:Bool)(n:Nat):FV:= .list ((yO b n).map λd=> .tuple [.int d,.int 1])
noncomputable def sQ(b:List aa4)(i:Nat):List aa4:=mw (b.getD i default)
noncomputable def V9(vs:List Int)(n:Nat)(b:Bool):Lp (List Nat) Unit:=⟨λp aa=>sN vs n b [("common",.f (.int (jA b p.length)))],λaa aa=>pZ vs [],λaa aa=>True⟩
noncomputable abbrev K4(vs:List Int)(n:Nat)(b:Bool):FV:= .list (vs.map λp=> .list ((fj b n p).map .int))
theorem Wa(hn:n≤4)(hv:vs.length≤10)(Jt: ∀p∈vs,0≤p/\p≤1000)(O' :bQ (b7 TT bO 564 (KK w.params) prog w V) 4)
  (h:bM (b7 TT bO 564 (KK w.params) prog w V) ((sQ (bodyOf bO) 2).drop 3) ⟨sN vs n b [("common",.f (.int (jA b n))),("weights",.n (K4 vs n b))],pZ vs []⟩ Q):
  bM (b7 TT bO 564 (KK w.params) prog w V) (sQ (bodyOf bO) 2) ⟨sN vs n b [],pZ vs []⟩ Q:=by
 have O:=O'.toOk;refine ah (aJ O (aC ⟨tr,ah (qB O (ak O 5 rfl ⟨λj=> .n (.tuple [.int (xo b j),.int 1]),ar n,V9 vs n b,by unfold yO;rw[dT];exact gP O eF,λaa aa=>eF,(),trivial,rfl,λaa aa=>rfl,λp j r e y R H G aa hR=>?_,λaa aa=>?_⟩))⟩))
 ·obtain⟨hj,Z1⟩:=k9 e;have OO:=(O'.v H G).toOk;have Pu:=yQ b p.length (ae (ec Z1) hn);rw[hj];exact ah (d8 (i:=6) OO (au (ak OO 6 rfl (aY (af OO 7 rfl (aC (item_tuple (.n _) rfl (bo rfl) (d7 (cP (by lia)) ⟨tr,aj (cast (congrArg (λz=>R .next ⟨sN vs n b [("common",.f (.int (jA b z))),_],_⟩) (dy ..)) (hR () [_] trivial))⟩))))))))
 ·show Fp _ _ _ _ ⟨sN vs n b [("common",.f (.int (jA b (ar n).length)))],_⟩;rw[cf];refine ah (aK (lG O' (by decide) 2 rfl ["huntington","hill","equalproportions"] false (bB ?_) (by cases b<;>kernel_rfl) (by cases b<;>kernel_rfl)));refine ah (aJ O (bY O' [("divisors",V.L+2),("common",V.L+3)] (by rfl) (af O 0 rfl ⟨_,_,[("common",.int (jA b n)),("divisors",XZ b n)],cG _ _,.f _,.cons 6 rfl rfl rfl (λaa=>rfl) (.f _) (.cons 5 rfl rfl rfl (λaa=>rfl) (.n _) .nil),λV2 OK=>run_map OK.toOk vs _ (λp=> .list ((fj b n p).map .int)) _ (ae hv (by decide)) tr tr ⟨tr,aj h⟩ λp hp H G la=>?_⟩)))
  have Ms:=OK.v H G;have OV:=Ms.toOk;have Pu:=yQ b n hn;have JC:=Jt p hp;refine bY Ms [("p",V2.L+1),("common",V.L+3)] (by rfl) (ak OV 1 rfl ⟨_,_,[("common",.int (jA b n)),("p",.int p)],cG _ _,.f _,.cons 0 rfl rfl rfl (λaa=>rfl) (.f _) (.cons 2 rfl rfl rfl (λaa=>rfl) (.f _) .nil),λV3 K5=>run_map K5.toOk (yO b n) _ (λd=> .int ((p*1*jA b n).fdiv d)) _ (by rewrite [yO];rw[ag];rw[cf];exact ae hn (by decide)) tr tr ⟨?_,rfl⟩ λd hd H3 G3 X0=>?_⟩)
  ·unfold yO fj;rw[dT];rw[dT];rfl
  ·have OW:=(K5.v H3 G3).toOk;obtain⟨j,hj,Sz⟩:=bb.mp hd;have hd1:=K3 b j;have hd2:=Og b (j:=j) (a0 (a9.mp hj) hn);have Cw:(p*1).natAbs<2^64:=by lia
   exact au (au (au (ai OW (f:= .type "int") rfl tr rfl rfl (ak OW 1 rfl (JZ (aY (af OW 2 rfl (aC (item_tuple (.f _) rfl (bo rfl) (d7 (cP (by lia)) (ak OW 0 rfl (d7 (cP Cw) (aY (af OW 2 rfl (aC (item_tuple (.f _) rfl (bo rfl) (oR (by lia) (log2_small (by lia)) ⟨rfl,rfl⟩)))))))))))))))))
end
theorem range_getD{α β:Type}(d:α)(f:α->β): ∀l:List α,(ar l.length).map (λi=>f (l.getD i d))=l.map f:=λl=>by
 apply abz;intro i;simp only[my]
 by_cases h:i<l.length
 ·rw[eR h];rw[Option.map_some];rw[fb];rw[eC h];rfl
 ·rw[mn (by simp;exact aaM h)];rw[mn (aaM h)];rfl
theorem ou: ∀k:Nat,(js k (0:Int)).sum=0
 |0=>rfl
 |k+1=>by rw[ab9];rw[vy];rw[ou k];rfl
noncomputable def cI(b:Bool)(n:Nat)(m p:Int):Int:=(((fj b n p).filter λz=>decide (m<z)).length:Int)
theorem Bx(b:Bool)(n:Nat)(p:Int):(fj b n p).length=n:=by simp[fj]
theorem Iz(b:Bool)(n:Nat): ∀vs:List Int,(vs.flatMap (fj b n)).length=vs.length*n:=by
 intro lz;induction lz with
 |nil=>simp
 |cons v vs ih=>rw[tq];rw[dy];rw[Bx];rw[ih];rw[th];rw[af4];rw[wx];rfl
section
variable{prog:d5}{w:fA}{V:Fx}
noncomputable def fP (vs:List Int)(n:Nat)(b:Bool)(s:List Int)(m:Int)(r:List (Str×AV)):List (Str×AV):=RQ vs n b (("representatives",.own 2)::("divisors",.n (XZ b n))::("common",.f (.int (jA b n)))::("weights",.n (K4 vs n b))::("flatweights",.n (.list (s.map .int)))::("minweight",.f (.int m))::r)
theorem By: ∀k:Nat,fD own (js k (.f (.int 0))) ((js k (0:Int)).map .int):=by
 intro lz;induction lz with
 |zero=>exact .nil
 |succ k ih=>exact .cons (.f _) (ih)
theorem pF: ∀i∈js k (0:Int),0≤i/\i≤1000000:=λi hi=>by rw[List.eq_of_mem_replicate hi];decide
theorem Wb(oK:1≤n)(hn:n≤4)(RT:1≤vs.length)(hv:vs.length≤10)(O' :bQ (b7 TT bO 564 (KK w.params) prog w V) 4)
  (h: ∀(s:List Int) (m:Int),s.Perm (vs.flatMap (fj b n))->s.Pairwise (· ≤ ·)->s[s.length-n]?=some m->Q .next ⟨fP vs n b s m [],pZ vs [.list ((vs.map (cI b n m)).map λi=> .f (.int i))]⟩):
  bM (b7 TT bO 564 (KK w.params) prog w V) ((sQ (bodyOf bO) 2).drop 3) ⟨sN vs n b [("common",.f (.int (jA b n))),("weights",.n (K4 vs n b))],pZ vs []⟩ Q:=by
 have O:=O'.toOk;have Cg:=Iz b n vs;have Oh:vs.length*n≤40:=aaB hv hn;have Wc:n≤vs.length*n:=adI n RT;have Mt:=ae hv (show 10≤1000000 by decide);refine ah (aJ O (ai O (f:= .builtin "sorted") rfl tr rfl rfl (bY O' [] (by rfl) (ak O 7 rfl ⟨_,_,[],cG _ _,.n _,.nil,λV2 OK=>oq OK.toOk vs _ (fj b n) (λaa z=> .f (.int z)) (λaa z=> .int z) [] (by rw[Cg];exact ae Oh (by decide)) rfl rfl tr tr tr ?_ (λaa=>rfl) (λp hp H G e la=>?_) λp hp z hz H G la=>?_⟩))))
 ·rw[show(vs.flatMap λa=>(fj b n a).map λz=>FV.int z)=(vs.flatMap (fj b n)).map .int by rw[abQ];rfl];refine pV O (dz _) (by rw[Cg];exact bj Oh (by decide)) λs qi uL=>⟨tr,?_⟩;have RV:s.length=vs.length*n:=qi.length_eq.trans Cg;obtain⟨m,hm⟩: ∃m,s[s.length-n]?=some m:=⟨_,eC (by rw[RV];exact ac3 (a0 oK Wc) oK)⟩;refine ah (aJ O (aY (af O 8 rfl (au (mK (af O 1 rfl (mJ (ai O (f:= .builtin "sum") rfl tr rfl rfl (ak O 4 rfl (gF O (sP rfl) pF (by rw[aai];exact ae hv (by decide)) (f6 ?_)))))))))));rw[ou];refine item_list (j:=s.length-n) (e:= .f (.int m)) (dz s) (.inr ⟨by lia,by rw[ag];lia⟩) (by rw[my];rw[hm];rfl) (by rw[ag];rw[RV];exact ae Oh (by decide)) ⟨tr,?_⟩;refine ah (d8 (i:=4) O (sq O' [("weights",V.L+4),("representatives",V.L+1),("minweight",V.L+5)] (by rfl) (dM O Mt (af O 0 rfl ⟨_,c7,ag ..,?_⟩))));refine⟨.m8 0 vs.length,_,[("minweight",.int m),("representatives",.list ((js vs.length (0:Int)).map .int)),("weights",K4 vs n b)],ck Mt,.n _,.cons 9 rfl rfl rfl (λaa=>rfl) (.f _) (.cons 4 rfl rfl rfl (λaa=>rfl) (.list rfl (By _)) (.cons 7 rfl rfl rfl (λaa=>rfl) (.n _) .nil)),λV2 OK=>sr OK.toOk (ar vs.length) _ (λi=> .int (0+cI b n m (vs.getD i 0))) _ (by rw[cf];exact ae hv (by decide)) tr tr ⟨tr,?_⟩ λi hi H G la=>?_⟩
  ·have e:((ar vs.length).map λi=>FV.int (0+cI b n m (vs.getD i 0))).map AV.nw=(vs.map (cI b n m)).map λi=> .f (.int i):=by rw[range_getD (0:Int) (λp=>FV.int (0+cI b n m p)) vs];rw[dT];rw[dT];exact i5 λp aa=>congrArg (λz=>AV.f (.int z)) (adZ _)
   rw[e];exact aj (h s m qi uL hm)
  ·have hi:=a9.mp hi;have Ms:=OK.v H G;have OV:=Ms.toOk;have X4:=Bx b n vs[i];refine au (aY (ak OV 1 rfl (af OV 3 rfl (br (x:=0) (by rw[List.getElem?_replicate];rw[if_pos hi];rfl) (by rw[aai];exact Mt) ?_))));refine ai OV (f:= .builtin "len") rfl tr rfl rfl (bY Ms [("minweight",V.L+5)] (by rfl) (aY (ak OV 2 rfl (af OV 3 rfl (br (eC hi) Mt ?_)))));refine⟨_,_,[("minweight",.int m)],cG _ _,.f _,.cons 0 rfl rfl rfl (λaa=>rfl) (.f _) .nil,λV3 K5=>dP K5.toOk (fj b n vs[i]) _ (λz=>decide (m<z)) (λz=> .int z) _ (by rw[X4];exact ae hn (by decide)) tr tr ?_ (λz hz H3 G3 X0=>?_) λz hz aa H3 G3 X0=>af (K5.v H3 G3).toOk 1 rfl ⟨rfl,rfl⟩⟩
   ·refine ir (dz _) (ag ..) (ae (ml _ _) (by rw[X4];exact ae hn (by decide))) (f6 ⟨?_,rfl⟩);unfold cI;rw[fb];rw[eC hi];rfl
   ·have OW:=(K5.v H3 G3).toOk;exact aE (af OW 1 rfl (ak OW 0 rfl (nq ⟨_,rfl,rfl,rfl⟩)))
 ·have OW:=(OK.v H G).toOk;exact af OW 0 rfl ⟨rfl,_,gP OW c7,λaa=>c7⟩
 ·exact af (OK.v H G).toOk 1 rfl ⟨rfl,rfl⟩
end
section
variable{c:Cx}{st:St}
theorem IA (h:Q (.f (.int (a+b))) st):Op c [.f (.int b),.f (.int a)] (λvs=>match vs with| [y,x]=>afa .Add x y|_=> .raise .none) st Q:=ji h λaa aa aa aa q=>ahD (q _)
end
noncomputable def eS(b:Bool)(n:Nat)(m:Int)(vs r:List Int):Nat->List Int
 |0=>r
 |i+1=>if(eS b n m vs r i).sum<n/\m∈fj b n (vs.getD i 0)then(eS b n m vs r i).set i ((eS b n m vs r i).getD i 0+1)else eS b n m vs r i
theorem lH:eS b n m vs r (i+1)=if(eS b n m vs r i).sum<n/\m∈fj b n (vs.getD i 0)then(eS b n m vs r i).set i ((eS b n m vs r i).getD i 0+1)else eS b n m vs r i:=rfl
theorem yR: ∀i,(eS b n m vs r i).length=r.length:=by
 intro lz;induction lz with
 |zero=>exact rfl
 |succ i ih=>
  rw[lH]
  by_cases h:(eS b n m vs r i).sum<n/\m∈fj b n (vs.getD i 0)
  ·rw[if_pos h];rw[ab8];rw[ih];rfl
  ·rw[if_neg h];rw[ih];rfl
theorem Et{b:Bool}{n:Nat}{m:Int}{vs r:List Int}(h: ¬r.sum<n): ∀i,eS b n m vs r i=r:=by
 intro lz;induction lz with
 |zero=>exact rfl
 |succ i ih=>rw[lH];rw[ih];rw[if_neg λz=>h z.1];rfl
noncomputable def Oi(b:Bool)(n:Nat)(m:Int)(vs:List Int):List Int:=eS b n m vs (vs.map (cI b n m)) vs.length
def sR(b:Bool)(n:Nat)(vs res:List Int):Prop:=(n=0/\res=js vs.length 0)∨(1≤n/\E2 λ(s:List Int) (m:Int)=>A4 (s.Perm (vs.flatMap (fj b n))) (s.Pairwise (· ≤ ·)) (s[s.length-n]?=some m) (res=Oi b n m vs))
theorem Eu:0≤cI b n m p/\cI b n m p≤n:=⟨dA _,mN.mpr (ae (ml _ _) (km (Bx b n p)))⟩
theorem sS(h: ∀x∈r,0≤x/\x≤100): ∀i,∀x∈eS b n m vs r i,0≤x/\x≤100+(i:Int)
 |0,x,hx=>h x hx
 |i+1,x,hx=>by
  have ih:=sS (b:=b) (n:=n) (m:=m) (vs:=vs) h i;have up: ∀{y:Int},0≤y/\y≤100+(i:Int)->0≤y/\y≤100+((i+1:Nat):Int):=λ⟨h1,h2⟩=>⟨h1,hV h2 (aaQ (mN.mpr (me i)) _)⟩;rw[lH]at hx
  by_cases hc:(eS b n m vs r i).sum<n/\m∈fj b n (vs.getD i 0)
  ·rw[if_pos hc]at hx;rcases List.mem_or_eq_of_mem_set hx with hx|hx
   ·exact up (ih x hx)
   ·have hg:0≤(eS b n m vs r i).getD i 0/\(eS b n m vs r i).getD i 0≤100+(i:Int):=by
     rw[fb];rcases He i (eS b n m vs r i).length with hi|hi
     ·rw[eC hi];exact ih _ (Qb hi)
     ·rw[mn hi];exact⟨acn _,abD (by decide) (dA i)⟩
    rw[hx];exact⟨hV hg.1 (qr (Int.lt_succ _)),by rw[Int.natCast_succ];refine bS (adf ..) ?_;exact Int.add_le_add_right hg.2 1⟩
  ·rw[if_neg hc]at hx;exact up (ih x hx)
section
variable{prog:d5}{w:fA}{V:Fx}
noncomputable def gn (vs r:List Int):List AO:=pZ vs [.list (r.map λi=> .f (.int i))]
theorem C3{own:List AO}{j:Nat}{l:List Int}(h:own[j]?=some (.list (l.map λi=> .f (.int i)))):aQ own (.own j) (l.map λi=> .f (.int i)):= .own h
theorem sU{b:Bool}{n:Nat}{m:Int}{vs:List Int}(hn:n≤4): ∀y∈vs.map (cI b n m),0≤y/\y≤4:=λy hy=>by obtain⟨p,_,e⟩:=bb.mp hy;have:=Eu (b:=b) (n:=n) (m:=m) (p:=p);refine bS (e ..) ?_;exact⟨this.1,hV this.2 (mN.mpr hn)⟩
noncomputable def Z2(vs:List Int)(n:Nat)(b:Bool)(s:List Int)(m:Int):Lp Nat Bool:=⟨λaa t=>fP vs n b s m [("ties",.f (.bool t))],λi aa=>gn vs (eS b n m vs (vs.map (cI b n m)) i),λaa aa=>True⟩
section
variable{n i:Nat}{vs s:List Int}{m:Int}{b t:Bool}{q:List Int}{H:List (dq×Obj)}{G:Array de}
theorem Mu (hv:vs.length≤10)(hi:i<vs.length)(O' :bQ ((b7 TT bO 564 (KK w.params) prog w V).v H G) 4)(h:Q (decide (m∈fj b n vs[i])) ⟨fP vs n b s m [("ties",.f (.bool t)),("i",.f (.int (i:Int)))],gn vs q⟩):
  tG ((b7 TT bO 564 (KK w.params) prog w V).v H G) (.Compare (.Name "minweight" p1) [.In] [.Subscript (.Name "weights" p2) (.Name "i" p3) p4] p5) ⟨fP vs n b s m [("ties",.f (.bool t)),("i",.f (.int (i:Int)))],gn vs q⟩ Q:=
 have OO:=O'.toOk
 aE (ak OO 9 rfl (aY (ak OO 7 rfl (af OO 11 rfl (dX (eC hi) (ae hv (by decide)) (Ii O' (.n _) (by decide) ⟨_,rfl,h⟩))))))
theorem IB(hl:q.length≤1000)(hb: ∀x∈q,0≤x/\x≤1000000)(O' :bQ ((b7 TT bO 564 (KK w.params) prog w V).v H G) 4)(h:Q (.f (.int q.sum)) ⟨fP vs n b s m [("ties",.f (.bool t)),("i",.f (.int (i:Int)))],gn vs q⟩):
  Ev ((b7 TT bO 564 (KK w.params) prog w V).v H G) (.Call (.Name "sum" p1) [.Name "representatives" p2] [] p3) ⟨fP vs n b s m [("ties",.f (.bool t)),("i",.f (.int (i:Int)))],gn vs q⟩ Q:=
 have OO:=O'.toOk
 ai OO (f:= .builtin "sum") rfl tr rfl rfl (ak OO 4 rfl (gF OO (C3 rfl) hb hl h))
end
theorem Wd(hn:n≤4)(hv:vs.length≤10)(O' :bQ (b7 TT bO 564 (KK w.params) prog w V) 4)
  (h: ∀t,Q .next ⟨fP vs n b s m [("ties",.f (.bool t))],gn vs (Oi b n m vs)⟩):
  bM (b7 TT bO 564 (KK w.params) prog w V) (sQ (bodyOf bO) 4) ⟨fP vs n b s m [("ties",.f (.bool false))],gn vs (vs.map (cI b n m))⟩ Q:=by
 have O:=O'.toOk;have Mt:=ae hv (show 10≤1000000 by decide);refine ah (lg O (dM O Mt (af O 0 rfl ⟨_,c7,ag ..,vs.length,Z2 vs n b s m,rfl,Mt,false,trivial,rfl,λaa aa=>rfl,λi hi t R H G aa hR=>?_,λt aa=>aj (h t)⟩)));have fu:=O'.v H G;have OO:=fu.toOk;have hlen:(eS b n m vs (vs.map (cI b n m)) i).length=vs.length:=by rw[yR];rw[ag];rfl
 have Rv:(eS b n m vs (vs.map (cI b n m)) i).length≤1000:=by rw[hlen];exact ae hv (by decide)
 have SI: ∀x∈eS b n m vs (vs.map (cI b n m)) i,0≤x/\x≤1000000:=λx hx=>by have:=sS (b:=b) (n:=n) (m:=m) (vs:=vs) (r:=vs.map (cI b n m)) (λy hy=>(sU hn y hy).imp id λz=>hV z (by decide)) i x hx;exact⟨this.1,hV this.2 (by lia)⟩
 have We:eS b n m vs (vs.map (cI b n m)) (i+1)=if(eS b n m vs (vs.map (cI b n m)) i).sum<n/\m∈fj b n vs[i]then(eS b n m vs (vs.map (cI b n m)) i).set i ((eS b n m vs (vs.map (cI b n m)) i).getD i 0+1)else eS b n m vs (vs.map (cI b n m)) i:=by rw[show vs[i]=vs.getD i 0 by rw[fb];rw[eC hi];rfl];rfl
 have hR: ∀t tl,R .next ⟨fP vs n b s m (("ties",.f (.bool t))::tl),gn vs (eS b n m vs (vs.map (cI b n m)) (i+1))⟩:=λt tl=>hR t tl trivial;show bM _ _ ⟨fP vs n b s m [("ties",.f (.bool t)),("i",.f (.int (i:Int)))],gn vs (eS b n m vs (vs.map (cI b n m)) i)⟩ R;generalize eS b n m vs (vs.map (cI b n m)) i=q at*
 rw[We]at hR;have rest: ∀t:Bool,bM ((b7 TT bO 564 (KK w.params) prog w V).v H G) ((mw ((sQ (bodyOf bO) 4).getD 0 default)).drop 1) ⟨fP vs n b s m [("ties",.f (.bool t)),("i",.f (.int (i:Int)))],gn vs q⟩ R:=λt=>by
  have hR:=hR t [("i",.f (.int (i:Int)))];refine ah (aK (dD (aE (IB Rv SI fu (af OO 1 rfl (Ci ⟨_,rfl,?_⟩))))))
  by_cases h1:q.sum<n
  ·refine iV (decide_eq_true h1) (dD (Mu hv hi fu ?_))
   by_cases h2:m∈fj b n vs[i]
   ·rw[if_pos ⟨h1,h2⟩]at hR;refine iV (decide_eq_true h2) (j7 (cB ?_));have Z4:q[i]?=some (q.getD i 0):=by rw[fb];rw[eC (hlen▸hi)];rfl
    refine ah (mP (ak OO 4 rfl (af OO 11 rfl ⟨2,q.map λi=> .f (.int i),i,.f (.int (q.getD i 0)),rfl,rfl,rfl,by rw[my];rw[Z4];rfl,by rw[ag];rw[hlen];exact Mt,aC (IA ⟨_,rfl,rfl,aj (aj ?_)⟩)⟩)));exact cast (congrArg (λz=>R .next ⟨_,pZ vs [.list z]⟩) (ah2 ..)) hR
   ·rw[if_neg λz=>h2 z.2]at hR;exact fF (decide_eq_false h2) (bB (aj (aj hR)))
  ·rw[if_neg λz=>h1 z.1]at hR;exact fF (decide_eq_false h1) (bB (aj (aj hR)))
 refine ah (aK (dD (aE (IB Rv SI fu (af OO 1 rfl (eX ⟨_,rfl,?_⟩))))));cases h1:(q.sum==(n:Int))with
 |false=>exact bB (aj (rest t))
 |true=>
  refine dD (Mu hv hi fu ?_);cases h2:decide (m∈fj b n vs[i])with
  |false=>exact bB (aj (rest t))
  |true=>
   refine j7 (cB (ah (aK (gD (bF (af OO 10 rfl ⟨t,.b _,?_⟩))))));cases t with
   |true=>exact bB (aj (aj (rest true)))
   |false=>exact cB (ah (aK (gD (bF (af OO 3 rfl ⟨true,.b _,bB (aj (ah (d8 (i:=10) OO (qx ⟨tr,aj (aj (rest true))⟩))))⟩)))))
end
theorem kJ: ∀l:List Int,j0 own (l.map λi=> .f (.int i)) (l.map .int):=by
 intro lz;induction lz with
 |nil=>exact .nil
 |cons _ l ih=>exact .cons (.f _ rfl) (ih)
section
variable{prog:d5}{w:fA}
theorem Oj {n:Nat}{vs:List Int}{b:Bool}(hn:n≤4)(RT:1≤vs.length)(hv:vs.length≤10)(Jt: ∀p∈vs,0≤p/\p≤1000):
  Spec prog w (KK w.params) TT 5 (.ref 564) [.list (vs.map .int),.int (n:Int),.str (iL b),.bool true] [] (λr=> ∃res,sR b n vs res/\r= .list (res.map .int)):=by
 have X5:=ae hv (show 10≤1000 by decide);refine aR (U4 w.params) [("votes",.list (vs.map .int)),("seats",.int (n:Int)),("method",.str (iL b)),("tiesallowed",.bool true)] rfl (λaa aa aa=>rfl) λV O' =>cU λQ hQ=>V8 (ae hn (by decide)) (ae hv (by decide)) O' ?_;have O:=O'.toOk;have hQ: ∀a st res,jE st.own a (.list (res.map .int))->sR b n vs res->Q (.ret a) st:=λa st res h1 h2=>hQ ⟨_,h1,res,h2,rfl⟩;have hz:(js vs.length (0:Int)).length≤1000:=by rw[aai];exact X5
 refine ah (aK (aE (af O 1 rfl (ai O (f:= .builtin "sum") rfl tr rfl rfl (ak O 4 rfl (gF O (sP rfl) pF hz (nq ⟨_,rfl,?_⟩)))))));rw[ou];rcases abb n with xO|xO
 ·refine fF (decide_eq_false (by rw[xO];decide)) (aj (ah (aJ O (qx ⟨tr,?_⟩))));refine ah (aK (aE (af O 1 rfl (ai O (f:= .builtin "sum") rfl tr rfl rfl (ak O 4 rfl (gF O (sP rfl) pF hz (nq ⟨_,rfl,?_⟩)))))));rw[ou];refine fF (decide_eq_false (by rw[xO];decide)) (aj (ah (aK (dD (bF (af O 6 rfl ⟨false,.b _,bB (bB (aj ?_))⟩))))));exact ah (aF (ak O 4 rfl (hQ _ _ (js vs.length 0) (.list rfl (bS (acI (f:=λi=>AV.f (.int i)) ..) (kJ _))) (.inl ⟨xO,rfl⟩))))
 ·refine iV (decide_eq_true (Hk.mpr xO)) (Wa hn hv Jt O' (Wb xO hn RT hv O' λs m qi uL hm=>ah (aJ O (qx ⟨tr,?_⟩))));have last: ∀t,bM (b7 TT bO 564 (KK w.params) prog w V) ((bodyOf bO).drop 5) ⟨fP vs n b s m [("ties",.f (.bool t))],gn vs (Oi b n m vs)⟩ Q:=λt=>by
   have fin:bM (b7 TT bO 564 (KK w.params) prog w V) ((bodyOf bO).drop 6) ⟨fP vs n b s m [("ties",.f (.bool t))],gn vs (Oi b n m vs)⟩ Q:=ah (aF (ak O 4 rfl (hQ _ _ (Oi b n m vs) (.list rfl (kJ _)) (.inr ⟨xO,s,m,qi,uL,hm,rfl⟩))));refine ah (aK (dD (bF (af O 10 rfl ⟨t,.b _,?_⟩))));cases t with
   |false=>exact bB (bB (aj fin))
   |true=>exact cB (dD (gD (bF (af O 3 rfl ⟨true,.b _,bB (bB (aj fin))⟩))))
  refine ah (aK (aE (af O 1 rfl (ai O (f:= .builtin "sum") rfl tr rfl rfl (ak O 4 rfl (gF O (C3 rfl) (λi hi=>(sU hn i hi).imp id λz=>hV z (by decide)) (by rw[ag];exact X5) (nq ⟨_,rfl,?_⟩)))))))
  by_cases hc:(vs.map (cI b n m)).sum<(n:Int)
  ·exact iV (decide_eq_true hc) (Wd hn hv O' last)
  ·have:=last false;rw[show Oi b n m vs=vs.map (cI b n m)from Et hc _]at this;exact fF (decide_eq_false hc) (aj this)
theorem K6{n:Nat}{vs:List Int}{b:Bool}(hn:n≤4)(RT:1≤vs.length)(hv:vs.length≤10)(Jt: ∀p∈vs,0≤p/\p≤1000):
  Spec prog w (KK w.params) TT 7 (.ref 545) [.str (iL b),.list (vs.map .int),.int (n:Int)] [] (λr=> ∃res,sR b n vs res/\r= .list (res.map .int)):=
 yN (by cases b<;>simp[iL]) (by decide) (Oj hn RT hv Jt) λr hr=>by obtain⟨res,_,e⟩:=hr;exact⟨_,e⟩
end
theorem sV: ∀l:List Int,yA (l.map .int)=0:=by
 intro lz;induction lz with
 |nil=>exact rfl
 |cons a l ih=>rw[eA];rewrite [yA];rw[ih];rfl
theorem shaped_ints(l:List Int):shaped (.list (l.map .int))=true:=by unfold shaped;rewrite [Ta];rw[lay_ints];rewrite [af5];rw[sV];rfl
theorem qa: ∀l:List (List Int),yA (l.map λx=> .list (x.map .int))≤1
 | []=>kS _
 |a::l=>by rw[eA];rewrite [yA];rewrite [af5];rw[sV];have:=qa l;exact km (Nat.max_eq_left this)
theorem lI: ∀l:List (List Int),rx (l.map λx=> .list (x.map .int))=true
 | []=>rfl
 |a::l=>by rw[eA];rewrite [rx];rewrite [Ta];rw[lay_ints];rw[lI l];rfl
theorem gH(l:List (List Int)):shaped (.list (l.map λx=> .list (x.map .int)))=true:=by unfold shaped;rewrite [Ta];rw[lI];rewrite [af5];have:=qa l;simp only[ab4,decide_eq_true_eq];exact ae (nf this 1) (by decide)
theorem iw: ∀l:List (List Int),rA (l.map λx=> .list (x.map .int)) (l.map λx=> .list (x.map .int))
 | []=> .nil
 |a::l=> .cons (.list (gR a)) (iw l)
section
variable{c:Cx}{st:St}
inductive Z5 (Q:Bool->St->Prop)(a:AV)(aO:St):Prop
 |mk (l:List FV) (e:a= .n (.list l)) (h:l.length≤1000000) (q:Q (!l.isEmpty) aO)
theorem Ol(h:Ev c e st (Z5 Q))
  (he:abF e c.env (acp e c.env)=(do let v<-acp e c.env;aau e.pos;NA [v] (truthy v)):=by rfl):tG c e st Q:=λT s S=>
 isTrue_plain (wpS (h.run T s S) (λv s' z=>by obtain⟨a,aO,S',l,rfl,hl,q⟩:=z;have S2:=S';obtain⟨m,as,P,N,B⟩:=S2;obtain⟨x,vs,n,rfl,hp,g,r⟩:=B.bw _ (.head _);have hlen:=r.length;refine acR (aP g) (by rw[eM];rw[hlen];lia) ?_;rw[f9 hlen];exact⟨aO,S'.pop.dH,q⟩)) he
theorem Ew{ns:List Int}(O:bQ c n)(hb:Snap st.own b (.list (ns.map .int)))(hn:1≤n)(h:Q (.f (.bool (!decide (i∈ns)))) st):Op c [b,.f (.int i)] (λvs=>match vs with| [y,x]=>md .NotIn x y|_=> .raise .none) st Q:=Gh O (.f _) hb (.int i) (gR ns) (lay_ints ns) rfl (ae (tp _ _) (bo rfl)) hn (by rw[any_ints];exact h)
theorem IC{ns:List Int}(O:bQ c n)(ha:Snap st.own a (.list (ns.map .int)))(hb:Snap st.own b (.list []))(hn:2≤n)(h:Q (.f (.bool ns.isEmpty)) st):Op c [b,a] (λvs=>match vs with| [y,x]=>md .Eq x y|_=> .raise .none) st Q:=by
 refine Gi O ha hb (.list (gR ns)) (.list .nil) (shaped_ints ns) (shaped_ints []) hn ?_;cases ns with
 |nil=>exact h
 |cons a l=>exact h
theorem ID{ns:List Int}(O:bQ c n)(ha:Snap st.own a (.list (ns.map .int)))(hb:Snap st.own b (.list (ns.map .int)))(hn:2≤n)(h:Q (.f (.bool false)) st):Op c [b,a] (λvs=>match vs with| [y,x]=>md .NotEq x y|_=> .raise .none) st Q:=by refine Gj O ha hb (.list (gR ns)) (.list (gR ns)) (shaped_ints ns) (shaped_ints ns) hn ?_;rw[eqv_refl _ (by rewrite [Ta];exact lay_ints ns)];exact h
theorem K7{ls:List (List Int)}(O:bQ c n)(ha:Snap st.own a (.list (ls.map λx=> .list (x.map .int))))(hb:Snap st.own b (.list (ls.map λx=> .list (x.map .int))))(hn:2≤n)(h:Q (.f (.bool false)) st):Op c [b,a] (λvs=>match vs with| [y,x]=>md .NotEq x y|_=> .raise .none) st Q:=by refine Gj O ha hb (.list (iw ls)) (.list (iw ls)) (gH ls) (gH ls) hn ?_;rw[eqv_refl _ (by rewrite [Ta];exact lI ls)];exact h
theorem K8{ls:List (List Int)}(O:bQ c n)(ha:Snap st.own a (.list (ls.map λx=> .list (x.map .int))))(hb:Snap st.own b (.list (ls.map λx=> .list (x.map .int))))(hn:2≤n)(h:Q (.f (.bool true)) st):Op c [b,a] (λvs=>match vs with| [y,x]=>md .Eq x y|_=> .raise .none) st Q:=by refine Gi O ha hb (.list (iw ls)) (.list (iw ls)) (gH ls) (gH ls) hn ?_;rw[eqv_refl _ (by rewrite [Ta];exact lI ls)];exact h
end
noncomputable abbrev fz(l:List Nat):List FV:=l.map λ(i:Nat)=> .int (i:Int)
noncomputable abbrev bT(P:Nat)(f:Nat->Int):List FV:=(ar P).map λp=> .int (f p)
noncomputable def eU(free:List Nat)(told:List Int)(l:Nat->Int):List Nat:=((ar free.length).filter λk=>decide (l (free.getD k 0)<told.getD k 0)).map λk=>free.getD k 0
theorem Ey:fz (eU free told l)=((ar free.length).filter λk=>decide (l (free.getD k 0)<told.getD k 0)).map λk=> .int (free.getD k 0:Nat):=by unfold eU;rewrite [fz];rw[dT];rfl
theorem vA: ∀p∈eU free told l,p∈free:=λp hp=>by obtain⟨k,hk,rfl⟩:=bb.mp hp;have hk:=a9.mp (fI.mp hk).1;rw[fb];rw[eC hk];exact Qb hk
theorem IE(h:p<P):(bT P f)[p]?=some (.int (f p)):=by rw[my];rw[eR h];rfl
theorem IF(h:sR b n vs res):res.length=vs.length:=by
 rcases h with⟨_,rfl⟩|⟨_,s,m,_,_,_,rfl⟩
 ·simp
 ·unfold Oi;rw[yR];rw[ag];rfl
theorem K9{P:Nat}{sd:List Int}{a:Nat->Int}(hl:sd.length=P)(h: ∀p<P,sd[p]?=some (a p)):sd.map FV.int=bT P a:=by
 apply abz;intro i
 by_cases hi:i<P
 ·rw[my];rw[h i hi];rw[IE hi];rfl
 ·rw[mn (by rw[ag];rw[hl];exact aaM hi)];rw[mn (by rw[ag];rw[cf];exact aaM hi)];rfl
structure Om(b:Bool)(P:Nat)(v l a:Nat->Int)(ok:List Nat->Nat->Prop):Prop where
 P3:P≤10
 hv: ∀p<P,0≤v p/\v p≤1000
 free: ∀free n,ok free n->free.length≤10/\(∀p∈free,p<P)/\n≤4
 step: ∀free n told,free≠ []->ok free n->sR b n (free.map v) told->(eU free told l=[]->told=free.map a)/\(eU free told l≠ []->(∀p∈eU free told l,a p=l p)/\ ∃n' :Nat,(n:Int)-((eU free told l).map l).sum=n' /\ok (free.filter λp=>!decide (p∈eU free told l)) n')
section
variable{prog:d5}{w:fA}{V:Fx}
noncomputable def yS (b:Bool)(P:Nat)(v l:Nat->Int)(n:Int)(free:List Nat)(r:List (Str×AV)):List (Str×AV):=("method",.f (.str (iL b)))::("votes",.f (.list (bT P v)))::("lists",.f (.list (bT P l)))::("seats",.f (.int n))::("seated",.own 1)::("free",.n (.list (fz free)))::r
noncomputable def pG(b:Bool)(P:Nat)(v l:Nat->Int)(n:Int)(free:List Nat)(told:List Int)(over:List Nat)(r:List (Str×AV)):List (Str×AV):=yS b P v l n free (("told",.n (.list (told.map .int)))::("over",.n (.list (fz over)))::r)
noncomputable def oz(sd:List Int):List AO:=[.list [.f (.int 0)],.list (sd.map λi=> .f (.int i))]
theorem vB{sd:List Int}{p:Nat}{x:Int}:[AO.list [.f (.int 0)],.list ((sd.map λi=>AV.f (FV.int i)).set p (.f (.int x)))]=oz (sd.set p x):=congrArg (λz=> [_,AO.list z]) (ah2 ..).symm
variable{H:List (dq×Obj)}{G:Array de}
noncomputable def IG:List aa4:=mw ((bodyOf mz).getD 2 default)
theorem getD_get{l:List Nat}{k:Nat}(hk:k<l.length):l[k]?=some (l.getD k 0):=by rw[fb];rw[eC hk];rfl
theorem lJ{l:List Int}{k:Nat}(hk:k<l.length):l[k]?=some (l.getD k 0):=by rw[fb];rw[eC hk];rfl
theorem Wf(M:Om b P v l a ok)(m7:free≠ [])(wA:ok free n)(O' :bQ (b7 TT mz 745 (KK w.params) prog w V) 9)
  (h: ∀told,sR b n (free.map v) told->bM (b7 TT mz 745 (KK w.params) prog w V) (IG.drop 2) ⟨pG b P v l n free told (eU free told l) [],oz sd⟩ Q):
  bM (b7 TT mz 745 (KK w.params) prog w V) IG ⟨yS b P v l n free [],oz sd⟩ Q:=by
 have O:=O'.toOk;obtain⟨Oo,Pw,X6⟩:=M.free free n wA;have uc:(ar P).length≤1000000:=by rw[cf];exact ae M.P3 (by decide)
 have JD:=ae Oo (show 10≤1000000 by decide);have X7:=ae Oo (show 10≤1000 by decide);refine ah (aJ O (ai O (f:= .ref 545) rfl tr rfl rfl (af O 0 rfl (bY O' [("votes",V.L+1)] (by rfl) (ak O 5 rfl ⟨_,_,[("votes",.list (bT P v))],cG _ _,.n _,.cons 1 rfl rfl rfl (λaa=>rfl) (.f _) .nil,λV2 OK=>run_map OK.toOk free _ (λp=> .int (v p)) _ X7 tr tr ?_ λp hp H G la=>aY (ak (OK.v H G).toOk 0 rfl (af (OK.v H G).toOk 1 rfl (br (eR (Pw p hp)) uc ⟨rfl,rfl⟩)))⟩)))))
 refine af O 3 rfl (bh O' (K6 (b:=b) (n:=n) (vs:=free.map v) X6 (by rw[ag];exact aaS.mpr m7) (by rw[ag];exact Oo) (λx hx=>?_)) (by decide) (.cons (.f _) (.cons (by rw[dT];exact .n _) (.cons (.f _) .nil))) .nil rfl ?_)
 ·obtain⟨p,hp,rfl⟩:=bb.mp hx;exact M.hv p (Pw p hp)
 rintro _ ⟨told,hd,rfl⟩;have Mv:told.length=free.length:=by rw[IF hd];rw[ag];rfl
 refine⟨tr,ah (aJ O (bY O' [("told",V.L+4),("lists",V.L+2),("free",V.L+3)] (by rfl) (dM O JD (ak O 5 rfl ⟨_,kF free,ag ..,.m8 0 free.length,_,[("free",.list (fz free)),("lists",.list (bT P l)),("told",.list (told.map .int))],ck JD,.n _,.cons 5 rfl rfl rfl (λaa=>rfl) (.n _) (.cons 2 rfl rfl rfl (λaa=>rfl) (.f _) (.cons 6 rfl rfl rfl (λaa=>rfl) (.n _) .nil)),λV2 OK=>dP OK.toOk (ar free.length) _ (λk=>decide (l (free.getD k 0)<told.getD k 0)) (λk=> .int (free.getD k 0:Nat)) _ (by rw[cf];exact X7) tr tr ⟨tr,?_⟩ (λk hk H G la=>?_) λk hk aa H G la=>?_⟩))))⟩
 ·exact cast (congrArg (λz=>bM _ _ ⟨yS b P v l n free [("told",.n (.list (told.map .int))),("over",.n (.list z))],oz sd⟩ Q) Ey) (h told hd)
 ·have hk:=a9.mp hk;have OV:=(OK.v H G).toOk;have hp:=Pw _ (d3 (getD_get hk));exact aE (aY (ak OV 2 rfl (af OV 3 rfl (br (lJ (Mv▸hk)) (Mv▸JD) (aY (ak OV 1 rfl (aY (ak OV 0 rfl (af OV 3 rfl (br (getD_get hk) JD (br (eR hp) uc (nq ⟨_,rfl,rfl,rfl⟩))))))))))))
 ·have OV:=(OK.v H G).toOk;exact aY (ak OV 0 rfl (af OV 3 rfl (br (getD_get (a9.mp hk)) JD ⟨rfl,rfl⟩)))
end
theorem pH(l:List Nat):fz l=(l.map λ(i:Nat)=>(i:Int)).map .int:=by rewrite [fz];rw[dT];rfl
theorem filter_lt{l over:List Nat}(hs: ∀p∈over,p∈l)(m7:over≠ []):(l.filter λp=>!decide (p∈over)).length<l.length:=by
 obtain⟨p,r,e⟩:E2 λp r=>over=p::r:=by cases over with|nil=>exact absurd rfl m7|cons p r=>exact⟨p,r,rfl⟩
 have hp:p∈over:=by rw[e];exact .head _
 refine List.length_filter_lt_length_iff_exists.mpr ⟨p,hs p hp,by simp[hp]⟩
section
variable{prog:d5}{w:fA}
structure Oq (P:Nat)(a:Nat->Int)(out:Nat->Prop)(sd:List Int):Prop where
 len:sd.length=P
 at_: ∀p<P,out p->sd[p]?=some (a p)
theorem Oq.set(h:Oq P a out sd)(hp:p0<P)(hx:x=a p0)(ho: ∀p,Wg p->out p∨p=p0):Oq P a Wg (sd.set p0 x):=⟨by rw[ab8];exact h.len,λp o6 hq=>by
 rw[afO]
 by_cases e:p0=p
 ·rw[if_pos e];rw[if_pos (by rw[h.len];exact hp)];rw[hx];rw[e];rfl
 ·rw[if_neg e];exact h.at_ p o6 ((ho p hq).resolve_right λz=>e z.symm)⟩
theorem II{l:List Nat}{j p:Nat}{x:Nat}{f:Nat->Prop}(hx:l[j]?=some x)(h:f p∨p∈l.take (j+1)):(f p∨p∈l.take j)∨p=x:=by rw[abv,hx]at h;exact h.elim (λz=> .inl (.inl z)) λz=>(cp.mp z).elim (λz=> .inl (.inr z)) λz=> .inr (fx.mp z)
structure Z6(P:Nat)(a:Nat->Int)(ok:List Nat->Nat->Prop)(free:List Nat)(n:Nat)(sd:List Int):Prop where
 ok_:ok free n
 p:Oq P a (· ∉free) sd
inductive Z7(b:Bool)(P:Nat)(v l a:Nat->Int)(ok:List Nat->Nat->Prop)(m:Nat)(st:St):Prop
 |mk (free:List Nat) (n:Nat) (sd:List Int) (e1:m=free.length) (h:Z6 P a ok free n sd) (e2:st=⟨yS b P v l n free [],oz sd⟩)
noncomputable def Wh(b:Bool)(P:Nat)(v l a:Nat->Int)(n:Int)(free:List Nat)(told:List Int)(over:List Nat):Lp Nat (List Int):=⟨λaa aa=>pG b P v l n free told over [],λaa sd=>oz sd,λj=>Oq P a λp=>p∉free∨p∈free.take j⟩
noncomputable def Wi(b:Bool)(P:Nat)(v l a:Nat->Int)(n:Int)(free:List Nat)(told:List Int)(over:List Nat):Lp (List Nat) (List Int):=⟨λq aa=>pG b P v l (n-(q.map l).sum) free told over [],λaa sd=>oz sd,λq=>Oq P a λp=>p∉free∨p∈q⟩
theorem sW(M:Om b P v l a ok)(Wj:ok (ar P) n0):
  Spec prog w (KK w.params) TT 10 (.ref 745) [.str (iL b),.list (bT P v),.list (bT P l),.int (n0:Int)] [] (· = .list (bT P a)):=by
 have hP:=M.P3;have uc:=ae hP (show 10≤1000000 by decide);have tF:(ar P).length≤1000000:=by rw[cf];exact uc
 have tO: ∀{f:Nat->Int},((ar P).map λp=>AV.f (.int (f p))).length=P:=by rw[ag];rw[cf];rfl
 refine aR (Vb w.params) [("method",.str (iL b)),("votes",.list (bT P v)),("lists",.list (bT P l)),("seats",.int (n0:Int))] rfl (λaa aa aa=>rfl) λV O' =>cU λQ hQ=>?_;have O:=O'.toOk;have hQ: ∀loc sd,Oq P a (λaa=>True) sd->Q (.ret (.own 1)) ⟨loc,oz sd⟩:=λloc sd h=>hQ ⟨_,.list rfl (kJ sd),congrArg _ (K9 h.len λp hp=>h.at_ p hp trivial)⟩;refine ah (aJ O (au (bR O rfl (aC ⟨rfl,ai O (f:= .builtin "len") rfl tr rfl rfl (ak O 1 rfl (ir (n:=P) c7 tO uc (qA (j:=0) O rfl (ae hP (by decide)) ⟨tr,?_⟩)))⟩))));refine ah (aJ O (bY O' [] (by rfl) (dM O uc (ak O 1 rfl ⟨_,c7,tO,.m8 0 P,_,[],ck uc,.n _,.nil,λV2 OK=>run_map OK.toOk (ar P) _ (λi=> .int (i:Int)) [] (by rw[cf];exact ae hP (by decide)) rfl tr ⟨tr,?_⟩ λi hi H G la=>af (OK.v H G).toOk 0 rfl ⟨rfl,rfl⟩⟩))))
 refine ah (xA (Z7 b P v l a ok) P ⟨ar P,n0,js P 0,cf.symm,⟨Wj,aai,λp hp hn=>absurd (a9.mpr hp) hn⟩,congrArg (λz=>St.mk (yS b P v l n0 (ar P) []) [.list [.f (.int 0)],.list z]) (acI (f:=λi=>AV.f (.int i))).symm⟩ λm st hI=>?_);obtain⟨free,n,sd,e1,⟨wA,vC⟩,e2⟩:=hI;obtain⟨Oo,Pw,X6⟩:=M.free free n wA;have JD:=ae Oo (show 10≤1000000 by decide);rw[e1];rw[e2];refine Ol (ak O 5 rfl ⟨_,rfl,by rw[ag];exact ae Oo (by decide),?_⟩);cases Tj:free with
 |nil=>exact bB (aj (ah (aF (af O 4 rfl (hQ _ sd ⟨vC.len,λp hp aa=>vC.at_ p hp (by rw[Tj];exact ij)⟩)))))
 |cons p0 fr=>
  refine bS (Tj ..) ?_;have m7:free≠ []:=by rw[Tj];exact abP _ _
  refine iV (by rw[Tj];rfl) (rB 6 (cU λR hR=>Wf M m7 wA O' λtold hd=>?_));obtain⟨qi,uL⟩:=M.step free n told m7 wA hd;have X8:=vA (free:=free) (told:=told) (l:=l);have Mv:told.length=free.length:=by rw[IF hd];rw[ag];rfl
  refine ah (aK (aE (ak O 7 rfl (gY O rfl ⟨rfl,[],.nil,IC (ns:=(eU free told l).map λ(i:Nat)=>(i:Int)) O' (by refine bS (pH ..) ?_;exact .n _) (.n _) (by decide) ⟨_,rfl,?_⟩⟩))))
  by_cases Mw:eU free told l=[]
  ·have ht:=qi Mw;refine iV (by rw[Mw];rfl) (ah (lg O (dM O JD (ak O 5 rfl ⟨_,kF free,ag ..,free.length,Wh b P v l a n free told (eU free told l),rfl,JD,sd,⟨vC.len,λp hp h=>vC.at_ p hp (h.resolve_right ij)⟩,rfl,λaa aa=>rfl,λj hj sd R H G vC hR=>?_,λsd vC=>?_⟩))))
   ·have OO:=(O'.v H G).toOk;have X9:=Pw _ (d3 (getD_get hj));refine ah (fH (aY (ak OO 6 rfl (af OO 8 rfl (dX (lJ (Mv▸hj)) (Mv▸JD) (af OO 4 rfl (aY (ak OO 5 rfl (af OO 8 rfl (dX (getD_get hj) JD ⟨1,_,free.getD j 0,rfl,rfl,rfl,by rw[ag];rw[vC.len];exact X9,by rw[ag];rw[vC.len];exact uc,aj ?_⟩))))))))));refine cast (congrArg (λz=>R .next ⟨_,z⟩) vB.symm) (hR _ [_] (vC.set X9 ?_ λp=>II (f:=(· ∉free)) (getD_get hj)));rw[ht];rw[fb];rw[my];rw[getD_get hj];rfl
   ·exact ah (aF (af O 4 rfl (hR (hQ _ sd ⟨vC.len,λp hp aa=>vC.at_ p hp (by rw[ti];exact(Classical.em (p∈free)).symm)⟩))))
  ·obtain⟨ha,n',Du,K1⟩:=uL Mw;have cy:=filter_lt X8 Mw;refine fF (by refine eV (List.isEmpty_eq_false_iff ..) ?_;exact λz=>Mw (acm.mp z)) (aj ?_);generalize eU free told l=over at*
   refine ah (qB O (ak O 7 rfl ⟨_,over,Wi b P v l a n free told over,gP O eF,λaa aa=>eF,sd,⟨vC.len,λp hp h=>vC.at_ p hp (h.resolve_right ij)⟩,congrArg (λz=>St.mk (pG b P v l z free told over []) _) (acB _).symm,λaa aa=>rfl,λq x r e sd R H G vC hR=>?_,λsd vC=>?_⟩))
   ·have OO:=(O'.v H G).toOk;have kD:x∈over:=mem_mid e;have wY:=Pw _ (X8 _ kD);refine ah (fH (aY (ak OO 2 rfl (af OO 8 rfl (br (eR wY) tF (af OO 4 rfl (af OO 8 rfl ⟨1,_,x,rfl,rfl,rfl,by rw[ag];rw[vC.len];exact wY,by rw[ag];rw[vC.len];exact uc,?_⟩)))))));refine ah (d8 (i:=3) OO (au (af OO 3 rfl (aY (ak OO 2 rfl (af OO 8 rfl (br (eR wY) tF (oO ⟨tr,aj ?_⟩))))))));have:=hR (sd.set x (l x)) [("party",.f (.int (x:Nat)))] (vC.set wY (ha _ kD).symm λp h=>h.elim (λz=> .inl (.inl z)) λz=>(cp.mp z).elim (λz=> .inl (.inr z)) λz=> .inr (fx.mp z));have h1:(n:Int)-((q++[x]).map l).sum=(n:Int)-(q.map l).sum-l x:=by rw[ew];rw[adY];refine bS (Int.sub_sub ..) ?_;exact congrArg _ (adT _)
    exact cast (congrArg (λz=>R .next ⟨pG b P v l z free told over [("party",.f (.int (x:Nat)))],_⟩) h1) (cast (congrArg (λo=>R .next ⟨_,o⟩) vB.symm) this)
   ·show Fp _ _ _ _ ⟨pG b P v l ((n:Int)-(over.map l).sum) free told over [],oz sd⟩;rw[Du];refine ah (d8 (i:=5) O (bY O' [("over",V.L+5)] (by rfl) (ak O 5 rfl ⟨_,_,[("over",.list (fz over))],cG _ _,.n _,.cons 7 rfl rfl rfl (λaa=>rfl) (.n _) .nil,λV2 OK=>dP OK.toOk free _ (λp=>!decide (p∈over)) (λ(p:Nat)=> .int (p:Int)) _ (ae Oo (by decide)) tr tr ⟨tr,?_⟩ (λp hp H G la=>?_) λp hp aa H G la=>af (OK.v H G).toOk 1 rfl ⟨rfl,rfl⟩⟩)))
    ·refine aj (hR ⟨_,cy,free.filter λp=>!decide (p∈over),n',sd,rfl,⟨K1,vC.len,λp hp hn=>vC.at_ p hp ?_⟩,rfl⟩)
     by_cases q:p∈free
     ·exact .inr (mf λz=>hn (fI.mpr ⟨q,by rw[decide_eq_false z];rfl⟩))
     ·exact .inl q
    ·have OV:=OK.v H G;exact aE (af OV.toOk 1 rfl (ak OV.toOk 0 rfl (Ew (ns:=over.map λ(i:Nat)=>(i:Int)) OV (by refine bS (pH ..) ?_;exact .f _) (by decide) ⟨_,rfl,by rw[mem_cast];rfl,rfl⟩)))
end
noncomputable def Ot{α:Type}(n:Nat)(ρ:List Nat):KasT α->Option α
 | .ret a=>some a
 | .ask i j k=>if i<n/\j<n then Ot n ρ (k (decide (ρ.getD i 0<ρ.getD j 0)))else none
theorem IJ{α:Type}{Q:α->a8->Prop}(hc: ∀i j C,i<n->j<n->C (decide (ρ.getD i 0<ρ.getD j 0)) s->cmp i j C s):
  ∀(t:KasT α) (a:α),Ot n ρ t=some a->Q a s->t.kasWp cmp Q s
 | .ret b,a,e,q=>by cases e;exact q
 | .ask i j k,a,e,q=>by
  replace e:(if i<n/\j<n then Ot n ρ (k (decide (ρ.getD i 0<ρ.getD j 0)))else none)=some a:=e
  by_cases C4:i<n/\j<n
  ·rw[if_pos C4]at e;exact hc i j _ C4.1 C4.2 (IJ hc _ a e q)
  ·rw[if_neg C4]at e;cases e
noncomputable def qb(n:Nat)(ρ:List Nat):Bool:=match Ot n ρ (agr n)with
 |some p=>p.toList.isPerm (ar n)&&(p.toList.map λi=>ρ.getD i 0)==ar n
 |none=>false
noncomputable def jB(n:Nat)(p:List Nat->Bool):Nat->List Nat->Bool
 |0,acc=>p acc
 |k+1,acc=>(ar n).all λx=>acc.contains x||jB n p k (x::acc)
theorem Ez: ∀(k:Nat) (acc l:List Nat),jB n p k acc=true->l.length=k->(l++acc).Nodup->(∀x∈l,x<n)->p (l++acc)=true:=by
 intro lz;induction lz with
 |zero=>intro acc l h hl _ _;rw[List.length_eq_zero_iff.mp hl];exact h
 |succ k ih=>
  intro acc l h hl hn hb;obtain⟨l',x,rfl⟩:E2 λl' x=>l=l' ++[x]:=⟨l.dropLast,l.getLast (λe=>by simp[e]at hl),(ab5 _).symm⟩;rw[hJ,List.singleton_append]at hn⊢;have h' :=d6.mp h x (a9.mpr (hb x (by simp)));have hx:x∉acc:=by have:=(kd.mp hn).2.1;exact(dn.mp this).1
  have h2:jB n p k (x::acc)=true:=by
   rcases X1 _ _▸h' with e|e
   ·exact absurd (List.contains_iff_mem.mp e) hx
   ·exact e
  exact ih (x::acc) l' h2 (by simpa using hl) hn λy hy=>hb y (by simp[hy])
theorem EA:(jB 2 (qb 2) 2 []&&jB 3 (qb 3) 3 []&&jB 4 (qb 4) 4 []&&jB 5 (qb 5) 5 []&&jB 6 (qb 6) 6 [])=true:=tr
theorem IK(h2:2≤n)(h6:n≤6)(hl:ρ.length=n)(hn:ρ.Nodup)(hb: ∀x∈ρ,x<n):qb n ρ=true:=by
 have e:jB n (qb n) n []=true:=by
  have:=EA;simp only[dk]at this;obtain⟨⟨⟨⟨e2,e3⟩,e4⟩,e5⟩,e6⟩:=this;obtain rfl|rfl|rfl|rfl|rfl:n=2∨n=3∨n=4∨n=5∨n=6:=by lia
  ·exact e2
  ·exact e3
  ·exact e4
  ·exact e5
  ·exact e6
 have:=Ez n [] ρ e hl (by simpa using hn) hb;simpa using this
noncomputable def dB(x y:Int×Int):Bool:=decide (x.1<y.1∨(x.1=y.1/\x.2<y.2))
theorem jC(h1:dB x y=true)(h2:dB y z=true):dB x z=true:=by
 unfold dB at*
 rw[decide_eq_true_eq]at*
 rcases h1 with h1|⟨e,h1⟩
 ·rcases h2 with h2|⟨e2,h2⟩
  ·exact .inl (abL h1 h2)
  ·exact .inl (e2▸h1)
 ·rw[e];exact h2.imp id λq=>⟨q.1,abL h1 q.2⟩
theorem i6:dB x x=false:=by unfold dB;simp
theorem yT(h1:dB x y=false)(h2:dB y x=false):x=y:=by
 unfold dB at*;simp only[decide_eq_false_iff_not]at*
 have:x.1=y.1:=by omega
 have:x.2=y.2:=by lia
 exact Prod.ext ‹_› ‹_›
noncomputable def cW(rs:List (Int×Int))(x:Int×Int):Nat:=rs.countP λy=>dB y x
theorem C5(hx:x∈rs)(h:dB x y=true):cW rs x<cW rs y:=by
 unfold cW;induction rs with
 |nil=>cases hx
 |cons z rs ih=>
  rw[QP];rw[QP];have le:rs.countP (λw=>dB w x)≤rs.countP (λw=>dB w y):=List.countP_mono_left λw aa hw=>jC hw h;have imp:dB z x=true->dB z y=true:=λq=>jC q h;rcases a5.mp hx with rfl|hx
  ·rw[if_neg (by rw[i6];simp)];rw[if_pos h];exact aan le
  ·have:=ih hx
   by_cases q:dB z x=true
   ·rw[if_pos q];rw[if_pos (imp q)];exact aan this
   ·rw[if_neg q];split<;>lia
theorem oA(hx:x∈rs)(hy:y∈rs):decide (cW rs x<cW rs y)=dB x y:=by
 cases h:dB x y with
 |true=>exact decide_eq_true (C5 hx h)
 |false=>
  refine decide_eq_false λq=>?_;cases h' :dB y x with
  |true=>have:=C5 hy h';lia
  |false=>rw[yT h h']at q;exact aeu 0 (oT (ads q))
theorem BA(hx:x∈rs):cW rs x<rs.length:=by
 unfold cW;induction rs with
 |nil=>cases hx
 |cons z rs ih=>
  rw[QP];rw[th];rcases a5.mp hx with rfl|hx
  ·rw[if_neg (by rw[i6];simp)];have:=vk (p:=λw=>dB w x) (l:=rs);exact aan this
  ·have:=ih hx;split<;>lia
theorem BB{rs:List (Int×Int)}(h:rs.Nodup):(rs.map (cW rs)).Nodup:=by
 have: ∀l:List (Int×Int),l.Nodup->(∀x∈l,x∈rs)->(l.map (cW rs)).Nodup:=by
  intro l hl hm;induction l with
  |nil=>exact .nil
  |cons a l ih=>rw[eA];refine eV (dn ..) ?_;refine⟨λq=>?_,ih (dn.mp hl).2 λx hx=>hm x (.tail _ hx)⟩;obtain⟨b,hb,e⟩:=bb.mp q;have e1:=oA (rs:=rs) (hm a (.head _)) (hm b (.tail _ hb));have e2:=oA (rs:=rs) (hm b (.tail _ hb)) (hm a (.head _));rw[e]at e1 e2;simp only[ib,decide_false]at e1 e2;have:=yT e1.symm e2.symm;subst this;exact(dn.mp hl).1 hb
 exact this rs h λx hx=>hx
set_option tactic.hygienic true in
theorem sX(h2:2≤rs.length)(h6:rs.length≤6)(hn:rs.Nodup): ∃p:Array Nat,A4 (Ot rs.length (rs.map (cW rs)) (agr rs.length)=some p) (p.toList.Perm (ar rs.length)) ((p.toList.map λi=>rs.getD i (0,0)).Pairwise (λx y=>dB x y=true)) ((p.toList.map λi=>rs.getD i (0,0)).Perm rs):=by
 have g:=IK h2 h6 (by rw[ag];rfl) (BB hn) (λx hx=>by obtain⟨y,hy,rfl⟩:=bb.mp hx;exact BA hy);unfold qb at g;split at g
 ·rename_i p e
  rw[dk]at g;have hp:=List.isPerm_iff.mp g.1;have hs:=beq_iff_eq.mp g.2;refine⟨p,e,hp,?_,?_⟩
  ·have pw:((p.toList.map λi=>(rs.map (cW rs)).getD i 0)).Pairwise (· < ·):=by rw[hs];exact hZ
   rw[BM]at pw⊢;have hb: ∀i∈p.toList,i<rs.length:=λi hi=>a9.mp (hp.mem_iff.mp hi);refine Ml (λ{i j} hi hj h=>?_) pw;have hi:=hb i hi;have hj:=hb j hj;have e1:(rs.map (cW rs)).getD i 0=cW rs (rs.getD i (0,0)):=by simp[hi]
   have e2:(rs.map (cW rs)).getD j 0=cW rs (rs.getD j (0,0)):=by simp[hj]
   rw[e1,e2]at h;have m1:rs.getD i (0,0)∈rs:=by simp[hi]
   have m2:rs.getD j (0,0)∈rs:=by simp[hj]
   exact bS (oA m1 m2 ..) (decide_eq_true h)
  ·have:(ar rs.length).map (λi=>rs.getD i (0,0))=rs:=by
    apply w0
    ·simp
    ·intro i h1 h2;simp[h2]
   exact(hp.map _).trans (.of_eq this)
 ·cases g
section
variable{prog:d5}{w:fA}{A:ka}{E:a7->a8->Prop}{s:a8}
theorem ud (ho:s.heap.get? a=some (sT "list" vs.toArray n))(h2:2≤vs.length)(Wk:vs.length<64)
  (hk: ∀h' Q E,(∀b o,b≠a->s.heap.get? b=some o->h'.get? b=some o)->Q κ {s with heap:=h' }->dE (dC prog w) A (keyKind' vs.toArray) Q E {s with heap:=h' })
  (hc: ∀h',(∀b o,b≠a->s.heap.get? b=some o->h'.get? b=some o)-> ∀i j C,i<vs.length->j<vs.length->C (decide (ρ.getD i 0<ρ.getD j 0)) {s with heap:=h' }->aip prog w A κ vs i j C {s with heap:=h' })
  (hg:Ot vs.length ρ (agr vs.length)=some p)(hp:p.size=vs.length)
  (h:P (.done (.ret .none)) {s with heap:=sortedHeap s.heap a vs (mM (p.toList.map λi=>vs.getD i tI))}):
  dE (dC prog w) A (Builtin.«list.sort» ⟨[.ref a],[]⟩) P E s:=by
 rw[list_sort_plain];have ha:a<s.heap.objs.size:=d4 ho;refine ab (af1 ho rfl (ab (abf ho rfl ?_ (by rw[eM];rw[mB];lia) (kS _))));obtain⟨e1,Q3⟩: ∃e1,(s.heap.update a (lr λaa=> #[])).get? a=some (sT "list" #[] e1):=⟨_,Md ho (λaa=> #[])⟩;refine ab (aeQ Q3 rfl (ab (aeG ?_ (by show vs.length≤_;rw[mB];lia))));refine ab (abe (eJ ?_) (kS _));have keep: ∀b o,b≠a->s.heap.get? b=some o->(((s.heap.update a (lr λaa=> #[])).push (sT "tuple" vs.toArray 0)).push (sT "list" #[] 0)).get? b=some o:=λb o hb e=>by have cy:=d4 e;rw[xl _ _ _ (by rw[aa1];rw[tm];exact du (fg cy))];rw[xl _ _ _ (by rw[tm];exact du cy)];rw[aeU _ _ _ _ hb];exact e
 have Tf:(((s.heap.update a (lr λaa=> #[])).push (sT "tuple" vs.toArray 0)).push (sT "list" #[] 0)).get? a=some (sT "list" #[] e1):=by rw[xl _ _ _ (by rw[aa1];rw[tm];exact du (fg ha))];rw[xl _ _ _ (by rw[tm];exact du ha)];exact Q3
 show dE (dC prog w) A _ P E {s with heap:=((s.heap.update a (lr λaa=> #[])).push (sT "tuple" vs.toArray 0)).push (sT "list" #[] 0)};dsimp only;have SX: ¬vs.toArray.size<2:=by rw[eM];exact af9 h2
 rw[if_neg SX];rw[if_neg SX];refine ab (hk _ _ _ keep ?_);have run:(agr vs.length).kasWp (aip prog w A κ vs) (λp' s' =>p' =p/\s' ={s with heap:=((s.heap.update a (lr λaa=> #[])).push (sT "tuple" vs.toArray 0)).push (sT "list" #[] 0)}) {s with heap:=((s.heap.update a (lr λaa=> #[])).push (sT "tuple" vs.toArray 0)).push (sT "list" #[] 0)}:=IJ (hc _ keep) _ p hg ⟨rfl,rfl⟩
 refine ab (hO (kat_run (Q:=λaO s' =>ait aO=p.map (kas_item (vs.toArray.zip vs.toArray))/\failedOf aO=none/\s' ={s with heap:=((s.heap.update a (lr λaa=> #[])).push (sT "tuple" vs.toArray 0)).push (sT "list" #[] 0)})
  rfl h2 Wk (λp' aO s' aa a2 a3 a4=>⟨by rw[a2];rw[a4.1];rfl,a3,a4.2⟩) run) ?_ λaa aa e=>e)
 rintro⟨⟨⟩,aO⟩ s' ⟨Z8,hf,rfl⟩;dsimp only;rw[kat_snds rfl Z8];refine ab (aeQ Tf rfl (ab (abf Tf rfl ?_ (kS _) (by rw[eM];rw[ag];rw[aaO];rw[hp];rw[mB];lia))));rw[hf];simp only[bne_self_eq_false,kz,if_false];exact ax h
theorem BC(hl:s.heap.IsList l vs.toArray)(h2:2≤vs.length)(Wk:vs.length<64)
  (hk: ∀h' Q E,(∀b o,s.heap.get? b=some o->h'.get? b=some o)->Q κ {s with heap:=h' }->dE (dC prog w) A.in1.in1 (keyKind' vs.toArray) Q E {s with heap:=h' })
  (hc: ∀h',(∀b o,s.heap.get? b=some o->h'.get? b=some o)-> ∀i j C,i<vs.length->j<vs.length->C (decide (ρ.getD i 0<ρ.getD j 0)) {s with heap:=h' }->aip prog w A.in1.in1 κ vs i j C {s with heap:=h' })
  (hg:Ot vs.length ρ (agr vs.length)=some p)(hp:p.size=vs.length)
  (h:Q (.ref (s.heap.objs.size+1)) {s with heap:=ahT s.heap vs (mM (p.toList.map λi=>vs.getD i tI))}):
  dE (dC prog w) A (call (.builtin "sorted") [.ref l]) Q E s:=by
 refine It aeP ad5 ad6 (af0 _) ?_;unfold Builtin.«sorted»;refine ab (m:=afN "sorted" 1 1 _) (ax (ab (collect_list hl ?_ (by rw[mB];lia))));refine ab (abe ?_ (by rw[mB];lia));have tP:((s.heap.push (sT "list" #[] 0)).update s.heap.objs.size (lr (· ++vs.toArray))).objs.size=s.heap.objs.size+1:=by rw[tm];rw[aa1];rfl
 have DU:(((s.heap.push (sT "list" #[] 0)).update s.heap.objs.size (lr (· ++vs.toArray))).push (sT "list" vs.toArray 0)).get? (s.heap.objs.size+1)=some (sT "list" vs.toArray 0):=by refine bS (tP ..) ?_;exact bc _ rfl
 have keep: ∀b o,s.heap.get? b=some o->b≠s.heap.objs.size+1/\(((s.heap.push (sT "list" #[] 0)).update s.heap.objs.size (lr (· ++vs.toArray))).push (sT "list" vs.toArray 0)).get? b=some o:=λb o q=>by have cy:b<s.heap.objs.size:=d4 q;refine⟨du (fg cy),?_⟩;rw[xl _ _ _ (by rw[tP];exact du (fg cy))];rw[aeU _ _ _ _ (du cy)];rw[xl _ _ _ (du cy)];exact q
 show dE _ _ _ _ _ {s with heap:=((s.heap.push (sT "list" #[] 0)).update s.heap.objs.size (lr (· ++vs.toArray))).push (sT "list" vs.toArray 0)};rw[tP];refine ab (eJ (oe acN ⟨_,DU,rfl⟩ acf (ud (κ:=κ) (ρ:=ρ) DU h2 Wk
  (λh' Q E kp q=>hk h' Q E (λb o e=>kp b o (keep b o e).1 (keep b o e).2) q) (λh' kp=>hc h' λb o e=>kp b o (keep b o e).1 (keep b o e).2) hg hp ⟨_,rfl,?_⟩) (aeF _)))
 exact ax ⟨_,rfl,h⟩
end
noncomputable def pairF(r:Int×Int):FV:= .tuple [.int r.1,.int r.2]
def fm(h:wq):List (Int×Int)->List a7->Prop
 | [],vs=>vs=[]
 |r::rs,vs=>E5 λa n t u vs' =>A3 (vs= .ref a::vs') (h.get? a=some ⟨.type "tuple",abp,.seq #[.int r.1 t,.int r.2 u] n,#[]⟩) (fm h rs vs')
theorem fm.keep{h h' :wq}(k: ∀b o,h.get? b=some o->h'.get? b=some o): ∀{rs:List (Int×Int)} {vs:List a7},fm h rs vs->fm h' rs vs
 | [],_,H=>H
 |_::_,_,⟨a,n,t,u,vs',e,g,r⟩=>⟨a,n,t,u,vs',e,k _ _ g,r.keep k⟩
theorem fm.length{h:wq}: ∀{rs:List (Int×Int)} {vs:List a7},fm h rs vs->vs.length=rs.length
 | [],_,H=>by cases H;rfl
 |_::_,_,⟨a,n,t,u,vs',e,g,r⟩=>by subst e;simp[r.length]
theorem fm.get{h:wq}: ∀{rs:List (Int×Int)} {vs:List a7} {i:Nat},fm h rs vs->i<rs.length->E4 λa n t u=>vs.getD i .none= .ref a/\h.get? a=some ⟨.type "tuple",abp,.seq #[.int (rs.getD i (0,0)).1 t,.int (rs.getD i (0,0)).2 u] n,#[]⟩
 | [],_,_,_,hi=>absurd hi (t5 _)
 |r::rs,_,0,⟨a,n,t,u,vs',e,g,q⟩,_=>by subst e;exact⟨a,n,t,u,rfl,g⟩
 |r::rs,_,i+1,⟨a,n,t,u,vs',e,g,q⟩,hi=>by subst e;obtain⟨a,n,t,u,e1,e2⟩:=q.get (i:=i) (by simpa using hi);exact⟨a,n,t,u,by simpa using e1,by simpa using e2⟩
theorem fm.RW{h:wq}: ∀{rs:List (Int×Int)} {vs:List a7},fm h rs vs-> ∃fs,A3 (KatTups h vs fs) (fs.length=rs.length) (∀v∈fs,E2 λi t=>v=Value.int i t)
 | [],_,H=>by cases H;exact⟨[],trivial,rfl,λaa h=>nomatch h⟩
 |_::_,_,⟨a,n,t,u,vs',e,g,r⟩=>by
  subst e;obtain⟨fs,h1,h2,h3⟩:=r.RW;refine⟨_::fs,KatTups.cons g rfl rfl (f:= .int _ t) rfl h1,by simp[h2],λv hv=>?_⟩;rcases a5.mp hv with rfl|hv
  ·exact⟨_,_,rfl⟩
  ·exact h3 v hv
section
variable{prog:d5}{w:fA}{A:ka}{E:a7->a8->Prop}{s:a8}
theorem La (hx:s.heap.get? x=some ⟨.type "tuple",abp,.seq #[.int a t,.int b u] n,#[]⟩)(hy:s.heap.get? y=some ⟨.type "tuple",abp,.seq #[.int a' t',.int b' u'] k,#[]⟩)
  (h:C (dB (a,b) (a',b')) s):dE (dC prog w) A (keyLt' (tuples' true) (.ref x) (.ref y)) C E s:=by
 refine kat_lt hx rfl hy rfl (kat_cons (agl (kat_go (λe=>kat_yes (kat_cons (agl ?_))) λe=>kat_no ?_)))
 ·have ea:a=a' :=by simpa using e
  refine kat_go (λe2=>kat_yes (kat_nil ?_)) λe2=>kat_no (kat_one _ _ (lt_int ?_))
  ·have eb:b=b' :=by simpa using e2
   subst ea;subst eb;rw[i6]at h;exact h
  ·show C (decide (b<b')) s;have:dB (a,b) (a',b')=decide (b<b'):=by unfold dB;subst ea;simp
   refine bS (this ..) ?_;exact h
 ·have ea:a≠a' :=by simpa using e
  refine oneLt_int ?_;have:dB (a,b) (a',b')=decide (a<a'):=by unfold dB;simp[ea]
  refine bS (this ..) ?_;exact h
theorem BD{h:wq}{N P:dq->Prop}{as:List dq}: ∀{rs:List (Int×Int)} {vs:List a7},bu h P N as (rs.map λr=> .n (pairF r)) vs->fm h rs vs:=by
 intro lz;induction lz with
 |nil=>intro _ H;cases H;rfl
 |cons r rs ih=>intro _ H;obtain⟨v,vs',rfl,⟨a,ws,n,rfl,_,g,v1,w1,rfl,⟨t,rfl⟩,v2,w2,rfl,⟨u,rfl⟩,rfl⟩,q⟩:=H;exact⟨a,n,t,u,vs',rfl,g,ih q⟩
theorem Lb{h' :wq}{N P N' :dq->Prop}{as:List dq}(k: ∀b o,s.heap.get? b=some o->h'.get? b=some o)(hn: ∀a,N a->N' a): ∀{rs:List (Int×Int)} {vs:List a7},bu s.heap P N as (rs.map λr=> .n (pairF r)) vs-> ∀p:List Nat,(∀i∈p,i<rs.length)->eW h' N' ((p.map λi=>rs.getD i (0,0)).map pairF) (p.map λi=>vs.getD i .none):=by
 intro rs vs H p;have one: ∀{rs:List (Int×Int)} {vs:List a7} {i:Nat},bu s.heap P N as (rs.map λr=> .n (pairF r)) vs->i<rs.length->VR h' N' (pairF (rs.getD i (0,0))) (vs.getD i .none):=by
  intro rs;induction rs with
  |nil=>intro vs i _ hi;exact absurd hi (t5 _)
  |cons r rs ih=>
   intro vs i H hi;obtain⟨v,vs',rfl,hv,q⟩:=H;cases i with
   |zero=>exact VR.mono (λa o aa e=>k a o e) hn hv
   |succ i=>simpa using ih q (by simpa using hi)
 induction p with
 |nil=>exact λaa=>rfl
 |cons i p ih=>exact λhp=>⟨_,_,rfl,one H (hp i (.head _)),ih λj hj=>hp j (.tail _ hj)⟩
variable{c:Cx}{st:St}
theorem yU (O:Ok c)(h2:2≤rs.length)(h6:rs.length≤6)(hn:rs.Nodup)(h: ∀Mx:List (Int×Int),Mx.Perm rs->Mx.Pairwise (λx y=>dB x y=true)->Q (.n (.list (Mx.map pairF))) st):aZ c (.builtin "sorted") [.n (.list (rs.map pairF))] [] [] st Q:=
 jn λT x s S=>by
  obtain⟨m,as,P,N,B⟩:=S;obtain⟨y,vs,n,rfl,g,r⟩:=B.list (.n (rs.map pairF)) (B.bw _ (.head _));have r' :bu s.heap P N as (rs.map λr=> .n (pairF r)) vs:=by rw[dT]at r;exact r
  have pa:=BD r';have hlen:=pa.length;obtain⟨p,hg,iK,hs,hp⟩:=sX h2 h6 hn;have tP:p.size=vs.length:=by rw[hlen];refine bS (aaO ..) ?_;rw[iK.length_eq];rw[cf];rfl
  have hb: ∀i∈p.toList,i<rs.length:=λi hi=>a9.mp (iK.mem_iff.mp hi);refine BC (κ:=tuples' true) (ρ:=rs.map (cW rs)) (aP g) (ae h2 (km (adR hlen))) (by lia) (λh' Q E k q=>?_) (λh' k i j C hi hj q=>?_) (by rw[hlen];exact hg) tP ?_
  ·obtain⟨fs,f1,f2,f3⟩:=(pa.keep k).RW;exact kat_kind (T:= .type "int") f1 (by lia) (λv hv=>by obtain⟨i,t,rfl⟩:=f3 v hv;exact .now) tr q
  ·rw[hlen]at hi hj;refine nn λhN=>?_;obtain⟨x1,n1,t1,u1,e1,g1⟩:=(pa.keep k).get hi;obtain⟨x2,n2,t2,u2,e2,g2⟩:=(pa.keep k).get hj;refine hN ?_;unfold aip;rw[e1];rw[e2];refine La g1 g2 ?_;have a1:(rs.map (cW rs)).getD i 0=cW rs (rs.getD i (0,0)):=by simp[hi]
   have a2:(rs.map (cW rs)).getD j 0=cW rs (rs.getD j (0,0)):=by simp[hj]
   rw[a1,a2,oA (by simp[hi]) (by simp[hj])]at q;exact q
  ·obtain⟨e,he⟩:=sortedAll_at s.heap vs (mM (p.toList.map λi=>vs.getD i tI));have nt:s.heap.objs.size+1∉c.tt:=λq=>by obtain⟨_,_,e,_,_⟩:=B.low.2 _ q;exact ib _ (oo (gN _) (d4 e))
   have ext:Ext c.tt s {s with heap:=ahT s.heap vs (mM (p.toList.map λi=>vs.getD i tI))}:=⟨gB.of λb o e=>afg e,⟨[],by simp,λaa h=>nomatch h⟩,rfl⟩;refine⟨_,st,(B.less λp hp=> .tail _ hp).jk ext ?_,h (p.toList.map λi=>rs.getD i (0,0)) hp hs⟩;exact⟨_,_,e,rfl,.inr ⟨dv (me _),nt⟩,he,Lb (λb o e=>afg e) (λaa p=> .inl p) r' p.toList hb⟩
end
noncomputable def EW(xv:Int):List Int:=if xv=3 then [105,35,21,15]else [12,6,4,3]
noncomputable def rowsOf(xv:Int)(P:Nat)(v:Nat->Int)(ln:Nat->Nat):List (Int×Int):=(ar P).flatMap λp=>(ar (ln p)).map λk=>(-(v p)*(EW xv).getD k 0,(p:Int))
noncomputable def EB(rs:List (Int×Int))(p:Nat):Int:=((rs.filter λr=>decide (r.2=(p:Int))).length:Nat)
theorem i7{α:Type}(l:List α)(n:Nat):cK l none (some (n:Int))=l.take n:=by
 unfold cK;show(l.drop 0).take (aey l.length (n:Int)-0)=l.take n;rw[nI];rw[ahO];rw[aew];rcases adW n l.length with h|h
 ·rw[so h];rfl
 ·rw[aaJ h];rw[ti];rw[List.take_of_length_le h];rfl
theorem yV: ∀rs:List (Int×Int),cT ((rs.map pairF).map AV.nw) (rs.map pairF):=by
 intro lz;induction lz with
 |nil=>exact .nil
 |cons _ rs ih=>exact .cons (.n _) (ih)
theorem ue{Q:AV->St->Prop}{st:St}{r s:Int}(e:r=s)(h:Q (.f (.int s)) st):Q (.f (.int r)) st:=e▸h
section
variable{c:Cx}{st:St}
theorem yW {k:Nat}(O:Ok c)(hk:k≤1000000):e9 c (.n (.m8 0 k)) st ((ar k).map λ(i:Nat)=> .f (.int (i:Int))) (λaa=>True):=by refine bS (ki ..) ?_;exact rq O (by decide) ⟨hV (by decide) (dA k),mN.mpr hk⟩
theorem Ou(h:Ev c e st λaa aO=>Q (.f .any) aO):Ev c e st Q:= .mk λT s S=>wpS (h.run T s S) (λv s' z=>by obtain⟨a,aO,⟨m,as,P,N,B⟩,q⟩:=z;exact⟨.f .any,aO,⟨m,as,P,N,(B.less λp hp=> .tail _ hp).push (a:= .f .any) trivial⟩,q⟩)
end
section
variable{prog:d5}{w:fA}
noncomputable def Z9 (xv:Int)(P:Nat)(v:Nat->Int)(ln:Nat->Nat)(n0:Nat)(sl:List Int)(r:List (Str×AV)):List (Str×AV):=("rule",.f (.int xv))::("votes",.f (.list (bT P v)))::("lists",.f (.list (bT P λp=>(ln p:Int))))::("seats",.f (.int n0))::("shares",.n (.list (sl.map .int)))::r
theorem BE{xv:Int}{P n0:Nat}{v:Nat->Int}{ln:Nat->Nat}(SG:P≤3)(hv: ∀p<P,1≤v p/\v p≤1000)(oB: ∀p<P,ln p≤3)(h2:2≤(rowsOf xv P v ln).length)(h6:(rowsOf xv P v ln).length≤6)(bU:(rowsOf xv P v ln).Nodup):
  Spec prog w (KK w.params) TT 10 (.ref 750) [.int xv,.list (bT P v),.list (bT P λp=>(ln p:Int)),.int (n0:Int)] [] λr=> ∃rs:List (Int×Int),rs.Perm (rowsOf xv P v ln)/\rs.Pairwise (λx y=>dB x y=true)/\r= .list (bT P (EB (rs.take n0))):=by
 have tO: ∀{f:Nat->Int},((ar P).map λp=>AV.f (.int (f p))).length=P:=by rw[ag];rw[cf];rfl
 have uc:P≤1000000:=ae SG (by decide);have tF:(ar P).length≤1000000:=by rw[cf];exact uc
 refine aR (Vc w.params) [("rule",.int xv),("votes",.list (bT P v)),("lists",.list (bT P λp=>(ln p:Int))),("seats",.int (n0:Int))] rfl (λaa aa aa=>rfl) λV O' =>cU λQ hQ=>?_;have O:=O'.toOk;have hQ: ∀a st (rs:List (Int×Int)),rs.Perm (rowsOf xv P v ln)->rs.Pairwise (λx y=>dB x y=true)->jE st.own a (.list (bT P (EB (rs.take n0))))->Q (.ret a) st:=λa st rs h1 h2 h3=>hQ ⟨_,h3,rs,h1,h2,rfl⟩
 suffices key: ∀sl,EW xv=sl->sl.length=4->(∀k<4,(sl.getD k 0).natAbs≤105)->bM (b7 TT qT 750 (KK w.params) prog w V) ((bodyOf qT).drop 1) ⟨Z9 xv P v ln n0 sl [],[]⟩ Q by
  refine ah (aJ O (j8 (aE (af O 0 rfl (aC (eX ⟨_,rfl,?_⟩))))));unfold EW at key
  by_cases h3:xv=3
  ·exact iV (beq_iff_eq.mpr h3) (gY O rfl (aC (aC (aC (aC ⟨rfl,_,.cons (.f rfl) (.cons (.f rfl) (.cons (.f rfl) (.cons (.f rfl) .nil))),tr,key [105,35,21,15] (if_pos h3) rfl (by decide)⟩)))))
  ·exact fF (beq_eq_false_iff_ne.mpr h3) (gY O rfl (aC (aC (aC (aC ⟨rfl,_,.cons (.f rfl) (.cons (.f rfl) (.cons (.f rfl) (.cons (.f rfl) .nil))),tr,key [12,6,4,3] (if_neg h3) rfl (by decide)⟩)))))
 intro sl RV Yb Xl;have My:rowsOf xv P v ln=(ar P).flatMap λp=>(ar (ln p)).map λk=>(-(v p)*sl.getD k 0,(p:Int)):=by unfold rowsOf;rw[RV];rfl
 clear RV;generalize rowsOf xv P v ln=rows at*
 have Mz:((ar P).flatMap λp=>(ar (ln p)).map λk=>FV.tuple [.int (-(v p)*sl.getD k 0),.int (p:Int)])=rows.map pairF:=by rw[My];rw[abQ];refine congrArg (λf=>ah3 f _) (funext λp=>?_);rw[dT];rfl
 have Cg:((ar P).flatMap λp=>ar (ln p)).length≤1000:=by have:=congrArg aab Mz;rw[ag,aaT]at this;rw[aaT];simp only[ag]at this;rw[this];exact ae h6 (by decide)
 refine ah (aJ O (dK O (ai O (f:= .builtin "sorted") rfl tr rfl rfl (bY O' [("votes",V.L+1),("shares",V.L+3),("lists",V.L+2)] (by rfl) (dM O uc (ak O 1 rfl ⟨_,c7,tO,⟨.m8 0 P,_,[("lists",.list (bT P λp=>(ln p:Int))),("shares",.list (sl.map .int)),("votes",.list (bT P v))],ck uc,.n _,.cons 2 rfl rfl rfl (λaa=>rfl) (.f _) (.cons 4 rfl rfl rfl (λaa=>rfl) (.n _) (.cons 1 rfl rfl rfl (λaa=>rfl) (.f _) .nil)),λV2 OK=>oq OK.toOk (ar P) _ (λp=>ar (ln p)) (λp k=> .f (.int (k:Int))) (λp k=> .tuple [.int (-(v p)*sl.getD k 0),.int (p:Int)]) _ Cg tr tr tr tr tr ?_ (λaa=>rfl) (λp hp H G e la=>?_) (λp hp k hk H G la=>?_)⟩⟩))))))
 ·rw[Mz];refine yU O h2 h6 bU λrs hp hs=>af O 3 rfl ⟨_,rfl,_,_,.n _,by rw[ag];rw[ag];rw[hp.length_eq];exact ae h6 (by decide),yV rs,tr,?_⟩;rw[i7];refine bS (abh ..) ?_;have Mv:(rs.take n0).length≤6:=by rw[oD];rw[hp.length_eq];exact ae (tp _ _) h6
  have hQ:=λa st=>hQ a st rs hp hs;generalize rs.take n0=rt at*
  refine ah (aF (bY O' [("rows",V.L+4)] (by rfl) (dM O uc (ak O 1 rfl ⟨_,c7,tO,.m8 0 P,_,[("rows",.list (rt.map pairF))],ck uc,.n _,.cons 5 rfl rfl rfl (λaa=>rfl) (.n _) .nil,λV3 K5=>run_map K5.toOk (ar P) _ (λp=> .int (EB rt p)) _ (by rw[cf];exact ae SG (by decide)) tr tr (hQ _ _ (.n _)) λp hp H G la=>?_⟩))))
  have Ms:=K5.v H G;have OV:=Ms.toOk;refine ai OV (f:= .builtin "len") rfl tr rfl rfl (bY Ms [("party",V3.L+1)] (by rfl) (ak OV 0 rfl ⟨_,_,[("party",.int (p:Int))],cG _ _,.f _,.cons 1 rfl rfl rfl (λaa=>rfl) (.f _) .nil,λV4 Wl=>dP Wl.toOk rt _ (λr=>decide (r.2=(p:Int))) (λaa=> .any) _ (ae Mv (by decide)) tr tr ?_ (λr hr H4 G4 la4=>?_) λr hr aa H4 G4 la4=>Ou (af (Wl.v H4 G4).toOk 1 rfl ⟨rfl,rfl⟩)⟩))
  ·exact ir eF (ag ..) (ae (ml _ _) (ae Mv (by decide))) ⟨rfl,rfl⟩
  ·have OW:=(Wl.v H4 G4).toOk;exact aE (aY (af OW 1 rfl (aC (item_tuple (k:=1) (.f _) (by rfl) (bo rfl) (ak OW 0 rfl (eX ⟨_,rfl,rfl,rfl⟩))))))
 ·have hp:=a9.mp hp;have OV:=(OK.v H G).toOk;have lF:ln p≤1000000:=ae (oB p hp) (by decide);exact ai OV (f:= .type "range") rfl tr rfl rfl (aY (ak OV 0 rfl (af OV 3 rfl (br (eR hp) tF (bW OV ⟨rfl,_,yW OV lF,λaa=>trivial⟩)))))
 ·have hp:=a9.mp hp;have hk4:k<4:=a0 (a9.mp hk) (ae (oB p hp) (by decide));have OV:=(OK.v H G).toOk;have Ov:=hv p hp;exact e7 OV rfl (au (mK (aY (ak OV 2 rfl (af OV 3 rfl (br (eR hp) tF (mJ (aY (ak OV 1 rfl (af OV 4 rfl (br (lJ (Yb▸hk4)) (by rw[Yb];decide) (d7 (cP (by lia)) (af OV 3 rfl ⟨rfl,_,.cons (.f rfl) (.cons (.f rfl) .nil),rfl,rfl⟩)))))))))))))
end
theorem c8.perm{g:Gx}{ro:List (a7×FV)}{H H' :List (dq×Obj)}{X:List de}{s:a8}(R:c8 g ro H X s)(p:H.Perm H'):c8 g ro H' X s where
 ok:=R.ok
 ro:=λq hq=>VR.mono (λaa aa aa e=>e) (λa h=>⟨h.1,λz=>h.2 ((p.map (·.1)).mem_iff.mpr z)⟩) (R.ro q hq)
 cl:=λq hq=>⟨(R.cl q hq).1,(R.cl q hq).2.1,λz=>(R.cl q hq).2.2 ((p.map (·.1)).mem_iff.mpr z)⟩
 aV:=λq hq=>R.aV q (p.mem_iff.mpr hq)
 nd:=(p.map (·.1)).nodup_iff.mp R.nd
 gens:=R.gens
 bare:=R.bare
 os:=R.os
theorem Fin'.perm{g:Gx}{H H' :List (dq×Obj)}{X X' :List de}{s s' :a8}(F:Fin' g H X s X' s')(p:H.Perm H'):Fin' g H' X s X' s' where
 keep:=λb o h1 h2 e=>F.keep b o h1 (λz=>h2 ((p.map (·.1)).mem_iff.mp z)) e
 tab:=F.tab
 os:=F.os
 len:=F.len
 bare:=F.bare
 gens:=F.gens
section
variable{prog:d5}{w:fA}{A:ka}{E:a7->a8->Prop}{s:a8}
theorem IL (hT:s.TypeIs (.ref r) "set")(h:Q false s):dE (dC prog w) A (aaf (.ref r)) Q E s:=by
 unfold aaf;refine ab (aa9 hT F.slot_set_len.lookup ?_);generalize aV:("set.__len__" :String)=id0
 wp_delta
 rw[show splitId id0=some ("set","__len__")from by subst aV;decide+kernel];subst aV;refine ab (ub (T:="set") (b:=true) hT (by rw[aeA];kernel_rfl) ?_);exact ach (λJz=>absurd Jz (by decide)) (λaa=>ach (λaa=>ab (afZ hT (ax h))) (λJz=>absurd (by decide+kernel) Jz))
end
inductive Wm(prog:d5)(w:fA)(K:abE)(tt:List dq)(tgt:Expr)(m:Nat)(x:a7)(s:a8)(I:dq)(s2:a8):Prop
 |mk (H:List (dq×Obj)) (X:List de) (ro:List (a7×FV)) (r:List Nat) (hr:r.Perm (aB m)) (C:DQ tt s s2 H X) (jc: ∀P:dq->Prop,VR s.heap P (.aW (aq w) m) x-> ∀q∈ro,VR s2.heap P q.2 q.1) (L: ∀A',cM 2 A' ->gf ⟨prog,w,K,tt,[],s.gens,s.os⟩ A' tgt I (r.map λ(i:Nat)=> .int (i:Int)) ro H X)
noncomputable abbrev RX:Expr:= .Name (fe "x") ⟨0,0,0,0⟩
theorem EC(m:Nat):(aB m).length≤6:=ae (ml _ _) (by decide)
theorem ED(m:Nat):((aB m).map λ(i:Nat)=>(i:Int)).Pairwise (· ≤ ·):=by exact eV (BM ..) ((wi _ (hZ (n:=6))).imp λh=>mN.mpr (ec h))
theorem EE(hI:afI vs ns)(hl:vs.length≤6)
  (h: ∀h' (out:Array a7) AG e,afI out.toList AG->AG.Perm ns->AG.Pairwise (· ≤ ·)->(∀b o,s.heap.get? b=some o->h'.get? b=some o)->h'.get? s.heap.objs.size=some (gh out.toList e)->W (.done (.ret (.ref s.heap.objs.size))) {s with heap:=h' }):
  dE (dC prog w) A (afG vs>>=λl=>NA [l] (call (.builtin "list.sort") [l] [])>>=λaa=>ret l) W E s:=by
 have DU:(s.heap.push (sT "list" vs.toArray 0)).get? s.heap.objs.size=some (sT "list" vs.toArray 0):=bc _ rfl;refine ab (abe (ab (eJ (oe acN ⟨_,DU,rfl⟩ acf (list_sort_tree DU hI (bj hl (by decide:6<64)) λout AG a1 a2 a3=>⟨_,rfl,?_⟩) (aeF _)))) (ae hl (by rw[mB];decide)));obtain⟨e,he⟩:=sortedHeap_at (vs:=vs) (out:=out) DU;refine ax (h _ out AG e a1 a2 a3 (λb o g=>?_) he);have cy:=d4 g;exact(sortedHeap_old (du cy) (aff (fg cy) (aa1 _ _).symm)).trans (aw _ g)
section
variable{c:Cx}{st:St}
theorem uf (O:bQ c n)(hn:4≤n)(h:Q (.n (.list ((aB m).map λ(i:Nat)=> .int (i:Int)))) st):aZ c (.builtin "sorted") [.f (.aW (aq c.w) m)] [] [] st Q:=jn λT x s S=>nn λhN=>by
 have G0:=S.good (A:=c.A.in1.in1) (n' :=2) O O.toOk.hh (cb c.A.depth 3) (by rw[aaz];rw[aaz];exact eQ (by decide:2≤39) c.A.units) (ec hn);obtain⟨m',as,P,N,B⟩:=S;have B1:=B.KA (rR G0 (o:=gh [] 0) rfl);have O2:=O.v [(s.heap.objs.size,gh [] 0)] (s.gens++ #[]);have G1:=aX.good (T:=(x,.f (.aW (aq c.w) m))::T) (st:=st) (A:=c.A.in1.in1) (n' :=2) O2 ⟨m',as,P,N,B1⟩ O.toOk.hh (cb c.A.depth 3) (by rw[aaz];rw[aaz];exact eQ (by decide:2≤39) c.A.units) (ec hn);have Ju:VR (s.heap.push (gh [] 0)) P (.aW (aq c.w) m) x:=B1.bw _ (.head _);have WW:=Ju;obtain⟨a,o0,e,hp,gx,r0⟩:VR s.heap P (.aW (aq c.w) m) x:=B.bw _ (.head _);have hT:s.TypeIs (.ref a) "set" :=by obtain⟨_,_,_,_,_,e,_⟩:=r0;exact⟨_,gx,by rw[e];rfl⟩
 rw[e]at Ju hN;refine hN (It aeP ad5 ad6 (af0 _) ?_);unfold Builtin.«sorted»;refine ab (m:=afN "sorted" 1 1 _) (ax (YC λW hW=>?_));refine nV (Wm c.prog c.w c.K c.tt RX m (.ref a) {s with heap:=s.heap.push (gh [] 0)}) hT (room:=false) (.inr rfl) (by decide) (by decide) (λW V k=>hO (fL (n:=2) (m:=m) (tgt:=RX) aN c.A.in1.in1 _ _ _ G1 (VR.mono (λaa aa aa e=>e) (λa h=>(B1.pf a h).2.2) Ju) λI H X ro s2 l hl C jc xY aa=>?_) (λaa aa z=>z) aM)
  (λI s2 j W V q=>?_) (λI s2 j=>?_) λI s2 h3 cc j sb g3=>?_
 ·obtain⟨r,e,hr⟩:=hl;exact k I s2 ⟨H,X,ro,r,hr,C,jc,e▸xY⟩
 ·obtain⟨H,X,ro,r,hr,C,jc,L⟩:=j;obtain⟨o,g,t⟩:=hT;exact IL ⟨o,C.keep _ _ (aw _ g),t⟩ q
 ·obtain⟨H,X,ro,r,hr,C,jc,L⟩:=j;exact C.keep _ _ (bc _ rfl)
 ·obtain⟨H,X,ro,r,hr,C,jc,L⟩:=j;have B2:az (c.v (H++[(s.heap.objs.size,gh [] 0)]) (s.gens++X.toArray)) st ((x,.f (.aW (aq c.w) m))::T) s2 m' as P N:=by have z:=B1.KA C;rw[show(c.v [(s.heap.objs.size,gh [] 0)] (s.gens++ #[])).v H (s.gens++X.toArray)=c.v (H++[(s.heap.objs.size,gh [] 0)]) (s.gens++X.toArray) by unfold Cx.v;rw[hJ];rfl]at z;exact z
  have R0:=(az.Cy (g:=⟨c.prog,c.w,c.K,c.tt,[],s.gens,s.os⟩) (ro:=ro) B2 O ⟨rfl,rfl,(λaa h=>nomatch h),B.os⟩ C.bare (λp hp=>jc P Ju p hp)).perm (acv _ _);have T1:=c9.upd (tk:=s2.toks) R0 sb g3;have hlen:r.length≤6:=hr.length_eq▸EC m;refine rU (A:=c.A.in1) aN (r.map λ(i:Nat)=>FV.int (i:Int)) [] cc ro H X _ (λx hx=>by obtain⟨_,_,e⟩:=bb.mp hx;exact e▸rfl) (L c.A.in1.in1 (((nW O (n' :=4) hn).in1 (n' :=3) (by decide)).in1 (by decide))) (c9.mS R0 T1 (Yv.same T1)) (by rw[ag];rw[List.length_nil];rw[Mo];exact ae hlen (by decide)) λvs X3 s3 c3 F3 e3 EU=>⟨vs,c3,rfl,e3,hW _ _ ?_⟩;have FF:Fin' ⟨c.prog,c.w,c.K,c.tt,[],s.gens,s.os⟩ (H++[(s.heap.objs.size,gh [] 0)]) X s2 X3 s3:=(Fin'.trans T1 F3).perm (acv _ _).symm;have B4:az c st T s3 m' as P N:=(B2.G5 rfl B.gens R0.gens FF).less λp hp=> .tail _ hp;have hI:afI vs (r.map λ(i:Nat)=>(i:Int)):=by have h0:=Ao (N:=λaa=>False) (as:=[]) EU;rw[dT]at h0;exact intsAre_of (h:=s3.heap) (P:=λaa=>False) (N:=λaa=>False) (as:=[]) (by rw[dT];exact h0)
  refine EE hI (by rw[EU.length];rw[ag];exact hlen) λh' out AG e1 a1 a2 a3 k g=>⟨_,rfl,.n (.list ((aB m).map λ(i:Nat)=> .int (i:Int))),st,B4.jk (s' :={s3 with heap:=h' }) ⟨gB.of k,⟨[],by simp,λaa h=>nomatch h⟩,rfl⟩ ?_,h⟩;have Dr:AG=(aB m).map λ(i:Nat)=>(i:Int):=aa2 (le:=(· ≤ ·)) (λa b aa aa h1 h2=>aea h1 h2) a3 (ED m) (a2.trans (hr.map _));refine⟨_,out.toList,e1,rfl,.inr ⟨dv (cq _),B4.dF O.toOk⟩,g,?_⟩;have z:=kh (h:=h') (P:=λa=>N a∨fC c.tt s3.heap a) a1;rw[Dr,dT]at z;exact z
end
section
variable{c:Cx}{st:St}
theorem wZ {p:Nat}{Q:AV->St->Prop}(hp:p<4)(h:Q (.f (.int ((2:Int)^p))) st):Op c [.f (.int (p:Int)),.f (.int 2)] (λvs=>match vs with| [y,x]=>FX .Pow x y|_=> .raise .none) st Q:=
 ji h λt u s R q=>by
  obtain rfl|rfl|rfl|rfl:p=0∨p=1∨p=2∨p=3:=by lia
  ·exact AutoIntOps.pow_0 (by decide) (by decide) (q _)
  ·exact adB (by decide) (by decide) (by decide) (by decide) (by decide+kernel) (q _)
  ·exact adB (by decide) (by decide) (by decide) (by decide) (by decide+kernel) (q _)
  ·exact adB (by decide) (by decide) (by decide) (by decide) (by decide+kernel) (q _)
end
theorem IM{a:AV}{x:FV}(h:a.settle= .f x):a= .f x∨a= .n x:=by
 cases a with
 |f y=>exact .inl h
 |n y=>injection h with h;exact .inr (by rw[h];rfl)
 |own i=>cases h
theorem kK(h:a.settle= .f x):Snap own a x:=by
 rcases IM h with rfl|rfl
 ·exact .f _
 ·exact .n _
theorem oE{own:List AO}: ∀{l:List AV} {xs:List FV},l.map AV.settle=xs.map AV.f->fD own l xs
 | [],[],_=> .nil
 |a::l,x::xs,h=>by rw[eA,eA]at h;injection h with h1 h2;exact .cons (kK h1) (oE h2)
theorem BF(h:own.map AO.settle=PO k vs):E3 λa1 a2 l=>own=[.inst 699 1,.attrs [("_voters",.own 2),("cand_names",a1),("candidates",a2)] 3,.list l]/\Snap own (.own 0) (PT k vs):=by
 have hl:own.length=3:=by simpa using congrArg aab h
 obtain⟨o0,o1,o2,rfl⟩:=Pz hl;injection h with h0 h;injection h with h1 h;injection h with h2 _;obtain⟨C,j,rfl⟩:E2 λC j=>o0= .inst C j:=by cases o0<;>first|exact⟨_,_,rfl⟩|cases h0
 injection h0 with h0 DK;subst h0;subst DK;obtain⟨l,n,rfl⟩:E2 λl n=>o1= .attrs l n:=by cases o1<;>first|exact⟨_,_,rfl⟩|cases h1
 injection h1 with h1 hn;subst hn;obtain⟨r,rfl⟩: ∃r,o2= .list r:=by cases o2<;>first|exact⟨_,rfl⟩|cases h2
 injection h2 with h2;have zG:l.length=3:=by simpa using congrArg aab h1
 obtain⟨⟨x1,b1⟩,⟨x2,b2⟩,⟨x3,b3⟩,rfl⟩:=Pz zG;injection h1 with e1 h1;injection h1 with e2 h1;injection h1 with e3 _;injection e1 with f1 g1;injection e2 with f2 g2;injection e3 with f3 g3;simp only at f1 f2 f3 g1 g2 g3;subst f1;subst f2;subst f3;have:b1= .own 2:=by cases b1<;>first|exact g1|cases g1
 subst this;exact⟨b2,b3,r,rfl,.inst rfl rfl (.eY (.list rfl (oE h2)) (.eY (kK g2) (.eY (kK g3) .Ai)))⟩
noncomputable def kM(b:List Nat):Nat:=fS 0 b
noncomputable def oF(split:Int)(v:Nat->Int)(p:Nat):Bool:=decide (1<v p)&&((split.fdiv ((2:Int)^p)).fmod 2 !=0)
noncomputable def aA(split:Int)(v:Nat->Int)(fB:Nat->List Nat)(part:List Nat):List (Int×Nat):=part.flatMap λp=>if oF split v p=true then [(1,kM (fB p)),(v p-1,kM (fB p))]else [(v p,kM (fB p))]
noncomputable def IP(xv:Int):dq:=if xv=0 then 463 else if xv=1 then 497 else if xv=2 then 505 else 471
theorem sY{α:Type}(l:List α):cK l none none=l:=ti
theorem mZ: ∀part:List Nat,(aA split v fB part).length≤2*part.length
 | []=>kS _
 |p::part=>by
  have:=mZ (split:=split) (v:=v) (fB:=fB) part;unfold aA at this⊢;rw[tq];rw[dy];rw[th];rw[adJ];rw[wx];refine SF this ?_
  by_cases h:oF split v p=true
  ·rw[if_pos h];exact cq 2
  ·rw[if_neg h];exact me 1
theorem yX:aA split v fB (part++[p])=aA split v fB part++if oF split v p=true then [(1,kM (fB p)),(v p-1,kM (fB p))]else [(v p,kM (fB p))]:=by unfold aA;rw[ack];rw[tq];rw[agj];rw[fw];rfl
theorem w4: ∀q:Nat,q<3->((2:Int)^q)≠0/\((2:Int)^q).natAbs.log2<9000:=by decide+kernel
section
variable{prog:d5}{w:fA}
noncomputable abbrev EX (P:Nat)(fB:Nat->List Nat):List FV:=(ar P).map λp=> .list ((fB p).map λ(i:Nat)=> .int (i:Int))
noncomputable def qc(xv:Int)(P:Nat)(v:Nat->Int)(fB:Nat->List Nat)(part:List Nat)(n:Nat)(split:Int)(r:List (Str×AV)):List (Str×AV):=("rule",.f (.int xv))::("votes",.f (.list (bT P v)))::("blocks",.f (.list (EX P fB)))::("part",.f (.list (fz part)))::("seats",.f (.int (n:Int)))::("split",.f (.int split))::("profile",.own 0)::r
noncomputable def elD(w:fA)(xv:Int)(P:Nat)(v:Nat->Int)(fB:Nat->List Nat)(part:List Nat)(n k:Nat)(split:Int):Lp (List Nat) (List AO):=⟨λaa aa=>qc xv P v fB part n split [],λaa own=>own,λp own=>own.map AO.settle=PO k (fN (aq w) (aA split v fB p))⟩
noncomputable abbrev BG:List aa4:=mw ((bodyOf jf).getD 1 default)
theorem IQ{k:Nat}{led:Bool}{vt:List (Int×Nat)}{a:Int}{m:Nat}{own:List AO}(h:own.map AO.settle=PO k (fN led vt++[VT led a m])):own.map AO.settle=PO k (fN led (vt++[(a,m)])):=h.trans (by rewrite [fN];rewrite [fN];rw[ew];rfl)
theorem w5{xv:Int}{P k n m:Nat}{v:Nat->Int}{fB:Nat->List Nat}{part:List Nat}{split:Int}(hP:P≤3)(hv: ∀p<P,1≤v p/\v p≤1000)(Bp:1≤k)(hk:k≤6)
  (tQ:((ar P).map λp=>(((fB p).length:Nat):Int)).sum=(k:Int))(hb: ∀p<P,(∀x∈fB p,x<k)/\(fB p).Nodup)(yY: ∀p∈part,p<P)(wz:part.length≤3)
  (hC: ∃n' ≤17,Spec prog w (KK w.params) TT n' (.ref (IP xv)) [PT k (fN (aq w) (aA split v fB part)),.int (n:Int)] [] (· = .list [.aW (aq w) m])):
  Spec prog w (KK w.params) TT 20 (.ref 755) [.int xv,.list (bT P v),.list (EX P fB),.list (fz part),.int (n:Int),.int split] [] (· = .list [.list ((aB m).map λ(i:Nat)=> .int (i:Int))]):=by
 have IS:(ar P).length≤3:=by rw[cf];exact hP
 have tF:=ae IS (show 3≤1000000 by decide);have Wn: ∀p<P,(fB p).length≤6:=λp hp=>by have h1:=abM (hb p hp).2 (l₂:=ar k) λx hx=>a9.mpr ((hb p hp).1 x hx);rw[cf]at h1;exact ae h1 hk
 refine aR (Vd w.params) [("rule",.int xv),("votes",.list (bT P v)),("blocks",.list (EX P fB)),("part",.list (fz part)),("seats",.int (n:Int)),("split",.int split)] rfl (λaa aa aa=>rfl) λV O' =>cU λQ hQ=>?_;have O:=O'.toOk;refine ah (aJ O (ai O (f:= .ref 699) rfl tr rfl rfl (ai O (f:= .builtin "sum") rfl tr rfl rfl (bY O' [] (by rfl) (af O 2 rfl ⟨_,_,[],cG _ _,.f _,.nil,λV2 OK=>run_map OK.toOk (ar P) _ (λp=> .int (((fB p).length:Nat):Int)) [] (ae IS (by decide)) rfl tr ?_ λp hp H G la=>ai (OK.v H G).toOk (f:= .builtin "len") rfl tr rfl rfl (af (OK.v H G).toOk 0 rfl (ir c7 (ag ..) (ae (Wn p (a9.mp hp)) (by decide)) ⟨rfl,rfl⟩))⟩)))))
 rw[show((ar P).map λp=>FV.int (((fB p).length:Nat):Int))=((ar P).map λp=>(((fB p).length:Nat):Int)).map .int by rw[dT];rfl];refine gF O (dz _) (λi hi=>?_) (by rw[ag];exact ae IS (by decide)) (ue tQ (yh O' rfl (by decide) rfl Bp (ae hk (by decide)) λbK jS=>⟨tr,?_⟩))
 ·obtain⟨p,hp,e⟩:=bb.mp hi;refine bS (e ..) ?_;exact⟨dA _,mN.mpr (ae (Wn p (a9.mp hp)) (by decide))⟩
 refine ah (qB O (af O 3 rfl ⟨_,part,elD w xv P v fB part n k split,gP O c7,λaa aa=>c7,bK,jS,rfl,λaa aa=>rfl,λpre p r e bK R H G jS hR=>?_,λbK jS=>?_⟩))
 ·have fu:=O'.v H G;have OO:=fu.toOk;have fG:=yY p (mem_mid e);have Wo:=a0 fG hP;have Pq:=hb p fG;have Yc:=ae (Wn p fG) (show 6≤1000000 by decide);have Ov:=hv p fG;have cy: ∀x∈fB p,x<6:=λx hx=>a0 (Pq.1 x hx) hk;have jN: ∀x∈aB (kM (fB p)),x<k:=λx hx=>Pq.1 x ((lD cy Pq.2).mem_iff.mp hx);have IT:Spec prog w (KK w.params) TT 5 (.ref 30) [.list ((fB p).map λ(i:Nat)=> .int (i:Int))] [("num_cand",.none)] (· = .aW (aq w) (kM (fB p))):=DZ cy Pq.2 (.inl rfl) λk' e=>nomatch e;have Tn:=yX (split:=split) (v:=v) (fB:=fB) (part:=pre) (p:=p);have tO:(aA split v fB pre).length≤6:=ae (mZ pre) (rh 2 (ae (by rw[e];rw[dy];exact cb _ _) wz));have jS:bK.map AO.settle=PO k (fN (aq w) (aA split v fB pre)):=jS;have hR: ∀bK tl,bK.map AO.settle=PO k (fN (aq w) (aA split v fB (pre++[p])))->R .next ⟨qc xv P v fB part n split tl,bK⟩:=λbK tl h=>hR bK tl h;show bM _ _ ⟨qc xv P v fB part n split [("party",.f (.int (p:Nat)))],bK⟩ R;generalize aA split v fB pre=vt at*
  have last: ∀(first:Int) (To:List (Int×Nat)) (EF:List AO),1≤v p-first->To.length≤7->EF.map AO.settle=PO k (fN (aq w) To)->To++[(v p-first,kM (fB p))]=aA split v fB (pre++[p])->
    bM ((b7 TT jf 755 (KK w.params) prog w V).v H G) (BG.drop 2) ⟨qc xv P v fB part n split [("party",.f (.int (p:Nat))),("first",.f (.int first))],EF⟩ R:=by
   intro first To EF hf Wq Yd he;obtain⟨a1,a2,l,ho,qz⟩:=BF Yd;subst ho;refine ah (dR OO (dW (he:=b9 rfl rfl (by decide) tr λaa=>rfl) OO rfl rfl (af OO 6 rfl ⟨699,626,.own rfl rfl tr,tr,ai OO (f:= .ref 736) rfl tr rfl rfl (dK OO (aY (af OO 2 rfl (af OO 7 rfl (br (eR fG) tF ⟨_,_,fU (fB p),by rw[ag];exact Yc,fO _,?_⟩)))))⟩)));rw[sY];exact au (aY (af OO 1 rfl (af OO 7 rfl (br (eR fG) tF (af OO 8 rfl (oO (aH fu (u5 hf IT) (by decide) (.cons (.n _) .nil) (.cons (.f _) .nil) rfl (CK fu rfl rfl (by decide) Yd rfl (ae hk (by decide)) hf jN (by rw[ag];exact ae Wq (by decide)) λOw Wr=>aj (hR Ow [_,_] (he▸IQ Wr))))))))))
  have key:bM ((b7 TT jf 755 (KK w.params) prog w V).v H G) (BG.drop 1) ⟨qc xv P v fB part n split [("party",.f (.int (p:Nat))),("first",.f (.int (if oF split v p=true then 1 else 0)))],bK⟩ R:=by
   refine ah (aK (bF (af OO 8 rfl ⟨_,.i _,?_⟩)));cases hf:oF split v p with
   |false=>rw[hf]at Tn;exact bB (aj (last 0 vt bK (by rw[acB];exact Ov.1) (ae tO (by decide)) jS (by rw[Tn];rw[acB];rfl)))
   |true=>rw[hf,if_pos rfl]at Tn;have h1:1<v p:=of_decide_eq_true (wb.mp hf).1;refine nn λhN=>?_;obtain⟨a1,a2,l,ho,qz⟩:=BF jS;refine hN (cB ?_);subst ho;refine ah (dR OO (dW (he:=b9 rfl rfl (by decide) tr λaa=>rfl) OO rfl rfl (af OO 6 rfl ⟨699,626,.own rfl rfl tr,tr,ai OO (f:= .ref 736) rfl tr rfl rfl (dK OO (aY (af OO 2 rfl (af OO 7 rfl (br (eR fG) tF ⟨_,_,fU (fB p),by rw[ag];exact Yc,fO _,?_⟩)))))⟩)));rw[sY];exact af OO 8 rfl (aH fu (u5 (wt:=1) (by decide) IT) (by decide) (.cons (.n _) .nil) (.cons (.f _) .nil) rfl (CK fu rfl rfl (by decide) jS rfl (ae hk (by decide)) (by decide) jN (by rw[ag];exact ae tO (by decide)) λOw Wr=>aj (last 1 (vt++[(1,kM (fB p))]) Ow (Int.le_sub_right_of_add_le h1) (by rw[dy];exact FC tO) (IQ Wr) (by rw[Tn];rw[hJ];rfl))))
  have e0: ∀(b:Bool),oF split v p=b->bM ((b7 TT jf 755 (KK w.params) prog w V).v H G) (BG.drop 1) ⟨qc xv P v fB part n split [("party",.f (.int (p:Nat))),("first",.f (.int (if b=true then 1 else 0)))],bK⟩ R:=λb hb=>hb▸key;refine ah (aJ OO (j8 (dD (aE (aY (af OO 1 rfl (af OO 7 rfl (br (eR fG) tF (aC (nq ⟨_,rfl,?_⟩))))))))));cases hd:decide (1<v p)with
  |false=>exact bB (bB (aC ⟨tr,e0 false (by unfold oF;rw[hd];rfl)⟩))
  |true=>
   refine cB (dD (bF (au (au (af OO 5 rfl (au (aC (af OO 7 rfl (wZ (oo Wo (by decide)) (oR (w4 p Wo).1 (w4 p Wo).2 (aC (qV (b:=2) (by decide) ⟨_,.i _,?_⟩))))))))))));cases hm:((split.fdiv ((2:Int)^p)).fmod 2 !=0)with
   |false=>exact bB (bB (aC ⟨tr,e0 false (by unfold oF;rw[hd];rw[hm];rfl)⟩))
   |true=>exact cB (j7 (cB (aC ⟨tr,e0 true (by unfold oF;rw[hd];rw[hm];rfl)⟩)))
 ·show Fp _ _ _ _ ⟨qc xv P v fB part n split [],bK⟩;obtain⟨_,_,_,_,qz⟩:=BF jS;obtain⟨n',Du,hC⟩:=hC;have oK:n' +1≤19:=FC (ae Du (by decide));have tail: ∀EF:List AO,bM (b7 TT jf 755 (KK w.params) prog w V) ((bodyOf jf).drop 3) ⟨qc xv P v fB part n split [("told",.n (.list [.aW (aq w) m]))],EF⟩ Q:=λEF=>ah (aF (bY O' [] (by rfl) (af O 7 rfl ⟨_,_,[],src_list _,.n _,.nil,λV2 OK=>run_map OK.toOk [FV.aW (aq w) m] AV.f (λaa=> .list ((aB m).map λ(i:Nat)=> .int (i:Int))) [] (bo rfl) rfl tr (hQ ⟨_,.n _,rfl⟩) λx hx H G la=>by rw[fx.mp hx];exact ai (OK.v H G).toOk (f:= .builtin "sorted") rfl tr rfl rfl (af (OK.v H G).toOk 0 rfl (uf (OK.v H G) (by decide) ⟨rfl,rfl⟩))⟩)))
  unfold IP at hC;refine ah (aK (aE (af O 0 rfl (aC (eX ⟨_,rfl,?_⟩)))))
  by_cases r0:xv=0
  ·rw[if_pos r0]at hC;exact iV (beq_iff_eq.mpr r0) (ah (aJ O (ai O (f:= .ref 463) rfl tr rfl rfl (af O 6 rfl (af O 4 rfl (aH O' hC oK (.cons qz (.cons (.f _) .nil)) .nil rfl ⟨tr,aj (tail _)⟩))))))
  rw[if_neg r0]at hC;refine fF (beq_eq_false_iff_ne.mpr r0) (ah (aK (aE (af O 0 rfl (aC (eX ⟨_,rfl,?_⟩))))))
  by_cases r1:xv=1
  ·rw[if_pos r1]at hC;exact iV (beq_iff_eq.mpr r1) (ah (aJ O (ai O (f:= .ref 497) rfl tr rfl rfl (af O 6 rfl (af O 4 rfl (aH O' hC oK (.cons qz (.cons (.f _) .nil)) .nil rfl ⟨tr,aj (aj (tail _))⟩))))))
  rw[if_neg r1]at hC;refine fF (beq_eq_false_iff_ne.mpr r1) (ah (aK (aE (af O 0 rfl (aC (eX ⟨_,rfl,?_⟩))))))
  by_cases r2:xv=2
  ·rw[if_pos r2]at hC;exact iV (beq_iff_eq.mpr r2) (ah (aJ O (ai O (f:= .ref 505) rfl tr rfl rfl (af O 6 rfl (af O 4 rfl (aH O' hC oK (.cons qz (.cons (.f _) .nil)) .nil rfl ⟨tr,aj (aj (aj (tail _)))⟩))))))
  rw[if_neg r2]at hC;exact fF (beq_eq_false_iff_ne.mpr r2) (ah (aJ O (ai O (f:= .ref 471) rfl tr rfl rfl (af O 6 rfl (af O 4 rfl (aH O' hC oK (.cons qz (.cons (.f _) .nil)) .nil rfl ⟨tr,aj (aj (aj (tail _)))⟩))))))
end
section
variable{c:Cx}{st:St}
theorem IU (O:Ok c)(h:Q (.f (.int (if b<a then b else a))) st):aZ c (.builtin "min") [.f (.int a),.f (.int b)] [] [] st Q:=
 tK λT x y s S=>by
  obtain⟨m,as,P,N,B⟩:=S;have hy:=B.bw _ (.head _);have hx:=B.bw _ (.tail _ (.head _));obtain⟨t,rfl⟩:=hx;obtain⟨u,rfl⟩:=hy;refine min_two_ints O.hh λh' tk hk=>?_;have ext:Ext c.tt s {s with heap:=h',toks:=tk}:=⟨gB.of λb o e=>hk b o e,⟨[],by simp,λaa h=>nomatch h⟩,rfl⟩;refine⟨_,st,⟨m,as,P,N,((B.grow ext.keep ext.gens ext.os).less λp hp=> .tail _ (.tail _ hp)).push ?_⟩,h⟩
  by_cases hb:b<a
  ·rw[if_pos hb];rw[if_pos hb];exact⟨_,rfl⟩
  ·rw[if_neg hb];rw[if_neg hb];exact⟨_,rfl⟩
end
theorem yZ{α:Type}(l:List α)(n:Nat):cK l (some (n:Int)) none=l.drop n:=by
 unfold cK;show(l.drop (aey l.length (n:Int))).take (l.length-aey l.length (n:Int))=l.drop n;rw[nI];rcases adW n l.length with h|h
 ·rw[so h];refine bS (Qr ..) ?_;rw[ti];rfl
 ·rw[aaJ h];rw[abm h];rw[agi];exact List.take_nil
theorem sZ{l:List Int}(a k:Nat)(h:a+k≤l.length):cK (l.map FV.int) (some (a:Int)) (some ((a:Int)+(k:Int)))=(ar k).map λi=> .int (l.getD (a+i) 0):=by
 unfold cK;show((l.map FV.int).drop (aey (l.map FV.int).length (a:Int))).take (aey (l.map FV.int).length ((a+k:Nat):Int)-aey (l.map FV.int).length (a:Int))=_;rw[nI];rw[nI];rw[ag];rw[so h];rw[so (Nat.le_of_add_right_le h)];rw[abi];apply w0
 ·rw[oD];rw[Qr];rw[ag];rw[ag];rw[cf];rw[so (abU (wx k a▸h))];rfl
 ·intro i h3 h4;rw[ag,cf]at h4;rw[List.getElem_take];rw[List.getElem_drop];rw[abR];rw[abR];rw[abc];rw[fb];rw[eC (a0 (xn h4 a) h)];rfl
theorem y9(a b:Nat):(a:Int).fmod (b:Int)=((a%b:Nat):Int):=by rw[aaq _ (dA _)];rfl
theorem za(a b:Nat):(a:Int).fdiv (b:Int)=((a/b:Nat):Int):=by rw[Ee _ (dA _)];rfl
theorem Lc(i:Int):(if i<0 then-i else i)=(i.natAbs:Int):=by
 by_cases h:i<0
 ·rw[if_pos h];rw[Int.ofNat_natAbs_of_nonpos (qr h)];rfl
 ·rw[if_neg h];rw[abT (uk.mp h)];rfl
theorem dQ: ∀l:List Int,cT (l.map λi=> .f (.int i)) (l.map .int):=by
 intro lz;induction lz with
 |nil=>exact .nil
 |cons _ l ih=>exact .cons (.f rfl) (ih)
theorem zb(P:Nat)(f:Nat->Int):bT P f=((ar P).map f).map .int:=by rw[dT];rfl
theorem C6(P:Nat)(f:Nat->Int):aQ own (.n (.list (bT P f))) (((ar P).map f).map λi=> .f (.int i)):=by rw[zb];exact dz _
noncomputable def dflt:List Int:=[0,1,3,18,9,4,0,1,1,5]
noncomputable def numsOf(sc:List Int):List Int:=sc.take 10++dflt.drop sc.length
noncomputable def Ox(sc:List Int)(i:Nat):Nat:=((numsOf sc).getD i 0).natAbs
noncomputable def cJ(sc:List Int):Nat:=Ox sc 0%4
noncomputable def bg(sc:List Int):Nat:=2+Ox sc 1%2
noncomputable def RY(sc:List Int)(p:Nat):Nat:=1+Ox sc (3+p)%40
noncomputable def cg(sc:List Int)(p:Nat):Nat:=1+Ox sc (6+p)%(5-bg sc)
noncomputable def aD(P:Nat)(l:Nat->Nat):Nat:=((ar P).map l).sum
noncomputable def iN(sc:List Int):Nat:=1+Ox sc 2%min 4 (aD (bg sc) (cg sc))
noncomputable def zc(sc:List Int):Nat:=Ox sc 0/4
noncomputable def vI(sc:List Int)(p:Nat):Int:=(RY sc p:Int)
theorem s9(sc:List Int):(numsOf sc).length=10:=by
 unfold numsOf;rw[dy];rw[oD];rw[Qr];show min 10 sc.length+(10-sc.length)=10;rcases adW 10 sc.length with h|h
 ·rw[so h];rw[Nat.sub_eq_zero_of_le h];rfl
 ·rw[aaJ h];rw[aeT h];rfl
theorem jO(sc:List Int):2≤bg sc/\bg sc≤3:=⟨cb ..,eQ (vi (abw _ (by decide))) 2⟩
theorem sum_ints(P:Nat)(l:Nat->Nat):((ar P).map λp=>((l p:Nat):Int)).sum=((aD P l:Nat):Int):=by
 unfold aD;generalize ar P=r;induction r with
 |nil=>rfl
 |cons a r ih=>simp[ih]
theorem Ld(a b:Nat):(if(a:Int)<(b:Int)then(a:Int)else(b:Int))=((min b a:Nat):Int):=by
 by_cases h:(a:Int)<(b:Int)
 ·rw[if_pos h];rw[aaJ (ec (Hk.mp h))];rfl
 ·rw[if_neg h];rw[so (mN.mp (uk.mp h))];rfl
theorem kO(sc:List Int)(hi:i<10):(numsOf sc)[i]?=some ((numsOf sc).getD i 0):=lJ (by rw[s9];exact hi)
theorem w6(sc:List Int):(numsOf sc).length≤1000000:=by rw[s9];decide
theorem mq(sc:List Int)(p:Nat):1≤cg sc p/\cg sc p≤3:=⟨cb ..,eQ (vi (a0 (abw _ (aao (bj (jO sc).2 (by decide)))) (Nat.sub_le_sub_left (jO sc).1 5))) 1⟩
theorem C7(sc:List Int):1≤aD (bg sc) (cg sc):=by unfold aD;obtain⟨k,hk⟩:=acS (ae (by decide:1≤2) (jO sc).1);rw[hk];rw[adF];rw[eA];rw[vy];exact ae (mq sc 0).1 (cb _ _)
section
variable{c:Cx}{st:St}
theorem iy (h:Q (.f (.int (i.natAbs:Nat))) st):aZ c (.builtin "abs") [.f (.int i)] [] [] st Q:=J0 (ue (Lc i) h)
theorem lK(hb:0<b)(h:Q (.f (.int ((a%b:Nat):Int))) st):Op c [.f (.int (b:Nat)),.f (.int (a:Nat))] (λvs=>match vs with| [y,x]=>FX .Mod x y|_=> .raise .none) st Q:=qV (ac4.mpr (pz hb)) (ue (y9 a b) h)
theorem lM(h:Q (.f (.int ((a+b:Nat):Int))) st):Op c [.f (.int (b:Nat)),.f (.int (a:Nat))] (λvs=>match vs with| [y,x]=>FX .Add x y|_=> .raise .none) st Q:=f6 h
end
section
variable{prog:d5}{w:fA}{V:Fx}
noncomputable def Oz (sc:List Int)(r:List (Str×AV)):List (Str×AV):=("script",.f (.list (sc.map .int)))::("numbers",.n (.list ((numsOf sc).map .int)))::r
noncomputable def RZ(sc:List Int)(r:List (Str×AV)):List (Str×AV):=Oz sc (("rule",.f (.int (cJ sc:Int)))::("method",.f (.str (iL (!decide (cJ sc=3)))))::("parties",.f (.int (bg sc:Int)))::r)
noncomputable def pI(sc:List Int)(r:List (Str×AV)):List (Str×AV):=RZ sc (("votes",.n (.list (bT (bg sc) (vI sc))))::("lists",.n (.list (bT (bg sc) λp=>(cg sc p:Int))))::("seats",.f (.int (iN sc:Int)))::("split",.f (.int (zc sc:Int)))::r)
theorem OA(zH:sc.length≤63)(O' :bQ (b7 TT bP 760 (KK w.params) prog w V) 22)(h:bM (b7 TT bP 760 (KK w.params) prog w V) ((bodyOf bP).drop 4) ⟨RZ sc [],[]⟩ Q):
  bM (b7 TT bP 760 (KK w.params) prog w V) (bodyOf bP) ⟨[("script",.f (.list (sc.map .int)))],[]⟩ Q:=by
 have O:=O'.toOk;have Ye:=ae zH (show 63≤1000000 by decide);refine ah (aJ O (au (dK O (af O 0 rfl (aC ⟨_,rfl,_,sc.map .int,c7,by rw[ag];exact Ye,dQ sc,?_⟩)))));rw[show cK (sc.map FV.int) none (some 10)=(sc.take 10).map .int from(i7 (sc.map FV.int) 10).trans (abh).symm];refine dK O (gY O rfl (aC (aC (aC (aC (aC (aC (aC (aC (aC (aC ⟨rfl,dflt.map .int,dQ dflt,ai O (f:= .builtin "len") rfl tr rfl rfl (af O 0 rfl (ir c7 (ag ..) Ye ⟨_,rfl,_,dflt.map .int,dz dflt,by decide,dQ dflt,?_⟩))⟩)))))))))));rw[yZ];refine bS (List.map_drop ..) ?_;refine Cv O (dz _) (dz _) (by rw[ag];rw[oD];exact ae (Dx 10 sc.length) (by decide)) (by rw[ag];rw[Qr];show 10-_≤1000;exact ec (Nat.sub_lt_of_lt (by decide))) (dQ _) (dQ _) ⟨tr,?_⟩;refine bS (ew ..) ?_;show bM _ _ ⟨Oz sc [],[]⟩ _;refine ah (aJ O (au (ai O (f:= .builtin "abs") rfl tr rfl rfl (aY (af O 1 rfl (aC (dX (j:=0) (kO sc (by decide)) (w6 sc) (iy (aC (lK (b:=4) (by decide) ⟨tr,?_⟩))))))))));have key: ∀b,decide (cJ sc=3)=b->bM (b7 TT bP 760 (KK w.params) prog w V) ((bodyOf bP).drop 3) ⟨Oz sc [("rule",.f (.int (cJ sc:Int))),("method",.f (.str (iL (!b))))],[]⟩ Q:=λb hb=>by exact bS (hb ..) (ah (aJ O (au (aC (au (ai O (f:= .builtin "abs") rfl tr rfl rfl (aY (af O 1 rfl (aC (dX (j:=1) (kO sc (by decide)) (w6 sc) (iy (aC (lK (b:=2) (by decide) (lM (a:=2) ⟨tr,h⟩))))))))))))))
 refine ah (aJ O (j8 (aE (af O 2 rfl (aC (eX ⟨_,rfl,?_⟩))))))
 by_cases h3:cJ sc=3
 ·exact iV (beq_iff_eq.mpr (congrArg _ h3)) (bz ⟨tr,key true (decide_eq_true h3)⟩)
 ·exact fF (beq_eq_false_iff_ne.mpr λz=>h3 (Int.ofNat_inj.mp z)) (bz ⟨tr,key false (decide_eq_false h3)⟩)
theorem R4(zH:sc.length≤63)(O' :bQ (b7 TT bP 760 (KK w.params) prog w V) 22)(h:bM (b7 TT bP 760 (KK w.params) prog w V) ((bodyOf bP).drop 8) ⟨pI sc [],[]⟩ Q):
  bM (b7 TT bP 760 (KK w.params) prog w V) (bodyOf bP) ⟨[("script",.f (.list (sc.map .int)))],[]⟩ Q:=by
 refine OA zH O' ?_;have O:=O'.toOk;have hP:=jO sc;have Yg:=s9 sc;have gl:=w6 sc;have IS:(ar (bg sc)).length≤1000:=by rw[cf];exact ae hP.2 (by decide)
 have Yh:((numsOf sc).map λi=>AV.f (FV.int i)).length≤1000000:=by rw[ag];exact gl
 refine ah (aJ O (bY O' [] (by rfl) (dK O (af O 1 rfl (aC ⟨_,rfl,au (aC (ak O 4 rfl (f6 ⟨_,rfl,_,(numsOf sc).map .int,dz _,Yh,dQ _,?_⟩)))⟩)))));rw[show cK ((numsOf sc).map FV.int) (some 3) (some (3+(bg sc:Int)))=_ from sZ 3 (bg sc) (by rw[Yg];exact ae (eQ hP.2 3) (by decide))];refine⟨_,_,[],cG _ _,.n _,.nil,λV2 OK=>run_map OK.toOk (ar (bg sc)) _ (λp=> .int (vI sc p)) [] IS rfl tr ⟨tr,ah (aJ O (bY O' [("parties",V.L+1)] (by rfl) (dK O (af O 1 rfl (aC ⟨_,rfl,au (aC (ak O 4 rfl (f6 ⟨_,rfl,_,(numsOf sc).map .int,dz _,Yh,dQ _,?_⟩)))⟩)))))⟩ λp hp H G la=>au (aC (au (ai (OK.v H G).toOk (f:= .builtin "abs") rfl tr rfl rfl (af (OK.v H G).toOk 0 rfl (iy (aC (lK (b:=40) (by decide) (lM (a:=1) ⟨rfl,rfl⟩))))))))⟩;rw[show cK ((numsOf sc).map FV.int) (some 6) (some (6+(bg sc:Int)))=_ from sZ 6 (bg sc) (by rw[Yg];exact ae (eQ hP.2 6) (by decide))];refine⟨_,_,[("parties",.int (bg sc:Int))],cG _ _,.n _,.cons 4 rfl rfl rfl (λaa=>rfl) (.f _) .nil,λV2 OK=>run_map OK.toOk (ar (bg sc)) _ (λp=> .int (cg sc p:Int)) _ IS tr tr ⟨tr,ah (aJ O (au (aC (au (ai O (f:= .builtin "abs") rfl tr rfl rfl (aY (af O 1 rfl (aC (dX (j:=2) (kO sc (by decide)) gl (iy (ai O (f:= .builtin "min") rfl tr rfl rfl (aC (ai O (f:= .builtin "sum") rfl tr rfl rfl (ak O 6 rfl (gF O (ns:=(ar (bg sc)).map λp=>(cg sc p:Int)) (C6 _ _) (λi hi=>?_) (by rw[ag];exact IS) (ue (sum_ints _ _) (IU O (ue (Ld _ 4) (lK (afD.mpr ⟨by decide,C7 sc⟩) (lM (a:=1) ⟨tr,?_⟩))))))))))))))))))))⟩ λp hp H G la=>au (aC (au (ai (OK.v H G).toOk (f:= .builtin "abs") rfl tr rfl rfl (af (OK.v H G).toOk 1 rfl (iy (au (aC (ak (OK.v H G).toOk 0 rfl (oO (ue (s:=((5-bg sc:Nat):Int)) (afp (ae hP.2 (by decide))).symm (lK (aao (bj hP.2 (by decide))) (lM (a:=1) ⟨rfl,rfl⟩))))))))))))⟩
 ·obtain⟨p,_,e⟩:=bb.mp hi;have:=mq sc p;refine bS (e ..) ?_;exact⟨dA _,mN.mpr (ae this.2 (by decide))⟩
 exact ah (aJ O (au (ai O (f:= .builtin "abs") rfl tr rfl rfl (aY (af O 1 rfl (aC (dX (j:=0) (kO sc (by decide)) gl (iy (aC (oR (b:=4) (by decide) (by decide+kernel) (ue (za _ 4) ⟨tr,h⟩)))))))))))
end
noncomputable def iz(sc:List Int)(p:Nat):List Nat:=(ar (cg sc p)).map λk=>aD p (cg sc)+k
theorem EG(h:p≤P):(bT P f).take p=bT p f:=by refine bS (abh ..) ?_;rw[ag3];rw[so h];rfl
section
variable{prog:d5}{w:fA}{V:Fx}
noncomputable abbrev fW (sc:List Int)(j:Nat):List AV:=(ar j).map λp=> .n (.list ((iz sc p).map λ(i:Nat)=> .int (i:Int)))
theorem zd:fW sc j++[.n (.list ((ar (cg sc j)).map λk=> .int ((aD j (cg sc)+k:Nat):Int)))]=fW sc (j+1):=by unfold fW;rw[Kk];rw[ew];rw[eA];rewrite [iz];rw[dT];rfl
noncomputable def R5(sc:List Int):Lp Nat Unit:=⟨λaa aa=>pI sc [("blocks",.own 0)],λj aa=> [.list (fW sc j)],λaa aa=>True⟩
theorem Le(sc:List Int)(l:List Nat): ∀i∈l.map λp=>(cg sc p:Int),0≤i/\i≤1000000:=λi hi=>by obtain⟨p,_,e⟩:=bb.mp hi;refine bS (e ..) ?_;exact⟨dA _,mN.mpr (ae (mq sc p).2 (by decide))⟩
theorem R6(O' :bQ (b7 TT bP 760 (KK w.params) prog w V) 22)(h:bM (b7 TT bP 760 (KK w.params) prog w V) ((bodyOf bP).drop 10) ⟨pI sc [("blocks",.own 0)],[.list (fW sc (bg sc))]⟩ Q):
  bM (b7 TT bP 760 (KK w.params) prog w V) ((bodyOf bP).drop 8) ⟨pI sc [],[]⟩ Q:=by
 have O:=O'.toOk;have hP:=jO sc;have uc:=ae hP.2 (show 3≤1000000 by decide);have tF:(ar (bg sc)).length≤1000000:=by rw[cf];exact uc
 refine ah (aJ O (bR O rfl ⟨rfl,tr,ah (lg O (ai O (f:= .type "range") rfl tr rfl rfl (ak O 4 rfl (bW O ⟨bg sc,R5 sc,rfl,uc,(),trivial,rfl,λaa aa=>rfl,λj hj aa R H G aa hR=>?_,λaa aa=>h⟩))))⟩));have fu:=O'.v H G;have OO:=fu.toOk;have lF:=ae (mq sc j).2 (show 3≤1000000 by decide);refine ah (dR OO (iT OO rfl (ak OO 9 rfl ⟨0,_,rfl,rfl,bY fu [("party",V.L+5),("lists",V.L+3)] (by rfl) (ai OO (f:= .type "range") rfl tr rfl rfl (aY (ak OO 6 rfl (ak OO 10 rfl (dX (eR hj) tF (bW OO ?_))))))⟩)));refine⟨.m8 0 (cg sc j:Nat),_,[("lists",.list (bT (bg sc) λp=>(cg sc p:Int))),("party",.int (j:Int))],ck lF,.n _,.cons 6 rfl rfl rfl (λaa=>rfl) (.n _) (.cons 10 rfl rfl rfl (λaa=>rfl) (.f _) .nil),λV2 OK=>run_map OK.toOk (ar (cg sc j)) _ (λk=> .int ((aD j (cg sc)+k:Nat):Int)) _ (by rw[cf];exact ae (mq sc j).2 (by decide)) tr tr ⟨_,rfl,by rw[ag];rw[cf];exact ae (ec hj) uc,aj ?_⟩ λk hk H2 G2 la=>?_⟩
 ·exact cast (congrArg (λz=>R .next ⟨_,[.list z]⟩) zd.symm) (hR () [_] trivial)
 ·have OV:=(OK.v H2 G2).toOk;refine au (ai OV (f:= .builtin "sum") rfl tr rfl rfl (dK OV (ak OV 0 rfl (ak OV 1 rfl ⟨_,rfl,_,bT (bg sc) λp=>(cg sc p:Int),.f _,by rw[ag];rw[ag];exact tF,?_,?_⟩))))
  ·rw[zb];rw[dT];exact dQ _
  rw[i7];rw[EG (ec hj)];exact gF OV (C6 _ _) (Le sc _) (by rw[ag];rw[cf];exact ae (ec hj) (ae hP.2 (by decide))) (ue (sum_ints _ _) (af OV 2 rfl (lM ⟨rfl,rfl⟩)))
end
noncomputable def vD(sc:List Int):Nat:=1+Ox sc 9%(2^bg sc-1)
noncomputable def bL(sc:List Int):List Nat:=(ar (bg sc)).filter λp=>vD sc/2^p%2 !=0
noncomputable def oG(sc:List Int)(a:Nat->Nat)(part:List Nat):List Nat:=part.flatMap λp=>(iz sc p).take (a p)
noncomputable abbrev aI(a:Nat->Nat)(p:Nat):Int:=(a p:Int)
theorem gJ(sc:List Int)(P:Nat):fD own (fW sc P) (EX P (iz sc)):=by
 unfold fW EX;generalize ar P=r;induction r with
 |nil=>exact .nil
 |cons a r ih=>exact .cons (.n _) ih
theorem Lf(P:Nat):((2:Int)^P)-1=((2^P-1:Nat):Int):=by rw[afp Nat.one_le_two_pow];rw[Int.natCast_pow];rfl
theorem Lg(q:Nat):((2:Int)^q)=((2^q:Nat):Int):=by simp
theorem C8(sc:List Int)(a:Nat->Nat)(h:part.length≤3):(oG sc a part).length≤1000:=by
 have go: ∀part:List Nat,(oG sc a part).length≤3*part.length:=by
  intro part;induction part with
  |nil=>exact kS _
  |cons p r ih=>unfold oG at ih⊢;rw[tq];rw[dy];rw[th];rw[adJ];rw[wx];refine SF ih ?_;rw[oD];rewrite [iz];rw[ag];rw[cf];exact ae (tp _ _) (mq sc p).2
 exact ae (go part) (ae (rh 3 h) (by decide))
theorem IV(sc:List Int):(bL sc).length≤3/\ ∀p∈bL sc,p<bg sc:=⟨ae (ml _ _) (by rw[cf];exact(jO sc).2),λaa hp=>a9.mp (fI.mp hp).1⟩
theorem C9:(part.flatMap λp=>((iz sc p).take (a p)).map λ(k:Nat)=>FV.int (k:Int))=fz (oG sc a part):=by unfold oG fz;rw[abQ];rfl
section
variable{prog:d5}{w:fA}{V:Fx}
noncomputable def Dc (sc:List Int)(a:Nat->Nat)(r:List (Str×AV)):List (Str×AV):=pI sc (("blocks",AV.own 0)::("seated",.n (.list (bT (bg sc) (aI a))))::("whole",.n (.list (fz (ar (bg sc)))))::("members",.n (.list (fz (oG sc a (ar (bg sc))))))::("some",.f (.int (vD sc:Int)))::("part",.n (.list (fz (bL sc))))::r)
noncomputable def Dd(sc:List Int)(a:Nat->Nat):List (Str×AV):=Dc sc a [("own",.n (.list ((bL sc).map λp=> .int (aI a p)))),("mates",.n (.list (fz (oG sc a (bL sc)))))]
theorem De(sc:List Int)(p:Nat):(ku (iz sc p)).length≤1000000:=by rw[ag];rewrite [iz];rw[ag];rw[cf];exact ae (mq sc p).2 (by decide)
theorem R7(O' :bQ (b7 TT bP 760 (KK w.params) prog w V) 22)
  (hF:Spec prog w (KK w.params) TT 10 (.ref 750) [.int (cJ sc:Int),.list (bT (bg sc) (vI sc)),.list (bT (bg sc) λp=>(cg sc p:Int)),.int (iN sc:Int)] [] (· = .list (bT (bg sc) (aI a))))
  (hA:Spec prog w (KK w.params) TT 10 (.ref 745) [.str (iL (!decide (cJ sc=3))),.list (bT (bg sc) (vI sc)),.list (bT (bg sc) λp=>(cg sc p:Int)),.int (iN sc:Int)] [] (· = .list (bT (bg sc) (aI a))))
  (h:bM (b7 TT bP 760 (KK w.params) prog w V) ((bodyOf bP).drop 18) ⟨Dd sc a,[.list (fW sc (bg sc))]⟩ Q):
  bM (b7 TT bP 760 (KK w.params) prog w V) ((bodyOf bP).drop 10) ⟨pI sc [("blocks",.own 0)],[.list (fW sc (bg sc))]⟩ Q:=by
 have O:=O'.toOk;have hP:=jO sc;have uc:=ae hP.2 (show 3≤1000000 by decide);have IS:(ar (bg sc)).length≤3:=by rw[cf];exact hP.2
 have tF:=ae IS (show 3≤1000000 by decide);have Yi:=ae IS (show 3≤1000 by decide);have Yj: ∀p∈ar (bg sc),p<bg sc:=λp hp=>a9.mp hp;obtain⟨wz,EY⟩:=IV sc;refine ah (aJ O (ai O (f:= .ref 750) rfl tr rfl rfl (af O 2 rfl (ak O 5 rfl (ak O 6 rfl (af O 7 rfl (aH O' hF (by decide) (.cons (.f _) (.cons (.n _) (.cons (.n _) (.cons (.f _) .nil)))) .nil rfl ⟨tr,ah (aK (aE (ai O (f:= .ref 745) rfl tr rfl rfl (af O 3 rfl (ak O 5 rfl (ak O 6 rfl (af O 7 rfl (aH O' hA (by decide) (.cons (.f _) (.cons (.n _) (.cons (.n _) (.cons (.f _) .nil)))) .nil rfl (ak O 10 rfl (ID (ns:=(ar (bg sc)).map (aI a)) O' (by rw[dT];exact .n _) (by rw[dT];exact .n _) (by decide) ⟨_,rfl,bB (aj ?_)⟩))))))))))⟩)))))));refine ah (iD O' [] (by rfl) (ai O (f:= .type "range") rfl tr rfl rfl (ak O 4 rfl (bW O ⟨.m8 0 (bg sc:Nat),_,[],ck uc,.n _,.nil,λV2 OK=>run_map OK.toOk (ar (bg sc)) _ (λp=> .int (p:Int)) [] Yi rfl tr ⟨_,aU tr,?_⟩ λp hp H2 G2 la=>af (OK.v H2 G2).toOk 0 rfl ⟨rfl,rfl⟩⟩))))
 refine ah (iD O' [("seated",V.L+6),("blocks",V.L+4)] (by rfl) (af O 11 rfl ⟨_,_,[("blocks",.list (EX (bg sc) (iz sc))),("seated",.list (bT (bg sc) (aI a)))],cG _ _,.n _,.cons 9 rfl rfl rfl (λaa=>rfl) (.list rfl (gJ sc _)) (.cons 10 rfl rfl rfl (λaa=>rfl) (.n _) .nil),λV2 OK=>oq OK.toOk (ar (bg sc)) _ (λp=>(iz sc p).take (a p)) (λaa k=> .f (.int (k:Int))) (λaa k=> .int (k:Int)) _ (C8 sc a IS) tr tr tr tr tr ⟨_,aU tr,?_⟩ (λaa=>rfl) (λp hp H2 G2 e la=>?_) λp hp k hk H2 G2 la=>af (OK.v H2 G2).toOk 3 rfl ⟨rfl,rfl⟩⟩))
 rotate_left
 ·have hp:=Yj p hp;have OV:=(OK.v H2 G2).toOk;refine dK OV (aY (ak OV 0 rfl (af OV 2 rfl (br (eR hp) tF (aY (ak OV 1 rfl (af OV 2 rfl (br (eR hp) tF ⟨_,rfl,_,_,fU (iz sc p),De sc p,fO _,rfl,?_⟩))))))));rw[i7];refine bS (abh ..) ?_;exact⟨_,gP OV eF,λaa=>eF⟩
 rw[C9];refine ah (aJ O (au (aC (au (ai O (f:= .builtin "abs") rfl tr rfl rfl (aY (af O 1 rfl (aC (dX (j:=9) (kO sc (by decide)) (w6 sc) (iy (au (au (aC (ak O 4 rfl (wZ (bj hP.2 (by decide)) (aC (oO (ue (Lf _) (lK (aao (a0 (by decide:1<2^2) (aeq (by decide) hP.1))) (lM (a:=1) ⟨tr,?_⟩))))))))))))))))))));refine ah (iD O' [("some",V.L+7)] (by rfl) (af O 11 rfl ⟨_,_,[("some",.int (vD sc:Int))],cG _ _,.n _,.cons 13 rfl rfl rfl (λaa=>rfl) (.f _) .nil,λV2 OK=>dP OK.toOk (ar (bg sc)) _ (λp=>vD sc/2^p%2 !=0) (λp=> .int (p:Int)) _ Yi tr tr ⟨_,aU tr,?_⟩ (λp hp H2 G2 la=>?_) λp hp aa H2 G2 la=>af (OK.v H2 G2).toOk 1 rfl ⟨rfl,rfl⟩⟩))
 rotate_left
 ·have hp:=a0 (Yj p hp) hP.2;have OV:=(OK.v H2 G2).toOk;refine bF (au (au (ak OV 0 rfl (au (aC (af OV 1 rfl (wZ (oo hp (by decide)) (oR (w4 p hp).1 (w4 p hp).2 (aC (qV (b:=2) (by decide) ⟨_,.i _,?_,rfl⟩))))))))));rw[Lg];rw[za];rw[show((vD sc/2^p:Nat):Int).fmod 2=((vD sc/2^p%2:Nat):Int)from y9 _ 2];refine eV (y3 ..) ?_;refine eV (bne_iff_ne ..) ?_;refine eV (bne_iff_ne ..) ?_;exact not_congr Int.ofNat_eq_zero
 show bM _ _ ⟨Dc sc a [],_⟩ _;refine ah (iD O' [("seated",V.L+6)] (by rfl) (af O 14 rfl ⟨_,_,[("seated",.list (bT (bg sc) (aI a)))],cG _ _,.n _,.cons 10 rfl rfl rfl (λaa=>rfl) (.n _) .nil,λV2 OK=>run_map OK.toOk (bL sc) _ (λp=> .int (aI a p)) _ (ae wz (by decide)) tr tr ⟨_,aU tr,?_⟩ λp hp H2 G2 la=>aY (ak (OK.v H2 G2).toOk 0 rfl (af (OK.v H2 G2).toOk 1 rfl (br (eR (EY p hp)) tF ⟨rfl,rfl⟩)))⟩))
 refine ah (iD O' [("seated",V.L+6),("blocks",V.L+4)] (by rfl) (af O 14 rfl ⟨_,_,[("blocks",.list (EX (bg sc) (iz sc))),("seated",.list (bT (bg sc) (aI a)))],cG _ _,.n _,.cons 9 rfl rfl rfl (λaa=>rfl) (.list rfl (gJ sc _)) (.cons 10 rfl rfl rfl (λaa=>rfl) (.n _) .nil),λV2 OK=>oq OK.toOk (bL sc) _ (λp=>(iz sc p).take (a p)) (λaa k=> .f (.int (k:Int))) (λaa k=> .int (k:Int)) _ (C8 sc a wz) tr tr tr tr tr ⟨_,aU tr,?_⟩ (λaa=>rfl) (λp hp H2 G2 e la=>?_) λp hp k hk H2 G2 la=>af (OK.v H2 G2).toOk 3 rfl ⟨rfl,rfl⟩⟩))
 ·rw[C9];exact h
 ·have hp:=EY p hp;have OV:=(OK.v H2 G2).toOk;refine dK OV (aY (ak OV 0 rfl (af OV 2 rfl (br (eR hp) tF (aY (ak OV 1 rfl (af OV 2 rfl (br (eR hp) tF ⟨_,rfl,_,_,fU (iz sc p),De sc p,fO _,rfl,?_⟩))))))));rw[i7];refine bS (abh ..) ?_;exact⟨_,gP OV eF,λaa=>eF⟩
end
theorem lN(l:List Nat):FV.list [.list (fz l)]= .list ([l.map λ(i:Nat)=>(i:Int)].map λx=> .list (x.map .int)):=by rw[pH];rfl
theorem IW(a:Nat->Nat)(r:List Nat):(r.map (aI a)).sum=(((r.map a).sum:Nat):Int):=by
 induction r with
 |nil=>rfl
 |cons p r ih=>simp[ih]
section
variable{prog:d5}{w:fA}{V:Fx}
theorem R8 (O' :bQ (b7 TT bP 760 (KK w.params) prog w V) 22)(ha: ∀p,a p≤100)
  (Ws:Spec prog w (KK w.params) TT 20 (.ref 755) [.int (cJ sc:Int),.list (bT (bg sc) (vI sc)),.list (EX (bg sc) (iz sc)),.list (fz (ar (bg sc))),.int (iN sc:Int),.int (zc sc:Int)] [] (· = .list [.list (fz (oG sc a (ar (bg sc))))]))
  (Wt:Spec prog w (KK w.params) TT 10 (.ref 745) [.str (iL (!decide (cJ sc=3))),.list ((bL sc).map λp=> .int (vI sc p)),.list ((bL sc).map λp=> .int (cg sc p:Int)),.int ((((bL sc).map a).sum:Nat):Int)] [] (· = .list ((bL sc).map λp=> .int (aI a p))))
  (Wu:((bL sc).map a).sum≠0->Spec prog w (KK w.params) TT 20 (.ref 755) [.int (cJ sc:Int),.list (bT (bg sc) (vI sc)),.list (EX (bg sc) (iz sc)),.list (fz (bL sc)),.int ((((bL sc).map a).sum:Nat):Int),.int (zc sc:Int)] [] (· = .list [.list (fz (oG sc a (bL sc)))])):
  bM (b7 TT bP 760 (KK w.params) prog w V) ((bodyOf bP).drop 18) ⟨Dd sc a,[.list (fW sc (bg sc))]⟩ (MY λr=>r= .bool true):=by
 refine cU λQ hQ=>?_;have O:=O'.toOk;have hP:=jO sc;have tF:(ar (bg sc)).length≤1000000:=by rw[cf];exact ae hP.2 (by decide)
 obtain⟨wz,EY⟩:=IV sc;have Wv:=ae wz (show 3≤1000 by decide);have OB: ∀{st:St} {R:AV->St->Prop},R (.f (.int ((((bL sc).map a).sum:Nat):Int))) st->aZ (b7 TT bP 760 (KK w.params) prog w V) (.builtin "sum") [.n (.list ((bL sc).map λp=> .int (aI a p)))] [] [] st R:=λ{st R} h=>gF O (ns:=(bL sc).map (aI a)) (by rw[show((bL sc).map λp=>FV.int (aI a p))=((bL sc).map (aI a)).map .int by rw[dT];rfl];exact dz _) (λi hi=>by obtain⟨p,_,e⟩:=bb.mp hi;refine bS (e ..) ?_;exact⟨dA _,mN.mpr (ae (ha p) (by decide))⟩) (by rw[ag];exact Wv) (ue (IW a _) h)
 refine ah (aK (aE (ai O (f:= .ref 755) rfl tr rfl rfl (af O 2 rfl (ak O 5 rfl (ak O 9 rfl (af O 11 rfl (af O 7 rfl (af O 8 rfl (aH O' Ws (by decide) (.cons (.f _) (.cons (.n _) (.cons (.list rfl (gJ sc _)) (.cons (.n _) (.cons (.f _) (.cons (.f _) .nil)))))) .nil rfl (gY O rfl (af O 12 rfl ⟨rfl,_,.cons (.n _) .nil,K7 (ls:=[(oG sc a (ar (bg sc))).map λ(i:Nat)=>(i:Int)]) O' (by rw[lN];exact .n _) (by rw[lN];exact .n _) (by decide) ⟨_,rfl,bB (aj ?_)⟩⟩))))))))))));refine ah (aK (aE (ai O (f:= .ref 745) rfl tr rfl rfl (af O 3 rfl (bY O' [("votes",V.L+2)] (by rfl) (af O 14 rfl ⟨_,_,[("votes",.list (bT (bg sc) (vI sc)))],cG _ _,.n _,.cons 5 rfl rfl rfl (λaa=>rfl) (.n _) .nil,λV2 OK=>run_map OK.toOk (bL sc) _ (λp=> .int (vI sc p)) _ Wv tr tr ?_ λp hp H2 G2 la=>aY (ak (OK.v H2 G2).toOk 0 rfl (af (OK.v H2 G2).toOk 1 rfl (br (eR (EY p hp)) tF ⟨rfl,rfl⟩)))⟩))))))
 refine bY O' [("lists",V.L+3)] (by rfl) (af O 14 rfl ⟨_,_,[("lists",.list (bT (bg sc) λp=>(cg sc p:Int)))],cG _ _,.n _,.cons 6 rfl rfl rfl (λaa=>rfl) (.n _) .nil,λV2 OK=>run_map OK.toOk (bL sc) _ (λp=> .int (cg sc p:Int)) _ Wv tr tr ?_ λp hp H2 G2 la=>aY (ak (OK.v H2 G2).toOk 0 rfl (af (OK.v H2 G2).toOk 1 rfl (br (eR (EY p hp)) tF ⟨rfl,rfl⟩)))⟩)
 refine ai O (f:= .builtin "sum") rfl tr rfl rfl (af O 15 rfl (OB (aH O' Wt (by decide) (.cons (.f _) (.cons (.n _) (.cons (.n _) (.cons (.f _) .nil)))) .nil rfl (af O 15 rfl (ID (ns:=(bL sc).map (aI a)) O' (by rw[dT];exact .n _) (by rw[dT];exact .n _) (by decide) ⟨_,rfl,bB (aj ?_)⟩)))));refine ah (aK (aE (ai O (f:= .builtin "sum") rfl tr rfl rfl (af O 15 rfl (OB (aC (eX ⟨_,rfl,?_⟩)))))))
 by_cases hz:((bL sc).map a).sum=0
 ·exact iV (by rw[hz];rfl) (ah (aF (qx (hQ ⟨_,.f _ rfl,rfl⟩))))
 ·exact fF (beq_eq_false_iff_ne.mpr (ac4.mpr hz)) (aj (ah (aF (eK (ai O (f:= .ref 755) rfl tr rfl rfl (af O 2 rfl (ak O 5 rfl (ak O 9 rfl (af O 14 rfl (ai O (f:= .builtin "sum") rfl tr rfl rfl (af O 15 rfl (OB (af O 8 rfl (aH O' (Wu hz) (by decide) (.cons (.f _) (.cons (.n _) (.cons (.list rfl (gJ sc _)) (.cons (.n _) (.cons (.f _) (.cons (.f _) .nil)))))) .nil rfl (gY O rfl (af O 16 rfl ⟨rfl,_,.cons (.n _) .nil,K8 (ls:=[(oG sc a (bL sc)).map λ(i:Nat)=>(i:Int)]) O' (by rw[lN];exact .n _) (by rw[lN];exact .n _) (by decide) (hQ ⟨_,.f _ rfl,rfl⟩)⟩))))))))))))))))
end
section
variable{prog:d5}{w:fA}
theorem IX (zH:sc.length≤63)(ha: ∀p,a p≤100)
  (hF:Spec prog w (KK w.params) TT 10 (.ref 750) [.int (cJ sc:Int),.list (bT (bg sc) (vI sc)),.list (bT (bg sc) λp=>(cg sc p:Int)),.int (iN sc:Int)] [] (· = .list (bT (bg sc) (aI a))))
  (hA:Spec prog w (KK w.params) TT 10 (.ref 745) [.str (iL (!decide (cJ sc=3))),.list (bT (bg sc) (vI sc)),.list (bT (bg sc) λp=>(cg sc p:Int)),.int (iN sc:Int)] [] (· = .list (bT (bg sc) (aI a))))
  (Ws:Spec prog w (KK w.params) TT 20 (.ref 755) [.int (cJ sc:Int),.list (bT (bg sc) (vI sc)),.list (EX (bg sc) (iz sc)),.list (fz (ar (bg sc))),.int (iN sc:Int),.int (zc sc:Int)] [] (· = .list [.list (fz (oG sc a (ar (bg sc))))]))
  (Wt:Spec prog w (KK w.params) TT 10 (.ref 745) [.str (iL (!decide (cJ sc=3))),.list ((bL sc).map λp=> .int (vI sc p)),.list ((bL sc).map λp=> .int (cg sc p:Int)),.int ((((bL sc).map a).sum:Nat):Int)] [] (· = .list ((bL sc).map λp=> .int (aI a p))))
  (Wu:((bL sc).map a).sum≠0->Spec prog w (KK w.params) TT 20 (.ref 755) [.int (cJ sc:Int),.list (bT (bg sc) (vI sc)),.list (EX (bg sc) (iz sc)),.list (fz (bL sc)),.int ((((bL sc).map a).sum:Nat):Int),.int (zc sc:Int)] [] (· = .list [.list (fz (oG sc a (bL sc)))])):
  Spec prog w (KK w.params) TT 23 (.ref 760) [.list (sc.map .int)] [] (· = .bool true):=by
 refine aR (Ve w.params) [("script",.list (sc.map .int))] rfl (λaa aa aa=>rfl) ?_
 ·intro V O';exact R4 zH O' (R6 O' (R7 O' hF hA (R8 O' ha Ws Wt Wu)))
end
def Bt(f:Nat->Nat->Int)(p x q y:Nat):Prop:=f q y<f p x∨(f q y=f p x/\p<q)
structure bk(P:Nat)(f:Nat->Nat->Int)(ln:Nat->Nat)(n:Nat)(a:Nat->Nat):Prop where
 le: ∀p<P,a p≤ln p
 sum:aD P a=n
 ex: ∀p<P,∀q<P,p≠q->0<a p->a q<ln q->Bt f p (a p-1) q (a q)
theorem bZ(P:Nat)(a:Nat->Nat):aD (P+1) a=aD P a+a P:=by unfold aD;rw[Kk];rw[ew];rw[adY];simp
theorem gM(h: ∀p<P,b p≤a p):aD P b≤aD P a:=by
 induction P with
 |zero=>exact cq _
 |succ P ih=>rw[bZ];rw[bZ];exact SF (ih λp hp=>h p (fg hp)) (h P (xt P))
theorem Lh(h: ∀p<P,b p≤a p)(hq:q<P)(hl:b q<a q):aD P b<aD P a:=by
 induction P with
 |zero=>exact acV (og hq)
 |succ P ih=>
  rw[bZ];rw[bZ];have h1:=h P (xt P)
  by_cases e:q=P
  ·subst e;have:=gM (P:=q) λp hp=>h p (oo hp hq);exact a0 (xn hl (aD q b)) (nf this (a q))
  ·have:=ih (λp hp=>h p (fg hp)) (TO (vi hq) e);exact a0 (Nat.add_lt_add_right this (b P)) (eQ h1 (aD P a))
theorem jD(h: ∀p<P,b p=a p):aD P b=aD P a:=by have h1:=gM (P:=P) (a:=a) (b:=b) λp hp=>km (h p hp);have h2:=gM (P:=P) (a:=b) (b:=a) λp hp=>km (h p hp).symm;exact sx h1 h2
theorem vE(hs:aD P a=aD P b)(hp:p<P)(h:b p<a p): ∃q,q<P/\a q<b q:=by exact mf λhn=>pz (Lh (λq hq=>mr.mp λz=>hn ⟨q,hq,z⟩) hp h) hs
noncomputable def upd(a:Nat->Nat)(p x:Nat)(q:Nat):Nat:=if q=p then x else a q
theorem fZ(a:Nat->Nat)(hp:p<P):aD P (upd a p x)+a p=aD P a+x:=by
 induction P with
 |zero=>exact absurd hp (t5 _)
 |succ P ih=>
  rw[bZ];rw[bZ]
  by_cases e:p=P
  ·subst e;have h1:aD p (upd a p x)=aD p a:=jD λq hq=>by unfold upd;rw[if_neg (du hq)];rfl
   have h2:upd a p x p=x:=by unfold upd;rw[if_pos rfl];rfl
   rw[h1];rw[h2];rw[y5];rfl
  ·have h1:=ih (TO (vi hp) e);have h2:upd a p x P=a P:=by unfold upd;rw[if_neg (Nw e)];rfl
   rw[h2];rw[y5];rw[h1];rw[y5];rfl
def qu(f:Nat->Nat->Int):Prop:= ∀p k,f p (k+1)≤f p k
theorem qu.le(h:qu f)(p:Nat)(Ti:x≤y):f p y≤f p x:=by
 obtain⟨d,rfl⟩: ∃d,y=x+d:=⟨y-x,(adR (abB Ti))⟩;clear Ti;induction d with
 |zero=>exact acn _
 |succ d ih=>exact hV (h p (x+d)) ih
theorem Bt.mono(h:Bt f p x q y)(h1:f p x≤f p x')(h2:f q y' ≤f q y):Bt f p x' q y' :=h.elim (λh=> .inl (aa5 h2 (TB h h1))) λh=>(abj (hV h2 (hV (aa3 h.1) h1))).elim .inl λz=> .inr ⟨z,h.2⟩
theorem Bt.asymm(h1:Bt f p x q y)(h2:Bt f q y p x):False:=h1.elim (λa=>h2.elim (λb=>PH _ (abL a b)) λb=>PH _ (b.1▸a)) λa=>h2.elim (λb=>PH _ (a.1▸b)) λb=>Hd a.2 b.2
theorem IY(h:qu f)(h1:Bt f p x q y)(h2:Bt f q y' p x')(hy:y≤y')(hx:x' ≤x):False:=by exact(h1.mono (h.le p hx) (h.le q hy)).asymm h2
theorem bk.uniq(hf:qu f)(A:bk P f ln n a)(B:bk P f ln n b): ∀p<P,a p=b p:=by
 have go: ∀{a b:Nat->Nat},bk P f ln n a->bk P f ln n b-> ∀p<P,¬b p<a p:=by
  intro a b A B p hp cy;obtain⟨q,hq,zI⟩:=vE (A.sum.trans B.sum.symm) hp cy;have zJ:p≠q:=λe=>by subst e;exact Hd cy zI
  have e1:=A.ex p hp q hq zJ (og cy) (by have:=B.le q hq;exact a0 zI this);have e2:=B.ex q hq p hp (Nw zJ) (og zI) (by have:=A.le p hp;exact a0 cy this);exact IY hf e1 e2 (abU zI) (abU cy)
 intro p hp;exact sx (mr.mp (go A B p hp)) (mr.mp (go B A p hp))
theorem bk.zero:bk P f ln 0 λaa=>0:=by
 refine⟨λaa aa=>kS _,?_,λaa aa aa aa aa h aa=>absurd h (ib _)⟩;induction P with
 |zero=>rfl
 |succ P ih=>rw[bZ];rw[ih];rfl
theorem bk.all:bk P f ln (aD P ln) ln:=⟨λaa aa=>cq _,rfl,λaa aa aa aa aa aa h=>absurd h (ib _)⟩
set_option tactic.hygienic true in
theorem bk.add(hf:qu f)(B:bk P f ln n b)(hp:p<P)(hl:b p<ln p)(h: ∀q<P,q≠p->b q<ln q->Bt f p (b p) q (b q)):bk P f ln (n+1) (upd b p (b p+1)):=by
 refine⟨λq hq=>?_,?_,λr hr q hq Li h0 BH=>?_⟩
 ·unfold upd;split
  ·rename_i e;subst e;exact hl
  ·exact B.le q hq
 ·have:=fZ (x:=b p+1) b hp;rw[B.sum,<-vw,y5]at this;exact abV this
 ·unfold upd at h0 BH⊢
  by_cases e1:r=p
  ·subst e1;rw[if_neg (Nw Li)]at BH⊢;rw[if_pos rfl];rw[afr];exact h q hq (Nw Li) BH
  ·rw[if_neg e1]at h0⊢
   by_cases e2:q=p
   ·subst e2;rw[if_pos rfl]at BH⊢;exact(B.ex r hr q hq Li h0 hl).mono (acn _) (hf q (b q))
   ·rw[if_neg e2]at BH⊢;exact B.ex r hr q hq Li h0 BH
set_option tactic.hygienic true in
theorem bk.drop(hf:qu f)(B:bk P f ln (n+1) b)(hp:p<P)(h0:0<b p)(h: ∀q<P,q≠p->0<b q->Bt f q (b q-1) p (b p-1)):bk P f ln n (upd b p (b p-1)):=by
 refine⟨λq hq=>?_,?_,λr hr q hq Li h1 BH=>?_⟩
 ·have:=B.le q hq;unfold upd;split
  ·exact ae (Q1 ..) (B.le p hp|>λh=>by rename_i e;rw[e];exact h)
  ·exact this
 ·have:=fZ (x:=b p-1) b hp;rw[B.sum,vw,wx 1,U2 h0]at this;exact abV this
 ·unfold upd at h1 BH⊢
  by_cases e1:r=p
  ·subst e1;rw[if_neg (Nw Li)]at BH⊢;rw[if_pos rfl]at h1⊢;exact(B.ex r hr q hq Li h0 BH).mono (hf.le r (Q1 ..)) (acn _)
  ·rw[if_neg e1]at h1⊢
   by_cases e2:q=p
   ·subst e2;rw[if_pos rfl];exact h r hr Li h1
   ·rw[if_neg e2]at BH⊢;exact B.ex r hr q hq Li h1 BH
theorem IZ{part:List Nat}(a:Nat->Nat):aD part.length (λi=>a (part.getD i 0))=(part.map a).sum:=by
 unfold aD;congr 1;apply w0
 ·simp
 ·intro i h1 h2;simp at h1 h2;simp[h1]
theorem bk.sub{P n:Nat}{f:Nat->Nat->Int}{ln a:Nat->Nat}{part:List Nat}(A:bk P f ln n a)(hs:part.Pairwise (· < ·))(hp: ∀p∈part,p<P):
  bk part.length (λi k=>f (part.getD i 0) k) (λi=>ln (part.getD i 0)) (part.map a).sum λi=>a (part.getD i 0):=by
 have hm: ∀i<part.length,part.getD i 0<P:=λi hi=>hp _ (by simp[hi]);have cy: ∀i<part.length,∀j<part.length,i<j->part.getD i 0<part.getD j 0:=λi hi j hj C4=>by have:=H0.mp hs i j hi hj C4;simpa[hi,hj]using this
 have Ww: ∀i<part.length,∀j<part.length,i≠j->part.getD i 0≠part.getD j 0:=λi hi j hj C4=>by
  rcases abk C4 with h|h
  ·have:=cy i hi j hj h;exact du this
  ·have:=cy j hj i hi h;exact pz this
 refine⟨λi hi=>A.le _ (hm i hi),IZ a,λi hi j hj C4 h0 hl=>?_⟩;have e:=A.ex _ (hm i hi) _ (hm j hj) (Ww i hi j hj C4) h0 hl;unfold Bt at e⊢;rcases e with e|⟨e,z⟩
 ·exact .inl e
 ·refine .inr ⟨e,?_⟩;rcases abk C4 with h|h
  ·exact h
  ·exact absurd (cy j hj i hi h) (Hd z)
theorem bk.mask{P n:Nat}{f:Nat->Nat->Int}{ln a:Nat->Nat}{part:List Nat}(A:bk P f ln n a)(RG: ∀p∈part,∀k<ln p,0<f p k)(bU:part.Nodup)(hp: ∀p∈part,p<P):
  bk P (λp k=>if p∈part then f p k else 0) ln (part.map a).sum λp=>if p∈part then a p else 0:=by
 refine⟨λp h=>?_,?_,λp h q hq zJ h0 hl=>?_⟩
 ·have:=A.le p h;show(if p∈part then a p else 0)≤ln p;split
  ·exact this
  ·exact kS _
 ·have key: ∀(r:List Nat) (P:Nat),r.Nodup->(∀p∈r,p<P)->aD P (λp=>if p∈r then a p else 0)=(r.map a).sum:=by
   intro r P;induction r with
   |nil=>intro _ _;have:=bk.zero (P:=P) (f:=f) (ln:=ln);exact this.sum
   |cons x r ih=>
    intro bU hp;have hx:=dn.mp bU;have h1:=ih hx.2 λp h=>hp p (.tail _ h);have h2:=fZ (x:=a x) (λp=>if p∈r then a p else 0) (hp x (.head _));have h3:aD P (λp=>if p∈x::r then a p else 0)=aD P (upd (λp=>if p∈r then a p else 0) x (a x)):=jD λp aa=>by
     unfold upd
     by_cases e:p=x
     ·subst e;simp
     ·simp[e]
    rw[eA];rw[vy];rw[h3];simp only[hx.1,if_false]at h2;lia
  exact key part P bU hp
 ·by_cases e1:p∈part
  ·simp only[e1,if_true]at h0⊢
   by_cases e2:q∈part
   ·simp only[e2,if_true]at hl⊢;have e:=A.ex p h q hq zJ h0 hl;unfold Bt at e⊢;simp only[e1,e2,if_true];exact e
   ·unfold Bt;simp only[e1,e2,if_true,if_false];exact .inl (RG p e1 _ (by have:=A.le p h;exact a0 (ac3 h0 (by decide)) this))
  ·simp only[e1,if_false]at h0;lia
noncomputable def i8(b:Bool)(k:Nat):Int:=if b=true then [120,60,40,30,24].getD k 0 else [315,105,63,45,35].getD k 0
noncomputable def OC(b:Bool)(n:Nat):Int:=if b=true then [5,120,60,20].getD n 5 else [3,315,105,21].getD n 3
theorem Df(h:5≤k):i8 b k=0:=by
 unfold i8;split
 ·rw[fb];rw[mn (h)];rfl
 ·rw[fb];rw[mn (h)];rfl
theorem i9(b:Bool)(k:Nat):i8 b (k+1)≤i8 b k/\0≤i8 b k/\(k+1<5->i8 b (k+1)<i8 b k)/\(k<5->0<i8 b k):=by
 by_cases h:5≤k
 ·rw[Df h];rw[Df (afz h)];lia
 ·have:k=0∨k=1∨k=2∨k=3∨k=4:=by lia
  rcases this with rfl|rfl|rfl|rfl|rfl<;>cases b<;>decide
theorem w7{v:Nat->Int}(hv: ∀p,0≤v p):qu λp k=>v p*i8 b k:=λp k=>PQ (i9 b k).1 (hv p)
theorem I2(p:Int)(hn:n≤4)(hj:j<n):OC b n*(p*1*jA b n).fdiv (xo b j)=p*i8 b j:=by
 have H: ∀n≤4,∀j<n,jA b n=xo b j*(jA b n/xo b j)/\OC b n*(jA b n/xo b j)=i8 b j/\0<xo b j:=by cases b<;>decide+kernel
 have h:=H n hn j hj;rw[Ee _ (qr h.2.2)];rw[adh];rw[h.1];rewrite [aap p];rw[Int.mul_ediv_cancel_left _ (Bi h.2.2)];rw[aap];rw[h.2.1];rfl
theorem Lj:0<OC b n:=by
 by_cases h:n<4
 ·have H: ∀n<4,0<OC b n:=by cases b<;>decide
  exact H n h
 ·unfold OC;rw[fb];rw[fb];rw[mn (mr.mp h)];rw[mn (mr.mp h)];cases b<;>decide
theorem di(h:j<k+1):j<k∨j=k:=afs (vi h)
theorem qO{W:Nat->Int}{n i:Nat}(hW: ∀j,j+1<n->W (j+1)<W j): ∀{j:Nat},i<j->j<n->W j<W i
 |j+1,h,hj=>(di h).elim (λz=>abL (hW j hj) (qO hW z (ac5 hj))) λe=>by rw[e];exact hW j hj
theorem I3(m:Int): ∀n:Nat,(∀j,j+1<n->W (j+1)<W j)-> ∀j<n,(m<W j↔j<((ar n).map W).countP (λz=>decide (m<z))):=by
 intro lz;induction lz with
 |zero=>intro _ _ h;exact absurd h (t5 _)
 |succ n ih=>
  intro hW j hj;have ih:=ih λj h=>hW j (fg h);have hle:((ar n).map W).countP (λz=>decide (m<z))≤n:=ae vk (by rw[ag];rw[cf];exact cq n);rw[Kk];rw[ew];rw[HI];show m<W j↔j<_+List.countP _ [W n];rw[aeb];generalize ((ar n).map W).countP (λz=>decide (m<z))=c at*
  by_cases hm:m<W n
  ·rw[if_pos (decide_eq_true hm)];have hn:n≤c:=by
    cases n with
    |zero=>exact kS _
    |succ k=>exact(ih k (gN k)).mp (abL hm (hW k (gN _)))
   exact⟨λaa=>a0 hj (FC hn),λaa=>(di hj).elim (λz=>abL hm (qO hW z (gN n))) λe=>e▸hm⟩
  ·rw[if_neg λe=>hm (of_decide_eq_true e)];rw[te];exact(di hj).elim (ih j) λe=>by rw[e];exact⟨λh=>absurd h hm,λh=>absurd h (mr.mpr hle)⟩
theorem I4{s:List Int}{m:Int}{n:Nat}(hs:s.Pairwise (· ≤ ·))(hn:1≤n)(hl:n≤s.length)(hm:s[s.length-n]?=some m):s.countP (λz=>decide (m<z))<n/\n≤s.countP λz=>decide (m≤z):=by
 refine nn λhN=>?_;obtain⟨hi,em⟩:=ed.mp hm;have e:s=s.take (s.length-n)++m::s.drop (s.length-n+1):=by refine bS (em ..) ?_;refine bS (mi hi ..) ?_;rw[aag];rfl
 have hb:(s.drop (s.length-n+1)).length+1=n:=by rw[Qr];refine bS (Nat.sub_sub ..) ?_;rw[Nat.sub_sub_self hl];rw[U2 hn];rfl
 generalize s.take (s.length-n)=a at*
 generalize s.drop (s.length-n+1)=b at*
 rw[e]at hs;have hp:=abW.mp hs;have hc:=aft.mp hp.2.1;refine hN ?_;rw[e];rw[HI];rw[HI];rw[aco.mpr λx hx h=>absurd (of_decide_eq_true h) (uk.mpr (hp.2.2 x hx m (.head _)))];rw[Mo];rw[List.countP_cons_of_neg (p:=λz=>decide (m<z)) λh=>absurd (of_decide_eq_true h) (PH m)];refine⟨bj vk (hb▸gN _),ae (km ?_) (aah ..)⟩;rw[List.countP_eq_length.mpr λx hx=>decide_eq_true ((a5.mp hx).elim (λe=>aa3 e.symm) (hc.1 x))];exact hb.symm
noncomputable def tS(n C:Nat)(e:Nat->Bool):Nat->Nat
 |0=>0
 |i+1=>tS n C e i+if C+tS n C e i<n/\e i=true then 1 else 0
theorem lO(n C:Nat)(e:Nat->Bool)(i:Nat):tS n C e (i+1)=tS n C e i+if C+tS n C e i<n/\e i=true then 1 else 0:=rfl
theorem Dg(h:i≤j):tS n C e i≤tS n C e j:=by
 obtain⟨d,rfl⟩: ∃d,j=i+d:=⟨j-i,(adR (abB h))⟩;clear h;induction d with
 |zero=>exact cq _
 |succ d ih=>refine bS (vw ..) ?_;rw[lO];exact ae ih (cb (tS n C e (i+d)) (if C+tS n C e (i+d)<n/\e (i+d)=true then 1 else 0))
theorem MA(h:C≤n): ∀i,C+tS n C e i≤n
 |0=>h
 |i+1=>by have:=MA (e:=e) h i;rw[lO];split<;>omega
theorem I5: ∀i,C+tS n C e i<n->tS n C e i=aD i λq=>if e q=true then 1 else 0
 |0,_=>rfl
 |i+1,h=>by
  have hm:tS n C e i≤tS n C e (i+1):=Dg (me i);have hc:C+tS n C e i<n:=(bj (eQ hm C) h);have ih:=I5 (n:=n) (C:=C) (e:=e) i hc;rw[bZ];refine bS (ih ..) ?_;rw[lO]
  by_cases he:e i=true
  ·rw[if_pos ⟨hc,he⟩];rw[if_pos he];rfl
  ·rw[if_neg (λz=>he z.2)];rw[if_neg he];rfl
noncomputable def tH(n C:Nat)(c:Nat->Nat)(e:Nat->Bool)(i p:Nat):Nat:=c p+if p<i then tS n C e (p+1)-tS n C e p else 0
theorem w9: ∀p,tH n C c e (i+1) p=upd (tH n C c e i) i (tH n C c e i i+if C+tS n C e i<n/\e i=true then 1 else 0) p:=λp=>by
 unfold upd tH
 by_cases h:p=i
 ·subst h;rw[if_pos rfl];rw[if_pos (xt p)];rw[if_neg (ib p)];rw[lO];rw[abi];rw[te];rfl
 ·rw[if_neg h]
  by_cases h2:p<i
  ·rw[if_pos h2];rw[if_pos (fg h2)];rfl
  ·rw[if_neg h2];rw[if_neg (by lia)];rfl
theorem BI: ∀i≤L,aD L (tH n (aD L c) c e i)=aD L c+tS n (aD L c) e i
 |0,_=>jD λp aa=>by unfold tH;rw[if_neg (t5 _)];rfl
 |i+1,h=>by have ih:=BI (n:=n) (L:=L) (c:=c) (e:=e) i (ec h);rw[jD (P:=L) (a:=upd (tH n (aD L c) c e i) i (tH n (aD L c) c e i i+if aD L c+tS n (aD L c) e i<n/\e i=true then 1 else 0)) λp aa=>w9 p];have h1:=fZ (P:=L) (p:=i) (x:=tH n (aD L c) c e i i+if aD L c+tS n (aD L c) e i<n/\e i=true then 1 else 0) (tH n (aD L c) c e i) (h);exact(abV (h1.trans ((vw ..).symm.trans (y5 ..)))).trans (by rw[ih];rw[lO];rw[vw];rfl)
theorem vF{α:Type}(l:List α)(d:α)(g:α->Nat):aD l.length (λi=>g (l.getD i d))=(l.map g).sum:=by
 unfold aD;congr 1;apply w0
 ·simp
 ·intro i h1 h2;simp at h1 h2;simp[h1]
noncomputable def cN(b:Bool)(n:Nat)(m:Int)(vs:List Int)(i:Nat):Nat:=(fj b n (vs.getD i 0)).countP λz=>decide (m<z)
noncomputable def eB(b:Bool)(n:Nat)(m:Int)(vs:List Int)(i:Nat):Bool:=decide (m∈fj b n (vs.getD i 0))
theorem Dh: ∀i≤vs.length,eS b n m vs (vs.map (cI b n m)) i=(ar vs.length).map λp=>((tH n (aD vs.length (cN b n m vs)) (cN b n m vs) (eB b n m vs) i p:Nat):Int)
 |0,_=>by
  show vs.map (cI b n m)=_;apply w0
  ·simp
  ·intro i h1 h2;simp at h1 h2;simp only[abR,abc];unfold tH cI cN;rw[if_neg (t5 _)];rw[ab6];simp[h1]
 |i+1,h=>by
  have ih:=Dh (b:=b) (n:=n) (m:=m) i (xk h);have tQ:=BI (n:=n) (c:=cN b n m vs) (e:=eB b n m vs) i (xk h);rewrite [lH];rw[ih];rw[sum_ints];rw[tQ];generalize hC:aD vs.length (cN b n m vs)=C at*
  have MB:((C+tS n C (eB b n m vs) i:Nat):Int)<n/\m∈fj b n (vs.getD i 0)↔C+tS n C (eB b n m vs) i<n/\eB b n m vs i=true:=by
   unfold eB;rw[decide_eq_true_eq];constructor
   ·rintro⟨h1,h2⟩;exact⟨by lia,h2⟩
   ·rintro⟨h1,h2⟩;exact⟨by lia,h2⟩
  by_cases hc:C+tS n C (eB b n m vs) i<n/\eB b n m vs i=true
  ·rw[if_pos (MB.mpr hc)];apply w0
   ·simp
   ·intro p h1 h2;simp at h1 h2;simp only[abR,abc];rw[List.getElem_set];rw[w9];unfold upd
    by_cases e:i=p
    ·subst e;rw[if_pos rfl];rw[if_pos rfl];rw[if_pos hc];simp[h1]
    ·rw[if_neg e];rw[if_neg (Nw e)];simp
  ·rw[if_neg (λz=>hc (MB.mp z))];apply i5;intro p _;rw[w9];unfold upd
   by_cases e:p=i
   ·subst e;rw[if_pos rfl];rw[if_neg hc];rw[te];rfl
   ·rw[if_neg e];rfl
theorem oH(a:Nat->Nat)(hp:p<P):a p≤aD P a:=by have:=fZ (x:=0) a hp;rw[te]at this;exact this▸aah ..
theorem kQ{α β:Type}(l:List α)(f:α->List β)(p:β->Bool):(l.flatMap f).countP p=(l.map λx=>(f x).countP p).sum:=by
 induction l with
 |nil=>rfl
 |cons a l ih=>rw[tq];rw[HI];rw[eA];rw[vy];rw[ih];rfl
theorem Lk(m:Int): ∀l:List Int,l.Nodup->l.countP (λz=>decide (m≤z))≤l.countP (λz=>decide (m<z))+if m∈l then 1 else 0:=by
 intro lz;induction lz with
 |nil=>intro _;exact kS _
 |cons x l ih=>
  intro h;have ih:=ih (dn.mp h).2;rw[QP];rw[QP]
  by_cases e:m=x
  ·rw[if_neg λz=>(dn.mp h).1 (e▸z)]at ih;rw[if_pos (decide_eq_true (aa3 e))];rw[if_neg λz=>absurd (of_decide_eq_true z) (e▸PH _)];rw[if_pos (e▸ .head _)];exact FC ih
  ·have e1:decide (m≤x)=decide (m<x):=decide_eq_decide.mpr ⟨λz=>aer.mpr ⟨z,e⟩,qr⟩;have e2:(m∈x::l)=(m∈l):=propext ⟨λz=>(a5.mp z).elim (λz=>absurd z e) id,.tail _⟩;rw[e1];rw[y5];refine nf (ae ih (km ?_)) _;simp only[e2]
theorem OD(m:Int)(n:Nat)(hW: ∀j,j+1<n->W (j+1)<W j):((ar n).map W).countP (λz=>decide (m≤z))≤((ar n).map W).countP (λz=>decide (m<z))+if m∈(ar n).map W then 1 else 0:=Lk m _ (BM.mpr (Ml (λaa hj h=>Bi (qO hW h (a9.mp hj))) hZ))
theorem Wx{W f:Nat->Int}{K m:Int}{n c:Nat}{P:Prop}[Decidable P](hK:0<K)(hW: ∀j<n,K*W j=f j)(hf: ∀{i j},i≤j->f j≤f i)(cy: ∀j<n,(m<W j↔j<c))(Mq:c≤n)(hm:P-> ∃j<n,W j=m)(h0:0<c+if P then 1 else 0):
  A3 (m≤W (c+(if P then 1 else 0)-1)) (W (c+(if P then 1 else 0)-1)=m->P) (c+(if P then 1 else 0)-1<n):=by
 by_cases h:P
 ·rw[if_pos h];rw[afr];obtain⟨j,hj,ej⟩:=hm h;have h1:c≤j:=mr.mp λz=>uk.mpr (aa3 ej) ((cy j hj).mpr z);have h2:=bj h1 hj;have h3:=hf h1;rw[<-hW j hj,<-hW c h2,ej]at h3;exact⟨acP h3 hK,λaa=>h,h2⟩
 ·rw[if_neg h,te]at h0⊢;have h1:=je h0 Mq;have h2:=(cy (c-1) h1).mpr (IH h0);exact⟨qr h2,λe=>absurd h2 (uk.mpr (aa3 e)),h1⟩
theorem Wy{W:Nat->Int}{n c:Nat}[Decidable P](tn: ∀j,j+1<n->W (j+1)<W j)(cy: ∀j<n,(m<W j↔j<c))(hl:(c+if P then 1 else 0)<n):
  W (c+if P then 1 else 0)≤m/\(W (c+if P then 1 else 0)=m-> ¬P/\W c=m):=by
 have hc:c<n->W c≤m:=λh=>uk.mp λz=>ib _ ((cy c h).mp z)
 by_cases h:P
 ·rw[if_pos h]at hl⊢;have h1:=TB (tn c hl) (hc (ac5 hl));exact⟨qr h1,λe=>absurd h1 (uk.mpr (aa3 e.symm))⟩
 ·rw[if_neg h,te]at hl⊢;exact⟨hc hl,λe=>⟨h,e⟩⟩
noncomputable def tN(n C:Nat)(c:Nat->Nat)(e:Nat->Bool)(i:Nat):Nat:=c i+if C+tS n C e i<n/\e i=true then 1 else 0
theorem OE{L n C:Nat}{K m:Int}{c:Nat->Nat}{e:Nat->Bool}{W f:Nat->Nat->Int}(hK:0<K)(hf:qu f)(hW: ∀i j,j<n->K*W i j=f i j)(tn: ∀i<L,∀j,j+1<n->W i (j+1)<W i j)(cy: ∀i<L,∀j<n,(m<W i j↔j<c i))(Mq: ∀i<L,c i≤n)
  (kD: ∀i,e i=true↔ ∃j<n,W i j=m){p q:Nat}(hp:p<L)(hq:q<L)(h0:0<tN n C c e p)(hl:tN n C c e q<n):Bt f p (tN n C c e p-1) q (tN n C c e q):=by
 obtain⟨a1,a2,a3⟩:=Wx hK (hW p) (λh=>hf.le p h) (cy p hp) (Mq p hp) (λh=>(kD p).mp h.2) h0;obtain⟨b1,b2⟩:=Wy (tn q hq) (cy q hq) hl;unfold Bt tN;refine bS (hW p _ a3 ..) ?_;refine bS (hW q _ hl ..) ?_;refine(abj (hV b1 a1)).elim (λz=> .inl (Fh z hK)) λz=> .inr ⟨congrArg (K* ·) z,?_⟩;have x1:=(a2 (aea (z▸b1) a1)).1;have y1:=b2 (aea b1 (z▸a1));have y2:n≤C+tS n C e q:=mr.mp λw=>y1.1 ⟨w,(kD q).mpr ⟨_,bj (cb ..) hl,y1.2⟩⟩;exact(He p q).elim id λw=>absurd x1 (mr.mpr (ae y2 (eQ (Dg w) C)))
theorem ze(x y:Nat->Nat): ∀L,aD L (λi=>x i+y i)=aD L x+aD L y:=by
 intro lz;induction lz with
 |zero=>exact rfl
 |succ L ih=>rw[bZ];rw[bZ];rw[bZ];rw[ih];rw[Nat.add_add_add_comm];rfl
theorem MC(hi:i<L):tH n C c e L i=tN n C c e i:=by unfold tH tN;rw[if_pos hi];rw[lO];rw[abi];rfl
theorem OF{c:Nat->Nat}(h:C<n)(F3:n≤C+aD L λi=>if e i=true then 1 else 0):C+tS n C e L=n:=sx (MA (ec h) L) (mr.mp λz=>absurd z (mr.mpr (by rw[I5 L z];exact F3)))
theorem OH(b:Bool)(n:Nat): ∀l:List Int,(l.map λx=>(fj b n x).length).sum=n*l.length:=by
 intro lz;induction lz with
 |nil=>exact rfl
 |cons a l ih=>rw[eA];rw[vy];rw[ih];rw[th];rw[adJ];rw[wx];unfold fj;rw[ag];rw[cf];rfl
theorem OI(hn:n≤4)(hv: ∀x∈vs,1≤x)(hL:1≤vs.length)(h:sR b n vs res):
  ∃a:Nat->Nat,res=(ar vs.length).map (λp=>(a p:Int))/\bk vs.length (λi k=>vs.getD i 0*i8 b k) (λaa=>n) n a:=by
 rcases h with⟨e1,e2⟩|⟨oK,s,m,hp,hs,hm,e⟩
 ·rw[e1];rw[e2];refine⟨λaa=>0,?_,bk.zero⟩;apply w0<;>simp
 have xU: ∀i<vs.length,1≤vs.getD i 0:=λi hi=>hv _ (by simp[hi]);have hvn: ∀i,0≤vs.getD i 0:=λi=>(He i vs.length).elim (λhi=>hV (by decide) (xU i hi)) λhi=>by simp[hi]
 have hf:=w7 (b:=b) hvn;have hK:=Lj (b:=b) (n:=n);have hW: ∀i j,j<n->OC b n*(vs.getD i 0*1*jA b n).fdiv (xo b j)=vs.getD i 0*i8 b j:=λi j hj=>I2 _ hn hj;generalize Yk:(λ(i j:Nat)=>(vs.getD i 0*1*jA b n).fdiv (xo b j))=W at*
 have hW: ∀i j,j<n->OC b n*W i j=vs.getD i 0*i8 b j:=λi j hj=>by refine bS (Yk ..) ?_;exact hW i j hj
 have Wz: ∀i,fj b n (vs.getD i 0)=(ar n).map (W i):=λi=>by refine bS (Yk ..) ?_;rfl
 have tn: ∀i<vs.length,∀j,j+1<n->W i (j+1)<W i j:=λi hi j hj=>by have h4:=Fh ((i9 b j).2.2.1 (a0 hj (ae hn (by decide)))) (xU i hi);rw[<-hW i (j+1) hj,<-hW i j (ac5 hj)]at h4;exact aaG h4 (qr hK)
 have cy: ∀i<vs.length,∀j<n,(m<W i j↔j<cN b n m vs i):=λi hi j hj=>by have:=I3 (W:=W i) m n (tn i hi) j hj;unfold cN;rw[Wz];exact this
 have hlen:s.length=n*vs.length:=by rw[hp.length_eq];rw[aaT];exact OH b n vs
 obtain⟨F1,F2⟩:=I4 hs oK (by rw[hlen];exact Nat.le_mul_of_pos_right _ hL) hm;rw[hp.countP_eq,kQ,<-vF vs 0 λx=>(fj b n x).countP λz=>decide (m<z)]at F1;rw[hp.countP_eq,kQ,<-vF vs 0 λx=>(fj b n x).countP λz=>decide (m≤z)]at F2;have F1:aD vs.length (cN b n m vs)<n:=F1;have F3:n≤aD vs.length (cN b n m vs)+aD vs.length λi=>if eB b n m vs i=true then 1 else 0:=by refine bS (ze ..) (ae F2 (gM λi hi=>?_));have:=OD (W:=W i) m n (tn i hi);unfold cN eB;simp only[decide_eq_true_eq];rw[Wz];exact this
 have kD: ∀i,eB b n m vs i=true↔ ∃j<n,W i j=m:=λi=>by unfold eB;rw[decide_eq_true_eq];rw[Wz];refine eV (bb ..) ?_;exact⟨λzz=>by obtain⟨j,h,e⟩:=zz;exact⟨j,a9.mp h,e⟩,λzz=>by obtain⟨j,h,e⟩:=zz;exact⟨j,a9.mpr h,e⟩⟩
 refine⟨tH n (aD vs.length (cN b n m vs)) (cN b n m vs) (eB b n m vs) vs.length,e.trans (Dh vs.length (cq _)),?_⟩;have tQ:=(BI (n:=n) (c:=cN b n m vs) (e:=eB b n m vs) vs.length (cq _)).trans (OF (c:=cN b n m vs) F1 F3);refine⟨λi hi=>ae (oH _ hi) (km tQ),tQ,λp hp q hq aa h0 hl=>?_⟩;rw[MC hp]at h0⊢;rw[MC hq]at hl⊢;exact OE hK hf hW tn cy (λi hi=>ec (bj (oH _ hi) F1)) kD hp hq h0 hl
theorem m5(P:Nat):aD P (λaa=>0)=0:=by
 induction P with
 |zero=>rfl
 |succ P ih=>rw[bZ];rw[ih];rfl
theorem fQ: ∀(r:List Nat) (P:Nat),r.Nodup->(∀p∈r,p<P)->aD P (λp=>if p∈r then a p else 0)=(r.map a).sum
 | [],P,_,_=>by exact m5 P
 |x::r,P,bU,hp=>by
  have hx:=dn.mp bU;have h1:=fQ (a:=a) r P hx.2 λp h=>hp p (.tail _ h);have h2:=fZ (x:=a x) (λp=>if p∈r then a p else 0) (hp x (.head _));have h3:aD P (λp=>if p∈x::r then a p else 0)=aD P (upd (λp=>if p∈r then a p else 0) x (a x)):=jD λp aa=>by
   unfold upd
   by_cases e:p=x
   ·subst e;simp
   ·simp[e]
  rw[eA];rw[vy];rw[h3];simp only[hx.1,if_false]at h2;lia
theorem bk.congr(A:bk P f ln n a)(h: ∀p<P,∀k,f p k=f' p k):bk P f' ln n a:=⟨A.le,A.sum,λp hp q hq zJ h0 hl=>by have:=A.ex p hp q hq zJ h0 hl;unfold Bt at this⊢;rewrite [<-h p hp];rewrite [<-h q hq];exact this⟩
theorem zf(a:Nat->Nat)(hp:p<P)(hq:q<P)(zJ:p≠q):a p+a q≤aD P a:=by
 have h1:=fZ (x:=0) a hp;have h2:=oH (upd a p 0) hq;have h3:upd a p 0 q=a q:=by unfold upd;rw[if_neg (Nw zJ)];rfl
 rw[h3]at h2;rw[te]at h1;refine bS (h1 ..) ?_;rw[wx];exact nf h2 _
theorem bk.R9(T:bk P f (λaa=>n) n t)(h: ∀p<P,t p≤ln p):bk P f ln n t:=⟨h,T.sum,λp hp q hq zJ h0 aa=>T.ex p hp q hq zJ h0 (by have:=zf t hp hq zJ;have:=T.sum;lia)⟩
theorem bk.over(hf:qu f)(T:bk P f (λaa=>n) n t)(A:bk P f ln n a)(hk:k<P)(h:ln k<t k):a k=ln k:=by
 have h1:=A.le k hk;refine sx h1 (mr.mp λcy=>?_);obtain⟨q,hq,zI⟩:=vE (T.sum.trans A.sum.symm) hk (oo cy h);have Yl:k≠q:=λe=>by subst e;exact Hd (oo cy h) zI
 have e1:=T.ex k hk q hq Yl (og h) (a0 zI (A.sum▸oH a hq));have e2:=A.ex q hq k hk (Nw Yl) (og zI) cy;exact IY hf e1 e2 (aav zI) (aav (oo cy h))
theorem tu{free:List Nat}{P:Nat}(hs:free.Pairwise (· < ·))(hp: ∀p∈free,p<P):free.length≤P:=by have bU:free.Nodup:=hs.imp λh=>du h;have:=abM bU (l₂:=ar P) λx hx=>a9.mpr (hp x hx);simpa using this
theorem bk.lP{P n:Nat}{f:Nat->Nat->Int}{ln a:Nat->Nat}{part:List Nat}(A:bk P f ln n a)(bU:part.Nodup)(hp: ∀p∈part,p<P):(part.map a).sum≤n:=by
 refine bS (fQ part P bU hp ..) ?_;refine bS (A.sum ..) ?_;refine gM λp aa=>?_;split
 ·exact cq _
 ·exact kS _
theorem MD(hP:P≤3)(xU: ∀p,0≤v p)(hv: ∀p<P,1≤v p/\v p≤1000)(hn:n≤4)(A:bk P (λp k=>v p*i8 b k) ln n a):
  Om b P v (λp=>(ln p:Int)) (λp=>(a p:Int)) λfree n' =>free.Pairwise (· < ·)/\(∀p∈free,p<P)/\n' =(free.map a).sum where
 P3:=(ae hP (by decide))
 hv:=λp hp=>by have:=hv p hp;lia
 free:=λfree n' ⟨hs,hp,e⟩=>by have h1:=tu hs hp;have bU:free.Nodup:=hs.imp λh=>du h;exact⟨(ae h1 (ae hP (by decide))),hp,e▸ae (A.lP bU hp) hn⟩
 step:=λfree n' told m7 ⟨hs,hp,e⟩ hd=>by
  have bU:free.Nodup:=hs.imp λh=>du h;have Du:n' ≤4:=e▸ae (A.lP bU hp) hn;obtain⟨t,rfl,T⟩:=OI Du (λx hx=>by obtain⟨p,EY,rfl⟩:=bb.mp hx;exact(hv p (hp p EY)).1) (by rw[ag];exact aaS.mpr m7) hd;rw[ag]at T⊢;have A' :=A.sub hs hp;rw[<-e]at A';have T' :bk free.length (λi k=>v (free.getD i 0)*i8 b k) (λaa=>n') n' t:=T.congr λp hp k=>by simp[hp]
  have hf:qu λi k=>v (free.getD i 0)*i8 b k:=w7 λp=>xU _;have Ym: ∀k<free.length,((ar free.length).map λp=>((t p:Nat):Int)).getD k 0=(t k:Int):=λk hk=>by simp[hk]
  constructor
  ·intro ho;have hle: ∀i<free.length,t i≤ln (free.getD i 0):=λi hi=>by
    refine mr.mp λz=>?_;have:free.getD i 0∈eU free ((ar free.length).map λp=>((t p:Nat):Int)) (λp=>(ln p:Int)):=by unfold eU;refine bb.mpr ⟨i,fI.mpr ⟨a9.mpr hi,?_⟩,rfl⟩;rw[Ym i hi];rw[decide_eq_true_eq];show((ln (free.getD i 0):Nat):Int)<(t i:Int);lia
    rw[ho]at this;cases this
   have hu:=bk.uniq hf (T'.R9 hle) A';apply w0
   ·simp
   ·intro i h1 h2;simp at h1 h2;have:=hu i h2;simp[h2]at this⊢;lia
  ·intro ho;have Mw: ∀p∈eU free ((ar free.length).map λp=>((t p:Nat):Int)) (λp=>(ln p:Int)),a p=ln p:=λp Yn=>by unfold eU at Yn;obtain⟨k,hk,rfl⟩:=bb.mp Yn;obtain⟨hk,cy⟩:=fI.mp hk;have hk:=a9.mp hk;rw[Ym k hk,decide_eq_true_eq]at cy;have cy:((ln (free.getD k 0):Nat):Int)<(t k:Int):=cy;exact bk.over (ln:=λi=>ln (free.getD i 0)) (a:=λi=>a (free.getD i 0)) hf T' A' hk (by lia)
   have qh:=vA (free:=free) (told:=(ar free.length).map λp=>((t p:Nat):Int)) (l:=λp=>(ln p:Int));have WA:(eU free ((ar free.length).map λp=>((t p:Nat):Int)) (λp=>(ln p:Int))).Nodup:=by unfold eU;refine eV (aas ..) ?_;refine eV (BM ..) ?_;refine Ml (λ{i j} hi hj h=>?_) (wi _ hZ);have hi:=a9.mp (fI.mp hi).1;have hj:=a9.mp (fI.mp hj).1;have:=H0.mp hs i j hi hj h;simp[hi,hj];exact du this
   generalize eU free ((ar free.length).map λp=>((t p:Nat):Int)) (λp=>(ln p:Int))=over at*
   have WB:(free.filter λp=>!decide (p∈over)).Pairwise (· < ·):=wi _ hs;refine⟨λp hp=>by rw[Mw p hp];rfl,((free.filter λp=>!decide (p∈over)).map a).sum,?_,WB,λp h=>hp p (fI.mp h).1,rfl⟩;have h1:=fQ (a:=a) free P bU hp;have h2:=fQ (a:=a) over P WA λp h=>hp p (qh p h);have h3:=fQ (a:=a) (free.filter λp=>!decide (p∈over)) P (WB.imp λh=>du h) λp h=>hp p (fI.mp h).1;have h4:=ze (λp=>if p∈over then a p else 0) (λp=>if p∈free.filter (λp=>!decide (p∈over))then a p else 0) P;have h5:aD P (λp=>(if p∈over then a p else 0)+if p∈free.filter (λp=>!decide (p∈over))then a p else 0)=aD P λp=>if p∈free then a p else 0:=jD λp aa=>by
    by_cases hf:p∈free
    ·by_cases ho:p∈over
     ·simp[hf,ho]
     ·simp[hf,ho]
    ·have ho:p∉over:=λz=>hf (qh p z);simp[hf,ho]
   have h6:(over.map λp=>((ln p:Nat):Int)).sum=(((over.map a).sum:Nat):Int):=by
    have: ∀r:List Nat,(∀p∈r,a p=ln p)->(r.map λp=>((ln p:Nat):Int)).sum=(((r.map a).sum:Nat):Int):=by
     intro r;induction r with
     |nil=>intro _;rfl
     |cons x r ih=>intro h;have h1:=ih λp hp=>h p (.tail _ hp);have h2:=h x (.head _);simp only[eA,vy,h1,h2];rfl
    exact this over Mw
   rw[h6];lia
theorem zh{xv:Int}{k:Nat}(h:k<4):i8 (!decide (xv=3)) k=(if xv=3 then 3 else 10)*(EW xv).getD k 0:=by
 unfold i8 EW;have:k=0∨k=1∨k=2∨k=3:=by lia
 by_cases h3:xv=3
 ·simp only[h3,decide_true,Pl,kz,if_false,if_true];rcases this with rfl|rfl|rfl|rfl<;>rfl
 ·simp only[h3,decide_false,ahg,if_true,if_false];rcases this with rfl|rfl|rfl|rfl<;>rfl
noncomputable def kR(xv:Int)(v:Nat->Int)(p k:Nat):Int×Int:=(-(v p)*(EW xv).getD k 0,(p:Int))
theorem ja(xv:Int)(P:Nat)(v:Nat->Int)(ln:Nat->Nat):rowsOf xv P v ln=(ar P).flatMap λp=>(ar (ln p)).map (kR xv v p):=rfl
theorem I6{xv:Int}{v:Nat->Int}{p k q j:Nat}(hk:k<4)(hj:j<4):dB (kR xv v p k) (kR xv v q j)=true↔Bt (λp k=>v p*i8 (!decide (xv=3)) k) p k q j:=by
 unfold dB kR Bt;rw[decide_eq_true_eq];simp only;rw[zh hk];rw[zh hj];have e1:v p*((if xv=3 then 3 else 10)*(EW xv).getD k 0)=(if xv=3 then 3 else 10)*(v p*(EW xv).getD k 0):=aap _ _ _;have e2:v q*((if xv=3 then 3 else 10)*(EW xv).getD j 0)=(if xv=3 then 3 else 10)*(v q*(EW xv).getD j 0):=aap _ _ _;rw[e1];rw[e2];rw[aiq];rw[aiq];generalize v p*(EW xv).getD k 0=x;generalize v q*(EW xv).getD j 0=y;have hK:0<(if xv=3 then 3 else 10:Int):=by split<;>decide
 generalize (if xv=3 then 3 else 10:Int)=K at*
 have e:(-x= -y)↔K*y=K*x:=⟨λh=>by rw[Int.neg_inj.mp h];rfl,λh=>by rw[Int.eq_of_mul_eq_mul_left (Bi hK) h];rfl⟩;exact or_congr ⟨λh=>Fh (Int.lt_of_neg_lt_neg h) hK,λh=>Int.neg_lt_neg (aaG h (qr hK))⟩ (and_congr e Hk)
theorem zj{xv:Int}{v:Nat->Int}{p k j:Nat}(hv:1≤v p)(Yo:k<j)(hj:j<4):dB (kR xv v p k) (kR xv v p j)=true:=by refine eV (I6 (oo Yo hj) hj ..) (.inl ?_);have h:=qO (W:=i8 (!decide (xv=3))) (n:=4) (λj h=>(i9 _ j).2.2.1 (oo h (by decide))) Yo hj;exact Fh h (hv)
theorem tw{xv:Int}{P:Nat}{v:Nat->Int}{ln:Nat->Nat}(hv: ∀p<P,1≤v p)(oB: ∀p<P,ln p≤3):(rowsOf xv P v ln).Nodup:=by
 rw[ja];refine eV (aas ..) ?_;refine eV (aec ..) ?_;refine⟨λp hp=>?_,?_⟩
 ·have hp:=a9.mp hp;refine eV (BM ..) (Ml (λ{i j} hi hj h e=>?_) hZ);have hj:=a9.mp hj;have:=zj (xv:=xv) (hv p hp) h (by have:=oB p hp;exact a0 hj (ae this (by decide)));rw[e,i6]at this;cases this
 ·refine List.Pairwise.imp (λ{p q} h x hx y hy e=>?_) hZ;obtain⟨i,_,rfl⟩:=bb.mp hx;obtain⟨j,_,rfl⟩:=bb.mp hy;have:((p:Int))=(q:Int):=congrArg Prod.snd e;lia
theorem zk{xv:Int}{P:Nat}{v:Nat->Int}{ln:Nat->Nat}:(rowsOf xv P v ln).length=aD P ln:=by rw[ja];rw[aaT];unfold aD;congr 1;exact i5 λp aa=>by simp
theorem zl: ∀n:Nat,(∀i j,i<j->j<n->p j=true->p i=true)-> ∀j<n,(p j=true↔j<(ar n).countP p)
 |0,_,_,h=>absurd h (t5 _)
 |n+1,hp,j,hj=>by
  have ih:=zl (p:=p) n λi j h1 h2=>hp i j h1 (fg h2);have hle:(ar n).countP p≤n:=by have:=vk (p:=p) (l:=ar n);simpa using this
  rw[Kk];rw[HI];rw[aeb]
  by_cases hm:p n=true
  ·have WC:(ar n).countP p=n:=by
    by_cases h0:n=0
    ·exact sx hle (h0▸kS _)
    ·have:=(ih (n-1) (ahh h0)).mp (hp (n-1) n (ahh h0) (xt n) hm);exact sx hle (Nat.le_of_pred_lt this)
   rw[WC];rw[if_pos hm];constructor
   ·intro _;exact hj
   ·intro _
    by_cases e:j=n
    ·subst e;exact hm
    ·exact hp j n (by lia) (xt n) hm
  ·rw[if_neg hm]
   by_cases e:j=n
   ·subst e;constructor
    ·intro h;exact absurd h hm
    ·intro h;lia
   ·rw[te];exact ih j (by lia)
theorem Ll: ∀(P:Nat) (T:List (Int×Int)),(∀r∈T,∃p<P,r.2=(p:Int))->aD P (λp=>T.countP λr=>decide (r.2=(p:Int)))=T.length:=by
 intro P lz;induction lz generalizing P with
 |nil=>intro _;exact m5 P
 |cons r T ih=>
  intro h;have ih:=ih P λx hx=>h x (.tail _ hx);obtain⟨p,hp,e⟩:=h r (.head _);have h1:aD P (λq=>(r::T).countP λr=>decide (r.2=(q:Int)))=aD P (upd (λq=>T.countP λr=>decide (r.2=(q:Int))) p (T.countP (λr=>decide (r.2=(p:Int)))+1)):=jD λq hq=>by
   unfold upd;rw[QP]
   by_cases e2:q=p
   ·subst e2;rw[if_pos rfl];rw[if_pos (by simp[e])];rfl
   ·rw[if_neg e2];rw[if_neg (by simp[e];lia)];rw[te];rfl
  have h2:=fZ (x:=T.countP (λr=>decide (r.2=(p:Int)))+1) (λq=>T.countP λr=>decide (r.2=(q:Int))) hp;rw[h1];rw[th];lia
theorem EH{xv:Int}{P n:Nat}{v:Nat->Int}{ln:Nat->Nat}{rs:List (Int×Int)}(hv: ∀p<P,1≤v p)(oB: ∀p<P,ln p≤3)(hn:n≤aD P ln)(hp:rs.Perm (rowsOf xv P v ln))(hs:rs.Pairwise λx y=>dB x y=true):
  bk P (λp k=>v p*i8 (!decide (xv=3)) k) ln n λp=>(rs.take n).countP λr=>decide (r.2=(p:Int)):=by
 have kD: ∀p<P,∀j<ln p,kR xv v p j∈rs:=λp o6 j hj=>hp.mem_iff.mpr (by rw[ja];exact aaN.mpr ⟨p,a9.mpr o6,bb.mpr ⟨j,a9.mpr hj,rfl⟩⟩)
 have hlen:n≤rs.length:=by rw[hp.length_eq];rw[zk];exact hn
 have bU:rs.Nodup:=hp.nodup_iff.mpr (tw hv oB);have yY:rs=rs.take n++rs.drop n:=(aag n rs).symm;have I7: ∀x∈rs.take n,∀y∈rs,y∉rs.take n->dB x y=true:=λx hx y hy hny=>by
  rw[yY]at hs hy;rcases cp.mp hy with h|h
  ·exact absurd h hny
  ·exact(abW.mp hs).2.2 x hx y h
 have BJ: ∀p<P,(rs.take n).countP (λr=>decide (r.2=(p:Int)))=(ar (ln p)).countP λj=>decide (kR xv v p j∈rs.take n):=λp wY=>by
  have h1:rs.countP (λr=>decide (r∈rs.take n)&&decide (r.2=(p:Int)))=(rs.take n).countP λr=>decide (r.2=(p:Int)):=by
   conv=>lhs;arg 2;rw[yY]
   rw[HI];have h2:(rs.drop n).countP (λr=>decide (r∈rs.take n)&&decide (r.2=(p:Int)))=0:=by refine eV (aco ..) ?_;intro x hx;rw[yY]at bU;have:=(kd.mp bU).2.2;simp only[dk,decide_eq_true_eq,not_and];intro h3;exact absurd rfl (this x h3 x hx)
   rw[h2];rw[te];exact afS λx hx=>by simp[hx]
  refine bS (h1 ..) ?_;rw[hp.countP_eq];rw[ja];rw[kQ];have h3:((ar P).map λq=>((ar (ln q)).map (kR xv v q)).countP λr=>decide (r∈rs.take n)&&decide (r.2=(p:Int))).sum=aD P (λq=>if q∈[p]then(ar (ln q)).countP (λj=>decide (kR xv v q j∈rs.take n))else 0):=by
   unfold aD;congr 1;refine i5 λq aa=>?_;rw[List.countP_map]
   by_cases e:q=p
   ·subst e;rw[if_pos (by simp)];exact afS λj aa=>by simp[kR]
   ·rw[if_neg (by simpa using e)];refine eV (aco ..) ?_;intro j _;simp[kR];intro _;lia
  rw[h3];rw[fQ [p] P (by simp) (by simpa using wY)];simp
 have Sa: ∀p<P,∀j<ln p,(kR xv v p j∈rs.take n↔j<(rs.take n).countP λr=>decide (r.2=(p:Int))):=λp wY j hj=>by
  rw[BJ p wY];have:=zl (p:=λj=>decide (kR xv v p j∈rs.take n)) (ln p) (λi j C4 hj h=>?_) j hj
  ·rewrite [<-this];rw[decide_eq_true_eq];rfl
  ·rw[decide_eq_true_eq]at h⊢;refine mf λSb=>?_;have h1:=I7 _ h _ (kD p wY i (oo C4 hj)) Sb;have h2:=zj (xv:=xv) (hv p wY) C4 (by have:=oB p wY;exact a0 hj (ae this (by decide)));have:=jC h1 h2;rw[i6]at this;cases this
 refine⟨λp wY=>?_,?_,λp wY q WD zJ h0 hl=>?_⟩
 ·show(rs.take n).countP _≤ln p;rw[BJ p wY];have:=vk (p:=λj=>decide (kR xv v p j∈rs.take n)) (l:=ar (ln p));simpa using this
 ·rw[Ll P (rs.take n) λr hr=>?_,oD,so hlen];have:=hp.mem_iff.mp (wd hr);rw[ja]at this;obtain⟨p,wY,h⟩:=aaN.mp this;obtain⟨j,_,rfl⟩:=bb.mp h;exact⟨p,a9.mp wY,rfl⟩
 ·have h1:(rs.take n).countP (λr=>decide (r.2=(p:Int)))≤ln p:=by rw[BJ p wY];have:=vk (p:=λj=>decide (kR xv v p j∈rs.take n)) (l:=ar (ln p));simpa using this
  have h2:=(Sa p wY ((rs.take n).countP (λr=>decide (r.2=(p:Int)))-1) (a0 (ac3 h0 (by decide)) h1)).mpr (ac3 h0 (by decide));have h3:kR xv v q ((rs.take n).countP λr=>decide (r.2=(q:Int)))∉rs.take n:=λz=>by have:=(Sa q WD _ hl).mp z;exact aeu 0 (oT (ads this))
  have:=I7 _ h2 _ (kD q WD _ hl) h3;rwa[I6 (by have:=oB p wY;exact a0 (a0 (ac3 h0 (by decide)) h1) (ec (bj this (by decide)))) (by have:=oB q WD;exact a0 hl (ae this (by decide)))]at this
theorem EI{rows rs Mx:List (Int×Int)}(h1:rs.Perm rows)(h2:Mx.Perm rows)(s1:rs.Pairwise λx y=>dB x y=true)(s2:Mx.Pairwise λx y=>dB x y=true):rs=Mx:=aa2 (le:=λx y=>dB x y=true) (λa b aa aa x y=>by have:=jC x y;rw[i6]at this;cases this) s1 s2 (h1.trans h2.symm)
noncomputable def cD(ln:Nat->Nat)(p:Nat):List Nat:=(ar (ln p)).map λk=>aD p ln+k
theorem OJ{ln:Nat->Nat}{p:Nat}: ∀{q:Nat},p<q->aD p ln+ln p≤aD q ln
 |q+1,h=>by rw[bZ];exact(di h).elim (λz=>ae (OJ z) (cb ..)) λe=>by rw[e];exact cq _
theorem EJ{ln:Nat->Nat}{c:Nat}: ∀{P:Nat},c<aD P ln-> ∃p<P,∃j<ln p,c=aD p ln+j:=by
 intro lz;induction lz with
 |zero=>intro h;exact absurd h (t5 _)
 |succ P ih=>
  intro h;rw[bZ]at h;rcases He c (aD P ln)with h1|h1
  ·obtain⟨p,hp,j,hj,e⟩:=ih h1;exact⟨p,(fg hp),j,hj,e⟩
  ·exact⟨P,(xt P),c-aD P ln,(Nat.sub_lt_left_of_lt_add h1 h),(adR (abB h1))⟩
theorem lR(hp:p<P)(hj:j<ln p):aD p ln+j<aD P ln:=by have:=OJ (ln:=ln) hp;exact a0 (xn hj (aD p ln)) this
theorem xd(h:p<q)(hj:j<ln p):aD p ln+j<aD q ln+i:=a0 (lR h hj) (cb ..)
theorem OL(hj:j<ln p)(hi:i<ln q)(e:aD p ln+j=aD q ln+i):p=q/\j=i:=by
 rcases afA p q with h|h|h
 ·exact absurd e (du (xd h hj))
 ·subst h;exact⟨rfl,(aeV e)⟩
 ·exact absurd e.symm (du (xd h hi))
theorem tB:x∈cD ln p↔ ∃j<ln p,x=aD p ln+j:=by unfold cD;refine eV (bb ..) ?_;exact⟨λzz=>by obtain⟨j,hj,e⟩:=zz;exact⟨j,a9.mp hj,e.symm⟩,λzz=>by obtain⟨j,hj,e⟩:=zz;exact⟨j,a9.mpr hj,e.symm⟩⟩
theorem BK(ln:Nat->Nat)(p:Nat):(cD ln p).Pairwise (· < ·):=by unfold cD;exact eV (BM ..) (hZ.imp λh=>(xn h (aD p ln)))
theorem kT(hj:j<ln p):(kM (cD ln q)).testBit (aD p ln+j)=decide (p=q):=by
 unfold kM;rw[fT];rw[ui];rw[lh];refine eV (y3 ..) ?_;rw[decide_eq_true_eq];rw[decide_eq_true_eq];refine eV (tB ..) ?_;constructor
 ·rintro⟨i,hi,e⟩;exact(OL hj hi e).1
 ·rintro rfl;exact⟨j,hj,rfl⟩
def EZ(P:Nat)(ln b:Nat->Nat)(m:Nat):Prop:= ∀p<P,∀j<ln p,m.testBit (aD p ln+j)=decide (j<b p)
theorem Lm(C:EZ P ln b m)(hp:p<P)(hb:b p≤ln p)(h6:aD P ln≤6):(aB (m&&&kM (cD ln p))).length=b p:=by
 have bU:(aB (m&&&kM (cD ln p))).Nodup:=acF acg aaL;have h2:((ar (b p)).map λj=>aD p ln+j).Nodup:=by refine eV (aas ..) ?_;refine eV (BM ..) ?_;exact hZ.imp λh e=>du h (aeV e)
 have:=(aar bU h2).mpr λi=>by
  refine eV (dN ..) ?_;rw[DD];rw[dk];refine eV (bb ..) ?_;constructor
  ·rintro⟨h6,h1,h2⟩;unfold kM at h2;rw[fT,ui,lh,decide_eq_true_eq,tB]at h2;obtain⟨j,hj,rfl⟩:=h2;rw[C p hp j hj,decide_eq_true_eq]at h1;exact⟨j,a9.mpr h1,rfl⟩
  ·rintro⟨j,hj,rfl⟩;have hj:=a9.mp hj;have hl:=a0 hj hb;refine⟨a0 (lR hp hl) h6,?_,?_⟩
   ·rw[C p hp j hl];exact decide_eq_true hj
   ·rw[kT hl];exact decide_eq_true rfl
 simpa using this.length_eq
theorem vG(C:EZ P ln b m)(hb: ∀p<P,b p≤ln p)(h6:aD P ln≤6)(bU:part.Nodup)(fG: ∀p∈part,p<P)(hj:j<ln p):
  eG g m (aA split v (cD ln) part) (aD p ln+j)=if p∈part then g (b p)*((v p:Int):Rat)else 0:=by
 have go: ∀(r:List Nat) (q0:Rat),r.Nodup->(∀p∈r,p<P)->(aA split v (cD ln) r).foldl (λq v=>if v.2.testBit (aD p ln+j)then q+g (aB (m&&&v.2)).length*((v.1:Int):Rat)else q) q0=q0+if p∈r then g (b p)*((v p:Int):Rat)else 0:=by
  intro r;induction r with
  |nil=>intro q0 _ _;simp[aA,ad7]
  |cons x r ih=>
   intro q0 bU fG;have hx:=dn.mp bU;have Yp:=fG x (.head _);have e:aA split v (cD ln) (x::r)=(if oF split v x=true then [(1,kM (cD ln x)),(v x-1,kM (cD ln x))]else [(v x,kM (cD ln x))])++aA split v (cD ln) r:=by unfold aA;rw[tq];rfl
   rw[e];rw[abx]
   by_cases Pk:p=x
   ·subst Pk;have hl:=Lm C Yp (hb p Yp) h6;have hq:(if oF split v p=true then [((1:Int),kM (cD ln p)),(v p-1,kM (cD ln p))]else [(v p,kM (cD ln p))]).foldl (λq v=>if v.2.testBit (aD p ln+j)then q+g (aB (m&&&v.2)).length*((v.1:Int):Rat)else q) q0=q0+g (b p)*((v p:Int):Rat):=by
     split
     ·simp only[lp,aaH,kT hj,decide_true,if_true,hl];rw[ag4];have:((1:Int):Rat)=1:=rfl;rw[this]
      grind
     ·simp only[lp,aaH,kT hj,decide_true,if_true,hl]
    rw[hq];rw[ih _ hx.2 λp h=>fG p (.tail _ h)];rw[if_neg hx.1];rw[if_pos (.head _)];rw[ad7];rfl
   ·have hq:(if oF split v x=true then [((1:Int),kM (cD ln x)),(v x-1,kM (cD ln x))]else [(v x,kM (cD ln x))]).foldl (λq v=>if v.2.testBit (aD p ln+j)then q+g (aB (m&&&v.2)).length*((v.1:Int):Rat)else q) q0=q0:=by
     split
     ·simp only[lp,aaH,kT hj,Pk,decide_false,kz,if_false]
     ·simp only[lp,aaH,kT hj,Pk,decide_false,kz,if_false]
    rw[hq];rw[ih _ hx.2 λp h=>fG p (.tail _ h)];have:(p∈x::r)↔p∈r:=by simp[Pk]
    simp only[this]
 have:=go part 0 bU fG;rw[Rat.zero_add]at this;exact this
noncomputable def dS(b:Bool):Rat:=if b=true then 120 else 315
theorem pJ(b:Bool):0<dS b:=by cases b<;>decide
noncomputable def gS(b:Bool):Nat->Rat:=if b=true then H6 else CY
theorem Sd(b:Bool)(h:k<5):gS b k*dS b=((i8 b k:Int):Rat):=by
 have H: ∀k<5,gS b k*dS b=((i8 b k:Int):Rat):=by cases b<;>decide+kernel
 exact H k h
theorem I8(h:g*D=((s:Int):Rat)):(g*((v:Int):Rat))*D=((v*s:Int):Rat):=by rw[abg];grind
theorem zm(hD:0<D)(hx:x*D=((a:Int):Rat))(hy:y*D=((b:Int):Rat)):x<y↔a<b:=by rewrite [<-Rat.mul_lt_mul_right hD];rw[hx];rw[hy];refine eV (abo ..) ?_;rfl
theorem Di(hD:0<D)(hx:x*D=((a:Int):Rat))(hy:y*D=((b:Int):Rat)):x≤y↔a≤b:=by rewrite [<-abA];refine eV (zm hD hy hx ..) ?_;exact uk
noncomputable def fE(b:Bool)(v:Nat->Int)(part:List Nat)(p k:Nat):Int:=if p∈part then v p*i8 b k else 0
theorem qP(hv: ∀p,0≤v p):qu (fE b v part):=λp k=>by
 unfold fE;split
 ·exact w7 (b:=b) hv p k
 ·exact acn _
theorem Se(hv: ∀p,0≤v p)(p k:Nat):0≤fE b v part p k:=by
 unfold fE;split
 ·exact ahf (hv p) (i9 b k).2.1
 ·exact acn _
theorem OM(hv:1≤v p)(hp:p∈part)(hk:k<5):0<fE b v part p k:=by unfold fE;rw[if_pos hp];exact adt (hv) ((i9 b k).2.2.2 hk)
theorem Ln(C:EZ P ln c m)(hb: ∀p<P,c p≤ln p)(h6:aD P ln≤6)(bU:part.Nodup)(fG: ∀p∈part,p<P)(hj:j<ln p)(h5:c p<5):
  eG (gS b) m (aA split v (cD ln) part) (aD p ln+j)*dS b=((fE b v part p (c p):Int):Rat):=by
 rw[vG C hb h6 bU fG hj];unfold fE;split
 ·exact I8 (Sd b h5)
 ·rw[af6];rfl
theorem xe: ∀(l:List Rat) (q:Rat),∀y∈q::l,y≤l.foldl (λm q=>if m<q then q else m) q:=by
 intro lz;induction lz with
 |nil=>
  intro q y h;have:y=q:=by simpa using h
  rw[this];exact aaR
 |cons z l ih=>
  intro q y h;rw[lp];have ih:=ih (if q<z then z else q);have h0:=ih _ (.head _)
  by_cases CO:q<z
  ·simp only[CO,if_true]at ih h0⊢;rcases a5.mp h with rfl|h
   ·exact Bn (abK CO) h0
   ·exact ih y h
  ·simp only[CO,if_false]at ih h0⊢;rcases a5.mp h with rfl|h
   ·exact h0
   ·rcases a5.mp h with rfl|h
    ·exact Bn (abA.mp CO) h0
    ·exact ih y (.tail _ h)
theorem Dj(hi:i<k):q i≤Hy k q:=by refine xe ((kl 1 (k-1)).map q) (q 0) (q i) ?_;rw[show q 0::(kl 1 (k-1)).map q=(ar k).map q by rw[bJ (oT (og hi))];rfl];exact bb.mpr ⟨i,a9.mpr hi,rfl⟩
theorem head_filter: ∀(k i:Nat) (r:List Nat),(ar k).filter p=i::r->i<k/\p i=true/\ ∀c<i,p c=false:=λk i r h=>by
 have hm:i∈(ar k).filter p:=by rw[h];exact .head _
 obtain⟨h1,h2⟩:=fI.mp hm;have h1:=a9.mp h1;refine⟨h1,h2,λc hc=>?_⟩;cases WE:p c with
 |false=>rfl
 |true=>
  have Pu:c∈(ar k).filter p:=fI.mpr ⟨a9.mpr (oo hc h1),WE⟩;have hs:((ar k).filter p).Pairwise (· < ·):=wi _ hZ;rw[h]at Pu hs;rcases a5.mp Pu with e|e
  ·exact absurd hc (e▸ib _)
  ·exact absurd hc (Hd ((aft.mp hs).1 c e))
theorem I9(hk:1≤k):(n9 k q).headD 0<k/\(∀c<k,q c≤q ((n9 k q).headD 0))/\ ∀c<(n9 k q).headD 0,q c<q ((n9 k q).headD 0):=by obtain⟨i,r,e⟩:=CU (q:=q) hk;have e' :=e;unfold n9 at e';obtain⟨h1,h2,h3⟩:=head_filter k i r e';rw[e];show i<k/\(∀c<k,q c≤q i)/\ ∀c<i,q c<q i;rw[decide_eq_true_eq]at h2;refine⟨h1,λc hc=>by rw[h2];exact Dj hc,λc hc=>?_⟩;have h4:=Dj (q:=q) (oo hc h1);have h5:=h3 c hc;rw[decide_eq_false_iff_not]at h5;rw[h2];exact acJ h4 h5
structure BL(P:Nat)(ln β:Nat->Nat)(dg:List Nat):Prop where
 mem: ∀p<P,∀j<ln p,(aD p ln+j∈dg↔j<β p)
 lt: ∀c∈dg,c<aD P ln
 nd:dg.Nodup
theorem BL.dg{dg:List Nat}(G:BL P ln β dg):EZ P ln β (fS 0 dg):=λp hp j hj=>by rw[fT];rw[ui];rw[lh];refine eV (y3 ..) ?_;rw[decide_eq_true_eq];rw[decide_eq_true_eq];exact G.mem p hp j hj
theorem room(B:bk P f ln n β)(h:n<aD P ln): ∃p<P,β p<ln p:=by refine mf λhn=>?_;have h1:aD P ln≤aD P β:=gM λp hp=>mr.mp λz=>hn ⟨p,hp,z⟩;rw[B.sum]at h1;exact agm h h1
theorem zo(hf:qu f)(B:bk P f ln n β)(G:BL P ln β dg)
  (hi:i<aD P ln)(CN:i∉dg)(Sf: ∀p<P,β p<ln p-> ∀q<P,∀j<ln q,i=aD q ln+j->f p (β p)≤f q (β q)/\(aD p ln+β p<i->f p (β p)<f q (β q))):
  ∃β',A3 (bk P f ln (n+1) β') (BL P ln β' (dg++[i])) (∃q<P,i=aD q ln+β q/\β q<ln q/\β' =upd β q (β q+1)):=by
 obtain⟨q,hq,j,hj,rfl⟩:=EJ hi;have jd: ¬j<β q:=λz=>CN ((G.mem q hq j hj).mpr z);have WG:j=β q:=by
  rcases He (β q) j with z|z
  ·have:=(Sf q hq (oo z hj) q hq j hj rfl).2 (xn z (aD q ln));exact absurd this (PH _)
  ·exact sx z (aaM jd)
 subst WG;refine⟨upd β q (β q+1),bk.add hf B hq hj λp hp zJ Yq=>?_,⟨λp hp j FE=>?_,λc hc=>?_,?_⟩,q,hq,rfl,hj,rfl⟩
 ·obtain⟨h1,h2⟩:=Sf p hp Yq q hq (β q) hj rfl;unfold Bt;rcases abj h1 with z|z
  ·exact .inl z
  ·refine .inr ⟨z,?_⟩;rcases abk zJ with w|w
   ·exact absurd (h2 (xd w Yq)) (uk.mpr (aa3 z.symm))
   ·exact w
 ·refine eV (cp ..) ?_;refine eV (fx ..) ?_;refine eV (G.mem p hp j FE ..) ?_;unfold upd
  by_cases e:p=q
  ·subst e;rw[if_pos rfl];refine eV (adu ..) ?_;exact⟨λh=>h.elim fg λe=>e▸gN _,di⟩
  ·rw[if_neg e];constructor
   ·rintro(h|h)
    ·exact h
    ·exact absurd (OL FE hj h).1 e
   ·exact .inl
 ·rcases cp.mp hc with h|h
  ·exact G.lt c h
  ·rw[fx]at h;subst h;exact lR hq hj
 ·exact eV (kd ..) ⟨G.nd,by simp,λa ha b hb e=>CN (by rw[fx]at hb;refine bS (hb ..) ?_;refine bS (e ..) ?_;exact ha)⟩
theorem lQ(hv: ∀p,0≤v p)(oB: ∀p,ln p≤3)(h6:aD P ln≤6)(bU:part.Nodup)(fG: ∀p∈part,p<P):
  ∀n≤aD P ln,∃β,bk P (fE b v part) ln n β/\BL P ln β (cC (gS b) (aA split v (cD ln) part) (aD P ln) n)
 |0,_=>⟨λaa=>0,bk.zero,⟨λp hp j hj=>by show _∈([]:List Nat)↔_;simp,λaa h=>(nomatch h),rp⟩⟩
 |n+1,hn=>by
  obtain⟨β,B,G⟩:=lQ (b:=b) (v:=v) (split:=split) hv oB h6 bU fG n (ec hn);rewrite [yz];generalize hc:cC (gS b) (aA split v (cD ln) part) (aD P ln) n=dg at*
  obtain⟨h1,h2,h3⟩:=I9 (k:=aD P ln) (q:=addQ (gS b) (aA split v (cD ln) part) dg) (oT (og hn));generalize (n9 (aD P ln) (addQ (gS b) (aA split v (cD ln) part) dg)).headD 0=i at*
  have zH: ∀p<P,∀j<ln p,β p≤j->addQ (gS b) (aA split v (cD ln) part) dg (aD p ln+j)*dS b=((fE b v part p (β p):Int):Rat):=λp hp j hj jd=>by unfold addQ;rw[if_neg λz=>mr.mpr jd ((G.mem p hp j hj).mp z)];exact Ln G.dg B.le h6 bU fG hj (bj (ae (B.le p hp) (oB p)) (by decide))
  have CN:i∉dg:=λz=>by
   obtain⟨p,hp,hl⟩:=room B (hn);have e1:=h2 (aD p ln+β p) (lR hp hl);have e2:=zH p hp (β p) hl (cq _);have e3:addQ (gS b) (aA split v (cD ln) part) dg i=((-1:Int):Rat):=by unfold addQ;rw[if_pos z];rfl
   have e4:((-1:Int):Rat)*dS b=((if b=true then-120 else-315:Int):Rat):=by cases b<;>decide+kernel
   rw[e3,Di (pJ b) e2 e4]at e1;have:=Se (b:=b) (part:=part) hv p (β p);have e5:(if b=true then-120 else-315:Int)<0:=by cases b<;>decide
   exact absurd (aa5 e1 e5) (uk.mpr this)
  obtain⟨β',B',G',_⟩:=zo (qP hv) B G h1 CN λp hp hl q hq j hj e=>by subst e;have jd:β q≤j:=mr.mp λz=>CN ((G.mem q hq j hj).mpr z);have e2:=zH p hp (β p) hl (cq _);have e3:=zH q hq j hj jd;exact⟨(Di (pJ b) e2 e3).mp (h2 _ (lR hp hl)),λz=>(zm (pJ b) e2 e3).mp (h3 _ z)⟩
  exact⟨β',B',G'⟩
noncomputable def xg(n:Nat):Rat:=if n=0 then 0 else 1/(n:Rat)
theorem Lo(h:k<5):xg (k+1)*dS true=((i8 true k:Int):Rat):=by
 have H: ∀k<5,xg (k+1)*dS true=((i8 true k:Int):Rat):=by decide+kernel
 exact H k h
theorem zp(hex: ∃i<k,p i=true):((ar k).filter p).getLastD 0<k/\p (((ar k).filter p).getLastD 0)=true/\ ∀c<k,((ar k).filter p).getLastD 0<c->p c=false:=by
 obtain⟨i,hi,hpi⟩:=hex;have hm:i∈(ar k).filter p:=fI.mpr ⟨a9.mpr hi,hpi⟩;have hs:((ar k).filter p).Pairwise (· < ·):=wi _ hZ;generalize hl:(ar k).filter p=l at*
 have m7:l≠ []:=λe=>by rw[e]at hm;cases hm
 have Sg:l.getLastD 0=l.getLast m7:=by rw[acO];rw[List.getLast?_eq_some_getLast m7];rfl
 have hml:=List.getLast_mem m7;rw[Sg];have h1:l.getLast m7∈(ar k).filter p:=by rw[hl];exact hml
 obtain⟨h2,h3⟩:=fI.mp h1;refine⟨a9.mp h2,h3,λc hc Yr=>?_⟩;cases WE:p c with
 |false=>rfl
 |true=>
  have Pu:c∈l:=by refine bS (hl ..) ?_;exact fI.mpr ⟨a9.mpr hc,WE⟩
  have e:l=l.dropLast++[l.getLast m7]:=(ab5 m7).symm;have hd:c∈l.dropLast++[l.getLast m7]:=e▸Pu;rcases cp.mp hd with h|h
  ·rw[e]at hs;exact absurd ((abW.mp hs).2.2 c h (l.getLast m7) (.head _)) (mr.mpr (ec Yr))
  ·rw[fx]at h;exact absurd Yr (h▸ib _)
theorem Dk(h:m.testBit i=true):(m^^^(1<<<i)).testBit c=(m.testBit c&&!decide (c=i)):=by
 rw[agQ];rw[u3];rw[uj]
 by_cases e:c=i
 ·subst e;rw[h];simp
 ·have: ¬i=c:=λz=>e z.symm;simp[e,this]
theorem Ja{p:Nat->Bool}{f:Nat->Rat}: ∀k,(∃c<k,p c=true)-> ∃i<k,p i=true/\ ∀j<k,p j=true->f i≤f j:=by
 intro lz;induction lz with
 |zero=>intro WH;obtain⟨_,h,_⟩:=WH;exact absurd h (t5 _)
 |succ k ih=>
  intro WH;obtain⟨c,hck,Ys⟩:=WH
  by_cases hx: ∃c<k,p c=true
  ·obtain⟨i,hi,WI,Lq⟩:=ih hx
   by_cases WJ:p k=true/\f k<f i
   ·exact⟨k,gN k,WJ.1,λj hj jd=>(di hj).elim (λz=>Bn (abK WJ.2) (Lq j z jd)) λe=>e▸aaR⟩
   ·exact⟨i,fg hi,WI,λj hj jd=>(di hj).elim (λz=>Lq j z jd) λe=>abA.mp λz=>WJ ⟨e▸jd,e▸z⟩⟩
  ·have e:c=k:=(di hck).elim (λz=>absurd ⟨c,z,Ys⟩ hx) id;exact⟨k,gN k,e▸Ys,λj hj jd=>(di hj).elim (λz=>absurd ⟨j,z,jd⟩ hx) λe=>e▸aaR⟩
noncomputable def xh(f:Nat->Rat)(m k i:Nat):Bool:=m.testBit i&&(ar k).all λj=>!m.testBit j||decide (f i≤f j)
theorem m6:xh f m k i=true↔m.testBit i=true/\ ∀j<k,m.testBit j=true->f i≤f j:=by
 unfold xh;rw[dk];refine eV (d6 ..) ?_;refine and_congr_right λaa=>⟨λh j hj hb=>?_,λh j hj=>?_⟩
 ·have:=h j (a9.mpr hj);rwa[hb,Pl,lh,decide_eq_true_eq]at this
 ·cases hb:m.testBit j with
  |false=>rfl
  |true=>exact decide_eq_true (h j (a9.mp hj) hb)
structure ME(f:Nat->Rat)(m k i:Nat):Prop where
 lt:i<k
 bit:m.testBit i=true
 min: ∀c<k,m.testBit c=true->f i≤f c
 last: ∀c<k,m.testBit c=true->i<c->f i<f c
theorem BN(h: ∃c<k,m.testBit c=true):ME f m k (((ar k).filter (xh f m k)).getLastD 0):=by obtain⟨i,hi,WI,Lq⟩:=Ja (p:=m.testBit) (f:=f) k h;obtain⟨w1,w2,w3⟩:=zp (p:=xh f m k) ⟨i,hi,m6.mpr ⟨WI,Lq⟩⟩;have w2:=m6.mp w2;refine⟨w1,w2.1,w2.2,λc hc hb hic=>afP.mp λz=>Bool.noConfusion ((w3 c hc hic).symm.trans (m6.mpr ⟨hb,λj hj jd=>Bn z (w2.2 j hj jd)⟩))⟩
section
variable{P n m:Nat}{v:Nat->Int}{split:Int}{ln β:Nat->Nat}{part:List Nat}
def Yt (F:Nat->Rat)(P:Nat)(v:Nat->Int)(part:List Nat)(ln β:Nat->Nat):Prop:= ∀p<P,∀j<ln p,0<β p->F (aD p ln+j)*dS true=((fE true v part p (β p-1):Int):Rat)
theorem Lr(oB: ∀p,ln p≤3)(h6:aD P ln≤6)(bU:part.Nodup)(fG: ∀p∈part,p<P)(B:bk P (fE true v part) ln n β)(C:EZ P ln β m):Yt (eG xg m (aA split v (cD ln) part)) P v part ln β:=λp hp j hj h0=>by
 rw[vG C B.le h6 bU fG hj];unfold fE;split
 ·have e:=I8 (v:=v p) (Lo (k:=β p-1) (bj (Q1 ..) (bj (ae (B.le p hp) (oB p)) (by decide))));rwa[U2 h0]at e
 ·rw[af6];rfl
theorem xj(C:EZ P ln β m)(hp:p<P)(hj:j<ln p)(h:j<β p):m.testBit (aD p ln+j)=true:=by rw[C p hp j hj];exact decide_eq_true h
theorem EK(hv: ∀p,0≤v p)(B:bk P (fE true v part) ln (n+1) β)(C:EZ P ln β m)(jN: ∀c,m.testBit c=true->c<aD P ln)(zH:Yt F P v part ln β)(L:ME F m (aD P ln) i):
  ∃β,A3 (bk P (fE true v part) ln n β) (EZ P ln β (m^^^(1<<<i))) (∀c,(m^^^(1<<<i)).testBit c=true->c<aD P ln):=by
 refine nn λhN=>?_;obtain⟨q,hq,jj,Yu,ei⟩:=EJ L.lt;have jd:jj<β q:=by have:=L.bit;rw[ei,C q hq jj Yu]at this;exact of_decide_eq_true this
 have h0:0<β q:=og jd;have zI:=je h0 (B.le q hq);have WG:jj=β q-1:=(afs (aav jd)).elim (λz=>by have h1:=L.last (aD q ln+(β q-1)) (lR hq zI) (xj C hq zI (IH h0)) (ei▸xn z _);rw[ei,zm (pJ true) (zH q hq jj Yu h0) (zH q hq (β q-1) zI h0)]at h1;exact absurd h1 (PH _)) id
 rw[WG]at ei;have s1:=zH q hq (β q-1) zI h0;rw[<-ei]at s1;refine hN ⟨upd β q (β q-1),bk.drop (qP hv) B hq h0 λp hp zJ DK=>?_,λp hp j hj=>?_,λc hc=>?_⟩
 ·have wz:=je DK (B.le p hp);have Yw:=xj C hp wz (IH DK);have s2:=zH p hp (β p-1) wz DK;refine(abj ((Di (pJ true) s1 s2).mp (L.min _ (lR hp wz) Yw))).elim .inl λz=> .inr ⟨z,(abk zJ).elim id λw=>?_⟩;have h2:=(zm (pJ true) s1 s2).mp (L.last _ (lR hp wz) Yw (ei▸a0 (xn zI _) (ae (OJ w) (cb ..))));exact absurd h2 (z▸PH _)
 ·rw[Dk L.bit];rw[C p hp j hj];rw[ei];unfold upd
  by_cases e:p=q
  ·rw[e];rw[if_pos rfl];refine eV (y3 ..) ?_;rw[dk];rw[decide_eq_true_eq];rw[decide_eq_true_eq];rw[afF];refine eV (decide_eq_false_iff_not ..) ?_;refine eV (adu ..) ?_;exact⟨λh=>TO (aav h.1) h.2,λh=>⟨a0 h (Q1 ..),du h⟩⟩
  ·rw[if_neg e];rw[decide_eq_false λz=>e (OL hj zI z).1];rw[ahg];rw[ahC];rfl
 ·rw[Dk L.bit,dk]at hc;exact jN c hc.1
theorem Jb(B:bk P f ln n β)(C:EZ P ln β m)(h0:0<n): ∃c<aD P ln,m.testBit c=true:=by refine mf λSb=>?_;have h1:aD P β≤aD P λaa=>0:=gM λp hp=>mr.mp λz=>Sb (have h:=je z (B.le p hp);⟨_,lR hp h,xj C hp h (IH z)⟩);rw[m5,B.sum]at h1;exact absurd h1 (agm h0)
theorem Dl(hv: ∀p,0≤v p)(oB: ∀p,ln p≤3)(h6:aD P ln≤6)(bU:part.Nodup)(fG: ∀p∈part,p<P):
  ∀j n,j+n=aD P ln-> ∃β,A3 (bk P (fE true v part) ln n β) (EZ P ln β (qq xg (aA split v (cD ln) part) (aD P ln) j)) (∀c,(qq xg (aA split v (cD ln) part) (aD P ln) j).testBit c=true->c<aD P ln):=by
 intro lz;induction lz with
 |zero=>
  intro n hn;refine⟨ln,?_,λp hp j hj=>?_,λc hc=>?_⟩
  ·have:=bk.all (P:=P) (f:=fE true v part) (ln:=ln);rw[<-hn,Mo]at this;exact this
  ·rewrite [vm];rw[fT];rw[ui];rw[lh];refine eV (y3 ..) ?_;rw[decide_eq_true_eq];rw[decide_eq_true_eq];refine eV (a9 ..) ?_;have:=lR (ln:=ln) hp hj;exact⟨λaa=>hj,λaa=>this⟩
  ·rewrite [vm]at hc;rw[fT,ui,lh,decide_eq_true_eq]at hc;exact a9.mp hc
 |succ j ih=>intro n hn;refine nn λhN=>?_;obtain⟨β,B,C,jN⟩:=ih (n+1) (by refine bS (hn ..) ?_;rw[y5];rfl);exact hN (EK hv B C jN (Lr oB h6 bU fG B C) (BN (Jb B C (zt n))))
end
noncomputable def pK(split:Int)(v:Nat->Int)(p:Nat):List Int:=if oF split v p=true then [1,v p-1]else [v p]
noncomputable def vP(split:Int)(v:Nat->Int)(part:List Nat):List (Nat×Int):=part.flatMap λp=>(pK split v p).map λw=>(p,w)
noncomputable def qe(β:Nat->Nat)(v:Nat->Int)(p:Nat):Rat:=((β p:Int):Rat)/((v p:Int):Rat)
theorem jb(split:Int)(v:Nat->Int)(fB:Nat->List Nat)(part:List Nat):aA split v fB part=(vP split v part).map λx=>(x.2,kM (fB x.1)):=by unfold aA vP;rw[abQ];refine congrArg (λf=>ah3 f part) (funext λp=>?_);unfold pK;split<;>rfl
theorem vH{split:Int}{v:Nat->Int}{p:Nat}: ∀{part:List Nat},part.Nodup->(vP split v part).filter (λx=>decide (p=x.1))=if p∈part then(pK split v p).map λw=>(p,w)else []:=by
 intro lz;induction lz with
 |nil=>intro _;exact rfl
 |cons x r ih=>
  intro bU;have hx:=dn.mp bU;have ih:=ih hx.2;have e:vP split v (x::r)=(pK split v x).map (λw=>(x,w))++vP split v r:=by unfold vP;rw[tq];rfl
  rw[e];rw[Hm];rw[ih];rw[aed]
  by_cases h:p=x
  ·subst h;rw[if_neg hx.1];rw[if_pos (.head _)];rw[fw];rewrite [acj.mpr];rfl;intro a _;simp
  ·rw[List.filter_eq_nil_iff.mpr (by intro a _;simp[h])];rw[XB];rw[List.nil_append];have:(p∈x::r)↔p∈r:=by simp[h]
   simp only[this]
section
variable{split:Int}{v:Nat->Int}{ln β:Nat->Nat}{part:List Nat}{P p j:Nat}
theorem Jc {α:Type}(hj:j<ln p)(l:List (Nat×Int))(f:Nat×Int->α):((l.map λx=>((x.2,kM (cD ln x.1)),f x)).filter λy=>y.1.2.testBit (aD p ln+j))=(l.filter λx=>decide (p=x.1)).map λx=>((x.2,kM (cD ln x.1)),f x):=by rw[aed];congr 1;refine ac2 λx aa=>?_;show(kM (cD ln x.1)).testBit (aD p ln+j)=_;rw[kT hj];rfl
theorem zq(bU:part.Nodup)(hj:j<ln p):vo (aA split v (cD ln) part) (aD p ln+j)=if p∈part then v p else 0:=by
 unfold vo;rw[jb];rw[aed];rw[dT];have e:(vP split v part).filter ((λx:Int×Nat=>x.2.testBit (aD p ln+j))∘λx=>(x.2,kM (cD ln x.1)))=(vP split v part).filter λx=>decide (p=x.1):=ac2 λx aa=>by show(kM (cD ln x.1)).testBit (aD p ln+j)=_;rw[kT hj];rfl
 rw[e];rw[vH bU];split
 ·unfold pK;split
  ·simp;lia
  ·simp
 ·rfl
theorem zu(bU:part.Nodup)(hj:j<ln p):pX (aA split v (cD ln) part) ((vP split v part).map λx=>qe β v x.1) (aD p ln+j)=if p∈part then(pK split v p).map λw=>qe β v p*((w:Int):Rat)else []:=by
 unfold pX;rw[jb];rw[ahE];rewrite [Jc hj];rw[vH bU];split
 ·rw[dT];rw[dT];rfl
 ·rfl
theorem xm(hv:1≤v p):qe β v p*((v p:Int):Rat)=((β p:Int):Rat):=by
 unfold qe;have h:((v p:Int):Rat)≠0:=λz=>by
  have:v p=0:=by exact_mod_cast z
  rw[this]at hv;exact absurd hv (by decide)
 rw[aby];rw[aam];rw[acH _ h];rw[agX];rfl
theorem Jd(hv:1≤v p):mX ((pK split v p).map λw=>qe β v p*((w:Int):Rat))=((β p:Int):Rat):=by
 have h:=xm (β:=β) hv;unfold pK mX;split
 ·simp only[eA,XB,lp,aaH];rw[ag4];have:((1:Int):Rat)=1:=rfl;rw[this]
  grind
 ·simp only[eA,XB,lp,aaH];rw[ad7];exact h
theorem vJ(bU:part.Nodup)(hv: ∀p∈part,1≤v p)(hj:j<ln p):yE (aA split v (cD ln) part) ((vP split v part).map λx=>qe β v x.1) n (aD p ln+j)=if p∈part then(((β p+1:Nat):Int):Rat)/((v p:Int):Rat)else((n+1:Int):Rat):=by
 unfold yE;rw[zq bU hj];rw[zu bU hj]
 by_cases h:p∈part
 ·have h1:=hv p h;rw[if_pos h];rw[if_pos h];rw[if_pos h];rw[if_pos (h1)];rw[Jd h1];congr 1;rw[show((β p+1:Nat):Int)=(β p:Int)+1 by rfl];rw[agW];rfl
 ·rw[if_neg h];rw[if_neg h];rw[if_neg h];rw[if_neg (by decide)];rfl
theorem zv(hj:j<ln p)(hx:x=(((β p+1:Nat):Int):Rat)/((v p:Int):Rat)):
  dh (aA split v (cD ln) part) ((vP split v part).map λx=>qe β v x.1) (aD p ln+j) x=(vP split v part).map λx=>qe (upd β p (β p+1)) v x.1:=by
 unfold dh;rw[jb];rw[ahE];rw[dT];refine i5 λy aa=>?_;show(if(kM (cD ln y.1)).testBit (aD p ln+j)then x else qe β v y.1)=_;rw[kT hj];unfold qe upd
 by_cases h:p=y.1
 ·rw[if_pos (by simpa using h)];rw[if_pos h.symm];rw[hx];rw[h];rfl
 ·rw[if_neg (by simpa using h)];rw[if_neg (λz=>h z.symm)];rfl
theorem Dm(h:1≤z):((z.toNat:Nat):Rat)=((z:Int):Rat):=by have h1:((z.toNat:Nat):Rat)=(((z.toNat:Nat):Int):Rat):=rfl;rw[h1];rw[Oy (qr h)];rfl
theorem Je(hv:1≤v p)(hb:β p≤3):Dv (v p).toNat 3 (qe β v p):=by refine⟨(β p:Int),?_,(hb)⟩;have:=xm (β:=β) hv;rw[Dm hv];exact this
theorem Dn: ∀l:List Rat,(∀x∈l,Dv D B x)->Dv D (l.length*B) (mX l):=by
 intro l;have go: ∀(l:List Rat) (q:Rat) (C:Nat),Dv D C q->(∀x∈l,Dv D B x)->Dv D (l.length*B+C) (l.foldl (λa q=>q+a) q):=by
  intro l;induction l with
  |nil=>intro q C h _;simpa using h
  |cons x l ih=>intro q C h hl;rw[lp];have:=ih (x+q) (B+C) ((hl x (.head _)).add h) λy hy=>hl y (.tail _ hy);rw[th];rw[af4];exact this.mono (km (adR (vw (l.length*B) B C)))
 intro h;have:=go l 0 0 Dv.zero h;unfold mX;simpa using this
theorem zw(hv:1≤v p/\v p≤40):(pK split v p).length≤2/\ ∀w∈pK split v p,w.natAbs≤40:=by
 unfold pK;split
 ·refine⟨cq _,λw hw=>?_⟩;simp only[a5,ij,or_false]at hw;rcases hw with e|e
  ·rw[e];decide
  ·rw[e];exact E8 (hV (by decide) (Int.sub_nonneg_of_le hv.1)) (hV (Int.sub_le_self _ (by decide)) hv.2)
 ·refine⟨by show 1≤2;decide,λw hw=>?_⟩;simp only[a5,ij,or_false]at hw;rw[hw];exact E8 (hV (by decide) hv.1) hv.2
theorem Jf(h:x∈vP split v part):x.1∈part:=by unfold vP at h;obtain⟨p,hp,h⟩:=aaN.mp h;obtain⟨w,_,rfl⟩:=bb.mp h;exact hp
set_option tactic.hygienic true in
theorem Jg(bU:part.Nodup)(hv: ∀p∈part,1≤v p/\v p≤40)(fG: ∀p∈part,p<P)(hb: ∀p<P,β p≤3)(hn:n≤4):Bq (aA split v (cD ln) part) ((vP split v part).map λx=>qe β v x.1) dg (aD P ln) n:=by
 have hd: ∀p∈part,0<(v p).toNat/\(v p).toNat<2^31:=λp hp=>⟨afV.mpr (hv p hp).1,bj (afW.mpr (hv p hp).2) (by decide)⟩;have WK: ∀i<aD P ln,∃D,A4 (0<D) (D≤40) (∀q∈pX (aA split v (cD ln) part) ((vP split v part).map λx=>qe β v x.1) i,Dv D (3*40) q) ((pX (aA split v (cD ln) part) ((vP split v part).map λx=>qe β v x.1) i).length≤2):=λi hi=>by
  obtain⟨p,hp,j,hj,Qj⟩:=EJ hi;rw[Qj];rw[zu bU hj]
  by_cases h:p∈part
  ·have h1:=hv p h;have h2:=zw (split:=split) h1;rw[if_pos h];refine⟨(v p).toNat,(hd p h).1,afW.mpr h1.2,λq hq=>?_,by rw[ag];exact h2.1⟩;obtain⟨w,hw,rfl⟩:=bb.mp hq;exact(Je h1.1 (hb p hp)).NX (h2.2 w hw)
  ·rw[if_neg h];exact⟨1,by decide,by decide,λaa h=>(nomatch h),kS _⟩
 refine⟨λq hq=>?_,λi hi q hq=>?_,λi hi j hj=>?_,λi hi=>?_,λi hi=>?_⟩
 ·obtain⟨x,hx,rfl⟩:=bb.mp hq;have h:=Jf hx;exact(Je (hv _ h).1 (hb _ (fG _ h))).sm (hd _ h).1 (hd _ h).2 (by decide)
 ·obtain⟨D,h1,h2,h3,_⟩:=WK i hi;exact(h3 q hq).sm h1 (bj h2 (by decide)) (by decide)
 ·obtain⟨D,h1,h2,h3,h4⟩:=WK i hi;have h5:=Dn (D:=D) (B:=3*40) ((pX (aA split v (cD ln) part) ((vP split v part).map λx=>qe β v x.1) i).take j) λx hx=>h3 x (wd hx);refine h5.sm h1 (bj h2 (by decide)) ?_;have h6:((pX (aA split v (cD ln) part) ((vP split v part).map λx=>qe β v x.1) i).take j).length≤2:=by rw[oD];exact ae (tp ..) h4
  exact bj (tx (3*40) h6) (by decide)
 ·obtain⟨D,h1,h2,h3,h4⟩:=WK i hi;have h5:=(Dn (D:=D) (B:=3*40) _ h3).add (Dv.int (D:=D) (i:=1));refine h5.sm h1 (bj h2 (by decide)) ?_;have:(1:Int).natAbs*D≤40:=by show 1*D≤40;rw[Nat.one_mul];exact h2
  exact bj (SF (tx (3*40) h4) this) (by decide)
 ·have hint: ∀z:Int,z.natAbs≤10->Sm ((z:Int):Rat):=λz hz=>(Dv.int (D:=1) (i:=z)).sm (by decide) (by decide) (by rw[Nat.mul_one];exact bj hz (by decide));unfold qL;split
  ·exact hint _ (show n+2≤10 from ae (nf hn 2) (by decide))
  ·obtain⟨p,hp,j,hj,PG⟩:=EJ hi;rw[PG];rw[vJ bU (λp hp=>(hv p hp).1) hj];split
   ·rename_i h
    have e:(((β p+1:Nat):Int):Rat)/((v p:Int):Rat)=qe (upd β p (β p+1)) v p:=by unfold qe upd;rw[if_pos rfl];rfl
    rw[e];have h1:=hv p h;have gC:=hb p hp;have:Dv (v p).toNat 4 (qe (upd β p (β p+1)) v p):=by refine⟨((β p+1:Nat):Int),?_,FC gC⟩;have:=xm (β:=upd β p (β p+1)) h1.1;rw[Dm h1.1];rw[this];unfold upd;rw[if_pos rfl];rfl
    exact this.sm (hd p h).1 (hd p h).2 (by decide)
   ·exact hint _ (show n+1≤10 from ae (nf hn 1) (by decide))
end
theorem Jh(hk:1≤k):(eO k q).headD 0<k/\(∀c<k,q ((eO k q).headD 0)≤q c)/\ ∀c<(eO k q).headD 0,q ((eO k q).headD 0)<q c:=by obtain⟨i,r,e⟩:=C1 (q:=q) hk;have e' :=e;unfold eO at e';obtain⟨h1,h2,h3⟩:=head_filter k i r e';rw[e];show i<k/\(∀c<k,q i≤q c)/\ ∀c<i,q i<q c;rw[decide_eq_true_eq]at h2;refine⟨h1,λc hc=>by rw[h2];exact oj hc,λc hc=>?_⟩;have h4:=oj (q:=q) (oo hc h1);have h5:=h3 c hc;rw[decide_eq_false_iff_not]at h5;rw[h2];exact acJ h4 λz=>h5 z.symm
theorem qQ(ha:1≤a):((x:Int):Rat)/((a:Int):Rat)*((a*b:Int):Rat)=((x*b:Int):Rat):=by
 have h:((a:Int):Rat)≠0:=λz=>by
  have:a=0:=by exact_mod_cast z
  rw[this]at ha;exact absurd ha (by decide)
 rw[abg];rw[abg];rw[aby];rw[aam];rewrite [<-aam _ ((a:Int):Rat)];rw[acH _ h];rw[ag0];rfl
theorem Dp(h:1≤a):0<((a:Int):Rat):=by have:((0:Int):Rat)<((a:Int):Rat):=abo.mpr (h);exact this
theorem ON(ha:1≤a)(hb:1≤b):((x:Int):Rat)/((a:Int):Rat)≤((y:Int):Rat)/((b:Int):Rat)↔x*b≤y*a:=Di (D:=((a*b:Int):Rat)) (Dp (adt ha hb)) (qQ ha) (by rw[ad3 a b];exact qQ hb)
theorem Ji(ha:1≤a)(hb:1≤b):((x:Int):Rat)/((a:Int):Rat)<((y:Int):Rat)/((b:Int):Rat)↔x*b<y*a:=zm (D:=((a*b:Int):Rat)) (Dp (adt ha hb)) (qQ ha) (by rw[ad3 a b];exact qQ hb)
theorem EL{a b c:Rat}(h1:a≤b)(h2:b<c):a<c:=by refine acJ (Bn h1 (abK h2)) λe=>?_;subst e;exact afP.mpr h2 h1
theorem zx(ha:1≤a)(h:x<z*a):((x:Int):Rat)/((a:Int):Rat)<((z:Int):Rat):=by
 have:=(Ji (x:=x) (y:=z) (a:=a) (b:=1) ha (by decide)).mpr (by lia);rw[show((z:Int):Rat)/((1:Int):Rat)=((z:Int):Rat) by rw[aby];rw[show((1:Int):Rat)=1 from rfl];rw[show(1:Rat)⁻¹ =1 by decide+kernel];rw[agX];rfl]at this
 exact this
theorem Sh(a b c d:Int):a*b*(c*d)=a*c*(b*d):=by rw[ahF];rewrite [aap b];refine bS (ahF ..) ?_;rfl
theorem OP(hx:x≤3)(hy:y≤3):(((x+1:Nat):Int)*b≤((y+1:Nat):Int)*a->b*i8 true y≤a*i8 true x)/\(((x+1:Nat):Int)*b<((y+1:Nat):Int)*a->b*i8 true y<a*i8 true x):=by
 have H: ∀k≤3,((k+1:Nat):Int)*i8 true k=120/\0<i8 true k:=by decide
 have h1:=H x hx;have h2:=H y hy;have e1:((x+1:Nat):Int)*b*(i8 true x*i8 true y)=120*(b*i8 true y):=by rw[Sh];rw[h1.1];rfl
 have e2:((y+1:Nat):Int)*a*(i8 true x*i8 true y)=120*(a*i8 true x):=by rewrite [ad3 (i8 true x)];rw[Sh];rw[h2.1];rfl
 have hp:=adt h1.2 h2.2;refine⟨λh=>?_,λh=>?_⟩
 ·have h:=Int.mul_le_mul_of_nonneg_right h (qr hp);rw[e1,e2]at h;exact acP h (by decide)
 ·have h:=Int.mul_lt_mul_of_pos_right h hp;rw[e1,e2]at h;exact aaG h (by decide)
set_option tactic.hygienic true in
theorem BO(xU: ∀p,0≤v p)(hv: ∀p∈part,1≤v p)(oB: ∀p,ln p≤3)(bU:part.Nodup)(fG: ∀p∈part,p<P)(hn:n≤(part.map ln).sum):
  ∀j≤n,∃β,A3 (bk P (fE true v part) ln j β) (BL P ln β (jL (aA split v (cD ln) part) (aD P ln) n j).2) ((jL (aA split v (cD ln) part) (aD P ln) n j).1=(vP split v part).map λx=>qe β v x.1)
 |0,_=>by refine⟨λaa=>0,bk.zero,⟨λp hp j hj=>by show _∈([]:List Nat)↔_;simp,λaa h=>(nomatch h),rp⟩,?_⟩;show(aA split v (cD ln) part).map (λaa=>((0:Int):Rat))=_;rw[jb];rw[dT];refine i5 λx aa=>?_;show((0:Int):Rat)=qe (λaa=>0) v x.1;unfold qe;rw[aby];show((0:Int):Rat)=((0:Int):Rat)*_;rw[show((0:Int):Rat)=0 from rfl];rw[af6];rfl
 |j+1,hj=>by
  obtain⟨β,B,G,eld⟩:=BO (split:=split) xU hv oB bU fG hn j (xk hj);have hk:1≤aD P ln:=ae (aah 1 j) (ae hj (ae hn ((bk.all (f:=fE true v part)).lP bU fG)));obtain⟨i1,i2,i3⟩:=Jh (q:=qL (aA split v (cD ln) part) (jL (aA split v (cD ln) part) (aD P ln) n j).1 (jL (aA split v (cD ln) part) (aD P ln) n j).2 n) hk;have MF:jL (aA split v (cD ln) part) (aD P ln) n (j+1)=(dh (aA split v (cD ln) part) (jL (aA split v (cD ln) part) (aD P ln) n j).1 ((eO (aD P ln) (qL (aA split v (cD ln) part) (jL (aA split v (cD ln) part) (aD P ln) n j).1 (jL (aA split v (cD ln) part) (aD P ln) n j).2 n)).headD 0) (qL (aA split v (cD ln) part) (jL (aA split v (cD ln) part) (aD P ln) n j).1 (jL (aA split v (cD ln) part) (aD P ln) n j).2 n ((eO (aD P ln) (qL (aA split v (cD ln) part) (jL (aA split v (cD ln) part) (aD P ln) n j).1 (jL (aA split v (cD ln) part) (aD P ln) n j).2 n)).headD 0)),(jL (aA split v (cD ln) part) (aD P ln) n j).2++[(eO (aD P ln) (qL (aA split v (cD ln) part) (jL (aA split v (cD ln) part) (aD P ln) n j).1 (jL (aA split v (cD ln) part) (aD P ln) n j).2 n)).headD 0]):=rfl;rw[MF];clear MF;generalize (jL (aA split v (cD ln) part) (aD P ln) n j).2=dg at*
  rw[eld]at i1 i2 i3⊢;generalize hi:(eO (aD P ln) (qL (aA split v (cD ln) part) ((vP split v part).map λx=>qe β v x.1) dg n)).headD 0=i at*
  have Tp: ∀p<P,∀jj<ln p,β p≤jj->qL (aA split v (cD ln) part) ((vP split v part).map λx=>qe β v x.1) dg n (aD p ln+jj)=if p∈part then(((β p+1:Nat):Int):Rat)/((v p:Int):Rat)else((n+1:Int):Rat):=λp hp jj OQ hb=>by unfold qL;rw[if_neg λz=>mr.mpr hb ((G.mem p hp jj OQ).mp z)];exact vJ bU hv OQ
  have hbn: ∀p<P,β p≤j:=λp hp=>ae (oH β hp) (km B.sum);obtain⟨p0,Tq,Yx⟩: ∃p,p∈part/\β p<ln p:=by
   refine mf λSb=>?_;have h1:=fQ (a:=ln) part P bU fG;have h2:aD P (λp=>if p∈part then ln p else 0)≤aD P β:=gM λp hp=>by
    split
    ·rename_i h;exact mr.mp λz=>Sb ⟨p,h,z⟩
    ·exact kS _
   rw[h1,B.sum]at h2;exact Nat.not_succ_le_self j (ae hj (ae hn h2))
  have EN:=fG p0 Tq;have sA:qL (aA split v (cD ln) part) ((vP split v part).map λx=>qe β v x.1) dg n i<((n+1:Int):Rat):=by have h1:=i2 (aD p0 ln+β p0) (lR EN Yx);rw[Tp p0 EN (β p0) Yx (cq _),if_pos Tq]at h1;refine EL h1 (zx (hv p0 Tq) ?_);have h2:=hbn p0 EN;have h3:=hv p0 Tq;have h4:(n+1:Int)*1≤(n+1:Int)*v p0:=PQ h3 (dA (n+1));rw[adh]at h4;exact TB (Hk.mpr (Nat.succ_lt_succ (bj h2 hj))) h4
  have CN:i∉dg:=λz=>by
   have e:qL (aA split v (cD ln) part) ((vP split v part).map λx=>qe β v x.1) dg n i=((n+2:Int):Rat):=by unfold qL;rw[if_pos z];rfl
   rw[e,abo]at sA;exact absurd sA (uk.mpr (aaQ (by decide) (n:Int)))
  obtain⟨β',B',G',q,hq,eq,BH,eβ⟩:=zo (qP xU) B G i1 CN λp hp hl q hq jj OQ e=>by
   subst e;have jd:β q≤jj:=mr.mp λz=>CN ((G.mem q hq jj OQ).mpr z);have e3:=Tp q hq jj OQ jd;have MG:q∈part:=mf λz=>by rw[e3,if_neg z]at sA;exact ahG sA
   rw[if_pos MG]at e3;have h5:=B.le q hq;have h6:=oB q;have h7:=B.le p hp;have h8:=oB p
   by_cases Jj:p∈part
   ·have e2:=Tp p hp (β p) hl (cq _);rw[if_pos Jj]at e2;have c:=OP (x:=β q) (y:=β p) (a:=v q) (b:=v p) (ae h5 h6) (ae h7 h8);unfold fE;rw[if_pos Jj];rw[if_pos MG];refine⟨?_,λz=>?_⟩
    ·have:=i2 _ (lR hp hl);rw[e2,e3,ON (hv q MG) (hv p Jj)]at this;exact c.1 this
    ·have:=i3 _ z;rw[e2,e3,Ji (hv q MG) (hv p Jj)]at this;exact c.2 this
   ·have h9:=OM (b:=true) (hv q MG) MG (bj (ae h5 h6) (by decide));have e0:fE true v part p (β p)=0:=by unfold fE;rw[if_neg Jj];rfl
    rw[e0];exact⟨qr h9,λaa=>h9⟩
  refine⟨β',B',G',?_⟩;have e3:=Tp q hq (β q) BH (cq _);have MG:q∈part:=mf λz=>by rw[eq,e3,if_neg z]at sA;exact ahG sA
  rw[if_pos MG]at e3;show dh _ _ i _=_;rw[eq];rw[e3];rw[eβ];exact zv BH rfl
theorem oJ:x∈(cD ln p).take t↔ ∃j<ln p,j<t/\x=aD p ln+j:=by
 unfold cD;refine bS (abh ..) ?_;rw[ag3];refine eV (bb ..) ?_;constructor
 ·rintro⟨j,hj,rfl⟩;have:=a9.mp hj;exact⟨j,(a0 this (tp t (ln p))),(a0 this (Dx t (ln p))),rfl⟩
 ·rintro⟨j,h1,h2,rfl⟩;exact⟨j,a9.mpr (Nat.lt_of_succ_le (Nat.le_min_of_le_of_le h2 h1)),rfl⟩
theorem Lu{ln a:Nat->Nat}{part:List Nat}(hs:part.Pairwise (· < ·)):(part.flatMap λp=>(cD ln p).take (a p)).Pairwise (· < ·):=by refine eV (aec ..) ⟨λp aa=>ah4 (afR _ _) (BK ln p),hs.imp λ{p q} h x hx y hy=>?_⟩;obtain⟨i,hi,_,rfl⟩:=oJ.mp hx;obtain⟨j,hj,_,rfl⟩:=oJ.mp hy;exact xd h hi
theorem zy{P m:Nat}{ln a β:Nat->Nat}{part:List Nat}(C:EZ P ln β m)(jN: ∀c,m.testBit c=true->c<aD P ln)(h6:aD P ln≤6)(hs:part.Pairwise (· < ·))(fG: ∀p∈part,p<P)(hβ: ∀p<P,β p=if p∈part then a p else 0):
  aB m=part.flatMap λp=>(cD ln p).take (a p):=by
 have h1:(aB m).Pairwise (· < ·):=wi _ hZ;have h2:=Lu (ln:=ln) (a:=a) hs;refine aa2 (le:=(· < ·)) (λa b aa aa x y=>(sx (ec x) (ec y))) h1 h2 ((aar (h1.imp λh=>du h) (h2.imp λh=>du h)).mpr λc=>?_);refine eV (dN ..) ?_;refine eV (aaN ..) ?_;constructor
 ·rintro⟨_,hb⟩;obtain⟨p,hp,j,hj,rfl⟩:=EJ (jN c hb);rw[C p hp j hj,decide_eq_true_eq,hβ p hp]at hb
  by_cases h:p∈part
  ·rw[if_pos h]at hb;exact⟨p,h,oJ.mpr ⟨j,hj,hb,rfl⟩⟩
  ·rw[if_neg h]at hb;lia
 ·rintro⟨p,hp,h⟩;obtain⟨j,hj,hja,rfl⟩:=oJ.mp h;have:=lR (ln:=ln) (fG p hp) hj;refine⟨(a0 this h6),?_⟩;rw[C p (fG p hp) j hj];rw[decide_eq_true_eq];rw[hβ p (fG p hp)];rw[if_pos hp];exact hja
theorem EM(hv: ∀p∈part,1≤v p/\v p≤40)(fG: ∀p∈part,p<P)(h6:aD P ln≤6): ∀x∈aA split v (cD ln) part,(0≤x.1/\x.1≤1000000)/\x.1.natAbs≤40/\ ∀c∈aB x.2,c<aD P ln:=by
 intro x hx;rw[jb]at hx;obtain⟨y,hy,rfl⟩:=bb.mp hx;have hyp:=Jf hy;have h1:=hv _ hyp;have h2:=fG _ hyp;have hw:y.2∈pK split v y.1:=by unfold vP at hy;obtain⟨p,hp,h⟩:=aaN.mp hy;obtain⟨w,hw,rfl⟩:=bb.mp h;exact hw
 refine⟨?_,(zw (split:=split) h1).2 _ hw,λc hc=>?_⟩
 ·unfold pK at hw;split at hw
  ·simp only[a5,ij,or_false]at hw;rcases hw with e|e<;>simp only[e]<;>lia
  ·simp only[a5,ij,or_false]at hw;simp only[hw];lia
 ·have hb:(aB (kM (cD ln y.1))).Perm (cD ln y.1):=lD (λz hz=>by obtain⟨j,hj,rfl⟩:=tB.mp hz;have:=lR (ln:=ln) h2 hj;exact a0 this h6) ((BK ln y.1).imp λh=>du h)
  obtain⟨j,hj,rfl⟩:=tB.mp (hb.mem_iff.mp hc);exact lR h2 hj
section
variable{prog:d5}{w:fA}
theorem Lv: ∀n≤6,Dv 420 420 (xg n):=λn hn=>by
 unfold xg;split
 ·exact Dv.zero.mono (kS _)
 ·have:=CX (n-1) (ae (Q1 n 1) hn);unfold H6 at this;rwa[U2 (acD (by assumption))]at this
theorem OS: ∀n:Nat,n≤6->Spec prog w (KK w.params) TT 5 (.ref 244) [MS "pav",.int (n:Int)] [] (· =FR (xg n)):=λn hn=>by
 refine Spec.mono (GG (n:Int) (dA n) (by lia)) (cq _) ?_;rintro r rfl;unfold xg
 by_cases h:n=0
 ·rw[if_pos h];rw[if_pos (by lia)];rfl
 ·rw[if_neg h];rw[if_neg (by lia)];rfl
theorem BP{xv:Nat}{P n:Nat}{v:Nat->Int}{split:Int}{ln a:Nat->Nat}{part:List Nat}(xU: ∀p,0≤v p)(hv: ∀p<P,1≤v p/\v p≤40)(oB: ∀p,ln p≤3)(h6:aD P ln≤6)(hs:part.Pairwise (· < ·))(fG: ∀p∈part,p<P)(wz:part.length≤3)
  (oK:1≤n)(hn4:n≤4)(hr:xv<4)(A:bk P (fE (!decide (xv=3)) v part) ln n λp=>if p∈part then a p else 0)(hle:n≤(part.map ln).sum):
  ∃m,aB m=(part.flatMap λp=>(cD ln p).take (a p))/\ ∃n' ≤17,Spec prog w (KK w.params) TT n' (.ref (IP (xv:Int))) [PT (aD P ln) (fN (aq w) (aA split v (cD ln) part)),.int (n:Int)] [] (· = .list [.aW (aq w) m]):=by
 have bU:part.Nodup:=hs.imp λh=>du h;have Ov: ∀p∈part,1≤v p/\v p≤40:=λp hp=>hv p (fG p hp);have OT:=EM (split:=split) Ov fG h6;have tO:(aA split v (cD ln) part).length≤6:=by have:=mZ (split:=split) (v:=v) (fB:=cD ln) part;lia
 have hk:n≤aD P ln:=ae hle ((bk.all (f:=fE true v part)).lP bU fG);have Lw:1≤(aA split v (cD ln) part).length:=by
  cases part with
  |nil=>simp at hle;exact ae oK (km hle)
  |cons p r=>unfold aA;rw[tq];rw[dy];split<;>simp<;>exact xk (cb (Nat.succ 1) (List.map (λa=>(if oF split v a=true then [(1,kM (cD ln a)),(v a-1,kM (cD ln a))]else [(v a,kM (cD ln a))]).length) r).sum)
 have pick: ∀{b:Bool} {β:Nat->Nat} {m:Nat},b=(!decide (xv=3))->bk P (fE b v part) ln n β->EZ P ln β m->(∀c,m.testBit c=true->c<aD P ln)->aB m=part.flatMap λp=>(cD ln p).take (a p):=λ{b β m} hb B C jN=>by subst hb;exact zy C jN h6 hs fG (bk.uniq (qP xU) B A)
 have WL: ∀{β:Nat->Nat} {dg:List Nat},BL P ln β dg-> ∀c,(fS 0 dg).testBit c=true->c<aD P ln:=λ{β dg} G c hc=>by rw[fT,ui,lh,decide_eq_true_eq]at hc;exact G.lt c hc
 have gr: ∀b,(∀j≤n,(∀i∈cC (gS b) (aA split v (cD ln) part) (aD P ln) j,i<aD P ln)/\(cC (gS b) (aA split v (cD ln) part) (aD P ln) j).Nodup):=λb j hj=>by obtain⟨β,_,G⟩:=lQ (b:=b) (split:=split) xU oB h6 bU fG j (ae hj hk);exact⟨G.lt,G.nd⟩
 have hrc:xv=0∨xv=1∨xv=2∨xv=3:=by lia
 rcases hrc with rfl|rfl|rfl|rfl
 ·obtain⟨β,B,G⟩:=lQ (b:=true) (split:=split) xU oB h6 bU fG n hk;exact⟨_,pick rfl B G.dg (WL G),17,cq _,Ir (sM (ae h6 (by decide)) Lw (ae tO (by decide)) oK hk rfl (bo tr) (ly _) Bu (CV (ly _) Ob (λj hj=>gj.of (D:=420) (C:=420) (W:=40) (by decide) (by decide) (by decide) CX (λx hx=>(OT x hx).2.1) tO h6 λx hx=>(OT x hx).2.2) (by lia) h6 (by lia) (gr true)))⟩
 ·obtain⟨β,B,C,jN⟩:=Dl (split:=split) xU oB h6 bU fG (aD P ln-n) n (U2 hk);refine⟨_,pick rfl B C jN,17,cq _,?_⟩;exact yM (Bv (by lia) Lw (by lia) oK hk rfl (bo tr) (ly _) t9 (KS (D:=420) (C:=420) (W:=40) (ly _) OS (by decide) (by decide) (by decide) Lv (λx hx=>(OT x hx).2.1) tO h6 (λx hx=>(OT x hx).2.2) hk λj hj=>by obtain⟨β',B',C',WM⟩:=Dl (split:=split) xU oB h6 bU fG j (aD P ln-j) (abB (ec (a0 hj (Q1 ..))));exact Jb B' C' (aao (a0 hj (Q1 ..)))))
 ·obtain⟨β,B,G,_⟩:=BO (split:=split) xU (λp hp=>(Ov p hp).1) oB bU fG hle n (cq _);refine⟨_,pick rfl B G.dg (WL G),15,by decide,?_⟩;refine yL (by lia) Lw (by lia) oK hk (λi hi=>by have:=G.lt i hi;lia) G.nd (Od (by lia) h6 oK (by lia) (λx hx=>(OT x hx).1) tO (λi hi=>?_) λj hj=>?_)
  ·obtain⟨p,hp,jj,OQ,rfl⟩:=EJ hi;rw[zq bU OQ];have:=hv p hp;split<;>lia
  ·obtain⟨β',B',G',e⟩:=BO (split:=split) xU (λp hp=>(Ov p hp).1) oB bU fG hle j (by lia);rw[e];exact Jg bU Ov fG (λp hp=>ae (B'.le p hp) (oB p)) hn4
 ·obtain⟨β,B,G⟩:=lQ (b:=false) (split:=split) xU oB h6 bU fG n hk;exact⟨_,pick rfl B G.dg (WL G),17,cq _,Eo (sM (by lia) Lw (by lia) oK hk rfl (bo tr) (rM _) yK (CV (rM _) KR (λj hj=>gj.of (D:=45045) (C:=45045) (W:=40) (by decide) (by decide) (by decide) H7 (λx hx=>(OT x hx).2.1) tO h6 λx hx=>(OT x hx).2.2) (by lia) h6 (by lia) (gr false)))⟩
end
theorem pL(part:List Nat)(f:Nat->Int):bT part.length (λi=>f (part.getD i 0))=part.map λp=> .int (f p):=by
 apply w0
 ·simp
 ·intro i h1 h2;simp at h1 h2;simp[h1]
theorem zA{a b:Nat->Nat}{part:List Nat}(h: ∀p∈part,a p≤b p):(part.map a).sum≤(part.map b).sum:=by
 induction part with
 |nil=>exact cq _
 |cons p r ih=>rw[eA];rw[eA];rw[vy];rw[vy];exact SF (h p (.head _)) (ih λq hq=>h q (.tail _ hq))
theorem Jk(sc:List Int)(p:Nat):1≤vI sc p/\vI sc p≤40:=by unfold vI RY;exact⟨mN.mpr (cb 1 _),mN.mpr (by rw[wx];exact abw _ (by decide))⟩
theorem Lx(sc:List Int)(p:Nat):1≤vI sc p/\vI sc p≤1000:=⟨(Jk sc p).1,hV (Jk sc p).2 (by decide)⟩
theorem OU(sc:List Int)(p:Nat):0≤vI sc p:=hV (by decide) (Jk sc p).1
theorem OX(sc:List Int)(p:Nat):cg sc p≤5-bg sc:=by unfold cg;rw[wx];exact abw _ (aao (bj (jO sc).2 (by decide)))
theorem Si(sc:List Int):aD (bg sc) (cg sc)≤6:=
 have H: ∀P≤3,aD P (λaa=>5-P)≤6:=by decide
 ae (gM λp aa=>OX sc p) (H _ (jO sc).2)
theorem Sj(h2:2≤aD (bg sc) (cg sc)):1≤iN sc/\iN sc≤4/\iN sc≤aD (bg sc) (cg sc):=by
 have h:iN sc≤min 4 (aD (bg sc) (cg sc)):=by unfold iN;rw[wx];exact abw _ (afD.mpr ⟨by decide,a0 (by decide) h2⟩)
 exact⟨cb 1 _,ae h (Dx ..),ae h (tp ..)⟩
section
variable{prog:d5}{w:fA}
theorem zB (A:bk (bg sc) (λp k=>vI sc p*i8 (!decide (cJ sc=3)) k) (cg sc) n a)(h6:aD (bg sc) (cg sc)≤6)(hs:part.Pairwise (· < ·))(fG: ∀p∈part,p<bg sc)(hn:n≤4)(h0:(part.map a).sum≠0):
  Spec prog w (KK w.params) TT 20 (.ref 755) [.int (cJ sc:Int),.list (bT (bg sc) (vI sc)),.list (EX (bg sc) (iz sc)),.list (fz part),.int (((part.map a).sum:Nat):Int),.int (zc sc:Int)] [] (· = .list [.list (fz (oG sc a part))]):=by
 have hP:=jO sc;have bU:part.Nodup:=hs.imp λh=>du h;have wz:=tu hs fG;have hv:=Jk sc;have tQ:(part.map a).sum≤4:=ae (A.lP bU fG) hn;have hle:(part.map a).sum≤(part.map (cg sc)).sum:=zA λp hp=>A.le p (fG p hp);have M:=A.mask (part:=part) (λp hp k hk=>by have h1:=(i9 (!decide (cJ sc=3)) k).2.2.2 (a0 hk (ae (mq sc p).2 (by decide)));exact adt (TB (by decide) (hv p).1) h1) bU fG
 have hr:cJ sc<4:=abw _ (by decide);obtain⟨m,hm,hC⟩:=BP (prog:=prog) (w:=w) (xv:=cJ sc) (split:=(zc sc:Int)) (a:=a) (OU sc) (λp aa=>hv p) (λp=>(mq sc p).2) h6 hs fG (by lia) (by lia) tQ hr M hle;have Sk:((ar (bg sc)).map λp=>(((iz sc p).length:Nat):Int)).sum=((aD (bg sc) (cg sc):Nat):Int):=by refine bS (sum_ints ..) ?_;congr 1;refine i5 λp aa=>?_;simp[iz]
 have Bp:=C7 sc;have E:=w5 (prog:=prog) (w:=w) (xv:=(cJ sc:Int)) (P:=bg sc) (k:=aD (bg sc) (cg sc)) (n:=(part.map a).sum) (m:=m) (v:=vI sc) (fB:=iz sc) (part:=part) (split:=(zc sc:Int)) hP.2 (λp aa=>Lx sc p) Bp h6 Sk (λp hp=>⟨λx hx=>by obtain⟨j,hj,rfl⟩:=tB.mp (show x∈cD (cg sc) p from hx);exact lR hp hj,(BK (cg sc) p).imp λh=>du h⟩) fG (by lia) hC
 rw[hm]at E;exact E
theorem Jl{sc:List Int}(zH:sc.length≤63):Spec prog w (KK w.params) TT 23 (.ref 760) [.list (sc.map .int)] [] (· = .bool true):=by
 have hP:=jO sc;have hv:=Jk sc;have hlen:=mq sc;have h6:=Si sc;have h2:2≤aD (bg sc) (cg sc):=ae (SF (hlen 0).1 (hlen 1).1) (zf (p:=0) (q:=1) (cg sc) (a0 (by decide) hP.1) (a0 (by decide) hP.1) (by decide));have hn:=Sj h2;have My:(rowsOf (cJ sc:Int) (bg sc) (vI sc) (cg sc)).length=aD (bg sc) (cg sc):=zk;have bU:=tw (xv:=(cJ sc:Int)) (P:=bg sc) (v:=vI sc) (ln:=cg sc) (λp aa=>(hv p).1) λp aa=>(hlen p).2;obtain⟨pp,_,_,MH,iK⟩:=sX (rs:=rowsOf (cJ sc:Int) (bg sc) (vI sc) (cg sc)) (by lia) (by lia) bU;generalize WB:(pp.toList.map λi=>(rowsOf (cJ sc:Int) (bg sc) (vI sc) (cg sc)).getD i (0,0))=rs at*
 have A0:=EH (xv:=(cJ sc:Int)) (P:=bg sc) (n:=iN sc) (v:=vI sc) (ln:=cg sc) (rs:=rs) (λp aa=>(hv p).1) (λp aa=>(hlen p).2) hn.2.2 iK MH;have Sl:(!decide ((cJ sc:Int)=3))=!decide (cJ sc=3):=by congr 1;exact decide_eq_decide.mpr ⟨λh=>Int.ofNat.inj h,λh=>by rw[h];rfl⟩
 rw[Sl]at A0;have BJ: ∀p,EB (rs.take (iN sc)) p=(((rs.take (iN sc)).countP λr=>decide (r.2=(p:Int)):Nat):Int):=λp=>by unfold EB;rw[ab6];rfl
 have Jz: ∀p:Nat,(rs.take (iN sc)).countP (λr=>decide (r.2=(p:Int)))≤100:=λp=>by have:=vk (p:=λr:Int×Int=>decide (r.2=(p:Int))) (l:=rs.take (iN sc));rw[oD]at this;exact ae this (ae (Dx ..) (ae hn.2.1 (by decide)))
 generalize ha:(λp:Nat=>(rs.take (iN sc)).countP λr=>decide (r.2=(p:Int)))=a at*
 have Jz: ∀p,a p≤100:=λp=>by refine bS (ha ..) ?_;exact Jz p
 have BJ: ∀p,EB (rs.take (iN sc)) p=(a p:Int):=λp=>by refine bS (ha ..) ?_;exact BJ p
 have qh:(bL sc).Pairwise (· < ·):=wi _ hZ;have EY: ∀p∈bL sc,p<bg sc:=λp hp=>a9.mp (fI.mp hp).1;have Sn:((bL sc).map a).sum≤4:=ae (A0.lP (qh.imp λh=>du h) EY) hn.2.1;have Jm:((ar (bg sc)).map a).sum=iN sc:=A0.sum;refine IX zH Jz ?_ ?_ ?_ ?_ ?_
 ·refine Spec.mono (BE (xv:=(cJ sc:Int)) (n0:=iN sc) (v:=vI sc) (ln:=cg sc) hP.2 (λp aa=>Lx sc p) (λp aa=>(hlen p).2) (by lia) (by lia) bU) (cq _) ?_;rintro r ⟨Mx,h1,h2,rfl⟩;rw[EI h1 iK h2 MH];congr 1;exact i5 λp aa=>by rw[BJ];rfl
 ·exact sW (MD hP.2 (OU sc) (λp aa=>Lx sc p) hn.2.1 A0) ⟨hZ,λp hp=>a9.mp hp,Jm.symm⟩
 ·have E:=zB (prog:=prog) (w:=w) A0 h6 (hZ (n:=bg sc)) (λp hp=>a9.mp hp) hn.2.1 (by lia);rw[Jm]at E;exact E
 ·have A1:=A0.sub qh EY;have h3:=sW (prog:=prog) (w:=w) (MD (by have:=tu qh EY;lia) (λp=>OU sc _) (λp aa=>Lx sc _) Sn A1) (n0:=((bL sc).map a).sum) ⟨hZ,λp hp=>a9.mp hp,A1.sum.symm⟩;rw[pL (bL sc) (vI sc),pL (bL sc) λp=>(cg sc p:Int),pL (bL sc) λp=>(a p:Int)]at h3;exact h3
 ·intro h0;exact zB A0 h6 qh EY hn.2.1 h0
end
theorem BQ{R:WRecords}{cl:Str->Option dq}{h:wq}{ns:List Int}: ∀{vs:List a7} {as:List dq},ReadsAllW R cl h vs (ahI (ns.map PyData.int)) as->afI vs ns/\as=[]:=by
 induction ns with
 |nil=>intro vs as H;rw[XB,oM]at H;obtain⟨e,e2⟩:=afT H;exact⟨e▸ .nil,e2⟩
 |cons n ns ih=>intro vs as H;rw[eA,oN]at H;obtain⟨v,vs',a1,a2,e,e2,h1,h2⟩:=afu H;obtain⟨t,e3,e4⟩:=readsW_int_inv h1;obtain⟨i,e5⟩:=ih h2;exact⟨by rw[e,e3];exact .cons _ _ i,by rw[e2,e4,e5];rfl⟩
theorem getD_some{vs:Array a7}{i:Nat}{a:dq}(h:vs.getD i .none= .ref a):vs[i]?=some (.ref a):=by
 rw[acb]at h;cases q:vs[i]? with
 |none=>rw[q]at h;cases h
 |some v=>rw[q]at h;exact congrArg some h
theorem zC(P:mA): ∀b∈TT,(KZ P).lookup b=some {cls:= .none,data:= .fields #[]}:=bH (by kernel_rfl) (bH (by kernel_rfl) (bH (by kernel_rfl) (bH (by kernel_rfl) gU)))
theorem Ly(P:mA): ∀b∈TT,∃cd,cQ (KZ P) cd b:=bH ⟨29,(Vz P).app⟩ (bH ⟨36,(XA P).app⟩ (bH ⟨44,(XC P).app⟩ (bH ⟨510,(NT P).app⟩ gU)))
noncomputable abbrev row:OpenRow:=zi.row
theorem So(X:(KZ P).In h):(KK P).In h:=λa o e=>X a o (by unfold KZ;rw[acA,e];rfl)
theorem BR{w:fA}{s:a8}(X:(KZ w.params).In s.heap):Good (KK w.params) TT 23 callerA s where
 hh:=rfl
 dp:=by decide+kernel
 un:=by decide+kernel
 cO:=So X
 kt:=λa o e h=>by
  have h0:TT.all (λt=>((KK w.params).lookup t).isNone)=true:=by kernel_rfl
  have:=d6.mp h0 a h;rw[e]at this;cases this
 lim:=⟨_,.of_isNs (isNs_of_in X (by kernel_rfl:nsOkIn (KZ w.params) aaj=true)),nsMap_none_of_in X (by kernel_rfl) (by kernel_rfl)⟩
 st:=by decide
 sz:=λa h=>d4 (X _ _ (zC _ a h))
 tab:=λa h=>⟨_,#[],X _ _ (zC _ a h),rfl,trivial⟩
theorem OY{w:fA}{s s' :a8}(X:(KZ w.params).In s.heap)(E:Ext TT s s'):OldK s.heap s'.heap:=by
 refine⟨λb o e=>?_,λb o e=>?_⟩
 ·by_cases hb:b∈TT
  ·have eo:=Option.some.inj (e.symm.trans (X _ _ (zC _ b hb)));refine nn λhN=>?_;obtain⟨_,ps,e2,er,_⟩:=E.keep.2 b hb ⟨_,#[],X _ _ (zC _ b hb),rfl,trivial⟩;obtain⟨cd,MU⟩:=Ly w.params b hb;obtain⟨o1,vs,_,_,_,_,_,_,_,e1,r1,r2,_,_,_,_,_,hc⟩:=MU;exact hN (.inr (.inl ⟨⟨cd,o1,vs,X _ _ e1,hc,r1,getD_some r2⟩,by rw[eo];rfl,#[],ps,by rw[eo];rfl,by rw[e2,er,eo];simp⟩))
  ·exact .inl (E.keep.1 b o hb e)
 ·by_cases hb:b∈TT
  ·obtain⟨o',ps,e2,_⟩:=E.keep.2 b hb ⟨_,#[],X _ _ (zC _ b hb),rfl,trivial⟩;exact⟨o',e2⟩
  ·exact⟨o,E.keep.1 b o hb e⟩
theorem zD(L:Laid R w s₀ s₁ args vs as)(p:ahq R args [.list .int]=true):
  E3 λns x Py=>A5 (args=[ofPy (aeH (ns.map PyData.int))]) (vs=[.ref x]) (x=s₀.heap.objs.size) (s₁.heap.get? x=some {cls:= .type "list",data:= .seq Py}) (afI Py.toList ns):=by
 obtain⟨ns,e1⟩:=has_list p;have rd:=L.reads;rw[e1]at rd L;obtain⟨v,vs',Nk,pT,e2,e3,r1,r2⟩:=afu rd;rw[uh]at r1;obtain⟨x,o,Py,n,xs,e4,h1,h2,h3,h4,e5⟩:=readsW_list_open r1;have ev:vs=[.ref x]:=by rw[e2,e4,(afT r2).1]
 rw[ev]at L;exact⟨ns,x,Py,e1,ev,(script_at L).1,script_obj L ⟨o,h1,h2,n,h3⟩,(BQ h4).1⟩
theorem Lz(G:Ground qv mD row.records (λaa aa=>True) w s₀ mg mb s₁.heap)(Y:obsZ O5 s₀=valZ KZ 761 1182 w)(WN:mg "law" =some (.ref a))
  (L:Laid row.records w s₀ s₁ args vs as)(OZ:row.toRowW.claim.pre args=true):
  dE (dC mC w) callerA (ais (.ref a) vs) (λv s' =>GoodWG row.toRowW.claim (classAt s₀.heap) (ahH s₀.heap) args s₁ (.ok (.ret v)) s')
   (λe s' =>GoodWG row.toRowW.claim (classAt s₀.heap) (ahH s₀.heap) args s₁ (.error e) s') s₁:=by
 obtain⟨_,WO,tP,_⟩:=z_facts MK Y;have O3:(KZ w.params).In s₁.heap:=Frag.In.keeps WO L.keeps;have ha:a=760:=Value.ref.inj (Option.some.inj (WN.symm.trans (Ag O3 G.T.g (by kernel_rfl:nsIn (KZ w.params) abq "law" =some (some (.ref 760))))));obtain⟨p1,p2⟩:=pre_splitW OZ;obtain⟨ns,x,Py,e1,ev,ex,g,hI⟩:=zD L p1;rw[e1]at p2;have hx:x=761:=ex.trans tP;have hv:eW s₁.heap (· ∉TT) [.list (ns.map .int)] vs:=⟨_,[],ev,⟨x,Py.toList,0,rfl,hx▸by decide,g,kh hI⟩,rfl⟩;rw[ha];refine mu (Spec.call (Jl (prog:=mC) (w:=w) (JM p2)) callerA s₁ vs [] (λv s' =>v= .bool true/\Ext TT s₁ s') (BR O3) hv rfl λv s' r hr E Yz=>⟨?_,E⟩) (λv s' z=>?_)
 ·rw[hr]at Yz;exact Yz
 ·rw[z.1];refine⟨.inl ⟨.bool true,.bool true,[],rfl,λcls=>rfl,.bool true,by kernel_rfl,λaa=>⟨.nil,λaa h=>nomatch h⟩⟩,OY O3 z.2,z.2.os,?_⟩;obtain⟨tl,e,hb⟩:=z.2.gens;intro y hy;rw[e,L.gens]at hy;exact hb y (by simpa using hy)
noncomputable abbrev lw:OpenLaw:=zi
theorem both(x:a=true)(y:b=true):(a&&b)=true:=by rw[x];rw[y];rfl
theorem a3:namesResolve mC=true:=by
 rw[Fast.te8377067652309620493]
 kernel_rfl
theorem a6:(namesMeet mC mC.main.body λaa n=>attrL n)=true:=by
 rw[Fast.te17119622794617984870];rw[show attrL=_ from Fast.te17868728402115742887]
 kernel_rfl
noncomputable abbrev YA:Look:={strict:=!(yn mC.main.body).all cThrough.contains,foot:=none,bare:=(["vars","dir","locals"]:List Str).filter (readsOut mC mC.main.body)}
theorem BS{lk:Look}(h' :abl lk b=true): ∀a:List aa4,abl lk a=true->abl lk (a++b)=true:=by
 intro lz;induction lz with
 |nil=>exact λaa=>h'
 |cons x a ih=>exact λh=>both (wb.mp h).1 (ih (wb.mp h).2)
theorem tC(n:Nat)(h:abl lk (l.take n)=true)(h' :abl lk (l.drop n)=true):abl lk l=true:=by refine bS (aag n l ..) ?_;exact BS h' _ h
theorem O4:YA={strict:=false,foot:=none,bare:=[]}:=by
 unfold YA;rw[Fast.te13343964577679436407]
 kernel_rfl
noncomputable abbrev WQ:Look:={strict:=false,foot:=none,bare:=[]}
theorem b1:abl WQ (mC.main.body.take 19)=true:=by
 rw[aat]
 kernel_rfl
theorem b2:abl WQ ((mC.main.body.drop 19).take 15)=true:=by
 rw[aat]
 kernel_rfl
theorem b3:abl WQ ((mC.main.body.drop 19).drop 15)=true:=by
 rw[aat]
 kernel_rfl
theorem b4:(sreFenced mC.main&&((aeW mC.main.body).isEmpty||lookedIntoSs (aeW mC.main.body) mC.main.body))=true:=by kernel_rfl
theorem b5:mC.boundNames.all (λn=>!worldNames.contains n)=true:=by kernel_rfl
theorem Jo{p:d5}{lk:Look}(e:{strict:=!(yn p.main.body).all cThrough.contains,foot:=none,bare:=(["vars","dir","locals"]:List Str).filter (readsOut p p.main.body)}=lk)(h1:(sreFenced p.main&&((aeW p.main.body).isEmpty||lookedIntoSs (aeW p.main.body) p.main.body))=true)
  (h2:namesResolve p=true)(h3:p.boundNames.all (λn=>!worldNames.contains n)=true)(h4:abl lk p.main.body=true)(h5:(namesMeet p p.main.body λaa n=>attrL n)=true):ah5 p=true:=by
 subst e;exact both (both (both (both h1 h2) h3) h4) h5
theorem Sp:ah5 mC=true:=Jo O4 b4 a3 b5 (tC 19 b1 (tC 15 b2 b3)) a6
theorem Sq:lw.row.wellSaid=true:=by
 unfold OpenRow.wellSaid OpenRow.partSaid;rw[show ah5 lw.row.prog=true from Sp]
 kernel_rfl
theorem law_said:lw.wellSaid=true:=by
 unfold OpenLaw.wellSaid;rw[Sq]
 kernel_rfl
noncomputable def BU:DefRec:=(recsOf qv).headD ⟨"",{posonlyargs:=[],args:=[],vararg:=none,kwonlyargs:=[],kw_defaults:=[],kwarg:=none,defaults:=[]},[],{kind:= .module,names:=[],isGenerator:=false,isCoroutine:=false,more:=[]},⟨0,0,0,0⟩⟩
theorem Ss:defOf qv row.name=some (BU,[]):=by kernel_rfl
theorem q_p:row.prog.theDef row.name=some (BU.params,BU.body,BU.scope):=by kernel_rfl
theorem q_k:kwWritten? BU.params.kwonlyargs BU.params.kw_defaults=some []:=by kernel_rfl
theorem q_w:(!row.writes||row.records.isEmpty)=true:=by kernel_rfl
theorem WR:(chainsOk qv&&opensWell row.prog&&(frees row.toRowW&&row.within.isEmpty))=true:=by kernel_rfl
theorem q_b:row.prog.bare:=⟨rfl,rfl,rfl,rfl,rfl,by decide+kernel⟩
theorem WS:row.toRowW.promised:=⟨[.list []],by kernel_rfl,by kernel_rfl⟩
theorem law_row(WT:row.wellSaid=true):row.Holds:=
 holds_openX (r:=row) (q:=qv) (loose:=mD) (Xt:=Xr) (XP:=λaa aa=>True) (Yf:=obsZ O5) (Ya:=valZ KZ 761 1182) (d:=BU) (kwd:=[]) (N:=5000) left (λaa aa=>trivial) (λaa aa aa aa aa=>trivial)
  Ss q_p q_k (λs e=>recFacts_of e) q_w WT WR q_b WS
  λw s₀ s₁ mg mb G Y a o pm cd doc dV kV aa aa aa aa WN aa args vs as L OZ aa aa aa aa=>Lz G Y WN L OZ
end Mine.Internal
theorem PySem.Challenge.cw_jp0014_01_holds : PySem.Challenge.rw_jp0014_01.Holds :=
 PySem.W.holds_law Mine.Internal.law_said Mine.Internal.law_row
