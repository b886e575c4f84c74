import PyProof.Rows.All
import Wide.All
import OpenK.AllK
import Wide.FinOn
import KE.KSortAsk
import KE.KSuperObj
import KE.KSetIn
import Lean
import PySem.Challenge.RW_mt0001_02
set_option backward.match.sparseCases false
set_option bootstrap.genMatcherCode false
set_option genCtorIdx false
set_option tactic.hygienic false
set_option genInjectivity false
set_option linter.all false
set_option genSizeOf false
set_option linter.unusedVariables false
set_option Elab.async false
set_option linter.unusedSimpArgs false
set_option linter.unusedSectionVars false
set_option compiler.extract_closed false
set_option maxHeartbeats 0
set_option maxRecDepth 100000
open PySem.Str renaming ofString->Z9,empty->XZ,length_append->XT
open PySem renaming wpAny_bind->Z8,Shared->Z6,wpAny_pure->Z5,Value->Z3,Addr->Z1,recursionLimit->ZV,Str->ZU,wpAny_holding->ZL,wpAny->ZK,strKind->ZH,World->ZD,GenState->Zx,Around->Zw,wpAny_of_eq->Zu,Expr->Zt,sizeLine_eq->Zs,Params->Zr,builtinLookup_eq_fast->Zq,Obj->Zp,sizeLine->Y8,typeLookup_type->Y5,Stmt->Y4,OsState->YZ,wpAny_standAt->YW,Heap->YQ,wpAny_call_entry->YJ,Program->YG,wpAny_callSpecial?_slot->Yz,wpAny_Call_NameR->Yv,starEach->Yt,typeLookup->Ym,NameKind->Yj,rawInt->Yc,Scope->X7,wpAny_mono->X5,cLine->X1,Pos->XY,foldedSetIterable->XV,wpAny_newObj_type->XU,isSubtype_type->XQ,Builtin->XJ,wpAny_call->XH,wpAny_askSetting->XG,cellsFrom->XF,Fin->Xw,intKind->Xu,mainGlobals->Xs,sliceBounds->Xr,wpAny_seqItems->Xq,treeTable->Xo,standAt->Xk,wpAny_setState_of->Xi,backTo->Xb,wpAny_rule->W4,codeAny_call_builtin->WT,entryFor_of_tree->WM,wpAny_isInstance->WL,checkBuiltinCall->WK,SetTable->WJ,PylongRoom->WH,nsFind->WD,assignEach->WC,letOwnedTupleGo->Wv,isSubtype->Wr,wpAny_attempt->Wq,Result->Wb,FuncData->V4,codeAny_of_tree->V2,wpAny_specialOf->VY,codeAny_builtin->VX,pyNext->VU,sysModules->VT,builtinKind->VR,wpAny_truthy_bool->VJ,slot_list_getitem->VI,wpAny_pyIter_list->VH,letTemporaryGo->VD,slot_list_setitem->Vv,builtinsNs->Vq,behindInMarks->Vl,codeAny->Vk,attributeBase->Vi,Operator->Vg,callWith->Vd,entryFor->Vc,wpAny_field->Va,wpAny_updateSeq->U4,theTreesLotGoes->U2,assign->UT,valueAt->UR,wpAny_typeOf->UQ,Arguments->UN,Frame->UI,wpAny_newTuple->UG,checkBoundCall->UB,relayAll->Uy,firstArgMember->Uv,isSubtype_stop->Uu,callEnvC->Us,wpAny_newFunctionEnv_cells->Ur,wpAny_sequenceKey->Uj,wpAny_storeSet_of->Ui,Code->Ue,assignInOrder->Uc,wpAny_comprehension_free->T9,typeOf->T7,swappedStores->T6,wpAny_release->T5,plainId_quiet->T4,wpAny_onRaise->T0,swapsWith->TQ,scanBound->TP,wpAny_Call_method_lateS->TK,codeAny_call_builtin_at->TE,wpAny_eqBool_int->TC,wpAny_listSubscript_int->Tz,wpAny_load->Tp,wpAny_pyNext_list_item->Tk,wpAny_execs_nil->Td,codeAny_call_function->S6,wpAny_pyNext_list_end->S5,Sem->SV,wpAny_loadName_local->Sz,wpAny_AugAssign_Name->Sy,wpAny_newFunctionEnv->Sv,bindArgs->Ss,keywordEach->Sr,argsOk->Sp,wpAny_loadPart->So,wpAny_tryCatch->Sm,DictEntry->Sh,noteFrame->Se,getAttr->Sd,getMethod->Sc,pickOrder->Sa,wpAny_loadName_cell->R7,wpAny_setEntries_of->R3,bltViewBooted->RV,wpAny_newList->RT,pushGuards_eq->RO,pyIter->RK,call_meets->RJ,wpAny_pyIter_range->RG,codeAny_call_cells->RF,entry_list_setitem->RA,wpAny_setSeqItemAt->Rz,Env->Rw,Flow->Rq,compEnvC->Rp,Keyword->Rm,call_meetsIn->Rj,wpAny_pyIter_slot->Rg,args_list_setitem->Re,numAt->QT,wpAny_letGo->QQ,pushEnvs_eq->QP,sub_set_self->QG,StrKeys->Qz,cStatics->Qp,sliceRange->Qm,bindC->Qk,backToKw->Qj,isInstance->Qg,pushGuards->Qc,Slot->P4,isTrue->PT,layNew->PO,setNext->PN,splitId->PL,setItem->PJ,forTurn->PH,Tok->PG
open Option renaming some->Z7,none->ZT,isSome_iff_exists->XR,map_eq_some_iff->Xa,toList_some->WA,isSome_none->UC,map_some->QJ
open List renaming length_map->Z4,map_cons->Z2,getElem?_eq_getElem->Z0,mem_cons->ZZ,mem_map->ZY,length_append->ZQ,getElem?_map->ZN,lookup_cons->ZM,map_append->ZJ,nodup_cons->ZG,length_cons->ZF,mem_append->ZE,append_nil->ZA,mem_singleton->Zv,getElem?_eq_some_iff->Zo,append_assoc->Zm,mem_append_right->Zl,mem_append_left->Zk,getD_eq_getElem?_getD->Zj,length_take->Zi,range->Zh,flatMap_cons->Zd,length_singleton->Y7,nodup_append->YY,take_add_one->YX,not_mem_nil->YU,map_nil->YS,filterMap_cons->YO,mem_of_getElem?->YN,any_cons->YF,replicate->YC,lookup->YA,drop_eq_getElem_cons->Yx,sublist_cons_self->Ys,take_append_drop->Yp,take_length->Yn,foldl_append->Yk,mem_of_mem_drop->Yi,mem_of_mem_take->Yh,nodup_nil->Yd,filter_cons->Yb,map_congr_left->X9,mem_range->X4,getElem?_take->X3,mem_filter->X0,map_map->XW,toArray->XC,nil_append->XB,mem_flatMap->Xz,length_drop->Xy,filter_append->Xx,cons_append->Xv,reverse_cons->Xn,lookup_eq_none_iff->Xm,length_range->Xj,flatMap_append->Xe,all_eq_true->W9,flatMap_nil->W7,getElem?_eq_none->W1,pairwise_iff_getElem->WY,mem_cons_of_mem->WS,getElem?_range->WQ,mem_filterMap->WB,range_succ->Wx,length_nil->Ww,foldl_cons->Wt,perm_append_comm->Wp,length_filter_le->Wn,getElem?_append_right->Wi,sublist_append_right->We,take_succ_cons->Wc,replicate_succ->Wa,length_pos_iff->V6,length_reverse->V5,forIn_cons->V1,ext_getElem?->VN,range_succ_eq_map->VG,drop_eq_nil_of_le->VE,filter_eq_nil_iff->VA,take_of_length_le->Vy,size_toArray->Vx,filterMap_append->Vs,getElem_map->Vp,drop_length->Vn,map_id->Vf,getLast?_concat->U9,drop_eq_nil_iff->U8,of_mem_zip->U7,dropLast_concat_getLast->U1,reverse_append->U0,filter_eq_self->UY,getElem?_drop->UK,zip_cons_cons->UH,drop_take->UD,length_eraseIdx_of_lt->Uw,getElem?_eq_none_iff->Uq,all_cons->Ug,length_filterMap_le->Ua,map_take->TZ,map_drop->TY,eq_of_mem_replicate->TX,perm_middle->TW,mem_reverse->TN,map->TH,drop_append->TF,getElem_mem->Tx,map_flatMap->Tw,lookup_isSome_iff->Tq,singleton_append->Ta,set_append_right->SY,length_replicate->SW,getElem?_of_mem->SP,getElem_of_mem->R5,filter_sublist->R4,getD_cons_succ->RY,findIdx?_cons->RL,flatten_cons->Ro,any_eq_true->Ra,range'_succ->Q8,ext_getElem->Q4,map_reverse->Q3,isEmpty_nil->QY,range'->QU,find?_cons->QH,count_cons->QB,take_take->Qv,foldl->Qo,filterMap->Ql,forIn_nil->Qd,drop_drop->Qa,drop->PY,take->PX
open PySem.Heap renaming get?_push_of_some->ZX,get?_push_size->Zy,lt_size->Zc,SameBut->YL,get?_update_self->YI,get?_none_of_le->X2,dictOf_iff->VZ,get?_update_other->Vw,ExtBut->Sx,size_push->Qq,MadeObj->PP
open Bool renaming true->ZW,false->ZS,false_ne_true->Ze,or_eq_false_iff->YM,false_eq_true->YK,and_eq_true->Yo,not_eq_true->XX,or_eq_true->Wy,eq_iff_iff->U6,and_eq_true_iff->SF,not_false->SE,true_and->RR,and_true->RQ,or_false->RP,not_eq_true'->Rk,false_and->Qe,not_true->P2,or_true->PM
open Or renaming elim->ZR
open And renaming intro->ZP
open Nat renaming le_refl->ZO,zero_le->ZI,le_trans->ZC,lt_irrefl->YT,div_add_mod->Yw,ne_of_lt->X6,le_of_ble_eq_true->XS,le_of_lt->XM,lt_or_ge->XK,lt_or_eq_of_le->XI,beq->Xp,le_add_right->W8,eq_zero_or_pos->W6,not_lt_zero->WX,le_succ_of_le->WV,add_sub_cancel->WF,add_assoc->Ws,lt_of_succ_lt->Wl,lt_succ_self->Wh,ne_of_gt->Wg,add_sub_cancel'->Wd,min_eq_left->V3,le_of_lt_succ->VM,lt_succ_of_lt->VL,add_zero->VF,eq_of_beq_eq_true->Vt,zero_add->UW,le_of_eq->UU,mod_lt->UL,lt_of_le_of_ne->UJ,not_lt->UE,ble->Uk,add_le_add_iff_right->Uf,succ_le_succ->TO,sub_self->Ti,le_add_left->Th,lt_succ_iff->Te,min_le_left->Tc,le_succ->SO,le_sub_one_of_lt->Si,mul_le_mul_left->RZ,add_le_add_left->RX,add_right_comm->RN,lt_of_le_of_lt->RM,lt_of_lt_of_le->RD,sub_zero->Rs,le_of_succ_le->Rr,lt_trans->Rn,lt_trichotomy->Rf,lt_succ_of_le->Rd,min_le_right->Q9,max_eq_left->QN,le_min->Qx,sub_le->Qw
open PySem.Value renaming ref->ZB,type->Zg,none->Yr,builtin->XO,bool->WE,isStrOf_shape->UZ,int->TD,str->Q7,isStrOf->P6
open Eq renaming symm->Zz,refl->Wm,trans->PF
open Int renaming toNat_of_nonneg->Zn,toNat_natCast->Y6,toNat_of_nonpos->YR,natCast_nonneg->YD,fmod_eq_emod_of_nonneg->Yl,emod_lt_of_pos->Ye,zero_add->XN,emod_nonneg->Xf,ofNat_lt->Xd,fdiv_eq_ediv_of_nonneg->W2,mul_ediv_add_emod->WZ,natAbs_of_nonneg->WW,add_zero->WG,lt_trans->Wf,eq_ofNat_of_zero_le->VS,mul_add->Ul,zero_mul->Tv,ofNat_le->Tu,le_of_lt->Tt,neg_mul->SU,one_mul->SS,add_nonneg->SQ,mul_assoc->RW,le_of_eq->Rv,min_eq_right->Rc,max_eq_right->Rb,min_eq_left->QO,max_eq_left->QM,mul_nonneg->Qy,add_assoc->P7
open PyProof.Rows renaming envOfC->Zf,slot_tupleiter_next->WP,AllBare->Vu,assign_Name->Ub,oneType'->TB,setObjOf_fresh->Su,entry_tupleiter_next->Sj,pairsOf->R8,lt_int->R6,args_tupleiter_next->R2,seqObj->RC,MethodCall_->QS,Fr->QI,expectedOf->Qu,plainGoodE->Qs,plainGoodD->Qr,tail_any->Qn,drecsOf->PU,IntsAre->PQ
open PySem.F renaming slot_list_append->Zb,type_list_append->Za,slot_list_extend->YE,type_list_extend->Yq,called_set->Wz,plain_extend_loop->V7,plainAttrs_dict->VP,slot_dict_get->Vr,slot_dict_setdefault->U5,slot_dict_delitem->Uo,plainAttrs_list->TM,slot_dict_items->TG,entry_dict_get->Tn,slot_int_rmul->Tb,type_dict_get->S9,slot_set_iter->S8,slot_list_pop->S4,entry_extend_loop->R1,slot_set_add->Ri,plain_set_new->QF
open Array renaming mk->Y9,length_toList->Y0,getElem?_eq_getElem->Yg,getElem?_eq_none->XD,getElem?_setIfInBounds->Xg,toList_push->WU,getElem?_toList->Wo,setIfInBounds_setIfInBounds->VO,getElem_setIfInBounds_ne->Vo,getElem?_push->UX,getD_eq_getD_getElem?->UP,getD->Ut,mem_of_getElem?->S7,mem_toList_iff->SD,any->Sg,toList_inj->QX,toList_map->QW,size_push->QD,isEmpty->P5,ext->PV
open PySem.W.Looks renaming of_peek->Y2,here->YB,of_pure->PZ
open Option.some renaming inj->Y1
open PySem.Heap.SameBut renaming update->YV
open PySem.Challenge renaming rw_mt0001_02->YH,pw_mt0001_02->QK
open PySem.W.X.SegX renaming mono->Yy
open PySem.Builtin renaming divisionGoesByPylong->Yu
open PySem.Obj renaming mapSeq->X8,data_mapDictKeys->Sq,putSet->Qh
open PySem.NameKind renaming free->XE,cell->Vj
open Ne renaming symm->Xl
open PySem.Sem renaming bind_eq_wrap'->Xh,wrap_wrap->WR,onRaise_eq_wrap->WO
open PySem.Calls renaming Name_function_global->W5,spliced_cons->VV,spliced_nil->VK,evalArgs_plain->Ve,loadGlobal_builtin->Ud,loadGlobal_global->TR,docDef->PS
open PySem.SetTable renaming grown->W3,below->Sl,orStandIn->RE
open PySem.Manifest renaming toldItsClass->W0,signature?->V9,varargsMethods->VQ
open PySem.W renaming boot_o_0->WN,SharedT->Vm,boot_o_2->Vh,boot_heap->UM,boot_o_4->TV,boot_o_10->TU,piecesOf->TS,boot_o_1->SN,boot_o_5->SM,boot_o_6->SK,boot_o_7->SJ,boot_o_8->SI,boot_o_9->SH,segRunT->Sf,piece_app->Q6,segRun_of->Q5,looseW->Qt,kas_rev->PK
open PySem.Builtin.Tuple renaming tupleItemsOf->WI,tupleCompareSizes->R9
open ForInStep renaming yield->Wu
open PySem.Builtin.ObjectAttr renaming copiedAttributeGuard->Wk,byTheClass->QR,inDict->P9,Found->P1,find->PW
open PySem.Around renaming under_plainId->Wj
open PySem.BindsTo renaming of_defaults->V8
open PySem.W.KFm renaming after_field->V0,field_auto->VB,formatOf_str->TJ,call_k->To,start->Sb,formatOf_int->Q1,args_4->Qi
open PySem.W.Fast renaming tw4202317264376624991->VW
open PySem.W.KPc renaming range_list->VC,meets_of->US,turn->Rl
open PyProof renaming noPylong_small->Vz
open PySem.Bind renaming lastOf->Vb,checkArgs->Sn
open Nat.succ renaming inj->UV
open PySem.Builtin.List renaming listSubscript?->UO,listSameRef->T1,listUpdate->TA,listItems->Tj
open PySem.SeqAt.RcNeAt renaming lists_lengths->UF,lists->RI
open PySem.Builtin.Frozenset renaming oneOther->UA
open PySem.Code renaming quiet_builtin->Uz,builtin->Tm
open List.Perm renaming swap->Ux,trans->QL
open PySem.Builtin.SmallTypes renaming nextOf->Um
open PySem.W.X renaming s_again->Uh,wake_any->Ry,s_call->QV,s_end->QC
open PySem.Shared renaming TypeIs->T8
open PySem.Builtin.Range renaming rangeSize->TL
open List.cons renaming injEq->Tf
open LT renaming lt->Sw
open PySem.Fin renaming done->Sk
open Function renaming comp->RU
open PyProof.Rows.SortSt renaming mk'->RB
open PySem.Spec renaming countIn->Rx,same->QA
open Classical renaming not_not->Ru,em->Rt
open PySem.pickOrder renaming go->Rh
open PySem.Builtin.ObjectAttr.Found renaming value->QZ
open PySem.MeetsSeq renaming list_pop_last->QE
open PySem.End renaming susp->Qb
open PySem.Builtin.Generator renaming genWake->P8
open PySem.Frame renaming where_->PI
open PySem.IsRange renaming new->PE
open PySem.CmpOp renaming Lt->PD
open PySem.PylongRoom renaming of->PC
open PySem.Heap.IsSliceOf renaming new->PB
namespace Mine.Internal
theorem aO{P Q:Prop}{G:Prop}(h:P/\Q)(k:P->Q->G):G:=by obtain⟨p,q⟩:=h;exact k p q
theorem br{A}{P:A->Prop}{G:Prop}(h:∃a,P a)(k:∀a,P a->G):G:=by obtain⟨a,p⟩:=h;exact k a p
theorem f8{P Q R:Prop}{G:Prop}(h:P/\Q/\R)(k:P->Q->R->G):G:=by obtain⟨p,q,r⟩:=h;exact k p q r
theorem MF{A}{P:Prop}{Q:A->Prop}{G:Prop}(h:P/\∃a,Q a)(k:P->∀a,Q a->G):G:=by obtain⟨p,a,q⟩:=h;exact k p a q
theorem aR{A}{P Q:A->Prop}{G:Prop}(h:∃a,P a/\Q a)(k:∀a,P a->Q a->G):G:=by obtain⟨a,p,q⟩:=h;exact k a p q
theorem j4{A B}{P:A->B->Prop}{G:Prop}(h:∃a,∃b,P a b)(k:∀a,∀b,P a b->G):G:=by obtain⟨a,b,p⟩:=h;exact k a b p
theorem kO{P Q R S:Prop}{G:Prop}(h:P/\Q/\R/\S)(k:P->Q->R->S->G):G:=by obtain⟨p,q,r,s⟩:=h;exact k p q r s
theorem rm{A}{P Q:Prop}{R:A->Prop}{G:Prop}(h:P/\Q/\∃a,R a)(k:P->Q->∀a,R a->G):G:=by obtain⟨p,q,a,r⟩:=h;exact k p q a r
theorem dE{A}{P Q R:A->Prop}{G:Prop}(h:∃a,P a/\Q a/\R a)(k:∀a,P a->Q a->R a->G):G:=by obtain⟨a,p,q,r⟩:=h;exact k a p q r
theorem iu{A B}{P Q:A->B->Prop}{G:Prop}(h:∃a,∃b,P a b/\Q a b)(k:∀a,∀b,P a b->Q a b->G):G:=by obtain⟨a,b,p,q⟩:=h;exact k a b p q
theorem MK{A B ah}{P:A->B->ah->Prop}{G:Prop}(h:∃a,∃b,∃c,P a b c)(k:∀a,∀b,∀c,P a b c->G):G:=by obtain⟨a,b,c,p⟩:=h;exact k a b c p
theorem oB{P Q R S T:Prop}{G:Prop}(h:P/\Q/\R/\S/\T)(k:P->Q->R->S->T->G):G:=by obtain⟨p,q,r,s,t⟩:=h;exact k p q r s t
theorem gM{A}{P Q R S:A->Prop}{G:Prop}(h:∃a,P a/\Q a/\R a/\S a)(k:∀a,P a->Q a->R a->S a->G):G:=by obtain⟨a,p,q,r,s⟩:=h;exact k a p q r s
theorem MI{A B}{P:A->Prop}{Q R:A->B->Prop}{G:Prop}(h:∃a,P a/\∃b,Q a b/\R a b)(k:∀a,P a->∀b,Q a b->R a b->G):G:=by obtain⟨a,p,b,q,r⟩:=h;exact k a p b q r
theorem fG{A B}{P Q R:A->B->Prop}{G:Prop}(h:∃a,∃b,P a b/\Q a b/\R a b)(k:∀a,∀b,P a b->Q a b->R a b->G):G:=by obtain⟨a,b,p,q,r⟩:=h;exact k a b p q r
theorem rn{A B ah}{P Q:A->B->ah->Prop}{G:Prop}(h:∃a,∃b,∃c,P a b c/\Q a b c)(k:∀a,∀b,∀c,P a b c->Q a b c->G):G:=by obtain⟨a,b,c,p,q⟩:=h;exact k a b c p q
theorem yK{P Q R S T U:Prop}{G:Prop}(h:P/\Q/\R/\S/\T/\U)(k:P->Q->R->S->T->U->G):G:=by obtain⟨p,q,r,s,t,u⟩:=h;exact k p q r s t u
theorem MG{A B}{P:Prop}{Q R S:A->B->Prop}{G:Prop}(h:P/\∃a,∃b,Q a b/\R a b/\S a b)(k:P->∀a,∀b,Q a b->R a b->S a b->G):G:=by obtain⟨p,a,b,q,r,s⟩:=h;exact k p a b q r s
theorem tf{A B ah}{P:Prop}{Q R:A->B->ah->Prop}{G:Prop}(h:P/\∃a,∃b,∃c,Q a b c/\R a b c)(k:P->∀a,∀b,∀c,Q a b c->R a b c->G):G:=by obtain⟨p,a,b,c,q,r⟩:=h;exact k p a b c q r
theorem vz{A}{P Q R S T:A->Prop}{G:Prop}(h:∃a,P a/\Q a/\R a/\S a/\T a)(k:∀a,P a->Q a->R a->S a->T a->G):G:=by obtain⟨a,p,q,r,s,t⟩:=h;exact k a p q r s t
theorem MH{A B}{P Q:A->Prop}{R S:A->B->Prop}{G:Prop}(h:∃a,P a/\Q a/\∃b,R a b/\S a b)(k:∀a,P a->Q a->∀b,R a b->S a b->G):G:=by obtain⟨a,p,q,b,r,s⟩:=h;exact k a p q b r s
theorem th{A B}{P Q R S:A->B->Prop}{G:Prop}(h:∃a,∃b,P a b/\Q a b/\R a b/\S a b)(k:∀a,∀b,P a b->Q a b->R a b->S a b->G):G:=by obtain⟨a,b,p,q,r,s⟩:=h;exact k a b p q r s
theorem Eg{A B}{P:Prop}{Q R S T:A->B->Prop}{G:Prop}(h:P/\∃a,∃b,Q a b/\R a b/\S a b/\T a b)(k:P->∀a,∀b,Q a b->R a b->S a b->T a b->G):G:=by obtain⟨p,a,b,q,r,s,t⟩:=h;exact k p a b q r s t
theorem MJ{A B ah}{P Q:A->B->Prop}{R S:A->B->ah->Prop}{G:Prop}(h:∃a,∃b,P a b/\Q a b/\∃c,R a b c/\S a b c)(k:∀a,∀b,P a b->Q a b->∀c,R a b c->S a b c->G):G:=by obtain⟨a,b,p,q,c,r,s⟩:=h;exact k a b p q c r s
theorem oD{A B ah}{P Q R S:A->B->ah->Prop}{G:Prop}(h:∃a,∃b,∃c,P a b c/\Q a b c/\R a b c/\S a b c)(k:∀a,∀b,∀c,P a b c->Q a b c->R a b c->S a b c->G):G:=by obtain⟨a,b,c,p,q,r,s⟩:=h;exact k a b c p q r s
theorem bM{P Q R:Prop}(p:P)(q:Q)(r:R):P/\Q/\R:=⟨p,q,r⟩
theorem aj{A}{P Q:A->Prop}(a)(p:P a)(q:Q a):∃a,P a/\Q a:=⟨a,p,q⟩
theorem kn{A B}{P:A->B->Prop}(a)(b)(p:P a b):∃a,∃b,P a b:=⟨a,b,p⟩
theorem k9{P Q R S:Prop}(p:P)(q:Q)(r:R)(s:S):P/\Q/\R/\S:=⟨p,q,r,s⟩
theorem t8{A}{P Q:Prop}{R:A->Prop}(p:P)(q:Q)(a)(r:R a):P/\Q/\∃a,R a:=⟨p,q,a,r⟩
theorem qs{A}{P:Prop}{Q R:A->Prop}(p:P)(a)(q:Q a)(r:R a):P/\∃a,Q a/\R a:=⟨p,a,q,r⟩
theorem cQ{A}{P Q R:A->Prop}(a)(p:P a)(q:Q a)(r:R a):∃a,P a/\Q a/\R a:=⟨a,p,q,r⟩
theorem dT{A B}{P Q:A->B->Prop}(a)(b)(p:P a b)(q:Q a b):∃a,∃b,P a b/\Q a b:=⟨a,b,p,q⟩
theorem F6{A B ah}{P:A->B->ah->Prop}(a)(b)(c)(p:P a b c):∃a,∃b,∃c,P a b c:=⟨a,b,c,p⟩
theorem l5{P Q R S T:Prop}(p:P)(q:Q)(r:R)(s:S)(t:T):P/\Q/\R/\S/\T:=⟨p,q,r,s,t⟩
theorem fe{A}{P Q R S:A->Prop}(a)(p:P a)(q:Q a)(r:R a)(s:S a):∃a,P a/\Q a/\R a/\S a:=⟨a,p,q,r,s⟩
theorem cX{A B}{P Q:A->Prop}{R:A->B->Prop}(a)(p:P a)(q:Q a)(b)(r:R a b):∃a,P a/\Q a/\∃b,R a b:=⟨a,p,q,b,r⟩
theorem F5{A B}{P:A->Prop}{Q R:A->B->Prop}(a)(p:P a)(b)(q:Q a b)(r:R a b):∃a,P a/\∃b,Q a b/\R a b:=⟨a,p,b,q,r⟩
theorem eu{A B}{P Q R:A->B->Prop}(a)(b)(p:P a b)(q:Q a b)(r:R a b):∃a,∃b,P a b/\Q a b/\R a b:=⟨a,b,p,q,r⟩
theorem pf{A B ah}{P Q:A->B->ah->Prop}(a)(b)(c)(p:P a b c)(q:Q a b c):∃a,∃b,∃c,P a b c/\Q a b c:=⟨a,b,c,p,q⟩
theorem wh{P Q R S T U:Prop}(p:P)(q:Q)(r:R)(s:S)(t:T)(u:U):P/\Q/\R/\S/\T/\U:=⟨p,q,r,s,t,u⟩
theorem wi{A}{P:Prop}{Q R S T:A->Prop}(p:P)(a)(q:Q a)(r:R a)(s:S a)(t:T a):P/\∃a,Q a/\R a/\S a/\T a:=⟨p,a,q,r,s,t⟩
theorem F4{A B}{P:Prop}{Q R S:A->B->Prop}(p:P)(a)(b)(q:Q a b)(r:R a b)(s:S a b):P/\∃a,∃b,Q a b/\R a b/\S a b:=⟨p,a,b,q,r,s⟩
theorem Ab{A}{P Q R S T:A->Prop}(a)(p:P a)(q:Q a)(r:R a)(s:S a)(t:T a):∃a,P a/\Q a/\R a/\S a/\T a:=⟨a,p,q,r,s,t⟩
theorem pd{A B}{P Q R S:A->B->Prop}(a)(b)(p:P a b)(q:Q a b)(r:R a b)(s:S a b):∃a,∃b,P a b/\Q a b/\R a b/\S a b:=⟨a,b,p,q,r,s⟩
theorem wk{A B ah}{P Q R:A->B->ah->Prop}(a)(b)(c)(p:P a b c)(q:Q a b c)(r:R a b c):∃a,∃b,∃c,P a b c/\Q a b c/\R a b c:=⟨a,b,c,p,q,r⟩
theorem wj{A B}{P:A->Prop}{Q R S T:A->B->Prop}(a)(p:P a)(b)(q:Q a b)(r:R a b)(s:S a b)(t:T a b):∃a,P a/\∃b,Q a b/\R a b/\S a b/\T a b:=⟨a,p,b,q,r,s,t⟩
theorem Ac{A B ah}{P:A->Prop}{Q R S:A->B->ah->Prop}(a)(p:P a)(b)(c)(q:Q a b c)(r:R a b c)(s:S a b c):∃a,P a/\∃b,∃c,Q a b c/\R a b c/\S a b c:=⟨a,p,b,c,q,r,s⟩
theorem qt{A B}{P Q R S T:A->B->Prop}(a)(b)(p:P a b)(q:Q a b)(r:R a b)(s:S a b)(t:T a b):∃a,∃b,P a b/\Q a b/\R a b/\S a b/\T a b:=⟨a,b,p,q,r,s,t⟩
theorem jM{A B ah}{P Q R S:A->B->ah->Prop}(a)(b)(c)(p:P a b c)(q:Q a b c)(r:R a b c)(s:S a b c):∃a,∃b,∃c,P a b c/\Q a b c/\R a b c/\S a b c:=⟨a,b,c,p,q,r,s⟩
theorem pe{A B}{P Q R S T U:A->B->Prop}(a)(b)(p:P a b)(q:Q a b)(r:R a b)(s:S a b)(t:T a b)(u:U a b):∃a,∃b,P a b/\Q a b/\R a b/\S a b/\T a b/\U a b:=⟨a,b,p,q,r,s,t,u⟩
theorem t9{A B ah}{P Q R S T:A->B->ah->Prop}(a)(b)(c)(p:P a b c)(q:Q a b c)(r:R a b c)(s:S a b c)(t:T a b c):∃a,∃b,∃c,P a b c/\Q a b c/\R a b c/\S a b c/\T a b c:=⟨a,b,c,p,q,r,s,t⟩
theorem ua{A B ah D}{P Q R S:A->B->ah->D->Prop}(a)(b)(c)(d)(p:P a b c d)(q:Q a b c d)(r:R a b c d)(s:S a b c d):∃a,∃b,∃c,∃d,P a b c d/\Q a b c d/\R a b c d/\S a b c d:=⟨a,b,c,d,p,q,r,s⟩
theorem dk{p:Prop}[Decidable p](h:decide p=ZW:=by kernel_rfl):p:=of_decide_eq_true h
open PySem in theorem wm{M A α}{t:SV α}{Q Q':α->Z6->Prop}{E:Z3->Z6->Prop}{s:Z6}(h:ZK M A t Q E s)(q:∀a s,Q a s->Q' a s):ZK M A t Q' E s:=X5 h q λ_ _ x=>x
@[elab_as_elim]theorem dn{A B}{f:A->B}{l:List A}{b:B}{G:B->Prop}(h:b∈l.map f)(k:∀a,a∈l->G (f a)):G b:=by obtain⟨a,p,q⟩:=ZY.mp h;exact q▸k a p
end Mine.Internal
universe u
@[elab_as_elim]theorem Mine.Internal.bG{α:Sort u}{a b:α}{p:α->Prop}(h:a=b)(q:p b):p a:=h▸q
local macro_rules |`(tactic|exists $e)=>`(tactic|refine Mine.Internal.bG $e ?_)
namespace Mine.Internal.Ar
inductive T where|v(j:Nat)|w(j:Nat)|n(q:Nat)|a(x y:T)|s(x y:T)|m(q:Nat)(x:T)|lo(x y:T)|hi(x y:T)|c(x:T)|g(x:T)
inductive P where|l(x y:T)|t(x y:T)|e(x y:T)|zl(x y:T)|zt(x y:T)|ze(x y:T)|no(p:P)|an(p q:P)|or(p q:P)|im(p q:P)
noncomputable def CE:Unit:=(λC=>()) @PySem.execs
noncomputable def qE{α:Type}(d:α)(l:List α):Nat->α:=(λ(_:Unit)=>@List.rec α (λC=>Nat->α) (λC=>d) (λx C ih j=>Nat.rec x (λj C=>ih j) j) l) CE
noncomputable def T.N(N:List Nat)(t:T):Nat:=(λ(_:Unit)=>@T.rec (λC=>Nat) (λj=>qE 0 N j) (λC=>0) (λq=>q) (λC C x y=>x+y) (λC C x y=>x-y) (λq C x=>q*x) (λC C x y=>min x y) (λC C x y=>max x y) (λC C=>0) (λC C=>0) t) CE
noncomputable def T.Z(N:List Nat)(Z:List Int)(t:T):Int:=(λ(_:Unit)=>@T.rec (λC=>Int) (λj=>((qE 0 N j:Nat):Int)) (λj=>qE 0 Z j) (λq=>((q:Nat):Int)) (λC C x y=>x+y) (λC C x y=>x-y) (λq C x=>((q:Nat):Int)*x) (λC C x y=>min x y) (λC C x y=>max x y) (λx C=>((x.N N:Nat):Int)) (λC x=>-x) t) CE
def P.den(N:List Nat)(Z:List Int):P->Prop
 |.l x y=>x.N N<=y.N N|.t x y=>x.N N<y.N N|.e x y=>x.N N=y.N N|.zl x y=>x.Z N Z<=y.Z N Z|.zt x y=>x.Z N Z<y.Z N Z|.ze x y=>x.Z N Z=y.Z N Z|.no p=>¬p.den N Z|.an p q=>p.den N Z/\q.den N Z|.or p q=>p.den N Z\/q.den N Z|.im p q=>p.den N Z->q.den N Z
def Aa(N:List Nat)(Z:List Int):List P->P->Prop
 |[],g=>g.den N Z|p::ps,g=>p.den N Z->Aa N Z ps g
structure L where
 c:Int
 l:List Int
noncomputable def q8:List Int->List Int->List Int
 |[],m=>m|l,[]=>l|x::l,y::m=>(x+y)::q8 l m
noncomputable def L.add(p q:L):L:=⟨p.c+q.c,q8 p.l q.l⟩
noncomputable def L.mul(k:Int)(p:L):L:=⟨k*p.c,p.l.map (k*·)⟩
noncomputable def L.sub(p q:L):L:=p.add (q.mul (-1))
noncomputable def mf:Nat->List Int
 |0=>[1]|n+1=>0::mf n
noncomputable def L.off(k:Int)(p:L):L:=⟨p.c+k,p.l⟩
abbrev Cs:=List (List L×L)
noncomputable def ng(x y:Cs)(f:L->L->Cs):Cs:=x.flatMap λp=>y.flatMap λq=>(f p.2 q.2).map λr=>(p.1++(q.1++r.1),r.2)
noncomputable def iq:T->Cs
 |.v j=>[([],⟨0,mf (2*j)⟩)]|.n q=>[([],⟨q,[]⟩)]|.a x y=>ng (iq x) (iq y) λp q=>[([],p.add q)]|.s x y=>ng (iq x) (iq y) λp q=>[([p.sub q],p.sub q),([(q.sub p).off (-1)],⟨0,[]⟩)]|.m q x=>(iq x).map λp=>(p.1,p.2.mul q)|.lo x y=>ng (iq x) (iq y) λp q=>[([q.sub p],p),([(p.sub q).off (-1)],q)]|.hi x y=>ng (iq x) (iq y) λp q=>[([q.sub p],q),([(p.sub q).off (-1)],p)]|_=>[([],⟨0,[]⟩)]
noncomputable def ir:T->Cs
 |.v j=>[([],⟨0,mf (2*j)⟩)]|.w j=>[([],⟨0,mf (2*j+1)⟩)]|.n q=>[([],⟨q,[]⟩)]|.a x y=>ng (ir x) (ir y) λp q=>[([],p.add q)]|.s x y=>ng (ir x) (ir y) λp q=>[([],p.sub q)]|.m q x=>(ir x).map λp=>(p.1,p.2.mul q)|.lo x y=>ng (ir x) (ir y) λp q=>[([q.sub p],p),([(p.sub q).off (-1)],q)]|.hi x y=>ng (ir x) (ir y) λp q=>[([q.sub p],q),([(p.sub q).off (-1)],p)]|.c x=>iq x|.g x=>(ir x).map λp=>(p.1,p.2.mul (-1))
abbrev Dn:=List (List L)
noncomputable def rel(x y:Cs)(f:L->L->Dn):Dn:=x.flatMap λp=>y.flatMap λq=>(f p.2 q.2).map λr=>p.1++(q.1++r)
noncomputable def ui(p q:L):Dn:=[[q.sub p]]
noncomputable def rR(p q:L):Dn:=[[(q.sub p).off (-1)]]
noncomputable def yN(p q:L):Dn:=[[q.sub p,p.sub q]]
noncomputable def AC(p q:L):Dn:=[[(q.sub p).off (-1)],[(p.sub q).off (-1)]]
noncomputable def pS(x y:Dn):Dn:=x.flatMap λp=>y.map λq=>p++q
noncomputable def hW:Bool->P->Dn
 |b,.l x y=>rel (iq x) (iq y) λp q=>if b then ui p q else rR q p|b,.t x y=>rel (iq x) (iq y) λp q=>if b then rR p q else ui q p|b,.e x y=>rel (iq x) (iq y) λp q=>if b then yN p q else AC p q|b,.zl x y=>rel (ir x) (ir y) λp q=>if b then ui p q else rR q p|b,.zt x y=>rel (ir x) (ir y) λp q=>if b then rR p q else ui q p|b,.ze x y=>rel (ir x) (ir y) λp q=>if b then yN p q else AC p q|b,.no p=>hW (!b) p|true,.an p q=>pS (hW ZW p) (hW ZW q)|false,.an p q=>hW ZS p++hW ZS q|true,.or p q=>hW ZW p++hW ZW q|false,.or p q=>pS (hW ZS p) (hW ZS q)|true,.im p q=>hW ZS p++hW ZW q|false,.im p q=>pS (hW ZW p) (hW ZS q)
noncomputable def hd(p:L):Int:=p.l.headD 0
noncomputable def tl(p:L):L:=⟨p.c,p.l.tail⟩
noncomputable def out(cs:List L):List L:=(cs.filter λp=>hd p==0).map tl++(cs.filter λp=>decide (0<hd p)).flatMap λp=>(cs.filter λq=>decide (hd q<0)).map λq=>((tl p).mul (-hd q)).add ((tl q).mul (hd p))
noncomputable def bad(cs:List L):Bool:=cs.any λp=>decide (p.c<0)&&p.l.all (·==0)
noncomputable def fm:Nat->List L->Bool
 |0,cs=>bad cs|n+1,cs=>bad cs||fm n (out cs)
noncomputable def LW(r:Nat)(js:List Nat)(ps:List P)(g:P):Bool:=(ps.foldl (λd p=>pS d (hW ZW p)) (hW ZS g)).all λcs=>fm (2*r) (js.map (λi=>⟨0,mf (2*i)⟩)++cs)
section
variable{N:List Nat}{Z:List Int}{ρ:Nat->Int}
noncomputable def dD(ρ:Nat->Int):Nat->List Int->Int
 |_,[]=>0|j,c::l=>c*ρ j+dD ρ (j+1) l
noncomputable def L.ev(ρ:Nat->Int)(p:L):Int:=p.c+dD ρ 0 p.l
noncomputable def env(N:List Nat)(Z:List Int)(j:Nat):Int:=if j%2=0 then((qE 0 N (j/2):Nat):Int)else qE 0 Z (j/2)
theorem Ec:∀(j:Nat)(l m:List Int),dD ρ j (q8 l m)=dD ρ j l+dD ρ j m:=by intro j;intro ik;induction ik generalizing j with
 |nil=>intro m;exact(XN _).symm;|cons x l ih=>intro lK;cases lK with
 |nil=>exact(WG _).symm;|cons y m=>show(x+y)*ρ j+dD ρ (j+1) (q8 l m)=_;rw[ih (j+1) m,Int.add_mul];show _=(x*ρ j+dD ρ (j+1) l)+(y*ρ j+dD ρ (j+1) m);ac_rfl
theorem Ed(k:Int):∀(j:Nat)(l:List Int),dD ρ j (l.map (k*·))=k*dD ρ j l:=by intro j;intro ik;induction ik generalizing j with
 |nil=>exact(Int.mul_zero k).symm;|cons x l ih=>show k*x*ρ j+dD ρ (j+1) (l.map (k*·))=k*(x*ρ j+dD ρ (j+1) l);rw[ih (j+1),Ul,RW]
theorem yQ(p q:L):(p.add q).ev ρ=p.ev ρ+q.ev ρ:=by show p.c+q.c+dD ρ 0 (q8 p.l q.l)=(p.c+dD ρ 0 p.l)+(q.c+dD ρ 0 q.l);rw[Ec];ac_rfl
theorem vB(k:Int)(p:L):(p.mul k).ev ρ=k*p.ev ρ:=by show k*p.c+dD ρ 0 (p.l.map (k*·))=k*(p.c+dD ρ 0 p.l);rw[Ed,Ul]
theorem vC(p q:L):(p.sub q).ev ρ=p.ev ρ-q.ev ρ:=by unfold L.sub;rw[yQ,vB,SU,SS];rfl
theorem M5(k:Int)(p:L):(p.off k).ev ρ=p.ev ρ+k:=by show p.c+k+dD ρ 0 p.l=p.c+dD ρ 0 p.l+k;ac_rfl
theorem Mu:∀(n j:Nat),dD ρ j (mf n)=ρ (j+n):=by intro N';induction N' with|zero=>intro j;show 1*ρ j+0=ρ j;rw[SS,WG];|succ n ih=>intro j;show 0*ρ j+dD ρ (j+1) (mf n)=_;rw[ih (j+1),Tv,XN,RN];rfl
theorem vD(n:Nat):(⟨0,mf n⟩:L).ev ρ=ρ n:=by show 0+dD ρ 0 (mf n)=_;rw[Mu,XN,UW]
theorem rp(k:Int):(⟨k,[]⟩:L).ev ρ=k:=WG k
theorem yM(i:Nat):env N Z (2*i)=((qE 0 N i:Nat):Int):=by unfold env;exists if_pos (Nat.mul_mod_right 2 i);exact bG (Nat.mul_div_right i (by decide)) rfl
theorem MT(i:Nat):env N Z (2*i+1)=qE 0 Z i:=by unfold env;rw[if_neg (by rw[Nat.mul_add_mod];decide),Nat.mul_add_div (by decide)];rfl
def All(ρ:Nat->Int)(g:List L):Prop:=∀p∈g,0<=p.ev ρ
theorem All.nil:All ρ []:=λC h=>nomatch h
theorem All.app{g h:List L}(x:All ρ g)(y:All ρ h):All ρ (g++h):=λp hp=>(ZE.mp hp).elim (x p) (y p)
theorem All.one{p:L}(h:0<=p.ev ρ):All ρ [p]:=λq hq=>by rw[Zv.mp hq];exact h
def fF(ρ:Nat->Int)(c:Cs)(x:Int):Prop:=∃p∈c,All ρ p.1/\p.2.ev ρ=x
def gZ(ρ:Nat->Int)(d:Dn):Prop:=∃g∈d,All ρ g
theorem fF.one{p:L}{x:Int}(h:p.ev ρ=x):fF ρ [([],p)] x:=⟨_,.head _,All.nil,h⟩
theorem fF.map{c:Cs}{x z:Int}{f:L->L}(h:fF ρ c x)(hf:∀p,p.ev ρ=x->(f p).ev ρ=z):fF ρ (c.map λp=>(p.1,f p.2)) z:=let⟨p,hp,h1,h2⟩:=h;⟨_,ZY.mpr ⟨p,hp,rfl⟩,h1,hf _ h2⟩
theorem fF.bind{c d:Cs}{x y z:Int}{f:L->L->Cs}(h:fF ρ c x)(h':fF ρ d y)(hf:∀p q,p.ev ρ=x->q.ev ρ=y->fF ρ (f p q) z):fF ρ (ng c d f) z:=let⟨p,hp,h1,h2⟩:=h;let⟨q,hq,h3,h4⟩:=h';let⟨r,hr,h5,h6⟩:=hf _ _ h2 h4;⟨_,Xz.mpr ⟨p,hp,Xz.mpr ⟨q,hq,ZY.mpr ⟨r,hr,rfl⟩⟩⟩,h1.app (h3.app h5),h6⟩
theorem fF.rel{c d:Cs}{x y:Int}{f:L->L->Dn}(h:fF ρ c x)(h':fF ρ d y)(hf:∀p q,p.ev ρ=x->q.ev ρ=y->gZ ρ (f p q)):gZ ρ (rel c d f):=let⟨p,hp,h1,h2⟩:=h;let⟨q,hq,h3,h4⟩:=h';let⟨r,hr,h5⟩:=hf _ _ h2 h4;⟨_,Xz.mpr ⟨p,hp,Xz.mpr ⟨q,hq,ZY.mpr ⟨r,hr,rfl⟩⟩⟩,h1.app (h3.app h5)⟩
theorem wq{p q:L}{x y:Int}(hp:p.ev ρ=x)(hq:q.ev ρ=y)(h:x<=y):0<=(q.sub p).ev ρ:=by rw[vC,hp,hq];exact Int.sub_nonneg_of_le h
theorem wx{p q:L}{x y:Int}(hp:p.ev ρ=x)(hq:q.ev ρ=y)(h:x<y):0<=((q.sub p).off (-1)).ev ρ:=by rw[M5,vC,hp,hq];exact Int.le_sub_one_of_lt (Int.sub_pos_of_lt h)
theorem CJ{p q r s:L}{x y z:Int}(hp:p.ev ρ=x)(hq:q.ev ρ=y)(h1:x<=y->r.ev ρ=z)(h2:y<x->s.ev ρ=z):fF ρ [([q.sub p],r),([(p.sub q).off (-1)],s)] z:=by
 refine ZR (Int.lt_or_le y x) (λh=>?_) (λh=>?_);·exact⟨_,.tail _ (.head _),All.one (wx hq hp h),h2 h⟩
 ·exact⟨_,.head _,All.one (wq hp hq h),h1 h⟩
theorem aeA{x y:Nat}{p q:L}(hp:p.ev ρ=(x:Int))(hq:q.ev ρ=(y:Int)):fF ρ [([p.sub q],p.sub q),([(q.sub p).off (-1)],⟨0,[]⟩)] ((x-y:Nat):Int):=CJ hq hp (λh=>by rw[vC,hp,hq,Int.ofNat_sub (Tu.mp h)]) λh=>by rw[rp,Nat.sub_eq_zero_of_le (XM (Xd.mp h))];rfl
theorem abY(x y:Nat):((min x y:Nat):Int)=min (x:Int) (y:Int):=by refine ZR (Nat.le_total x y) (λh=>?_) (λh=>?_)<;>simp[V3,Nat.min_eq_right,QO,Rc,h]
theorem abS(x y:Nat):((max x y:Nat):Int)=max (x:Int) (y:Int):=by refine ZR (Nat.le_total x y) (λh=>?_) (λh=>?_)<;>simp[QN,Nat.max_eq_right,QM,Rb,h]
theorem GF{x y:Int}{p q:L}(hp:p.ev ρ=x)(hq:q.ev ρ=y):fF ρ [([q.sub p],p),([(p.sub q).off (-1)],q)] (min x y):=CJ hp hq (λh=>by exists hp;exact bG (QO h) rfl) λh=>by exists hq;exact bG (Rc (Tt h)) rfl
theorem Fu{x y:Int}{p q:L}(hp:p.ev ρ=x)(hq:q.ev ρ=y):fF ρ [([q.sub p],q),([(p.sub q).off (-1)],p)] (max x y):=CJ hp hq (λh=>by exists hq;exact bG (Rb h) rfl) λh=>by exists hp;exact bG (QM (Tt h)) rfl
theorem jZ(t:T):fF (env N Z) (iq t) ((t.N N:Nat):Int):=by induction t with|v j=>exact .one (by rw[vD,yM];rfl);|w u0=>exact .one (rp 0);|n q=>exact .one (rp _);|a x y fJ jh=>exact fJ.bind jh λp q hp hq=>.one (by rw[yQ,hp,hq];rfl);|s x y fJ jh=>exact fJ.bind jh λp q hp hq=>aeA hp hq;|m c x fJ=>exact fJ.map λp hp=>by rw[vB,hp];rfl;|lo x y fJ jh=>exact fJ.bind jh λp q hp hq=>by show fF _ _ ((min (x.N N) (y.N N):Nat):Int);rw[abY];exact GF hp hq;|hi x y fJ jh=>exact fJ.bind jh λp q hp hq=>by show fF _ _ ((max (x.N N) (y.N N):Nat):Int);rw[abS];exact Fu hp hq;|c u0=>exact .one (rp 0);|g u0=>exact .one (rp 0)
theorem kJ(t:T):fF (env N Z) (ir t) (t.Z N Z):=by induction t with|v j=>exact .one (by rw[vD,yM];rfl);|w j=>exact .one (by rw[vD,MT];rfl);|n q=>exact .one (rp _);|a x y fJ jh=>exact fJ.bind jh λp q hp hq=>.one (by rw[yQ,hp,hq];rfl);|s x y fJ jh=>exact fJ.bind jh λp q hp hq=>.one (by rw[vC,hp,hq];rfl);|m c x fJ=>exact fJ.map λp hp=>by rw[vB,hp];rfl;|lo x y fJ jh=>exact fJ.bind jh λp q hp hq=>GF hp hq;|hi x y fJ jh=>exact fJ.bind jh λp q hp hq=>Fu hp hq;|c x fJ=>exact jZ x;|g x fJ=>exact fJ.map λp hp=>by rw[vB,hp,SU,SS];rfl
theorem gZ.and{x y:Dn}(h:gZ ρ x)(h':gZ ρ y):gZ ρ (pS x y):=let⟨p,hp,h1⟩:=h;let⟨q,hq,h2⟩:=h';⟨_,Xz.mpr ⟨p,hp,ZY.mpr ⟨q,hq,rfl⟩⟩,h1.app h2⟩
theorem gZ.l{x y:Dn}(h:gZ ρ x):gZ ρ (x++y):=let⟨p,hp,h1⟩:=h;⟨p,Zk _ hp,h1⟩
theorem gZ.r{x y:Dn}(h:gZ ρ y):gZ ρ (x++y):=let⟨p,hp,h1⟩:=h;⟨p,Zl _ hp,h1⟩
theorem wo{p q:L}{x y:Int}(hp:p.ev ρ=x)(hq:q.ev ρ=y)(h:x<=y):gZ ρ (ui p q):=⟨_,.head _,All.one (wq hp hq h)⟩
theorem ww{p q:L}{x y:Int}(hp:p.ev ρ=x)(hq:q.ev ρ=y)(h:x<y):gZ ρ (rR p q):=⟨_,.head _,All.one (wx hp hq h)⟩
theorem Em{p q:L}{x y:Int}(hp:p.ev ρ=x)(hq:q.ev ρ=y)(h:x=y):gZ ρ (yN p q):=⟨_,.head _,λr hr=>(ZZ.mp hr).elim (λe=>e▸wq hp hq (Rv h)) λhr=>Zv.mp hr▸wq hq hp (Rv h.symm)⟩
theorem Ho{p q:L}{x y:Int}(hp:p.ev ρ=x)(hq:q.ev ρ=y)(h:x≠y):gZ ρ (AC p q):=(Int.lt_or_gt_of_ne h).elim (λh=>⟨_,.head _,All.one (wx hp hq h)⟩) λh=>⟨_,.tail _ (.head _),All.one (wx hq hp h)⟩
def pol(b:Bool)(p:Prop):Prop:=match b with|true=>p|false=>¬p
theorem mr{ah:Bool->Prop}(f:ah ZS)(t:ah ZW)(b:Bool):ah b:=Bool.rec f t b
theorem Eb(p:P):∀b:Bool,pol b (p.den N Z)->gZ (env N Z) (hW b p):=by induction p with|l x y=>exact mr (λh=>(jZ x).rel (jZ y) λp q hp hq=>ww hq hp (Xd.mpr (Nat.lt_of_not_le h))) (λh=>(jZ x).rel (jZ y) λp q hp hq=>wo hp hq (Tu.mpr h));|t x y=>exact mr (λh=>(jZ x).rel (jZ y) λp q hp hq=>wo hq hp (Tu.mpr (Nat.le_of_not_lt h))) (λh=>(jZ x).rel (jZ y) λp q hp hq=>ww hp hq (Xd.mpr h));|e x y=>exact mr (λh=>(jZ x).rel (jZ y) λp q hp hq=>Ho hp hq λe=>h (Int.ofNat_inj.mp e)) (λh=>(jZ x).rel (jZ y) λp q hp hq=>Em hp hq (congrArg _ h));|zl x y=>exact mr (λh=>(kJ x).rel (kJ y) λp q hp hq=>ww hq hp (Int.lt_of_not_ge h)) (λh=>(kJ x).rel (kJ y) λp q hp hq=>wo hp hq h);|zt x y=>exact mr (λh=>(kJ x).rel (kJ y) λp q hp hq=>wo hq hp (Int.le_of_not_gt h)) (λh=>(kJ x).rel (kJ y) λp q hp hq=>ww hp hq h);|ze x y=>exact mr (λh=>(kJ x).rel (kJ y) λp q hp hq=>Ho hp hq h) (λh=>(kJ x).rel (kJ y) λp q hp hq=>Em hp hq h);|no p l4=>exact mr (λh=>l4 ZW (Ru.mp h)) (λh=>l4 ZS h);|an p q l4 pc=>exact mr (λh=>(Rt (p.den N Z)).elim (λx=>(pc ZS λy=>h ⟨x,y⟩).r) λx=>(l4 ZS x).l) (λh=>(l4 ZW h.1).and (pc ZW h.2));|or p q l4 pc=>exact mr (λh=>(l4 ZS λx=>h (.inl x)).and (pc ZS λx=>h (.inr x))) (λh=>h.elim (λx=>(l4 ZW x).l) λx=>(pc ZW x).r);|im p q l4 pc=>exact mr (λh=>(Rt (p.den N Z)).elim (λx=>(l4 ZW x).and (pc ZS λy=>h λC=>y)) λx=>absurd (λy=>absurd y x) h) (λh=>(Rt (p.den N Z)).elim (λx=>(pc ZW (h x)).r) λx=>(l4 ZS x).l)
noncomputable def nj(ρ:Nat->Int)(j:Nat)(p:L):Int:=p.c+dD ρ j p.l
def sP(ρ:Nat->Int)(j:Nat)(g:List L):Prop:=∀p∈g,0<=nj ρ j p
theorem Ew(j:Nat)(p:L):nj ρ j p=hd p*ρ j+nj ρ (j+1) (tl p):=by obtain⟨c,l⟩:=p;cases l with|nil=>show c+0=0*ρ j+(c+0);rw[Tv,XN];|cons x l=>show c+(x*ρ j+dD ρ (j+1) l)=x*ρ j+(c+dD ρ (j+1) l);ac_rfl
theorem M6(j:Nat)(p q:L):nj ρ j (p.add q)=nj ρ j p+nj ρ j q:=by show p.c+q.c+dD ρ j (q8 p.l q.l)=(p.c+dD ρ j p.l)+(q.c+dD ρ j q.l);rw[Ec];ac_rfl
theorem Eu(j:Nat)(k:Int)(p:L):nj ρ j (p.mul k)=k*nj ρ j p:=by show k*p.c+dD ρ j (p.l.map (k*·))=k*(p.c+dD ρ j p.l);rw[Ed,Ul]
theorem afd{a b r x y:Int}(ha:0<a)(hb:b<0)(h1:0<=a*r+x)(h2:0<=b*r+y):0<=-b*x+a*y:=by
 have k1:=Qy (Int.neg_nonneg_of_nonpos (Tt hb)) h1;have k2:=Qy (Tt ha) h2;have k:=SQ k1 k2;have e:-b*(a*r+x)+a*(b*r+y)=-b*x+a*y:=by rw[Ul,Ul,SU,<-RW,<-RW,Int.mul_comm a b,P7,Int.add_left_comm (-b*x),<-P7,Int.add_left_neg,XN]
 rwa[e]at k
theorem ac2{j:Nat}{cs:List L}(h:sP ρ j cs):sP ρ (j+1) (out cs):=λp hp=>by
 refine ZR (ZE.mp hp) (λhp=>?_) (λhp=>?_);·refine dn hp λq hq=>?_;refine aO (X0.mp hq) λhq hz=>?_;have:=h q hq;rwa[Ew,eq_of_beq hz,Tv,XN]at this
 ·refine aR (Xz.mp hp) λq hq hp=>?_;refine dn hp λr hr=>?_;refine aO (X0.mp hq) λhq hz=>?_;refine aO (X0.mp hr) λhr hy=>?_;have k1:=h q hq;have k2:=h r hr;rw[Ew]at k1 k2;rw[M6,Eu,Eu];exact afd (of_decide_eq_true hz) (of_decide_eq_true hy) k1 k2
theorem Mv:∀(j:Nat)(l:List Int),l.all (·==0)=ZW->dD ρ j l=0:=by intro j;intro ik;induction ik generalizing j with
 |nil=>intro _;exact rfl;|cons x l ih=>intro h;rw[Ug,Yo]at h;show x*ρ j+dD ρ (j+1) l=0;rw[eq_of_beq h.1,ih (j+1) h.2,Tv];rfl
theorem DB{j:Nat}{cs:List L}(h:sP ρ j cs)(hb:bad cs=ZW):False:=by refine aR (Ra.mp hb) λp hp hq=>?_;rw[Yo]at hq;have:=h p hp;unfold nj at this;rw[Mv j _ hq.2,WG]at this;exact absurd (of_decide_eq_true hq.1) (Int.not_lt.mpr this)
theorem NH:∀(n j:Nat)(cs:List L),sP ρ j cs->fm n cs=ZW->False:=by intro N';induction N' with|zero=>exactλ_ _ h hb=>DB h hb;|succ n ih=>exactλj cs h hb=>((Wy _ _).mp hb).elim (DB h) (ih (j+1) (out cs) (ac2 h))
theorem acp(js:List Nat):All (env N Z) (js.map λi=>⟨0,mf (2*i)⟩):=λp hp=>by refine dn hp λi C=>?_;rw[vD,yM];exact YD _
theorem E0(r:Nat)(js:List Nat)(g:P):∀(ps:List P)(d:Dn),(¬g.den N Z->gZ (env N Z) d)->((ps.foldl (λd p=>pS d (hW ZW p)) d).all λcs=>fm (2*r) (js.map (λi=>⟨0,mf (2*i)⟩)++cs))=ZW->Aa N Z ps g
 |[],d,h,hc=>Ru.mp λhg=>by refine aR (h hg) λcs h1 h2=>?_;exact NH _ 0 _ (show sP (env N Z) 0 _ from(acp js).app h2) (W9.mp hc cs h1);|p::ps,d,h,hc=>λhp=>E0 r js g ps (pS d (hW ZW p)) (λhg=>(h hg).and (Eb p ZW hp)) hc
abbrev K:=Nat->List T->List P->List P
noncomputable def one(r:K)(c:Nat)(ts:List T)(ps:List P)(f:T->T):List P:=match ts with
 |x::ts=>r c (f x::ts) ps|_=>[]
noncomputable def uW(r:K)(c:Nat)(ts:List T)(ps:List P)(f:T->T->T):List P:=match ts with
 |y::x::ts=>r c (f x y::ts) ps|_=>[]
noncomputable def sL(r:K)(c:Nat)(ts:List T)(ps:List P)(f:T->T->P):List P:=match ts with
 |y::x::ts=>r c ts (f x y::ps)|_=>[]
noncomputable def acR(r:K)(c:Nat)(ts:List T)(ps:List P)(f:P->P):List P:=match ps with
 |x::ps=>r c ts (f x::ps)|_=>[]
noncomputable def JE(r:K)(c:Nat)(ts:List T)(ps:List P)(f:P->P->P):List P:=match ps with
 |y::x::ps=>r c ts (f x y::ps)|_=>[]
noncomputable def D9(c:Nat)(f:Nat->Nat->List P):List P:=match c with
 |k+1=>f (k%32) (k/32)|_=>[]
noncomputable def step(r:K)(d c:Nat)(ts:List T)(ps:List P):List P:=cond (Uk d 11) (r c (.v d::ts) ps) (cond (Uk d 15) (D9 c λe c=>cond (Xp d 12) (r c (.v e::ts) ps) (cond (Xp d 13) (r c (.w e::ts) ps) (cond (Xp d 14) (r c (.n e::ts) ps) (one r c ts ps λx=>match x with|.n q=>.n (Nat.add (Nat.mul q 32) e)|x=>x)))) (cond (Uk d 22) (cond (Uk d 18) (cond (Xp d 16) (uW r c ts ps .a) (cond (Xp d 17) (uW r c ts ps .s) (uW r c ts ps λx y=>match x with|.n q=>.m q y|x=>x))) (cond (Xp d 19) (uW r c ts ps .lo) (cond (Xp d 20) (uW r c ts ps .hi) (cond (Xp d 21) (one r c ts ps .c) (one r c ts ps .g))))) (cond (Uk d 25) (cond (Xp d 23) (sL r c ts ps .l) (cond (Xp d 24) (sL r c ts ps .t) (sL r c ts ps .e))) (cond (Uk d 28) (cond (Xp d 26) (sL r c ts ps .zl) (cond (Xp d 27) (sL r c ts ps .zt) (sL r c ts ps .ze))) (cond (Xp d 29) (acR r c ts ps .no) (cond (Xp d 30) (JE r c ts ps .an) (D9 c λe c=>JE r c ts ps (cond (Xp e 0) .or .im))))))))
noncomputable def run:Nat->K
 |0,_,_,ps=>ps|f+1,c,ts,ps=>match c with
 |0=>ps|k+1=>step (run f) (k%32) (k/32) ts ps
noncomputable def uM:P->List P->List P×P
 |g,[]=>([],g)|p,q::ps=>let r:=uM q ps;(p::r.1,r.2)
def yo(N:List Nat)(Z:List Int):P->List P->Prop
 |g,[]=>g.den N Z|p,q::ps=>p.den N Z->yo N Z q ps
def ask(N:List Nat)(Z:List Int)(c:Nat):Prop:=match run 999 c [] []with
 |[]=>True|p::ps=>yo N Z p ps
theorem Kr:∀(ps:List P)(p:P),Aa N Z (uM p ps).1 (uM p ps).2->yo N Z p ps:=by intro N';induction N' with|nil=>exactλ_ h=>h;|cons q ps ih=>exactλ_ h=>λx=>ih q (h x)
noncomputable def Ea:Nat->Nat->List Nat
 |f+1,k+1=>k%32::Ea f (k/32)|_,_=>[]
noncomputable def sure(o c:Nat):Bool:=match run 999 c [] [],Ea 99 o with
 |p::ps,r::js=>LW r js (uM p ps).1 (uM p ps).2|_,_=>ZS
theorem bA(o c:Nat)(N:List Nat)(Z:List Int)(h:sure o c=ZW):ask N Z c:=by
 unfold sure at h;unfold ask;split at h;·next e _=>rw[e];exact Kr _ _ (E0 _ _ _ _ _ (Eb _ ZS) h)
 ·cases h
end
end Mine.Internal.Ar
namespace Mine.Internal
theorem jN(o c:Nat){x0:Nat}{x1:Int}(h:Ar.sure o c=ZW:=by kernel_rfl):Ar.ask [x0,0] [0,x1] c:=Ar.bA o c _ _ h
theorem fx(o c:Nat){x0:Int}(h:Ar.sure o c=ZW:=by kernel_rfl):Ar.ask [0] [x0] c:=Ar.bA o c _ _ h
theorem ia(o c:Nat){x0:Int}{x1:Int}(h:Ar.sure o c=ZW:=by kernel_rfl):Ar.ask [0,0] [x0,x1] c:=Ar.bA o c _ _ h
theorem pn(o c:Nat){x0:Nat}{x1:Int}{x2:Nat}(h:Ar.sure o c=ZW:=by kernel_rfl):Ar.ask [x0,0,x2] [0,x1,0] c:=Ar.bA o c _ _ h
theorem uk(o c:Nat){x0:Nat}{x1:Int}{x2:Nat}{x3:Nat}(h:Ar.sure o c=ZW:=by kernel_rfl):Ar.ask [x0,0,x2,x3] [0,x1,0,0] c:=Ar.bA o c _ _ h
theorem wt(o c:Nat){x0:Nat}{x1:Int}{x2:Int}(h:Ar.sure o c=ZW:=by kernel_rfl):Ar.ask [x0,0,0] [0,x1,x2] c:=Ar.bA o c _ _ h
theorem aD(o c:Nat){x0:Nat}(h:Ar.sure o c=ZW:=by kernel_rfl):Ar.ask [x0] [] c:=Ar.bA o c _ _ h
theorem ar(o c:Nat){x0:Nat}{x1:Nat}(h:Ar.sure o c=ZW:=by kernel_rfl):Ar.ask [x0,x1] [] c:=Ar.bA o c _ _ h
theorem au(o c:Nat){x0:Nat}{x1:Nat}{x2:Nat}(h:Ar.sure o c=ZW:=by kernel_rfl):Ar.ask [x0,x1,x2] [] c:=Ar.bA o c _ _ h
theorem aU(o c:Nat){x0:Nat}{x1:Nat}{x2:Nat}{x3:Nat}(h:Ar.sure o c=ZW:=by kernel_rfl):Ar.ask [x0,x1,x2,x3] [] c:=Ar.bA o c _ _ h
theorem bQ(o c:Nat){x0:Nat}{x1:Nat}{x2:Nat}{x3:Nat}{x4:Nat}(h:Ar.sure o c=ZW:=by kernel_rfl):Ar.ask [x0,x1,x2,x3,x4] [] c:=Ar.bA o c _ _ h
theorem gC(o c:Nat){x0:Nat}{x1:Nat}{x2:Nat}{x3:Nat}{x4:Nat}{x5:Nat}(h:Ar.sure o c=ZW:=by kernel_rfl):Ar.ask [x0,x1,x2,x3,x4,x5] [] c:=Ar.bA o c _ _ h
theorem lh(o c:Nat){x0:Nat}{x1:Nat}{x2:Nat}{x3:Nat}{x4:Nat}{x5:Nat}{x6:Nat}(h:Ar.sure o c=ZW:=by kernel_rfl):Ar.ask [x0,x1,x2,x3,x4,x5,x6] [] c:=Ar.bA o c _ _ h
theorem pk(o c:Nat){x0:Nat}{x1:Nat}{x2:Nat}{x3:Nat}{x4:Nat}{x5:Nat}{x6:Nat}{x7:Nat}(h:Ar.sure o c=ZW:=by kernel_rfl):Ar.ask [x0,x1,x2,x3,x4,x5,x6,x7] [] c:=Ar.bA o c _ _ h
theorem uj(o c:Nat){x0:Nat}{x1:Nat}{x2:Nat}{x3:Nat}{x4:Nat}{x5:Nat}{x6:Nat}{x7:Nat}{x8:Nat}(h:Ar.sure o c=ZW:=by kernel_rfl):Ar.ask [x0,x1,x2,x3,x4,x5,x6,x7,x8] [] c:=Ar.bA o c _ _ h
namespace Ar
theorem wv{a i k:Nat}(b:a<=i)(q:k<=i-a):a<=i-k:=(au 0x3 0x18107120887890c41) b q
theorem v0{x y o:Nat}(b:x<=y)(q:o<=y-x):x+o<=y:=(au 0x2 0x181871208c581c441) b q
theorem pj{i a k:Nat}(q:k<=i-a):k<=i:=(au 0x464 0xc482316062) q
theorem Jv{i k m o:Nat}:i-k<=i+m+o:=aU 0x418825 0x18892230c841
theorem span{i k m o:Nat}(q:k<=i):i+m+o-(i-k)=m+o+k:=(aU 0x20c25 0x30226a2488c32910511c422) q
theorem aes{i j k m o:Nat}(q:k<=i)(q':k<=j):j+m+o=j-k+(i+m+o-(i-k)):=(bQ 0x29046 0x18197012ea3291471244439143124441) q q'
theorem sh{s k t:Nat}(h:k<=s)(q:k<=t):s-k+t=s+(t-k):=(au 0x3 0x1808b0316a3210c311c841) h q
theorem Jc{s k m t:Nat}(h:k<=s)(q:k+m<=t):s-k+t=s+m+(t-k-m):=(aU 0x64 0x6022c122316a321c84488c3124841) h q
theorem Lo{ae V aa I i j m bk on:Nat}(b1:ae<=i)(b2:i+m<=V)(b3:aa<=j)(b4:j+m<=I)(q1:bk<=min (i-ae) (j-aa))(q2:on<=min (V-(i+m)) (I-(j+m))):ae<=i-bk/\i-bk<=i+m+on/\i+m+on<=V/\aa<=j-bk/\j+m+on<=I/\j+m+on-(j-bk)=i+m+on-(i-bk)/\j-bk<=j+m+on:=have⟨x,y⟩:=Qx.mp q1;have⟨z,w⟩:=Qx.mp q2;⟨wv b1 x,Jv,v0 b2 z,wv b3 y,v0 b4 w,(by exists span (pj x);exact bG (span (pj y)) rfl),Jv⟩
theorem Az{x y n:Nat}(h:x<=y):max x (y-n)=y-min n (y-x):=(au 0x4 0xc087a952431045590443) h
theorem G4{i1 i2 j1 j2 n:Nat}(h:j2=j1+(i2-i1)):max j1 (j2-n)=j2-min n (i2-i1):=by have e:i2-i1=j2-j1:=(aU 0x3 0x35190c2416a4414861) h;exists e;exact Az ((aU 0x3 0x351910411e061) h)
theorem abT{i1 i2 j1 j2 n:Nat}(g:i1<=i2)(h:j2=j1+(i2-i1)):j2=max j1 (j2-n)+(i2-max i1 (i2-n)):=by exists G4 h;exists Az g;have k:min n (i2-i1)<=i2-i1:=Q9 _ _;exists Nat.sub_sub_self (ZC k (Qw _ _));exact bG (Nat.sub_add_cancel (ZC k (h▸Th _ _))) rfl
theorem abZ{i1 i2 j j1 j2 n:Nat}(e:j1=j)(h:j2=j1+(i2-i1)):min j2 (j1+n)=j+min n (i2-i1):=by exists Zz e;rw[h,Nat.add_min_add_left,Nat.min_comm]
theorem DX{i N k l i1 i2:Nat}(e1:i1=i)(len:l=i2-i1)(q:2*N<i2-i1)(hk:l-2*N=k+1):(((i+min N (i2-i1):Nat):Int)+1+(k:Int))=((i2-min N (i2-i1):Nat):Int):=by
 have e:min N (i2-i1)=N:=V3 ((au 0x3 0x1990c3310df890c22) q);exists e;have e2:i2-i1=2*N+(k+1):=by exists Zz hk;exists len;exact(Wd (XM q)).symm
 have e3:i2=i1+(2*N+(k+1)):=by exists Zz e2;exact(Wd (XM (Nat.lt_of_sub_pos (RM (ZI _) q)))).symm
 have:i+N+1+k=i2-N:=by exists e3;exists e1;exact(aU 0x20c45 0x1a90e31889e498c6f10741892227c462) (Wm (i+(2*N+(k+1))-N))
 exists Zz this;rfl
theorem Mc{j N k l i1 i2 j1 j2:Nat}(e1:j1=j)(h:j2=j1+(i2-i1))(len:l=i2-i1)(q:2*N<i2-i1)(hk:l-2*N=k+1):(((j+min N (i2-i1):Nat):Int)+1+(k:Int))=((j2-min N (i2-i1):Nat):Int):=by have e:i2-i1=j2-j1:=(aU 0x3 0x35190c2416a4414861) h;rw[e]at len q⊢;exact DX e1 len q hk
theorem JC{l N n R i1 i2:Nat}(hN:N=min n R)(len:l=i2-i1)(er:i2-i1<=R)(z:i1=0):l-N=i2-min n (i2-i1):=by subst hN z len;rw[Rs]at*;exact(au 0x3 0x30116a5410c52a0462) er
theorem ae0{l N n R i1 i2 j1 j2:Nat}(hN:N=min n R)(len:l=i2-i1)(er:i2-i1<=R)(z:j1=0)(h:j2=j1+(i2-i1)):l-N=j2-min n (i2-i1):=by have e:i2-i1=j2-j1:=(aU 0x3 0x35190c2416a4414861) h;rw[e]at len er⊢;exact JC hN len er z
theorem aeZ{x N n R:Nat}(hN:N=min n R)(er:x<=R):x-N=x-n:=by exists hN;exact(au 0x3 0xc045a90c52a0462) er
theorem DE{x y t:Nat}(h:t+1<=min x y):min x y-(t+1)<min x y-t:=by generalize min x y=z at*;exact(ar 0x2 0xc062278b321065113c41) h
theorem DM{i a j b:Nat}(h:a<=i)(g:b<=j):(min ((i:Int)-a) ((j:Int)-b)+1).toNat=min (i-a) (j-b)+1:=by have e1:(i:Int)-a=((i-a:Nat):Int):=(ar 0x2 0x6022eda420c841) h;have e2:(j:Int)-b=((j-b:Nat):Int):=(ar 0x2 0x6022eda420c841) g;exists e1;exists e2;generalize i-a=x;generalize j-b=y;exact(au 0xc44 0x3076227d062b077113e831582fd444fa0c41) (@Zn (min (↑x:Int) (↑y:Int)+1))
theorem fl{x y:Int}:x+(y-x)+1=y+1:=ia 0x1 0x1d889e27444f8c82e1382e
theorem aee{l x n N R:Nat}(hN:N=min n R)(len:l=x)(er:x<=R)(q:¬2*n<x):l<=2*N:=by subst hN len;exact(au 0x64 0x30317b229846fc4e8308de2) er q
theorem DD{i a j b t:Nat}(c1:a<i-t)(c2:b<j-t):t+1<=min (i-a) (j-b):=Qx.mpr ⟨(au 0x64 0x1990443c4862889e1) c1,(au 0x64 0x1990443c4862889e1) c2⟩
theorem aeG{a i p h x y:Nat}(h1:x<=i-a)(h2:y<=h-p)(b1:a<=i)(b2:i<=p)(b3:p<=h):x+(p-i)+y<=h-a:=(gC 0x6 0x31210c38914c4c0c5828f062e2423449190ca1) h1 h2 b1 b2 b3
theorem adh{n c:Nat}(h:0<c):(n<200\/100*((c:Int)-1)<=n)↔(¬200<=n\/¬n/100+1<c):=⟨λq=>by exact Ar.bA 0x4 0x81b14e42790b023f2981de2d0a23984b023f25811e3103d92444f0fb024c0ef [_,_,n%100,_] [] (by kernel_rfl) q (Yw (n) 100) (UL (n) (by decide:100>0)),λq=>by exact Ar.bA 0x85 0x207b21889e2f606981dfa1c493116047881b1ce42784b023f2981de3 [_,_,_,n%100] [] (by kernel_rfl) q (Yw (n) 100)⟩
theorem aa9{a b c d:Nat}(k1:a<b\/(a=b/\c<=d))(k2:b<a\/(b=a/\d<=c)):a=b:=(aU 0x3 0x81fc103a18b231081fc049a10f221e862) k1 k2
theorem aba{a b c d:Nat}(k1:a<b\/(a=b/\c<=d))(k2:b<a\/(b=a/\d<=c)):c=d:=(aU 0x3 0x81fc0c3a20b241081fc047a1132226861) k1 k2
theorem ae1{i k p q m n:Nat}(z1:p+m=i+1)(z2:q+m=n+1)(e:m=k+1):i-k<p\/(i-k=p/\n-k<=q):=by rw[e]at z1 z2;have h1:p+k=i:=UV z1;have h2:q+k=n:=UV z2;exact .inr ⟨by rw[<-h1,WF],by rw[<-h2,WF];exact ZO _⟩
theorem rsA{a b:Int}(h:a<b):b-a=((b-a).toNat:Int):=(wt 0x3 0x704e1b860ec86e13ac1dc86e13ac17f4321b84e) h (@Zn (b-a))
theorem rsB{a b:Int}(h:¬a<b):0=((b-a).toNat:Int):=(wt 0x3 0x1ee09c370c1a0bc3bb05f21b84ee842f) h (@YR (b-a))
theorem Kc{x:Int}(h:x<0):-x=(x.natAbs:Int):=(jN 0x3 0xe05e270c1db89d60eec1789dd0dc4e) h (@Int.ofNat_natAbs_of_nonpos (x))
theorem Kd{x:Int}(h:¬x<0):x=(x.natAbs:Int):=(jN 0x3 0x7b81789c30744eb07627582fe844e) h (@WW (x))
theorem LN{c:Int}(h:c<1112064):(if c<55296 then c else c+2048)<=1114111:=by
 split;·exact Ar.bA 0x3 0x38313b018861e811e3d844e [1114111,0,55296] [0,_,0] (by kernel_rfl) ‹_› (by decide:(55296+4000:Nat)<=1114111)
 ·exact Ar.bA 0x3 0x1c189d80c8110404f1ec310c0301bc4e [1114111,0,1112064] [0,_,0] (by kernel_rfl) h (by decide:(1112064+2047:Nat)<=1114111)
theorem LP{c:Int}(h:0<=c):0<=(if c<55296 then c else c+2048):=by
 split;·exact h
 ·exact Ar.bA 0x23 0x1ee044edc4300c06f1382f [55296,0] [0,_] (by kernel_rfl) ‹_›
theorem adw{n j:Nat}(h:j<n):((n:Int)-1+-(j:Int)).toNat=n-1-j:=(au 0x64 0x183b1b8e4278ac1dc6e3909e2b05e30682f0eec17c6e3909e2d487213c41) (@Zn ((↑n:Int)-1+-(↑j:Int))) (@YR ((↑n:Int)-1+-(↑j:Int)))
theorem acV{x y z n:Nat}(h1:x<=1)(h2:y<=1)(h3:z<=2*n):x+y+z<=2*(n+1):=(aU 0x4 0x604f0e04f162641bc789c44f20df11c441) h1 h2 h3
theorem Kg{x y:Nat}(h1:x<=10)(h2:y<=10):x+1+y<=30:=(ar 0x3 0x185bc385bc58fbe22889e1) h1 h2
theorem Mb{c z l a:Nat}(h:c<=l)(e:c+0=a):a<=l:=(au 0x3 0xc087a0c42f1e041) h e
theorem aeH{x l:Nat}(h:x<=2*l)(g:l<=65):x<=3000:=(ar 0x3 0xc4c437870280de2c661e80de1) h g
theorem ge1{x l b:Nat}(h:x<=l)(e:x+0=b)(z:l=0)(p:0<b):False:=(au 0x4 0x3020e8710bc3a0bc5ec8c2f) h e z p
end Ar
end Mine.Internal
open PySem
namespace Mine.Internal
noncomputable def seg(l:List ZU)(i j:Nat):List ZU:=(l.take j).drop i
noncomputable def vv(S:ZU->Bool):List ZU->List ZU->Nat
 |x::xs,y::ys=>if x=y/\S x=ZW then vv S xs ys+1 else 0|_,_=>0
theorem yA(S:ZU->Bool):∀(t:Nat)(xs ys:List ZU),t<=vv S xs ys↔t<=xs.length/\t<=ys.length/\xs.take t=ys.take t/\(xs.take t).all S=ZW:=by intro ik;induction ik with
 |zero=>intro xs;intro ys;simp;|succ t ih=>intro lK;cases lK with
 |nil=>intro ys;show t+1<=0↔t+1<=0/\_;simp;|cons x xs=>intro J3;cases J3 with
 |nil=>show t+1<=0↔_/\t+1<=0/\_;simp;|cons y ys=>
    show t+1<=ite _ _ _↔_;by_cases h:x=y/\S x=ZW
    ·exists if_pos h;have:=ih xs ys;simp only[ZF,Wc,Ug,h.1,h.2,Uf,Tf,true_and,Yo];rw[this];constructor;·rintro⟨a,b,c,d⟩;exact l5 a b c (h.1▸h.2) d
     ·rintro⟨a,b,c,C,d⟩;exact k9 a b c d
    ·exists if_neg h;simp only[Wc,Tf,Ug,Yo];constructor;·intro q;exact((aD 0x22 0xf602f889e1) q).elim
     ·rintro⟨C,C,⟨e,C⟩,e2,C⟩;exact absurd ⟨e,e2⟩ h
noncomputable def gF(a b:List ZU)(S:ZU->Bool)(V I p q:Nat):Nat:=vv S (seg a p V) (seg b q I)
theorem l8(l:List ZU)(i j:Nat)(h:j<=l.length):(seg l i j).length=j-i:=by unfold seg;exists Xy;exists Zi;exact(au 0x3 0xc045a90c521d022) h
theorem sq(l:List ZU)(i j t:Nat)(h:i+t<=j):(seg l i j).take t=seg l i (i+t):=by exists List.take_drop;exists Qv;exact bG (V3 h) rfl
theorem At{a b:List ZU}{S:ZU->Bool}{V I p q m:Nat}(ha:V<=a.length)(hb:I<=b.length):m<gF a b S V I p q↔(p+m<V/\q+m<I/\seg a p (p+m+1)=seg b q (q+m+1))/\(seg a p (p+m+1)).all S=ZW:=by
 unfold gF;rw[<-Nat.succ_le_iff,yA,l8 a p V ha,l8 b q I hb];constructor;·rintro⟨h1,h2,h3,h4⟩;have e1:p+m<V:=(au 0x43 0x189047113c591c441) h1;have e2:q+m<I:=(au 0x43 0x189047113c591c441) h2;rw[sq a p V (m+1) ((au 0x2 0x191c441c0e3113c41) e1),sq b q I (m+1) ((au 0x2 0x191c441c0e3113c41) e2)]at h3;rw[sq a p V (m+1) ((au 0x2 0x191c441c0e3113c41) e1)]at h4;exact⟨(bM e1 e2 h3),h4⟩
 ·rintro⟨⟨e1,e2,h3⟩,h4⟩;refine k9 ((au 0x3 0x1914423c4862889e1) e1) ((au 0x3 0x1914423c4862889e1) e2) ?_ ?_;·exists sq a p V (m+1) ((au 0x2 0x191c441c0e3113c41) e1);exists sq b q I (m+1) ((au 0x2 0x191c441c0e3113c41) e2);exact h3
  ·exists sq a p V (m+1) ((au 0x2 0x191c441c0e3113c41) e1);exact h4
structure dC where
 m:Nat
 i:Nat
 j:Nat
noncomputable def m9(a b:List ZU)(S:ZU->Bool)(V I p:Nat)(st:dC)(q:Nat):dC:=if st.m<gF a b S V I p q then⟨gF a b S V I p q,p,q⟩else st
noncomputable def m8(a b:List ZU)(S:ZU->Bool)(V aa I p n:Nat)(st:dC):dC:=(Zh n).foldl (λst t=>m9 a b S V I p st (aa+t)) st
theorem yt(a b:List ZU)(S:ZU->Bool)(V aa I p n:Nat)(st:dC):m8 a b S V aa I p (n+1) st=m9 a b S V I p (m8 a b S V aa I p n st) (aa+n):=by unfold m8;exists Wx;exists Yk;rfl
noncomputable def qI(a:List ZU)(S:ZU->Bool)(ae V:Nat):List Nat:=((Zh (V-ae)).map (ae+·)).filter λp=>S (a.getD p XZ)
noncomputable def pT(a b:List ZU)(S:ZU->Bool)(V aa I:Nat)(ps:List Nat)(st:dC):dC:=ps.foldl (λst p=>m8 a b S V aa I p (I-aa) st) st
noncomputable def i9(a b:List ZU)(S:ZU->Bool)(ae V aa I:Nat):dC:=pT a b S V aa I (qI a S ae V) ⟨0,ae,aa⟩
noncomputable def mx(P:Nat->Bool):Nat->Nat
 |0=>0|n+1=>if P (n+1)then n+1 else mx P n
theorem mO(P:Nat->Bool):∀n,mx P n<=n:=by intro N';induction N' with|zero=>exact ZO _;|succ n ih=>show ite _ _ _<=_;split;exact ZO _;exact WV (ih)
theorem wC(P:Nat->Bool)(h0:P 0=ZW):∀n,P (mx P n)=ZW:=by intro N';induction N' with|zero=>exact h0;|succ n ih=>show P (ite _ _ _)=ZW;split;assumption;exact ih
theorem ul(P:Nat->Bool):∀n t,t<=n->P t=ZW->t<=mx P n:=by intro N';induction N' with|zero=>exactλt h _=>h;|succ n ih=>
  intro t h ht;show t<=ite _ _ _;split;·exact h
  ·rename_i q;refine ZR (XK t (n+1)) (λz=>?_) (λz=>?_);·exact ih t ((ar 0x2 0x19889e20e041) z) ht
   ·have:t=n+1:=(ar 0x2 0x31113c41c062278b5113c41) h z;subst this;exact absurd ht q
structure CS where
 i:Nat
 j:Nat
 p:Nat
 q:Nat
noncomputable def bc(a b:List ZU)(S:ZU->Bool)(ae V aa I:Nat):CS:=let st:=i9 a b S ae V aa I;let back:=mx (λt=>seg a (st.i-t) st.i==seg b (st.j-t) st.j) (min (st.i-ae) (st.j-aa));let on:=mx (λt=>seg a (st.i+st.m) (st.i+st.m+t)==seg b (st.j+st.m) (st.j+st.m+t)) (min (V-(st.i+st.m)) (I-(st.j+st.m)));⟨st.i-back,st.j-back,st.i+st.m+on,st.j+st.m+on⟩
noncomputable def fK(a b:List ZU)(S:ZU->Bool):Nat->Nat->Nat->Nat->Nat->List (Nat×Nat)
 |0,_,_,_,_=>[]|d+1,ae,V,aa,I=>let k:=bc a b S ae V aa I;if k.i=k.p then[]else fK a b S d ae k.i aa k.j++((Zh (k.p-k.i)).map λt=>(k.i+t,k.j+t))++fK a b S d k.p V k.q I
def gm(a b:List ZU)(S:ZU->Bool):Nat->Nat->Nat->Nat->Nat->Prop
 |0,_,_,_,_=>False|d+1,ae,V,aa,I=>let k:=bc a b S ae V aa I;k.i=k.p\/(gm a b S d ae k.i aa k.j/\gm a b S d k.p V k.q I)
theorem aaw(a b:List ZU)(S:ZU->Bool)(d ae V aa I:Nat):fK a b S (d+1) ae V aa I=(if(bc a b S ae V aa I).i=(bc a b S ae V aa I).p then[]else fK a b S d ae (bc a b S ae V aa I).i aa (bc a b S ae V aa I).j++((Zh ((bc a b S ae V aa I).p-(bc a b S ae V aa I).i)).map λt=>((bc a b S ae V aa I).i+t,(bc a b S ae V aa I).j+t))++fK a b S d (bc a b S ae V aa I).p V (bc a b S ae V aa I).q I):=rfl
theorem JU(a b:List ZU)(S:ZU->Bool)(d ae V aa I:Nat):gm a b S (d+1) ae V aa I=((bc a b S ae V aa I).i=(bc a b S ae V aa I).p\/(gm a b S d ae (bc a b S ae V aa I).i aa (bc a b S ae V aa I).j/\gm a b S d (bc a b S ae V aa I).p V (bc a b S ae V aa I).q I)):=rfl
structure lI(ae V aa I:Nat)(st:dC):Prop where
 i0:ae<=st.i
 i1:st.i+st.m<=V
 j0:aa<=st.j
 j1:st.j+st.m<=I
theorem adO{a b:List ZU}{S:ZU->Bool}{V I p q:Nat}(ha:V<=a.length)(hb:I<=b.length):gF a b S V I p q<=V-p/\gF a b S V I p q<=I-q:=by have:=(yA S (gF a b S V I p q) (seg a p V) (seg b q I)).mp (ZO _);rw[l8 a p V ha,l8 b q I hb]at this;exact⟨this.1,this.2.1⟩
theorem lI.step{a b:List ZU}{S:ZU->Bool}{ae V aa I p q:Nat}{st:dC}(ha:V<=a.length)(hb:I<=b.length)(hp:ae<=p)(jI:p<V)(hq:aa<=q)(kg:q<I)(h:lI ae V aa I st):lI ae V aa I (m9 a b S V I p st q):=by
 unfold m9;have:=adO (S:=S) (p:=p) (q:=q) ha hb;split;·exact⟨hp,by simp only;exact(bQ 0x3 0x6482fe24508f121107824462) jI this,hq,by simp only;exact(bQ 0x3 0x6482fe24220f120947824462) kg this⟩
 ·exact h
theorem lI.inner{a b:List ZU}{S:ZU->Bool}{ae V aa I p:Nat}{st:dC}(ha:V<=a.length)(hb:I<=b.length)(hp:ae<=p)(jI:p<V)(h:lI ae V aa I st):∀n,n<=I-aa->lI ae V aa I (m8 a b S V aa I p n st):=by intro N';induction N' with|zero=>exactλ_=>h;|succ n ih=>intro hn;rw[yt];exact(ih ((au 0x3 0x1890c3113c5890c22) hn)).step ha hb hp jI (ar 0x22 0x1888442) ((au 0x43 0x189047113c591c441) hn)
theorem lI.outer{a b:List ZU}{S:ZU->Bool}{ae V aa I:Nat}(ha:V<=a.length)(hb:I<=b.length):∀(ps:List Nat)(st:dC),(∀p∈ps,ae<=p/\p<V)->lI ae V aa I st->lI ae V aa I (pT a b S V aa I ps st):=by intro N';induction N' with|nil=>exactλst _ h=>h;|cons p ps ih=>exactλst hp h=>ih _ (λq hq=>hp q (.tail _ hq)) (h.inner ha hb (hp p (.head _)).1 (hp p (.head _)).2 _ (ZO _))
theorem adp{a:List ZU}{S:ZU->Bool}{ae V:Nat}:∀p∈qI a S ae V,ae<=p/\p<V:=λp hp=>by refine aO (X0.mp hp) λh C=>?_;refine dn h λt ht=>?_;have:=X4.mp ht;exact(au 0x43 0xcc82317f238883888821) this
theorem vi{a b:List ZU}{S:ZU->Bool}{ae V aa I:Nat}(ha:V<=a.length)(hb:I<=b.length)(h1:ae<=V)(h2:aa<=I):lI ae V aa I (i9 a b S ae V aa I):=lI.outer ha hb _ _ adp ⟨ZO _,h1,ZO _,h2⟩
theorem DF{a b:List ZU}{S:ZU->Bool}{ae V aa I:Nat}(ha:V<=a.length)(hb:I<=b.length)(h1:ae<=V)(h2:aa<=I):ae<=(bc a b S ae V aa I).i/\(bc a b S ae V aa I).i<=(bc a b S ae V aa I).p/\(bc a b S ae V aa I).p<=V/\aa<=(bc a b S ae V aa I).j/\(bc a b S ae V aa I).q<=I/\(bc a b S ae V aa I).q-(bc a b S ae V aa I).j=(bc a b S ae V aa I).p-(bc a b S ae V aa I).i/\(bc a b S ae V aa I).j<=(bc a b S ae V aa I).q:=by obtain⟨b1,b2,b3,b4⟩:=vi (S:=S) ha hb h1 h2;simp only[bc];generalize i9 a b S ae V aa I=st at*;have q1:=mO (λt=>seg a (st.i-t) st.i==seg b (st.j-t) st.j) (min (st.i-ae) (st.j-aa));have q2:=mO (λt=>seg a (st.i+st.m) (st.i+st.m+t)==seg b (st.j+st.m) (st.j+st.m+t)) (min (V-(st.i+st.m)) (I-(st.j+st.m)));exact Ar.Lo b1 b2 b3 b4 q1 q2
structure Run(a b:List ZU)(S:ZU->Bool)(ae V aa I p q m:Nat):Prop where
 p0:ae<=p
 p1:p+m<=V
 q0:aa<=q
 q1:q+m<=I
 eq:∀t,t<m->a[p+t]?=b[q+t]?/\S (a.getD (p+t) XZ)=true
structure gq(ae aa:Nat)(W:Nat->Nat->Nat->Prop)(st:dC):Prop where
 zero:st.m=0->st.i=ae/\st.j=aa
 ok:0<st.m->W st.i st.j st.m
 top:∀p q m,0<m->W p q m->m<=st.m/\(m=st.m->st.i<p\/(st.i=p/\st.j<=q))
theorem gq.uniq{ae aa:Nat}{W:Nat->Nat->Nat->Prop}{x y:dC}(hx:gq ae aa W x)(hy:gq ae aa W y):x=y:=by
 obtain⟨xm,xi,xj⟩:=x;obtain⟨ym,yi,yj⟩:=y;have z1:=hx.zero;have z2:=hy.zero;have o1:=hx.ok;have o2:=hy.ok;have t1:=hx.top yi yj ym;have t2:=hy.top xi xj xm;simp only at*;refine ZR (W6 xm) (λh=>?_) (λh=>?_)<;>refine ZR (W6 ym) (λh'=>?_) (λh'=>?_);·refine aO (z1 h) λe1 e2=>?_;refine aO (z2 h') λe3 e4=>?_;subst h h' e1 e2 e3 e4;rfl
 ·have:=(t1 h' (o2 h')).1;exact((ar 0x3 0xd05e1c882ff6022) h h' this).elim
 ·have:=(t2 h (o1 h)).1;exact((ar 0x3 0xc842fd05e2f6041) h h' this).elim
 ·refine aO (t1 h' (o2 h')) λl1 k1=>?_;refine aO (t2 h (o1 h)) λl2 k2=>?_;have e:xm=ym:=Nat.le_antisymm l2 l1;have k1:=k1 e.symm;have k2:=k2 e;have ei:xi=yi:=Ar.aa9 k1 k2;have ej:xj=yj:=Ar.aba k1 k2;subst e ei ej;rfl
theorem vN{l:List ZU}{i:Nat}{x:ZU}(h:l[i]?=Z7 x):l.getD i XZ=x:=by exists Zj;exists h;rfl
theorem mT(l:List ZU)(i j t:Nat):(seg l i j)[t]?=if i+t<j then l[i+t]? else ZT:=by exists UK;exact bG X3 rfl
theorem L8{S:ZU->Bool}:∀(m:Nat)(xs ys:List ZU),m<=vv S xs ys↔m<=xs.length/\m<=ys.length/\∀t,t<m->xs[t]?=ys[t]?/\S (xs.getD t XZ)=ZW:=by
 intro m xs ys;rw[yA];constructor
 ·rintro⟨h1,h2,h3,h4⟩;refine bM h1 h2 (λt ht=>?_);have e1:(xs.take m)[t]?=xs[t]?:=by exists X3;exact bG (if_pos ht) rfl
  have e2:(ys.take m)[t]?=ys[t]?:=by exists X3;exact bG (if_pos ht) rfl
  refine⟨by exists Zz e1;exists Zz e2;exact bG h3 rfl,?_⟩;have hx:xs[t]?=Z7 (xs[t]'((au 0x3 0x1810f230e441) h1 ht)):=Z0 _;exists vN hx;refine W9.mp h4 _ (YN (i:=t) ?_);exists e1;exact bG hx rfl
 ·rintro⟨h1,h2,h3⟩;refine k9 h1 h2 ?_ ?_
  ·apply VN;intro t;exists X3;exists X3;split;·exact(h3 t (by assumption)).1
   ·rfl
  ·rw[W9];intro x hx;obtain⟨t,ht⟩:=SP hx;replace ht:=X3▸ht;split at ht;·have:=(h3 t (by assumption)).2;rwa[vN ht]at this
   ·cases ht
theorem B9{a b:List ZU}{S:ZU->Bool}{ae V aa I p q m:Nat}(ha:V<=a.length)(hb:I<=b.length)(hp:ae<=p)(hq:aa<=q)(hm:0<m):m<=gF a b S V I p q↔Run a b S ae V aa I p q m:=by
 unfold gF;rw[L8,l8 a p V ha,l8 b q I hb];constructor;·rintro⟨h1,h2,h3⟩;refine⟨hp,(au 0x3 0x3220bf1208c581c441) hm h1,hq,(au 0x3 0x3220bf1208c581c441) hm h2,λt ht=>?_⟩;refine aO (h3 t ht) λe1 e2=>?_;rw[mT,mT,if_pos (by exact(aU 0x44 0x1890483c8c5924441) h1 ht),if_pos (by exact(aU 0x44 0x1890483c8c5924441) h2 ht)]at e1;refine⟨e1,?_⟩;rw[Zj,mT,if_pos (by exact(aU 0x44 0x1890483c8c5924441) h1 ht),<-Zj]at e2;exact e2
 ·rintro⟨C,h1,C,h2,h3⟩;refine bM ((au 0x3 0x3028847890c41) h1) ((au 0x3 0x3028847890c41) h2) (λt ht=>?_);refine aO (h3 t ht) λe1 e2=>?_;rw[mT,mT,if_pos (by exact(aU 0x3 0x181c481c90591c441) h1 ht),if_pos (by exact(aU 0x3 0x181c481c90591c441) h2 ht)];refine⟨e1,?_⟩;rw[Zj,mT,if_pos (by exact(aU 0x3 0x181c481c90591c441) h1 ht),<-Zj];exact e2
def Lx(p q p' q':Nat):Prop:=p<p'\/(p=p'/\q<q')
theorem gq.mono{ae aa:Nat}{W W':Nat->Nat->Nat->Prop}{st:dC}(h:gq ae aa W st)(h1:∀p q m,0<m->(W p q m↔W' p q m)):gq ae aa W' st:=⟨h.zero,λq=>(h1 _ _ _ q).mp (h.ok q),λp q m hm w=>h.top p q m hm ((h1 _ _ _ hm).mpr w)⟩
section
variable{a b:List ZU}{S:ZU->Bool}{ae V aa I:Nat}
def mZ(a b:List ZU)(S:ZU->Bool)(ae V aa I p q:Nat)(p' q' m:Nat):Prop:=Run a b S ae V aa I p' q' m/\Lx p' q' p q
theorem Lf(ha:V<=a.length)(hb:I<=b.length){p q:Nat}(hp:ae<=p)(hq:aa<=q){st:dC}(h:gq ae aa (mZ a b S ae V aa I p q) st):gq ae aa (mZ a b S ae V aa I p (q+1)) (m9 a b S V I p st q):=by
 unfold m9;split
 ·rename_i bC;refine⟨λz=>?_,λz=>⟨(B9 ha hb hp hq z).mp (ZO _),.inr ⟨rfl,Wh _⟩⟩,?_⟩;·have z:gF a b S V I p q=0:=z;replace bC:=z▸bC;exact absurd bC (WX _)
  ·rintro p' q' m hm⟨r,lx⟩;show m<=gF a b S V I p q/\(m=gF a b S V I p q->p<p'\/(p=p'/\q<=q'));by_cases e:p'=p/\q'=q;·refine aO e ?_;clear e;intro b6 bJ;subst b6;subst bJ;exact⟨(B9 ha hb hp hq hm).mpr r,λC=>.inr ⟨rfl,ZO _⟩⟩
   ·have l2:Lx p' q' p q:=by unfold Lx at lx⊢;exact(aU 0x3 0x81fcc44f2074316462f7f440e862103f92074316462) lx e
    have:=(h.top p' q' m hm ⟨r,l2⟩).1;exact⟨(au 0x3 0x1910f030e041) bC this,λC=>(lh 0x4 0x1918b023e867103f8317440e481) bC this ‹_›⟩
 ·rename_i bC;refine⟨h.zero,λz=>?_,?_⟩;·refine aO (h.ok z) λr lx=>?_;exact⟨r,by unfold Lx at lx⊢;exact(aU 0x3 0x81fc905a187230881fcc44f20b430e461) lx⟩
  ·rintro p' q' m hm⟨r,lx⟩;by_cases e:p'=p/\q'=q;·refine aO e ?_;clear e;intro b7 cy;subst b7;subst cy;have h1:=(B9 ha hb hp hq hm).mpr r;refine⟨(au 0x3 0x3d918b030e041) bC h1,λe=>?_⟩;refine aO (h.ok ((ar 0x3 0x64417e822c842f) hm e)) λC lx=>?_;unfold Lx at lx;exact(aU 0x3 0x103f920b430e461103f820b430e461) lx
   ·exact h.top p' q' m hm ⟨r,by unfold Lx at lx⊢;exact(aU 0x3 0x81fcc44f2074316462f7f440e862103f92074316462) lx e⟩
theorem Lc(ha:V<=a.length)(hb:I<=b.length){p:Nat}(hp:ae<=p){st:dC}(h:gq ae aa (mZ a b S ae V aa I p aa) st):∀n,gq ae aa (mZ a b S ae V aa I p (aa+n)) (m8 a b S V aa I p n st):=by intro N';induction N' with|zero=>exact h;|succ n ih=>rw[yt];exact Lf ha hb hp (W8 _ _) (ih)
theorem Le(ha:V<=a.length)(hb:I<=b.length):∀(n p:Nat)(st:dC),ae<=p->p+n=V->gq ae aa (mZ a b S ae V aa I p aa) st->gq ae aa (mZ a b S ae V aa I V aa) (pT a b S V aa I (((QU p n)).filter λp=>S (a.getD p XZ)) st):=by intro N';induction N' with
 |zero=>intro p st _ e h;have e:p=V:=e;subst e;exact h;|succ n ih=>
  intro p st hp e h;have wK:∀aW,gq ae aa (mZ a b S ae V aa I p (aa+(I-aa))) aW->gq ae aa (mZ a b S ae V aa I (p+1) aa) aW:=λaW h'=>h'.mono λp' q' m hm=>by
   constructor;·rintro⟨r,lx⟩;exact⟨r,by unfold Lx at lx⊢;exact(bQ 0x3 0x40fe63209424d0c5918840fe424d444f18b3113c62) lx⟩
   ·rintro⟨r,lx⟩;have:=r.q0;have:=r.q1;refine⟨r,by unfold Lx at lx⊢;exact(gC 0x5 0x3240bc40fe423d444f28b3113ca2c0c3834483103f98c82608f45164a2) hm lx ‹_› this⟩
  exists Q8;exists Yb;split;·exact ih (p+1) _ ((ar 0x2 0x181071113c41) hp) ((au 0x2 0xd0e3113c41d0e22889e1) e) (wK _ (Lc ha hb hp h (I-aa)))
  ·rename_i hs;refine ih (p+1) _ ((ar 0x2 0x181071113c41) hp) ((au 0x2 0xd0e3113c41d0e22889e1) e) (wK _ ?_);refine h.mono λp' q' m hm=>?_;constructor;·rintro⟨r,lx⟩;exact⟨r,by unfold Lx at lx⊢;exact(bQ 0x4 0x103f918b440e481103f98c86518b440e481) lx⟩
   ·rintro⟨r,lx⟩;refine⟨r,?_⟩;by_cases e:p'=p;·have:=(r.eq 0 hm).2;subst e;exact absurd this hs
    ·unfold Lx at lx⊢;exact(bQ 0x4 0x103f98c82508b441e483f6883103f908b441e483) lx e
theorem vj(ha:V<=a.length)(hb:I<=b.length)(h1:ae<=V):gq ae aa (Run a b S ae V aa I) (i9 a b S ae V aa I):=by
 have h0:gq ae aa (mZ a b S ae V aa I ae aa) ⟨0,ae,aa⟩:=by refine⟨λC=>⟨rfl,rfl⟩,λz=>absurd z (YT _),?_⟩;rintro p q m hm⟨r,lx⟩;have:=r.p0;have:=r.q0;unfold Lx at lx;exact(pk 0x5 0x81fca09a38f271e067c111f18040fe086d0c5918b450e0a1) lx ‹_› this
 have:=Le (S:=S) (a:=a) (b:=b) (I:=I) ha hb (V-ae) ae _ (ZO _) ((ar 0x2 0x3020e85190441) h1) h0;have er:(Zh (V-ae)).map (ae+·)=QU ae (V-ae):=by exact bG List.range'_eq_map_range rfl
 unfold i9 qI;exists er;refine this.mono λp q m hm=>⟨λx=>x.1,λr=>⟨r,?_⟩⟩;have:=r.p1;unfold Lx;exact(bQ 0x3 0x19105f81c441103f9293430e461) hm this
end
structure FS where
 best:dC
 L:Nat->Nat
noncomputable def dN(L:Nat->Nat):Nat->Nat
 |0=>0|j+1=>L j
noncomputable def kU(i:Nat)(L:Nat->Nat)(st:FS)(j:Nat):FS:=⟨if st.best.m<dN L j+1 then⟨dN L j+1,i-dN L j,j-dN L j⟩else st.best,λx=>if x=j then dN L j+1 else st.L x⟩
noncomputable def vG(a b:List ZU)(S:ZU->Bool)(aa I i n:Nat):List Nat:=(Zh n).filter λj=>decide (aa<=j)&&decide (j<I)&&(decide (a[i]?=b[j]?)&&S (a.getD i XZ))
noncomputable def jC(a b:List ZU)(S:ZU->Bool)(aa I i n:Nat)(st:FS):FS:=(vG a b S aa I i n).foldl (kU i st.L) ⟨st.best,λC=>0⟩
noncomputable def oM(a b:List ZU)(S:ZU->Bool)(ae aa I:Nat):Nat->FS
 |0=>⟨⟨0,ae,aa⟩,λC=>0⟩|t+1=>jC a b S aa I (ae+t) b.length (oM a b S ae aa I t)
section
variable{a b:List ZU}{S:ZU->Bool}{ae V aa I:Nat}
theorem Nk(i n:Nat)(st:FS):jC a b S aa I i (n+1) st=if(decide (aa<=n)&&decide (n<I)&&(decide (a[i]?=b[n]?)&&S (a.getD i XZ)))=ZW then kU i st.L (jC a b S aa I i n st) n else jC a b S aa I i n st:=by unfold jC vG;exists Wx;rw[Xx,Yk,Yb];split<;>rfl
def ya(a b:List ZU)(S:ZU->Bool)(ae V aa I i j:Nat)(p q m:Nat):Prop:=Run a b S ae V aa I p q m/\Lx (p+m) (q+m) (i+1) (j+1)
def sU(a b:List ZU)(S:ZU->Bool)(ae V aa I i:Nat)(L:Nat->Nat):Prop:=∀j m,0<m->(m<=L j↔∃p q,p+m=i/\q+m=j+1/\Run a b S ae V aa I p q m)
theorem adN{p q m i j:Nat}(h:Run a b S ae V aa I p q (m+1))(e1:p+(m+1)=i+1)(e2:q+(m+1)=j+1):(aa<=j/\j<I)/\a[i]?=b[j]?/\S (a.getD i XZ)=ZW:=by have hx:=h.eq m (Wh m);have:=h.q0;have:=h.q1;have e3:p+m=i:=(au 0x2 0xd444f1c6227883a1c441) e1;have e4:q+m=j:=(au 0x2 0xd444f1c6227883a1c441) e2;replace hx:=e4▸e3▸hx;exact⟨(bQ 0x85 0x1a889e28c44f217050e071889e42ff2316041) e2 ‹_› this,hx⟩
theorem adQ{p q m:Nat}(h:Run a b S ae V aa I p q m)(h1:p+m<V)(h2:q+m<I)(h3:a[p+m]?=b[q+m]?)(h4:S (a.getD (p+m) XZ)=ZW):Run a b S ae V aa I p q (m+1):=⟨h.p0,h1,h.q0,h2,λt ht=>by
  refine ZR (XI (VM ht)) (λz=>?_) (λz=>?_);·exact h.eq t z
  ·exists z;exact⟨h3,h4⟩⟩
theorem adL{p q m:Nat}(h:Run a b S ae V aa I p q (m+1)):Run a b S ae V aa I p q m:=⟨h.p0,Rr h.p1,h.q0,Rr h.q1,λt ht=>h.eq t (VL ht)⟩
theorem BY{i j:Nat}{L:Nat->Nat}(hL:sU a b S ae V aa I i L)(m:Nat)(hm:0<m):m<=dN L j↔∃p q,p+m=i/\q+m=j/\Run a b S ae V aa I p q m:=by cases j with
 |zero=>
  show m<=0↔_;constructor;·intro h;exact((aD 0x2 0x19085fec05e1) hm h).elim
  ·rintro⟨p,q,C,e,C⟩;exact(ar 0x43 0x3417c422c05e1) e;|succ j=>exact hL j m hm
theorem acj{i j:Nat}{L:Nat->Nat}(hL:sU a b S ae V aa I i L)(h0:ae<=i)(h1:i<V)(hq:aa<=j)(kg:j<I)(e:a[i]?=b[j]?)(s:S (a.getD i XZ)=ZW)(m:Nat)(hm:0<m):m<=dN L j+1↔∃p q,p+m=i+1/\q+m=j+1/\Run a b S ae V aa I p q m:=by
 obtain⟨m,rfl⟩:∃n,m=n+1:=⟨m-1,(aD 0x2 0x19085fa889f213c21) hm⟩;rw[Uf];refine ZR (W6 m) (λz=>?_) (λz=>?_);·exists z;refine⟨λC=>⟨i,j,rfl,rfl,h0,h1,hq,kg,λt ht=>?_⟩,λC=>ZI _⟩;have:t=0:=(aD 0x22 0x6622785e1d05e1) ht;exists this;exact⟨e,s⟩
 ·rw[BY hL m z];constructor;·rintro⟨p,q,e1,e2,r⟩;subst e1 e2;exact eu p q rfl rfl (adQ r h1 kg e s)
  ·rintro⟨p,q,e1,e2,r⟩;exact eu p q ((au 0x2 0xd444f1c6227883a1c441) e1) ((au 0x2 0xd444f1c6227883a1c441) e2) (adL r)
theorem adB{i:Nat}{st:FS}(hL:sU a b S ae V aa I i st.L)(h0:ae<=i)(h1:i<V)(hb:gq ae aa (ya a b S ae V aa I i 0) st.best):∀n,gq ae aa (ya a b S ae V aa I i n) (jC a b S aa I i n st).best/\∀j m,0<m->(m<=(jC a b S aa I i n st).L j↔j<n/\∃p q,p+m=i+1/\q+m=j+1/\Run a b S ae V aa I p q m):=by intro N';induction N' with|zero=>exact⟨hb,λj m hm=>⟨λh=>absurd (show m<=0 from h) ((aD 0x2 0x19085fec05e1) hm),λh=>absurd h.1 (WX _)⟩⟩;|succ n ih=>
  refine aO (ih) λrP F2=>?_;rw[Nk];generalize jC a b S aa I i n st=F at*;split
  ·rename_i hc;rw[Yo,Yo,Yo,decide_eq_true_eq,decide_eq_true_eq,decide_eq_true_eq]at hc;refine f8 hc ?_;clear hc;intro cx e s;refine aO cx λhq kg=>?_;have nx:=acj hL h0 h1 hq kg e s;have kp:dN st.L n<=i/\dN st.L n<=n:=by
    refine ZR (W6 (dN st.L n)) (λz=>?_) (λz=>?_);·exact(au 0xc44 0x682f0ff030e041) z
    ·refine fG ((BY hL _ z).mp (ZO _)) λp q e1 e2 C=>?_;exact(bQ 0x1065 0x1a0c443d162227f0516022) e1 e2
   constructor
   ·unfold kU;generalize dN st.L n=k at*;simp only;split
    ·rename_i bC;refine⟨λz=>absurd z (Nat.succ_ne_zero _),λC=>?_,?_⟩;·refine fG ((nx (k+1) (Nat.succ_pos _)).mp (ZO _)) λp q e1 e2 r=>?_;have e3:p=i-k:=(au 0x43 0xd444f0c62278c5a90c22) e1;have e4:q=n-k:=(au 0x43 0xd444f0c62278c5a90c22) e2;subst e3 e4;exact⟨r,by show Lx (i-k+(k+1)) (n-k+(k+1)) _ _;exact(au 0x3 0x6a2278a3113c7218b5113c31889e390c2207f3113e227863113c721875113c51889e390c59889e28c44f1c862) e1 e2⟩
     ·rintro p q m hm⟨r,lx⟩;show m<=k+1/\(m=k+1->i-k<p\/(i-k=p/\n-k<=q));by_cases z:p+m=i+1/\q+m=n+1;·have:=(nx m hm).mpr (eu p q z.1 z.2 r);exact⟨this,λe=>Ar.ae1 z.1 z.2 e⟩
      ·have:=(rP.top p q m hm ⟨r,by unfold Lx at lx⊢;exact(bQ 0x3 0x81fcc44f889e588c3a889e488c59889e488c5efea22796230ea22792231081fcc44f2c461d444f24462cc44f24462) lx z⟩).1;exact⟨(au 0x3 0x6622788781871113c41) bC this,λe=>(lh 0x4 0x19889e416043d444f20c40fe0f221b45910392c881) bC this e⟩
    ·rename_i bC;refine⟨rP.zero,λz=>?_,?_⟩;·refine aO (rP.ok z) λr lx=>?_;exact⟨r,by unfold Lx at lx⊢;exact(bQ 0x3 0x207f3113cb11135113c711073113c7110440fe6227c44f2c444d444f1c441cc44f1c441) lx⟩
     ·rintro p q m hm⟨r,lx⟩;by_cases z:p+m=i+1/\q+m=n+1;·have:=(nx m hm).mpr (eu p q z.1 z.2 r);refine⟨(au 0x3 0xf662278c58889e30e041) bC this,λe=>?_⟩;refine aO (rP.ok ((ar 0x43 0x7b3113c41c842f) bC)) λC lx=>?_;unfold Lx at lx;exact(pk 0x6 0x7f5113cf12075113cd120f482081fcc44f3c505d444f34502cc44f34502103f80974316462) z e lx
      ·exact rP.top p q m hm ⟨r,by unfold Lx at lx⊢;exact(bQ 0x3 0x81fcc44f889e588c3a889e488c59889e488c5efea22796230ea22792231081fcc44f2c461d444f24462cc44f24462) lx z⟩
   ·intro j m hm;show m<=(if j=n then dN st.L n+1 else F.L j)↔_;by_cases z:j=n;·exists z;exists if_pos rfl;rw[nx m hm];exact⟨λh=>⟨Wh _,h⟩,λh=>h.2⟩
    ·exists if_neg z;rw[F2 j m hm];exact⟨λh=>⟨VL h.1,h.2⟩,λh=>⟨UJ (Te.mp h.1) z,h.2⟩⟩
  ·rename_i hc;have no:∀p q m,0<m->p+m=i+1->q+m=n+1->¬Run a b S ae V aa I p q m:=λp q m hm e1 e2 r=>by obtain⟨m,rfl⟩:∃x,m=x+1:=⟨m-1,(aD 0x2 0x19085fa889f213c21) hm⟩;refine f8 (adN r e1 e2) λbH z3 z4=>?_;refine aO bH λz1 z2=>?_;exact hc (by exists decide_eq_true z1;exists decide_eq_true z2;exists decide_eq_true z3;exists z4;rfl)
   constructor
   ·refine rP.mono λp q m hm=>⟨λbS=>aO bS λr lx=>⟨r,by unfold Lx at lx⊢;exact(bQ 0x3 0x207f3113cb11135113c711073113c7110440fe6227c44f2c444d444f1c441cc44f1c441) lx⟩,λbT=>aO bT λr lx=>⟨r,?_⟩⟩;have:=no p q m hm;by_cases z:p+m=i+1/\q+m=n+1;·exact absurd r (this z.1 z.2)
    ·unfold Lx at lx⊢;exact(bQ 0x3 0x81fcc44f889e588c3a889e488c59889e488c5efea22796230ea22792231081fcc44f2c461d444f24462cc44f24462) lx z
   ·intro j m hm;rw[F2 j m hm];refine⟨λh=>⟨VL h.1,h.2⟩,λb5=>MG b5 λh1 p q e1 e2 r=>F4 ?_ p q e1 e2 r⟩;by_cases z:j=n;·subst z;exact absurd r (no p q m hm e1 e2)
    ·exact(ar 0x2 0x19889e20fb420e441) h1 z
theorem IZ(hb:I<=b.length):∀t,ae+t<=V->sU a b S ae V aa I (ae+t) (oM a b S ae aa I t).L/\gq ae aa (ya a b S ae V aa I (ae+t) 0) (oM a b S ae aa I t).best:=by intro N';induction N' with|zero=>
  intro _;constructor;·intro j m hm;refine⟨λh=>absurd (show m<=0 from h) ((aD 0x2 0x19085fec05e1) hm),?_⟩;rintro⟨p,q,e1,e2,r⟩;have:=r.p0;exact(aU 0x44 0x3510bc9108f0326041) e1 this
  ·refine⟨λC=>⟨rfl,rfl⟩,λz=>absurd z (YT _),?_⟩;rintro p q m hm⟨r,lx⟩;have:=r.p0;have:=r.q0;unfold Lx at lx;exact(lh 0xa6 0x3240bc40fe622785f12175113e2179e241e6227c42f3c483c0cff18040fe0a6d0c5918b4126024) hm lx ‹_›;|succ t ih=>
  intro h;refine aO (ih ((au 0x2 0x181c622788381c441) h)) λh1 h2=>?_;refine aO (adB h1 (W8 _ _) ((au 0x2 0x181c622788391c441) h) h2 b.length) λg1 g2=>?_;constructor;·intro j m hm;show m<=(jC a b S aa I (ae+t) b.length _).L j↔_;rw[g2 j m hm];refine⟨λh=>h.2,λb6=>fG b6 λp q e1 e2 r=>F4 ?_ p q e1 e2 r⟩;have:=r.q1;exact(bQ 0x4 0x6043d444f0c4a4c0e2526441) hb e2 this
  ·refine g1.mono λp q m hm=>⟨λbJ=>aO bJ λr lx=>⟨r,by unfold Lx at lx⊢;exact(gC 0x2 0x207f3113cd11175113e241c441cc44f8907110440fe622785f11175113e3113c8388839889f1889e41c441) lx⟩,λb7=>aO b7 λr lx=>⟨r,?_⟩⟩;have:=r.q0;have:=r.q1;unfold Lx at lx⊢;exact(lh 0x66 0x1808b250bc40fe622785f128f5113e3113ce689499889f1889e7344a4c0a251881fcc44f0c4a3d444f89cd12933113e27344a4) hb hm lx this
theorem adK(ha:V<=a.length)(hb:I<=b.length)(h1:ae<=V):(oM a b S ae aa I (V-ae)).best=i9 a b S ae V aa I:=by refine gq.uniq (ae:=ae) (aa:=aa) (W:=Run a b S ae V aa I) ?_ (vj ha hb h1);refine(IZ hb (V-ae) ((ar 0x2 0x3020e05190441) h1)).2.mono λp q m hm=>⟨λx=>x.1,λr=>⟨r,?_⟩⟩;have:=r.p1;have:=r.q0;exact(bQ 0x3 0x1824462103f9889e17c465d444f8c8240c462cc44f8c8240c462) ‹_›
theorem acf(P:Nat->Bool)(n t:Nat)(h:P t=ZW)(ht:t<=n)(hd:∀u,u<=n->t<u->P u=ZS):mx P n=t:=by
 have h1:=ul P n t ht h;refine ZR (XI h1) (λz=>?_) (λz=>?_)
 ·have h2:=hd _ (mO P n) z;have:P 0=ZW\/t=0/\P 0=ZW\/True:=.inr (.inr trivial);exfalso;have:∀n,0<mx P n->P (mx P n)=ZW:=by intro n;induction n with|zero=>intro q;exact absurd q (YT _);|succ n ih=>
    show 0<ite _ _ _->P (ite _ _ _)=ZW;split;·intro C;assumption
    ·exact ih
  have:=this n ((ar 0x43 0x6422c842f) z);replace this:=h2▸this;cases this
 ·exact z.symm
end
structure Bk where
 i:Nat
 j:Nat
 m:Nat
abbrev ju:=Nat->Nat->Nat->Nat->Bk
def u6(f:ju)(la lb:Nat):Prop:=∀ae V aa I,ae<=V->aa<=I->V<=la->I<=lb->ae<=(f ae V aa I).i/\(f ae V aa I).i+(f ae V aa I).m<=V/\aa<=(f ae V aa I).j/\(f ae V aa I).j+(f ae V aa I).m<=I
noncomputable def jl(f:ju):Nat->Nat->Nat->Nat->Nat->List Bk
 |0,_,_,_,_=>[]|d+1,ae,V,aa,I=>if(f ae V aa I).m=0 then[]else(if ae<(f ae V aa I).i/\aa<(f ae V aa I).j then jl f d ae (f ae V aa I).i aa (f ae V aa I).j else[])++f ae V aa I::(if(f ae V aa I).i+(f ae V aa I).m<V/\(f ae V aa I).j+(f ae V aa I).m<I then jl f d ((f ae V aa I).i+(f ae V aa I).m) V ((f ae V aa I).j+(f ae V aa I).m) I else[])
theorem acZ(f:ju)(d ae V aa I:Nat):jl f (d+1) ae V aa I=if(f ae V aa I).m=0 then[]else(if ae<(f ae V aa I).i/\aa<(f ae V aa I).j then jl f d ae (f ae V aa I).i aa (f ae V aa I).j else[])++f ae V aa I::(if(f ae V aa I).i+(f ae V aa I).m<V/\(f ae V aa I).j+(f ae V aa I).m<I then jl f d ((f ae V aa I).i+(f ae V aa I).m) V ((f ae V aa I).j+(f ae V aa I).m) I else[]):=rfl
noncomputable def ie(f:ju):Nat->Nat->Nat->Nat->Nat->List Bk
 |0,_,_,_,_=>[]|d+1,ae,V,aa,I=>if(f ae V aa I).m=0 then[]else f ae V aa I::((if(f ae V aa I).i+(f ae V aa I).m<V/\(f ae V aa I).j+(f ae V aa I).m<I then ie f d ((f ae V aa I).i+(f ae V aa I).m) V ((f ae V aa I).j+(f ae V aa I).m) I else[])++(if ae<(f ae V aa I).i/\aa<(f ae V aa I).j then ie f d ae (f ae V aa I).i aa (f ae V aa I).j else[]))
theorem aeu(f:ju):∀d ae V aa I,(ie f d ae V aa I).Perm (jl f d ae V aa I):=by intro N';induction N' with|zero=>exactλ_ _ _ _=>.refl _;|succ d ih=>
  intro ae V aa I;show List.Perm (ite _ _ _) (ite _ _ _);split;·exact .refl _
  ·have hl:=ih ae (f ae V aa I).i aa (f ae V aa I).j;have hr:=ih ((f ae V aa I).i+(f ae V aa I).m) V ((f ae V aa I).j+(f ae V aa I).m) I;refine QL (.cons _ ?_) TW.symm;refine QL Wp ?_;refine List.Perm.append ?_ ?_
   ·split;·exact hl
    ·exact .refl _
   ·split;·exact hr
    ·exact .refl _
theorem Jr{f:ju}{la lb:Nat}(hf:u6 f la lb):∀d e ae V aa I,ae<=V->aa<=I->V<=la->I<=lb->V-ae<d->V-ae<e->ie f d ae V aa I=ie f e ae V aa I:=by intro ik;induction ik with
 |zero=>intro _;intro _;intro _;intro _;intro _;intro _;intro _;intro _;intro _;intro h;intro _;exact absurd h (WX _);|succ d ih=>intro lK;cases lK with
 |zero=>intro _;intro _;intro _;intro _;intro _;intro _;intro _;intro _;intro _;intro h;exact absurd h (WX _);|succ e=>
   intro ae;intro V;intro aa;intro I;intro h1;intro h2;intro h3;intro h4;intro hd;intro he;refine kO (hf ae V aa I h1 h2 h3 h4) λq1 q2 q3 q4=>?_;show(ite _ _ _:List Bk)=ite _ _ _;split;·rfl
   ·rename_i hm;congr 2
    ·split;·exact ih e _ _ _ _ q2 q4 h3 h4 (by exact Ar.bA 0xa6 0x33113c7230b0137b41797f93c4a4c8a250e47289422 [_,_,_,(f ae V aa I).j,_,_,_] [] (by kernel_rfl) hd q1 hm ‹_›) (by exact Ar.bA 0xa6 0x33113c7230b0137b41797f93c4a4c8a250e47289422 [_,_,_,(f ae V aa I).j,_,_,_] [] (by kernel_rfl) he q1 hm ‹_›)
     ·rfl
    ·split;·exact ih e _ _ _ _ q1 q3 ((aU 0x64 0x6044c12230e041) h3 q2) ((aU 0x64 0x6044c12230e041) h4 q4) (by exact Ar.bA 0xa6 0x33113c7211b068943ed05e5fe4e4c84591c841 [_,_,_,_,_,_,(f ae V aa I).j] [] (by kernel_rfl) hd q2 hm ‹_›) (by exact Ar.bA 0xa6 0x33113c7211b068943ed05e5fe4e4c84591c841 [_,_,_,_,_,_,(f ae V aa I).j] [] (by kernel_rfl) he q2 hm ‹_›)
     ·rfl
noncomputable def qB(f:ju)(q:List (Nat×Nat×Nat×Nat)):List Bk:=q.reverse.flatMap λx=>ie f (x.2.1-x.1+1) x.1 x.2.1 x.2.2.1 x.2.2.2
noncomputable def qM(q:List (Nat×Nat×Nat×Nat)):Nat:=(q.map λx=>2*(x.2.1-x.1)+1).sum
theorem B4(f:ju)(q:List (Nat×Nat×Nat×Nat))(ae V aa I:Nat):qB f (q++[(ae,V,aa,I)])=ie f (V-ae+1) ae V aa I++qB f q:=by unfold qB;exists U0;rfl
theorem IJ(q:List (Nat×Nat×Nat×Nat))(ae V aa I:Nat):qM (q++[(ae,V,aa,I)])=qM q+(2*(V-ae)+1):=by unfold qM;exists ZJ;exists List.sum_append;simp
structure CR(a b:List ZU)(f:ju):Prop where
 win:u6 f a.length b.length
 eq:∀ae V aa I,ae<=V->aa<=I->V<=a.length->I<=b.length->∀t,t<(f ae V aa I).m->a[(f ae V aa I).i+t]?=b[(f ae V aa I).j+t]?
 back:∀ae V aa I,ae<=V->aa<=I->V<=a.length->I<=b.length->ae<(f ae V aa I).i->aa<(f ae V aa I).j->a[(f ae V aa I).i-1]?≠b[(f ae V aa I).j-1]?
 on:∀ae V aa I,ae<=V->aa<=I->V<=a.length->I<=b.length->(f ae V aa I).i+(f ae V aa I).m<V->(f ae V aa I).j+(f ae V aa I).m<I->a[(f ae V aa I).i+(f ae V aa I).m]?≠b[(f ae V aa I).j+(f ae V aa I).m]?
structure Mt(a b:List ZU)(k:Bk):Prop where
 m:0<k.m
 i:k.i+k.m<=a.length
 j:k.j+k.m<=b.length
 eq:∀t,t<k.m->a[k.i+t]?=b[k.j+t]?
structure Gp(a b:List ZU)(c d:Bk):Prop where
 i:c.i+c.m<=d.i
 j:c.j+c.m<=d.j
 ne:a[c.i+c.m]?≠b[c.j+c.m]?\/a[d.i-1]?≠b[d.j-1]?
def Ch{α:Type}(R:α->α->Prop):List α->Prop
 |[]=>True|x::l=>(match l with|[]=>True|y::_=>R x y)/\Ch R l
theorem Ch.app{α:Type}{R:α->α->Prop}{k:α}{r:List α}(hr:Ch R r)(h2:∀y∈r,R k y){l:List α}:Ch R l->(∀x∈l,R x k)->Ch R (l++k::r):=by have e:Ch R (k::r):=⟨by cases r with|nil=>trivial|cons y r=>exact h2 y (.head _),hr⟩;clear hr h2;induction l with|nil=>exactλ_ _=>e;|cons x l ih=>cases l with|nil=>exactλ_ h1=>⟨h1 x (.head _),e⟩;|cons y l=>exactλhl h1=>⟨hl.1,ih hl.2 λz hz=>h1 z (.tail _ hz)⟩
section
variable{a b:List ZU}{f:ju}
theorem acY(F:CR a b f):∀d ae V aa I,ae<=V->aa<=I->V<=a.length->I<=b.length->(∀k∈jl f d ae V aa I,Mt a b k/\ae<=k.i/\k.i+k.m<=V/\aa<=k.j/\k.j+k.m<=I)/\Ch (Gp a b) (jl f d ae V aa I):=by intro N';induction N' with|zero=>exactλ_ _ _ _ _ _ _ _=>⟨λk hk=>(nomatch hk),trivial⟩;|succ d ih=>
  intro ae V aa I h1 h2 h3 h4;show(∀k∈(ite _ _ _:List Bk),_)/\Ch (Gp a b) (ite _ _ _);refine kO (F.win _ _ _ _ h1 h2 h3 h4) λw1 w2 w3 w4=>?_;have eq:=F.eq _ _ _ _ h1 h2 h3 h4;have bk:=F.back _ _ _ _ h1 h2 h3 h4;have on:=F.on _ _ _ _ h1 h2 h3 h4;generalize f ae V aa I=k at*;by_cases hm:k.m=0;·exists if_pos hm;exact⟨λk hk=>(nomatch hk),trivial⟩
  exists if_neg hm;have L:∀{l},l=(if ae<k.i/\aa<k.j then jl f d ae k.i aa k.j else[])->(∀c∈l,Mt a b c/\ae<=c.i/\c.i+c.m<=k.i/\aa<=c.j/\c.j+c.m<=k.j/\ae<k.i/\aa<k.j)/\Ch (Gp a b) l:=by
   rintro l rfl;split;·rename_i hc;refine aO (ih ae k.i aa k.j w1 w3 ((aU 0x64 0x6044c12230e041) h3 w2) ((aU 0x64 0x6044c12230e041) h4 w4)) λq1 q2=>?_;exact⟨λc gO=>let⟨m,x1,x2,x3,x4⟩:=q1 c gO;(wh m x1 x2 x3 x4 hc),q2⟩
   ·exact⟨λk hk=>(nomatch hk),trivial⟩
  have R:∀{l},l=(if k.i+k.m<V/\k.j+k.m<I then jl f d (k.i+k.m) V (k.j+k.m) I else[])->(∀c∈l,Mt a b c/\k.i+k.m<=c.i/\c.i+c.m<=V/\k.j+k.m<=c.j/\c.j+c.m<=I/\k.i+k.m<V/\k.j+k.m<I)/\Ch (Gp a b) l:=by
   rintro l rfl;split;·rename_i hc;refine aO (ih (k.i+k.m) V (k.j+k.m) I w2 w4 h3 h4) λq1 q2=>?_;exact⟨λc gO=>let⟨m,x1,x2,x3,x4⟩:=q1 c gO;(wh m x1 x2 x3 x4 hc),q2⟩
   ·exact⟨λk hk=>(nomatch hk),trivial⟩
  refine aO (L rfl) λl1 l2=>?_;refine aO (R rfl) λr1 r2=>?_;clear L R;have mk:Mt a b k:=⟨Nat.pos_of_ne_zero hm,(aU 0x3 0x181130488c3814461) h3 w2,(aU 0x3 0x181130488c3814461) h4 w4,eq⟩;constructor
  ·intro c hc;refine ZR (ZE.mp hc) (λhc=>?_) (λhc=>?_);·refine yK (l1 c hc) λm x1 x2 x3 x4 C=>?_;exact l5 m x1 ((bQ 0x64 0x6051197058903814481) w2 x2) x3 ((bQ 0x64 0x6051197058903814481) w4 x4)
   ·rcases ZZ.mp hc with rfl|hc;·exact l5 mk w1 w2 w3 w4
    ·refine yK (r1 c hc) λm x1 x2 x3 x4 C=>?_;exact l5 m ((aU 0x64 0x6081c0a2326041) w1 x1) x2 ((aU 0x64 0x6081c0a2326041) w3 x3) x4
  ·refine Ch.app r2 (λc hc=>?_) l2 λc hc=>?_;·obtain⟨m,x1,x2,x3,x4,x5,x6⟩:=r1 c hc;exact⟨x1,x3,.inl (on x5 x6)⟩
   ·obtain⟨m,x1,x2,x3,x4,x5,x6⟩:=l1 c hc;exact⟨x2,x4,.inr (bk x5 x6)⟩
end
section
variable{β:Type}[DecidableEq β]
noncomputable def nb(g:Nat->β):Nat->Nat
 |0=>0|x+1=>nb g x+if g x=g (x+1)then 0 else 1
theorem Hi(g:Nat->β)(x:Nat):nb g (x+1)=nb g x+if g x=g (x+1)then 0 else 1:=rfl
theorem nQ{g:Nat->β}{x:Nat}:∀{y},x<=y->nb g x<=nb g y:=by intro N';induction N' with
 |zero=>
  intro h;have:x=0:=by exact(aD 0x22 0xc05e1d05e1) h
  exists this;exact ZO _;|succ y ih=>
  intro h;by_cases e:x=y+1;·exists e;exact ZO _
  ·have:=ih (show x<=y by exact(ar 0x2 0xc444f107da889e20e041) h e);rw[Hi];exact(au 0x43 0xc0c3888861) this
theorem wD{g:Nat->β}{x:Nat}:∀{y},x<=y->nb g y=nb g x->g y=g x:=by intro N';induction N' with
 |zero=>
  intro h _;have:x=0:=by exact(aD 0x22 0xc05e1d05e1) h
  exists this;rfl;|succ y ih=>
  intro h e;by_cases z:x=y+1;·exists z;rfl
  ·have hm:=nQ (g:=g) (show x<=y by exact(ar 0x2 0xc444f107da889e20e041) h z);rw[Hi]at e;by_cases q:g y=g (y+1);·rw[if_pos q]at e;exists Zz q;exact ih (show x<=y by exact(ar 0x2 0xc444f107da889e20e041) h z) e
   ·rw[if_neg q]at e;exact((ar 0x2 0x342889e1f6022) e hm).elim
theorem Hg{g:Nat->β}{x y:Nat}(h:x<=y)(e:g x=g y)(n:nb g y<=nb g x+1){t:Nat}(h1:x<=t)(h2:t<=y):g t=g x:=by
 by_cases q:g t=g x;·exact q
 ·have m1:=nQ (g:=g) h1;have m2:=nQ (g:=g) h2;by_cases z:nb g t=nb g x;·exact wD h1 z
  ·exact absurd (wD h2 (show nb g y=nb g t by exact(au 0x3 0x622278c3810f0117b4316841) n m1 m2 z)) (λw=>q (w.symm.trans e.symm))
theorem N5{g h:Nat->β}{p i q j:Nat}(hp:p<=i)(hq:q<=j)(e0:g p=h q)(e1:g (i+1)=h (j+1))(ne:g (p+1)≠h (q+1)\/g i≠h j):nb g p+nb h q+2<=nb g (i+1)+nb h (j+1):=by
 have m1:=nQ (g:=g) (show p<=i+1 by exact(ar 0x2 0x181071113c41) hp);have m2:=nQ (g:=h) (show q<=j+1 by exact(ar 0x2 0x181071113c41) hq);refine ZR (XK (nb g (i+1)+nb h (j+1)) (nb g p+nb h q+2)) (λlt=>?_) (λge=>?_)
 ·exfalso;have Ej:g p=g (i+1)/\h q=h (j+1):=by
   by_cases z:nb g (i+1)=nb g p;·have c:=wD (show p<=i+1 by exact(ar 0x2 0x181071113c41) hp) z;exact⟨c.symm,by exists Zz e0;exists Zz e1;exact bG c rfl⟩
   ·have c:=wD (g:=h) (show q<=j+1 by exact(ar 0x2 0x181071113c41) hq) ((aU 0x3 0x6082c047988df118a2127b4226861) m1 m2 lt z);exact⟨by exists e0;exists e1;exact bG c rfl,c.symm⟩
  have cg:=λ{t}=>Hg (t:=t) (show p<=i+1 by exact(ar 0x2 0x181071113c41) hp) Ej.1 ((aU 0x3 0x6082cc46f888712071113c61) m2 lt);have ch:=λ{t}=>Hg (t:=t) (show q<=j+1 by exact(ar 0x2 0x181071113c41) hq) Ej.2 ((aU 0x3 0x6082cc46f88c510931113c61) m1 lt);refine ZR ne (λne=>?_) (λne=>?_);·exact ne (by exists cg (aD 0x1 0x31113c21) ((ar 0x2 0xc0838889e2889e1) hp);exists ch (aD 0x1 0x31113c21) ((ar 0x2 0xc0838889e2889e1) hq);exact bG e0 rfl)
  ·exact ne (by exists cg ((ar 0x2 0x3020e041) hp) (aD 0x1 0x31113c21);exists ch ((ar 0x2 0x3020e041) hq) (aD 0x1 0x31113c21);exact bG e0 rfl)
 ·exact ge
noncomputable def rk:List β->Nat
 |[]=>0|x::l=>(match l with|[]=>1|y::_=>if x=y then 0 else 1)+rk l
theorem adA(x y:β)(l:List β):rk (x::y::l)=(if x=y then 0 else 1)+rk (y::l):=rfl
theorem ady(x:β)(l:List β):rk (x::l)<=rk l+1:=by cases l with|nil=>exact ZO _;|cons y l=>
  rw[adA];split;·rw[UW];exact SO _
  ·rw[Nat.add_comm];exact ZO _
theorem B6:∀(l r:List β),rk (l++r)<=rk l+rk r:=by intro ik;induction ik with
 |nil=>intro r;exact UU (UW _).symm;|cons x lK ih=>cases lK with|nil=>intro r;have:=ady x r;show rk (x::r)<=1+0+rk r;exact(ar 0x2 0x62227883888a21789e1) this;|cons y l=>intro r;have:=ih r;show(if x=y then 0 else 1)+rk (y::l++r)<=((if x=y then 0 else 1)+rk (y::l))+rk r;exact(aU 0x2 0x31120c388922314422) this
theorem IT(x:β):∀(l:List β),(∀y∈l,y=x)->rk l<=1:=by intro ik;induction ik with
 |nil=>intro _;exact ZI _;|cons y lK ih=>cases lK with
 |nil=>intro _;exact ZO _;|cons z l=>intro h;have:=ih λw hw=>h w (.tail _ hw);show(if y=z then 0 else 1)+rk (z::l)<=1;rw[h y (.head _),h z (.tail _ (.head _)),if_pos rfl]at*;exact(aD 0x2 0x604f0e04f8842f) this
theorem adz{α:Type}(f:α->List β)(h:∀x,rk (f x)<=1):∀(l:List α),rk (l.flatMap f)<=l.length:=by intro N';induction N' with|nil=>exact ZO _;|cons x l ih=>exists Zd;exists ZF;have:=B6 (f x) (l.flatMap f);have:=ih;have:=h x;exact Ar.bA 0x4 0x31120c381130278f1113c41 [_,_,_,rk (List.flatMap f l)] [] (by kernel_rfl) ‹_› ‹_› this
theorem Hh(l:List β):∀(x:Nat),x+1<=l.length->nb (λt=>l[t]?) x+1<=rk l:=by
 have z:∀l:List β,1<=l.length->1<=rk l:=λl h=>by cases l with|nil=>simp at h;|cons y l=>clear h;induction l generalizing y with|nil=>exact ZO _;|cons z l ih=>have:=ih z;show 1<=_+rk (z::l);exact(ar 0x23 0x30213f111044f) this
 induction l with|nil=>intro x h;cases h;|cons y l ih=>intro x h;cases x with|zero=>exact z _ h;|succ x=>
   have sh:∀x,nb (λt=>(y::l)[t]?) (x+1)=(if(y::l)[0]?=(y::l)[1]? then 0 else 1)+nb (λt=>l[t]?) x:=by intro x;induction x with|zero=>exact Nat.add_comm 0 _;|succ x fJ=>refine PF (congrArg (·+ite ((y::l)[x+1]?=(y::l)[x+2]?) 0 1) fJ) ?_;exact Ws _ _ _
   rw[sh];have:=ih x (by simpa using h);cases l with|nil=>simp at h;|cons z l=>show _<=(if y=z then 0 else 1)+rk (z::l);simp only[List.getElem?_cons_zero,List.getElem?_cons_succ,Option.some.injEq];exact(au 0x2 0xc0e227871118a227c422) this
end
section
variable{a b:List ZU}
noncomputable def bW(x:ZU):ZU:=if x.length=3 then Z9 "100"else x
structure Fp(a b:List ZU):Prop where
 fwd:∀x y,x+1<a.length->y+1<b.length->a[x]?=b[y]?->(a.map bW)[x+1]?=(b.map bW)[y+1]?->a[x+1]?=b[y+1]?
 bwd:∀x y,x+1<a.length->y+1<b.length->a[x+1]?=b[y+1]?->(a.map bW)[x]?=(b.map bW)[y]?->a[x]?=b[y]?
theorem DT{x y:Nat}(h:a[x]?=b[y]?):(a.map bW)[x]?=(b.map bW)[y]?:=by exists ZN;exists ZN;exact bG h rfl
theorem N4(P:Fp a b){c d:Bk}(mc:Mt a b c)(md:Mt a b d)(g:Gp a b c d):nb (λt=>(a.map bW)[t]?) (c.i+c.m-1)+nb (λt=>(b.map bW)[t]?) (c.j+c.m-1)+2<=nb (λt=>(a.map bW)[t]?) d.i+nb (λt=>(b.map bW)[t]?) d.j:=by
 obtain⟨m1,i1,j1,q1⟩:=mc;obtain⟨m2,i2,j2,q2⟩:=md;obtain⟨gi,gj,ne⟩:=g;obtain⟨ci,cj,cm⟩:=c;obtain⟨di,dj,dm⟩:=d;dsimp only at*;obtain⟨cm,rfl⟩:∃n,cm=n+1:=⟨cm-1,(aD 0x2 0x19085fa889f213c21) m1⟩;obtain⟨dm,rfl⟩:∃n,dm=n+1:=⟨dm-1,(aD 0x2 0x19085fa889f213c21) m2⟩;obtain⟨di,rfl⟩:∃n,di=n+1:=⟨di-1,(au 0xc44 0x180c6227887a889f213c21) gi⟩;obtain⟨dj,rfl⟩:∃n,dj=n+1:=⟨dj-1,(au 0xc44 0x180c6227887a889f213c21) gj⟩;have e0:=q1 cm (aD 0x1 0x33113c21);have e1:=q2 0 (aD 0x22 0x66227842f);refine N5 (g:=λt=>(a.map bW)[t]?) (h:=λt=>(b.map bW)[t]?) (p:=ci+cm) (q:=cj+cm) (i:=di) (j:=dj) ((au 0x2 0xc444f1c622788381c441) gi) ((au 0x2 0xc444f1c622788381c441) gj) (DT e0) (DT e1) ?_;refine ZR ne (λne=>?_) (λne=>?_);·exact .inl λh=>ne (P.fwd (ci+cm) (cj+cm) ((bQ 0x64 0x31113cb1889e40e051889e3889e5c8a227c481) gi i2) ((bQ 0x64 0x31113cb1889e40e051889e3889e5c8a227c481) gj j2) e0 h)
 ·exact .inr λh=>ne (P.bwd di dj ((au 0x43 0x181c62278a2278723889e1) i2) ((au 0x43 0x181c62278a2278723889e1) j2) e1 h)
theorem N6(P:Fp a b):∀(l:List Bk)(c:Bk),Ch (Gp a b) (c::l)->(∀k∈c::l,Mt a b k)->2*l.length+nb (λt=>(a.map bW)[t]?) (c.i+c.m-1)+nb (λt=>(b.map bW)[t]?) (c.j+c.m-1)<=nb (λt=>(a.map bW)[t]?) (a.length-1)+nb (λt=>(b.map bW)[t]?) (b.length-1):=by intro N';induction N' with|nil=>intro c _ h;have m:=h c (.head _);have m1:=nQ (g:=λt=>(a.map bW)[t]?) (show c.i+c.m-1<=a.length-1 by have:=m.i;exact(au 0x3 0xc0a230e24278a427c461) this);have m2:=nQ (g:=λt=>(b.map bW)[t]?) (show c.j+c.m-1<=b.length-1 by have:=m.j;exact(au 0x3 0xc0a230e24278a427c461) this);exists Ww;exact(aU 0x3 0xc0c3820b1120e228842f) m1 m2;|cons d l ih=>intro c hc h;have mc:=h c (.head _);have md:=h d (.tail _ (.head _));have ih:=ih d hc.2 λk hk=>h k (.tail _ hk);have g:=N4 P mc md hc.1;have m1:=nQ (g:=λt=>(a.map bW)[t]?) (show d.i<=d.i+d.m-1 by have:=md.m;exact(ar 0x3 0xc882fc484f88821) this);have m2:=nQ (g:=λt=>(b.map bW)[t]?) (show d.j<=d.j+d.m-1 by have:=md.m;exact(ar 0x3 0xc882fc484f88821) this);exists ZF;exact(uj 0x5 0x6227344911cc237e2294446f894581a3044e227344b114e227846f) ih g m1 m2
theorem Np(P:Fp a b){l:List Bk}(hc:Ch (Gp a b) l)(h:∀k∈l,Mt a b k)(ra:rk (a.map bW)<=63)(rb:rk (b.map bW)<=63):l.length<64:=by cases l with|nil=>decide;|cons c l=>have m:=h c (.head _);have:=N6 P l c hc h;have n1:=Hh (a.map bW) (a.length-1) (by rw[Z4];have:=m.i;have:=m.m;exact Ar.bA 0x44 0x30188c59185f80c44f909e1 [_,c.i,_] [] (by kernel_rfl) ‹_› this);have n2:=Hh (b.map bW) (b.length-1) (by rw[Z4];have:=m.j;have:=m.m;exact Ar.bA 0x44 0x30188c59185f80c44f909e1 [_,c.j,_] [] (by kernel_rfl) ‹_› this);exists ZF;exact(lh 0x1488 0x190404f1641013c7889cd12c49308df81444f3607113cf90c06f889e1) ra rb this n1 n2
end
end Mine.Internal
open Mine.Internal
open PySem PySem.W PyProof.Rows
set_option maxHeartbeats 0
namespace Mine
noncomputable section
noncomputable def pw:YG:=QK
def body:List Y4:=pw.main.body
noncomputable def aV:Y4->List Y4
 |.FunctionDef _ _ b _ _ _ _ _ _ _=>b|.ClassDef _ _ _ b _ _ _ _ _ _ _=>b|_=>[]
noncomputable def acl:UN:=⟨[],[],ZT,[],[],ZT,[]⟩
noncomputable def gb:Y4->UN
 |.FunctionDef _ a _ _ _ _ _ _ _ _=>a|_=>acl
noncomputable def aT:Y4->X7
 |.FunctionDef _ _ _ _ _ _ s _ _ _=>s|_=>⟨.function,[],ZS,ZS,[]⟩
noncomputable def fT(st:Y4):ZU:=match docOf (aV st)with
 |some s=>s|none=>⟨Y9 []⟩
noncomputable def qu:Life:={}
noncomputable def drawn:Drawn:={}
noncomputable def de(P:Zr)(y:String)(t:PG)(v:Z3):Sh:=⟨PyData.keyHash P (Z9 y),.str (Z9 y) t,v⟩
noncomputable def zb:List Zp->List Zp
 |x::_::r=>x::zb r|r=>r
noncomputable def qb:Nat->List Zp->BT
 |n+1,x::r=>.node x (qb n (zb r)) (qb n (zb r.tail))|_,_=>.nil
noncomputable def aB(x:String)(n:PG):Z3:=.str (Z9 x) n
noncomputable def cG(l:List Z3):Zp:=⟨.type "tuple",ZT,.seq (Y9 l) 0,Y9 []⟩
noncomputable def my(l:List Z3):Zp:=⟨.none,ZT,.fields (Y9 l),Y9 []⟩
noncomputable def iw(t:String)(l:List Z3):Zp:=⟨.type t,ZT,.fields (Y9 l),Y9 []⟩
noncomputable def j7(l:List Sh)(n:Nat):Zp:=⟨.type "dict",ZT,.dict (Y9 l) n,Y9 []⟩
noncomputable def E6(n q:String)(t L a k f r u:Nat)(l:List Z3):Zp:=iw "code" ([aB n t,aB q (t+1),aB "/claim/cut.py" (t+2),.int L 0,.int a 0,.int k 0,.int 0 0,.int f 0,.ref r,.bool ZW,.int 181 0,.ref (r+1)]++l++[.int u 0,.int L 0,aB "/claim/cut.py" (u+1)])
noncomputable def eh(n q:String)(t L a k f r u:Nat):Zp:=E6 n q t L a k f r u [.none,.ref (r+2),.ref (r+3),.ref (r+4)]
noncomputable def vR(n q:String)(t L a k f r u:Nat):Zp:=E6 n q t L a k f r u [.none,.none,.none,.ref (r+2)]
noncomputable def dA(n q:String)(st:Y4):Zp:=⟨.none,ZT,.func ⟨.ofString n,.ofString q,gb st,.stmts (aV st),aT st,0,[],.none,.none,.none,.none,ZT,.none,.none,0⟩,Y9 []⟩
noncomputable def dL(n q:String)(st:Y4)(d c:Z3)(m:String)(t r:Nat):Zp:=⟨.type "function",ZT,.func ⟨.ofString n,.ofString q,gb st,.stmts (aV st),aT st,3,[],d,.none,c,aB m t,ZT,.ref r,.none,0⟩,Y9 []⟩
def lE:Y4:=body.getD 0 (.Pass default)
def xK:Y4:=body.getD 2 (.Pass default)
def Ji:Y4:=(aV xK).getD 0 (.Pass default)
def Jj:Y4:=(aV xK).getD 1 (.Pass default)
def Jk:Y4:=(aV xK).getD 2 (.Pass default)
def Jl:Y4:=(aV xK).getD 3 (.Pass default)
def pG:Y4:=body.getD 3 (.Pass default)
def sw:Y4:=(aV pG).getD 4 (.Pass default)
def nY:Y4:=(aV pG).getD 5 (.Pass default)
def uP:Y4:=(aV pG).getD 6 (.Pass default)
def Cp:Y4:=(aV pG).getD 8 (.Pass default)
def Jm:Y4:=(aV pG).getD 9 (.Pass default)
def Co:Y4:=(aV pG).getD 10 (.Pass default)
def Cq:Y4:=body.getD 4 (.Pass default)
def gU:Y4:=body.getD 5 (.Pass default)
def sy:Y4:=(aV gU).getD 1 (.Pass default)
def sz:Y4:=(aV gU).getD 2 (.Pass default)
def sA:Y4:=(aV gU).getD 3 (.Pass default)
def sB:Y4:=(aV gU).getD 4 (.Pass default)
def gV:Y4:=(aV gU).getD 5 (.Pass default)
def fh:Y4:=(aV gU).getD 6 (.Pass default)
def eS:Y4:=(aV gU).getD 7 (.Pass default)
def kB:Y4:=(aV gU).getD 8 (.Pass default)
def fV:Y4:=(aV gU).getD 9 (.Pass default)
def Cr:Y4:=(aV gU).getD 10 (.Pass default)
def Jn:Y4:=(aV gU).getD 11 (.Pass default)
def Jo:Y4:=(aV gU).getD 12 (.Pass default)
def sC:Y4:=body.getD 6 (.Pass default)
def fE:Y4:=body.getD 7 (.Pass default)
def jQ:Y4:=body.getD 8 (.Pass default)
def eR:Y4:=body.getD 10 (.Pass default)
def l9:Y4:=body.getD 11 (.Pass default)
def uN:Y4:=body.getD 12 (.Pass default)
def uO:Y4:=body.getD 13 (.Pass default)
def jo:Y4:=body.getD 14 (.Pass default)
def bV:Y4:=body.getD 15 (.Pass default)
def aK:Zp:=cG []
def bw:Zp:=my []
def rX:Zp:=iw "code" [aB "<module>" 182,aB "<module>" 183,aB "/claim/cut.py" 184,.int 1 0,.int 0 0,.int 0 0,.int 0 0,.int 0 0,.ref 11,WE ZS,.int 181 0,.ref 12,.none,.none,.none,.none,.int 185 0,.int 1 0,aB "/claim/cut.py" 186]
noncomputable def rY:Zp:=⟨Zg "frame",ZT,.plain,Y9 [Z7 (.ref 13),Z7 (.ref 3),Z7 (.ref 3),ZT,Z7 (aB "__main__" 164),ZT,Z7 (.ref 0)]⟩
def ae7(P:Zr):BT:=qb 12 [WN P,SN P,Vh P,boot_o_3 P,TV P,SM P,SK P,SJ P,SI P,SH P,TU P,aK,bw,rX,rY]
def SA(w:ZD)(os:YZ):Vm:=⟨ae7 w.params,15,qu,Y9 [],drawn,187,os⟩
noncomputable def uA:XY:=⟨0,0,0,0⟩
def O6(P:Zr):YQ:=⟨Y9 [WN P,SN P,Vh P,boot_o_3 P,TV P,SM P,SK P,SJ P,SI P,SH P,TU P,aK,bw,rX,rY],qu⟩
def acK(P:Zr):Zp:=j7 [de P "__name__" 165 (aB "cpy313.difflib" 194),de P "__doc__" 166 .none,de P "__package__" 167 .none,de P "__loader__" 168 (.builtin "__main__.__loader__#opaque"),de P "__spec__" 169 .none,de P "__annotations__" 170 (.ref 6),de P "__builtins__" 171 (.ref 4),de P "__file__" 173 (aB "/claim/cut.py" 172),de P "__cached__" 174 .none,de P "_wall" 193 (.ref 21),de P "_tuplegetter" 252 (.ref 60)] 11
def acr:Zp:=my [.int 1 0,.int 0 0,.ref 20,.int 5 0,.int 0 0,.ref 27]
def wO:Zp:=cG [aB "k" 190]
def wP:Zp:=dA "_wall" "_wall" lE
def wQ:Zp:=eh "_wall" "_wall" 187 1 1 0 3 15 191
def wR:Zp:=dL "_wall" "_wall" lE .none .none "__main__" 164 20
def nU:Zp:=iw "builtin_function_or_method" [.builtin "type.__prepare__",Zg "type"]
def wS(P:Zr):Zp:=j7 [de P "__module__" 203 (aB "cpy313.difflib" 194),de P "__qualname__" 205 (aB "_tuplegetter" 204),de P "__firstlineno__" 207 (.int 5 206),de P "__init__" 216 (.ref 35),de P "__get__" 225 (.ref 43),de P "__set__" 234 (.ref 50),de P "__delete__" 242 (.ref 57),de P "__static_attributes__" 245 (.ref 58)] 8
def wU:Zp:=my [.int 7 0,.int 4 0,.ref 34,.int 11 0,.int 4 0,.ref 42,.int 18 0,.int 4 0,.ref 49,.int 21 0,.int 4 0,.ref 56]
def wV:Zp:=iw "code" [aB "_tuplegetter" 198,aB "_tuplegetter" 199,aB "/claim/cut.py" 200,.int 5 0,.int 0 0,.int 0 0,.int 0 0,.int 0 0,.ref 25,WE ZS,.int 181 0,.ref 26,.none,.none,.none,.none,.int 201 0,.int 5 0,aB "/claim/cut.py" 202]
noncomputable def wW:Zp:=⟨Zg "frame",ZT,.plain,Y9 [Z7 (.ref 27),Z7 (.ref 3),Z7 (.ref 24),ZT,Z7 (aB "cpy313.difflib" 194),ZT,Z7 (.ref 0)]⟩
def wX:Zp:=cG [aB "self" 211,aB "index" 212,aB "doc" 213]
def w5:Zp:=dA "__init__" "_tuplegetter.__init__" Ji
def w6:Zp:=eh "__init__" "_tuplegetter.__init__" 208 7 3 0 3 29 214
def w7:Zp:=dL "__init__" "_tuplegetter.__init__" Ji .none .none "cpy313.difflib" 194 34
def w8:Zp:=cG [.none]
def w9:Zp:=cG [aB "self" 220,aB "obj" 221,aB "objtype" 222]
def xa:Zp:=dA "__get__" "_tuplegetter.__get__" Jj
def xb:Zp:=eh "__get__" "_tuplegetter.__get__" 217 11 3 0 3 37 223
def xc:Zp:=dL "__get__" "_tuplegetter.__get__" Jj (.ref 36) .none "cpy313.difflib" 194 42
def xd:Zp:=cG [aB "self" 229,aB "obj" 230,aB "value" 231]
def xe:Zp:=dA "__set__" "_tuplegetter.__set__" Jk
def xf:Zp:=eh "__set__" "_tuplegetter.__set__" 226 18 3 0 3 44 232
def xg:Zp:=dL "__set__" "_tuplegetter.__set__" Jk .none .none "cpy313.difflib" 194 49
def xh:Zp:=cG [aB "self" 238,aB "obj" 239]
def xk:Zp:=dA "__delete__" "_tuplegetter.__delete__" Jl
def xl:Zp:=eh "__delete__" "_tuplegetter.__delete__" 235 21 2 0 3 51 240
def xo:Zp:=dL "__delete__" "_tuplegetter.__delete__" Jl .none .none "cpy313.difflib" 194 56
def xp:Zp:=cG [aB "__doc__" 243,aB "index" 244]
def xq(P:Zr):Zp:=j7 [de P "__module__" 203 (aB "cpy313.difflib" 194),de P "__firstlineno__" 207 (.int 5 206),de P "__init__" 216 (.ref 35),de P "__get__" 225 (.ref 43),de P "__set__" 234 (.ref 50),de P "__delete__" 242 (.ref 57),de P "__static_attributes__" 245 (.ref 58),de P "__dict__" 247 (.ref 61),de P "__weakref__" 249 (.ref 62),de P "__doc__" 250 .none] 4
noncomputable def xr:Zp:=⟨Zg "type",ZT,.cls {name:=(Z9 "_tuplegetter"),bases:=[Zg "object"],mro:=[.ref 60,Zg "object"],ns:=59,qualname:=(Z9 "_tuplegetter"),hasDict:=ZW,slotNames:=[],subclasses:=[],abstract:=ZS,collection:=ZT,hasDel:=ZS},Y9 [ZT,ZT,Z7 (aB "_tuplegetter" 196),Z7 (aB "_tuplegetter" 204),Z7 (.builtin "object.__new__"),Z7 (WE ZW)]⟩
def xt:Zp:=iw "getset_descriptor" [aB "__dict__" 246,.ref 60,.builtin "function.__dict__",.builtin "function.__dict__#set"]
def xu:Zp:=iw "getset_descriptor" [aB "__weakref__" 248,.ref 60,.builtin "ExceptionGroup.__weakref__",.none]
def xw:Zp:=iw "super" [.ref 60,.ref 60,.ref 60]
def xx:Zp:=iw "builtin_function_or_method" [.builtin "object.__init_subclass__",.ref 60]
def ae3(P:Zr):BT:=qb 12 [WN P,SN P,Vh P,acK P,TV P,SM P,SK P,SJ P,SI P,SH P,TU P,aK,acr,rX,rY,aK,bw,wO,aK,wP,wQ,wR,aK,nU,wS P,aK,wU,wV,wW,aK,bw,wX,aK,w5,w6,w7,w8,aK,bw,w9,aK,xa,xb,xc,aK,bw,xd,aK,xe,xf,xg,aK,bw,xh,aK,xk,xl,xo,xp,xq P,xr,xt,xu,xw,xx]
def S0(w:ZD)(os:YZ):Vm:=⟨ae3 w.params,65,qu,Y9 [],drawn,253,os⟩
noncomputable def xB:XY:=⟨5,0,22,54⟩
def acL(P:Zr):Zp:=j7 [de P "__name__" 165 (aB "cpy313.difflib" 194),de P "__doc__" 166 .none,de P "__package__" 167 .none,de P "__loader__" 168 (.builtin "__main__.__loader__#opaque"),de P "__spec__" 169 .none,de P "__annotations__" 170 (.ref 6),de P "__builtins__" 171 (.ref 4),de P "__file__" 173 (aB "/claim/cut.py" 172),de P "__cached__" 174 .none,de P "_wall" 193 (.ref 21),de P "_tuplegetter" 252 (.ref 60),de P "Match" 380 (.ref 135)] 12
def acs:Zp:=my [.int 1 0,.int 0 0,.ref 20,.int 5 0,.int 0 0,.ref 27,.int 23 0,.int 0 0,.ref 71]
def BB:Zp:=cG [Zg "tuple"]
def BC(P:Zr):Zp:=j7 [de P "__module__" 260 (aB "cpy313.difflib" 194),de P "__qualname__" 262 (aB "Match" 261),de P "__firstlineno__" 264 (.int 23 263),de P "__doc__" 266 (aB "Match(a, b, size)" 265),de P "__slots__" 268 (.ref 73),de P "_fields" 272 (.ref 74),de P "_field_defaults" 273 (.ref 75),de P "__new__" 284 (.ref 82),de P "_make" 306 (.ref 91),de P "_replace" 317 (.ref 100),de P "__replace__" 318 (.ref 100),de P "__repr__" 326 (.ref 107),de P "_asdict" 333 (.ref 114),de P "__getnewargs__" 341 (.ref 121),de P "__match_args__" 345 (.ref 122),de P "a" 355 (.ref 124),de P "b" 365 (.ref 127),de P "size" 375 (.ref 130),de P "__static_attributes__" 376 (.ref 132),de P "__classcell__" 377 (.ref 68)] 20
noncomputable def BD:Zp:=⟨Zg "cell",ZT,.cell (Z7 (.ref 135)),Y9 []⟩
def BE:Zp:=my [.int 29 0,.int 4 0,.ref 81,.int 34 0,.int 4 0,.ref 88,.int 41 0,.int 4 0,.ref 99,.int 52 0,.int 4 0,.ref 106,.int 56 0,.int 4 0,.ref 113,.int 59 0,.int 4 0,.ref 120]
def BF:Zp:=iw "code" [aB "Match" 255,aB "Match" 256,aB "/claim/cut.py" 257,.int 23 0,.int 0 0,.int 0 0,.int 0 0,.int 0 0,.ref 69,WE ZS,.int 181 0,.ref 70,.none,.none,.none,.none,.int 258 0,.int 23 0,aB "/claim/cut.py" 259]
noncomputable def BG:Zp:=⟨Zg "frame",ZT,.plain,Y9 [Z7 (.ref 71),Z7 (.ref 3),Z7 (.ref 67),ZT,Z7 (aB "cpy313.difflib" 194),ZT,Z7 (.ref 0)]⟩
def BH:Zp:=cG [aB "a" 269,aB "b" 270,aB "size" 271]
def rZ:Zp:=j7 [] 0
def BI:Zp:=cG [aB "_cls" 277,aB "a" 278,aB "b" 279,aB "size" 280]
def BJ:Zp:=dA "__new__" "Match.__new__" sw
def xy:Zp:=eh "__new__" "Match.__new__" 274 29 4 0 3 76 281
def uu:Zp:=dL "__new__" "Match.__new__" sw .none (.str (fT sw) 283) "cpy313.difflib" 194 81
def BK:Zp:=cG [aB "cls" 288,aB "iterable" 289,aB "result" 290]
def BL:Zp:=dA "_make" "Match._make" nY
def xz:Zp:=eh "_make" "Match._make" 285 33 2 0 3 83 291
noncomputable def r5:Zp:=⟨Zg "function",ZT,Data.func ⟨Z9 "_make",Z9 "Match._make",gb nY,.stmts (aV nY),aT nY,3,[],.none,.none,Q7 (fT nY) 293,aB "cpy313.difflib" 194,Z7 92,.ref 88,.none,0⟩,Y9 []⟩
def BM(P:Zr):Zp:=j7 [de P "__module__" 295 (aB "cpy313.difflib" 194),de P "__name__" 298 (aB "_make" 297),de P "__qualname__" 301 (aB "Match._make" 300),de P "__doc__" 303 (Q7 (fT nY) 293),de P "__annotations__" 305 (.ref 92)] 5
noncomputable def xA:Zp:=⟨Zg "classmethod",Z7 90,Data.fields (Y9 [.ref 89,WE ZS]),Y9 []⟩
def BN:Zp:=cG [.ref 68]
def BO:Zp:=cG [aB "__class__" 310]
def BP:Zp:=cG [aB "self" 311,aB "kwds" 312,aB "result" 313]
def BQ:Zp:=dA "_replace" "Match._replace" uP
def BR:Zp:=eh "_replace" "Match._replace" 307 41 1 1 11 94 314
noncomputable def AG:Zp:=⟨Zg "function",ZT,Data.func ⟨Z9 "_replace",Z9 "Match._replace",gb uP,.stmts (aV uP),aT uP,3,[((Z9 "__class__"),68)],.none,.none,Q7 (fT uP) 316,aB "cpy313.difflib" 194,ZT,.ref 99,.ref 93,0⟩,Y9 []⟩
def AH:Zp:=cG [aB "self" 322]
def AI:Zp:=dA "__repr__" "Match.__repr__" Cp
def AJ:Zp:=eh "__repr__" "Match.__repr__" 319 52 1 0 3 101 323
def AK:Zp:=dL "__repr__" "Match.__repr__" Cp .none (.str (fT Cp) 325) "cpy313.difflib" 194 106
def AL:Zp:=cG [aB "self" 330]
def AM:Zp:=dA "_asdict" "Match._asdict" Jm
def AN:Zp:=eh "_asdict" "Match._asdict" 327 56 1 0 3 108 331
def AO:Zp:=dL "_asdict" "Match._asdict" Jm .none .none "cpy313.difflib" 194 113
def AP:Zp:=cG [aB "self" 337]
def AQ:Zp:=dA "__getnewargs__" "Match.__getnewargs__" Co
def AR:Zp:=eh "__getnewargs__" "Match.__getnewargs__" 334 59 1 0 3 115 338
def AS:Zp:=dL "__getnewargs__" "Match.__getnewargs__" Co .none (.str (fT Co) 340) "cpy313.difflib" 194 120
def AT:Zp:=cG [aB "a" 342,aB "b" 343,aB "size" 344]
def AU(P:Zr):Zp:=j7 [de P "index" 352 (.int 0 346),de P "__doc__" 354 (aB "Alias for field number 0" 347)] 2
noncomputable def AW:Zp:=⟨.ref 60,Z7 123,.plain,Y9 []⟩
noncomputable def AX(P:Zr):Zp:=⟨Zg "frame",ZT,.dict (Y9 [de P "self" 348 (.ref 124),de P "index" 349 (.int 0 346),de P "doc" 350 (aB "Alias for field number 0" 347)]) 3,Y9 []⟩
def AY(P:Zr):Zp:=j7 [de P "index" 362 (.int 1 356),de P "__doc__" 364 (aB "Alias for field number 1" 357)] 2
noncomputable def AZ:Zp:=⟨.ref 60,Z7 126,.plain,Y9 []⟩
noncomputable def A0(P:Zr):Zp:=⟨Zg "frame",ZT,.dict (Y9 [de P "self" 358 (.ref 127),de P "index" 359 (.int 1 356),de P "doc" 360 (aB "Alias for field number 1" 357)]) 3,Y9 []⟩
def A1(P:Zr):Zp:=j7 [de P "index" 372 (.int 2 366),de P "__doc__" 374 (aB "Alias for field number 2" 367)] 2
noncomputable def A2:Zp:=⟨.ref 60,Z7 129,.plain,Y9 []⟩
noncomputable def A3(P:Zr):Zp:=⟨Zg "frame",ZT,.dict (Y9 [de P "self" 368 (.ref 130),de P "index" 369 (.int 2 366),de P "doc" 370 (aB "Alias for field number 2" 367)]) 3,Y9 []⟩
noncomputable def A4:Zp:=⟨Zg "list",ZT,Data.seq (Y9 []) 0,Y9 []⟩
def wL(P:Zr):Zp:=j7 [de P "__module__" 260 (aB "cpy313.difflib" 194),de P "__firstlineno__" 264 (.int 23 263),de P "__doc__" 266 (aB "Match(a, b, size)" 265),de P "__slots__" 268 (.ref 73),de P "_fields" 272 (.ref 74),de P "_field_defaults" 273 (.ref 75),de P "__new__" 284 (.ref 136),de P "_make" 306 (.ref 91),de P "_replace" 317 (.ref 100),de P "__replace__" 318 (.ref 100),de P "__repr__" 326 (.ref 107),de P "_asdict" 333 (.ref 114),de P "__getnewargs__" 341 (.ref 121),de P "__match_args__" 345 (.ref 122),de P "a" 355 (.ref 124),de P "b" 365 (.ref 127),de P "size" 375 (.ref 130),de P "__static_attributes__" 376 (.ref 132)] 2
noncomputable def wM:Zp:=⟨Zg "type",ZT,.cls {name:=(Z9 "Match"),bases:=[Zg "tuple"],mro:=[.ref 135,Zg "tuple",Zg "object"],ns:=134,qualname:=(Z9 "Match"),hasDict:=ZS,slotNames:=[],subclasses:=[],abstract:=ZS,collection:=ZT,hasDel:=ZS},Y9 [Z7 (.ref 65),ZT,Z7 (aB "Match" 253),Z7 (aB "Match" 261),Z7 .none,Z7 (WE ZS)]⟩
def wN:Zp:=iw "staticmethod" [.ref 82]
def A5:Zp:=iw "super" [.ref 135,.ref 135,.ref 135]
def A6:Zp:=iw "builtin_function_or_method" [.builtin "object.__init_subclass__",.ref 135]
def ae4(P:Zr):BT:=qb 12 [WN P,SN P,Vh P,acL P,TV P,SM P,SK P,SJ P,SI P,SH P,TU P,aK,acs,rX,rY,aK,bw,wO,aK,wP,wQ,wR,aK,nU,wS P,aK,wU,wV,wW,aK,bw,wX,aK,w5,w6,w7,w8,aK,bw,w9,aK,xa,xb,xc,aK,bw,xd,aK,xe,xf,xg,aK,bw,xh,aK,xk,xl,xo,xp,xq P,xr,xt,xu,xw,xx,BB,nU,BC P,BD,aK,BE,BF,BG,aK,BH,rZ,aK,bw,BI,aK,BJ,xy,uu,aK,bw,BK,aK,BL,xz,r5,BM P,xA,rZ,BN,BO,bw,BP,aK,BQ,BR,AG,aK,bw,AH,aK,AI,AJ,AK,aK,bw,AL,aK,AM,AN,AO,aK,bw,AP,aK,AQ,AR,AS,AT,AU P,AW,AX P,AY P,AZ,A0 P,A1 P,A2,A3 P,aK,A4,wL P,wM,wN,A5,A6]
def S1(w:ZD)(os:YZ):Vm:=⟨ae4 w.params,139,qu,Y9 [],drawn,381,os⟩
noncomputable def uy:XY:=⟨23,0,65,54⟩
def acM(P:Zr):Zp:=j7 [de P "__name__" 165 (aB "cpy313.difflib" 194),de P "__doc__" 166 .none,de P "__package__" 167 .none,de P "__loader__" 168 (.builtin "__main__.__loader__#opaque"),de P "__spec__" 169 .none,de P "__annotations__" 170 (.ref 6),de P "__builtins__" 171 (.ref 4),de P "__file__" 173 (aB "/claim/cut.py" 172),de P "__cached__" 174 .none,de P "_wall" 193 (.ref 21),de P "_tuplegetter" 252 (.ref 60),de P "Match" 380 (.ref 135),de P "_calculate_ratio" 388 (.ref 145),de P "SequenceMatcher" 591 (.ref 242)] 14
def act:Zp:=my [.int 1 0,.int 0 0,.ref 20,.int 5 0,.int 0 0,.ref 27,.int 23 0,.int 0 0,.ref 71,.int 66 0,.int 0 0,.ref 144,.int 70 0,.int 0 0,.ref 151]
def Hs:Zp:=cG [aB "matches" 384,aB "length" 385]
def Ht:Zp:=dA "_calculate_ratio" "_calculate_ratio" Cq
def Hu:Zp:=eh "_calculate_ratio" "_calculate_ratio" 381 66 2 0 3 139 386
def Hv:Zp:=dL "_calculate_ratio" "_calculate_ratio" Cq .none .none "cpy313.difflib" 194 144
noncomputable def Hw(d:ZU)(P:Zr):Zp:=⟨.type "dict",ZT,.dict (Y9 [de P "__module__" 396 (aB "cpy313.difflib" 194),de P "__qualname__" 398 (aB "SequenceMatcher" 397),de P "__firstlineno__" 400 (.int 70 399),de P "__doc__" 402 (.str d 401),de P "__init__" 417 (.ref 160),de P "set_seqs" 427 (.ref 167),de P "set_seq1" 436 (.ref 174),de P "set_seq2" 445 (.ref 181),de P "_SequenceMatcher__chain_b" 463 (.ref 188),de P "find_longest_match" 491 (.ref 196),de P "get_matching_blocks" 518 (.ref 203),de P "get_opcodes" 533 (.ref 210),de P "get_grouped_opcodes" 551 (.ref 218),de P "ratio" 560 (.ref 225),de P "quick_ratio" 567 (.ref 232),de P "real_quick_ratio" 574 (.ref 239),de P "__static_attributes__" 585 (.ref 240)]) 17,Y9 []⟩
def acv(P:Zr):Zp:=Hw (fT gU) P
def Hx:Zp:=my [.int 145 0,.int 4 0,.ref 159,.int 173 0,.int 4 0,.ref 166,.int 184 0,.int 4 0,.ref 173,.int 209 0,.int 4 0,.ref 180,.int 236 0,.int 4 0,.ref 187,.int 260 0,.int 4 0,.ref 195,.int 335 0,.int 4 0,.ref 202,.int 383 0,.int 4 0,.ref 209,.int 430 0,.int 4 0,.ref 217,.int 475 0,.int 4 0,.ref 224,.int 499 0,.int 4 0,.ref 231,.int 502 0,.int 4 0,.ref 238]
def Hy:Zp:=iw "code" [aB "SequenceMatcher" 391,aB "SequenceMatcher" 392,aB "/claim/cut.py" 393,.int 70 0,.int 0 0,.int 0 0,.int 0 0,.int 0 0,.ref 149,WE ZS,.int 181 0,.ref 150,.none,.none,.none,.none,.int 394 0,.int 70 0,aB "/claim/cut.py" 395]
noncomputable def Hz:Zp:=⟨Zg "frame",ZT,.plain,Y9 [Z7 (.ref 151),Z7 (.ref 3),Z7 (.ref 148),ZT,Z7 (aB "cpy313.difflib" 194),ZT,Z7 (.ref 0)]⟩
def A7:Zp:=cG [.none,aB "" 404,aB "" 405,WE ZW]
def HA:Zp:=cG [aB "self" 409,aB "isjunk" 410,aB "a" 411,aB "b" 412,aB "autojunk" 413]
def HB:Zp:=dA "__init__" "SequenceMatcher.__init__" sy
def A8:Zp:=eh "__init__" "SequenceMatcher.__init__" 406 145 5 0 3 154 414
def A9:Zp:=dL "__init__" "SequenceMatcher.__init__" sy (.ref 153) (.str (fT sy) 416) "cpy313.difflib" 194 159
def HC:Zp:=cG [aB "self" 421,aB "a" 422,aB "b" 423]
def HD:Zp:=dA "set_seqs" "SequenceMatcher.set_seqs" sz
def Ba:Zp:=eh "set_seqs" "SequenceMatcher.set_seqs" 418 173 3 0 3 161 424
def Bb:Zp:=dL "set_seqs" "SequenceMatcher.set_seqs" sz .none (.str (fT sz) 426) "cpy313.difflib" 194 166
def HE:Zp:=cG [aB "self" 431,aB "a" 432]
def HF:Zp:=dA "set_seq1" "SequenceMatcher.set_seq1" sA
def Bc:Zp:=eh "set_seq1" "SequenceMatcher.set_seq1" 428 184 2 0 3 168 433
def Be:Zp:=dL "set_seq1" "SequenceMatcher.set_seq1" sA .none (.str (fT sA) 435) "cpy313.difflib" 194 173
def HG:Zp:=cG [aB "self" 440,aB "b" 441]
def HH:Zp:=dA "set_seq2" "SequenceMatcher.set_seq2" sB
def Bf:Zp:=eh "set_seq2" "SequenceMatcher.set_seq2" 437 209 2 0 3 175 442
def Bg:Zp:=dL "set_seq2" "SequenceMatcher.set_seq2" sB .none (.str (fT sB) 444) "cpy313.difflib" 194 180
def HI:Zp:=cG [aB "self" 449,aB "b" 450,aB "b2j" 451,aB "i" 452,aB "elt" 453,aB "indices" 454,aB "junk" 455,aB "isjunk" 456,aB "popular" 457,aB "n" 458,aB "ntest" 459,aB "idxs" 460]
def HJ:Zp:=dA "__chain_b" "SequenceMatcher.__chain_b" gV
def Bh:Zp:=eh "__chain_b" "SequenceMatcher.__chain_b" 446 236 1 0 3 182 461
def Bi:Zp:=dL "__chain_b" "SequenceMatcher.__chain_b" gV .none .none "cpy313.difflib" 194 187
def Bj:Zp:=cG [.int 0 464,.none,.int 0 465,.none]
def HK:Zp:=cG [aB "self" 469,aB "alo" 470,aB "ahi" 471,aB "blo" 472,aB "bhi" 473,aB "a" 474,aB "b" 475,aB "b2j" 476,aB "isbjunk" 477,aB "besti" 478,aB "bestj" 479,aB "bestsize" 480,aB "j2len" 481,aB "nothing" 482,aB "i" 483,aB "j2lenget" 484,aB "newj2len" 485,aB "j" 486,aB "k" 487]
def HL:Zp:=dA "find_longest_match" "SequenceMatcher.find_longest_match" fh
def Bl:Zp:=eh "find_longest_match" "SequenceMatcher.find_longest_match" 466 260 5 0 3 190 488
def Bm:Zp:=dL "find_longest_match" "SequenceMatcher.find_longest_match" fh (.ref 189) (.str (fT fh) 490) "cpy313.difflib" 194 195
def HM:Zp:=cG [aB "self" 495,aB "la" 496,aB "lb" 497,aB "queue" 498,aB "matching_blocks" 499,aB "alo" 500,aB "ahi" 501,aB "blo" 502,aB "bhi" 503,aB "i" 504,aB "j" 505,aB "k" 506,aB "x" 507,aB "i1" 508,aB "j1" 509,aB "k1" 510,aB "non_adjacent" 511,aB "i2" 512,aB "j2" 513,aB "k2" 514]
def HN:Zp:=dA "get_matching_blocks" "SequenceMatcher.get_matching_blocks" eS
def Bo:Zp:=eh "get_matching_blocks" "SequenceMatcher.get_matching_blocks" 492 335 1 0 3 197 515
def Bp:Zp:=dL "get_matching_blocks" "SequenceMatcher.get_matching_blocks" eS .none (.str (fT eS) 517) "cpy313.difflib" 194 202
def HO:Zp:=cG [aB "self" 522,aB "i" 523,aB "j" 524,aB "answer" 525,aB "ai" 526,aB "bj" 527,aB "size" 528,aB "tag" 529]
def HP:Zp:=dA "get_opcodes" "SequenceMatcher.get_opcodes" kB
def Bq:Zp:=eh "get_opcodes" "SequenceMatcher.get_opcodes" 519 383 1 0 3 204 530
def Br:Zp:=dL "get_opcodes" "SequenceMatcher.get_opcodes" kB .none (.str (fT kB) 532) "cpy313.difflib" 194 209
def Bs:Zp:=cG [.int 3 534]
def HQ:Zp:=cG [aB "self" 538,aB "n" 539,aB "codes" 540,aB "tag" 541,aB "i1" 542,aB "i2" 543,aB "j1" 544,aB "j2" 545,aB "nn" 546,aB "group" 547]
def HR:Zp:=dA "get_grouped_opcodes" "SequenceMatcher.get_grouped_opcodes" fV
def Bt:Zp:=eh "get_grouped_opcodes" "SequenceMatcher.get_grouped_opcodes" 535 430 2 0 35 212 548
def us:Zp:=dL "get_grouped_opcodes" "SequenceMatcher.get_grouped_opcodes" fV (.ref 211) (.str (fT fV) 550) "cpy313.difflib" 194 217
def HS:Zp:=cG [aB "self" 555,aB "matches" 556]
def HT:Zp:=dA "ratio" "SequenceMatcher.ratio" Cr
def HU:Zp:=eh "ratio" "SequenceMatcher.ratio" 552 475 1 0 3 219 557
def HV:Zp:=dL "ratio" "SequenceMatcher.ratio" Cr .none (.str (fT Cr) 559) "cpy313.difflib" 194 224
def HW:Zp:=cG [aB "self" 564]
def HX:Zp:=dA "quick_ratio" "SequenceMatcher.quick_ratio" Jn
def HY:Zp:=eh "quick_ratio" "SequenceMatcher.quick_ratio" 561 499 1 0 3 226 565
def HZ:Zp:=dL "quick_ratio" "SequenceMatcher.quick_ratio" Jn .none .none "cpy313.difflib" 194 231
def H0:Zp:=cG [aB "self" 571]
def H3:Zp:=dA "real_quick_ratio" "SequenceMatcher.real_quick_ratio" Jo
def H4:Zp:=eh "real_quick_ratio" "SequenceMatcher.real_quick_ratio" 568 502 1 0 3 233 572
def H5:Zp:=dL "real_quick_ratio" "SequenceMatcher.real_quick_ratio" Jo .none .none "cpy313.difflib" 194 238
def H6:Zp:=cG [aB "a" 575,aB "autojunk" 576,aB "b" 577,aB "b2j" 578,aB "bjunk" 579,aB "bpopular" 580,aB "fullbcount" 581,aB "isjunk" 582,aB "matching_blocks" 583,aB "opcodes" 584]
noncomputable def H7(d:ZU)(P:Zr):Zp:=⟨.type "dict",ZT,.dict (Y9 [de P "__module__" 396 (aB "cpy313.difflib" 194),de P "__firstlineno__" 400 (.int 70 399),de P "__doc__" 402 (.str d 401),de P "__init__" 417 (.ref 160),de P "set_seqs" 427 (.ref 167),de P "set_seq1" 436 (.ref 174),de P "set_seq2" 445 (.ref 181),de P "_SequenceMatcher__chain_b" 463 (.ref 188),de P "find_longest_match" 491 (.ref 196),de P "get_matching_blocks" 518 (.ref 203),de P "get_opcodes" 533 (.ref 210),de P "get_grouped_opcodes" 551 (.ref 218),de P "ratio" 560 (.ref 225),de P "quick_ratio" 567 (.ref 232),de P "real_quick_ratio" 574 (.ref 239),de P "__static_attributes__" 585 (.ref 240),de P "__dict__" 587 (.ref 243),de P "__weakref__" 589 (.ref 244)]) 3,Y9 []⟩
def ky(P:Zr):Zp:=H7 (fT gU) P
noncomputable def Bu:Zp:=⟨Zg "type",ZT,.cls {name:=(Z9 "SequenceMatcher"),bases:=[Zg "object"],mro:=[.ref 242,Zg "object"],ns:=241,qualname:=(Z9 "SequenceMatcher"),hasDict:=ZW,slotNames:=[],subclasses:=[],abstract:=ZS,collection:=ZT,hasDel:=ZS},Y9 [ZT,ZT,Z7 (aB "SequenceMatcher" 389),Z7 (aB "SequenceMatcher" 397),Z7 (.builtin "object.__new__"),Z7 (WE ZW)]⟩
def H8:Zp:=iw "getset_descriptor" [aB "__dict__" 586,.ref 242,.builtin "function.__dict__",.builtin "function.__dict__#set"]
def H9:Zp:=iw "getset_descriptor" [aB "__weakref__" 588,.ref 242,.builtin "ExceptionGroup.__weakref__",.none]
def Ia:Zp:=iw "super" [.ref 242,.ref 242,.ref 242]
def Ib:Zp:=iw "builtin_function_or_method" [.builtin "object.__init_subclass__",.ref 242]
def ae5(d:ZU)(P:Zr):BT:=qb 12 [WN P,SN P,Vh P,acM P,TV P,SM P,SK P,SJ P,SI P,SH P,TU P,aK,act,rX,rY,aK,bw,wO,aK,wP,wQ,wR,aK,nU,wS P,aK,wU,wV,wW,aK,bw,wX,aK,w5,w6,w7,w8,aK,bw,w9,aK,xa,xb,xc,aK,bw,xd,aK,xe,xf,xg,aK,bw,xh,aK,xk,xl,xo,xp,xq P,xr,xt,xu,xw,xx,BB,nU,BC P,BD,aK,BE,BF,BG,aK,BH,rZ,aK,bw,BI,aK,BJ,xy,uu,aK,bw,BK,aK,BL,xz,r5,BM P,xA,rZ,BN,BO,bw,BP,aK,BQ,BR,AG,aK,bw,AH,aK,AI,AJ,AK,aK,bw,AL,aK,AM,AN,AO,aK,bw,AP,aK,AQ,AR,AS,AT,AU P,AW,AX P,AY P,AZ,A0 P,A1 P,A2,A3 P,aK,A4,wL P,wM,wN,A5,A6,aK,bw,Hs,aK,Ht,Hu,Hv,aK,nU,Hw d P,aK,Hx,Hy,Hz,A7,aK,bw,HA,aK,HB,A8,A9,aK,bw,HC,aK,HD,Ba,Bb,aK,bw,HE,aK,HF,Bc,Be,aK,bw,HG,aK,HH,Bf,Bg,aK,bw,HI,aK,HJ,Bh,Bi,Bj,aK,bw,HK,aK,HL,Bl,Bm,aK,bw,HM,aK,HN,Bo,Bp,aK,bw,HO,aK,HP,Bq,Br,Bs,aK,bw,HQ,aK,HR,Bt,us,aK,bw,HS,aK,HT,HU,HV,aK,bw,HW,aK,HX,HY,HZ,aK,bw,H0,aK,H3,H4,H5,H6,H7 d P,Bu,H8,H9,Ia,Ib]
def Dd(d:ZU)(w:ZD)(os:YZ):Vm:=⟨ae5 d w.params,247,qu,Y9 [],drawn,592,os⟩
def S2(w:ZD)(os:YZ):Vm:=Dd (fT gU) w os
noncomputable def uz:XY:=⟨70,0,503,16⟩
def iV(P:Zr):Zp:=j7 [de P "__name__" 165 (aB "law_mt0001_02" 648),de P "__doc__" 166 .none,de P "__package__" 167 .none,de P "__loader__" 168 (.builtin "__main__.__loader__#opaque"),de P "__spec__" 169 .none,de P "__annotations__" 170 (.ref 6),de P "__builtins__" 171 (.ref 4),de P "__file__" 173 (aB "/claim/cut.py" 172),de P "__cached__" 174 .none,de P "_wall" 193 (.ref 21),de P "_tuplegetter" 252 (.ref 60),de P "Match" 380 (.ref 135),de P "_calculate_ratio" 388 (.ref 145),de P "SequenceMatcher" 591 (.ref 242),de P "_format_range_unified" 602 (.ref 253),de P "unified_diff" 637 (.ref 261),de P "_check_types" 647 (.ref 268),de P "_law_kept" 655 (.ref 273),de P "_law_rows" 661 (.ref 278),de P "_law_range" 669 (.ref 285),de P "_law_far" 681 (.ref 292),de P "_law_diff" 687 (.ref 297),de P "law" 693 (.ref 302)] 23
def acu:Zp:=my [.int 1 0,.int 0 0,.ref 20,.int 5 0,.int 0 0,.ref 27,.int 23 0,.int 0 0,.ref 71,.int 66 0,.int 0 0,.ref 144,.int 70 0,.int 0 0,.ref 151,.int 504 0,.int 0 0,.ref 252,.int 513 0,.int 0 0,.ref 260,.int 576 0,.int 0 0,.ref 267,.int 585 0,.int 0 0,.ref 272,.int 601 0,.int 0 0,.ref 277,.int 611 0,.int 0 0,.ref 284,.int 615 0,.int 0 0,.ref 291,.int 622 0,.int 0 0,.ref 296,.int 640 0,.int 0 0,.ref 301]
def acw:Zp:=cG [aB "start" 595,aB "stop" 596,aB "beginning" 597,aB "length" 598]
def acx:Zp:=dA "_format_range_unified" "_format_range_unified" sC
def Ic:Zp:=eh "_format_range_unified" "_format_range_unified" 592 504 2 0 3 247 599
def Bv:Zp:=dL "_format_range_unified" "_format_range_unified" sC .none (.str (fT sC) 601) "cpy313.difflib" 194 252
def wT:Zp:=cG [aB "" 603,aB "" 604,aB "" 605,aB "" 606,.int 3 607,aB "\n" 608]
def acy:Zp:=cG [aB "a" 612,aB "b" 613,aB "fromfile" 614,aB "tofile" 615,aB "fromfiledate" 616,aB "tofiledate" 617,aB "n" 618,aB "lineterm" 619,aB "started" 620,aB "group" 621,aB "fromdate" 622,aB "todate" 623,aB "first" 624,aB "last" 625,aB "file1_range" 626,aB "file2_range" 627,aB "tag" 628,aB "i1" 629,aB "i2" 630,aB "j1" 631,aB "j2" 632,aB "line" 633]
def acz:Zp:=dA "unified_diff" "unified_diff" fE
def Id:Zp:=eh "unified_diff" "unified_diff" 609 513 8 0 35 255 634
def l7:Zp:=dL "unified_diff" "unified_diff" fE (.ref 254) (.str (fT fE) 636) "cpy313.difflib" 194 260
def acA:Zp:=cG [aB "a" 641,aB "b" 642,aB "args" 643,aB "arg" 644]
def acB:Zp:=dA "_check_types" "_check_types" jQ
def Ie:Zp:=eh "_check_types" "_check_types" 638 576 2 0 7 262 645
def ut:Zp:=dL "_check_types" "_check_types" jQ .none .none "cpy313.difflib" 194 267
def acC:Zp:=dA "_law_kept" "_law_kept" eR
def Ig:Zp:=vR "_law_kept" "_law_kept" 650 585 7 0 3 269 653
def Bw:Zp:=dL "_law_kept" "_law_kept" eR .none .none "law_mt0001_02" 648 272
def acD:Zp:=dA "_law_rows" "_law_rows" l9
def Ih:Zp:=vR "_law_rows" "_law_rows" 656 601 2 0 3 274 659
def Bx:Zp:=dL "_law_rows" "_law_rows" l9 .none .none "law_mt0001_02" 648 277
def acE:Zp:=cG [aB "start" 665,aB "size" 666]
def acF:Zp:=dA "_law_range" "_law_range" uN
def Ii:Zp:=eh "_law_range" "_law_range" 662 611 2 0 3 279 667
def By:Zp:=dL "_law_range" "_law_range" uN .none .none "law_mt0001_02" 648 284
def acG:Zp:=cG [aB "rows" 673,aB "n" 674,aB "told" 675,aB "far" 676,aB "sign" 677,aB "line" 678]
def acH:Zp:=dA "_law_far" "_law_far" uO
def Ij:Zp:=eh "_law_far" "_law_far" 670 615 2 0 3 286 679
def Bz:Zp:=dL "_law_far" "_law_far" uO .none .none "law_mt0001_02" 648 291
def acI:Zp:=dA "_law_diff" "_law_diff" jo
def Ik:Zp:=vR "_law_diff" "_law_diff" 682 622 2 0 3 293 685
def BA:Zp:=dL "_law_diff" "_law_diff" jo .none .none "law_mt0001_02" 648 296
def acJ:Zp:=dA "law" "law" bV
def Il:Zp:=vR "law" "law" 688 640 1 0 3 298 691
def Im:Zp:=dL "law" "law" bV .none .none "law_mt0001_02" 648 301
def E8(P:Zr):List Zp:=[WN P,SN P,Vh P,iV P,TV P,SM P,SK P,SJ P,SI P,SH P,TU P,aK,acu,rX,rY,aK,bw,wO,aK,wP,wQ,wR,aK,nU,wS P,aK,wU,wV,wW,aK,bw,wX,aK,w5,w6,w7,w8,aK,bw,w9,aK,xa,xb,xc,aK,bw,xd,aK,xe,xf,xg,aK,bw,xh,aK,xk,xl,xo,xp,xq P,xr,xt,xu,xw,xx,BB,nU,BC P,BD,aK,BE,BF,BG,aK,BH,rZ,aK,bw,BI,aK,BJ,xy,uu,aK,bw,BK,aK,BL,xz,r5,BM P,xA,rZ,BN,BO,bw,BP,aK,BQ,BR,AG,aK,bw,AH,aK,AI,AJ,AK,aK,bw,AL,aK,AM,AN,AO,aK,bw,AP,aK,AQ,AR,AS,AT,AU P,AW,AX P,AY P,AZ,A0 P,A1 P,A2,A3 P,aK,A4,wL P,wM,wN,A5,A6,aK,bw,Hs,aK,Ht,Hu,Hv,aK,nU,acv P,aK,Hx,Hy,Hz,A7,aK,bw,HA,aK,HB,A8,A9,aK,bw,HC,aK,HD,Ba,Bb,aK,bw,HE,aK,HF,Bc,Be,aK,bw,HG,aK,HH,Bf,Bg,aK,bw,HI,aK,HJ,Bh,Bi,Bj,aK,bw,HK,aK,HL,Bl,Bm,aK,bw,HM,aK,HN,Bo,Bp,aK,bw,HO,aK,HP,Bq,Br,Bs,aK,bw,HQ,aK,HR,Bt,us,aK,bw,HS,aK,HT,HU,HV,aK,bw,HW,aK,HX,HY,HZ,aK,bw,H0,aK,H3,H4,H5,H6,ky P,Bu,H8,H9,Ia,Ib,aK,bw,acw,aK,acx,Ic,Bv,wT,aK,bw,acy,aK,acz,Id,l7,aK,bw,acA,aK,acB,Ie,ut,aK,bw,acC,Ig,Bw,aK,bw,acD,Ih,Bx,aK,bw,acE,aK,acF,Ii,By,aK,bw,acG,aK,acH,Ij,Bz,aK,bw,acI,Ik,BA,aK,bw,acJ,Il,Im]
def ae6(P:Zr):BT:=qb 12 (E8 P)
def S3(w:ZD)(os:YZ):Vm:=⟨ae6 w.params,303,qu,Y9 [],drawn,694,os⟩
noncomputable def xC:XY:=⟨640,0,659,71⟩
def aP(P:Zr):YQ:=⟨Y9 (E8 P),qu⟩
noncomputable def env:Rw:={scope:=pw.main.scope,locals:=mainNs,globals:=mainNs,cells:=[],code:=.ref 13,frame:=Z7 14}
noncomputable def bE:List Y4:=behindTheImports pw
noncomputable def cE:Ue:=.body bE env
noncomputable def zP:XY:=⟨0,0,0,0⟩
noncomputable def B:List UI:=[topFrame zP]
noncomputable def yl(xs:Array Nat)(p:Nat->Bool)(a b:Nat):Bool:=match Xp a 0 with
 |true=>match Xp b xs.size with
  |true=>R.anyR xs.toList p|false=>Sg xs p a b
 |false=>Sg xs p a b
theorem anyC:@Sg Nat=yl:=by funext xs p a b;unfold yl;cases h:Xp a 0 with|false=>rfl;|true=>cases h':Xp b xs.size with|false=>rfl;|true=>have e:=Vt h;have e':=Vt h';subst e e';show xs.any p=_;rw[<-Array.any_toList,R.anyR_eq]
noncomputable def tb(b:XJ)(id:String):Option XJ:=match Xp (PySem.W.Fast.tw13482112738370960269 id) 29827186395103491166823348853 with
 |true=>Z7 b|false=>PySem.W.Fast.tw14364793385576792824 id
theorem aeV:entriesT.find 29827186395103491166823348853=Z7 XJ.«type.__new__»:=by kernel_rfl
theorem aeO:Xo=tb XJ.«type.__new__»:=by funext id;unfold tb;rw[<-PySem.W.Fast.te13482112738370960269,<-PySem.W.Fast.te14364793385576792824];cases h:Xp (PySem.code id) 29827186395103491166823348853 with|false=>rfl;|true=>have e:=Vt h;show entriesT.find (PySem.code id)=_;rw[e,aeV]
def Cx:List Y4:=body.take 3
def Cy:List Y4:=(body.drop 3).take 1
def xM:List Y4:=(body.drop 4).take 2
def Cz:List Y4:=body.drop 6
noncomputable def kk(p:YG)(w:ZD)(n:Nat)(S:Vm)(Cw:List Y4)(env:Rw)(c:Ue)(pos:XY)(B:List UI):Option (Rq×Vm×Ue×XY):=Sf Xo p w 11 (Z7 (.ref 6)) 1 n S (TS Cw env c pos B)
theorem mkk:(λ(_ _:type_of%kk)=>ZW) kk kk=ZW:=by k_qdec
noncomputable def kp(p:YG)(w:ZD)(s s':Z6)(c:Ue)(z:XY)(B:List UI):Option (Z6×Thread)×Option (Z6×Thread):=(topGo Xo p w 11 (Z7 (.ref 6)) 12 s (topStub p),Z7 (s',⟨denote Xo c,c,z,B⟩))
theorem mkp:(λ(_ _:type_of%kp)=>ZW) kp kp=ZW:=by k_qdec
noncomputable def kl(p:YG)(w:ZD)(s:Z6)(b:List Y4)(env:Rw)(c:Ue)(z:XY)(B:List UI):Option (Rq×Z6×Ue×XY):=segRun Xo p w 11 (Z7 (.ref 6)) 1 1 s (blockOf b env c z B)
theorem mkl:(λ(_ _:type_of%kl)=>ZW) kl kl=ZW:=by k_qdec
noncomputable def kf(p:YG)(w:ZD)(s:Z6)(c:Ue)(z:XY)(B:List UI):Option Z6:=topRun Xo p w 11 (Z7 (.ref 6)) 2 s ⟨doneF .next,c,z,B⟩
theorem mkf:(λ(_ _:type_of%kf)=>ZW) kf kf=ZW:=by k_qdec
noncomputable def ka(S:Vm):Z6:=S.abs
theorem mka:(λ(_ _:type_of%ka)=>ZW) ka ka=ZW:=by first|k_qdec|rfl
theorem t0(w:ZD)(os:YZ):PySem.W.Fast.tw5887355013024774941 pw w 362 (SA w os) Cx env cE uA B=Z7 (.next,S0 w os,cE,xB):=by kernel_rfl
theorem e0(w:ZD)(os:YZ):Sf Xo pw w 11 (Z7 (.ref 6)) 1 362 (SA w os) (TS Cx env cE uA B)=Z7 (.next,S0 w os,cE,xB):=(congrFun (congrFun (congrFun (congrFun (congrFun (congrFun (congrFun (congrFun (congrFun PySem.W.Fast.te5887355013024774941 _) _) _) _) _) _) _) _) _).trans (t0 w os)
theorem t1(w:ZD)(os:YZ):PySem.W.Fast.tw5887355013024774941 pw w 1047 (S0 w os) Cy env cE xB B=Z7 (.next,S1 w os,cE,uy):=by kernel_rfl
theorem e1(w:ZD)(os:YZ):Sf Xo pw w 11 (Z7 (.ref 6)) 1 1047 (S0 w os) (TS Cy env cE xB B)=Z7 (.next,S1 w os,cE,uy):=(congrFun (congrFun (congrFun (congrFun (congrFun (congrFun (congrFun (congrFun (congrFun PySem.W.Fast.te5887355013024774941 _) _) _) _) _) _) _) _) _).trans (t1 w os)
theorem t3(w:ZD)(os:YZ):PySem.W.Fast.tw5887355013024774941 pw w 301 (S2 w os) Cz env cE uz B=Z7 (.next,S3 w os,cE,xC):=by kernel_rfl
theorem e3(w:ZD)(os:YZ):Sf Xo pw w 11 (Z7 (.ref 6)) 1 301 (S2 w os) (TS Cz env cE uz B)=Z7 (.next,S3 w os,cE,xC):=(congrFun (congrFun (congrFun (congrFun (congrFun (congrFun (congrFun (congrFun (congrFun PySem.W.Fast.te5887355013024774941 _) _) _) _) _) _) _) _) _).trans (t3 w os)
noncomputable def ad6(d:ZU):Y4->Y4
 |.ClassDef n b k (.Expr (.Constant (.str _) i p) z::r) e t u v x y o=>.ClassDef n b k (.Expr (.Constant (.str d) i p) z::r) e t u v x y o|st=>st
def Ju(d:ZU):List Y4:=[Cq,ad6 d gU]
noncomputable def k2(b:XJ)(p:YG)(w:ZD)(n:Nat)(S:Vm)(Cw:List Y4)(env:Rw)(c:Ue)(pos:XY)(B:List UI):Option (Rq×Vm×Ue×XY):=Sf (tb b) p w 11 (Z7 (.ref 6)) 1 n S (TS Cw env c pos B)
theorem mk2:(λ(_ _:type_of%k2)=>ZW) k2 k2=ZW:=by k_qdec
theorem aez:xM=Ju (fT gU):=by kernel_rfl
theorem t2:∃F:(Array Nat->(Nat->Bool)->Nat->Nat->Bool)->XJ,∃l:List Char,VW=F (@Sg Nat)/\fT gU=Z9 (String.ofList l)/\∀w os,@PySem.W.Fast.tw13548834284501389479 (F yl) pw w 696 (S1 w os) (Ju ⟨(l.map Char.toNat).toArray⟩) env cE uy B=Z7 (.next,Dd ⟨(l.map Char.toNat).toArray⟩ w os,cE,uz):=by
 refine⟨?F,?l,?h,?d,λw os=>?k⟩;case h=>delta VW;generalize@Sg Nat=A;exact Wm _
 case d=>exact Wm (fT gU)
 case k=>kernel_rfl
theorem e2(w:ZD)(os:YZ):Sf (tb XJ.«type.__new__») pw w 11 (Z7 (.ref 6)) 1 696 (S1 w os) (TS xM env cE uy B)=Z7 (.next,S2 w os,cE,uz):=by obtain⟨F,l,h,d,k⟩:=t2;rw[S2,aez,d,Fast.ofString_ofList,PySem.W.Fast.te4202317264376624991,h,anyC];exact(congrFun (congrFun (congrFun (congrFun (congrFun (congrFun (congrFun (congrFun (congrFun (congrFun PySem.W.Fast.te13548834284501389479 _) _) _) _) _) _) _) _) _) _).trans (k w os)
abbrev ann:Option Z3:=Z7 (.ref 6)
def xH(w:ZD)(os:YZ):Z6:=⟨UM w.params,Y9 [],boot_drawn,boot_toks,os⟩
def uG(w:ZD)(os:YZ):Z6:=⟨O6 w.params,Y9 [],drawn,187,os⟩
def eN(w:ZD)(os:YZ):Z6:=⟨aP w.params,Y9 [],drawn,694,os⟩
theorem ttp(w:ZD)(os:YZ):(PySem.W.Fast.tw12848600500954334847 pw w (xH w os) (uG w os) cE zP B).1=(PySem.W.Fast.tw12848600500954334847 pw w (xH w os) (uG w os) cE zP B).2:=by kernel_rfl
theorem ep(w:ZD)(os:YZ):topGo Xo pw w 11 (Z7 (.ref 6)) 12 (xH w os) (topStub pw)=Z7 (uG w os,⟨denote Xo cE,cE,zP,B⟩):=by have e:=ttp w os;rw[<-PySem.W.Fast.te12848600500954334847]at e;exact e
theorem ttb(w:ZD)(os:YZ):PySem.W.Fast.tw3398768791496185655 pw w (uG w os) bE env cE zP B=Z7 (.next,ka (SA w os),cE,uA):=by kernel_rfl
theorem eb(w:ZD)(os:YZ):segRun Xo pw w 11 (Z7 (.ref 6)) 1 1 (uG w os) (blockOf bE env cE zP B)=Z7 (.next,(SA w os).abs,cE,uA):=((congrFun (congrFun (congrFun (congrFun (congrFun (congrFun (congrFun (congrFun PySem.W.Fast.te3398768791496185655 _) _) _) _) _) _) _) _).trans (ttb w os)).trans (congrArg (λx=>Z7 (Flow.next,x,cE,uA)) (congrFun (Wm ka) _).symm)
theorem ttf(w:ZD)(os:YZ):PySem.W.Fast.tw3775652316193032991 pw w (ka (S3 w os)) cE xC B=Z7 (eN w os):=by kernel_rfl
theorem ef(w:ZD)(os:YZ):topRun Xo pw w 11 (Z7 (.ref 6)) 2 (S3 w os).abs ⟨doneF .next,cE,xC,B⟩=Z7 (eN w os):=by have e:=ttf w os;rw[<-PySem.W.Fast.te3775652316193032991]at e;exact e
theorem MC(w:ZD)(os:YZ):Sf Xo pw w 11 (Z7 (.ref 6)) 1 696 (S1 w os) (TS xM env cE uy B)=Z7 (.next,S2 w os,cE,uz):=by rw[aeO];exact e2 w os
theorem adS(w:ZD)(os:YZ):topRun Xo pw w 11 (Z7 (.ref 6)) (12+(1+(362+(1047+(696+(301+2)))))) (xH w os) (topStub pw)=Z7 (eN w os):=go_top (ep w os) (piece_block (eb w os) (Q6 (l:=Cx) (rest:=Cy++(xM++(Cz++[]))) (Q5 (e0 w os)) (Q6 (Q5 (e1 w os)) (Q6 (Q5 (MC w os)) (Q6 (Q5 (e3 w os)) (piece_nil (ef w os)))))))
noncomputable def q:YG:=view pw [0,2,3,4,5,6,8,10,11,12,13,14,15]
noncomputable def loose:List ZU:=[.ofString "_tuplegetter",.ofString "Match",.ofString "SequenceMatcher",.ofString "unified_diff"]
noncomputable def Xt(s:Z6):Bool:=xlAt q [] s&&recOk [] s
noncomputable def rW:List ZU:=importedModules pw.main.body
def Cf(w:ZD)(os:YZ):Z6:={eN w os with gens:=#[]}
noncomputable def c0(h:YQ):=((h.isNs Xs&&(Y9 ([]:List Zx)).size==0),h.objs.size,h.nsMap Xs "__annotations__")
theorem mkc0:(λ(_ _:type_of%c0)=>ZW) c0 c0=ZW:=by first|k_qdec|rfl
noncomputable def c1(m:List ZU)(p:YG)(h0 h1:YQ)(s:Z6):=(staticsOk m h0 h1&&namesBound p h1&&gensDone s&&laidKept h0 h1)
theorem mkc1:(λ(_ _:type_of%c1)=>ZW) c1 c1=ZW:=by first|k_qdec|rfl
noncomputable def c2(q:YG)(s:Z6):=seen ((recsOf q).map (·.name)) (ownsOf q) [] s
theorem mkc2:(λ(_ _:type_of%c2)=>ZW) c2 c2=ZW:=by first|k_qdec|rfl
noncomputable def d2(q:YG):=Qu q
theorem mkd2:(λ(_ _:type_of%d2)=>ZW) d2 d2=ZW:=by first|k_qdec|rfl
noncomputable def c3(h:YQ):=h.bltView
theorem mkc3:(λ(_ _:type_of%c3)=>ZW) c3 c3=ZW:=by first|k_qdec|rfl
noncomputable def c4(q:YG)(loose m:List ZU)(h:YQ)(s:Z6):=(h.keysOk (Qt q loose) ((recsOf q).map (·.name)) ((litsOf q).map (·.1)) ((clssOf q (Qt q loose)).map (·.name))&&h.accountedOkI m&&h.isNs Xs&&h.isNs Vq&&tablesOk q h&&(xlAt q [] s&&recOk [] s)&&(if ZW then s.gens.size==0 else !leftWithCleanup s.gens))
theorem mkc4:(λ(_ _:type_of%c4)=>ZW) c4 c4=ZW:=by first|k_qdec|rfl
noncomputable def c5(q:YG)(s:Z6):=tabsOk q s
theorem mkc5:(λ(_ _:type_of%c5)=>ZW) c5 c5=ZW:=by first|k_qdec|rfl
noncomputable def c6(q:YG)(s:Z6):=pinSeenD q (PU q) s
theorem mkc6:(λ(_ _:type_of%c6)=>ZW) c6 c6=ZW:=by first|k_qdec|rfl
noncomputable def d6(q:YG):=pinGoodD (PU q)
theorem mkd6:(λ(_ _:type_of%d6)=>ZW) d6 d6=ZW:=by first|k_qdec|rfl
noncomputable def c7(q:YG)(loose:List ZU)(s:Z6):=plainSeenE q (Qt q loose) s
theorem mkc7:(λ(_ _:type_of%c7)=>ZW) c7 c7=ZW:=by first|k_qdec|rfl
noncomputable def d7(q:YG)(loose:List ZU):=Qs q (Qt q loose)
theorem mkd7:(λ(_ _:type_of%d7)=>ZW) d7 d7=ZW:=by first|k_qdec|rfl
noncomputable def c8(q:YG)(loose:List ZU)(s:Z6):=plainSeenD q loose s
theorem mkc8:(λ(_ _:type_of%c8)=>ZW) c8 c8=ZW:=by first|k_qdec|rfl
noncomputable def d8(q:YG)(loose:List ZU):=Qr q loose
theorem mkd8:(λ(_ _:type_of%d8)=>ZW) d8 d8=ZW:=by first|k_qdec|rfl
noncomputable def c9(q:YG)(s:Z6):=wideSeen q s
theorem mkc9:(λ(_ _:type_of%c9)=>ZW) c9 c9=ZW:=by first|k_qdec|rfl
noncomputable def d9(q:YG):=wideGood q
theorem mkd9:(λ(_ _:type_of%d9)=>ZW) d9 d9=ZW:=by first|k_qdec|rfl
noncomputable def c10(q:YG)(loose:List ZU)(s:Z6):=clsSeenW q loose s
theorem mkc10:(λ(_ _:type_of%c10)=>ZW) c10 c10=ZW:=by first|k_qdec|rfl
noncomputable def d10(q:YG)(loose:List ZU):=clsGoodW q loose
theorem mkd10:(λ(_ _:type_of%d10)=>ZW) d10 d10=ZW:=by first|k_qdec|rfl
theorem afL(w:ZD)(os:YZ):PySem.W.Fast.tw14631430519169160753 (UM w.params)=(ZW,11,(Z7 (ZB 6):Option Z3)):=by kernel_rfl
theorem afB(w:ZD)(os:YZ):c0 (UM w.params)=(ZW,11,(Z7 (ZB 6):Option Z3)):=(congrFun PySem.W.Fast.te14631430519169160753 _).trans (afL w os)
theorem afM(w:ZD)(os:YZ):c1 rW pw (UM w.params) (aP w.params) (eN w os)=ZW:=by kernel_rfl
theorem afC(w:ZD)(os:YZ):c1 rW pw (UM w.params) (aP w.params) (eN w os)=ZW:=(congrFun (congrFun (congrFun (congrFun (congrFun (Wm c1) _) _) _) _) _).trans (afM w os)
theorem afO(w:ZD)(os:YZ):PySem.W.Fast.tw15298049041461200483 q (Cf w os)=d2 q:=by kernel_rfl
theorem afE(w:ZD)(os:YZ):c2 q (Cf w os)=Qu q:=((congrFun (congrFun PySem.W.Fast.te15298049041461200483 _) _).trans (afO w os)).trans ((congrFun (Wm d2) _)).symm
theorem afP(w:ZD)(os:YZ):c3 (aP w.params)=RV:=by kernel_rfl
theorem JN(w:ZD)(os:YZ):c3 (aP w.params)=RV:=(congrFun (Wm c3) _).trans (afP w os)
theorem afQ(w:ZD)(os:YZ):PySem.W.Fast.tw8902883440061526510 q loose rW (aP w.params) (eN w os)=ZW:=by kernel_rfl
theorem afF(w:ZD)(os:YZ):c4 q loose rW (aP w.params) (eN w os)=ZW:=(congrFun (congrFun (congrFun (congrFun (congrFun PySem.W.Fast.te8902883440061526510 _) _) _) _) _).trans (afQ w os)
theorem afR(w:ZD)(os:YZ):PySem.W.Fast.tw112623482992817249 q (eN w os)=ZW:=by kernel_rfl
theorem afG(w:ZD)(os:YZ):c5 q (eN w os)=ZW:=(congrFun (congrFun PySem.W.Fast.te112623482992817249 _) _).trans (afR w os)
theorem afS(w:ZD)(os:YZ):PySem.W.Fast.tw3388506972715701839 q (eN w os)=PySem.W.Fast.tw12019547244606164747 q:=by kernel_rfl
theorem afH(w:ZD)(os:YZ):c6 q (eN w os)=pinGoodD (PU q):=((congrFun (congrFun PySem.W.Fast.te3388506972715701839 _) _).trans (afS w os)).trans ((congrFun PySem.W.Fast.te12019547244606164747 _)).symm
theorem afT(w:ZD)(os:YZ):PySem.W.Fast.tw3964231150610930400 q loose (eN w os)=PySem.W.Fast.tw12046479029263515166 q loose:=by kernel_rfl
theorem afI(w:ZD)(os:YZ):c7 q loose (eN w os)=Qs q (Qt q loose):=((congrFun (congrFun (congrFun PySem.W.Fast.te3964231150610930400 _) _) _).trans (afT w os)).trans ((congrFun (congrFun PySem.W.Fast.te12046479029263515166 _) _)).symm
theorem afU(w:ZD)(os:YZ):PySem.W.Fast.tw6159370609340956628 q loose (eN w os)=d8 q loose:=by kernel_rfl
theorem afJ(w:ZD)(os:YZ):c8 q loose (eN w os)=Qr q loose:=((congrFun (congrFun (congrFun PySem.W.Fast.te6159370609340956628 _) _) _).trans (afU w os)).trans ((congrFun (congrFun (Wm d8) _) _)).symm
theorem afV(w:ZD)(os:YZ):PySem.W.Fast.tw12235788490245954311 q (eN w os)=d9 q:=by kernel_rfl
theorem afK(w:ZD)(os:YZ):c9 q (eN w os)=wideGood q:=((congrFun (congrFun PySem.W.Fast.te12235788490245954311 _) _).trans (afV w os)).trans ((congrFun (Wm d9) _)).symm
theorem afN(w:ZD)(os:YZ):PySem.W.Fast.tw15207989009047853142 q loose (eN w os)=d10 q loose:=by kernel_rfl
theorem afD(w:ZD)(os:YZ):c10 q loose (eN w os)=clsGoodW q loose:=((congrFun (congrFun (congrFun PySem.W.Fast.te15207989009047853142 _) _) _).trans (afN w os)).trans ((congrFun (congrFun (Wm d10) _) _)).symm
theorem acU:opening pw=plainProg pw.main.scope.names:=by kernel_rfl
theorem left:LeftO pw q loose Xt (λs=>s.heap) (λw=>aP w.params) 5000:=LeftO.of_pieces (H₀:=UM) (H₁:=aP) (gs₀:=Y9 []) (gs₁:=Y9 []) (d₀:=boot_drawn) (d₁:=drawn) (k₀:=boot_toks) (k₁:=694) (m₀:=11) (ann:=Z7 (.ref 6)) (M:=12+(1+(362+(1047+(696+(301+2)))))) (boot_open acU (by decide) (λC=>rfl)) (λw=>afB w default) adS (by decide) (λw=>funext λos=>by show((c1 rW pw (UM w.params) (aP w.params) (eN w os)),(c2 q (Cf w os),c3 (aP w.params),c4 q loose rW (aP w.params) (eN w os),c5 q (eN w os),c6 q (eN w os),c7 q loose (eN w os),c8 q loose (eN w os),c9 q (eN w os),c10 q loose (eN w os)),aP w.params)=(ZW,(Qu q,RV,ZW,ZW,pinGoodD (PU q),Qs q (Qt q loose),Qr q loose,wideGood q,clsGoodW q loose),aP w.params);rw[afC w os,afE w os,JN w os,afF w os,afG w os,afH w os,afI w os,afJ w os,afK w os,afD w os])
end
noncomputable def ws(l:OpenLaw):Bool:=l.wellSaid
theorem af3:(λ(_ _:type_of%ws)=>ZW) ws ws=ZW:=by k_qdec
theorem tws:PySem.W.Fast.tw1198176466709196596 YH=ZW:=by kernel_rfl
theorem aa3:YH.wellSaid=ZW:=(congrFun PySem.W.Fast.te1198176466709196596 _).trans tws
theorem hX:∀s,Xt s=ZW->XL q [] (s.heap.nsMap Xs) s.heap:=λs e=>xl_of s (SF.mp e).1
theorem head{d:DefRec}{kwd:List (ZU×Zt)}(qf:defOf q (Z9 "law")=Z7 (d,kwd))(Fl:pw.theDef (Z9 "law")=Z7 (d.params,d.body,d.scope))(zq:kwWritten? d.params.kwonlyargs d.params.kw_defaults=Z7 kwd)(walk:WalkO q loose (XL q []) (λw h=>∀a o,(aP w.params).get? a=Z7 o->h.get? a=Z7 o) YH.row.toRowW d kwd λf vs=>PySem.call f vs):YH.Holds:=by
 refine holds_law aa3 λadX=>?_;refine PySem.W.holds_open (r:=YH.row) (q:=q) (loose:=loose) (Xt:=Xt) (XP:=XL q []) (Yf:=λs=>s.heap) (Ya:=λw=>aP w.params) (YP:=λw h=>∀a o,(aP w.params).get? a=Z7 o->h.get? a=Z7 o) (N:=5000) left (λw s e a o h=>by rw[show s.heap=aP w.params from e];exact h) (λw h h' y k a o e=>k a o (y a o e)) hX XL.keeps qf Fl zq (λs e=>recFacts_of (SF.mp e).2) (by rfl) adX dk ⟨rfl,rfl,rfl,rfl,rfl,dk⟩ ?hw walk;case hw=>w_witness2
end Mine
open PySem PySem.W PyProof.Rows
namespace Mine.Internal
noncomputable section
noncomputable def Nj:Y4->XY
 |.FunctionDef _ _ _ _ _ _ _ _ _ p=>p|_=>zP
noncomputable def D1:DefRec:=⟨Z9 "law",gb bV,aV bV,aT bV,Nj bV⟩
abbrev Keeps(h h':YQ):Prop:=∀a o,h.get? a=Z7 o->h'.get? a=Z7 o
theorem aa0(P:Zr):(aP P).get? 3=Z7 (iV P):=by kernel_rfl
theorem aa2{h:YQ}{mg:ZU->Option Z3}{P:Zr}(Y:Keeps (aP P) h)(g:h.Ns Xs mg):mg (Z9 "law")=Z7 (.ref 302):=by refine oD g ?_;clear g;intro o es ep ho hd C hf;have e:=Y _ _ (aa0 P);have e':Z7 (iV P)=Z7 o:=e.symm.trans ho;cases e';rw[<-hf];have h8:(iV P).data=.dict es ep:=hd;unfold iV at h8;injection h8 with h1 h2;rw[<-h1];kernel_rfl
end
set_option genCtorIdx true in inductive AV where|none|bool(b:Bool)|int(i:Int)|str(x:ZU)|tup(l:List AV)|lst(l:List AV)|ref(a:Z1)|raw(v:Z3)|ext(P:(Z1->Option Zp)->Z3->Prop)deriving Inhabited
noncomputable def cv(D:List Z1)(h:YQ)(a:Z1):Option Zp:=if a∈D then ZT else h.get? a
def qX(P:(Z1->Option Zp)->Z3->Prop):Prop:=∀g g' v,(∀a o,g a=Z7 o->g' a=Z7 o)->P g v->P g' v
theorem s7{D D':List Z1}{h h':YQ}(hk:∀a o,a∉D->h.get? a=Z7 o->a∉D'/\h'.get? a=Z7 o):∀a o,cv D h a=Z7 o->cv D' h' a=Z7 o:=λa o e=>by
 unfold cv at e⊢;by_cases q:a∈D;·replace e:=(if_pos q)▸e;cases e
 ·replace e:=(if_neg q)▸e;exists if_neg (hk a o q e).1;exact(hk a o q e).2
mutual inductive aX(D:List Z1)(h:YQ):Z3->AV->Prop|none:aX D h .none .none|bool(b):aX D h (.bool b) (.bool b)|int(i t):aX D h (.int i t) (.int i)|str(x t):aX D h (.str x t) (.str x)|ref(a):aX D h (.ref a) (.ref a)|raw(v):aX D h v (.raw v)|ext{v P}:qX P->P (cv D h) v->aX D h v (.ext P)|tup{a vs n l}:a∉D->h.get? a=some ⟨.type "tuple",ZT,.seq vs n,#[]⟩->bb D h vs.toList l->aX D h (.ref a) (.tup l)|lst{a vs n l}:a∉D->h.get? a=some ⟨.type "list",ZT,.seq vs n,#[]⟩->bb D h vs.toList l->aX D h (.ref a) (.lst l)inductive bb(D:List Z1)(h:YQ):List Z3->List AV->Prop|nil:bb D h [] []|cons{v vs a as}:aX D h v a->bb D h vs as->bb D h (v::vs) (a::as)end
section
variable{D D':List Z1}{h h':YQ}(hk:∀a o,a∉D->h.get? a=Z7 o->a∉D'/\h'.get? a=Z7 o)
include hk
theorem aX.move{v av}(r:aX D h v av):aX D' h' v av:=aX.rec (motive_1:=λv av C=>aX D' h' v av) (motive_2:=λvs as C=>bb D' h' vs as) .none .bool .int .str .ref .raw (λm p=>.ext m (m _ _ _ (s7 hk) p)) (λhd hg C r=>.tup (hk _ _ hd hg).1 (hk _ _ hd hg).2 r) (λhd hg C r=>.lst (hk _ _ hd hg).1 (hk _ _ hd hg).2 r) .nil (λC C r rs=>.cons r rs) r
theorem bb.move{vs as}(r:bb D h vs as):bb D' h' vs as:=bb.rec (motive_1:=λv av C=>aX D' h' v av) (motive_2:=λvs as C=>bb D' h' vs as) .none .bool .int .str .ref .raw (λm p=>.ext m (m _ _ _ (s7 hk) p)) (λhd hg C r=>.tup (hk _ _ hd hg).1 (hk _ _ hd hg).2 r) (λhd hg C r=>.lst (hk _ _ hd hg).1 (hk _ _ hd hg).2 r) .nil (λC C r rs=>.cons r rs) r
end
inductive C6(i:Int):Z3->Prop|mk(t):C6 i (.int i t)
inductive C7(x:ZU):Z3->Prop|mk(t):C7 x (.str x t)
inductive xZ(nm:String)(D:List Z1)(h:YQ)(l:List AV):Z3->Prop|mk{a vs n}:a∉D->h.get? a=some ⟨.type nm,ZT,.seq vs n,#[]⟩->bb D h vs.toList l->xZ nm D h l (.ref a)
inductive C4(D:List Z1)(h:YQ)(a:AV)(as:List AV):List Z3->Prop|mk{v vs}:aX D h v a->bb D h vs as->C4 D h a as (v::vs)
inductive C5(P:(Z1->Option Zp)->Z3->Prop)(D:List Z1)(h:YQ)(v:Z3):Prop|mk:qX P->P (cv D h) v->C5 P D h v
inductive C0(D:List Z1)(h:YQ)(a:AV):List Z3->Prop|mk{v}:aX D h v a->C0 D h a [v]
inductive C1(D:List Z1)(h:YQ)(a b:AV):List Z3->Prop|mk{v w}:aX D h v a->aX D h w b->C1 D h a b [v,w]
inductive C2(D:List Z1)(h:YQ)(a b c:AV):List Z3->Prop|mk{v w x}:aX D h v a->aX D h w b->aX D h x c->C2 D h a b c [v,w,x]
inductive C3(D:List Z1)(h:YQ)(a b c d:AV):List Z3->Prop|mk{v w x y}:aX D h v a->aX D h w b->aX D h x c->aX D h y d->C3 D h a b c d [v,w,x,y]
section
variable{D:List Z1}{h:YQ}{v:Z3}{vs:List Z3}
theorem aX.iI{i}(r:aX D h v (.int i)):C6 i v:=by cases r;exact⟨_⟩
theorem aX.iS{x}(r:aX D h v (.str x)):C7 x v:=by cases r;exact⟨_⟩
theorem aX.iN(r:aX D h v .none):v=.none:=by cases r;rfl
theorem aX.iB{b}(r:aX D h v (.bool b)):v=.bool b:=by cases r;rfl
theorem aX.iR{a}(r:aX D h v (.ref a)):v=.ref a:=by cases r;rfl
theorem aX.iX{P}(r:aX D h v (.ext P)):C5 P D h v:=by cases r;exact⟨‹_›,‹_›⟩
theorem aX.iT{l}(r:aX D h v (.tup l)):xZ "tuple" D h l v:=by cases r;exact⟨‹_›,‹_›,‹_›⟩
theorem aX.iL{l}(r:aX D h v (.lst l)):xZ "list" D h l v:=by cases r;exact⟨‹_›,‹_›,‹_›⟩
theorem bb.iN(r:bb D h vs []):vs=[]:=by cases r;rfl
theorem bb.iC{a as}(r:bb D h vs (a::as)):C4 D h a as vs:=by cases r;exact⟨‹_›,‹_›⟩
theorem bb.i1{a}(r:bb D h vs [a]):C0 D h a vs:=by obtain⟨x,q⟩:=r.iC;cases q.iN;exact⟨x⟩
theorem bb.i2{a b}(r:bb D h vs [a,b]):C1 D h a b vs:=by obtain⟨x,q⟩:=r.iC;cases q.i1 with|mk y=>exact⟨x,y⟩
theorem bb.i3{a b c}(r:bb D h vs [a,b,c]):C2 D h a b c vs:=by obtain⟨x,q⟩:=r.iC;cases q.i2 with|mk y z=>exact⟨x,y,z⟩
theorem bb.i4{a b c d}(r:bb D h vs [a,b,c,d]):C3 D h a b c d vs:=by obtain⟨x,q⟩:=r.iC;cases q.i3 with|mk y z u=>exact⟨x,y,z,u⟩
end
theorem aX.keeps{D h h' v av}(r:aX D h v av)(k:Keeps h h'):aX D h' v av:=r.move λa o hd e=>⟨hd,k a o e⟩
theorem bb.keeps{D h h' vs as}(r:bb D h vs as)(k:Keeps h h'):bb D h' vs as:=r.move λa o hd e=>⟨hd,k a o e⟩
theorem aX.less{D D' h v av}(r:aX D h v av)(k:∀a,a∈D'->a∈D):aX D' h v av:=r.move λa o hd e=>⟨λq=>hd (k a q),e⟩
theorem bb.less{D D' h vs as}(r:bb D h vs as)(k:∀a,a∈D'->a∈D):bb D' h vs as:=r.move λa o hd e=>⟨λq=>hd (k a q),e⟩
theorem bb.length{D h}{vs as}(r:bb D h vs as):vs.length=as.length:=by induction as generalizing vs with|nil=>cases r.iN;rfl;|cons a as ih=>obtain⟨C,q⟩:=r.iC;exact congrArg (·+1) (ih q)
theorem bb.get{D h}{vs as}(r:bb D h vs as){i:Nat}{a}(e:as[i]?=Z7 a):∃v,vs[i]?=Z7 v/\aX D h v a:=by induction as generalizing vs i with|nil=>cases e;|cons b as ih=>obtain⟨x,q⟩:=r.iC;cases i with|zero=>cases e;exact aj _ rfl x;|succ i=>exact ih q e
theorem bb.append{D h}{vs as ws bs}(r:bb D h vs as)(q:bb D h ws bs):bb D h (vs++ws) (as++bs):=by induction as generalizing vs with|nil=>exists r.iN;exact q;|cons a as ih=>obtain⟨x,y⟩:=r.iC;exact .cons x (ih y)
structure fX(s s':Z6):Prop where
 keep:Keeps s.heap s'.heap
 size:s.heap.objs.size<=s'.heap.objs.size
 gens:s'.gens=s.gens
 os:s'.os=s.os
theorem fX.refl(s:Z6):fX s s:=⟨λC C e=>e,ZO _,rfl,rfl⟩
theorem fX.tok(s:Z6)(t:Nat):fX s {s with toks:=t}:=⟨λC C e=>e,ZO _,rfl,rfl⟩
theorem fX.push(s:Z6)(o:Zp)(t:Nat):fX s {s with heap:=s.heap.push o,toks:=t}:=⟨λC C e=>ZX _ e,by show _<=(s.heap.push o).objs.size;rw[Qq];exact SO _,rfl,rfl⟩
abbrev Loc:=List (ZU×AV)
noncomputable def gT(ρ:Loc)(x:ZU)(a:AV):Loc:=(x,a)::ρ.filter (λp=>!(p.1==x))
theorem abm{ρ:Loc}{x y:ZU}(h:(y==x)=ZS):(ρ.filter λp=>!(p.1==x)).lookup y=ρ.lookup y:=by induction ρ with|nil=>rfl;|cons p r ih=>
  obtain⟨z,a⟩:=p;by_cases hz:(z==x)=ZW
  ·have:(y==z)=ZS:=by have e:=eq_of_beq hz;exists e;exact h
   simp[Yb,hz,ZM,this,ih]
  ·simp only[XX]at hz;simp only[Yb,hz,SE,if_true,ZM,ih]
theorem qw{ρ:Loc}{x y:ZU}{a:AV}:(gT ρ x a).lookup y=if y=x then Z7 a else ρ.lookup y:=by
 unfold gT;by_cases e:y=x;·exists e;simp[ZM]
 ·have:(y==x)=ZS:=by simpa using e
  exists ZM;exists this;exists if_neg e;exact abm this
theorem fY(h:YQ):h.get? h.objs.size=ZT:=by cases e:h.get? h.objs.size with|none=>rfl;|some o=>exact absurd (Zc e) (YT _)
noncomputable def dH:Zt->Bool
 |.Starred ..=>ZW|_=>ZS
theorem lq{env:Rw}{pos:XY}:∀{es:List Zt},es.any dH=ZS->(Xb pos (Yt es env)).any (·.1)=ZS:=by intro N';induction N' with|nil=>exactλ_=>rfl;|cons e r ih=>intro h;rw[YF,YM]at h;have:=ih h.2;cases e<;>first|exact this|(cases(show ZW=ZS from h.1))
theorem kC{env:Rw}{e:Zt}{es:List Zt}(h:(e::es).any dH=ZS):Yt (e::es) env=(ZS,eval e env)::Yt es env:=by rw[YF,YM]at h;cases e<;>first|rfl|(cases(show ZW=ZS from h.1))
def aJ(D:List Z1)(h:YQ)(D':List Z1)(h':YQ):Prop:=∀a o,a∉D->h.get? a=Z7 o->a∉D'/\h'.get? a=Z7 o
theorem aJ.refl(D:List Z1)(h:YQ):aJ D h D h:=λC C hd e=>⟨hd,e⟩
theorem aJ.trans{D D' CT:List Z1}{h h' jF:YQ}(x:aJ D h D' h')(y:aJ D' h' CT jF):aJ D h CT jF:=λa o hd e=>let⟨p,q⟩:=x a o hd e;y a o p q
theorem aJ.of{D:List Z1}{h h':YQ}(k:Keeps h h'):aJ D h D h':=λa o hd e=>⟨hd,k a o e⟩
theorem fX.nZ{D:List Z1}{s s':Z6}(g:fX s s'):aJ D s.heap D s'.heap:=.of g.keep
theorem abo{α:Type}{l:List (ZU×α)}(hn:(l.map (·.1)).Nodup)(x:ZU):l.reverse.lookup x=l.lookup x:=by induction l with|nil=>rfl;|cons p l ih=>
  rw[Z2,ZG]at hn;exists Xn;exists List.lookup_append;exists ih hn.2;show(l.lookup x).or (match x==p.1 with|true=>Z7 p.2|false=>ZT)=match x==p.1 with|true=>Z7 p.2|false=>l.lookup x;cases e:x==p.1;·exact Option.or_none
  ·exists(Xm.mpr λq hq=>by refine bG (eq_of_beq e) ?_;exact bne_iff_ne.mpr λz=>hn.1 (ZY.mpr (aj q hq z.symm)));rfl
theorem CQ{D:List Z1}{h:YQ}{ns:List ZU}{vs:List Z3}{l:List AV}(r:bb D h vs l){x:ZU}{av:AV}(e:(ns.zip l).lookup x=Z7 av):∃v,(ns.zip vs).lookup x=Z7 v/\aX D h v av:=by induction ns generalizing vs l with|nil=>cases e;|cons n ns ih=>cases l with|nil=>cases e;|cons a l=>
   obtain⟨y,q⟩:=r.iC;rw[UH,ZM]at e⊢;cases z:x==n<;>replace e:=z▸e;·exact ih q e
   ·cases e;exact aj _ rfl y
theorem CO{ns:List ZU}{l:List AV}{x:ZU}{av:AV}(e:(ns.zip l).lookup x=Z7 av):x∈ns:=by have:=Tq (l:=ns.zip l) (k:=x);induction ns generalizing l with|nil=>simp at e;|cons n ns ih=>cases l with|nil=>simp at e;|cons a l=>
   rw[UH,ZM]at e;by_cases q:(x==n)=ZW;·exact(eq_of_beq q)▸.head _
   ·simp only[XX]at q;replace e:=q▸e;exact .tail _ (ih e (Tq))
theorem CP{α:Type}{ns:List ZU}:∀{vs:List α},ns.Nodup->((ns.zip vs).map (·.1)).Nodup:=by induction ns with|nil=>exactλ_=>.nil;|cons n ns ih=>intro vs h;cases vs with|nil=>exact .nil;|cons v vs=>rw[ZG]at h;rw[UH,Z2,ZG];refine⟨λq=>?_,ih h.2⟩;refine aR (ZY.mp q) λp hp e=>?_;have e':p.1=n:=e;exact h.1 (e'▸(U7 (a:=p.1) (b:=p.2) hp).1)
theorem qD{P:Zr}{h:YQ}(Y:Keeps (aP P) h):h.NoLimit:=by have:(aP P).NoLimit:=aj (λC=>ZT) (jM _ _ _ (by kernel_rfl:(aP P).get? Qp=Z7 (Vh P)) rfl (λe he=>(by cases he;contradiction)) (λC=>rfl)) rfl;refine aR this ?_;clear this;intro mc a b;exact aj mc (a.keeps Y) b
noncomputable section
noncomputable def eZ(o:Zp):Array Sh:=match o.data with
 |.dict es _=>es|_=>#[]
theorem KZ(P:Zr):(aP P).get? 3=Z7 (iV P):=by kernel_rfl
theorem Kv(P:Zr):(aP P).get? 0=Z7 (WN P):=by kernel_rfl
noncomputable def aex(es:List Sh):Bool:=es.all λe=>match e.key with|.str ..=>ZW|_=>ZS
theorem Ak{o:Zp}(q:aex (eZ o).toList=ZW):Qz (eZ o):=by intro e he;have:=W9.mp q e (SD.mpr he);revert this;cases e.key<;>simp
theorem aaB(P:Zr):Qz (eZ (iV P)):=Ak (by kernel_rfl)
theorem wJ{P:Zr}{h:YQ}(Y:Keeps (aP P) h):h.Ns Xs (WD (eZ (iV P))):=jM (iV P) (eZ (iV P)) _ (Y _ _ (KZ P)) rfl (aaB P) (λC=>rfl)
theorem aaz(P:Zr):Qz (eZ (WN P)):=Ak (by kernel_rfl)
theorem Hr{P:Zr}{h:YQ}(Y:Keeps (aP P) h):h.Ns Vq (WD (eZ (WN P))):=jM (WN P) (eZ (WN P)) _ (Y _ _ (Kv P)) rfl (aaz P) (λC=>rfl)
theorem abk{w:ZD}{A:Zw}{E:Z3->Z6->Prop}{s:Z6}{env:Rw}{f:ZU}{fv:Z3}{pos:XY}{Q:Z3->Z6->Prop}(K:Keeps (aP w.params) s.heap)(hg:env.globals=Xs)(OU:env.builtins=Vq)(hk:env.scope.kind=.function)(hx:env.kindOf f=Z7 .globalImplicit)(hd:(f==("__debug__":ZU))=ZS)(h3:∀P,WD (eZ (iV P)) f=ZT)(h0:∀P,WD (eZ (WN P)) f=Z7 fv)(h:Q fv s):ZK (model pw w) A (eval (.Name f pos) env) Q E s:=W5 hk hx (Ud (by exists hg;exact wJ K) (h3 _) (by exists OU;exact Hr K) (h0 _) h) hd
theorem abl{w:ZD}{A:Zw}{E:Z3->Z6->Prop}{s:Z6}{env:Rw}{f:ZU}{fv:Z3}{pos:XY}{Q:Z3->Z6->Prop}(K:Keeps (aP w.params) s.heap)(hg:env.globals=Xs)(hk:env.scope.kind=.function)(hx:env.kindOf f=Z7 .globalImplicit)(hd:(f==("__debug__":ZU))=ZS)(h3:∀P,WD (eZ (iV P)) f=Z7 fv)(h:Q fv s):ZK (model pw w) A (eval (.Name f pos) env) Q E s:=W5 hk hx (TR (by exists hg;exact wJ K) (h3 _) h) hd
theorem sv{n:Int}(h0:0<=n)(h1:n<10^7):n.natAbs.log2<1920:=by
 have:n.natAbs<2^24:=(jN 0x3 0x6c4e0bf818560684a0a789c30744eb07627582fc860180601845e1) h0 h1 (@WW (n));by_cases z:n.natAbs=0;·exists z;decide
 ·have:=(Nat.log2_lt z).mpr this;exact(aD 0x2 0xce5e1c861d809e1) this
theorem pI{n:Int}(h0:0<=n)(h1:n<10^7):(Z9 (toString n)).length<=10:=by rw[PySem.ofString_length];have:=int_text_length_le10 (a:=n) (k:=7) (by decide) ((jN 0x3 0x6c4e0bf818560684a0a789c30744eb07627582fc861581a12829e1) h0 h1 (@WW (n)));exact(aD 0x2 0x62227a1e1c2de1) this
end
inductive aQ where|list(l:List AV)|other(o:Zp)|ext(P:(Z1->Option Zp)->Zp->Prop)
abbrev af:=List (Z1×aQ)
def kG(D:List Z1)(h:YQ)(o:Zp):aQ->Prop
 |.list l=>∃vs n,o=⟨.type "list",ZT,.seq vs n,#[]⟩/\bb D h vs.toList l|.other o'=>o=o'|.ext P=>(∀g g' o,(∀a o,g a=Z7 o->g' a=Z7 o)->P g o->P g' o)/\P (cv D h) o
theorem kG.move{D D':List Z1}{h h':YQ}(hk:aJ D h D' h'){o:Zp}{ao:aQ}(x:kG D h o ao):kG D' h' o ao:=by cases ao with|list l=>refine iu x ?_;clear x;intro vs n e r;exact dT vs n e (r.move hk);|other o'=>exact x;|ext P=>exact⟨x.1,x.1 _ _ _ (s7 hk) x.2⟩
structure Fx where
 w:ZD
 A:Zw
 env:Rw
 h₀:YQ
 D₀:List Z1
 bY:List Z1
 held:List (Z1×Zp)G:Array Zx->Prop
 os:YZ
 fn:env.scope.kind=.function
 glob:env.globals=Xs
 bn:env.builtins=Vq
 hh:A.handled=none
 above:h₀.get? env.locals=none\/env.locals∈bY
 mq:Keeps (aP w.params) h₀
 mH:∀a∈bY,(aP w.params).get? a=none
 h9:∀a∈bY,a∉D₀
 apart:env.cells.Pairwise λx y=>x.2≠y.2
 ni:∀n c,(n,c)∈env.cells->c≠env.locals
 kK:∀n c c',(n,c)∈env.cells->(n,c')∈env.cells->c'=c
 old:∀d∈D₀,∃o,h₀.get? d=some o
 hnl:∀q∈held,q.1≠env.locals
 hnc:∀q∈held,∀n c,(n,c)∈env.cells->q.1≠c
 hab:∀q∈held,h₀.get? q.1=none\/q.1∈bY
theorem Fx.inter(X:Fx):interactive X.env=ZS:=by unfold interactive;exists X.fn;rfl
def Fx.wr(X:Fx):Prop:=∀n c,(n,c)∈X.env.cells->X.h₀.get? c=ZT\/c∈X.bY
noncomputable def ak(X:Fx)(O:af):List Z1:=O.map (·.1)++(X.held.map (·.1)++X.env.locals::(X.env.cells.map (·.2)++X.D₀))
def fF(X:Fx)(m cm:ZU->Option Z3)(x:ZU)(v:Z3):Prop:=(X.env.kindOf x=Z7 .local/\m x=Z7 v)\/(X.env.kindOf x=Z7 .cell/\cm x=Z7 v/\∃c,X.env.cells.lookup x=Z7 c)
inductive Df(X:Fx)(ρ:Loc)(D:List Z1)(h:YQ):Prop|mk(m cm:ZU->Option Z3)(hn:h.Ns X.env.locals m)(hc:∀n c,(n,c)∈X.env.cells->h.IsCell c (cm n))(hv:∀x av,ρ.lookup x=some av->∃v,fF X m cm x v/\aX D h v av)
inductive mY(X:Fx)(D:List Z1)(h:YQ)(p:Z1×aQ):Prop|mk(a1:X.h₀.get? p.1=none\/p.1∈X.bY)(a2:p.1≠X.env.locals)(a3:(∀n c,(n,c)∈X.env.cells->p.1≠c)/\∀q∈X.held,p.1≠q.1)(a4:(aP X.w.params).get? p.1=none)(o:Zp)(h1:h.get? p.1=some o)(h2:kG D h o p.2)
theorem iK{X ρ D h}{G:Prop}(z:Df X ρ D h)(f:∀m cm,h.Ns X.env.locals m->(∀n c,(n,c)∈X.env.cells->h.IsCell c (cm n))->(∀x av,ρ.lookup x=Z7 av->∃v,fF X m cm x v/\aX D h v av)->G):G:=by cases z with|mk a b c d e=>exact f a b c d e
theorem fB{X D h p}{G:Prop}(z:mY X D h p)(f:(X.h₀.get? p.1=ZT\/p.1∈X.bY)->p.1≠X.env.locals->((∀n c,(n,c)∈X.env.cells->p.1≠c)/\∀q∈X.held,p.1≠q.1)->(aP X.w.params).get? p.1=ZT->∀o:Zp,h.get? p.1=Z7 o->kG D h o p.2->G):G:=by cases z with|mk a b c d e i j=>exact f a b c d e i j
theorem mY.a1{X D h p}:mY X D h p->X.h₀.get? p.1=ZT\/p.1∈X.bY|.mk a _ _ _ _ _ _=>a
theorem mY.a3{X D h p}:mY X D h p->(∀n c,(n,c)∈X.env.cells->p.1≠c)/\∀q∈X.held,p.1≠q.1|.mk _ _ a _ _ _ _=>a
theorem mY.a4{X D h p}:mY X D h p->(aP X.w.params).get? p.1=ZT|.mk _ _ _ a _ _ _=>a
structure Fr(X:Fx)(ρ:Loc)(O:af)(s:Z6):Prop where
 keep:∀a o,a∉X.bY->X.h₀.get? a=some o->s.heap.get? a=some o
 gens:X.G s.gens
 os:s.os=X.os
 vars:Df X ρ (ak X O) s.heap
 held:∀q∈X.held,s.heap.get? q.1=some q.2
 own:∀p∈O,mY X (ak X O) s.heap p
 nd:(O.map (·.1)).Nodup
section
variable{X:Fx}{ρ:Loc}{O O':af}{s s':Z6}{E:Z3->Z6->Prop}
theorem Fr.base(F:Fr X ρ O s):Keeps (aP X.w.params) s.heap:=λa o e=>F.keep a o (λq=>by replace e:=(X.mH a q)▸e;cases e) (X.mq a o e)
theorem Fr.new(F:Fr X ρ O s){a:Z1}(h:s.heap.get? a=ZT):X.h₀.get? a=ZT\/a∈X.bY:=by cases e:X.h₀.get? a with|none=>exact .inl rfl;|some o=>
  by_cases z:a∈X.bY;·exact .inr z
  ·have:=F.keep a o z e;replace this:=h▸this;cases this
theorem bg{a:Z1}:a∈ak X O↔a∈O.map (·.1)\/a=X.env.locals\/(∃n,(n,a)∈X.env.cells)\/a∈X.D₀\/(∃o,(a,o)∈X.held):=by
 unfold ak;rw[ZE,ZE,ZZ,ZE];constructor
 ·rintro(h|h|h|h|h);·exact .inl h
  ·refine dn h λp hp=>?_;exact .inr (.inr (.inr (.inr ⟨p.2,hp⟩)))
  ·exact .inr (.inl h)
  ·refine dn h λp hp=>?_;exact .inr (.inr (.inl ⟨p.1,hp⟩))
  ·exact .inr (.inr (.inr (.inl h)))
 ·rintro(h|h|⟨n,h⟩|h|⟨o,h⟩);·exact .inl h
  ·exact .inr (.inr (.inl h))
  ·exact .inr (.inr (.inr (.inl (ZY.mpr (aj _ h rfl)))))
  ·exact .inr (.inr (.inr (.inr h)))
  ·exact .inr (.inl (ZY.mpr (aj _ h rfl)))
theorem jB{a:Z1}{Q:Prop}(q:a∈ak X O)(h1:a∈O.map (·.1)->Q)(h2:a=X.env.locals->Q)(h3:∀n,(n,a)∈X.env.cells->Q)(h4:a∈X.D₀->Q)(h5:∀o,(a,o)∈X.held->Q):Q:=by
 refine ZR (bg.mp q) (λq=>?_) (λz'=>ZR z' (λq=>?_) (λz'=>ZR z' (λbH=>br bH λn q=>?_) (λz'=>ZR z' (λq=>?_) (λbS=>br bS λo q=>?_))));·exact h1 q
 ·exact h2 q
 ·exact h3 n q
 ·exact h4 q
 ·exact h5 o q
theorem Fr.ex(F:Fr X ρ O s):∀d∈ak X O,∃o,s.heap.get? d=Z7 o:=by
 intro d hd;refine jB hd (λh=>?_) (λh=>?_) (λn h=>?_) (λh=>?_) λo h=>?_;·refine dn h λp hp=>?_;refine fB (F.own p hp) λC C C C o ho C=>?_;exact⟨o,ho⟩
 ·obtain⟨m,cm,⟨o,C,C,ho,C⟩,C⟩:=F.vars;exists h;exact⟨o,ho⟩
 ·refine iK F.vars λm cm C hc C=>?_;refine aR (hc n d h) λo ho C=>?_;exact⟨o,ho⟩
 ·refine br (X.old d h) λo ho=>?_;exact⟨o,F.keep d o (λq=>X.h9 d q h) ho⟩
 ·exact⟨o,F.held _ h⟩
theorem Fr.lt(F:Fr X ρ O s):∀d∈ak X O,d<s.heap.objs.size:=by
 intro d hd;refine jB hd (λh=>?_) (λh=>?_) (λn h=>?_) (λh=>?_) λo h=>?_;·refine dn h λp hp=>?_;refine fB (F.own p hp) λC C C C o ho C=>?_;exact Zc ho
 ·obtain⟨m,cm,hn,C⟩:=F.vars;exists h;exact hn.lt
 ·refine iK F.vars λm cm C hc C=>?_;exact(hc n d h).lt
 ·refine br (X.old d h) λo ho=>?_;exact Zc (F.keep d o (λq=>X.h9 d q h) ho)
 ·exact Zc (F.held _ h)
inductive LstAt(D:List Z1)(h:YQ)(a:Z1)(l:List AV):Prop|mk(vs:Array Z3)(n:Nat)(g:h.get? a=some ⟨.type "list",none,.seq vs n,#[]⟩)(r:bb D h vs.toList l)
theorem kP{D h a l}{G:Prop}(z:LstAt D h a l)(f:∀(vs:Array Z3)(n:Nat),h.get? a=Z7 ⟨.type "list",ZT,.seq vs n,#[]⟩->bb D h vs.toList l->G):G:=by cases z with|mk a b c d=>exact f a b c d
theorem Fr.fL(F:Fr X ρ O s){a:Z1}{l:List AV}(hm:(a,aQ.list l)∈O):LstAt (ak X O) s.heap a l:=by obtain⟨C,C,C,C,o,ho,vs,n,rfl,rl⟩:=F.own _ hm;exact⟨vs,n,ho,rl⟩
theorem Fr.ib(F:Fr X ρ O s){a:Z1}{io:Zp}(hm:(a,aQ.other io)∈O):s.heap.get? a=Z7 io:=by refine fB (F.own _ hm) λC C C C o ho e=>?_;exact(show o=io from e)▸ho
theorem Fr.oK(F:Fr X ρ O s){a:Z1}{P:(Z1->Option Zp)->Zp->Prop}(hm:(a,aQ.ext P)∈O):∃o,s.heap.get? a=Z7 o/\P (cv (ak X O) s.heap) o:=by obtain⟨C,C,C,C,o,ho,C,e⟩:=F.own _ hm;exact aj o ho e
theorem Fr.move(F:Fr X ρ O s)(st:aJ (ak X O) s.heap (ak X O') s'.heap)(hk:∀a o,a∉X.bY->X.h₀.get? a=Z7 o->s.heap.get? a=Z7 o->s'.heap.get? a=Z7 o)(hg:X.G s'.gens)(ho:s'.os=s.os)(hL:∀o,s.heap.get? X.env.locals=Z7 o->s'.heap.get? X.env.locals=Z7 o)(hC:∀n c,(n,c)∈X.env.cells->∀o,s.heap.get? c=Z7 o->s'.heap.get? c=Z7 o)(hH:∀q∈X.held,s.heap.get? q.1=Z7 q.2->s'.heap.get? q.1=Z7 q.2)(own:∀p∈O',mY X (ak X O') s'.heap p)(nd:(O'.map (·.1)).Nodup):Fr X ρ O' s':=by
 refine iK F.vars λm cm hn hc hv=>?_;refine⟨λa o ha e=>hk a o ha e (F.keep a o ha e),hg,ho.trans F.os,⟨m,cm,?_,λn c h=>?_,λx av e=>?_⟩,λq hq=>hH q hq (F.held q hq),own,nd⟩;·refine rn hn ?_;clear hn;intro o es ep h1 h2;exact pf o es ep (hL o h1) h2
 ·refine aR (hc n c h) λo h1 h2=>?_;exact aj o (hC n c h o h1) h2
 ·refine aR (hv x av e) λv h1 r=>?_;exact aj v h1 (r.move st)
theorem Fr.grow(F:Fr X ρ O s)(g:fX s s'):Fr X ρ O s':=F.move (aJ.of g.keep) (λa o C C e=>g.keep a o e) (by exists g.gens;exact F.gens) g.os (λo e=>g.keep _ o e) (λC c C o e=>g.keep c o e) (λq C e=>g.keep _ _ e) (λp hp=>let⟨a1,a2,a3,a4,o,h1,h2⟩:=F.own p hp;⟨a1,a2,a3,a4,o,g.keep _ _ h1,h2.move (aJ.of g.keep)⟩) F.nd
theorem Fr.fresh(F:Fr X ρ O s):s.heap.objs.size∉ak X O:=λh=>YT _ (F.lt _ h)
theorem mW{D:List Z1}{h:YQ}{a:Z1}(hn:h.get? a=ZT):aJ D h (a::D) h:=λb o hb e=>⟨λq=>by
 rcases ZZ.mp q with rfl|q;·replace e:=hn▸e;cases e
 ·exact hb q,e⟩
theorem Fr.alloc(F:Fr X ρ O s){o:Zp}{ao:aQ}{tk:Nat}(hf:o.isFreed=ZS)(x:kG (ak X O) s.heap o ao):Fr X ρ ((s.heap.objs.size,ao)::O) {s with heap:=s.heap.push o,toks:=tk}:=by
 have st:aJ (ak X O) s.heap (ak X ((s.heap.objs.size,ao)::O)) (s.heap.push o):=(mW (fY s.heap)).trans (aJ.of λC C e=>ZX _ e);have kp:∀a o',s.heap.get? a=Z7 o'->(s.heap.push o).get? a=Z7 o':=λC C e=>ZX _ e;refine F.move st (λa o' C C e=>kp a o' e) F.gens rfl (λo' e=>kp _ o' e) (λC c C o' e=>kp c o' e) (λq C e=>kp _ _ e) (λp hp=>?_) ?_
 ·rcases ZZ.mp hp with rfl|hp;·have nf:=F.fresh;refine⟨F.new (fY _),λq=>nf (bg.mpr (.inr (.inl q))),⟨λn c h q=>nf (bg.mpr (.inr (.inr (.inl ⟨n,by exists(show s.heap.objs.size=c from q);exact h⟩)))),λq hq e=>YT _ (show s.heap.objs.size<s.heap.objs.size from(show s.heap.objs.size=q.1 from e).symm▸Zc (F.held q hq))⟩,?_,o,Zy _ hf,x.move st⟩;cases e:(aP X.w.params).get? s.heap.objs.size with|none=>rfl;|some o'=>exact absurd (Zc (F.base _ _ e)) (YT _)
  ·refine fB (F.own p hp) λa1 a2 a3 a4 o' h1 h2=>?_;exact⟨a1,a2,a3,a4,o',kp _ _ h1,h2.move st⟩
 ·rw[Z2,ZG];exact⟨λq=>F.fresh (bg.mpr (.inl q)),F.nd⟩
noncomputable def bp(O:af)(a:Z1)(ao:aQ):af:=O.map λp=>if p.1=a then(p.1,ao)else p
theorem IE(O:af)(a:Z1)(ao:aQ):(bp O a ao).map (·.1)=O.map (·.1):=by exists XW;congr 1;funext p;simp only[RU];split<;>rfl
theorem Ee(a:Z1)(ao:aQ):ak X (bp O a ao)=ak X O:=by unfold ak;exact bG (IE ..) rfl
theorem Fr.upd(F:Fr X ρ O s){a:Z1}{sX ao:aQ}{o:Zp}{h':YQ}{tk:Nat}(hm:(a,sX)∈O)(hs:∀b o,b≠a->s.heap.get? b=Z7 o->h'.get? b=Z7 o)(ho:h'.get? a=Z7 o)(x:kG (ak X O) s.heap o ao):Fr X ρ (bp O a ao) {s with heap:=h',toks:=tk}:=by
 have ha:a∈ak X O:=bg.mpr (.inl (ZY.mpr (aj _ hm rfl)));have st:aJ (ak X O) s.heap (ak X (bp O a ao)) h':=λb o' hb e=>⟨by exists Ee ..;exact hb,hs b _ (λq=>hb (q▸ha)) e⟩;obtain⟨b1,b2,b3,b4,C⟩:=F.own _ hm;obtain⟨m,cm,hn,C⟩:=F.vars;refine F.move st (λb o' hl hb e=>hs b _ (λq=>?_) e) F.gens rfl (λo' e=>hs _ _ (Xl b2) e) (λn c hc o' e=>hs c _ (Xl (b3.1 n c hc)) e) (λq hq e=>hs _ _ (Xl (b3.2 q hq)) e) (λp hp=>?_) (by exists IE ..;exact F.nd)
 ·subst q;refine ZR b1 (λb1=>?_) (λb1=>?_);·replace hb:=b1▸hb;cases hb
  ·exact hl b1
 ·refine dn hp λIG SL=>?_;refine fB (F.own IG SL) λa1 a2 a3 a4 o' cN z=>?_;by_cases e:IG.1=a;·exists if_pos e;exact⟨a1,a2,a3,a4,o,e▸ho,x.move st⟩
  ·exists if_neg e;exact⟨a1,a2,a3,a4,o',hs _ _ e cN,z.move st⟩
theorem Fr.iF(F:Fr X ρ O s){a:Z1}{sX ao:aQ}{h':YQ}(hm:(a,sX)∈O)(hs:∀b o,b≠a->s.heap.get? b=Z7 o->h'.get? b=Z7 o):aJ (ak X O) s.heap (ak X (bp O a ao)) h':=λb o' hb e=>⟨by exists Ee ..;exact hb,hs b _ (λq=>hb (q▸bg.mpr (.inl (ZY.mpr (aj _ hm rfl))))) e⟩
theorem Fr.update(F:Fr X ρ O s){a:Z1}{sX ao:aQ}{o:Zp}{h':YQ}{tk:Nat}(hm:(a,sX)∈O)(hs:YL a s.heap h')(ho:h'.get? a=Z7 o)(x:kG (ak X O) s.heap o ao):Fr X ρ (bp O a ao) {s with heap:=h',toks:=tk}:=F.upd hm (λb o hb e=>(hs.2 b hb).trans e) ho x
theorem Fr.drop(F:Fr X ρ O s)(hO:O'.Sublist O):Fr X ρ O' s:=by have st:aJ (ak X O) s.heap (ak X O') s.heap:=λa o ha e=>⟨λq=>ha (bg.mpr ((bg.mp q).imp (λh=>(hO.map (·.1)).subset h) id)),e⟩;exact F.move st (λa o C C e=>e) F.gens rfl (λo e=>e) (λC c C o e=>e) (λq C e=>e) (λp hp=>let⟨a1,a2,a3,a4,o,h1,h2⟩:=F.own p (hO.subset hp);⟨a1,a2,a3,a4,o,h1,h2.move st⟩) (F.nd.sublist (hO.map _))
theorem Fr.j3(F:Fr X ρ O s)(hO:O'.Sublist O):aJ (ak X O) s.heap (ak X O') s.heap:=λa o ha e=>⟨λq=>ha (bg.mpr ((bg.mp q).imp (λh=>(hO.map (·.1)).subset h) id)),e⟩
theorem Fr.bind{x:ZU}{v:Z3}{av:AV}{Q:Unit->Z6->Prop}(F:Fr X ρ O s)(hx:X.env.kindOf x=Z7 .local\/(X.env.kindOf x=Z7 .cell/\X.wr/\∃c,X.env.cells.lookup x=Z7 c))(r:aX (ak X O) s.heap v av)(h:∀h' tk,Fr X (gT ρ x av) O {s with heap:=h',toks:=tk}->aJ (ak X O) s.heap (ak X O) h'->Q () {s with heap:=h',toks:=tk}):ZK (model pw X.w) X.A (storeName X.env x v) Q E s:=by
 refine iK F.vars λm cm hn hc hv=>?_;refine ZR hx (λhx=>?_) (λbJ=>rm bJ λhx hw c j9=>?_)
 ·refine wpAny_storeName_local hx hn (λh' nE hs=>?_) (by exists X.fn;rfl);have st:aJ (ak X O) s.heap (ak X O) h':=λb o hb e=>⟨hb,(hs.2 b λq=>hb (bg.mpr (.inr (.inl q)))).trans e⟩;refine h h' _ ⟨λa o ha e=>(hs.2 a λq=>?_).trans (F.keep a o ha e),F.gens,F.os,⟨_,cm,nE,λn c gO=>(hc n c gO).sameBut hs (X.ni n c gO),λy a e=>?_⟩,λp hp=>?_,λp hp=>?_,F.nd⟩ st
  ·subst q;refine ZR X.above (λz=>?_) (λz=>?_);·replace e:=z▸e;cases e
   ·exact ha z
  ·replace e:=qw▸e;by_cases q:y=x;·replace e:=(if_pos q)▸e;cases e;exact aj v (.inl ⟨q▸hx,if_pos q⟩) (r.move st)
   ·replace e:=(if_neg q)▸e;refine aR (hv y a e) λv' e1 r'=>?_;refine aj v' ?_ (r'.move st);refine ZR e1 (λb7=>aO b7 λk1 k2=>?_) (λk=>?_);·exact .inl ⟨k1,(if_neg q).trans k2⟩
    ·exact .inr k
  ·exact(hs.2 _ (X.hnl p hp)).trans (F.held p hp)
  ·refine fB (F.own p hp) λa1 a2 a3 a4 o' cN z=>?_;exact⟨a1,a2,a3,a4,o',(hs.2 _ a2).trans cN,z.move st⟩
 ·have iP:=mem_of_lookup j9;refine wpAny_storeName_cell X.fn hx j9 (hc x c iP) λh' hv' hs=>?_;have st:aJ (ak X O) s.heap (ak X O) h':=λb o hb e=>⟨hb,(hs.2 b λq=>hb (bg.mpr (.inr (.inr (.inl ⟨x,q▸iP⟩))))).trans e⟩;refine h h' s.toks ⟨λa o ha e=>(hs.2 a λq=>?_).trans (F.keep a o ha e),F.gens,F.os,⟨m,λy=>if y=x then Z7 v else cm y,hn.sameBut hs (Xl (X.ni x c iP)),λn c' gO=>?_,λy a e=>?_⟩,λp hp=>?_,λp hp=>?_,F.nd⟩ st
  ·subst q;refine ZR (hw x a iP) (λz=>?_) (λz=>?_);·replace e:=z▸e;cases e
   ·exact ha z
  ·by_cases q:n=x;·subst q;have:c'=c:=X.kK n c c' iP gO;subst this;show h'.IsCell _ (if n=n then Z7 v else cm n);exists if_pos rfl;exact hv'
   ·exists if_neg q;refine(hc n c' gO).sameBut hs λe=>q ?_;subst e;exact name_of_addr X.apart gO iP
  ·replace e:=qw▸e;by_cases q:y=x;·replace e:=(if_pos q)▸e;cases e;exact aj v (.inr (t8 (q▸hx) (if_pos q) c (q▸j9))) (r.move st)
   ·replace e:=(if_neg q)▸e;refine aR (hv y a e) λv' e1 r'=>?_;refine aj v' ?_ (r'.move st);refine ZR e1 (λk=>?_) (λcy=>f8 cy λk1 k2 k3=>?_);·exact .inl k
    ·exact .inr (bM k1 ((if_neg q).trans k2) k3)
  ·exact(hs.2 _ (X.hnc p hp x c iP)).trans (F.held p hp)
  ·refine fB (F.own p hp) λa1 a2 a3 a4 o' cN z=>?_;exact⟨a1,a2,a3,a4,o',(hs.2 _ (a3.1 x c iP)).trans cN,z.move st⟩
noncomputable def Fx.hold(X:Fx)(am:Z1)(io:Zp)(h1:am≠X.env.locals)(h2:∀n c,(n,c)∈X.env.cells->am≠c)(h3:X.h₀.get? am=ZT\/am∈X.bY):Fx:={X with held:=(am,io)::X.held,hnl:=λq hq=>by rcases ZZ.mp hq with rfl|hq<;>first|exact h1|exact X.hnl q hq,hnc:=λq hq=>by rcases ZZ.mp hq with rfl|hq<;>first|exact h2|exact X.hnc q hq,hab:=λq hq=>by rcases ZZ.mp hq with rfl|hq<;>first|exact h3|exact X.hab q hq}
variable{am:Z1}{io fw:Zp}{h1:am≠X.env.locals}{h2:∀n c,(n,c)∈X.env.cells->am≠c}{h3:X.h₀.get? am=ZT\/am∈X.bY}
theorem G6{a:Z1}{ao:aQ}:a∈ak (X.hold am io h1 h2 h3) O↔a∈ak X ((am,ao)::O):=by
 rw[bg,bg];constructor
 ·rintro(h|h|h|h|⟨o,h⟩);·exact .inl (.tail _ h)
  ·exact .inr (.inl h)
  ·exact .inr (.inr (.inl h))
  ·exact .inr (.inr (.inr (.inl h)))
  ·refine ZR (ZZ.mp h) (λe=>?_) (λh=>?_);·cases e;exact .inl (.head _)
   ·exact .inr (.inr (.inr (.inr ⟨o,h⟩)))
 ·rintro(h|h|h|h|⟨o,h⟩)
  ·rcases ZZ.mp h with rfl|h;·exact .inr (.inr (.inr (.inr ⟨io,.head _⟩)))
   ·exact .inl h
  ·exact .inr (.inl h)
  ·exact .inr (.inr (.inl h))
  ·exact .inr (.inr (.inr (.inl h)))
  ·exact .inr (.inr (.inr (.inr ⟨o,.tail _ h⟩)))
theorem FH{ao:aQ}{h:YQ}:aJ (ak X ((am,ao)::O)) h (ak (X.hold am io h1 h2 h3) O) h:=λa o ha e=>⟨λq=>ha (G6.mp q),e⟩
theorem Jp{ao:aQ}{h:YQ}:aJ (ak (X.hold am io h1 h2 h3) O) h (ak X ((am,ao)::O)) h:=λa o ha e=>⟨λq=>ha (G6.mpr q),e⟩
theorem Fr.aeW(F:Fr X ρ ((am,.other io)::O) s):Fr (X.hold am io h1 h2 h3) ρ O s:=by
 refine iK F.vars λm cm hn hc hv=>?_;have nd:=F.nd;rw[Z2,ZG]at nd;refine⟨F.keep,F.gens,F.os,⟨m,cm,hn,hc,λx av e=>?_⟩,λq hq=>?_,λp hp=>?_,nd.2⟩;·refine aR (hv x av e) λv a r=>?_;exact aj v a (r.move FH)
 ·rcases ZZ.mp hq with rfl|hq;·exact F.ib (.head _)
  ·exact F.held q hq
 ·refine fB (F.own p (.tail _ hp)) λa1 a2 a3 a4 o ho z=>?_;refine⟨a1,a2,⟨a3.1,λq hq=>?_⟩,a4,o,ho,z.move FH⟩;rcases ZZ.mp hq with rfl|hq;·exactλe=>nd.1 (ZY.mpr (aj p hp e))
  ·exact a3.2 q hq
theorem Fr.acO(F:Fr (X.hold am io h1 h2 h3) ρ O s)(FB:(aP X.w.params).get? am=ZT)(hI:∀q∈X.held,am≠q.1):Fr X ρ ((am,.other io)::O) s:=by
 refine iK F.vars λm cm hn hc hv=>?_;refine⟨F.keep,F.gens,F.os,⟨m,cm,hn,hc,λx av e=>?_⟩,λq hq=>F.held q (.tail _ hq),λp hp=>?_,?_⟩;·refine aR (hv x av e) λv a r=>?_;exact aj v a (r.move Jp)
 ·rcases ZZ.mp hp with rfl|hp;·exact⟨h3,h1,⟨h2,hI⟩,FB,io,F.held _ (.head _),rfl⟩
  ·refine fB (F.own p hp) λa1 a2 a3 a4 o ho z=>?_;exact⟨a1,a2,⟨a3.1,λq hq=>a3.2 q (.tail _ hq)⟩,a4,o,ho,z.move Jp⟩
 ·rw[Z2,ZG];refine⟨λq=>?_,F.nd⟩;refine aR (ZY.mp q) λp hp e=>?_;exact(F.own p hp).a3.2 _ (.head _) e
inductive dY(X:Fx)(ρ:Loc)(O:af)(s:Z6)(k:AV->af->Prop)(v:Z3)(s':Z6):Prop|mk(a:AV)(O':af)(F:Fr X ρ O' s')(st:aJ (ak X O) s.heap (ak X O') s'.heap)(r:aX (ak X O') s'.heap v a)(q:k a O')
inductive CV(X:Fx)(ρ:Loc)(O:af)(s:Z6)(k:List AV->af->Prop)(vs:List Z3)(s':Z6):Prop|mk(l:List AV)(O':af)(F:Fr X ρ O' s')(st:aJ (ak X O) s.heap (ak X O') s'.heap)(r:bb (ak X O') s'.heap vs l)(q:k l O')
inductive lM(X:Fx)(ρ:Loc)(O:af)(s:Z6)(k:Bool->af->Prop)(b:Bool)(s':Z6):Prop|mk(O':af)(F:Fr X ρ O' s')(st:aJ (ak X O) s.heap (ak X O') s'.heap)(q:k b O')
theorem cr{X ρ O s k v s'}{G:Prop}(z:dY X ρ O s k v s')(f:∀a O',Fr X ρ O' s'->aJ (ak X O) s.heap (ak X O') s'.heap->aX (ak X O') s'.heap v a->k a O'->G):G:=by cases z with|mk a b c d e i=>exact f a b c d e i
theorem j5{X ρ O s k v s'}{G:Prop}(z:CV X ρ O s k v s')(f:∀a O',Fr X ρ O' s'->aJ (ak X O) s.heap (ak X O') s'.heap->bb (ak X O') s'.heap v a->k a O'->G):G:=by cases z with|mk a b c d e i=>exact f a b c d e i
theorem kQ{X ρ O s k v s'}{G:Prop}(z:lM X ρ O s k v s')(f:∀O',Fr X ρ O' s'->aJ (ak X O) s.heap (ak X O') s'.heap->k v O'->G):G:=by cases z with|mk b c d i=>exact f b c d i
def Ev(X:Fx)(ρ:Loc)(O:af)(e:Zt)(k:AV->af->Prop):Prop:=∀E s,Fr X ρ O s->ZK (model pw X.w) X.A (eval e X.env) (dY X ρ O s k) E s
def cC(X:Fx)(ρ:Loc)(O:af)(es:List Zt)(k:List AV->af->Prop):Prop:=∀E s pos,Fr X ρ O s->ZK (model pw X.w) X.A (spliced (Xb pos (Yt es X.env))) (CV X ρ O s k) E s
def Ts(X:Fx)(ρ:Loc)(O:af)(e:Zt)(k:Bool->af->Prop):Prop:=∀E s,Fr X ρ O s->ZK (model pw X.w) X.A (PT e X.env (eval e X.env)) (lM X ρ O s k) E s
def Bn(X:Fx)(ρ:Loc)(O:af)(op:Vg)(a b:AV)(k:AV->af->Prop):Prop:=∀E s u v,Fr X ρ O s->aX (ak X O) s.heap u a->aX (ak X O) s.heap v b->ZK (model pw X.w) X.A (binaryOp op u v) (dY X ρ O s k) E s
def Ip(X:Fx)(ρ:Loc)(O:af)(op:Vg)(a b:AV)(k:AV->af->Prop):Prop:=∀E s u v,Fr X ρ O s->aX (ak X O) s.heap u a->aX (ak X O) s.heap v b->ZK (model pw X.w) X.A (inplaceOp op u v) (dY X ρ O s k) E s
def Un(X:Fx)(ρ:Loc)(O:af)(op:UnaryOp)(a:AV)(k:AV->af->Prop):Prop:=∀E s u,Fr X ρ O s->aX (ak X O) s.heap u a->ZK (model pw X.w) X.A (unaryOp op u) (dY X ρ O s k) E s
def Cm(X:Fx)(ρ:Loc)(O:af)(op:CmpOp)(a b:AV)(k:Bool->af->Prop):Prop:=∀E s u v,Fr X ρ O s->aX (ak X O) s.heap u a->aX (ak X O) s.heap v b->ZK (model pw X.w) X.A (compareOp op u v) (λr s'=>∃c,r=.bool c/\lM X ρ O s k c s') E s
def Tr(X:Fx)(ρ:Loc)(O:af)(a:AV)(k:Bool->af->Prop):Prop:=∀E s u,Fr X ρ O s->aX (ak X O) s.heap u a->ZK (model pw X.w) X.A (truthy u) (lM X ρ O s k) E s
def Ix(X:Fx)(ρ:Loc)(O:af)(value slice:Zt)(a b:AV)(k:AV->af->Prop):Prop:=∀E s u v,Fr X ρ O s->aX (ak X O) s.heap u a->aX (ak X O) s.heap v b->ZK (model pw X.w) X.A (subscriptTail value slice u v) (dY X ρ O s k) E s
def aG(X:Fx)(ρ:Loc)(O:af)(fv:Z3)(l:List AV)(k:AV->af->Prop):Prop:=∀E s vs,Fr X ρ O s->bb (ak X O) s.heap vs l->ZK (model pw X.w) X.A (call fv vs) (dY X ρ O s k) E s
structure Kn where
 nx:Loc->af->Prop
 rt:AV->af->Prop
 bk:Loc->af->Prop
 ct:Loc->af->Prop
def C8(X:Fx)(K:Kn)(ρ':Loc)(O':af)(s':Z6):Rq->Prop
 |.next=>K.nx ρ' O'|.brk=>K.bk ρ' O'|.cont=>K.ct ρ' O'|.ret v=>∃a,aX (ak X O') s'.heap v a/\K.rt a O'
inductive i6(X:Fx)(O:af)(s:Z6)(K:Kn)(fl:Rq)(s':Z6):Prop|mk(ρ':Loc)(O':af)(F:Fr X ρ' O' s')(st:aJ (ak X O) s.heap (ak X O') s'.heap)(q:C8 X K ρ' O' s' fl)
theorem lP{X O s K fl s'}{G:Prop}(z:i6 X O s K fl s')(f:∀ρ' O',Fr X ρ' O' s'->aJ (ak X O) s.heap (ak X O') s'.heap->C8 X K ρ' O' s' fl->G):G:=by cases z with|mk b c d e i=>exact f b c d e i
def Ex(X:Fx)(ρ:Loc)(O:af)(b:List Y4)(K:Kn):Prop:=∀E s,Fr X ρ O s->ZK (model pw X.w) X.A (execs b X.env) (i6 X O s K) E s
def Es(X:Fx)(ρ:Loc)(O:af)(b:Y4)(K:Kn):Prop:=∀E s,Fr X ρ O s->ZK (model pw X.w) X.A (exec b X.env) (i6 X O s K) E s
theorem dY.from{aq:Z6}{k:AV->af->Prop}{v:Z3}(st:aJ (ak X O) s.heap (ak X O') aq.heap)(x:dY X ρ O' aq k v s'):dY X ρ O s k v s':=let⟨a,aM,F,aW,r,q⟩:=x;⟨a,aM,F,st.trans aW,r,q⟩
theorem lM.from{aq:Z6}{k:Bool->af->Prop}{v:Bool}(st:aJ (ak X O) s.heap (ak X O') aq.heap)(x:lM X ρ O' aq k v s'):lM X ρ O s k v s':=let⟨aM,F,aW,q⟩:=x;⟨aM,F,st.trans aW,q⟩
theorem i6.from{aq:Z6}{K:Kn}{fl:Rq}(st:aJ (ak X O) s.heap (ak X O') aq.heap)(x:i6 X O' aq K fl s'):i6 X O s K fl s':=let⟨dR,aM,F,aW,q⟩:=x;⟨dR,aM,F,st.trans aW,q⟩
theorem dY.done{k:AV->af->Prop}{v:Z3}{a:AV}(F:Fr X ρ O s)(g:fX s s')(r:aX (ak X O) s'.heap v a)(q:k a O):dY X ρ O s k v s':=⟨a,O,F.grow g,g.nZ,r,q⟩
theorem lM.done{k:Bool->af->Prop}{b:Bool}(F:Fr X ρ O s)(g:fX s s')(q:k b O):lM X ρ O s k b s':=⟨O,F.grow g,g.nZ,q⟩
variable{k:AV->af->Prop}{kb:Bool->af->Prop}{pos px:XY}
theorem Ev.int{i:Int}{x1}(h:k (.int i) O):Ev X ρ O (.Constant (.int i) x1 pos) k:=λE s F=>wpAny_Constant_int (.done F (.tok _ _) (.int _ _) h)
theorem Ev.str{x:ZU}{x1}(h:k (.str x) O):Ev X ρ O (.Constant (.str x) x1 pos) k:=λE s F C C C=>.done F (.tok _ _) (.str _ _) h
theorem Ev.none{x1}(h:k .none O):Ev X ρ O (.Constant .none x1 pos) k:=λE s F C C C=>.done F (.refl _) .none h
theorem Ev.bool{b:Bool}{x1}(h:k (.bool b) O):Ev X ρ O (.Constant (.bool b) x1 pos) k:=λE s F C C C=>.done F (.refl _) (.bool _) h
theorem Ev.name{x:ZU}{a:AV}(hx:ρ.lookup x=Z7 a)(hd:(x==("__debug__":ZU))=ZS)(h:k a O):Ev X ρ O (.Name x pos) k:=λE s F=>by
 refine iK F.vars λm cm hn hc hv=>?_;refine aR (hv x a hx) λv hh r=>?_;refine ZR hh (λbT=>aO bT λk1 k2=>?_) (λb5=>rm b5 λk1 k2 c k3=>?_);·exact wpAny_Name (Sz X.fn k1 hn k2 (.done F (.refl _) r h)) hd
 ·exact wpAny_Name (R7 X.fn k1 k3 (k2▸hc x c (mem_of_lookup k3)) (.done F (.refl _) r h)) hd
theorem Ev.bin{l r:Zt}{op:Vg}(h:Ev X ρ O l λa ag=>Ev X ρ ag r λb aM=>Bn X ρ aM op a b k):Ev X ρ O (.BinOp l op r pos) k:=λE s F=>by refine wpAny_BinOp (wm (h _ s F) (λa aq bH=>cr bH λav ag aw aI a5 aH=>?_));refine wm (aH _ aq aw) (λb aL bS=>cr bS λbv aM aS aY cK be=>?_);exact wm (be _ aL _ _ aS (a5.move aY) cK) (λv cR x=>.from (aI.trans aY) x)
theorem Ev.un{e:Zt}{op:UnaryOp}(h:Ev X ρ O e λa ag=>Un X ρ ag op a k):Ev X ρ O (.UnaryOp op e pos) k:=λE s F=>by refine wpAny_UnaryOp (wm (h _ s F) (λa aq bT=>cr bT λav ag aw aI a5 aH=>?_));exact wm (aH _ aq _ aw a5) (λv cR x=>.from aI x)
theorem Ev.cmp{l r:Zt}{op:CmpOp}(hb:Vl op r=ZS)(h:Ev X ρ O l λa ag=>Ev X ρ ag r λb aM=>Cm X ρ aM op a b λc eW=>k (.bool c) eW):Ev X ρ O (.Compare l [op] [r] pos) k:=λE s F=>by refine wpAny_Compare1 (wm (h _ s F) (λa aq b5=>cr b5 λav ag aw aI a5 aH=>?_)) hb;refine wm (aH _ aq aw) (λb aL b6=>cr b6 λbv aM aS aY cK be=>?_);refine wm (be _ aL _ _ aS (a5.move aY) cK) (λv cR x=>?_);obtain⟨c,rfl,eW,eV,gG,q⟩:=x;exact⟨_,eW,eV,(aI.trans aY).trans gG,.bool _,q⟩
theorem Ev.aai{t b o:Zt}(h:Ts X ρ O t λc ag=>(c=ZW->Ev X ρ ag b k)/\(c=ZS->Ev X ρ ag o k)):Ev X ρ O (.IfExp t b o pos) k:=λE s F=>by refine wpAny_IfExp (wm (h _ s F) (λc aq bJ=>kQ bJ λag aw aI aH=>?_));cases c with|true=>exact wm (aH.1 rfl _ aq aw) (λv cR x=>.from aI x);|false=>exact wm (aH.2 rfl _ aq aw) (λv cR x=>.from aI x)
theorem Ev.sub{v i:Zt}(h:Ev X ρ O v λa ag=>Ev X ρ ag i λb aM=>Ix X ρ aM v i a b k):Ev X ρ O (.Subscript v i pos) k:=λE s F=>by refine Subscript_ (wm (h _ s F) (λa aq b7=>cr b7 λav ag aw aI a5 aH=>?_));refine wm (aH _ aq aw) (λb aL cy=>cr cy λbv aM aS aY cK be=>?_);exact wm (be _ aL _ _ aS (a5.move aY) cK) (λv cR x=>.from (aI.trans aY) x)
theorem cC.nil{k:List AV->af->Prop}(h:k [] O):cC X ρ O [] k:=λE s pos F=>VK ⟨[],O,F,.refl _ _,.nil,h⟩
theorem cC.cons{e:Zt}{r:List Zt}{k:List AV->af->Prop}(hs:dH e=ZS)(h:Ev X ρ O e λa ag=>cC X ρ ag r λl aM=>k (a::l) aM):cC X ρ O (e::r) k:=λE s pos F=>by
 have hs:Xb pos (Yt (e::r) X.env)=(ZS,eval e X.env)::Xb pos (Yt r X.env):=by cases e<;>first|rfl|(cases(show ZW=ZS from hs))
 exists hs;refine VV (wm (h _ s F) (λa aq cx=>cr cx λav ag aw aI a5 aH=>?_));refine wm (aH _ aq _ aw) (λvs aL bH=>j5 bH λl aM aS aY cK be=>?_);exact⟨_,aM,aS,aI.trans aY,.cons (a5.move aY) cK,be⟩
theorem Ev.tuple{es:List Zt}{x1}(h:cC X ρ O es λl ag=>l.length<=Y8/\k (.tup l) ag):Ev X ρ O (.Tuple es x1 pos) k:=λE s F=>by refine Tuple_ (wm (h _ s pos F) (λvs aq bS=>j5 bS λl ag aw aI a5 aH=>?_));refine UG ⟨.tup l,ag,aw.grow (.push _ _ _),aI.trans (fX.push _ _ 0).nZ,.tup (n:=0) aw.fresh (Zy _ rfl) ((a5.keeps λC C e=>ZX _ e):bb (ak X ag) _ _ l),aH.2⟩ (by exists a5.length;exact aH.1)
theorem Ev.to{e:Zt}(A:AV)(h:Ev X ρ O e λa O'=>a=A/\O'=O)(h2:k A O):Ev X ρ O e k:=λE s F=>wm (h _ s F) (λv aq z=>cr z λa ag aw aI a5 z=>aO z λe1 e2=>by subst e1;subst e2;exact⟨_,_,aw,aI,a5,h2⟩)
theorem Ts.to{e:Zt}(c:Bool)(h:Ts X ρ O e λa O'=>a=c/\O'=O)(h2:kb c O):Ts X ρ O e kb:=λE s F=>wm (h _ s F) (λv aq z=>kQ z λag aw aI z=>aO z λe1 e2=>by subst e1;subst e2;exact⟨_,aw,aI,h2⟩)
theorem Ts.not{e:Zt}(h:Ts X ρ O e λc ag=>kb (!c) ag):Ts X ρ O (.UnaryOp .Not e pos) kb:=λE s F=>isTrue_not (wm (h _ s F) (λC C b6=>kQ b6 λO' F' st q=>⟨O',F',st,q⟩))
theorem Ts.cmp{l r:Zt}{op:CmpOp}(hb:Vl op r=ZS)(h:Ev X ρ O l λa ag=>Ev X ρ ag r λb aM=>Cm X ρ aM op a b kb):Ts X ρ O (.Compare l [op] [r] pos) kb:=λE s F=>by refine wpAny_isTrue_Compare1 (wm (h _ s F) (λa aq bJ=>cr bJ λav ag aw aI a5 aH=>?_)) hb;refine wm (aH _ aq aw) (λb aL b7=>cr b7 λbv aM aS aY cK be=>?_);refine wm (be _ aL _ _ aS (a5.move aY) cK) (λv cR x=>?_);obtain⟨c,rfl,eW,eV,gG,q⟩:=x;exact VJ ⟨eW,eV,(aI.trans aY).trans gG,q⟩
theorem Ts.name{x:ZU}(h:Ev X ρ O (.Name x pos) λa ag=>Tr X ρ ag a kb):Ts X ρ O (.Name x pos) kb:=λE s F=>isTrue_plain (wm (h _ s F) (λv aq cy=>cr cy λav ag aw aI a5 aH=>wm (aH _ aq _ aw a5) (λc aL x=>.from aI x)))
theorem Ts.and_nil(h:kb ZW O):Ts X ρ O (.BoolOp .And [] pos) kb:=λE s F=>isTrue_and_nil ⟨O,F,.refl _ _,h⟩
theorem Ts.and_cons{e:Zt}{r:List Zt}(h:Ts X ρ O e λc ag=>(c=ZW->Ts X ρ ag (.BoolOp .And r pos) kb)/\(c=ZS->kb ZS ag)):Ts X ρ O (.BoolOp .And (e::r) pos) kb:=λE s F=>by refine isTrue_and (wm (h _ s F) (λc aq cx=>kQ cx λag aw aI aH=>?_));cases c with|true=>exact wm (aH.1 rfl _ aq aw) (λv cR x=>.from aI x);|false=>exact⟨ag,aw,aI,aH.2 rfl⟩
theorem Ts.or_nil(h:kb ZS O):Ts X ρ O (.BoolOp .Or [] pos) kb:=λE s F=>isTrue_or_nil ⟨O,F,.refl _ _,h⟩
theorem Ts.or_cons{e:Zt}{r:List Zt}(h:Ts X ρ O e λc ag=>(c=ZW->kb ZW ag)/\(c=ZS->Ts X ρ ag (.BoolOp .Or r pos) kb)):Ts X ρ O (.BoolOp .Or (e::r) pos) kb:=λE s F=>by refine isTrue_or (wm (h _ s F) (λc aq bH=>kQ bH λag aw aI aH=>?_));cases c with|true=>exact⟨ag,aw,aI,aH.1 rfl⟩;|false=>exact wm (aH.2 rfl _ aq aw) (λv cR x=>.from aI x)
variable{K:Kn}{rest:List Y4}
theorem Ex.nil(h:K.nx ρ O):Ex X ρ O [] K:=λE s F=>Td ⟨ρ,O,F,.refl _ _,h⟩
theorem Ex.cons{b:Y4}(h:Es X ρ O b ⟨λρ' O'=>Ex X ρ' O' rest K,K.rt,K.bk,K.ct⟩):Ex X ρ O (b::rest) K:=λE s F=>by refine wpAny_execs_cons (wm (h _ s F) (λfl aq x=>?_));refine lP x ?_;clear x;intro cz ag aw aI x;cases fl with|next=>exact wm (x _ aq aw) (λfl aL x=>.from aI x);|brk=>exact⟨cz,ag,aw,aI,x⟩;|cont=>exact⟨cz,ag,aw,aI,x⟩;|ret v=>exact⟨cz,ag,aw,aI,x⟩
abbrev Bd(X:Fx)(x:ZU):Prop:=X.env.kindOf x=Z7 .local\/(X.env.kindOf x=Z7 .cell/\X.wr/\∃c,X.env.cells.lookup x=Z7 c)
theorem Es.assign{x:ZU}{e:Zt}(hx:Bd X x)(hs:TQ e (Z7 (.Name x px)) pos.line X.env=pure ZS)(h:Ev X ρ O e λa ag=>K.nx (gT ρ x a) ag):Es X ρ O (.Assign [.Name x px] e pos) K:=λE s F=>by refine wpAny_Assign_Name (wm (h _ s F) (λv aq bS=>cr bS λa ag aw aI a5 aH=>?_)) hs;exact aw.bind hx a5 λh' tk F' aW=>⟨_,ag,F',aI.trans aW,aH⟩
theorem Es.aug{x:ZU}{op:Vg}{e:Zt}{yr:AV}(hx:Bd X x)(hl:ρ.lookup x=Z7 yr)(h:Ev X ρ O e λb aM=>Ip X ρ aM op yr b λc eW=>K.nx (gT ρ x c) eW):Es X ρ O (.AugAssign (.Name x px) op e pos) K:=λE s F=>by
 refine iK F.vars λm cm hn hc hv=>?_;refine aR (hv x yr hl) λafq hh adU=>?_;have main:ZK (model pw X.w) X.A (eval e X.env) (λv aL=>ZK (model pw X.w) X.A (inplaceOp op afq v) (λr cR=>ZK (model pw X.w) X.A (storeName X.env x r) (λC=>i6 X O s K .next) E cR) E aL) E s:=by refine wm (h _ s F) (λv aq bT=>cr bT λa ag aw aI a5 aH=>?_);refine wm (aH _ aq _ _ aw (adU.move aI) a5) (λv aL b5=>cr b5 λc aM aS aY cK be=>?_);exact aS.bind hx cK λh' tk F' aW=>⟨_,aM,F',(aI.trans aY).trans aW,be⟩
 refine ZR hh (λcx=>aO cx λk1 k2=>?_) (λbH=>rm bH λk1 k2 c k3=>?_);·exact Sy (Sz X.fn k1 hn k2 main)
 ·exact Sy (R7 X.fn k1 k3 (k2▸hc x c (mem_of_lookup k3)) main)
theorem Es.ite{t:Zt}{b o:List Y4}(h:Ts X ρ O t λc ag=>(c=ZW->Ex X ρ ag b K)/\(c=ZS->Ex X ρ ag o K)):Es X ρ O (.If t b o pos) K:=λE s F=>by refine wpAny_If (wm (h _ s F) (λc aq b6=>kQ b6 λag aw aI aH=>?_));cases c with|true=>exact wm (aH.1 rfl _ aq aw) (λfl aL x=>.from aI x);|false=>exact wm (aH.2 rfl _ aq aw) (λfl aL x=>.from aI x)
theorem Es.ret{e:Zt}(h:Ev X ρ O e K.rt):Es X ρ O (.Return (Z7 e) pos) K:=λE s F=>wpAny_Return_some (wm (h _ s F) (λv aq bJ=>cr bJ λa ag aw aI a5 aH=>⟨ρ,ag,aw,aI,a,a5,aH⟩))
theorem Es.adv(h:K.rt .none O):Es X ρ O (.Return ZT pos) K:=λE s F=>wpAny_Return_none ⟨ρ,O,F,.refl _ _,.none,.none,h⟩
theorem Es.pass(h:K.nx ρ O):Es X ρ O (.Pass pos) K:=λE s F=>wpAny_Pass ⟨ρ,O,F,.refl _ _,h⟩
theorem Es.brk(h:K.bk ρ O):Es X ρ O (.Break pos) K:=λE s F=>wpAny_Break ⟨ρ,O,F,.refl _ _,h⟩
theorem Es.cont(h:K.ct ρ O):Es X ρ O (.Continue pos) K:=λE s F=>wpAny_Continue ⟨ρ,O,F,.refl _ _,h⟩
theorem Es.expr{e:Zt}(hs:TQ e ZT pos.line X.env=pure ZS)(h:Ev X ρ O e λC ag=>K.nx ρ ag):Es X ρ O (.Expr e pos) K:=λE s F=>wpAny_Expr_any (wm (h _ s F) (λv aq b7=>cr b7 λa ag aw aI a5 aH=>⟨ρ,ag,aw,aI,aH⟩)) X.inter hs
inductive yf(X:Fx){σ:Type}(R:σ->Loc)(Q:σ->af)(m:σ->Nat)(am:σ->Prop)(D:List Z1)(h:YQ):Nat->Z6->Prop|mk{x s'}(F:Fr X (R x) (Q x) s')(st:aJ D h (ak X (Q x)) s'.heap)(i:am x):yf X R Q m am D h (m x) s'
def yg{σ:Type}(R:σ->Loc)(Q:σ->af)(m:σ->Nat)(am:σ->Prop)(x:σ)(ρ':Loc)(O':af):Prop:=∃y,m y<m x/\am y/\ρ'=R y/\O'=Q y
theorem Es.sN{σ:Type}{t:Zt}{b:List Y4}(R:σ->Loc)(Q:σ->af)(m:σ->Nat)(am:σ->Prop)(sO:σ)(i0:am sO)(turn:∀x,am x->Ts X (R x) (Q x) t λc ag=>(c=ZW->Ex X (R x) ag b ⟨yg R Q m am x,K.rt,K.nx,yg R Q m am x⟩)/\(c=ZS->K.nx (R x) ag)):Es X (R sO) (Q sO) (.While t b [] pos) K:=λE s F=>by refine wpAny_While (codeAny_whileLoop (yf X R Q m am (ak X (Q sO)) s.heap) ?_ (m sO) ⟨F,.refl _ _,i0⟩);rintro C s'(@⟨y,C,F',aW,i⟩);refine wm (turn y i _ s' F') (λc aq cy=>kQ cy λag aw aI aH=>?_);cases c with
 |true=>
  refine wm (aH.1 rfl _ aq aw) (λfl aL cx=>lP cx λdR aM aS aY x=>?_);have st:=(aW.trans aI).trans aY;have nx:yg R Q m am y dR aM->∃n,n<m y/\yf X R Q m am (ak X (Q sO)) s.heap n aL:=λb7=>gM b7 λz hm hi e1 e2=>by cases e1;cases e2;exact⟨_,hm,aS,st,hi⟩
  cases fl with|next=>exact nx x;|cont=>exact nx x;|brk=>exact⟨dR,aM,aS,st,x⟩;|ret v=>exact⟨dR,aM,aS,st,x⟩
 |false=>exact Td ⟨_,ag,aw,aW.trans aI,aH.2 rfl⟩
end
section
variable{X:Fx}{ρ:Loc}{O O':af}{s s':Z6}{E:Z3->Z6->Prop}{K:Kn}{pos px:XY}
theorem Fr.keeps(F:Fr X ρ O s){h':YQ}{tk:Nat}(hk:Keeps s.heap h'):Fr X ρ O {s with heap:=h',toks:=tk}:=by
 obtain⟨m,cm,hn,C⟩:=F.vars;exact F.move (aJ.of hk) (λa o C C e=>hk a o e) F.gens rfl (λo e=>hk _ o e) (λC c C o e=>hk c o e) (λq C e=>hk _ _ e) (λp hp=>let⟨a1,a2,a3,a4,o,h1,h2⟩:=F.own p hp;⟨a1,a2,a3,a4,o,hk _ _ h1,h2.move (aJ.of hk)⟩) F.nd
theorem Ai{h h':YQ}(x:Sx h.objs.size h h'):Keeps h h':=λa o e=>x a o (X6 (Zc e)) e
def Tg(X:Fx)(ρ:Loc)(O:af)(t:Zt)(a:AV)(k:Loc->Prop):Prop:=∀E s v,Fr X ρ O s->aX (ak X O) s.heap v a->ZK (model pw X.w) X.A (assign t X.env v) (λC s'=>∃ρ',Fr X ρ' O s'/\aJ (ak X O) s.heap (ak X O) s'.heap/\k ρ') E s
def oj(X:Fx)(ρ:Loc)(O:af)(ts:List Zt)(l:List AV)(k:Loc->Prop):Prop:=∀E s vs,Fr X ρ O s->bb (ak X O) s.heap vs l->(WC ts X.env).length=ts.length/\(WC ts X.env).findIdx? (·.1)=ZT/\ZK (model pw X.w) X.A (Uc ((WC ts X.env).map (·.2)) vs) (λC s'=>∃ρ',Fr X ρ' O s'/\aJ (ak X O) s.heap (ak X O) s'.heap/\k ρ') E s
theorem Tg.name{x:ZU}{a:AV}{k:Loc->Prop}(hx:Bd X x)(h:k (gT ρ x a)):Tg X ρ O (.Name x px) a k:=λE s v F r=>Ub (F.bind hx r λh' tk F' aW=>cQ _ F' aW h)
theorem oj.nil{k:Loc->Prop}(h:k ρ):oj X ρ O [] [] k:=λE s vs F r=>by cases r.iN;exact bM rfl rfl (Z5 (cQ ρ F (.refl _ _) h))
theorem oj.cons{t:Zt}{ts:List Zt}{a:AV}{l:List AV}{k:Loc->Prop}(hs:dH t=ZS)(h:Tg X ρ O t a λρ'=>oj X ρ' O ts l k)(hn:∀env:Rw,(WC ts env).length=ts.length/\(WC ts env).findIdx? (·.1)=ZT):oj X ρ O (t::ts) (a::l) k:=λE s vs F r=>by
 have he:WC (t::ts) X.env=(ZS,assign t X.env)::WC ts X.env:=by cases t<;>first|rfl|(cases(show ZW=ZS from hs))
 cases r with|cons r rs=>exists he;refine bM (by simp[(hn X.env).1]) (by exists RL;simp[(hn X.env).2]) ?_;exists Z2;refine Z8 (ZL ?_);refine wm (h _ s _ F r) (λC aq cx=>dE cx λcz aw aI aH=>?_);exact wm (aH _ aq _ aw (rs.move aI)).2.2 (λC aL bH=>dE bH λdR aS aY be=>cQ dR aS (aI.trans aY) be)
set_option tactic.hygienic true in theorem Tg.tup{ts:List Zt}{x1}{l:List AV}{k:Loc->Prop}(dG:ts.length=l.length)(h:oj X ρ O ts l k):Tg X ρ O (.Tuple ts x1 px) (.tup l) k:=λE s v F r=>by cases r.iT with|mk hd hg rl=>
  rename_i ad vs n;have Pr:vs.size=l.length:=by exists Zz rl.length;exact bG Y0 rfl
  refine f8 (h E s _ F rl) λq1 q2 C=>?_;refine assign_Tuple_tuple X.hh (cX _ hg rfl n rfl) (by(exists q1;exists dG;exact bG Pr rfl)) q2 λh' hx=>?_;have hk:=Ai hx;have F':=F.keeps (tk:=s.toks) hk;exact wm (h E _ _ F' (rl.keeps hk)).2.2 (λC aL bS=>dE bS λdR aS aY be=>cQ dR aS ((aJ.of hk).trans aY) be)
theorem Aq{tg:Zt}{am:Z1}{v:Z3}{o:Zp}{nm:String}{vs:Array Z3}{Q:Unit->Z6->Prop}{M:Model}{A:Zw}(h1:s.heap.get? am=Z7 o)(h2:o.cls=.type nm)(h3:o.data=.fields vs)(h4:["enumerate","zip","dict_itemiterator","dict_reverseitemiterator","odict_iterator","itertools.zip_longest","itertools.pairwise"].contains nm=ZS)(h:Q () s):ZK M A (Wv tg (.ref am) v) Q E s:=by cases tg<;>first|exact Z5 h|(cases v<;>first|exact Z5 h|(refine Z8 (Tp h1 ?_);(exists h2;exists h3);dsimp only;exists h4;exact Z5 h))
theorem Fr.turn{am:Z1}{io o':Zp}{h1 h2 h3}{h':YQ}{tk:Nat}(F:Fr (X.hold am io h1 h2 h3) ρ O s)(hk:∀b o,b≠am->s.heap.get? b=Z7 o->h'.get? b=Z7 o)(hI:h'.get? am=Z7 o')(Ox:(aP X.w.params).get? am=ZT)(hq:∀q∈X.held,am≠q.1):Fr (X.hold am o' h1 h2 h3) ρ O {s with heap:=h',toks:=tk}:=by
 have G:=F.acO Ox hq;have nd:=G.nd;rw[Z2,ZG]at nd;have G':=G.upd (tk:=tk) (ao:=.other o') (.head _) hk hI rfl;have e:bp ((am,aQ.other io)::O) am (.other o')=(am,.other o')::O:=by
  unfold bp;exists Z2;exists if_pos rfl;congr 1;conv=>rhs;rw[<-Vf O]
  exact X9 λp hp=>if_neg (λe:p.1=am=>nd.1 (ZY.mpr (aj p hp e)))
 replace G':=e▸G';exact G'.aeW
theorem afb{am:Z1}{io o':Zp}{h1 h2 h3}{h h':YQ}(hk:∀b o,b≠am->h.get? b=Z7 o->h'.get? b=Z7 o):aJ (ak (X.hold am io h1 h2 h3) O) h (ak (X.hold am o' h1 h2 h3) O) h':=λa o ha e=>⟨ha,hk a o (λq=>ha (by exists q;exact bg.mpr (.inr (.inr (.inr (.inr ⟨io,.head _⟩)))))) e⟩
theorem Fr.abr{am:Z1}{ao:aQ}(G:Fr X ρ ((am,ao)::O) s)(cP:∀b o,b≠am->s.heap.get? b=Z7 o->s'.heap.get? b=Z7 o)(hg:X.G s'.gens)(ho:s'.os=s.os):Fr X ρ O s':=by
 obtain⟨b1,b2,b3,b4,C⟩:=G.own _ (.head _);have AB:=G.nd;rw[Z2,ZG]at AB;obtain⟨m,cm,hn,C⟩:=G.vars;have sG:aJ (ak X ((am,ao)::O)) s.heap (ak X O) s'.heap:=λa o ha e=>⟨λq=>ha (bg.mpr ((bg.mp q).imp (λh=>.tail _ h) id)),cP a o (λq=>ha (q▸bg.mpr (.inl (.head _)))) e⟩;refine G.move sG (λa o hl ha e=>cP a o (λq=>?_) e) hg ho (λo e=>cP _ _ (Xl b2) e) (λn c hc o e=>cP _ _ (Xl (b3.1 n c hc)) e) (λq hq e=>cP _ _ (Xl (b3.2 q hq)) e) (λp hp=>?_) AB.2
 ·subst q;refine ZR b1 (λb1=>?_) (λb1=>?_);·replace ha:=b1▸ha;cases ha
  ·exact hl b1
 ·refine fB (G.own p (.tail _ hp)) λa1 a2 a3 a4 o ho z=>?_;exact⟨a1,a2,a3,a4,o,cP _ _ (λe=>AB.1 (ZY.mpr (aj p hp e))) ho,z.move sG⟩
inductive pO(X:Fx)(ρ:Loc)(O:af)(s:Z6)(k:List AV->af->Prop):Z3->Z6->Prop|mk{am:Z1}{io:Zp}{fp:List Z1}{n:Nat}{P:Nat->Z3->Prop}{St:Nat->YQ->Prop}{l:List AV}{O':af}{aL:Z6}(W:Walks pw X.w X.A am fp [am] n P St)(lE:St 0 aL.heap)(pV:∀i h,St i h->∃o nm vs,h.get? am=some o/\o.cls=.type nm/\o.data=.fields vs/\["enumerate","zip","dict_itemiterator","dict_reverseitemiterator","odict_iterator","itertools.zip_longest","itertools.pairwise"].contains nm=false)(hI:X.h₀.get? am=none\/am∈X.bY)(aS:Fr X ρ ((am,.other io)::O') aL)(sD:aJ (ak X O) s.heap (ak X ((am,.other io)::O')) aL.heap)(Fo:∀b∈fp,b=am\/(b∉ak X ((am,.other io)::O')/\∃o,aL.heap.get? b=some o))(dG:l.length=n)(hP:∀i v,i<n->P i v->∃av,l[i]?=some av/\aX (ak X ((am,.other io)::O')) aL.heap v av)(hk:k l O'):pO X ρ O s k (.ref am) aL
def It(X:Fx)(ρ:Loc)(O:af)(e:Zt)(k:List AV->af->Prop):Prop:=∀E s,Fr X ρ O s->ZK (model pw X.w) X.A (eval e X.env) (λx aq=>ZK (model pw X.w) X.A (RK x) (pO X ρ O s k) E aq) E s
theorem pO.mono{X:Fx}{ρ:Loc}{O:af}{s s':Z6}{k k':List AV->af->Prop}{v:Z3}(x:pO X ρ O s k v s')(q:∀l O',k l O'->k' l O'):pO X ρ O s k' v s':=by obtain⟨a,b,c,d,e,f,g,h,i,j⟩:=x;exact⟨a,b,c,d,e,f,g,h,i,q _ _ j⟩
theorem MB{X:Fx}{O:af}{p:Z1×aQ}{a:Z1}(h:a∈ak X O):a∈ak X (p::O):=ZE.mpr ((ZE.mp h).imp (λh=>.tail _ h) id)
theorem MA{X:Fx}{O:af}{p:Z1×aQ}:p.1∈ak X (p::O):=.head _
end
section
variable{w:ZD}{A:Zw}{R:Wb->Z6->Prop}{s:Z6}
theorem JM{α:Type}{t t':SV α}{Q:α->Z6->Prop}{E:Z3->Z6->Prop}(h:t=t')(q:ZK (model pw w) A t' Q E s):ZK (model pw w) A t Q E s:=h▸q
def qZ(w:ZD)(A:Zw)(env:Rw)(R:Wb->Z6->Prop):Z3->Z6->Prop:=notedBy (model pw w) A env λe s'=>R (.error e) s'
def J9(w:ZD)(A:Zw)(R:Wb->Z6->Prop)(it bI:Z3)(env:Rw)(em:String)(cF cf:Zt)(bP:List Zt)(J:Z6->Prop):Option Z3->Z6->Prop:=λr aq=>match r with
 |none=>R (.ok .next) aq|some v=>ZK (model pw w) A (Wv cf it v) (λC CD=>ZK (model pw w) A (assign cf env v) (λC aL=>ZK (model pw w) A (forIn bP ZW λc r=>if r=ZW then do let ok<-PT c env (eval c env);pure (Wu ok)else pure (Wu r)) (λok cR=>if ok=ZW then ZK (model pw w) A (eval cF env) (λx dJ=>ZK (model pw w) A (call (.builtin em) [bI,x]) (λC ig=>J ig) (qZ w A env R) dJ) (qZ w A env R) cR else J cR) (qZ w A env R) aL) (qZ w A env R) CD) (qZ w A env R) aq
structure va(e cF cf:Zt)(bP:List Zt)(em:String):Prop where go:∀{w:ZD}{A:Zw}{R:Wb->Z6->Prop}{s:Z6}{it bI:Z3}{env:Rw}(am:Nat->Z6->Prop)(_:∀n s,am n s->ZK (model pw w) A (VU it) (J9 w A R it bI env em cF cf bP λs=>∃m,m<n/\am m s) (qZ w A env R) s)(n:Nat)(_:am n s),Vk (model pw w) A (.compLoop e 0 it bI env) R s
theorem L4(cF cf bX:Zt)(bP:List Zt)(scope:X7)(pos:XY)(it bI:Z3)(env:Rw):compTurn (.SetComp cF [⟨cf,bX,bP,0⟩] scope pos) 0 it bI env=(do Xk bX.pos;match<-VU it with
 |none=>pure (.done .next);|some v=>
 Wv cf it v;assign cf env v;let mut ok:=ZW;for c in bP do if ok then ok<-PT c env (eval c env)
 if ok then(do let v<-eval cF env;Xk cF.pos;let _<-call (.builtin "set.add") [bI,v])
 again (.compLoop (.SetComp cF [⟨cf,bX,bP,0⟩] scope pos) 0 it bI env)):=by rfl
theorem GI(cF cf bX:Zt)(bP:List Zt)(scope:X7)(pos:XY):va (.ListComp cF [⟨cf,bX,bP,0⟩] scope pos) cF cf bP "list.append":=by constructor;intro w A R s it bI env am turn n h;refine codeAny_loop rfl am (λn s hI=>?_) n h;refine wpAny_noted (JM (compTurn_list ..) (Z8 (YW (Z8 (wm (turn n s hI) (λr aq aH=>?_))))));cases r with|none=>exact Z5 aH;|some v=>refine Z8 (wm aH (λC CD z6=>Z8 (wm z6 (λC aL be=>Z8 (wm be (λok cR qq=>?_))))));cases ok with|false=>exact Z5 ⟨rfl,qq⟩;|true=>exact Z8 (Z8 (wm qq (λx dJ qr=>Z8 (wm qr (λC ig nG=>Z5 (Z5 ⟨rfl,nG⟩))))))
theorem abq(cF cf bX:Zt)(bP:List Zt)(scope:X7)(pos:XY):va (.SetComp cF [⟨cf,bX,bP,0⟩] scope pos) cF cf bP "set.add":=by constructor;intro w A R s it bI env am turn n h;refine codeAny_loop rfl am (λn s hI=>?_) n h;refine wpAny_noted (JM (L4 ..) (Z8 (YW (Z8 (wm (turn n s hI) (λr aq aH=>?_))))));cases r with|none=>exact Z5 aH;|some v=>refine Z8 (wm aH (λC CD z6=>Z8 (wm z6 (λC aL be=>Z8 (wm be (λok cR qq=>?_))))));cases ok with|false=>exact Z5 ⟨rfl,qq⟩;|true=>exact Z8 (Z8 (wm qq (λx dJ qr=>Z8 (YW (Z8 (wm qr (λC ig nG=>Z5 (Z5 ⟨rfl,nG⟩))))))))
structure vd(e:Zt):Prop where
 go:∀{w:ZD}{A:Zw}{R:Wb->Z6->Prop}{s:Z6}{it bI:Z3}{env:Rw},Vk (model pw w) A (.compLoop e 0 it bI env) R s->ZK (model pw w) A (RK it) (λAe s'=>Vk (model pw w) A (.compLoop e 0 Ae bI env) R s') (notedBy (model pw w) A env λx s'=>R (.error x) s') s->Vk (model pw w) A (.compStart e 0 it bI env) R s
theorem Jq(cF cf bX:Zt)(bP:List Zt)(scope:X7)(pos:XY):vd (.ListComp cF [⟨cf,bX,bP,0⟩] scope pos):=⟨λh0 h=>codeAny_compStart_list h0 h⟩
theorem aet(cF cf bX:Zt)(bP:List Zt)(scope:X7)(pos:XY):vd (.SetComp cF [⟨cf,bX,bP,0⟩] scope pos):=by
 constructor;intro w A R s it bI env h0 h;refine V2 ?_;show ZK _ _ ((compStart (.SetComp cF [⟨cf,bX,bP,0⟩] scope pos) 0 it bI env).onRaise (λx=>do Se x env;Xk theWindowsPlace)) _ _ s;refine wpAny_notedAt ?_;refine Z8 (XG (wpAny_ite ?_));split;·first|exact Z8 (Z5 (Z5 (ZP rfl h0)));|exact Z5 (ZP rfl h0)
 ·first|exact Z8 (W4 (Z8 (YW (Z8 (wm h (λAe s' h'=>Z5 (ZP rfl h')))))));|(refine Z8 (W4 ?_);show ZK _ _ (Xk bX.pos>>=_) _ _ s;exact Z8 (YW (Z8 (wm h (λAe s' h'=>Z5 (ZP rfl h'))))))
end
section
variable{X:Fx}{ρ aZ:Loc}{O O':af}{s s':Z6}{E:Z3->Z6->Prop}{k:AV->af->Prop}{pos px:XY}
def jw(X Y:Fx)(scope:X7)(cl:List (ZU×Z1)):Prop:=Y.w=X.w/\Y.A=X.A/\∃ah,Y.env=Rp scope cl ah X.env
def lL(X:Fx)(ρ:Loc)(O:af):List Zt->(Bool->af->Prop)->Prop
 |[],k=>k ZW O|[c],k=>Ts X ρ O c k|_,_=>False
theorem GC{D:Z1}{items:Array Z3}{n:Nat}{x:Z3}{Q:Z3->Z6->Prop}{w:ZD}{A:Zw}(ho:s.heap.get? D=Z7 ⟨.type "list",ZT,.seq items n,#[]⟩)(hsz:items.size<=Y8)(hQ:∀h' n',h'.get? D=Z7 ⟨.type "list",ZT,.seq (items.push x) n',#[]⟩->YL D s.heap h'->Q .none {s with heap:=h'}):ZK (model pw w) A (call (.builtin "list.append") [.ref D,x]) Q E s:=wpAny_list_append_plain (hsz:=hsz) ⟨n,ho⟩ λh' hl hs=>let⟨n',e⟩:=hl;hQ h' n' e hs
theorem mP{a b:Nat}(h:@Sw Nat instLTNat a b):@Ne Z1 a b:=X6 h
theorem y8{a b:Nat}(h:@Sw Nat instLTNat b a):@Ne Z1 a b:=Wg h
structure mh(X:Fx)(scope:X7)(cl:List (ZU×Z1))(ρ aZ:Loc):Prop where
 yw:closureFor scope X.env=pure cl
 sub:∀p∈cl,p∈X.env.cells
 apart:cl.Pairwise λx y=>x.2≠y.2
 cell:∀y∈scope.names,y.2≠.cell
 kind:scope.kind=.function
 names:∀y∈scope.names,y.2=.local->scope.names.lookup y.1=some .local
 vars:∀x av,aZ.lookup x=some av->ρ.lookup x=some av/\X.env.kindOf x=some .cell/\(∃c,cl.lookup x=some c)/\∀ah,(Rp scope cl ah X.env).kindOf x=some .cell
structure Acc(X:Fx)(em:String)(jE:AV->Prop)where
 cap:Nat
 own:List AV->aQ
 res:List AV->AV
 obj:Zp
 fits:obj.isFreed=false
 start:∀D h,kG D h obj (own [])step:∀{Y:Fx}{ρ:Loc}{l:List AV}{r:AV}{D:Z1}{y:Z3}{s:Z6}{E:Z3->Z6->Prop}{Q:Z3->Z6->Prop},Y.w=X.w->Y.A=X.A->jE r->l.length<=cap->(∀a∈l,jE a)->Fr Y ρ [(D,own l)] s->aX (ak Y [(D,own l)]) s.heap y r->(∀v h' tk o',YL D s.heap h'->h'.get? D=some o'->(∀D' jF,aJ (ak Y [(D,own l)]) s.heap D' jF->kG D' jF o' (own (l++[r])))->Q v {s with heap:=h',toks:=tk})->ZK (model pw Y.w) Y.A (call (.builtin em) [.ref D,y]) Q E s
 fin:∀{D:List Z1}{h:YQ}{o:Zp}{a:Z1}{l:List AV},l.length<=cap->a∉D->h.get? a=some o->kG D h o (own l)->aX D h (.ref a) (res l)
def xQ(X:Fx)(scope:X7)(cl:List (ZU×Z1))(aZ:Loc)(cf:Zt)(bP:List Zt)(cF:Zt)(g:AV->Option AV)(jE:AV->Prop)(l:List AV):Prop:=∀Y,jw X Y scope cl->∀(i:Nat)(av:AV)(Oc:af),l[i]?=Z7 av->Tg Y aZ Oc cf av λρ'=>lL Y ρ' Oc bP λb O'=>O'=Oc/\(b=ZW->Ev Y ρ' Oc cF λr eC=>eC=Oc/\g av=Z7 r/\jE r)/\(b=ZS->g av=ZT)
def JR(X:Fx)(ρ:Loc)(O:af)(s:Z6)(R:Z3->Z1->Wb->Z6->Prop)(res:AV)(ag:af):Prop:=∀s' m Dn Cn oC,s'.heap.Ns Cn m->s'.heap.get? Cn=Z7 oC->Fr X ρ ((Cn,.other oC)::ag) s'->aJ (ak X O) s.heap (ak X ((Cn,.other oC)::ag)) s'.heap->aX (ak X ((Cn,.other oC)::ag)) s'.heap (.ref Dn) res->R (.ref Dn) Cn (.ok .next) s'
inductive xR{X:Fx}{em:String}{jE:AV->Prop}(T:Acc X em jE)(Z:Zp->Fx)(aZ:Loc)(Dn:Z1)(l:List AV)(g:AV->Option AV)(n:Nat)(St:Nat->YQ->Prop)(cL:List Z1)(aH:YQ):Nat->Z6->Prop|mk{i:Nat}{fw:Zp}{s':Z6}(F':Fr (Z fw) aZ [(Dn,T.own ((l.take i).filterMap g))] s')(aW:St i s'.heap)(mR:aJ cL aH (ak (Z fw) [(Dn,T.own [])]) s'.heap)(hi:i<=n)(vW:∀a∈(l.take i).filterMap g,jE a):xR T Z aZ Dn l g n St cL aH (n+1-i) s'
theorem aeR{Y:Fx}{bP:List Zt}{kb:Bool->af->Prop}{Q:Bool->Z6->Prop}{E:Z3->Z6->Prop}(h:lL Y ρ O bP kb)(F:Fr Y ρ O s)(hQ:∀b s',lM Y ρ O s kb b s'->Q b s'):ZK (model pw Y.w) Y.A (forIn bP ZW λc r=>if r=ZW then do let ok<-PT c Y.env (eval c Y.env);pure (Wu ok)else pure (Wu r)) Q E s:=by match bP,h with|[],h=>exact wpAny_tests_nil (hQ _ _ ⟨_,F,.refl _ _,h⟩);|[c],h=>exact wpAny_tests_one (wm (h _ s F) (λb ig x=>hQ _ _ x))
theorem Fr.bY{OL O':af}(F:Fr X ρ (OL++O') s){a:Z1}(ha:a∈OL.map (·.1)):(aP X.w.params).get? a=ZT/\a∉ak X O':=by
 have nd:=F.nd;rw[ZJ,YY]at nd;refine aR (ZY.mp ha) λp hp e=>?_;cases e;obtain⟨b1,b2,b3,b4,C⟩:=F.own p (Zk _ hp);refine⟨b4,λq=>?_⟩;refine jB q (λq=>?_) (λq=>?_) (λn q=>?_) (λq=>?_) λo' q=>?_;·exact nd.2.2 _ ha _ q rfl
 ·exact b2 q
 ·exact b3.1 n _ q rfl
 ·refine ZR b1 (λz=>?_) (λz=>?_);·refine br (X.old _ q) λo ho=>?_;have z:X.h₀.get? p.1=ZT:=z;replace ho:=z▸ho;cases ho
  ·exact X.h9 _ z q
 ·exact b3.2 _ q rfl
theorem DU{em:String}{jE:AV->Prop}(T:Acc X em jE){e cF cf:Zt}{bP:List Zt}{scope:X7}{cl:List (ZU×Z1)}(g:AV->Option AV)(ah:mh X scope cl ρ aZ)(LR:va e cF cf bP em)(SR:vd e){R:Z3->Z1->Wb->Z6->Prop}{um:SV Z3}(zL:∀{s:Z6}{Q:Z3->Z6->Prop}{E:Z3->Z6->Prop},Q (.ref s.heap.objs.size) {s with heap:=s.heap.push T.obj}->ZK (model pw X.w) X.A um Q E s){it:Z3}{aL:Z6}(x:pO X ρ O s (λl ag=>l.length<=T.cap/\xQ X scope cl aZ cf bP cF g jE l/\JR X ρ O s R (T.res (l.filterMap g)) ag) it aL):ZK (model pw X.w) X.A um (λbI cR=>ZK (model pw X.w) X.A (newFunctionEnv scope X.env.globals cl [] X.env.qual ZT .none (Z7 X.env)) (λDN dJ=>Vk (model pw X.w) X.A (.compStart e 0 it bI {DN with scope:=relabel scope X.env}) (R bI DN.locals) dJ) E cR) E aL:=by
 obtain@⟨am,io,fp,n,P,St,l,ag,C,W,lE,pV,hI,aS,sD,Fo,dG,hP,hsz,j8,hR⟩:=x;refine fB (aS.own _ (.head _)) λb1 b2 b3 b4 oJ wc eI=>?_;cases(show io=oJ from eI.symm);refine zL (Sv ah.cell (by intro y hy;simp at hy) (λaH wb tU=>?_) ah.kind);dsimp only at wb tU⊢;generalize zc:aL.heap.push T.obj=H2 at wb tU⊢;generalize hC:H2.objs.size=Cn at wb tU⊢;generalize oT:aL.heap.objs.size=Dn;have kY:@Eq Nat Cn (Dn+1):=by rw[<-hC,<-zc,Qq,oT]
 have qx:∀(a:Nat)o,aL.heap.get? a=Z7 o->@Sw Nat instLTNat a Dn:=λa o e=>oT▸Zc e;have old:∀b o,aL.heap.get? b=Z7 o->aH.get? b=Z7 o:=λb o e=>tU.extBut b o (mP (by have:=qx b o e;exact(au 0x3 0xd444f18b230e441) kY this)) (ZX _ (zc▸ZX _ e));have OM:aH.get? Dn=Z7 T.obj:=tU.extBut _ _ (mP ((ar 0x2 0x1a889e116441) kY)) (ZX _ (by exists Zz zc;exists Zz oT;exact Zy _ T.fits));have aw:Fr X ρ ag aL:=aS.drop (Ys _ _);have Au:∀(d:Nat),d∈ak X ag->@Sw Nat instLTNat d Dn:=λd hd=>oT▸aw.lt d hd;have As:@Sw Nat instLTNat am Dn:=qx am _ wc;refine iK aS.vars λm0 L2 FB zm hv0=>?_;have GN:∀n(c:Nat),(n,c)∈cl->@Sw Nat instLTNat c Dn:=λn c hc=>oT▸(zm n c (ah.sub _ hc)).lt;let Z:Fx:={w:=X.w,A:=X.A,env:=Rp scope cl Cn X.env,h₀:=aL.heap,D₀:=ak X ag,bY:=[am],held:=[],G:=X.G,os:=X.os,fn:=ah.kind,glob:=X.glob,bn:=X.bn,hh:=X.hh,above:=.inl (X2 (by show@LE.le Nat instLENat aL.heap.objs.size Cn;exact(au 0x3 0xd0c3a889e316041) oT kY)),mq:=aS.base,mH:=λa ha=>(aS.bY (OL:=[(am,.other io)]) ha).1,h9:=λa ha=>(aS.bY (OL:=[(am,.other io)]) ha).2,apart:=ah.apart,ni:=λn c hc=>mP (show@Sw Nat instLTNat c Cn by have:=GN n c hc;exact(au 0x3 0xd444f18b230e441) kY this),kK:=λn c c' hc gO=>X.kK n c c' (ah.sub _ hc) (ah.sub _ gO),old:=aw.ex,hnl:=λq hq=>(nomatch hq),hnc:=λq hq=>(nomatch hq),hab:=λq hq=>nomatch hq};have z1:am≠Z.env.locals:=mP (show@Sw Nat instLTNat am Cn by exact(au 0x3 0xd444f18b230e441) kY As);have z2:∀n c,(n,c)∈Z.env.cells->am≠c:=λn c hc=>b3.1 n c (ah.sub _ hc);have z3:Z.h₀.get? am=ZT\/am∈Z.bY:=.inr (.head _);have OJ:(aP Z.w.params).get? am=ZT:=b4;have OK:∀q∈Z.held,am≠q.1:=λq hq=>nomatch hq;have S0:aJ (ak X ((am,.other io)::ag)) aL.heap (ak (Z.hold am io z1 z2 z3) [(Dn,T.own [])]) aH:=λa o ha e=>by
  refine⟨λq=>?_,old a o e⟩;refine jB q (λq=>?_) (λq=>?_) (λn q=>?_) (λq=>?_) λo' q=>?_;·rw[Z2,YS,Zv]at q;have:=qx a o e;exact absurd q (mP this)
  ·have q:a=Cn:=q;have:=qx a o e;exact absurd q (mP ((au 0x3 0xd444f18b230e441) kY this))
  ·exact ha (bg.mpr (.inr (.inr (.inl ⟨n,ah.sub _ q⟩))))
  ·exact ha (bg.mpr ((bg.mp q).imp (λh=>.tail _ h) id))
  ·refine ZR (ZZ.mp q) (λq=>?_) (λq=>?_);·cases q;exact ha (bg.mpr (.inl (.head _)))
   ·cases q
 have FZ:Fr (Z.hold am io z1 z2 z3) aZ [(Dn,T.own [])] {aL with heap:=aH,toks:=aL.toks+0}:=by
  refine⟨λa o ha e=>old a o e,aS.gens,aS.os,⟨_,L2,wb,λn c hc=>(zm n c (ah.sub _ hc)).keeps old,λx av e=>?_⟩,λq hq=>?_,λp hp=>?_,by simp⟩
  ·refine kO (ah.vars x av e) λe1 kx cy kc=>?_;refine br cy λc j9=>?_;refine aR (hv0 x av e1) λv hh r=>?_;refine aj v (.inr (t8 (kc Cn) ?_ c j9)) (r.move S0);refine ZR hh (λcx=>aO cx λk1 C=>?_) (λbH=>f8 bH λC k2 C=>?_);·replace k1:=kx▸k1;cases k1
   ·exact k2
  ·rcases ZZ.mp hq with rfl|hq;·exact old _ _ wc
   ·cases hq
  ·rw[Zv]at hp;subst hp;refine⟨.inl (X2 (by show@LE.le Nat instLENat aL.heap.objs.size Dn;exact(ar 0x2 0x3420e041) oT)),mP (show@Sw Nat instLTNat Dn Cn by exact(ar 0x2 0x1a889e116441) kY),⟨λn c hc=>y8 (GN n c hc),λq hq=>?_⟩,?_,_,OM,T.start _ _⟩
   ·rcases ZZ.mp hq with rfl|hq;·exact y8 As
    ·cases hq
   ·cases e:(aP X.w.params).get? Dn with|none=>exact e;|some o'=>exact absurd (qx _ _ (aS.base _ _ e)) (YT _)
 have GG:Vk (model pw X.w) X.A (.compLoop e 0 (.ref am) (.ref Dn) (Rp scope cl Cn X.env)) (R (.ref Dn) Cn) {aL with heap:=aH,toks:=aL.toks+0}:=by
  refine LR.go (xR T (Z.hold am · z1 z2 z3) aZ Dn l g n St (ak (Z.hold am io z1 z2 z3) [(Dn,T.own [])]) aH) ?_ (n+1) (.mk (i:=0) (fw:=io) (by simpa using FZ) (W.frame _ _ _ lE (λb hb o e=>old b o e)) (.refl _ _) (ZI _) (by simp));rintro C s'(@⟨i,fw,C,F',aW,mR,hi,vW⟩);by_cases k6:i=n
  ·refine W.done s' _ _ (k6▸aW) λh' tk tK=>?_;have cP:∀b o,b≠am->s'.heap.get? b=Z7 o->h'.get? b=Z7 o:=λb o hb e=>tK b o (by simpa using hb) e;obtain⟨m1,DQ,FC,C⟩:=F'.vars;have FD:h'.Ns Cn m1:=let⟨oo,es,ep,e1,e2⟩:=FC;(pf oo es ep (cP _ _ (Xl z1) e1) e2);have K2:∀a o,a≠am->aL.heap.get? a=Z7 o->h'.get? a=Z7 o:=λa o ha e=>cP a o ha (F'.keep a o (show a∉[am]by simpa using ha) e);refine rn (id FD) λoC esC epC tP hC2=>?_;have wy:∀d∈ak X ag,d≠Cn:=λd hd=>mP (by have:=Au d hd;exact(au 0x3 0xd444f18b230e441) kY this);have Ct:aJ (ak X ((am,.other io)::ag)) aL.heap (ak X ((Cn,.other oC)::ag)) h':=λa o ha e=>by
    have zg:=qx a o e;refine⟨λq=>?_,K2 a o (λq=>ha (by exists q;exact bg.mpr (.inl (.head _)))) e⟩;refine ZR (bg.mp q) (λq=>?_) (λq=>?_)
    ·refine ZR (ZZ.mp q) (λq=>?_) (λq=>?_);·exact absurd q (mP (by show@Sw Nat instLTNat a Cn;exact(au 0x3 0xd444f18b230e441) kY zg))
     ·exact ha (bg.mpr (.inl (.tail _ q)))
    ·exact ha (bg.mpr (.inr q))
   have FF:Fr X ρ ((Cn,.other oC)::ag) {s' with heap:=h',toks:=tk}:=by
    have pA:=aS.nd;rw[Z2,ZG]at pA;obtain⟨K7,C⟩:=aS.own _ (.head _);refine aS.move (s':={s' with heap:=h',toks:=tk}) Ct (λa o hl ha e=>K2 a o (λq=>?_) e) F'.gens (F'.os.trans aS.os.symm) (λo e=>K2 _ _ (Xl b2) e) (λn c hc o e=>K2 _ _ (Xl (b3.1 n c hc)) e) (λq hq e=>K2 _ _ (Xl (b3.2 q hq)) e) (λp hp=>?_) ?_
    ·refine ZR K7 (λz=>?_) (λz=>?_);·replace ha:=z▸q▸ha;cases ha
     ·exact hl (q▸z)
    ·rcases ZZ.mp hp with rfl|hp;·refine⟨aS.new (X2 (by show@LE.le Nat instLENat aL.heap.objs.size Cn;exact(au 0x3 0xd0c3a889e316041) oT kY)),λq=>wy _ (bg.mpr (.inr (.inl rfl))) q.symm,⟨λn c hc q=>wy _ (bg.mpr (.inr (.inr (.inl ⟨n,hc⟩)))) q.symm,λq hq e=>wy _ (bg.mpr (.inr (.inr (.inr (.inr ⟨q.2,hq⟩))))) e.symm⟩,?_,oC,tP,rfl⟩;cases e:(aP X.w.params).get? Cn with|none=>rfl;|some o'=>exact absurd (qx _ _ (aS.base _ _ e)) (by show¬@Sw Nat instLTNat Cn Dn;exact(ar 0x2 0x35113c41f6441) kY)
     ·refine fB (aS.own p (.tail _ hp)) λa1 a2 a3 a4 o ho z=>?_;exact⟨a1,a2,a3,a4,o,K2 _ _ (λe=>pA.1 (ZY.mpr (aj p hp e))) ho,z.move Ct⟩
    ·rw[Z2,ZG];exact⟨λq=>wy _ (bg.mpr (.inl q)) rfl,pA.2⟩
   refine fB (F'.own _ (.head _)) λd1 d2 d3 d4 od ft tQ=>?_;have aeT:l.take i=l:=by exists k6;exists Zz dG;exact Yn
   have SX:aJ (ak (Z.hold am fw z1 z2 z3) [(Dn,T.own ((l.take i).filterMap g))]) s'.heap (ak X ((Cn,.other oC)::ag)) h':=λa o ha e=>by
    refine⟨λq=>?_,cP a o (λq=>ha (by exists q;exact bg.mpr (.inr (.inr (.inr (.inr ⟨fw,.head _⟩)))))) e⟩;refine ZR (bg.mp q) (λq=>?_) (λq=>?_)
    ·refine ZR (ZZ.mp q) (λq=>?_) (λq=>?_);·exact ha (bg.mpr (.inr (.inl q)))
     ·exact ha (bg.mpr (.inr (.inr (.inr (.inl (bg.mpr (.inl q)))))))
    ·exact ha (bg.mpr (.inr (.inr (.inr (.inl (bg.mpr (.inr q)))))))
   have lf:(l.filterMap g).length<=T.cap:=ZC (Ua _ _) hsz;have hw:=tQ.move SX;replace hw:=aeT▸hw;refine hR _ m1 Dn Cn oC FD tP FF (sD.trans Ct) (T.fin lf (λq=>?_) (cP _ _ (y8 As) ft) hw);refine ZR (bg.mp q) (λq=>?_) (λq=>?_)
   ·refine ZR (ZZ.mp q) (λq=>?_) (λq=>?_);·exact absurd q (mP (by show@Sw Nat instLTNat Dn Cn;exact(ar 0x2 0x1a889e116441) kY))
    ·exact YT _ (Au _ (bg.mpr (.inl q)))
   ·exact YT _ (Au _ (bg.mpr (.inr q)))
  ·have bC:i<n:=UJ hi k6;refine W.item i s' _ _ bC aW λv h' tk OE jP tK=>?_;have cP:∀b o,b≠am->s'.heap.get? b=Z7 o->h'.get? b=Z7 o:=λb o hb e=>tK b o (by simpa using hb) e;refine oD (pV (i+1) h' jP) λo' nm vs cN gO h8 nE=>?_;have eV:Fr (Z.hold am o' z1 z2 z3) aZ [(Dn,T.own ((l.take i).filterMap g))] {s' with heap:=h',toks:=tk}:=F'.turn cP cN OJ OK;have cR:aJ (ak (Z.hold am fw z1 z2 z3) [(Dn,T.own [])]) s'.heap (ak (Z.hold am o' z1 z2 z3) [(Dn,T.own [])]) h':=afb cP;refine aR (hP i v bC OE) λav aN rv=>?_;have afY:i<l.length:=dG▸bC;have KY:jw X (Z.hold am o' z1 z2 z3) scope cl:=t8 rfl rfl Cn rfl;have rv':aX (ak (Z.hold am o' z1 z2 z3) [(Dn,T.own [])]) h' v av:=rv.move ((S0.trans mR).trans cR);refine Aq (s:={s' with heap:=h',toks:=tk}) cN gO h8 nE ?_;refine wm (j8 _ KY i av [(Dn,T.own ((l.take i).filterMap g))] aN _ {s' with heap:=h',toks:=tk} v eV rv') (λC dJ bS=>dE bS λaf7 gJ kD qr=>?_);have uQ:aJ (ak (Z.hold am io z1 z2 z3) [(Dn,T.own [])]) aH (ak (Z.hold am o' z1 z2 z3) [(Dn,T.own [])]) dJ.heap:=(mR.trans cR).trans kD;have again:∀{u5:Loc}{L5:List AV}{ig:Z6},Fr (Z.hold am o' z1 z2 z3) u5 [(Dn,T.own L5)] ig->aJ (ak (Z.hold am io z1 z2 z3) [(Dn,T.own [])]) aH (ak (Z.hold am o' z1 z2 z3) [(Dn,T.own [])]) ig.heap->(∀b o,b≠am->b∉ak (Z.hold am o' z1 z2 z3) [(Dn,T.own [])]->h'.get? b=Z7 o->ig.heap.get? b=Z7 o)->L5=(l.take (i+1)).filterMap g->(∀a∈L5,jE a)->∃m,m<n+1-i/\xR T (Z.hold am · z1 z2 z3) aZ Dn l g n St (ak (Z.hold am io z1 z2 z3) [(Dn,T.own [])]) aH m ig:=by
    intro u5 L5 ig fR kE OR eL Pd;subst eL;refine aj (n+1-(i+1)) ((ar 0x2 0x6422cc85113c32889e2889e1) bC) (.mk (i:=i+1) (fw:=o') ?_ (W.frame _ _ _ jP (λb hb o e=>?_)) kE bC Pd)
    ·refine iK fR.vars λm5 L3 Pt Fj hv5=>?_;refine⟨fR.keep,fR.gens,fR.os,⟨m5,L3,Pt,Fj,λx Dz e=>?_⟩,fR.held,fR.own,fR.nd⟩;refine iK FZ.vars λm1 DQ FC OV hv1=>?_;refine aR (hv1 x Dz e) λv' hh r'=>?_;refine kO (ah.vars x Dz e) λe1 kx bT kc=>?_;refine br bT λc j9=>?_;refine aj v' (.inr (t8 (kc Cn) ?_ c j9)) (r'.move kE);have hm:=mem_of_lookup j9;have q0:DQ x=Z7 v':=by
      refine ZR hh (λb5=>aO b5 λk1 C=>?_) (λb6=>f8 b6 λC k2 C=>?_);·have:=kc Cn;replace k1:=this▸(show(Z.hold am io z1 z2 z3).env=Rp scope cl Cn X.env from rfl)▸k1;cases k1
      ·exact k2
     refine aR (zm x c (ah.sub _ hm)) λoc FG nw=>?_;refine aR (OV x c hm) λo1 mB qf=>?_;refine aR (Fj x c hm) λo5 PA vT=>?_;have cI:c≠am:=λq=>z2 x c hm q.symm;have e5:=fR.keep c oc (show c∉[am]by simpa using cI) FG;have e6:=old c oc FG;rw[Y1 (PA.symm.trans e5),<-Y1 (mB.symm.trans e6),qf]at vT;injection vT with vT;exists Zz vT;exact q0
    ·refine ZR (Fo b hb) (λq=>?_) (λbJ=>MF bJ λnd ob mC=>?_);·exists q;exists Y1 (e.symm.trans (q▸cN));exact fR.held _ (.head _)
     ·have q:=(S0.trans mR).trans cR b ob nd mC;have e2:o=ob:=Y1 (e.symm.trans q.2);exists e2;exact OR b ob (λz=>nd (by exists z;exact bg.mpr (.inl (.head _)))) q.1 q.2
   refine aeR (Y:=Z.hold am o' z1 z2 z3) qr gJ λb ig x=>?_;obtain⟨afW,fR,kE,rfl,hT,my⟩:=x;cases b with|false=>exists if_neg Ze;refine again fR (uQ.trans kE) (λb o OS hb e=>((kD.trans kE) b o hb e).2) ?_ vW;exists YX;exists aN;exists Vs;simp[my rfl];|true=>
    exists if_pos rfl;refine wm (hT rfl _ ig fR) (λy fP z=>cr z λr fA jv jp ry z=>aO z λeO eg=>?_);subst eO;have aa8:((l.take i).filterMap g).length<=T.cap:=by
     have e2:((l.take i).filterMap g).length<=(l.take i).length:=Ua _ _;have e3:(l.take i).length<=l.length:=by exists Zi;exact ar 0x2 0x1815041
     exact(aU 0x4 0xc08782070326041) hsz e2 e3
    refine T.step (Y:=Z.hold am o' z1 z2 z3) rfl rfl eg.2 aa8 vW jv ry λv h7 tk7 o7 qO e7 x7=>?_;have F7:=jv.update (tk:=tk7) (ao:=T.own ((l.take i).filterMap g++[r])) (.head _) qO e7 (x7 _ _ (.refl _ _));have eP:bp [(Dn,T.own ((l.take i).filterMap g))] Dn (T.own ((l.take i).filterMap g++[r]))=[(Dn,T.own ((l.take i).filterMap g++[r]))]:=by simp[bp]
    replace F7:=eP▸F7;have I3:∀b o,b∉ak (Z.hold am o' z1 z2 z3) [(Dn,T.own [])]->fP.heap.get? b=Z7 o->h7.get? b=Z7 o:=λb o hb e=>(qO.2 b λq=>hb (by exists q;exact bg.mpr (.inl (.head _)))).trans e;refine again F7 (((uQ.trans kE).trans jp).trans λb o hb e=>⟨hb,I3 b o hb e⟩) (λb o OS hb e=>I3 b o hb (((kD.trans kE).trans jp) b o hb e).2) ?_ (λa ha=>by refine ZR (ZE.mp ha) (λq=>?_) (λq=>?_);exact vW a q;exists Zv.mp q;exact eg.2);exists YX;exists aN;exists Vs;simp[eg.1]
 exact SR.go GG (W.self 0 _ _ _ (W.frame _ _ _ lE (λb hb o e=>old b o e)) GG)
noncomputable def Dh(X:Fx):Acc X "list.append" (λC=>True)where
 cap:=Y8;own:=.list;res:=.lst;obj:=⟨.type "list",ZT,.seq #[] 0,#[]⟩;fits:=rfl;start:=λD h=>dT (#[]) 0 rfl (.nil);step:=λ{Y ρ l r D y s E Q}C C C hz C F ry hQ=>by
  obtain⟨d1,d2,d3,d4,od,ft,vs,nn,rfl,I0⟩:=F.own _ (.head _);refine GC ft ?_ λh7 n7 e7 qO=>?_
  ·have:vs.size=l.length:=by exists Zz I0.length;exact bG Y0 rfl
   exists this;exact hz
  ·exact hQ _ h7 s.toks _ qO e7 λD' jF st=>dT (vs.push y) n7 rfl (by exists WU;exact(I0.move st).append (.cons (ry.move st) .nil))
 fin:=λ{D h o a l}C ha hg hx=>by refine iu hx ?_;clear hx;intro vs n cy r;subst cy;exact .lst ha hg r
theorem lL.mono{Y:Fx}{bP:List Zt}{kb ue:Bool->af->Prop}(h:lL Y ρ O bP kb)(q:∀b O',kb b O'->ue b O'):lL Y ρ O bP ue:=by match bP,h with|[],h=>exact q _ _ h;|[c],h=>exactλE s F=>wm (h E s F) (λb s' bS=>kQ bS λaM aS aY e=>⟨aM,aS,aY,q _ _ e⟩)
theorem Lu{cF cf:Zt}{bP:List Zt}{scope:X7}{cl:List (ZU×Z1)}{g:AV->Option AV}{l:List AV}(h:∀Y,jw X Y scope cl->∀(i:Nat)(av:AV)(Oc:af),l[i]?=Z7 av->Tg Y aZ Oc cf av λρ'=>lL Y ρ' Oc bP λb O'=>O'=Oc/\(b=ZW->Ev Y ρ' Oc cF λr eC=>eC=Oc/\g av=Z7 r)/\(b=ZS->g av=ZT)):xQ X scope cl aZ cf bP cF g (λC=>True) l:=λY KY i av Oc aN E s v F r=>wm (h Y KY i av Oc aN E s v F r) (λC aq bH=>dE bH λcz aw aI q=>cQ cz aw aI (q.mono λb O' z=>bM z.1 (λhb E s F=>wm (z.2.1 hb E s F) (λv cR bT=>cr bT λa eW eV gG adW e=>⟨a,eW,eV,gG,adW,e.1,e.2,trivial⟩)) z.2.2))
theorem Gi{ag:af}{Cn:Z1}{oC:Zp}{h':YQ}{tk:Nat}(FF:Fr X ρ ((Cn,.other oC)::ag) s')(nF:YL Cn s'.heap h'):Fr X ρ ag {s' with heap:=h',toks:=tk}/\aJ (ak X ((Cn,.other oC)::ag)) s'.heap (ak X ag) h':=have cP:∀b o,b≠Cn->s'.heap.get? b=Z7 o->h'.get? b=Z7 o:=λb o hb e=>(nF.2 b hb).trans e;⟨FF.abr (s':={s' with heap:=h',toks:=tk}) cP FF.gens rfl,λa o ha e=>⟨λq=>ha (MB q),cP a o (λq=>ha (by exists q;exact MA)) e⟩⟩
theorem Ev.l6{cF cf bX:Zt}{bP:List Zt}{scope:X7}{cl:List (ZU×Z1)}(g:AV->Option AV)(ah:mh X scope cl ρ aZ)(hs:∀x,XV bX X.env x=pure x)(h:It X ρ O bX λl ag=>l.length<=Y8/\(∀Y,jw X Y scope cl->∀(i:Nat)(av:AV)(Oc:af),l[i]?=Z7 av->Tg Y aZ Oc cf av λρ'=>lL Y ρ' Oc bP λb O'=>O'=Oc/\(b=ZW->Ev Y ρ' Oc cF λr eC=>eC=Oc/\g av=Z7 r)/\(b=ZS->g av=ZT))/\k (.lst (l.filterMap g)) ag):Ev X ρ O (.ListComp cF [⟨cf,bX,bP,0⟩] scope pos) k:=λE s F=>by
 rw[eval_ListComp];refine T9 (use:=ZT) (g:=⟨cf,bX,bP,0⟩) (gs:=[]) rfl hs ah.yw ah.kind ah.names (wm (h _ s F) (λxv aq aH=>wm aH (λit aL be=>DU (Dh X) g ah (GI ..) (Jq ..) (λq=>XU q) (be.mono λl ag z=>bM z.1 (Lu z.2.1) (λs' m Dn Cn oC hn tP FF Cu r1=>aj m hn (λh' nF=>?_))))));refine aO (Gi (tk:=s'.toks) FF nF) λF' aW=>?_;exact⟨_,ag,F',Cu.trans aW,r1.move aW,z.2.2⟩
noncomputable def strOf:AV->Option ZU
 |.str x=>Z7 x|_=>ZT
noncomputable def mM(l:List AV)(x:ZU):Bool:=(l.filterMap strOf).contains x
noncomputable def eM(w:ZD)(S:ZU->Bool):AV:=.ext λg v=>∃a o n,v=.ref a/\g a=Z7 o/\n<TP/\o.SetObjOf (strKind pw w) S n
theorem Ja{w:ZD}{S:ZU->Bool}:qX λg v=>∃a o n,v=.ref a/\g a=Z7 o/\n<TP/\o.SetObjOf (strKind pw w) S n:=λg g' v hg bT=>oD bT λa o n e h1 h2 h3=>jM a o n e (hg a o h1) h2 h3
theorem ph(w:ZD)(x:ZU)(t:PG):(strKind pw w).is x (.str x t)=ZW:=by simp[ZH,P6]
theorem abW(l:List AV)(x:ZU):mM (l++[.str x])=λy=>mM l y||decide (y=x):=by funext y;unfold mM;exists Vs;exists List.contains_append;congr 1;show([x]:List ZU).contains y=_;simp
noncomputable def ac4(w:ZD)(l:List AV):aQ:=.ext λC o=>∃n,n<=l.length/\o.SetObjOf (strKind pw w) (mM l) n
noncomputable def Ke(X:Fx)(led:Bool):Acc X "set.add" (λr=>∃x,r=.str x)where
 cap:=4000;own:=ac4 X.w;res:=λl=>eM X.w (mM l);obj:={cls:=.type "set",dict:=ZT,data:=.set #[] 0 (.fresh 0 0 led)};fits:=rfl;start:=λD h=>qs (λC C C C x=>x) 0 (ZI _) (Su led);step:=λ{Y ρ l r D y s E Q}hw C hg hz C F ry hQ=>by
  obtain⟨d1,d2,d3,d4,od,ft,C,n,hn,tV⟩:=F.own _ (.head _);refine br hg ?_;clear hg;intro x b5;subst b5;have aaa:od.SetObjOf (strKind pw Y.w) (mM l) n:=by exists hw;exact tV
  cases ry.iS;have hb:TP=4096:=rfl;refine call_set_add (knd:=strKind pw Y.w) (ph _ _ _) rfl (aaa.setOf ft ((au 0x4 0x30187a0478f030e8300c0af16441) hz hn hb)) ((au 0x4 0x180c3d023c78187418060578b22889e1) hz hn hb) λh' sb oV=>?_;refine aR oV.objOf λo' cN hs'=>?_;refine hQ _ h' _ o' sb cN λD' jF C=>qs (λC C C C x=>x) (if mM l x then n else n+1) ?_ ?_
  ·exists ZQ;split;·exact WV hn
   ·exact TO hn
  ·rw[abW,<-hw];exact hs'
 fin:=λ{D h o a l}hz ha hg hx=>by
  obtain⟨C,n,hn,hs⟩:=hx;refine .ext Ja (jM a o n rfl ?_ ?_ hs);·unfold cv;exists if_neg ha;exact hg
  ·have hb:TP=4096:=rfl;exact(au 0x4 0x30187a0478f030e8300c0af16441) hz hn hb
noncomputable def ji(w:ZD):Bool:=!(w.params.followText "set-order")
theorem Hp{w:ZD}{A:Zw}{Q:Z3->Z6->Prop}(h:Q (.ref s.heap.objs.size) {s with heap:=s.heap.push {cls:=.type "set",dict:=ZT,data:=.set #[] 0 (.fresh 0 0 (ji w))}}):ZK (model pw w) A (newSet (.type "set")) Q E s:=by refine Z8 (Z8 (XG (Z5 ?_)));simp only[newObj];exact Z8 (wpAny_alloc (Z5 h))
variable{K:Kn}
theorem Es.comp{em:String}{jE:AV->Prop}(T:Acc X em jE){x:ZU}{e cF cf bX:Zt}{bP:List Zt}{scope:X7}{cl:List (ZU×Z1)}{um:SV Z3}(hx:Bd X x)(g:AV->Option AV)(ah:mh X scope cl ρ aZ)(LR:va e cF cf bP em)(SR:vd e)(zL:∀{s:Z6}{Q:Z3->Z6->Prop}{E:Z3->Z6->Prop},Q (.ref s.heap.objs.size) {s with heap:=s.heap.push T.obj}->ZK (model pw X.w) X.A um Q E s)(hc:clausesOf e=[⟨cf,bX,bP,0⟩])(he:∀u,∃p,evalThenUse e X.env u=(do let _<-comprehension e scope X.env p um ZS (eval bX X.env) (Z7 u)))(tY:TQ e (Z7 (.Name x px)) pos.line X.env=pure ZW)(hs:∀x,XV bX X.env x=pure x)(h:It X ρ O bX λl ag=>l.length<=T.cap/\xQ X scope cl aZ cf bP cF g jE l/\K.nx (gT ρ x (T.res (l.filterMap g))) ag):Es X ρ O (.Assign [.Name x px] e pos) K:=λE s F=>by
 exists exec_Assign_Name_used _ _ _ _ tY;refine br (he (UT (.Name x px) X.env)) λp he=>?_;exists he;refine Z8 (YW (Z8 (Z8 (wm (T9 (Q:=λC s'=>i6 X O s K .next s') hc hs ah.yw ah.kind ah.names (wm (h _ s F) (λxv aq aH=>wm aH (λit aL be=>DU T g ah LR SR zL (be.mono λl ag z=>bM z.1 z.2.1 (λs' m Dn Cn oC hn tP FF Cu r1=>?_)))))) (λC s' hq=>Z5 (Z5 hq))))));refine Ub (FF.bind hx r1 λh' tk F' aW=>?_);have ho:=F'.ib (.head _);refine rn hn ?_;clear hn;intro oo es ep e1 e2;cases Y1 (tP.symm.trans e1);refine aj m (pf oC es ep ho e2) (λjF nF=>?_);refine aO (Gi (tk:=tk) F' nF) λjT jP=>?_;exact⟨_,ag,jT,(Cu.trans aW).trans jP,z.2.2⟩
theorem Es.aec{x:ZU}{cF cf bX:Zt}{bP:List Zt}{scope:X7}{cl:List (ZU×Z1)}{s6:XY}(hx:Bd X x)(g:AV->Option AV)(ah:mh X scope cl ρ aZ)(tY:TQ (.SetComp cF [⟨cf,bX,bP,0⟩] scope s6) (Z7 (.Name x px)) pos.line X.env=pure ZW)(hs:∀x,XV bX X.env x=pure x)(h:It X ρ O bX λl ag=>l.length<=4000/\(∀Y,jw X Y scope cl->∀(i:Nat)(av:AV)(Oc:af),l[i]?=Z7 av->Tg Y aZ Oc cf av λρ'=>lL Y ρ' Oc bP λb O'=>O'=Oc/\(b=ZW->Ev Y ρ' Oc cF λr eC=>eC=Oc/\g av=Z7 r/\∃y,r=.str y)/\(b=ZS->g av=ZT))/\K.nx (gT ρ x (eM X.w (mM (l.filterMap g)))) ag):Es X ρ O (.Assign [.Name x px] (.SetComp cF [⟨cf,bX,bP,0⟩] scope s6) pos) K:=Es.comp (Ke X (ji X.w)) hx g ah (abq ..) (aet ..) (λq=>Hp q) rfl (λu=>⟨_,rfl⟩) tY hs h
theorem Es.l6{x:ZU}{cF cf bX:Zt}{bP:List Zt}{scope:X7}{cl:List (ZU×Z1)}{s6:XY}(hx:Bd X x)(g:AV->Option AV)(ah:mh X scope cl ρ aZ)(tY:TQ (.ListComp cF [⟨cf,bX,bP,0⟩] scope s6) (Z7 (.Name x px)) pos.line X.env=pure ZW)(hs:∀x,XV bX X.env x=pure x)(h:It X ρ O bX λl ag=>l.length<=Y8/\(∀Y,jw X Y scope cl->∀(i:Nat)(av:AV)(Oc:af),l[i]?=Z7 av->Tg Y aZ Oc cf av λρ'=>lL Y ρ' Oc bP λb O'=>O'=Oc/\(b=ZW->Ev Y ρ' Oc cF λr eC=>eC=Oc/\g av=Z7 r/\True)/\(b=ZS->g av=ZT))/\K.nx (gT ρ x (.lst (l.filterMap g))) ag):Es X ρ O (.Assign [.Name x px] (.ListComp cF [⟨cf,bX,bP,0⟩] scope s6) pos) K:=Es.comp (Dh X) hx g ah (GI ..) (Jq ..) (λq=>XU q) rfl (λu=>⟨_,rfl⟩) tY hs h
variable{kb:Bool->af->Prop}
theorem Cm.inS{w:ZD}{x:ZU}{S:ZU->Bool}(hw:w=X.w)(h:kb (S x) O):Cm X ρ O .In (.str x) (eM w S) kb:=λE s u v F ru rv=>by subst hw;cases ru.iS;cases rv.iX with|mk m p=>
  refine oD p ?_;clear p;intro a o n b6 hg hn hs;subst b6;unfold cv at hg;split at hg;·cases hg
  ·exact wpAny_inSet_of (knd:=ZH pw X.w) (ph _ _ _) rfl (hs.setOf hg hn) (aj _ rfl (.done F (.tok _ _) h))
theorem Cm.ack{w:ZD}{x:ZU}{S:ZU->Bool}(hw:w=X.w)(h:kb (!S x) O):Cm X ρ O .NotIn (.str x) (eM w S) kb:=λE s u v F ru rv=>by subst hw;cases ru.iS;cases rv.iX with|mk m p=>
  refine oD p ?_;clear p;intro a o n bJ hg hn hs;subst bJ;unfold cv at hg;split at hg;·cases hg
  ·exact wpAny_notInSet_of (knd:=ZH pw X.w) (ph _ _ _) rfl (hs.setOf hg hn) (aj _ rfl (.done F (.tok _ _) h))
end
section
variable{X:Fx}{ρ:Loc}{O O':af}{s s':Z6}{E:Z3->Z6->Prop}{k:AV->af->Prop}{kb:Bool->af->Prop}{pos px cD:XY}{K:Kn}
def LV(O:af)(a:AV)(l:List AV):Prop:=a=.lst l\/∃r,a=.ref r/\(r,aQ.list l)∈O
theorem LV.lst{l:List AV}:LV O (.lst l) l:=.inl rfl
inductive Dc(D:List Z1)(h:YQ)(l:List AV):Z3->Prop|mk(ad:Z1)(vs:Array Z3)(n:Nat)(hg:h.get? ad=some ⟨.type "list",none,.seq vs n,#[]⟩)(rl:bb D h vs.toList l):Dc D h l (.ref ad)
theorem Fr.rd{v:Z3}{a:AV}{l:List AV}(F:Fr X ρ O s)(r:aX (ak X O) s.heap v a)(h:LV O a l):Dc (ak X O) s.heap l v:=by
 rcases h with rfl|⟨ad,rfl,hm⟩;·cases r.iL with|mk hd hg rl=>exact⟨_,_,_,hg,rl⟩
 ·cases r.iR;refine kP (F.fL hm) λvs n ho rl=>?_;exact⟨_,vs,n,ho,rl⟩
theorem bb.size{D:List Z1}{h:YQ}{vs:Array Z3}{l:List AV}(r:bb D h vs.toList l):vs.size=l.length:=by(exists Zz (r.length);exact bG Y0 rfl)
theorem wG{l:List AV}{vs:List Z3}(F:Fr X ρ O s)(r:bb (ak X O) s.heap vs l)(h:k (.lst l) O)(tk:Nat):dY X ρ O s k (.ref s.heap.objs.size) {s with heap:=s.heap.push ⟨.type "list",ZT,.seq vs.toArray 0,#[]⟩,toks:=tk}:=.done F (.push _ _ _) (.lst (n:=0) F.fresh (Zy _ rfl) (r.keeps λC C e=>ZX _ e)) h
theorem Bn.add{a b:Int}(h:k (.int (a+b)) O):Bn X ρ O .Add (.int a) (.int b) k:=λE s u v F ru rv=>by cases ru.iI;cases rv.iI;exact PyProof.Rows.add_int (.done F (.tok _ _) (.int _ _) h)
theorem Bn.sub{a b:Int}(h:k (.int (a-b)) O):Bn X ρ O .Sub (.int a) (.int b) k:=λE s u v F ru rv=>by cases ru.iI;cases rv.iI;exact PyProof.Rows.sub_int (.done F (.tok _ _) (.int _ _) h)
theorem Bn.mul{a b:Int}(hm:IntMulOk a b)(h:k (.int (a*b)) O):Bn X ρ O .Mult (.int a) (.int b) k:=λE s u v F ru rv=>by cases ru.iI;cases rv.iI;exact PyProof.Rows.mul_int (.done F (.tok _ _) (.int _ _) h) hm
theorem Bn.mod{a b:Int}(hb:b≠0)(h:k (.int (a.fmod b)) O):Bn X ρ O .Mod (.int a) (.int b) k:=λE s u v F ru rv=>by cases ru.iI;cases rv.iI;exact PyProof.Rows.mod_int hb (.done F (.tok _ _) (.int _ _) h)
theorem Bn.cat{a b:ZU}(hz:a.length+b.length<=Y8)(h:k (.str (a++b)) O):Bn X ρ O .Add (.str a) (.str b) k:=λE s u v F ru rv=>by cases ru.iS;cases rv.iS;exact PyProof.Rows.add_str (λt' tk=>.done F (.tok _ _) (.str _ _) h) hz
theorem Bn.wn{a b:AV}{l l':List AV}(ha:LV O a l)(hb:LV O b l')(hz:l.length+l'.length<=Y8)(h:k (.lst (l++l')) O):Bn X ρ O .Add a b k:=λE s u v F ru rv=>by
 obtain⟨ad,vs,n,hg,rl⟩:=F.rd ru ha;obtain⟨oq,eA,n',fC,gE⟩:=F.rd rv hb;refine concat_meets (aj _ hg rfl) (aj _ fC rfl) noFill_list_add seq_list_add PySem.F.slot_list_add PySem.F.entry_list_add (PySem.F.args_list_add_2 _ _) (list_addW ad oq vs eA n n' ZT ZT #[] #[] (by(exists rl.size;exists gE.size);exact hz)) (bM hg fC ?_);have:=wG (s:=s) (vs:=vs.toList++eA.toList) F (rl.append gE) h s.toks;have e:vs++eA=(vs.toList++eA.toList).toArray:=by simp
 exists e;exact this
theorem bb.replicate{D:List Z1}{h:YQ}{v:Z3}{a:AV}(r:aX D h v a):∀n,bb D h (YC n v) (YC n a):=by intro N';induction N' with|zero=>exact .nil;|succ n ih=>exact .cons r (ih)
theorem NO(items:Array Z3):∀(n:Nat)(bI:Array Z3),(Qo (λx1 x2=>x1++x2) bI (YC n items)).toList=bI.toList++(YC n items.toList).flatten:=by intro N';induction N' with|zero=>intro bI;simp;|succ n ih=>intro bI;rw[Wa,Wt,ih];simp[Wa]
theorem bb.flat{D:List Z1}{h:YQ}{vs:List Z3}{l:List AV}(r:bb D h vs l):∀n,bb D h (YC n vs).flatten (YC n l).flatten:=λn=>by induction n with|zero=>exact .nil;|succ n ih=>exists Wa;exists Wa;exists Ro;exists Ro;exact r.append ih
set_option tactic.hygienic true in theorem Bn.abj{a:AV}{l:List AV}{x:Int}(ha:LV O a l)(zI:-(2^63:Int)<=x)(Pg:x<2^63)(hz:l.length*x.toNat<=2^24)(hl:l≠[])(h:k (.lst (YC x.toNat l).flatten) O):Bn X ρ O .Mult a (.int x) k:=λE s u v F ru rv=>by
 obtain⟨ad,vs,n,hg,rl⟩:=F.rd ru ha;cases rv.iI;rename_i t;have pb:vs.size*x.toNat<=2^24:=by exists rl.size;exact hz
 refine wpAny_binaryOp_repeat_ref (T:="list") (U:="int") (by decide) (aj _ hg rfl) (λs'=>typeIs_int s' x t) noFill_list_mul PySem.F.fills_int_mul Tb repeat_list PySem.F.slot_int_index.lookup (RJ Tb (typeIs_int s x t) PySem.F.entry_int_rmul (PySem.F.args_int_rmul_2 _ _) (int___rmul___int_list x t ad vs n) ⟨hg,rfl,(aj _ hg rfl),RJ PySem.F.slot_list_mul (aj _ hg rfl) PySem.F.entry_list_mul (PySem.F.args_list_mul_2 _ _) (AutoListH.list___mul___list_int_3 ad vs n x t (by simp[Builtin.List.listFitsIndex];exact(fx 0x2 0x6c2eb86018060180601806018060180601825fc0c0300c0300c0300c0300c0300c0304bc2eff0300c0300c0300c0300c0300c0300c12f0bb6175c300c0300c0300c0300c0300c0300c12f) zI Pg) (by exact Ar.bA 0x4 0xc060180601845e3d484f0c0300c0300c0300c0300c0300c0304be229852fca5e2f6461 [_,(2^63-1)%8,_] [] (by kernel_rfl) pb (Yw (2^63-1) 8) (UL (2^63-1) (by decide:8>0))) (by simp[Builtin.List.listTooLong,Y8];exact(aD 0x2 0xc060180601845e1c060180601845e1) pb)) ⟨hg,?_⟩⟩);have e:vs.isEmpty=ZS:=by have:=rl.size;cases l with|nil=>exact absurd rfl hl;|cons a l=>rw[P5];simp at this;simp[this]
 (exists e;exists if_neg Ze);have e2:Qo (λx1 x2=>x1++x2) #[] (YC x.toNat vs)=((YC x.toNat vs.toList).flatten).toArray:=by apply Array.ext';exists NO ..;simp
 exists e2;exact wG (s:=s) F (rl.flat _) h s.toks
theorem Ip.add{a b:Int}(h:k (.int (a+b)) O):Ip X ρ O .Add (.int a) (.int b) k:=λE s u v F ru rv=>by cases ru.iI;cases rv.iI;exact PyProof.Rows.iadd_int (.done F (.tok _ _) (.int _ _) h)
theorem Ip.sub{a b:Int}(h:k (.int (a-b)) O):Ip X ρ O .Sub (.int a) (.int b) k:=λE s u v F ru rv=>by cases ru.iI;cases rv.iI;exact PyProof.Rows.isub_int (.done F (.tok _ _) (.int _ _) h)
theorem Un.neg{a:Int}(h:k (.int (-a)) O):Un X ρ O .USub (.int a) k:=λE s u F r=>by cases r.iI;exact P.neg_int (.done F (.tok _ _) (.int _ _) h)
theorem hV{c:Bool}(F:Fr X ρ O s)(h:kb c O):∃c',(WE c)=.bool c'/\lM X ρ O s kb c' s:=aj c rfl (.done F (.refl _) h)
theorem Cm.M1{a b:Int}(h:kb (a==b) O):Cm X ρ O .Eq (.int a) (.int b) kb:=λE s u v F ru rv=>by cases ru.iI;cases rv.iI;exact PyProof.Rows.eq_int (hV F h)
theorem Cm.nei{a b:Int}(h:kb (a !=b) O):Cm X ρ O .NotEq (.int a) (.int b) kb:=λE s u v F ru rv=>by cases ru.iI;cases rv.iI;exact PyProof.Rows.ne_int (hV F h)
theorem Cm.lt{a b:Int}(h:kb (decide (a<b)) O):Cm X ρ O .Lt (.int a) (.int b) kb:=λE s u v F ru rv=>by cases ru.iI;cases rv.iI;exact R6 (hV F h)
theorem Cm.le{a b:Int}(h:kb (decide (a<=b)) O):Cm X ρ O .LtE (.int a) (.int b) kb:=λE s u v F ru rv=>by cases ru.iI;cases rv.iI;exact PyProof.Rows.le_int (hV F h)
theorem Cm.gt{a b:Int}(h:kb (decide (b<a)) O):Cm X ρ O .Gt (.int a) (.int b) kb:=λE s u v F ru rv=>by cases ru.iI;cases rv.iI;exact PyProof.Rows.gt_int (hV F h)
theorem Cm.ge{a b:Int}(h:kb (decide (b<=a)) O):Cm X ρ O .GtE (.int a) (.int b) kb:=λE s u v F ru rv=>by cases ru.iI;cases rv.iI;exact PyProof.Rows.ge_int (hV F h)
theorem Cm.eqs{a b:ZU}(h:kb (a==b) O):Cm X ρ O .Eq (.str a) (.str b) kb:=λE s u v F ru rv=>by cases ru.iS;cases rv.iS;exact PyProof.Rows.eq_str (hV F h)
theorem Cm.nes{a b:ZU}(h:kb (a !=b) O):Cm X ρ O .NotEq (.str a) (.str b) kb:=λE s u v F ru rv=>by cases ru.iS;cases rv.iS;exact PyProof.Rows.ne_str (hV F h)
theorem Jt{D:List Z1}{h:YQ}{vs:Array Z3}{xs:List ZU}(r:bb D h vs.toList (xs.map .str))(j:Nat)(hj:j<vs.size):∃t,∃hx:j<xs.length,vs[j]=.str xs[j] t:=by
 have hx:j<xs.length:=by have:=r.size;rw[Z4]at this;exact(au 0x3 0x19187421e441) hj this
 obtain⟨v,hv,rv⟩:=r.get (i:=j) (a:=.str xs[j]) (by(exists ZN;exists Z0 hx);rfl);rw[Wo,Yg hj]at hv;cases rv.iS;exact kn _ hx (Y1 hv)
theorem Dj(xs ys:List ZU)(h:xs.length=ys.length):((Zh xs.length).all λj=>xs[j]?.getD XZ==ys[j]?.getD XZ)=(xs==ys):=by
 rw[U6,W9,beq_iff_eq];constructor;·intro q;apply Q4 h;intro j h1 h2;have:=q j (X4.mpr h1);rw[Z0 h1,Z0 h2]at this;simpa using this
 ·rintro rfl j C;simp
theorem GD{A:Zw}{l b:Z1}{vs eA:Array Z3}{xs ys:List ZU}{D:List Z1}(r:bb D s.heap vs.toList (xs.map .str))(r':bb D s.heap eA.toList (ys.map .str))(hs:vs.size=eA.size):∀j(h1:j<vs.size)(h2:j<eA.size),SeqAt.EqAt A s vs[j] eA[j] (xs[j]?.getD XZ==ys[j]?.getD XZ):=λj h1 h2=>by refine j4 (Jt r j h1) λt hx e=>?_;refine j4 (Jt r' j h2) λt' pa e'=>?_;(exists e;exists e';exists Z0 hx;exists Z0 pa);exact SeqAt.EqAt.str_str _ _ _ _
theorem Cm.vA{a b:AV}{xs ys:List ZU}(hu:X.A.units<X1)(ha:LV O a (xs.map .str))(hb:LV O b (ys.map .str))(h:kb (xs==ys) O):Cm X ρ O .Eq a b kb:=λE s u v F ru rv=>by
 obtain⟨ad,vs,n,hg,rl⟩:=F.rd ru ha;obtain⟨oq,eA,n',fC,gE⟩:=F.rd rv hb;have e1:=rl.size;have e2:=gE.size;rw[Z4]at e1 e2;by_cases hs:vs.size=eA.size;·refine SeqAt.eq_listAt (items:=vs) (items2:=eA) (cX _ hg rfl n rfl) (cX _ fC rfl n' rfl) hs hu (GD (l:=ad) (b:=oq) rl gE hs) ?_;(exists e1;exists Dj xs ys ((aU 0x4 0xd047a113441e841) e1 e2 hs));exact hV F h
 ·refine SeqAt.eq_list_lengthsAt (items:=vs) (items2:=eA) (cX _ hg rfl n rfl) (cX _ fC rfl n' rfl) (by simpa using hs) hu ?_;have:(xs==ys)=ZS:=by rw[beq_eq_false_iff_ne];rintro rfl;exact(au 0x3 0x6841f6861f6843) e1 hs e2
  rw[this]at h;exact hV F h
theorem Cm.nel{a b:AV}{xs ys:List ZU}(hu:X.A.units<X1)(ha:LV O a (xs.map .str))(hb:LV O b (ys.map .str))(h:kb (xs !=ys) O):Cm X ρ O .NotEq a b kb:=λE s u v F ru rv=>by
 obtain⟨ad,vs,n,hg,rl⟩:=F.rd ru ha;obtain⟨oq,eA,n',fC,gE⟩:=F.rd rv hb;have e1:=rl.size;have e2:=gE.size;rw[Z4]at e1 e2;by_cases hs:vs.size=eA.size;·refine RI (items:=vs) (items2:=eA) (cX _ hg rfl n rfl) (cX _ fC rfl n' rfl) hs hu (GD (l:=ad) (b:=oq) rl gE hs) _ _ _ _ ?_;(exists e1;exists Dj xs ys ((aU 0x4 0xd047a113441e841) e1 e2 hs));exact hV F h
 ·refine UF (items:=vs) (items2:=eA) (cX _ hg rfl n rfl) (cX _ fC rfl n' rfl) (by simpa using hs) hu _ _ _ _ ?_;have:(xs !=ys)=ZW:=by rw[bne_iff_ne];rintro rfl;exact(au 0x3 0x6841f6861f6843) e1 hs e2
  rw[this]at h;exact hV F h
theorem Cm.AD{a b:AV}{l:List AV}(hu:X.A.units<X1)(ha:LV O a l)(hb:LV O b [])(h:kb (!l.isEmpty) O):Cm X ρ O .NotEq a b kb:=λE s u v F ru rv=>by obtain⟨ad,vs,n,hg,rl⟩:=F.rd ru ha;obtain⟨oq,eA,n',fC,gE⟩:=F.rd rv hb;have e1:=rl.size;have e2:=gE.size;rw[Ww]at e2;cases l with
 |nil=>rw[Ww]at e1;refine RI (items:=vs) (items2:=eA) (e:=λC=>ZW) (cX _ hg rfl n rfl) (cX _ fC rfl n' rfl) ((ar 0x3 0x682f1682f0e841) e2 e1) hu (λj h1 h2=>absurd h1 ((ar 0x23 0xd05e2f6441) e1)) _ _ _ _ ?_;exists e1;exact hV F h;|cons a l=>rw[ZF]at e1;refine UF (items:=vs) (items2:=eA) (cX _ hg rfl n rfl) (cX _ fC rfl n' rfl) (by simp;exact(au 0x24 0x34178f5113c22f6862) e2 e1) hu _ _ _ _ ?_;exact hV F h
theorem Tr.bool{b:Bool}(h:kb b O):Tr X ρ O (.bool b) kb:=λE s u F r=>by cases r.iB;exact VJ (.done F (.refl _) h)
theorem Tr.int{a:Int}(h:kb (a !=0) O):Tr X ρ O (.int a) kb:=λE s u F r=>by cases r.iI;exact P.truthy_int (.done F (.refl _) h)
theorem Tr.none(h:kb ZS O):Tr X ρ O .none kb:=λE s u F r=>by cases r.iN;exact truthy_none (.done F (.refl _) h)
theorem Tr.str{x:ZU}(hz:x.length<=Y8)(h:kb ((x.length:Int)!=0) O):Tr X ρ O (.str x) kb:=λE s u F r=>by cases r.iS;exact P.truthy_str (by rw[Zs]at hz;exact(aD 0x2 0x180c0300c0308bc3ed84300c0300c0300c0300c0300c0300c12f) hz) (.done F (.tok _ _) h)
theorem Tr.list{a:AV}{l:List AV}(ha:LV O a l)(hz:(l.length:Int)<2^63)(h:kb (!l.isEmpty) O):Tr X ρ O a kb:=λE s u F r=>by
 obtain⟨ad,vs,n,hg,rl⟩:=F.rd r ha;refine wpAny_truthy_list (cX _ hg rfl n rfl) (by exists rl.size;exact hz) (.done F (.tok _ _) ?_);have e:vs.isEmpty=l.isEmpty:=by have:=rl.size;cases l with|nil=>simp at this;simp[this];|cons a l=>simp at this;rw[P5];simp[this]
 exists e;exact h
theorem Un.not{a:AV}(h:Tr X ρ O a λc ag=>k (.bool (!c)) ag):Un X ρ O .Not a k:=λE s u F r=>not_of (wm (h _ s u F r) (λc s' b7=>kQ b7 λag aw st q=>⟨_,ag,aw,st,.bool _,q⟩))
def ur:Zt->Prop
 |.Slice ..=>False|_=>True
theorem CC{slice:Zt}(hn:ur slice){o i:Z3}:subscripted slice ZS o i=operate [o,i] (getItem o i):=by cases slice<;>first|rfl|exact hn.elim
theorem Ix.list{value slice:Zt}{a x:AV}{l:List AV}{i:Int}(hn:ur slice)(ha:LV O a l)(h0:0<=i)(h1:i<2^63)(hx:l[i.toNat]?=Z7 x)(h:k x O):Ix X ρ O value slice a (.int i) k:=λE s u v F ru rv=>by obtain⟨ad,vs,n,hg,rl⟩:=F.rd ru ha;cases rv.iI;refine aR (rl.get hx) λv hv r=>?_;have hL:s.heap.IsList ad vs:=cX _ hg rfl n rfl;exact Qn hL.typeIs VI.lookup (wpAny_getItem_list hL h0 h1 (by simpa using hv) (.done F (.refl _) r h)) (CC hn)
set_option tactic.hygienic true in theorem Ix.tup{value slice:Zt}{x:AV}{l:List AV}{i:Int}{j:Nat}(hn:ur slice)(h0:-(2^63)<=i)(h1:i<2^63)(hj:seqIndex? i l.length=Z7 j)(hx:l[j]?=Z7 x)(h:k x O):Ix X ρ O value slice (.tup l) (.int i) k:=λE s u v F ru rv=>by cases ru.iT with|mk hd hg rl=>rename_i ad vs n;cases rv.iI;refine aR (rl.get hx) λv hv r=>?_;exact item_tupleT (l:=vs.toList) (cX _ hg rfl n (by simp)) h0 h1 (by exists rl.length;exact hj) hv (.done F (.refl _) r h) (CC hn)
noncomputable def qG(l:List AV)(lo hi st:Option Int):List AV:=(Qm (Xr lo hi st l.length).1 (Xr lo hi st l.length).2.1 (Xr lo hi st l.length).2.2).filterMap (l[·]?)
theorem bb.pick{D:List Z1}{h:YQ}{vs:List Z3}{l:List AV}(r:bb D h vs l)(js:List Nat):bb D h (js.filterMap (vs[·]?)) (js.filterMap (l[·]?)):=by induction js with|nil=>exact .nil;|cons j js ih=>(exists YO;exists YO);cases e:l[j]? with
 |none=>
   have:vs[j]?=ZT:=by rw[Uq]at e⊢;exists r.length;exact e
   exists this;exact ih;|some a=>refine aR (r.get e) λv hv rv=>?_;exists hv;exact .cons rv ih
def sR(X:Fx)(ρ:Loc)(O:af):Option Zt->(Option Int->af->Prop)->Prop
 |none,k=>k ZT O|some e,k=>Ev X ρ O e λa ag=>∃i,a=.int i/\k (Z7 i) ag
inductive JV(X:Fx)(ρ:Loc)(O:af)(s:Z6)(k:Option Int->af->Prop)(v:Z3)(s':Z6):Prop|mk(i:Option Int)(O':af)(F:Fr X ρ O' s')(st:aJ (ak X O) s.heap (ak X O') s'.heap)(p:IsPart v i)(q:k i O')
theorem sR.ok{e:Option Zt}{k:Option Int->af->Prop}(h:sR X ρ O e k)(F:Fr X ρ O s):ZK (model pw X.w) X.A (evalPart e X.env) (JV X ρ O s k) E s:=by cases e with|none=>exact Z5 ⟨_,O,F,.refl _ _,.none,h⟩;|some e=>refine wm (h _ s F) (λv aq z=>?_);obtain⟨a,ag,aw,st,r,i,e,aH⟩:=z;cases e;cases r.iI;exact⟨_,ag,aw,st,.int _ _,aH⟩
inductive De(O:af)(a:AV)(i j m:Option Int)(k:AV->af->Prop):Prop|mk(l:List AV)(hl:LV O a l)(hm:m≠some 0)(hz:l.length<=Y8)(hk:k (.lst (qG l i j m)) O)
theorem aei{value:Zt}{lo hi st:Option Zt}{a vl vu vt:Z3}{av:AV}{i j m:Option Int}(F:Fr X ρ O s)(r:aX (ak X O) s.heap a av)(q:De O av i j m k)(B1:IsPart vl i)(B2:IsPart vu j)(B3:IsPart vt m):ZK (model pw X.w) X.A (subscriptTail value (.Slice lo hi st px) a (.ref s.heap.objs.size)) (dY X ρ O s k) E {s with heap:=s.heap.push {cls:=.type "slice",data:=.fields #[vl,vu,vt]}}:=by
 obtain⟨l,hl,hm,hz,hk⟩:=q;obtain⟨ad,vs,n,hg,rl⟩:=F.rd r hl;have g:=fX.push s {cls:=.type "slice",data:=.fields #[vl,vu,vt]} s.toks;have fC:=g.keep _ _ hg;have hL:(s.heap.push {cls:=.type "slice",data:=.fields #[vl,vu,vt]}).IsList ad vs:=cX _ fC rfl n rfl;have fin:ZK (model pw X.w) X.A (getItem (.ref ad) (.ref s.heap.objs.size)) (dY X ρ O s k) E {s with heap:=s.heap.push {cls:=.type "slice",data:=.fields #[vl,vu,vt]}}:=by
  refine wpAny_getItem_list_slice hL (PB ..) B1 B2 B3 hm ?_ (by exists rl.size;exact hz);have e:slicePick vs i j m=(Ql (vs.toList[·]?) (Qm (Xr i j m l.length).1 (Xr i j m l.length).2.1 (Xr i j m l.length).2.2)).toArray:=by unfold slicePick;exists rl.size;simp only[Wo]
  exists e;exact .from g.nZ (wG (F.grow g) ((rl.keeps g.keep).pick _) hk s.toks)
 have tT:T8 {s with heap:=s.heap.push {cls:=.type "slice",data:=.fields #[vl,vu,vt]}} (.ref ad) "list":=aj _ fC rfl;cases st with|none=>exact Qn (ops:=[.ref s.heap.objs.size,.ref ad]) tT VI.lookup fin rfl;|some st=>exact Qn (ops:=[.ref ad,.ref s.heap.objs.size]) tT VI.lookup fin rfl
theorem Ev.slice{value:Zt}{lo hi st:Option Zt}(h:Ev X ρ O value λa ag=>sR X ρ ag lo λi aM=>sR X ρ aM hi λj eW=>sR X ρ eW st λm Da=>De Da a i j m k):Ev X ρ O (.Subscript value (.Slice lo hi st px) pos) k:=λE s F=>by refine Subscript_ (wm (h _ s F) (λa aq z=>?_));refine cr z ?_;clear z;intro av ag aw aI a5 aH;refine wpAny_Slice (wm (aH.ok aw) (λvl aL z=>?_));obtain⟨i,aM,aS,aY,B1,be⟩:=z;have afg:=aI.trans aY;have cK:=a5.move aY;clear a5 aH aw;refine wm (be.ok aS) (λvu cR z=>?_);obtain⟨j,eW,eV,gG,B2,qq⟩:=z;refine wm (qq.ok eV) (λvt dJ z=>?_);obtain⟨m,Da,gJ,kD,B3,qr⟩:=z;exact wm (aei gJ ((cK.move gG).move kD) qr B1 B2 B3) (λC C z=>z.from ((afg.trans gG).trans kD))
end
theorem LM{x:ZU}:∀(names:List (ZU×Yj))(n:Nat)(bI:List (ZU×Z1)),(bI.lookup x).isSome=ZW->((XF n names bI).lookup x).isSome=ZW:=by intro N';induction N' with|nil=>exactλ_ _ h=>h;|cons ij r ih=>
  obtain⟨y,k⟩:=ij;intro n bI h;unfold XF;by_cases q:(k==Vj)=ZW
  ·exists if_pos q;refine ih _ _ ?_;exists ZM;by_cases z:(x==y)=ZW;·exists z;rfl
   ·simp only[XX]at z;exists z;exact h
  ·exists if_neg q;exact ih _ _ h
theorem cellsFrom_some{x:ZU}:∀(names:List (ZU×Yj))(n:Nat)(bI:List (ZU×Z1)),names.lookup x=Z7 .cell->((XF n names bI).lookup x).isSome=ZW:=by intro N';induction N' with|nil=>intro _ _ h;simp at h;|cons ij r ih=>
  obtain⟨y,k⟩:=ij;intro n bI h;unfold XF;rw[ZM]at h;by_cases z:(x==y)=ZW
  ·replace h:=z▸h;have:k=.cell:=by simpa using h
   exists this;exists(if_pos (by decide));exact LM r _ _ (by(exists ZM;exists z);rfl)
  ·simp only[XX]at z;replace h:=z▸h;split;·exact ih _ _ h
   ·exact ih _ _ h
theorem yv:∀(names:List (ZU×Yj))(n:Nat)(bI:List (ZU×Z1)),(names.map (·.1)).Nodup->(bI.map (·.1)).Nodup->(∀x∈names.map (·.1),x∉bI.map (·.1))->((XF n names bI).map (·.1)).Nodup:=by intro N';induction N' with|nil=>exactλ_ _ _ h _=>h;|cons ij r ih=>
  obtain⟨y,k⟩:=ij;intro n bI hn h hd;rw[Z2,ZG]at hn;unfold XF;split
  ·refine ih _ _ hn.2 ?_ λx hx q=>?_;·rw[Z2,ZG];exact⟨hd y (.head _),h⟩
   ·rcases ZZ.mp q with rfl|q;·exact hn.1 hx
    ·exact hd x (.tail _ hx) q
  ·exact ih _ _ hn.2 h λx hx=>hd x (.tail _ hx)
theorem CN{l:List (ZU×Z1)}(h:(l.map (·.1)).Nodup):∀n c c',(n,c)∈l->(n,c')∈l->c'=c:=by induction l with|nil=>intro C C C h;cases h;|cons p l ih=>
  rw[Z2,ZG]at h;intro n c c' h1 h2;refine ZR (ZZ.mp h1) (λe1=>?_) (λm1=>?_)<;>refine ZR (ZZ.mp h2) (λe2=>?_) (λm2=>?_);·rw[<-e1]at e2;exact(Prod.mk.inj e2).2
  ·subst e1;exact(h.1 (ZY.mpr (aj (n,c') m2 rfl))).elim
  ·subst e2;exact(h.1 (ZY.mpr (aj (n,c) m1 rfl))).elim
  ·exact ih h.2 n c c' m1 m2
theorem Li{kd:ZU->Option Yj}{x:ZU}{b:List (ZU×Z3)}:∀{m:ZU->Option Z3},x∉b.map (·.1)->bindL kd b m x=m x:=by induction b with|nil=>exactλ_=>rfl;|cons p r ih=>
  intro m h;rw[Z2,ZZ,not_or]at h;exists ih h.2;split;·exact if_neg h.1
  ·rfl
theorem Lh{kd:ZU->Option Yj}{x:ZU}{b:List (ZU×Z3)}:∀{m:ZU->Option Z3},x∉b.map (·.1)->Qk kd b m x=m x:=by induction b with|nil=>exactλ_=>rfl;|cons p r ih=>
  intro m h;rw[Z2,ZZ,not_or]at h;exists ih h.2;split;·rfl
  ·exact if_neg h.1
theorem yu{kd:ZU->Option Yj}{x:ZU}{v:Z3}(hk:kd x=Z7 .local):∀{b:List (ZU×Z3)}{m:ZU->Option Z3},(b.map (·.1)).Nodup->b.lookup x=Z7 v->bindL kd b m x=Z7 v:=by intro N';induction N' with|nil=>intro _ _ h;simp at h;|cons ij r ih=>
  obtain⟨n,v'⟩:=ij;intro m hn h;rw[Z2,ZG]at hn;rw[ZM]at h;by_cases z:(x==n)=ZW;·have e:=eq_of_beq z;subst e;replace h:=z▸h;(exists Li hn.1;exists if_pos hk);simpa using h
  ·simp only[XX]at z;replace h:=z▸h;exact ih hn.2 h
theorem DC{kd:ZU->Option Yj}{x:ZU}{v:Z3}(hk:kd x≠Z7 .local):∀{b:List (ZU×Z3)}{m:ZU->Option Z3},(b.map (·.1)).Nodup->b.lookup x=Z7 v->Qk kd b m x=Z7 v:=by intro N';induction N' with|nil=>intro _ _ h;simp at h;|cons ij r ih=>
  obtain⟨n,v'⟩:=ij;intro m hn h;rw[Z2,ZG]at hn;rw[ZM]at h;by_cases z:(x==n)=ZW;·have e:=eq_of_beq z;subst e;replace h:=z▸h;(exists Lh hn.1;exists if_neg hk);simpa using h
  ·simp only[XX]at z;replace h:=z▸h;exact ih hn.2 h
section
variable{X Y:Fx}{ρ aZ:Loc}{O O':af}{s s':Z6}{E:Z3->Z6->Prop}{k:AV->af->Prop}{kb:Bool->af->Prop}{pos px cD:XY}{K:Kn}
structure Callee(X Y:Fx)(name:ZU)(scope:X7)(fa:Z1)(cd:Z3):Prop where
 w:Y.w=X.w
 env:∃L,Y.env=Zf name scope L fa cd/\Y.A=X.A.deeper (Zf name scope L fa cd)wr:Y.wr
 bY:Y.bY=[]
theorem Callee.bd{name:ZU}{scope:X7}{fa:Z1}{cd:Z3}(ah:Callee X Y name scope fa cd){x:ZU}(h:scope.names.lookup x=Z7 .local\/scope.names.lookup x=Z7 .cell):Bd Y x:=by
 refine aR ah.env λL e C=>?_;refine ZR h (λh=>?_) (λh=>?_);·exact .inl (by exists e;exact h)
 ·refine .inr (bM (by exists e;exact h) ah.wr ?_);have:=cellsFrom_some scope.names (L+1) [] h;exists e;exact XR.mp this
def vc(O:af)(a r:AV):Prop:=a=r\/∃l,LV O a l/\r=.lst l
theorem aG.def{fa ca:Z1}{o co:Zp}{name:ZU}{params:UN}{body:List Y4}{scope:X7}{pm doc:Z3}{l:List AV}{fS:Array Z3}{ct:PG}{ns:List ZU}(a9:X.A.depth<ZV)(ho:(aP X.w.params).get? fa=Z7 o)(hd:o.data=.func (PS name params body scope pm (.ref ca) doc))(e9:(aP X.w.params).get? ca=Z7 co)(ix:co.data=.fields fS)(lT:fS[1]?=Z7 (.str name ct))(hb:∀vs:List Z3,vs.length=l.length->Ss (PS name params body scope pm (.ref ca) doc) ⟨vs,[]⟩=pure (ns.zip vs))(gQ:ns.Nodup)(hl:∀x∈ns,scope.names.lookup x=Z7 .local\/scope.names.lookup x=Z7 .cell)(lX:(scope.names.map (·.1)).Nodup)(kZ:scope.kind=.function)(qi:scope.isGenerator=ZS)(tC:scope.isCoroutine=ZS)(h:∀Y,Callee X Y name scope fa (.ref ca)->Ex Y (ns.zip l) [] body ⟨λC C=>k .none O,λa O'=>∃r,vc O' a r/\k r O,λC C=>False,λC C=>False⟩):aG X ρ O (.ref fa) l k:=λE s vs F R=>by
 have kind:∀x∈ns.zip vs,scope.names.lookup x.1=Z7 .local\/(scope.names.lookup x.1=Z7 .cell/\((XF (s.heap.objs.size+1) scope.names []).lookup x.1).isSome=ZW):=λx hx=>by
  refine ZR (hl x.1 (U7 hx).1) (λh=>?_) (λh=>?_);·exact .inl h
  ·exact .inr ⟨h,cellsFrom_some _ _ _ h⟩
 refine XH (call_cells_ret a9 (F.base _ _ ho) hd (qD F.base) (ua ca co fS ct rfl (F.base _ _ e9) ix lT) (hb vs R.length) kind (λaH tk FL CL=>?_) tC qi kZ);have hsz:s.heap.objs.size<aH.objs.size:=FL.ns.lt;let Y:Fx:={w:=X.w,A:=X.A.deeper (Zf name scope s.heap.objs.size fa (.ref ca)),env:=Zf name scope s.heap.objs.size fa (.ref ca),h₀:=s.heap,D₀:=ak X O,bY:=[],held:=[],G:=X.G,os:=X.os,fn:=kZ,glob:=rfl,bn:=rfl,hh:=X.hh,above:=.inl (fY _),mq:=F.base,mH:=λa ha=>(nomatch ha),h9:=λa ha=>(nomatch ha),apart:=CL.apart,ni:=λn c hc=>Wg (CL.above n c hc),kK:=CN (yv _ _ _ lX Yd λC C q=>nomatch q),old:=F.ex,hnl:=λq hq=>(nomatch hq),hnc:=λq hq=>(nomatch hq),hab:=λq hq=>nomatch hq};have CY:Callee X Y name scope fa (.ref ca):=⟨rfl,(aj _ rfl rfl),λn c hc=>.inl (X2 (XM (CL.above n c hc))),rfl⟩;have S0:aJ (ak X O) s.heap (ak Y []) aH:=λa o ha e=>by
  refine⟨λq=>?_,FL.keep a o e⟩;have:=Zc e;refine jB q (λq=>?_) (λq=>?_) (λn q=>?_) (λq=>?_) λo' q=>?_;·cases q
  ·exact absurd q (X6 this)
  ·exact absurd (CL.above n a q) (UE.mpr (XM this))
  ·exact ha q
  ·cases q
 have FY:Fr Y (ns.zip l) [] {s with heap:=aH,toks:=tk}:=by
  refine⟨λa o C e=>FL.keep a o e,F.gens,F.os,⟨_,Qk (Zf name scope s.heap.objs.size fa (.ref ca)).kindOf (ns.zip vs) λC=>ZT,FL.ns,λn c hc=>?_,λx av e=>?_⟩,λq hq=>(nomatch hq),λp hp=>(nomatch hp),Yd⟩;·have hu:=Y.kK n;cases fZ:(XF (s.heap.objs.size+1) scope.names []).lookup n with
 |none=>rw[Xm]at fZ;have z:=fZ _ hc;simp at z;|some c'=>have:c'=c:=hu c c' hc (mem_of_lookup fZ);subst this;exact CL.cell n c' fZ
  ·refine aR (CQ R e) λv e1 r=>?_;have hx:=CO e;refine aj v ?_ (r.move S0);have nd:((ns.zip vs).map (·.1)).Nodup:=CP gQ;refine ZR (hl x hx) (λq=>?_) (λq=>?_);·exact .inl ⟨q,yu (kd:=Y.env.kindOf) q nd e1⟩
   ·refine .inr (bM q (DC (kd:=Y.env.kindOf) (λz=>?_) nd e1) (XR.mp (cellsFrom_some _ _ _ q)));rw[show Y.env.kindOf x=Z7 .cell from q]at z;cases z
 refine wm (h Y CY (λC C=>False) _ FY) (λfl s' x=>?_);refine lP x ?_;clear x;intro ρ' ag aw aI x;have kp:Keeps s.heap s'.heap:=λa o e=>aw.keep a o (λq=>nomatch q) e;have FX:Fr X ρ O s':=F.move (aJ.of kp) (λa o C C e=>kp a o e) aw.gens (aw.os.trans F.os.symm) (λo e=>kp _ o e) (λC c C o e=>kp c o e) (λq C e=>kp _ _ e) (λp hp=>let⟨a1,a2,a3,a4,o,h1,h2⟩:=F.own p hp;⟨a1,a2,a3,a4,o,kp _ _ h1,h2.move (aJ.of kp)⟩) F.nd;have less:aJ (ak Y ag) s'.heap (ak X O) s'.heap:=λa o ha e=>⟨λq=>ha (bg.mpr (.inr (.inr (.inr (.inl q))))),e⟩;cases fl with
 |next=>exact⟨.none,O,FX,aJ.of kp,.none,x⟩;|ret v=>
  obtain⟨a,r,r',hr,hk⟩:=x;rcases hr with rfl|⟨l',nB,rfl⟩;·exact⟨_,O,FX,aJ.of kp,r.move less,hk⟩
  ·obtain⟨ad,eA,n',hg,rl⟩:=aw.rd r nB;refine⟨_,O,FX,aJ.of kp,.lst (λq=>?_) hg (rl.move less),hk⟩;rcases nB with rfl|⟨r0,rfl,hm⟩;·cases r.iL with|mk h8 fC gE=>exact h8 (bg.mpr (.inr (.inr (.inr (.inl q)))))
   ·cases r.iR;refine ZR ((aw.own _ hm).1) (λb=>?_) (λb=>?_);·refine br (F.ex _ q) λo' cN=>?_;have e:=(show s.heap.get? _=ZT from b).symm.trans cN;cases e
    ·cases b;|brk=>exact x.elim;|cont=>exact x.elim
theorem IP{env:Rw}{kd:Yj}(Pn:kd≠.free):∀{names:List (ZU×Yj)}{x:ZU},names.lookup x=Z7 kd->(names.map λ(n,k)=>if(k==XE&&env.scope.kind==.function&&env.kindOf n==Z7 .cell)then(n,Vj)else(n,k)).lookup x=Z7 kd:=by intro N';induction N' with|nil=>intro _ h;simp at h;|cons ij r ih=>
  obtain⟨n,k⟩:=ij;intro x h;exists Z2;rw[ZM]at h;by_cases z:(x==n)=ZW
  ·replace h:=z▸h;have:k=kd:=by simpa using h
   subst this;have:(k==XE)=ZS:=by simpa using Pn
   simp[this,ZM,z]
  ·simp only[XX]at z;replace h:=z▸h;have:=ih h;by_cases hc:(k==XE&&env.scope.kind==.function&&env.kindOf n==Z7 .cell)=ZW;·simp only[hc,if_true,ZM,z];exact this
   ·simp only[hc,YK,if_false,ZM,z];exact this
theorem adr{env:Rw}(hf:env.scope.kind=.function):∀{names:List (ZU×Yj)}{x:ZU},names.lookup x=Z7 .free->env.kindOf x=Z7 .cell->(names.map λ(n,k)=>if(k==XE&&env.scope.kind==.function&&env.kindOf n==Z7 .cell)then(n,Vj)else(n,k)).lookup x=Z7 .cell:=by intro N';induction N' with|nil=>intro _ h _;simp at h;|cons ij r ih=>
  obtain⟨n,k⟩:=ij;intro x h hk;exists Z2;rw[ZM]at h;by_cases z:(x==n)=ZW
  ·replace h:=z▸h;have:k=.free:=by simpa using h
   subst this;have e:=eq_of_beq z;subst e;simp[hf,hk,ZM]
  ·simp only[XX]at z;replace h:=z▸h;have:=ih h hk;by_cases hc:(k==XE&&env.scope.kind==.function&&env.kindOf n==Z7 .cell)=ZW;·simp only[hc,if_true,ZM,z];exact this
   ·simp only[hc,YK,if_false,ZM,z];exact this
noncomputable def sZ(sc:X7)(cells:List (ZU×Z1)):List (ZU×Z1):=(sc.names.filterMap λp=>if p.2==.free then(cells.lookup p.1).map (p.1,·)else ZT).reverse
theorem L1(env:Rw):∀(names:List (ZU×Yj))(bI:List (ZU×Z1)),(∀p∈names,p.2=.free->∃c,env.cells.lookup p.1=Z7 c)->(forIn names bI λ(x:ZU×Yj)(r:List (ZU×Z1))=>(match x with|(name,kind)=>if kind==XE then(do let c<-cellOf env name;pure (Wu ((name,c)::r)))else pure (Wu r):SV (ForInStep (List (ZU×Z1)))))=pure ((names.filterMap λp=>if p.2==.free then(env.cells.lookup p.1).map (p.1,·)else ZT).reverse++bI):=by intro N';induction N' with|nil=>exactλbI _=>rfl;|cons ij r ih=>
  obtain⟨n,kd⟩:=ij;intro bI h;rw[V1];by_cases q:(kd==XE)=ZW
  ·refine br (h (n,kd) (.head _) (by simpa using q)) λc hc=>?_;have e:cellOf env n=pure c:=by unfold cellOf;exact bG hc rfl
   simp only[q,if_true,e];have:=ih ((n,c)::bI) λp hp=>h p (.tail _ hp);simp only[YO,q,if_true,hc,QJ,Xn,Zm,Ta];exact this
  ·have:=ih bI λp hp=>h p (.tail _ hp);simp only[YO,q,YK,if_false];exact this
theorem aco:∀{names:List (ZU×Yj)},(names.map (·.1)).Nodup->∀y∈names,names.lookup y.1=Z7 y.2:=by intro N';induction N' with|nil=>exactλ_ _ h=>nomatch h;|cons p r ih=>
  intro hn y h;rw[Z2,ZG]at hn;exists ZM;rcases ZZ.mp h with rfl|h;·simp
  ·have:(y.1==p.1)=ZS:=by have:y.1≠p.1:=λe=>hn.1 (e▸ZY.mpr (aj y h rfl));simpa using this
   exists this;exact ih hn.2 y h
set_option tactic.hygienic true in theorem jY{name:ZU}{scope sc:X7}{fa:Z1}{cd:Z3}{Z:Fx}(ah:Callee Z X name scope fa cd)(hn:(sc.names.map (·.1)).Nodup)(hk:sc.kind=.function)(h1:∀y∈sc.names,y.2≠.cell)(h2:∀y∈sc.names,y.2=.free->scope.names.lookup y.1=Z7 .cell)(hc:∀p∈aZ,ρ.lookup p.1=Z7 p.2/\sc.names.lookup p.1=Z7 .free):mh X sc (sZ sc X.env.cells) ρ aZ:=by
 refine aR ah.env λL e C=>?_;have zn:∀y∈sc.names,y.2=.free->∃c,X.env.cells.lookup y.1=Z7 c:=λy hy hf=>by exists e;exact XR.mp (cellsFrom_some scope.names (L+1) [] (h2 y hy hf))
 have iP:∀p∈sZ sc X.env.cells,∃y∈sc.names,y.2=.free/\y.1=p.1/\X.env.cells.lookup p.1=Z7 p.2:=λp hp=>by
  refine aR (WB.mp (TN.mp hp)) λy hy q=>?_;by_cases z:(y.2==XE)=ZW;·replace q:=(if_pos z)▸q;cases hl:X.env.cells.lookup y.1 with|none=>replace q:=hl▸q;cases q;|some c=>replace q:=hl▸q;cases q;exact fe y hy (by simpa using z) rfl hl
  ·replace q:=(if_neg z)▸q;cases q
 refine⟨?_,λp hp=>?_,?_,h1,hk,λy hy hl=>by exists Zz (hl);exact aco hn y hy,λx av hx=>?_⟩;·have:=L1 X.env sc.names [] zn;rw[ZA]at this;exact congrArg (·>>=pure) this
 ·refine gM (iP p hp) λy hy hf e1 e2=>?_;exact mem_of_lookup e2
 ·have ap:=X.apart;have key:∀(l:List (ZU×Z1)),(l.map (·.1)).Nodup->(∀p∈l,p∈X.env.cells)->l.Pairwise λx y=>x.2≠y.2:=by intro l;induction l with|nil=>intro C C;exact .nil;|cons p l ih=>intro nE hs';rw[Z2,ZG]at nE;refine .cons (λq hq ee=>nE.1 ?_) (ih nE.2 λq hq=>hs' q (.tail _ hq));have:p.1=q.1:=name_of_addr ap (hs' p (.head _)) (show(q.1,p.2)∈X.env.cells by exists ee;exact hs' q (.tail _ hq));exists this ..;exact ZY.mpr (aj q hq rfl)
  refine key _ ?_ λp hp=>by refine gM (iP p hp) λy hy hf e1 e2=>?_;exact mem_of_lookup e2
  have sub:((sZ sc X.env.cells).map (·.1)).reverse.Sublist (sc.names.map (·.1)):=by(exists Zz (Q3 ..);exists List.reverse_reverse ..);clear iP zn h1 h2 hc hn;induction sc.names with|nil=>exact .slnil;|cons y r ih=>
    exists YO ..;split;·exists Z2;exact .cons _ ih
    ·rename_i b hb;(exists Z2;exists Z2);have:b.1=y.1:=by
      split at hb;·cases hl:X.env.cells.lookup y.1 with|none=>replace hb:=hl▸hb;cases hb;|some c=>replace hb:=hl▸hb;cases hb;rfl
      ·cases hb
     exists this;exact .cons_cons _ ih
  have:=hn.sublist sub;exact(List.pairwise_reverse.mp this).imp Xl
 ·refine aO (hc (x,av) (mem_of_lookup hx)) λe1 e2=>?_;have hm:(x,XE)∈sc.names:=mem_of_lookup e2;have k1:X.env.kindOf x=Z7 .cell:=by exists e;exact h2 _ hm rfl
  refine br (zn _ hm rfl) λc j9=>?_;refine k9 e1 k1 ?_ (λC'=>?_);·have:(x,c)∈sZ sc X.env.cells:=TN.mpr (WB.mpr (aj (x,.free) hm (by simp[j9])));cases hl:(sZ sc X.env.cells).lookup x with|none=>rw[Xm]at hl;have z:=hl _ this;simp at z;|some c'=>exact⟨c',rfl⟩
  ·exact adr X.fn e2 k1
theorem jw.bd{sc:X7}{cl:List (ZU×Z1)}(ah:jw X Y sc cl){x:ZU}(h:sc.names.lookup x=Z7 .local):Bd Y x:=by refine rm ah ?_;clear ah;intro C C L e;exact .inl (by exists e;exact IP (by simp) h)
theorem jw.glob{sc:X7}{cl:List (ZU×Z1)}(ah:jw X Y sc cl){x:ZU}(h:sc.names.lookup x=Z7 .globalImplicit):Y.env.kindOf x=Z7 .globalImplicit:=by refine rm ah ?_;clear ah;intro C C L e;exists e;exact IP (by simp) h
theorem Callee.glob{name:ZU}{scope:X7}{fa:Z1}{cd:Z3}(ah:Callee X Y name scope fa cd){x:ZU}(h:scope.names.lookup x=Z7 .globalImplicit):Y.env.kindOf x=Z7 .globalImplicit:=by refine aR ah.env λL e C=>?_;exists e;exact h
end
noncomputable section
noncomputable def gB(l:Z1)(i:Nat):Zp:={cls:=.type "list_iterator",data:=.fields #[.ref l,.int i 0]}
variable{X Y:Fx}{ρ aZ:Loc}{O O':af}{s s':Z6}{E:Z3->Z6->Prop}{k:AV->af->Prop}{kb:Bool->af->Prop}{pos px cD:XY}{K:Kn}
def Ld(X:Fx)(f:ZU)(fv:Z3):Prop:=∀(E:Z3->Z6->Prop)(s:Z6)(pos:XY)(Q:Z3->Z6->Prop),Keeps (aP X.w.params) s.heap->Q fv s->ZK (model pw X.w) X.A (eval (.Name f pos) X.env) Q E s
theorem Ld.b{f:ZU}{fv:Z3}(hx:X.env.kindOf f=Z7 .globalImplicit)(hd:(f==("__debug__":ZU))=ZS)(h3:∀P,WD (eZ (iV P)) f=ZT)(h0:∀P,WD (eZ (WN P)) f=Z7 fv):Ld X f fv:=λE s pos Q K q=>abk K X.glob X.bn X.fn hx hd h3 h0 q
theorem Ld.g{f:ZU}{fv:Z3}(hx:X.env.kindOf f=Z7 .globalImplicit)(hd:(f==("__debug__":ZU))=ZS)(h3:∀P,WD (eZ (iV P)) f=Z7 fv):Ld X f fv:=λE s pos Q K q=>abl K X.glob X.fn hx hd h3 q
theorem yn{e:Zt}{es:List Zt}{fv:Z3}{k:AV->af->Prop}(h:cC X ρ O (e::es) λl ag=>aG X ρ ag fv l k)(F:Fr X ρ O s):ZK (model pw X.w) X.A (spliced (Xb pos (Yt (e::es) X.env))) (λvs aq=>Keeps (aP X.w.params) aq.heap/\ZK (model pw X.w) X.A (call fv vs) (dY X ρ O s k) E aq) E s:=wm (h _ s pos F) (λvs aq b6=>j5 b6 λl ag aw aI a5 aH=>⟨aw.base,wm (aH _ aq vs aw a5) (λv aL x=>.from aI x)⟩)
theorem Ev.fU{o e:Zt}{name:ZU}{id:String}(slot:P4 "list" name id)(ty:T7 (.builtin id)=pure (.type "method_descriptor"))(nu:Vi o name X.env (eval o X.env)=eval o X.env)(lW:(cD.endLine==pos.line)=ZW)(hs:dH e=ZS)(h:Ev X ρ O o λa ag=>(∃l,LV ag a l)/\Ev X ρ ag e λb aM=>aG X ρ aM (.builtin id) [a,b] k):Ev X ρ O (.Call (.Attribute o name cD) [e] [] pos) k:=λE s F=>by have o8:Yt [e] X.env=[(ZS,eval e X.env)]:=kC (by exists YF;exists hs;rfl);refine Call_method1 nu o8 lW (wm (h _ s F) (λov aq z=>cr z λa ag aw aI a5 z=>aO z λz aH=>br z λl hl=>?_));obtain⟨ad,vs,n,hg,rl⟩:=aw.rd a5 hl;refine pe ("list") id TM slot ty (aj _ hg rfl) (λb e=>by cases e;exact aj _ hg rfl) ?_;refine Calls.callWith_builtin rfl (Ve (VV (wm (aH _ aq aw) (λv aL b7=>cr b7 λb aM aS aY cK be=>VK ?_))));exact wm (be _ aL _ aS (.cons (a5.move aY) (.cons cK .nil))) (λv cR x=>.from (aI.trans aY) x)
set_option tactic.hygienic true in theorem aG.append{r:Z1}{l:List AV}{b:AV}(hm:(r,aQ.list l)∈O)(hz:l.length<=Y8)(h:k .none (bp O r (.list (l++[b])))):aG X ρ O (.builtin "list.append") [.ref r,b] k:=λE s vs F R=>by replace R:=R.i2;obtain⟨r1,r2⟩:=R;cases r1.iR;rename_i v;refine kP (F.fL hm) λvs n ho rl=>?_;refine GC ho (by exists rl.size;exact hz) λh7 n7 e7 qO=>?_;exact⟨.none,_,F.update (tk:=s.toks) (ao:=.list (l++[b])) hm qO e7 (dT (vs.push v) n7 rfl (by exists WU;exact rl.append (.cons r2 .nil))),F.iF hm (λb o hb e=>(qO.2 b hb).trans e),.none,h⟩
theorem GX{xs ys:Array Z3}{n:Nat}:X8 (λx=>x++ys) ⟨.type "list",ZT,.seq xs n,#[]⟩=⟨.type "list",ZT,.seq (xs++ys) (if(xs++ys).size==xs.size then n else n+1),#[]⟩:=rfl
theorem aG.extend{r:Z1}{l l':List AV}{b:AV}(hm:(r,aQ.list l)∈O)(hb:LV O b l')(hz:l.length+l'.length<=Y8)(h:k .none (bp O r (.list (l++l')))):aG X ρ O (.builtin "list.extend") [.ref r,b] k:=λE s vs F R=>by
 replace R:=R.i2;obtain⟨r1,r2⟩:=R;cases r1.iR;refine kP (F.fL hm) λvs n ho rl=>?_;obtain⟨oq,eA,n',fC,gE⟩:=F.rd r2 hb;have pb:vs.size+eA.size<=Y8:=by exists rl.size;exists gE.size;exact hz
 refine RJ YE (aj _ ho rfl) PySem.F.entry_list_extend (PySem.F.args_list_extend_2 _ _) (AutoSeq1.list_extend_list_list_0 r vs n oq eA n' (extend_door pb) (ZC (W8 _ _) pb) (WV pb)) (bM ho fC ?_);have sb:YL r s.heap (s.heap.update r (X8 λx=>x++eA)):=YV ..;have e7:(s.heap.update r (X8 λx=>x++eA)).get? r=Z7 ⟨.type "list",ZT,.seq (vs++eA) (if(vs++eA).size==vs.size then n else n+1),#[]⟩:=by exists(YI _ ho (by refine bG GX ?_;rfl));exact bG GX rfl
 exact⟨.none,_,F.update (tk:=s.toks) (ao:=.list (l++l')) hm sb e7 (dT (vs++eA) _ rfl (by exists Array.toList_append;exact rl.append gE)),F.iF hm (λb o hb e=>(sb.2 b hb).trans e),.none,h⟩
theorem aG.len{a:AV}{l:List AV}(ha:LV O a l)(hz:(l.length:Int)<2^63)(h:k (.int l.length) O):aG X ρ O (.builtin "len") [a] k:=λE s vs F R=>by replace R:=R.i1;obtain⟨r1⟩:=R;obtain⟨ad,vs,n,hg,rl⟩:=F.rd r1 ha;exact len_list (cX _ hg rfl n rfl) (by exists rl.size;exact hz) (.done F (.tok _ _) (.int _ _) (by exists rl.size;exact h))
theorem aG.str{a:Int}(hz:a.natAbs.log2<1920)(h:k (.str (Z9 (toString a))) O):aG X ρ O (.type "str") [.int a] k:=λE s vs F R=>by replace R:=R.i1;obtain⟨r1⟩:=R;cases r1.iI;exact P.str_of_int hz (.done F (.tok _ _) (.str _ _) h)
theorem yP{a:AV}{v:Z3}{h':YQ}{tk:Nat}(F:Fr X ρ O s)(hk:∀c o,s.heap.get? c=Z7 o->h'.get? c=Z7 o)(r:aX (ak X O) h' v a)(h:k a O):dY X ρ O s k v {s with heap:=h',toks:=tk}:=⟨a,O,F.keeps hk,aJ.of hk,r,h⟩
theorem aG.min2{a b:Int}(h:k (.int (min a b)) O):aG X ρ O (.builtin "min") [.int a,.int b] k:=λE s vs F R=>by
 replace R:=R.i2;obtain⟨r1,r2⟩:=R;cases r1.iI;cases r2.iI;refine min_two_ints X.hh λh' tk hk=>yP F hk ?_ h;by_cases q:b<a;·exists if_pos q;exists(show min a b=b by exact(ia 0x2 0x1c0b84ee89d41382e) q);exact .int _ _
 ·exists if_neg q;exists(show min a b=a by exact(ia 0x2 0x3dc0b84ee85d41382e) q);exact .int _ _
theorem aG.max2{a b:Int}(h:k (.int (max a b)) O):aG X ρ O (.builtin "max") [.int a,.int b] k:=λE s vs F R=>by
 replace R:=R.i2;obtain⟨r1,r2⟩:=R;cases r1.iI;cases r2.iI;refine max_two_ints X.hh λh' tk hk=>yP F hk ?_ h;by_cases q:b>a;·exists if_pos q;exists(show max a b=b by exact(ia 0x2 0x1c1382ee89d51382e) q);exact .int _ _
 ·exists if_neg q;exists(show max a b=a by exact(ia 0x2 0x3dc1382ee85d51382e) q);exact .int _ _
theorem aG.abs{a:Int}(h:k (.int (if a<0 then-a else a)) O):aG X ρ O (.builtin "abs") [.int a] k:=λE s vs F R=>by replace R:=R.i1;obtain⟨r1⟩:=R;cases r1.iI;exact call_abs_int λu tk=>.done F (.tok _ _) (.int _ _) h
theorem aG.chr{i:Int}(h0:0<=i)(h1:i<=1114111)(h:k (.str ⟨#[i.toNat]⟩) O):aG X ρ O (.builtin "chr") [.int i] k:=λE s vs F R=>by replace R:=R.i1;obtain⟨r1⟩:=R;cases r1.iI;exact chr_of_range h0 h1 (.done F (.tok _ _) (.str _ _) h)
theorem aan{D:List Z1}{h:YQ}{vs:List Z3}{ns:List Int}(r:bb D h vs (ns.map .int)):PQ vs ns:=by induction ns generalizing vs with|nil=>cases r.iN;exact .nil;|cons n ns ih=>obtain⟨x,q⟩:=r.iC;cases x.iI;exact .cons _ _ (ih q)
theorem aG.G0{a:AV}{ns:List Int}{m:Int}(ha:LV O a (ns.map .int))(hm:m∈ns)(hx:∀b∈ns,b<=m)(h:k (.int m) O):aG X ρ O (.builtin "max") [a] k:=λE s vs F R=>by
 replace R:=R.i1;obtain⟨r1⟩:=R;obtain⟨ad,vs,n,hg,rl⟩:=F.rd r1 ha;have hi:=aan rl;refine br hi.allInts.items λxs e=>?_;have lY:ns=xs.toList.map (·.1):=by rw[<-hi.numsOf,<-nums_intItems,<-e]
 have hsz:0<xs.size:=by have:0<ns.length:=List.length_pos_of_mem hm;rw[lY,Z4,Y0]at this;exact this
 have hl:s.heap.IsList ad (intItems xs):=by exists Zz e;exact cX _ hg rfl n (by simp)
 refine max_intList X.hh hl hsz λv h' tk hv hk=>?_;refine br (intItems_at hv) λt bH=>?_;exists bH;refine aO (argBest_gt (QT xs) (xs.size-1)) λh1 h2=>?_;have mem:∀j,j<xs.size->QT xs j∈ns:=λj hj=>by exists lY;simp only[QT,Yg hj];exact ZY.mpr (aj (xs[j]) (by simp) rfl)
 have i1:=mem _ ((ar 0x3 0x19105f8909e20e441) hsz h1:argBest (λi j=>decide (QT xs i>QT xs j)) (xs.size-1)<xs.size);have:QT xs (argBest (λi j=>decide (QT xs i>QT xs j)) (xs.size-1))=m:=by
  refine Int.le_antisymm (hx _ i1) ?_;replace hm:=lY▸hm;refine dn hm λp hp=>?_;obtain⟨j,hj,rfl⟩:=R5 hp;have gP:j<xs.size:=by simpa using hj
  have:=h2 j ((ar 0x3 0x191071213c41) gP);simpa[QT,Yg gP]using this
 exists this;exact yP F hk (.int _ _) h
theorem Ev.list{es:List Zt}(h:cC X ρ O es λl ag=>l.length<=Y8/\∀a,a∉ag.map (·.1)->k (.ref a) ((a,.list l)::ag)):Ev X ρ O (.List es pos) k:=λE s F=>by refine List_ (wm (h _ s pos F) (λvs aq z=>j5 z λl ag aw aI a5 z=>aO z λhz aH=>?_));refine RT ?_ (by exists a5.length;exact hz);have aS:=aw.alloc (o:=⟨.type "list",ZT,.seq vs.toArray 0,#[]⟩) (ao:=.list l) (tk:=aq.toks) rfl (dT vs.toArray 0 rfl a5);exact⟨_,_,aS,aI.trans ((mW (fY aq.heap)).trans (aJ.of λC C e=>ZX _ e)),.ref _,aH _ λq=>aw.fresh (bg.mpr (.inl q))⟩
theorem Ev.ll{es:List Zt}(h:cC X ρ O es λl ag=>l.length<=Y8/\k (.lst l) ag):Ev X ρ O (.List es pos) k:=λE s F=>by refine List_ (wm (h _ s pos F) (λvs aq z=>j5 z λl ag aw aI a5 z=>aO z λhz aH=>?_));exact RT (.from aI (wG aw a5 aH aq.toks)) (by exists a5.length;exact hz)
theorem bb.get'{D:List Z1}{h:YQ}{vs:List Z3}{as:List AV}(r:bb D h vs as){i:Nat}{v}(e:vs[i]?=Z7 v):∃a,as[i]?=Z7 a/\aX D h v a:=by induction as generalizing vs i with|nil=>cases r.iN;cases e;|cons b as ih=>obtain⟨x,q⟩:=r.iC;cases i with|zero=>cases e;exact aj _ rfl x;|succ i=>exact ih q e
theorem It.lst{e:Zt}{k:List AV->af->Prop}(h:Ev X ρ O e λa ag=>∃l,a=.lst l/\k l ag):It X ρ O e k:=λE s F=>by refine wm (h _ s F) (λv aq z=>cr z λa ag aw aI a5 z=>aR z λl e aH=>?_);subst e;cases a5.iL with|@mk ad vs n hd hg rl=>
  refine VH (cX _ hg rfl n rfl) ?_;have lt:ad<aq.heap.objs.size:=Zc hg;have aS:=aw.alloc (o:=gB ad 0) (ao:=.other (gB ad 0)) (tk:=aq.toks) rfl rfl;have aY:aJ (ak X ag) aq.heap (ak X ((aq.heap.objs.size,.other (gB ad 0))::ag)) (aq.heap.push (gB ad 0)):=(mW (fY aq.heap)).trans (aJ.of λC C e=>ZX _ e);refine .mk (l:=l) (O':=ag) (Walks.list X.hh aq.heap.objs.size ad (X6 lt) vs) ⟨(cQ _ (Zy _ rfl) rfl rfl),(cX _ (ZX _ hg) rfl n rfl)⟩ (λi h b7=>aO b7 λcy C=>dE cy λo ho hc O4=>jM o ("list_iterator") _ ho hc O4 (by decide)) (aw.new (fY _)) aS (aI.trans aY) (λb hb=>?_) (bb.size rl).symm (λi v hi hv=>?_) aH
  ·refine ZR (ZZ.mp hb) (λz=>?_) (λz=>?_);·exact .inl z
   ·exists Zv.mp z;exact .inr ⟨(aY _ _ hd hg).1,_,(aY _ _ hd hg).2⟩
  ·refine aR (rl.get' (i:=i) (v:=v) (by simpa using hv)) λa ha ra=>?_;exact aj a ha (ra.move aY)
noncomputable def dO(a:Int)(n:Nat):List AV:=(Zh n).map λi:Nat=>AV.int (a+(i:Int))
theorem IW{a b:Int}:TL a b 1=((b-a).toNat:Int):=by
 rw[rangeSize_one];split;·exact Ar.rsA ‹_›
 ·exact Ar.rsB ‹_›
theorem IN{a b:Int}{t u w:PG}{tk:Nat}{k:List AV->af->Prop}{ag:af}{aq:Z6}(aw:Fr X ρ ag aq)(aI:aJ (ak X O) s.heap (ak X ag) aq.heap)(ha:-(2^62)<=a)(rC:a<2^62)(hb:-(2^62)<=b)(jG:b<2^62)(h:k (dO a (b-a).toNat) ag):ZK (model pw X.w) X.A (RK (.ref aq.heap.objs.size)) (pO X ρ O s k) E {aq with heap:=aq.heap.push {cls:=.type "range",data:=.fields #[.int a t,.int b u,.int 1 w]},toks:=tk}:=by
 refine RG (PE ..) (small_one ha rC hb jG) ?_;have g:=fX.push aq {cls:=.type "range",data:=.fields #[.int a t,.int b u,.int 1 w]} tk;have aS:=aw.grow g;generalize hH:aq.heap.push {cls:=.type "range",data:=.fields #[.int a t,.int b u,.int 1 w]}=H at aS g⊢;exists IW;have eV:=aS.alloc (o:={cls:=.type "range_iterator",data:=.fields #[Yc a,Yc ((b-a).toNat:Int),Yc 1]}) (ao:=.other {cls:=.type "range_iterator",data:=.fields #[Yc a,Yc ((b-a).toNat:Int),Yc 1]}) (tk:=tk) rfl rfl;have aY:aJ (ak X ag) H (ak X ((H.objs.size,.other {cls:=.type "range_iterator",data:=.fields #[Yc a,Yc ((b-a).toNat:Int),Yc 1]})::ag)) (H.push {cls:=.type "range_iterator",data:=.fields #[Yc a,Yc ((b-a).toNat:Int),Yc 1]}):=(mW (fY H)).trans (aJ.of λC C e=>ZX _ e);refine .mk (l:=dO a (b-a).toNat) (O':=ag) (Walks.range X.hh H.objs.size a 1 (b-a).toNat) ?_ (λi h ho=>jM _ ("range_iterator") _ ho rfl rfl (by decide)) (aS.new (fY _)) eV ((aI.trans g.nZ).trans aY) (λc hc=>.inl (Zv.mp hc)) (by rw[dO,Z4,Xj]) (λi v hi hv=>?_) h;·exists(show(a+((0:Nat):Int)*1)=a by simp);exists(show(((b-a).toNat:Int)-((0:Nat):Int))=((b-a).toNat:Int)by simp);exact Zy _ rfl
 ·refine br hv ?_;clear hv;intro t cx;exists cx;refine aj (.int (a+i)) (by simp[dO,hi]) ?_;rw[Int.mul_one];exact .int _ _
inductive J6(l:List AV)(P:Int->Int->Prop):Prop|mk(a b:Int)(e:l=[.int a,.int b])(h1:-(2^62)<=a)(h2:a<2^62)(h3:-(2^62)<=b)(h4:b<2^62)(h:P a b)
inductive J5(l:List AV)(P:Int->Prop):Prop|mk(b:Int)(e:l=[.int b])(h3:-(2^62)<=b)(h4:b<2^62)(h:P b)
theorem It.uC{cw eF:Zt}{k:List AV->af->Prop}(hs:[cw,eF].any dH=ZS)(hl:Ld X (Z9 "range") (.type "range"))(h:cC X ρ O [cw,eF] λl ag=>J6 l λa b=>k (dO a (b-a).toNat) ag):It X ρ O (.Call (.Name (Z9 "range") px) [cw,eF] [] pos) k:=λE s F=>by refine Yv (hl E s px _ F.base (callWith_type1 (wm (h _ s pos F) (λvs aq z=>?_)) (kC hs) (lq (by rw[YF,YM]at hs;exact hs.2))));obtain⟨l,ag,aw,aI,a5,a,b,e,h1,h2,h3,h4,hk⟩:=z;subst e;obtain⟨r1,r2⟩:=a5.i2;cases r1.iI;cases r2.iI;exact call_range_2 (IN aw aI h1 h2 h3 h4 hk)
theorem It.uB{cw:Zt}{k:List AV->af->Prop}(hs:[cw].any dH=ZS)(hl:Ld X (Z9 "range") (.type "range"))(h:cC X ρ O [cw] λl ag=>J5 l λb=>k (dO 0 b.toNat) ag):It X ρ O (.Call (.Name (Z9 "range") px) [cw] [] pos) k:=λE s F=>by refine Yv (hl E s px _ F.base (callWith_type1 (wm (h _ s pos F) (λvs aq z=>?_)) (kC hs) (lq (by rw[YF,YM]at hs;exact hs.2))));obtain⟨l,ag,aw,aI,a5,b,e,h3,h4,hk⟩:=z;subst e;obtain⟨r1⟩:=a5.i1;cases r1.iI;refine call_range_1 (IN (a:=0) aw aI (by decide) (by decide) h3 h4 ?_);exists(show(_-(0:Int))=_ from Int.sub_zero _);exact hk
end
section
variable{X Y:Fx}{ρ aZ:Loc}{O O':af}{s s':Z6}{E:Z3->Z6->Prop}{k:AV->af->Prop}{kb:Bool->af->Prop}{pos px py cD:XY}{K:Kn}
noncomputable def pJ(r:Z1)(l:List AV):AV->AV
 |.ref a=>if a=r then .lst l else .ref a|v=>v
theorem sI{r:Z1}{l:List AV}{a:Z1}:pJ r l (.ref a)=if a=r then .lst l else .ref a:=rfl
theorem sF{r:Z1}{l:List AV}{i:Int}:pJ r l (.int i)=.int i:=rfl
theorem sH{r:Z1}{l m:List AV}:pJ r l (.lst m)=.lst m:=rfl
theorem sJ{r:Z1}{l:List AV}{m:ZU}:pJ r l (.str m)=.str m:=rfl
noncomputable def me(r:Z1)(l:List AV)(ρ:Loc):Loc:=ρ.map λp=>(p.1,pJ r l p.2)
theorem abp{r:Z1}{l:List AV}{x:ZU}:(me r l ρ).lookup x=(ρ.lookup x).map (pJ r l):=by induction ρ with|nil=>rfl;|cons p ρ ih=>
  show YA x ((p.1,pJ r l p.2)::me r l ρ)=_;(exists ZM;exists ZM);by_cases z:(x==p.1)=ZW;·exists z;rfl
  ·simp only[XX]at z;exists z;exact ih
noncomputable def r9(O:af)(r:Z1):af:=O.filter λp=>p.1≠r
theorem Fr.tq{r:Z1}{l:List AV}(F:Fr X ρ O s)(hm:(r,aQ.list l)∈O)(hD:r∉X.D₀):Fr X (me r l ρ) (r9 O r) s/\aJ (ak X O) s.heap (ak X (r9 O r)) s.heap:=by have sub:(r9 O r).Sublist O:=R4;have F':=F.drop sub;have st:=F.j3 sub;refine⟨?_,st⟩;refine iK F.vars λm cm hn hc hv=>?_;refine⟨F'.keep,F'.gens,F'.os,⟨m,cm,hn,hc,λx av e=>?_⟩,F'.held,F'.own,F'.nd⟩;replace e:=abp▸e;cases ex:ρ.lookup x with|none=>replace e:=ex▸e;cases e;|some yq=>
  replace e:=ex▸e;have e:pJ r l yq=av:=by simpa using e
  refine aR (hv x yq ex) λv hh rv=>?_;refine aj v hh ?_;subst e;cases yq with
 |ref a=>
   show aX _ _ _ (if a=r then AV.lst l else AV.ref a);by_cases q:a=r
   ·subst q;exists if_pos rfl;cases rv.iR;obtain⟨b1,b2,b3,b4,o,ho,vs,n,rfl,rl⟩:=F.own _ hm;refine .lst (λz=>?_) ho (rl.move st);refine jB z (λz=>?_) (λz=>?_) (λn' z=>?_) (λz=>?_) λo' z=>?_;·refine aR (ZY.mp z) λp hp e=>?_;have:=(X0.mp hp).2;simp[e]at this
    ·exact b2 z
    ·exact b3.1 n' _ z rfl
    ·exact hD z
    ·exact b3.2 _ z rfl
   ·exists if_neg q;exact rv.move st;|none=>exact rv.move st;|bool b=>exact rv.move st;|int b=>exact rv.move st;|str b=>exact rv.move st;|tup b=>exact rv.move st;|lst b=>exact rv.move st;|raw b=>exact rv.move st;|ext b=>exact rv.move st
noncomputable def r8:Loc->List ZU->List AV->Loc
 |ρ,x::xs,a::l=>r8 (gT ρ x a) xs l|ρ,_,_=>ρ
theorem Lj{Q:Unit->Z6->Prop}{xs:List ZU}{l:List AV}{vs:List Z3}{ρ:Loc}{s:Z6}(hl:xs.length=l.length)(hb:∀x∈xs,Bd X x)(F:Fr X ρ O s)(r:bb (ak X O) s.heap vs l)(h:∀s',Fr X (r8 ρ xs l) O s'->aJ (ak X O) s.heap (ak X O) s'.heap->Q () s'):ZK (model pw X.w) X.A (Uc (xs.map λn=>bindName X.env n) vs) Q E s:=by induction xs generalizing l vs ρ s with
 |nil=>cases List.length_eq_zero_iff.mp hl.symm;cases r.iN;exact Z5 (h s F (.refl _ _));|cons x xs ih=>cases l with|nil=>cases hl;|cons a l=>obtain⟨q,rs⟩:=r.iC;exists Z2;refine Z8 (ZL (bindName_ (F.bind (hb x (.head _)) q λh' tk F' aW=>?_)));exact ih (UV hl) (λy hy=>hb y (.tail _ hy)) F' (rs.move aW) λs' jT jP=>h s' jT (aW.trans jP)
theorem bb.rev{D:List Z1}{h:YQ}{vs:List Z3}{l:List AV}(r:bb D h vs l):bb D h vs.reverse l.reverse:=by induction l generalizing vs with|nil=>cases r.iN;exact .nil;|cons a l ih=>obtain⟨q,rs⟩:=r.iC;(exists Xn;exists Xn);exact(ih rs).append (.cons q .nil)
theorem Es.Ks{ts:List Zt}{x1}{e:Zt}(names:List ZU)(hb:∀x∈names,Bd X x)(hs:swapsWithSole [.Tuple ts x1 px] e pos.line X.env=pure ZS)(hw:T6 [.Tuple ts x1 px] e X.env=pure (Z7 names))(h:Ev X ρ O e λa ag=>∃l,a=.tup l/\l.length=names.length/\K.nx (r8 ρ names.reverse l.reverse) ag):Es X ρ O (.Assign [.Tuple ts x1 px] e pos) K:=λE s F=>by refine Assign_Tuple_swapped (names:=names) (wm (h _ s F) (λv aq z=>cr z λa ag aw aI a5 z=>dE z λl ea hl aH=>?_)) hs hw;subst ea;cases a5.iT with|@mk ad vs n hd hg rl=>
  have dG:vs.size=names.length:=by(exists rl.size;exact bG hl rfl)
  have:=unpackItems_tuple (s:=aq) (A:=X.A) (prog:=pw) (w:=X.w) (E:=E) (t:=ad) (items:=vs) X.hh (cX _ hg rfl n rfl) (Q:=λitems aL=>ZK (model pw X.w) X.A (Uc (names.reverse.map λn=>bindName X.env n) items.reverse) (λC=>i6 X O s K .next) E aL) λh' hx=>?_;·replace this:=dG▸this;exact this
  ·have hk:=Ai hx;refine Lj (by simp[hl]) (λx hx=>hb x (TN.mp hx)) (aw.keeps (tk:=aq.toks) hk) ((rl.keeps hk).rev) λs' F' aW=>?_;exact⟨_,ag,F',(aI.trans (aJ.of hk)).trans aW,aH⟩
end
section
variable{X Y:Fx}{ρ aZ:Loc}{O O':af}{k:AV->af->Prop}
theorem Es.cut{b:Y4}{K:Kn}(P:Loc->af->Prop)(h:Es X ρ O b ⟨P,K.rt,K.bk,K.ct⟩)(h2:∀ρ' O',P ρ' O'->K.nx ρ' O'):Es X ρ O b K:=λE s F=>wm (h _ s F) (λfl aq bT=>lP bT λcz ag aw st x=>⟨cz,ag,aw,st,by cases fl<;>first|exact h2 _ _ x|exact x⟩)
theorem qK{a:Int}{n i:Nat}{av:AV}(h:(dO a n)[i]?=Z7 av):i<n/\av=.int (a+i):=by
 unfold dO at h;replace h:=ZN▸h;by_cases q:i<n;·replace h:=(WQ q)▸h;cases h;exact⟨q,rfl⟩
 ·rw[W1 (by simpa using q)]at h;cases h
theorem sd{a:Int}{n:Nat}:(dO a n).length=n:=by simp[dO]
theorem adb(l:List AV):qG l ZT ZT (Z7 (-1))=l.reverse:=by
 have gen:∀(n:Nat),n<=l.length->((Zh n).map λj=>n-1-j).filterMap (l[·]?)=(l.take n).reverse:=by intro n;induction n with|zero=>intro C;rfl;|succ n ih=>
   intro hn;(exists VG;exists Z2;exists YO);have e1:l[n+1-1-0]?=Z7 l[n]:=by simp
   (exists e1;exists YX;exists Z0 ((ar 0x2 0x181444f0e441) hn));simp only[XW,WA,U0,Xn,List.reverse_nil,XB,Ta];exists Zz (ih ((ar 0x2 0x181444f0e041) hn));congr 2;apply X9;intro j hj;simp only[RU];exact ar 0x43 0x6a42909e19444f1484f889e1
 have:=gen l.length (ZO _);replace this:=Yn▸this;exists Zz (this);unfold qG;congr 1;have e1:(Xr ZT ZT (Z7 (-1)) l.length).1=(l.length:Int)-1:=rfl;have e2:(Xr ZT ZT (Z7 (-1)) l.length).2.1=-1:=rfl;have e3:(Xr ZT ZT (Z7 (-1)) l.length).2.2=-1:=rfl;(exists e1;exists e2;exists e3);unfold Qm;have ec:(if(-1:Int)>0 then(if(l.length:Int)-1< -1 then(-1-((l.length:Int)-1)+-1-1)/ -1 else 0)else(if(l.length:Int)-1>-1 then((l.length:Int)-1- -1- -1-1)/(- -1)else 0)).toNat=l.length:=by
  exists(if_neg (by decide));split
  ·have:((l.length:Int)-1- -1- -1-1)/(- -1)=l.length:=by(exists(show(- -1:Int)=1 from rfl);exists Int.ediv_one ..);exact aD 0x1 0x1d0c84f95c4f95c4f909e1
   exists this;rfl
  ·exact(ar 0x43 0xf724278ae278c1a0bc3bb05e17e841) ‹_› (@YR (0))
 simp only[ec];apply X9;intro j hj;have:=X4.mp hj;rw[SU,SS];exact Ar.adw this
theorem Od(l:List AV):∀(n a:Nat),((Zh n).map (a+·)).filterMap (l[·]?)=(l.drop a).take n:=by intro N';induction N' with|zero=>intro a;simp;|succ n ih=>
  intro a;exists VG;exists Z2;exists YO;exists XW;have e:(Zh n).map ((a+·)∘Nat.succ)=(Zh n).map ((a+1)+·):=X9 λj C=>by simp only[RU];exact ar 0x1 0x1a88a227863113c41
  rw[e,ih (a+1),VF];cases h:l[a]? with
 |none=>
   have:l.length<=a:=by simpa using h
   simp[VE this,VE (WV this)];|some x=>obtain⟨ha,hx⟩:=Zo.mp h;(exists Yx ha;exists Wc;exact bG hx rfl)
theorem pick_run(l:List AV)(a b:Int)(ha:0<=a)(hb:0<=b):qG l (Z7 a) (Z7 b) ZT=(l.take b.toNat).drop a.toNat:=by
 refine br (VS ha) λa bT=>?_;exists bT;refine br (VS hb) λb b5=>?_;exists b5;unfold qG;have DP:∀(x:Nat),(if(1:Int)>0 then max 0 (min (if(x:Int)<0 then(x:Int)+(l.length:Int)else x) (l.length:Int))else max (-1) (min (if(x:Int)<0 then(x:Int)+(l.length:Int)else x) ((l.length:Int)-1)))=((min x l.length:Nat):Int):=λx=>by(exists(if_pos (by decide));exists if_neg (aD 0x22 0x1ee05e1));exact ar 0x823 0x76d4106b41042f
 have e1:(Xr (Z7 (a:Int)) (Z7 (b:Int)) ZT l.length).1=((min a l.length:Nat):Int):=DP a;have e2:(Xr (Z7 (a:Int)) (Z7 (b:Int)) ZT l.length).2.1=((min b l.length:Nat):Int):=DP b;have e3:(Xr (Z7 (a:Int)) (Z7 (b:Int)) ZT l.length).2.2=1:=rfl;(exists e1 ..;exists e2 ..;exists e3 ..;exists sliceRange_one ..;exists Od ..);show _=PY a (PX b l);apply VN;intro i;(exists X3;exists UK;exists UK;exists X3);by_cases h:l.length<=a+i
 ·have q1:l[a+i]?=ZT:=by simpa using h
  exists q1;split;·exists(show l[min a l.length+i]?=ZT by simp;exact(au 0x43 0xc44430e222a0461) h);simp
  ·simp
 ·have:min a l.length=a:=(au 0x43 0x7b111047a0d061) h;exists this;by_cases h2:a+i<b;·(exists if_pos ((aU 0x4 0x3d888c82c862326644a0823) h h2);exact bG (if_pos h2) rfl)
  ·(exists if_neg ((aU 0x44 0x3d91c441f6641a1062) h2);exact bG (if_neg h2) rfl)
theorem pick_from(l:List AV)(a b:Int)(ha:0<=a)(hb:0<=b):qG l (Z7 a) (Z7 b) ZT=(l.drop a.toNat).take (b.toNat-a.toNat):=by(exists pick_run l a b ha hb;exact bG UD rfl)
end
noncomputable section
variable{X Y:Fx}{ρ aZ:Loc}{O O':af}{s s':Z6}{E:Z3->Z6->Prop}{k:AV->af->Prop}{kb:Bool->af->Prop}{pos px py cD:XY}{K:Kn}
def fz(g:Z1->Option Zp)(v:Z3)(av:AV):Prop:=∃D h,(∀a o,cv D h a=Z7 o->g a=Z7 o)/\aX D h v av
theorem fz.up{D:List Z1}{h:YQ}{v:Z3}{av:AV}(r:fz (cv D h) v av):aX D h v av:=by
 refine iu r ?_;clear r;intro D' h' q r;refine r.move λa o ha e=>?_;have:cv D h a=Z7 o:=q a o (by unfold cv;exists if_neg ha;exact e);unfold cv at this;by_cases z:a∈D;·replace this:=(if_pos z)▸this;cases this
 ·replace this:=(if_neg z)▸this;exact⟨z,this⟩
theorem fz.of{D:List Z1}{h:YQ}{v:Z3}{av:AV}(r:aX D h v av):fz (cv D h) v av:=dT D h (λC C e=>e) r
theorem fz.mono{g g':Z1->Option Zp}{v:Z3}{av:AV}(r:fz g v av)(hg:∀a o,g a=Z7 o->g' a=Z7 o):fz g' v av:=let⟨D,h,q,r⟩:=r;(dT D h (λa o e=>hg a o (q a o e)) r)
inductive cS(fl:Loc)(g:Z1->Option Zp)(o:Zp):Prop|mk(es ep)(m:ZU->Option Z3)(hd:o.data=.dict es ep)(hk:Qz es)(hu:UniqKeys es)(hf:∀n,WD es n=m n)(hl:∀n av,fl.lookup n=some av->∃v,m n=some v/\fz g v av)(hn:∀n,fl.lookup n=none->m n=none)
theorem Ad{fl:Loc}:∀g g' o,(∀a o,g a=Z7 o->g' a=Z7 o)->cS fl g o->cS fl g' o:=λg g' o hg h=>by cases h with|mk es ep m h1 h2 h3 h4 h5 h6=>exact⟨es,ep,m,h1,h2,h3,h4,λn av e=>let⟨v,a,b⟩:=h5 n av e;(aj v a (b.mono hg)),h6⟩
theorem Ga{fl gN:Loc}{g:Z1->Option Zp}{o:Zp}(e:∀n,gN.lookup n=fl.lookup n)(h:cS fl g o):cS gN g o:=by cases h with|mk es ep m h1 h2 h3 h4 h5 h6=>exact⟨es,ep,m,h1,h2,h3,h4,λn av z=>h5 n av ((e n).symm.trans z),λn z=>h6 n ((e n).symm.trans z)⟩
structure oi(O:af)(x dx:Z1)(fl:Loc):Prop where
 obj:∃ox,(x,aQ.other ox)∈O/\ox.cls=.ref 242/\(∀c,ox.data≠.cls c)/\ox.dict=some dx
 ne:dx≠x
 dict:(dx,aQ.ext (cS fl))∈O
theorem Fr.inst{x dx:Z1}{fl:Loc}(F:Fr X ρ O s)(am:oi O x dx fl):∃m,s.heap.Inst x 242 m/\s.heap.Ns1 dx m/\(∀n av,fl.lookup n=Z7 av->∃v,m n=Z7 v/\aX (ak X O) s.heap v av)/\(∀n,fl.lookup n=ZT->m n=ZT):=by refine gM am.obj λox h1 h2 h3 h4=>?_;have ho:=F.ib h1;obtain⟨od,ft,es,ep,m,q1,q2,q3,q4,q5,q6⟩:=F.oK am.dict;have n1:s.heap.Ns1 dx m:=t9 od es ep ft q1 q2 q3 q4;exact fe m (fe ox ho h2 h3 (.inr (cQ dx h4 am.ne n1))) n1 (λn av e=>let⟨v,a,b⟩:=q5 n av e;(aj v a b.up)) q6
theorem Dx(P:Zr):(aP P).get? 242=Z7 Bu:=by kernel_rfl
theorem KI(P:Zr):(aP P).get? 241=Z7 (ky P):=by kernel_rfl
theorem aaA(P:Zr):Qz (eZ (ky P)):=Ak (by kernel_rfl)
theorem re{P:Zr}{h:YQ}(Y:Keeps (aP P) h):ClsAt h 242 241 (WD (eZ (ky P))):=⟨⟨_,_,_,_,_,_,_,_,_,_,_,_,Y _ _ (Dx P)⟩,(jM (ky P) (eZ (ky P)) _ (Y _ _ (KI P)) rfl (aaA P) (λC=>rfl))⟩
structure i7(n:ZU):Prop where
 cls:∀P,WD (eZ (ky P)) n=none
 obj:Ym (.type "object") n=pure none
def zh:AV->Prop
 |.raw _=>False|.ext P=>∀g v,P g v->∃a,v=.ref a|_=>True
theorem handed{D:List Z1}{h:YQ}{v:Z3}{av:AV}(r:aX D h v av)(q:zh av):handedOut v=pure v:=by cases r with|raw v=>exact q.elim;|ext m p=>refine br (q _ _ p) λa bJ=>?_;exists bJ;rfl;|_=>rfl
inductive JP(name:ZU)(k:AV->af->Prop)(a:AV)(ag:af):Prop|mk(ad dx fl av)(e:a=.ref ad)(am:oi ag ad dx fl)(hl:fl.lookup name=some av)(hh:zh av)(FA:i7 name)(hk:k av ag)
theorem Ev.attr{x:ZU}{name:ZU}(h:Ev X ρ O (.Name x px) (JP name k))(he:eval (.Attribute (.Name x px) name pos) X.env=(do let o<-eval (.Name x px) X.env;Xk pos.atName;let r<-holding [o] (Sd o name ZW);VD (.Name x px) o r;pure r)):Ev X ρ O (.Attribute (.Name x px) name pos) k:=λE s F=>by refine Attribute_Name_ (wm (h _ s F) (λv aq q=>?_)) he;obtain⟨C,ag,aw,aI,a5,ad,dx,fl,av,rfl,am,hl,hh,FA,hk⟩:=q;cases a5.iR;refine gM (aw.inst am) λm Ix C q1 C=>?_;refine aR (q1 _ _ hl) λv hv rv=>?_;have CA:=re aw.base;obtain⟨nm,q,bs,sn,sub,bW,dd,k0,k1,k2,k3,k5,hC⟩:=CA.obj;have fin:dY X ρ O s k v {aq with toks:=aq.toks+1}:=.from aI (.done aw (.tok _ _) rv hk);obtain⟨vY,g,d,t,os⟩:=aq;exact load_attr hC CA.ns (by kernel_rfl) (FA.cls _) FA.obj Ix hv (handed rv hh) fin
def b8(X:Fx)(ρ:Loc)(O:af)(t:Zt)(a:AV)(k:Loc->af->Prop):Prop:=∀E s v,Fr X ρ O s->aX (ak X O) s.heap v a->ZK (model pw X.w) X.A (assign t X.env v) (λC s'=>∃ρ' O',Fr X ρ' O' s'/\aJ (ak X O) s.heap (ak X O') s'.heap/\k ρ' O') E s
inductive JO(X:Fx)(ρ:Loc)(name:ZU)(a:AV)(k:Loc->af->Prop)(b:AV)(ag:af):Prop|mk(ad dx fl)(eb:b=.ref ad)(am:oi ag ad dx fl)(hz:fl.length<=1000)(FA:i7 name)(FO:∀P,WD (eZ (ky P)) (Z9 "__setattr__")=none)(hk:k ρ (bp ag dx (.ext (cS (gT fl name a)))))
theorem acN{kz o:Zp}(c:kz.cls=o.cls)(d:kz.data=o.data)(sl:kz.slots=o.slots)(dt:kz.dict=o.dict):kz=o:=by cases kz;cases o;cases c;cases d;cases sl;cases dt;rfl
theorem aam{ad dx:Z1}{fl:Loc}{name:ZU}{v:Z3}{a:AV}{m:ZU->Option Z3}{h':YQ}{tk:Nat}(F:Fr X ρ O s)(am:oi O ad dx fl)(rv:aX (ak X O) s.heap v a)(q1:∀n av,fl.lookup n=Z7 av->∃v,m n=Z7 v/\aX (ak X O) s.heap v av)(q2:∀n,fl.lookup n=ZT->m n=ZT)(I':h'.Inst ad 242 (λy=>if y=name then Z7 v else m y))(kk:∀b o,b≠ad->(∀nX rj,s.heap.get? ad=Z7 nX->nX.dict=Z7 rj->b≠rj)->s.heap.get? b=Z7 o->h'.get? b=Z7 o)(same:∀nX,s.heap.get? ad=Z7 nX->∃kz,h'.get? ad=Z7 kz/\kz.cls=nX.cls/\kz.data=nX.data/\kz.slots=nX.slots/\∀rj,nX.dict=Z7 rj->kz.dict=Z7 rj):Fr X ρ (bp O dx (.ext (cS (gT fl name a)))) {s with heap:=h',toks:=tk}/\aJ (ak X O) s.heap (ak X (bp O dx (.ext (cS (gT fl name a))))) h':=by
 refine gM am.obj λox mB C C tO=>?_;have zQ:=F.ib mB;refine vz (same ox zQ) λkz e1 c1 d1 sl1 Ms=>?_;replace e1:=(acN c1 d1 sl1 ((Ms dx tO).trans tO.symm))▸e1;have Gj:∀b o,b≠dx->s.heap.get? b=Z7 o->h'.get? b=Z7 o:=λb o hb e=>by
  by_cases z:b=ad;·rw[z]at e⊢;(exists Zz (e);exists zQ);exact e1
  ·exact kk b o z (λnX rj Nh ed q=>hb (q.trans (Y1 (ed.symm.trans ((congrArg Obj.dict (Y1 (Nh.symm.trans zQ))).trans tO))))) e
 refine gM I' ?_;clear I';intro o' MU C C h8;cases Y1 (e1.symm.trans MU);rcases h8 with⟨z,C⟩|⟨d',h8,C,od,es,ep,ft,w1,w2,w3,w4⟩;·replace z:=tO▸z;cases z
 ·cases Y1 (tO.symm.trans h8);have aW:=F.iF (ao:=.ext (cS (gT fl name a))) am.dict Gj;refine⟨F.upd (tk:=tk) (ao:=.ext (cS (gT fl name a))) am.dict Gj ft ⟨Ad,es,ep,_,w1,w2,w3,w4,λn av e=>?_,λn e=>?_⟩,aW⟩
  ·replace e:=qw▸e;by_cases z:n=name;·rw[if_pos z]at e⊢;cases e;exact aj v rfl (fz.of rv)
   ·rw[if_neg z]at e⊢;refine aR (q1 n av e) λu hu ru=>?_;exact aj u hu (fz.of ru)
  ·replace e:=qw▸e;by_cases z:n=name;·replace e:=(if_pos z)▸e;cases e
   ·rw[if_neg z]at e⊢;exact q2 n e
theorem b8.attr{e:Zt}{name:ZU}{a:AV}{k:Loc->af->Prop}(h:Ev X ρ O e (JO X ρ name a k)):b8 X ρ O (.Attribute e name px) a k:=λE s v F r=>by
 exists assign_Attribute ..;refine Z8 (ZL (wm (h _ s F) (λov aq q=>Z8 (YW (Z8 (ZL ?_))))));obtain⟨C,ag,aw,aI,a5,ad,dx,fl,rfl,am,hz,FA,FO,hk⟩:=q;cases a5.iR;refine gM (aw.inst am) λm Ix n1 q1 q2=>?_;have CA:=re aw.base;obtain⟨nm,q,bs,sn,sub,bW,dd,k0,k1,k2,k3,k5,hC⟩:=CA.obj;have hxC:ad≠242:=by refine aR am.obj λox h1 C=>?_;intro e;have:=(aw.own _ h1).a4;rw[e,Dx]at this;cases this
 have hw:Within m (fl.map (·.1)):=λy hy=>by cases e:fl.lookup y with|none=>exact absurd (q2 y e) hy;|some av=>exact ZY.mpr (aj _ (mem_of_lookup e) rfl)
 have main:=λh' sK I' kk same=>aam (name:=name) (h':=h') (tk:=sK) aw am (r.move aI) q1 q2 I' kk same;obtain⟨vY,g,d,t,os⟩:=aq;exact store_attr PySem.F.store_object hC CA.ns (FO _) (FA.cls _) FA.obj hxC Ix (λh' sK I' kk same=>T5 (eu ρ _ ((main h' sK I' kk same).1) (aI.trans (main h' sK I' kk same).2) hk)) hw (by exists Z4 ..;exact ZC hz (by exists Zs ..;decide))
end
noncomputable section
variable{X Y:Fx}{ρ aZ:Loc}{O O' OL:af}{s s':Z6}{E:Z3->Z6->Prop}{k:AV->af->Prop}{kb:Bool->af->Prop}{pos px py cD:XY}{K:Kn}
structure ii(X Y:Fx)(name:ZU)(scope:X7)(fa:Z1)(cd:Z3):Prop where
 w:Y.w=X.w
 env:∃L,Y.env=Zf name scope L fa cd/\Y.A=X.A.deeper (Zf name scope L fa cd)wr:Y.wr
theorem fi{ag aM:af}{a:Z1}:a∈ak X (ag++aM)↔a∈ag.map (·.1)\/a∈ak X aM:=by
 rw[bg,bg,ZJ,ZE];constructor
 ·rintro((h|h)|h);·exact .inl h
  ·exact .inr (.inl h)
  ·exact .inr (.inr h)
 ·rintro(h|h|h);·exact .inl (.inl h)
  ·exact .inl (.inr h)
  ·exact .inr h
set_option backward.match.sparseCases true in theorem Gv{fa ca:Z1}{name:ZU}{body:List Y4}{scope:X7}{l:List AV}{vs:List Z3}{ns:List ZU}{s:Z6}{G:Prop}(F:Fr X ρ (OL++O') s)(R:bb (ak X (OL++O')) s.heap vs l)(tz:(∀x∈ns.zip vs,scope.names.lookup x.1=Z7 .local\/(scope.names.lookup x.1=Z7 .cell/\((XF (s.heap.objs.size+1) scope.names []).lookup x.1).isSome=ZW))->(∀aH tk,QI s.heap s.heap.objs.size aH (bindL (Zf name scope s.heap.objs.size fa (.ref ca)).kindOf (ns.zip vs) λC=>ZT)->Cl s.heap.objs.size (XF (s.heap.objs.size+1) scope.names []) aH (Qk (Zf name scope s.heap.objs.size fa (.ref ca)).kindOf (ns.zip vs) λC=>ZT)->ZK (model pw X.w) (X.A.deeper (Zf name scope s.heap.objs.size fa (.ref ca))) (execs body (Zf name scope s.heap.objs.size fa (.ref ca))) (λf s'=>dY X ρ (OL++O') s k (match f with|.ret v=>v|_=>.none) s') (λC C=>False) {s with heap:=aH,toks:=tk})->G)(gQ:ns.Nodup)(hl:∀x∈ns,scope.names.lookup x=Z7 .local\/scope.names.lookup x=Z7 .cell)(lX:(scope.names.map (·.1)).Nodup)(kZ:scope.kind=.function)(h:∀Y,ii X Y name scope fa (.ref ca)->Ex Y (ns.zip l) OL body ⟨λC ag=>k .none (ag++O'),λa ag=>k a (ag++O'),λC C=>False,λC C=>False⟩):G:=by
 have kind:∀x∈ns.zip vs,scope.names.lookup x.1=Z7 .local\/(scope.names.lookup x.1=Z7 .cell/\((XF (s.heap.objs.size+1) scope.names []).lookup x.1).isSome=ZW):=λx hx=>by
  refine ZR (hl x.1 (U7 hx).1) (λh=>?_) (λh=>?_);·exact .inl h
  ·exact .inr ⟨h,cellsFrom_some _ _ _ h⟩
 have wF:=F.nd;rw[ZJ,YY]at wF;have ic:∀a∈OL.map (·.1),∃p∈OL,p.1=a:=λa ha=>let⟨p,hp,e⟩:=ZY.mp ha;(aj p hp e);refine tz kind (λaH tk FL CL=>?_);have hsz:s.heap.objs.size<aH.objs.size:=FL.ns.lt;have lt':∀d∈ak X O',d<s.heap.objs.size:=λd hd=>F.lt d (fi.mpr (.inr hd));have rR:∀a∈OL.map (·.1),a<s.heap.objs.size:=λa ha=>F.lt a (fi.mpr (.inl ha));let Y:Fx:={w:=X.w,A:=X.A.deeper (Zf name scope s.heap.objs.size fa (.ref ca)),env:=Zf name scope s.heap.objs.size fa (.ref ca),h₀:=s.heap,D₀:=ak X O',bY:=OL.map (·.1),held:=[],G:=X.G,os:=X.os,fn:=kZ,glob:=rfl,bn:=rfl,hh:=X.hh,above:=.inl (fY _),mq:=F.base,mH:=λa ha=>(F.bY ha).1,h9:=λa ha=>(F.bY ha).2,apart:=CL.apart,ni:=λn c hc=>Wg (CL.above n c hc),kK:=CN (yv _ _ _ lX Yd λC C q=>nomatch q),old:=λd hd=>F.ex d (fi.mpr (.inr hd)),hnl:=λq hq=>(nomatch hq),hnc:=λq hq=>(nomatch hq),hab:=λq hq=>nomatch hq};have CY:ii X Y name scope fa (.ref ca):=⟨rfl,(aj _ rfl rfl),λn c hc=>.inl (X2 (XM (CL.above n c hc)))⟩;have S0:aJ (ak X (OL++O')) s.heap (ak Y OL) aH:=λa o ha e=>by
  refine⟨λq=>?_,FL.keep a o e⟩;have:=Zc e;refine jB q (λq=>?_) (λq=>?_) (λn q=>?_) (λq=>?_) λo' q=>?_;·exact ha (fi.mpr (.inl q))
  ·exact absurd q (X6 this)
  ·exact absurd (CL.above n a q) (UE.mpr (XM this))
  ·exact ha (fi.mpr (.inr q))
  ·cases q
 have FY:Fr Y (ns.zip l) OL {s with heap:=aH,toks:=tk}:=by
  refine⟨λa o C e=>FL.keep a o e,F.gens,F.os,⟨_,Qk (Zf name scope s.heap.objs.size fa (.ref ca)).kindOf (ns.zip vs) λC=>ZT,FL.ns,λn c hc=>?_,λx av e=>?_⟩,λq hq=>(nomatch hq),λp hp=>?_,wF.1⟩;·have hu:=Y.kK n;cases fZ:(XF (s.heap.objs.size+1) scope.names []).lookup n with
 |none=>rw[Xm]at fZ;have z:=fZ _ hc;simp at z;|some c'=>have:c'=c:=hu c c' hc (mem_of_lookup fZ);subst this;exact CL.cell n c' fZ
  ·refine aR (CQ R e) λv e1 r=>?_;have hx:=CO e;refine aj v ?_ (r.move S0);have nd:((ns.zip vs).map (·.1)).Nodup:=CP gQ;refine ZR (hl x hx) (λq=>?_) (λq=>?_);·exact .inl ⟨q,yu (kd:=Y.env.kindOf) q nd e1⟩
   ·refine .inr (bM q (DC (kd:=Y.env.kindOf) (λz=>?_) nd e1) (XR.mp (cellsFrom_some _ _ _ q)));rw[show Y.env.kindOf x=Z7 .cell from q]at z;cases z
  ·refine fB (F.own p (Zk _ hp)) λb1 b2 b3 b4 o' cN z=>?_;have bC:=Zc cN;exact⟨.inr (ZY.mpr (aj p hp rfl)),X6 bC,⟨λn c hc=>X6 (Rn bC (CL.above n c hc)),λq hq=>nomatch hq⟩,b4,o',FL.keep _ _ cN,z.move S0⟩
 refine wm (h Y CY (λC C=>False) _ FY) (λfl s' x=>?_);refine lP x ?_;clear x;intro ρ' ag aw aI x;have Di:∀a∈ag.map (·.1),s.heap.get? a=ZT\/a∈OL.map (·.1):=λa ha=>by refine dn ha λp hp=>?_;exact(aw.own p hp).a1
 have kp:∀a o,a∉OL.map (·.1)->s.heap.get? a=Z7 o->s'.heap.get? a=Z7 o:=λa o ha e=>aw.keep a o ha e;have xL:aJ (ak X (OL++O')) s.heap (ak X (ag++O')) s'.heap:=λa o ha e=>by
  have hL:a∉OL.map (·.1):=λq=>ha (fi.mpr (.inl q));refine⟨λq=>?_,kp a o hL e⟩;refine ZR (fi.mp q) (λq=>?_) (λq=>?_)
  ·refine ZR (Di a q) (λz=>?_) (λz=>?_);·replace e:=z▸e;cases e
   ·exact hL z
  ·exact ha (fi.mpr (.inr q))
 have nL:∀a∈ak X O',a∉OL.map (·.1):=λa ha q=>Y.h9 a q ha;have less:aJ (ak Y ag) s'.heap (ak X (ag++O')) s'.heap:=λa o ha e=>⟨λq=>ha (bg.mpr ((fi.mp q).imp id λz=>.inr (.inr (.inl z)))),e⟩;have FX:Fr X ρ (ag++O') s':=by
  refine F.move xL (λa o hl ha e=>kp a o (λq=>?_) e) aw.gens (aw.os.trans F.os.symm) (λo e=>kp _ _ (nL _ (bg.mpr (.inr (.inl rfl)))) e) (λn c hc o e=>kp _ _ (nL _ (bg.mpr (.inr (.inr (.inl ⟨n,hc⟩))))) e) (λq hq e=>kp _ _ (nL _ (bg.mpr (.inr (.inr (.inr (.inr ⟨q.2,hq⟩)))))) e) (λp hp=>?_) ?_
  ·refine aR (ic a q) λp hp bH=>?_;subst bH;refine ZR ((F.own p (Zk _ hp)).1) (λz=>?_) (λz=>?_);·have z:X.h₀.get? p.1=ZT:=z;replace ha:=z▸ha;cases ha
   ·exact hl z
  ·refine ZR (ZE.mp hp) (λhp=>?_) (λhp=>?_)
   ·refine fB (aw.own p hp) λb1 b2 b3 b4 o' cN z=>?_;refine ZR b1 (λb1=>?_) (λb1=>?_)
    ·have b1:s.heap.get? p.1=ZT:=b1;have nS:p.1∉ak X O':=λq=>by refine br (F.ex _ (fi.mpr (.inr q))) λo2 ql=>?_;replace ql:=b1▸ql;cases ql
     have n0:X.h₀.get? p.1=ZT\/p.1∈X.bY:=by cases e0:X.h₀.get? p.1 with|none=>exact .inl rfl;|some o2=>
       by_cases zl:p.1∈X.bY;·exact .inr zl
       ·have:=F.keep _ _ zl e0;replace this:=b1▸this;cases this
     exact⟨n0,λq=>nS (bg.mpr (.inr (.inl q))),⟨λn c hc q=>nS (bg.mpr (.inr (.inr (.inl ⟨n,q▸hc⟩)))),λq hq e=>nS (bg.mpr (.inr (.inr (.inr (.inr ⟨q.2,e▸hq⟩)))))⟩,b4,o',cN,z.move less⟩
    ·refine aR (ic _ b1) λp' jI e'=>?_;obtain⟨c1,c2,c3,c4,C⟩:=F.own p' (Zk _ jI);rw[e']at c1 c2 c3 c4;exact⟨c1,c2,c3,c4,o',cN,z.move less⟩
   ·refine fB (F.own p (Zl _ hp)) λb1 b2 b3 b4 o' cN z=>?_;exact⟨b1,b2,b3,b4,o',kp _ _ (nL _ (bg.mpr (.inl (ZY.mpr (aj p hp rfl))))) cN,z.move xL⟩
  ·rw[ZJ,YY];refine bM aw.nd wF.2.1 (λa ha b hb e=>?_);subst e;refine ZR (Di a ha) (λz=>?_) (λz=>?_);·refine br (F.ex a (fi.mpr (.inr (bg.mpr (.inl hb))))) λo2 ql=>?_;replace ql:=z▸ql;cases ql
   ·exact wF.2.2 a z a hb rfl
 cases fl with|next=>exact⟨.none,_,FX,xL,.none,x⟩;|ret v=>refine aR x ?_;clear x;intro a r hk;exact⟨a,_,FX,xL,r.move less,hk⟩;|brk=>exact x.elim;|cont=>exact x.elim
set_option backward.match.sparseCases true in theorem aG.lend{fa ca:Z1}{o co:Zp}{name:ZU}{fd:V4}{body:List Y4}{scope:X7}{l:List AV}{fS:Array Z3}{ct:PG}{ns:List ZU}{dv:List Z3}{dl:List AV}(a9:X.A.depth<ZV)(ho:(aP X.w.params).get? fa=Z7 o)(hd:o.data=.func fd)(e9:(aP X.w.params).get? ca=Z7 co)(ix:co.data=.fields fS)(lT:fS[1]?=Z7 (.str name ct))(tz:∀{A:Zw}{R:Wb->Z6->Prop}{s:Z6}{args:List Z3},Keeps (aP X.w.params) s.heap->A.depth<ZV->s.heap.get? fa=Z7 o->s.heap.NoLimit->s.heap.CodeRec (.ref ca) name->args.length=l.length->(∀x∈ns.zip (args++dv),scope.names.lookup x.1=Z7 .local\/(scope.names.lookup x.1=Z7 .cell/\((XF (s.heap.objs.size+1) scope.names []).lookup x.1).isSome=ZW))->(∀aH tk,QI s.heap s.heap.objs.size aH (bindL (Zf name scope s.heap.objs.size fa (.ref ca)).kindOf (ns.zip (args++dv)) λC=>ZT)->Cl s.heap.objs.size (XF (s.heap.objs.size+1) scope.names []) aH (Qk (Zf name scope s.heap.objs.size fa (.ref ca)).kindOf (ns.zip (args++dv)) λC=>ZT)->ZK (model pw X.w) (A.deeper (Zf name scope s.heap.objs.size fa (.ref ca))) (execs body (Zf name scope s.heap.objs.size fa (.ref ca))) (λf s'=>R (.ok (.ret (match f with|.ret v=>v|_=>.none))) s') (λC C=>False) {s with heap:=aH,toks:=tk})->Vk (model pw X.w) A (.call (.ref fa) ⟨args,[]⟩) R s)(zu:∀D h,bb D h dv dl)(gQ:ns.Nodup)(hl:∀x∈ns,scope.names.lookup x=Z7 .local\/scope.names.lookup x=Z7 .cell)(lX:(scope.names.map (·.1)).Nodup)(kZ:scope.kind=.function)(h:∀Y,ii X Y name scope fa (.ref ca)->Ex Y (ns.zip (l++dl)) OL body ⟨λC ag=>k .none (ag++O'),λa ag=>k a (ag++O'),λC C=>False,λC C=>False⟩):aG X ρ (OL++O') (.ref fa) l k:=λE s vs F R0=>Gv F (R0.append (zu (ak X (OL++O')) s.heap)) (λkind hb=>XH (tz F.base a9 (F.base _ _ ho) (qD F.base) (ua ca co fS ct rfl (F.base _ _ e9) ix lT) R0.length kind hb)) gQ hl lX kZ h
theorem ii.bd{name:ZU}{scope:X7}{fa:Z1}{cd:Z3}(ah:ii X Y name scope fa cd){x:ZU}(h:scope.names.lookup x=Z7 .local\/scope.names.lookup x=Z7 .cell):Bd Y x:=by
 refine aR ah.env λL e C=>?_;refine ZR h (λh=>?_) (λh=>?_);·exact .inl (by exists e;exact h)
 ·refine .inr (bM (by exists e;exact h) ah.wr ?_);have:=cellsFrom_some scope.names (L+1) [] h;exists e;exact XR.mp this
theorem ii.glob{name:ZU}{scope:X7}{fa:Z1}{cd:Z3}(ah:ii X Y name scope fa cd){x:ZU}(h:scope.names.lookup x=Z7 .globalImplicit):Y.env.kindOf x=Z7 .globalImplicit:=by refine aR ah.env λL e C=>?_;exists e;exact h
end
noncomputable section
variable{X Y:Fx}{ρ aZ:Loc}{O O' OL:af}{s s':Z6}{E:Z3->Z6->Prop}{k:AV->af->Prop}{kb:Bool->af->Prop}{pos px py cD:XY}{K:Kn}
theorem Fr.made{h':YQ}{x dx:Z1}{tk:Nat}(F:Fr X ρ O s)(M:PP s.heap h' x dx 242):∃ox,Fr X ρ ((x,.other ox)::(dx,.ext (cS []))::O) {s with heap:=h',toks:=tk}/\oi ((x,.other ox)::(dx,.ext (cS []))::O) x dx []/\aJ (ak X O) s.heap (ak X ((x,.other ox)::(dx,.ext (cS []))::O)) h':=by
 refine gM M.inst λox hx hc hnc tF=>?_;have tE:=M.dict ox hx;obtain⟨d',h8,bF,n1⟩:∃d,ox.dict=Z7 d/\d≠x/\h'.Ns1 d λC=>ZT:=by
  refine ZR tF (λbT=>aO bT λz C=>?_) (λq=>?_);·replace z:=tE▸z;cases z
  ·exact q
 have e:d'=dx:=Y1 (h8.symm.trans tE);subst e;obtain⟨od,es,ep,ft,w1,w2,w3,w4⟩:=n1;have nx:∀a∈ak X O,a≠x/\a≠d':=λa ha=>by refine br (F.ex a ha) λo ho=>?_;exact⟨λq=>(by subst q;replace ho:=M.newX▸ho;cases ho),λq=>(by subst q;replace ho:=M.newD▸ho;cases ho)⟩
 have st:aJ (ak X O) s.heap (ak X ((x,.other ox)::(d',.ext (cS []))::O)) h':=λa o ha e=>by
  refine⟨λq=>?_,M.keeps a o e⟩;have:(((x,aQ.other ox)::(d',aQ.ext (cS []))::O):af)=[(x,aQ.other ox),(d',aQ.ext (cS []))]++O:=rfl;replace q:=this▸q;refine ZR (fi.mp q) (λq=>?_) (λq=>?_)
  ·simp only[Z2,YS,ZZ,YU,or_false]at q;rcases q with rfl|rfl;·replace e:=M.newX▸e;cases e
   ·replace e:=M.newD▸e;cases e
  ·exact ha q
 have Je:∀a,s.heap.get? a=ZT->(X.h₀.get? a=ZT\/a∈X.bY)/\a≠X.env.locals/\((∀n c,(n,c)∈X.env.cells->a≠c)/\∀q∈X.held,a≠q.1)/\(aP X.w.params).get? a=ZT:=λa ha=>by
  have na:a∉ak X O:=λq=>by refine br (F.ex a q) λo ho=>?_;replace ho:=ha▸ho;cases ho
  refine k9 ?_ (λq=>na (bg.mpr (.inr (.inl q)))) ⟨λn c hc q=>na (bg.mpr (.inr (.inr (.inl ⟨n,q▸hc⟩)))),λq hq e=>na (bg.mpr (.inr (.inr (.inr (.inr ⟨q.2,e▸hq⟩)))))⟩ ?_;·cases e0:X.h₀.get? a with|none=>exact .inl rfl;|some o2=>
    by_cases zl:a∈X.bY;·exact .inr zl
    ·have:=F.keep _ _ zl e0;replace this:=ha▸this;cases this
  ·cases e0:(aP X.w.params).get? a with|none=>rfl;|some o2=>have:=F.base _ _ e0;replace this:=ha▸this;cases this
 refine cQ ox (F.move st (λa o C C e=>M.keeps a o e) F.gens rfl (λo e=>M.keeps _ _ e) (λC c C o e=>M.keeps _ _ e) (λq C e=>M.keeps _ _ e) (λp hp=>?_) ?_) ⟨(fe ox (.head _) hc hnc tE),bF,.tail _ (.head _)⟩ st
 ·rcases ZZ.mp hp with rfl|hp;·refine kO (Je x M.newX) λa1 a2 a3 a4=>?_;exact⟨a1,a2,a3,a4,ox,hx,rfl⟩
  ·rcases ZZ.mp hp with rfl|hp;·refine kO (Je d' M.newD) λa1 a2 a3 a4=>?_;exact⟨a1,a2,a3,a4,od,ft,Ad,es,ep,_,w1,w2,w3,w4,λn av e=>by simp at e,λC C=>rfl⟩
   ·refine fB (F.own p hp) λa1 a2 a3 a4 o ho z=>?_;exact⟨a1,a2,a3,a4,o,M.keeps _ _ ho,z.move st⟩
 ·rw[Z2,Z2,ZG,ZG];refine bM (λq=>?_) (λq=>(nx _ (bg.mpr (.inl q))).2 rfl) F.nd;refine ZR (ZZ.mp q) (λq=>?_) (λq=>?_);·exact bF q.symm
  ·exact(nx _ (bg.mpr (.inl q))).1 rfl
noncomputable def Fx.at(X:Fx)(A:Zw)(hh:A.handled=ZT):Fx:={X with A:=A,hh:=hh}
theorem Fr.at{A:Zw}{hh:A.handled=ZT}(F:Fr X ρ O s):Fr (X.at A hh) ρ O s:=⟨F.keep,F.gens,F.os,(let⟨a,b,c,d,e⟩:=F.vars;⟨a,b,c,d,e⟩),F.held,λp hp=>let⟨a,b,c,d,e,f,g⟩:=F.own p hp;⟨a,b,c,d,e,f,g⟩,F.nd⟩
theorem Fr.uv{A:Zw}{hh:A.handled=ZT}(F:Fr (X.at A hh) ρ O s):Fr X ρ O s:=⟨F.keep,F.gens,F.os,(let⟨a,b,c,d,e⟩:=F.vars;⟨a,b,c,d,e⟩),F.held,λp hp=>let⟨a,b,c,d,e,f,g⟩:=F.own p hp;⟨a,b,c,d,e,f,g⟩,F.nd⟩
noncomputable def sE(A:Zw):Zw:=A.under (.builtin "type.__call__" ⟨[.ref 242],[]⟩)
theorem aeQ(A:Zw)(vs:List Z3):A.under (.builtin "type.__call__" ⟨.ref 242::vs,[]⟩)=sE A:=rfl
theorem Jy{A:Zw}(h:A.handled=ZT):(sE A).handled=ZT:=h
theorem aG.make{fI:Z1}{oI:Zp}{l:List AV}(hi:∀P,WD (eZ (ky P)) (Z9 "__init__")=Z7 (.ref fI))(ho:(aP X.w.params).get? fI=Z7 oI)(qh:oI.cls=.type "function")(h:∀x dx ox,oi ((x,.other ox)::(dx,.ext (cS []))::O) x dx []->aG (X.at (sE X.A) (Jy X.hh)) ρ ((x,.other ox)::(dx,.ext (cS []))::O) (.ref fI) (.ref x::l) λr ag=>r=.none/\k (.ref x) ag):aG X ρ O (.ref 242) l k:=λE s vs F R=>by
 have CA:=re F.base;obtain⟨nm,q,bs,sn,sub,bW,dd,k0,k1,k2,k3,k5,hC⟩:=CA.obj;have wc:=F.base _ _ ho;have main:∀h' x dx,PP s.heap h' x dx 242->ZK (model pw X.w) (X.A.under (.builtin "type.__call__" ⟨.ref 242::vs,[]⟩)) (call (.ref fI) (.ref x::vs)) (λr s'=>r=.none/\dY X ρ O s k (.ref x) s') E {s with heap:=h'}:=λh' x dx M=>by refine dE (F.made (tk:=s.toks) M) λox aw am st=>?_;exists aeQ ..;refine wm (h x dx ox am E {s with heap:=h'} (.ref x::vs) aw.at (.cons (.ref _) (R.move st))) (λv aL z=>cr z λa aM aS aY cK z=>aO z λe hk=>?_);subst e;cases cK.iN;exact⟨rfl,.ref x,aM,aS.uv,st.trans aY,.ref _,hk⟩
 obtain⟨vY,g,d,t,os⟩:=s;exact wpAny_call_obj_init PySem.F.objNew hC CA.ns (hi _) wc qh λh' x dx M=>main h' x dx M
inductive x9(O:af)(name:ZU)(a:AV)(P:Z1->Prop):Prop|mk(ad dx fl)(ea:a=.ref ad)(am:oi O ad dx fl)(hl:fl.lookup name=ZT)(h:P ad)
theorem G8{o e:Zt}{es:List Zt}{name:ZU}{f:Z1}{of:Zp}{fd:V4}{pl:SV Bool}{y:Option Z3}{Q:Z3->Z6->Prop}{E:Z3->Z6->Prop}{P:Z1->List AV->af->Prop}(hf:∀P,WD (eZ (ky P)) name=Z7 (.ref f))(rG:(aP X.w.params).get? f=Z7 of)(qh:of.cls=.type "function")(nv:of.data=.func fd)(hB:Ym (.type "object") name=pure y)(hs:(e::es).any dH=ZS)(he:eval (.Call (.Attribute o name cD) (e::es) [] pos) X.env=(do let ov<-eval o X.env;Xk cD.atName;let(f,first)<-holding [ov] (Sc ov name pl);Vd pos f first (Xb pos (Yt (e::es) X.env)) []))(F:Fr X ρ O s)(h:Ev X ρ O o λa ag=>x9 ag name a λad=>cC X ρ ag (e::es) λl aM=>P ad l aM)(fin:∀ad l aM aL vs,P ad l aM->Fr X ρ aM aL->aJ (ak X O) s.heap (ak X aM) aL.heap->bb (ak X aM) aL.heap vs l->ZK (model pw X.w) X.A (call (.ref f) (.ref ad::vs)) Q E aL):ZK (model pw X.w) X.A (eval (.Call (.Attribute o name cD) (e::es) [] pos) X.env) Q E s:=by
 refine QS (pl:=pl) (wm (h _ s F) (λov aq z=>?_)) he;obtain⟨a,ag,aw,aI,a5,ad,dx,fl,ea,am,hl,aH⟩:=z;cases(ea▸a5).iR;refine gM (aw.inst am) λm Ix C C q2=>?_;have CA:=re aw.base;obtain⟨nm,q,bs,sn,sub,bW,dd,k0,k1,k2,k3,k5,hC⟩:=CA.obj;have Nv:ZK (model pw X.w) X.A (Vd pos (.ref f) [.ref ad] (Xb pos (Yt (e::es) X.env)) []) Q E aq:=by refine callWith_meth (h₀:=aP X.w.params) nv rG (wm (aH _ aq pos aw) (λvs aL z=>?_)) (kC hs);refine j5 z ?_;clear z;intro l aM aS aY cK be;exact⟨aS.base,fin ad l aM aL vs be aS (aI.trans aY) cK⟩
 have vV:=aw.base _ _ rG;obtain⟨vY,g,d,t,os⟩:=aq;exact method_of hC CA.ns (by kernel_rfl) (by kernel_rfl) (hf _) vV qh hB Ix (q2 _ hl) Nv
theorem Ev.ku{o e:Zt}{es:List Zt}{name:ZU}{f:Z1}{of:Zp}{fd:V4}{pl:SV Bool}{y:Option Z3}(hf:∀P,WD (eZ (ky P)) name=Z7 (.ref f))(rG:(aP X.w.params).get? f=Z7 of)(qh:of.cls=.type "function")(nv:of.data=.func fd)(hB:Ym (.type "object") name=pure y)(hs:(e::es).any dH=ZS)(he:eval (.Call (.Attribute o name cD) (e::es) [] pos) X.env=(do let ov<-eval o X.env;Xk cD.atName;let(f,first)<-holding [ov] (Sc ov name pl);Vd pos f first (Xb pos (Yt (e::es) X.env)) []))(h:Ev X ρ O o λa ag=>x9 ag name a λad=>cC X ρ ag (e::es) λl aM=>aG X ρ aM (.ref f) (.ref ad::l) k):Ev X ρ O (.Call (.Attribute o name cD) (e::es) [] pos) k:=λE s F=>G8 (P:=λad l aM=>aG X ρ aM (.ref f) (.ref ad::l) k) hf rG qh nv hB hs he F h λad l aM aL vs be aS st r=>wm (be _ aL _ aS (.cons (.ref _) r)) (λv cR x=>.from st x)
theorem Ev.AA{o:Zt}{name:ZU}{f:Z1}{of:Zp}{fd:V4}{pl:SV Bool}{y:Option Z3}(hf:∀P,WD (eZ (ky P)) name=Z7 (.ref f))(rG:(aP X.w.params).get? f=Z7 of)(qh:of.cls=.type "function")(nv:of.data=.func fd)(hB:Ym (.type "object") name=pure y)(he:eval (.Call (.Attribute o name cD) [] [] pos) X.env=(do let ov<-eval o X.env;Xk cD.atName;let(f,first)<-holding [ov] (Sc ov name pl);Vd pos f first (Xb pos (Yt [] X.env)) []))(h:Ev X ρ O o λa ag=>x9 ag name a λad=>aG X ρ ag (.ref f) [.ref ad] k):Ev X ρ O (.Call (.Attribute o name cD) [] [] pos) k:=λE s F=>by
 refine QS (pl:=pl) (wm (h _ s F) (λov aq z=>?_)) he;obtain⟨a,ag,aw,aI,a5,ad,dx,fl,ea,am,hl,aH⟩:=z;cases ea;cases a5.iR;refine gM (aw.inst am) λm Ix C C q2=>?_;have CA:=re aw.base;obtain⟨nm,q,bs,sn,sub,bW,dd,k0,k1,k2,k3,k5,hC⟩:=CA.obj;have vV:=aw.base _ _ rG;have fin:ZK (model pw X.w) X.A (Vd pos (.ref f) [.ref ad] (Xb pos (Yt [] X.env)) []) (dY X ρ O s k) E aq:=callWith_meth0 nv vV (wm (aH _ aq _ aw (.cons (.ref _) .nil)) (λv cR x=>.from aI x));obtain⟨vY,g,d,t,os⟩:=aq;exact method_of hC CA.ns (by kernel_rfl) (by kernel_rfl) (hf _) vV qh hB Ix (q2 _ hl) fin
end
noncomputable section
variable{X Y:Fx}{ρ aZ:Loc}{O O' OL:af}{s s':Z6}{E:Z3->Z6->Prop}{k:AV->af->Prop}{kb:Bool->af->Prop}{pos px py cD:XY}{K:Kn}
noncomputable def qA(nm name:ZU)(params:UN)(body:List Y4)(scope:X7)(pm:Z3)(ca:Z1)(doc:Z3):V4:={name:=nm,qualname:=name,params:=params,body:=.stmts body,scope:=scope,globals:=Xs,closure:=[],defaults:=.none,kwdefaults:=.none,doc:=doc,pyModule:=pm,annotations:=ZT,code:=.ref ca,closureTuple:=.none,builtins:=Vq}
theorem aG.ku{fa ca:Z1}{o co:Zp}{nm name:ZU}{params:UN}{body:List Y4}{scope:X7}{pm doc:Z3}{l:List AV}{fS:Array Z3}{ct:PG}{ns:List ZU}(a9:X.A.depth<ZV)(ho:(aP X.w.params).get? fa=Z7 o)(hd:o.data=.func (qA nm name params body scope pm ca doc))(e9:(aP X.w.params).get? ca=Z7 co)(ix:co.data=.fields fS)(lT:fS[1]?=Z7 (.str name ct))(hb:∀vs:List Z3,vs.length=l.length->Ss (qA nm name params body scope pm ca doc) ⟨vs,[]⟩=pure (ns.zip vs))(gQ:ns.Nodup)(hl:∀x∈ns,scope.names.lookup x=Z7 .local\/scope.names.lookup x=Z7 .cell)(lX:(scope.names.map (·.1)).Nodup)(kZ:scope.kind=.function)(qi:scope.isGenerator=ZS)(tC:scope.isCoroutine=ZS)(h:∀Y,ii X Y name scope fa (.ref ca)->Ex Y (ns.zip l) OL body ⟨λC ag=>k .none (ag++O'),λa ag=>k a (ag++O'),λC C=>False,λC C=>False⟩):aG X ρ (OL++O') (.ref fa) l k:=by
 refine aG.lend (fd:=qA nm name params body scope pm ca doc) (ns:=ns) (dv:=[]) (dl:=[]) a9 ho hd e9 ix lT ?_ (λC C=>.nil) gQ hl lX kZ λY ah=>by exists ZA ..;exact h Y ah
 intro A R s args tL hr tX qk tD dG kind j8;refine RF (fd:=qA nm name params body scope pm ca doc) (body:=body) (binds:=ns.zip (args++[])) hr tX hd qk tD rfl (by exists ZA ..;exact hb args dG) rfl kind (λaq Xc=>?_) tC qi kZ;refine iu Xc.done λaH tk bS C=>?_;subst bS;exact X5 (j8 aH tk ⟨Xc.toInCall.ns,Xc.toInCall.keep,Xc.toInCall.fresh⟩ ⟨Xc.cell,Xc.apart,Xc.above⟩) (λC C x=>x) (λC C x=>x.elim)
theorem Cm.isN{a:AV}{l:List AV}(h:kb ZS O):Cm X ρ O .Is (.lst l) .none kb:=λE s u v F ru rv=>by cases rv.iN;cases ru.iL with|mk hd hg rl=>exact is_none_ne (λq=>nomatch q) (hV F h)
theorem Cm.aas(h:kb ZW O):Cm X ρ O .Is .none .none kb:=λE s u v F ru rv=>by cases rv.iN;cases ru.iN;exact is_none_none (hV F h)
end
noncomputable section
variable{X Y:Fx}{ρ aZ:Loc}{O O' OL:af}{s s':Z6}{E:Z3->Z6->Prop}{k:AV->af->Prop}{kb:Bool->af->Prop}{pos px py cD:XY}{K:Kn}
theorem Ev.ael{o e:Zt}{es:List Zt}{name:ZU}{id:String}(slot:P4 "str" name id)(ty:T7 (.builtin id)=pure (.type "method_descriptor"))(nu:Vi o name X.env (eval o X.env)=eval o X.env)(zx:((Xb pos (Yt (e::es) X.env)).all (λx=>!x.1)&&(Qj pos (Sr [] X.env)).all (λx=>x.1.isSome)&&decide ((e::es).length+([]:List Rm).length+(if([]:List Rm).isEmpty then 0 else 1)<30))=ZW)(lW:(cD.endLine==pos.line)=ZW)(hs:(e::es).any dH=ZS)(h:Ev X ρ O o λa ag=>∃x,a=.str x/\cC X ρ ag (e::es) λl aM=>aG X ρ aM (.builtin id) (.str x::l) k):Ev X ρ O (.Call (.Attribute o name cD) (e::es) [] pos) k:=λE s F=>by refine TK nu zx lW (wm (h _ s F) (λov aq z=>cr z λa ag aw aI a5 z=>aR z λx ea aH=>?_));subst ea;cases a5 with|str x t=>refine pe ("str") id PySem.F.plainAttrs_str slot ty (typeIs_str _ _ _) (λC e=>nomatch e) ?_;have o8:=kC (env:=X.env) hs;refine callWith_method1 (env:=X.env) (wm (aH _ aq pos aw) (λvs aL cy=>j5 cy λl aM aS aY cK be=>?_)) o8 (lq (by rw[YF,YM]at hs;exact hs.2));exact wm (be _ aL _ aS (.cons (.str _ _) cK)) (λv cR x=>.from (aI.trans aY) x)
theorem NI{n:Int}(h0:0<=n)(h1:n<10^7)(h:k (.str (Z9 (toString n))) O):aG X ρ O (.builtin "str.format") [.str (Z9 "{}"),.int n] k:=λE s vs F R=>by
 replace R:=R.i2;obtain⟨r1,r2⟩:=R;cases r1.iS;cases r2.iI;refine' To ?nH ?nJ ?nK ?hh;case nH=>kfm_eq
 case nJ=>kfm_args
 case nK=>apply US;intro _ _ _ _ _ _ _;refine Z8 (Zu (a:=(_,_,_)) rfl ?_);refine Z8 ?_;refine Z8 ?_;rw[VC];refine Sb ?_;intro _ _;repeat(refine Rl ?_;kpc_if;first|kfm_close|(kpc_check;refine Z8 (VB (by kfm_num) (by rfl) (Z8 (ZL (Zu (a:=_) rfl ?_))));kpc_if;refine Z8 (Z5 ?_);(refine Z8 (ZL (Q1 (sv (by assumption) (by assumption)) ?_));intro _ _);refine Z8 (Zu (a:=Z7 _) rfl (Z5 ?_));refine V0 (by kpc_g) (by kpc_text) (by kpc_obj) (by exact pI (by assumption) (by assumption)) (by kpc_obj) (by kfm_cat2) (by kfm_rest) ?_;intro _ _)|(kpc_check;kfm_lit))
 case hh=>exactλt' k'=>.done F (.tok _ _) (.str _ _) h
theorem EQ{n m:Int}(h0:0<=n)(h1:n<10^7)(h2:0<=m)(h3:m<10^7)(h:k (.str (Z9 (toString n)++Z9 ","++Z9 (toString m))) O):aG X ρ O (.builtin "str.format") [.str (Z9 "{},{}"),.int n,.int m] k:=λE s vs F R=>by
 replace R:=R.i3;obtain⟨r1,r2,r3⟩:=R;cases r1.iS;cases r2.iI;cases r3.iI;refine' To ?nH ?nJ ?nK ?hh;case nH=>kfm_eq
 case nJ=>exact KFm.args_3 _ _ _
 case nK=>apply US;intro _ _ _ _ _ _ _;refine Z8 (Zu (a:=(_,_,_)) rfl ?_);refine Z8 ?_;refine Z8 ?_;rw[VC];refine Sb ?_;intro _ _;repeat(refine Rl ?_;kpc_if;first|kfm_close|(kpc_check;refine Z8 (VB (by kfm_num) (by rfl) (Z8 (ZL (Zu (a:=_) rfl ?_))));kpc_if;refine Z8 (Z5 ?_);(refine Z8 (ZL (Q1 (sv (by assumption) (by assumption)) ?_));intro _ _);refine Z8 (Zu (a:=Z7 _) rfl (Z5 ?_));refine V0 (by kpc_g) (by kpc_text) (by kpc_obj) (by exact pI (by assumption) (by assumption)) (by kpc_obj) (by kfm_cat2) (by kfm_rest) ?_;intro _ _)|(kpc_check;kfm_lit))
 case hh=>exactλt' k'=>.done F (.tok _ _) (.str _ _) h
theorem NL{x y:ZU}(h0:x.length<=1000)(h1:y.length<=1000)(h:k (.str (Z9 "@@ -"++x++Z9 " +"++y++Z9 " @@"++Z9 "\n")) O):aG X ρ O (.builtin "str.format") [.str (Z9 "@@ -{} +{} @@{}"),.str x,.str y,.str (Z9 "\n")] k:=λE s vs F R=>by
 replace R:=R.i4;obtain⟨r1,r2,r3,r4⟩:=R;cases r1.iS;cases r2.iS;cases r3.iS;cases r4.iS;refine' To ?nH ?nJ ?nK ?hh;case nH=>kfm_eq
 case nJ=>exact Qi _ _ _ _
 case nK=>apply US;intro _ _ _ _ _ _ _;refine Z8 (Zu (a:=(_,_,_)) rfl ?_);refine Z8 ?_;refine Z8 ?_;rw[VC];refine Sb ?_;intro _ _;repeat(refine Rl ?_;kpc_if;first|kfm_close|(kpc_check;refine Z8 (VB (by kfm_num) (by rfl) (Z8 (ZL (Zu (a:=_) rfl ?_))));kpc_if;refine Z8 (Z5 ?_);refine Z8 (ZL (Zu (TJ _ _) ?_));refine Z8 (Zu (a:=Z7 _) rfl (Z5 ?_));refine V0 (by kpc_g) (by kpc_text) (by kpc_obj) (by first|((show _<=1000);assumption)|kfm_len) (by kpc_obj) (by kfm_cat2) (by kfm_rest) ?_;intro _ _)|(kpc_check;kfm_lit))
 case hh=>exactλt' k'=>.done F (.tok _ _) (.str _ _) h
theorem NJ(h:k (.str (Z9 "--- \n")) O):aG X ρ O (.builtin "str.format") [.str (Z9 "--- {}{}{}"),.str (Z9 ""),.str (Z9 ""),.str (Z9 "\n")] k:=λE s vs F R=>by
 replace R:=R.i4;obtain⟨r1,r2,r3,r4⟩:=R;cases r1.iS;cases r2.iS;cases r3.iS;cases r4.iS;refine' To ?nH ?nJ ?nK ?hh;case nH=>kfm_eq
 case nJ=>exact Qi _ _ _ _
 case nK=>apply US;intro _ _ _ _ _ _ _;refine Z8 (Zu (a:=(_,_,_)) rfl ?_);refine Z8 ?_;refine Z8 ?_;rw[VC];refine Sb ?_;intro _ _;repeat(refine Rl ?_;kpc_if;first|kfm_close|(kpc_check;refine Z8 (VB (by kfm_num) (by rfl) (Z8 (ZL (Zu (a:=_) rfl ?_))));kpc_if;refine Z8 (Z5 ?_);refine Z8 (ZL (Zu (TJ _ _) ?_));refine Z8 (Zu (a:=Z7 _) rfl (Z5 ?_));refine V0 (by kpc_g) (by kpc_text) (by kpc_obj) (by kfm_len) (by kpc_obj) (by kfm_cat2) (by kfm_rest) ?_;intro _ _)|(kpc_check;kfm_lit))
 case hh=>exactλt' k'=>.done F (.tok _ _) (.str _ _) h
theorem NK(h:k (.str (Z9 "+++ \n")) O):aG X ρ O (.builtin "str.format") [.str (Z9 "+++ {}{}{}"),.str (Z9 ""),.str (Z9 ""),.str (Z9 "\n")] k:=λE s vs F R=>by
 replace R:=R.i4;obtain⟨r1,r2,r3,r4⟩:=R;cases r1.iS;cases r2.iS;cases r3.iS;cases r4.iS;refine' To ?nH ?nJ ?nK ?hh;case nH=>kfm_eq
 case nJ=>exact Qi _ _ _ _
 case nK=>apply US;intro _ _ _ _ _ _ _;refine Z8 (Zu (a:=(_,_,_)) rfl ?_);refine Z8 ?_;refine Z8 ?_;rw[VC];refine Sb ?_;intro _ _;repeat(refine Rl ?_;kpc_if;first|kfm_close|(kpc_check;refine Z8 (VB (by kfm_num) (by rfl) (Z8 (ZL (Zu (a:=_) rfl ?_))));kpc_if;refine Z8 (Z5 ?_);refine Z8 (ZL (Zu (TJ _ _) ?_));refine Z8 (Zu (a:=Z7 _) rfl (Z5 ?_));refine V0 (by kpc_g) (by kpc_text) (by kpc_obj) (by kfm_len) (by kpc_obj) (by kfm_cat2) (by kfm_rest) ?_;intro _ _)|(kpc_check;kfm_lit))
 case hh=>exactλt' k'=>.done F (.tok _ _) (.str _ _) h
end
structure aC(p:Prop):Prop where h:p
inductive GV where|len|min|max|val(v:Z3)
noncomputable def GV.v:GV->Z3
 |.len=>.builtin "len"|.min=>.builtin "min"|.max=>.builtin "max"|.val v=>v
inductive oa(P:Zr):Z3->Prop where|bi(id:String):oa P (.builtin id)|ty(T:String):oa P (.type T)|fn{fa:Z1}{o:Zp}{fd:V4}:(aP P).get? fa=some o->o.data=.func fd->oa P (.ref fa)|cl{ah N:Z1}{m:ZU->Option Z3}:ClsAt (aP P) ah N m->oa P (.ref ah)
structure Ok(X:Fx)(kd:ZU->Option Yj)(gt:List (ZU×GV)):Prop where
 loc:∀x,kd x=some .local\/kd x=some .cell->Bd X x
 glob:∀x g,kd x=some .globalImplicit->gt.lookup x=some g->Ld X x g.v/\oa X.w.params g.v
 pW:X.env.kindOf ("__debug__":ZU)=none
section
variable{X:Fx}{ρ:Loc}{O:af}{k k':AV->af->Prop}{kb ue:Bool->af->Prop}{K:Kn}{pos px:XY}
theorem Ok.hold{kd gt}{am:Z1}{io:Zp}{h1 h2 h3}(h:Ok X kd gt):Ok (X.hold am io h1 h2 h3) kd gt:=⟨h.loc,h.glob,h.pW⟩
theorem Ev.mono{e:Zt}(h:Ev X ρ O e k)(q:∀a O',k a O'->k' a O'):Ev X ρ O e k':=λE s F=>wm (h E s F) (λv s' bH=>cr bH λa O' F' st r z=>⟨a,O',F',st,r,q _ _ z⟩)
theorem cC.mono{es:List Zt}{k k':List AV->af->Prop}(h:cC X ρ O es k)(q:∀a O',k a O'->k' a O'):cC X ρ O es k':=λE s pos F=>wm (h E s pos F) (λv s' bS=>j5 bS λa O' F' st r z=>⟨a,O',F',st,r,q _ _ z⟩)
theorem Ts.mono{e:Zt}(h:Ts X ρ O e kb)(q:∀a O',kb a O'->ue a O'):Ts X ρ O e ue:=λE s F=>wm (h E s F) (λv s' bT=>kQ bT λO' F' st z=>⟨O',F',st,q _ _ z⟩)
theorem Es.mono{b:Y4}{K':Kn}(h:Es X ρ O b K)(h1:∀ρ O,K.nx ρ O->K'.nx ρ O)(h2:∀a O,K.rt a O->K'.rt a O)(h3:∀ρ O,K.bk ρ O->K'.bk ρ O)(h4:∀ρ O,K.ct ρ O->K'.ct ρ O):Es X ρ O b K':=λE s F=>wm (h _ s F) (λfl aq b5=>lP b5 λcz ag aw st x=>⟨cz,ag,aw,st,by cases fl<;>first|exact h1 _ _ x|exact h3 _ _ x|exact h4 _ _ x|exact(let⟨a,r,q⟩:=x;⟨a,r,h2 _ _ q⟩)⟩)
theorem Ly{fv:Z3}{e:Zt}{es:List Zt}(c:oa X.w.params fv)(hs:(e::es).any dH=ZS)(h:cC X ρ O (e::es) λl ag=>aG X ρ ag fv l k){E:Z3->Z6->Prop}{s:Z6}(F:Fr X ρ O s):ZK (model pw X.w) X.A (Vd pos fv [] (Xb pos (Yt (e::es) X.env)) []) (dY X ρ O s k) E s:=by have st:=kC (env:=X.env) hs;have ns:(Xb pos (Yt es X.env)).any (·.1)=ZS:=lq (by rw[YF,YM]at hs;exact hs.2);cases c with|bi id=>exact callWith_builtin1 (wm (yn h F) (λC C x=>x.2)) st ns;|ty T=>exact callWith_type1 (wm (yn h F) (λC C x=>x.2)) st ns;|fn ho hd=>exact callWith_def hd (wm (yn h F) (λC C x=>⟨x.1 _ _ ho,x.2⟩)) st;|cl hc=>exact callWith_cls hc (wm (h E s pos F) (λvs aq b6=>j5 b6 λl ag aw aI a5 aH=>⟨λb o e=>aw.base b o e,wm (aH _ aq vs aw a5) (λv aL x=>.from aI x)⟩)) st ns
theorem Ev.vk{f:ZU}{fv:Z3}{e:Zt}{es:List Zt}(hs:(e::es).any dH=ZS)(hl:Ld X f fv)(c:oa X.w.params fv)(h:cC X ρ O (e::es) λl ag=>aG X ρ ag fv l k):Ev X ρ O (.Call (.Name f px) (e::es) [] pos) k:=λE s F=>Yv (hl E s px _ F.base (Ly c hs h F))
end
structure f5(ah T:Prop)where
 p:Prop
 h:ah->p->T
noncomputable def bZ{ah T:Prop}:f5 ah T:=⟨aC T,λC h=>h.h⟩
section
variable{X:Fx}{kd:ZU->Option Yj}{gt:List (ZU×GV)}{ρ:Loc}{pos px:XY}
theorem Ev.aE(ok:Ok X kd gt){x:ZU}{O:af}{a:AV}{k:AV->af->Prop}(hx:ρ.lookup x=Z7 a)(h:k a O):Ev X ρ O (.Name x pos) k:=λE s F=>by refine Ev.name hx ?_ h E s F;refine iK F.vars λm cm C C hv=>?_;refine aR (hv x a hx) λv hh C=>?_;rw[beq_eq_false_iff_ne];rintro rfl;have d:=ok.pW;refine ZR hh (λbH=>aO bH λk1 C=>?_) (λbS=>aO bS λk1 C=>?_)<;>rw[d]at k1<;>cases k1
noncomputable def pC(es:List Zt):Bool:=!es.any dH
theorem acm{es:List Zt}(h:pC es=ZW):es.any dH=ZS:=by unfold pC at h;simpa using h
theorem Ln{n:Nat}(h:Uk n 9=ZW):n<=Y8:=ZC (XS h) (by exists Zs;decide)
end
section
variable(X:Fx)(kd:ZU->Option Yj)(gt:List (ZU×GV))(ρ:Loc)
noncomputable def EA(op:Vg)(a b:AV)(O:af)(k:AV->af->Prop):f5 True (Bn X ρ O op a b k):=match op,a,b with
 |.Add,.int i,.int j=>⟨k (.int (i+j)) O,λC=>.add⟩|.Sub,.int i,.int j=>⟨k (.int (i-j)) O,λC=>.sub⟩|_,_,_=>bZ
noncomputable def EE(op:Vg)(a b:AV)(O:af)(k:AV->af->Prop):f5 True (Ip X ρ O op a b k):=match op,a,b with
 |.Add,.int i,.int j=>⟨k (.int (i+j)) O,λC=>.add⟩|.Sub,.int i,.int j=>⟨k (.int (i-j)) O,λC=>.sub⟩|_,_,_=>bZ
noncomputable def yT(op:CmpOp)(a b:AV)(O:af)(kb:Bool->af->Prop):f5 True (Cm X ρ O op a b kb):=match a,b with
 |.int i,.int j=>match op with
  |.Eq=>⟨kb (i==j) O,λC=>.M1⟩|.NotEq=>⟨kb (i !=j) O,λC=>.nei⟩|.Lt=>⟨kb (decide (i<j)) O,λC=>.lt⟩|.LtE=>⟨kb (decide (i<=j)) O,λC=>.le⟩|.Gt=>⟨kb (decide (j<i)) O,λC=>.gt⟩|.GtE=>⟨kb (decide (j<=i)) O,λC=>.ge⟩|_=>bZ
 |.str i,.str j=>match op with
  |.Eq=>⟨kb (i==j) O,λC=>.eqs⟩|.NotEq=>⟨kb (i !=j) O,λC=>.nes⟩|_=>bZ
 |.lst _,.none=>match op with
  |.Is=>⟨kb ZS O,λC=>Cm.isN (a:=.none)⟩|_=>bZ
 |.none,.none=>match op with
  |.Is=>⟨kb ZW O,λC=>.aas⟩|_=>bZ
 |_,_=>bZ
noncomputable def vF(a:AV)(O:af)(kb:Bool->af->Prop):f5 True (Tr X ρ O a kb):=match a with
 |.bool b=>⟨kb b O,λC=>.bool⟩|.int i=>⟨kb (i !=0) O,λC=>.int⟩|.none=>⟨kb ZS O,λC=>.none⟩|_=>bZ
noncomputable def EB(g:GV)(l:List AV)(O:af)(k:AV->af->Prop):f5 True (aG X ρ O g.v l k):=match g with
 |.len=>match l with
  |[.lst l]=>⟨(l.length:Int)<2^63/\k (.int l.length) O,λC h=>aG.len .lst h.1 h.2⟩|_=>bZ
 |.min=>match l with
  |[.int i,.int j]=>⟨k (.int (min i j)) O,λC=>aG.min2⟩|_=>bZ
 |.max=>match l with
  |[.int i,.int j]=>⟨k (.int (max i j)) O,λC=>aG.max2⟩|_=>bZ
 |_=>bZ
def M8(op:Vg)(a b:AV)(O:af)(k:AV->af->Prop):Prop:=(EA X ρ op a b O k).p
def Na(op:Vg)(a b:AV)(O:af)(k:AV->af->Prop):Prop:=(EE X ρ op a b O k).p
def EC(op:CmpOp)(a b:AV)(O:af)(kb:Bool->af->Prop):Prop:=(yT X ρ op a b O kb).p
def Nf(a:AV)(O:af)(kb:Bool->af->Prop):Prop:=(vF X ρ a O kb).p
def M9(g:GV)(l:List AV)(O:af)(k:AV->af->Prop):Prop:=(EB X ρ g l O k).p
noncomputable def oG{ah:Prop}(ev:∀(O:af)(e:Zt)(k:AV->af->Prop),f5 ah (Ev X ρ O e k)):∀(es:List Zt)(O:af)(k:List AV->af->Prop),f5 ah (cC X ρ O es k)
 |[],O,k=>⟨k [] O,λC=>.nil⟩|e::es,O,k=>match hs:dH e with
 |false=>⟨(ev O e λa ag=>(oG ev es ag λl aM=>k (a::l) aM).p).p,λc h=>.cons hs (((ev O e _).h c h).mono λa ag=>(oG ev es ag _).h c)⟩|true=>bZ
noncomputable def dr:Nat->∀(O:af)(e:Zt)(k:AV->af->Prop),f5 (Ok X kd gt) (Ev X ρ O e k)
 |0,_,_,_=>bZ|n+1,O,e,k=>match e with
 |.Name x pos=>match hx:ρ.lookup x with
   |some a=>⟨k a O,λok=>Ev.aE ok hx⟩|none=>bZ
 |.Constant c _ _=>match c with
   |.int i=>⟨k (.int i) O,λC=>.int⟩|.str i=>⟨k (.str i) O,λC=>.str⟩|.none=>⟨k .none O,λC=>.none⟩|.bool b=>⟨k (.bool b) O,λC=>.bool⟩|_=>bZ
 |.BinOp l op r _=>⟨(dr n O l λa ag=>(dr n ag r λb aM=>M8 X ρ op a b aM k).p).p,λc h=>.bin (((dr n O l _).h c h).mono λa ag z=>((dr n ag r _).h c z).mono λb aM=>(EA X ρ op a b aM k).h trivial)⟩|.UnaryOp op e _=>match op with
   |.Not=>⟨(dr n O e λa ag=>(vF X ρ a ag λc aM=>k (.bool (!c)) aM).p).p,λc h=>.un (((dr n O e _).h c h).mono λa ag z=>.not ((vF X ρ a ag _).h trivial z))⟩|.USub=>match e with
    |.Constant (.int i) _ _=>⟨k (.int (-i)) O,λC h=>.un (.int (.neg h))⟩|_=>bZ
   |_=>bZ
 |.Compare l ops rs _=>match ops with
   |[op]=>match rs with
    |[r]=>match hb:Vl op r with
     |false=>⟨(dr n O l λa ag=>(dr n ag r λb aM=>EC X ρ op a b aM λc eW=>k (.bool c) eW).p).p,λc h=>.cmp hb (((dr n O l _).h c h).mono λa ag z=>((dr n ag r _).h c z).mono λb aM=>(yT X ρ op a b aM _).h trivial)⟩|true=>bZ
    |_=>bZ
   |_=>bZ
 |.Tuple es _ _=>⟨(oG X ρ (dr n) es O λl ag=>match Uk l.length 9 with
 |true=>k (.tup l) ag|false=>aC (l.length<=Y8/\k (.tup l) ag)).p,λc h=>.tuple (((oG X ρ (dr n) es O _).h c h).mono λl ag z=>by
     cases hl:Uk l.length 9;·rw[hl]at z;exact z.h
     ·rw[hl]at z;exact⟨Ln hl,z⟩)⟩|.Call f as kw _=>match f with
   |.Name f _=>match as with
    |a::as=>match kw with
     |[]=>match h1:pC (a::as)with
      |true=>match h2:kd f with
       |some .globalImplicit=>match h3:gt.lookup f with
        |some g=>⟨(oG X ρ (dr n) (a::as) O λl ag=>M9 X ρ g l ag k).p,λc h=>.vk (acm h1) (c.glob _ _ h2 h3).1 (c.glob _ _ h2 h3).2 (((oG X ρ (dr n) (a::as) O _).h c h).mono λl ag=>(EB X ρ g l ag k).h trivial)⟩|none=>bZ
       |_=>bZ
      |false=>bZ
     |_=>bZ
    |_=>bZ
   |_=>bZ
 |_=>bZ
noncomputable def vE{ah:Prop}(tt:∀(O:af)(e:Zt)(k:Bool->af->Prop),f5 ah (Ts X ρ O e k))(stop:Bool)(B:List Zt->Zt)(h0:∀{O kb},kb (!stop) O->Ts X ρ O (B []) kb)(h1:∀{O e es kb},Ts X ρ O e (λc ag=>(c=!stop->Ts X ρ ag (B es) kb)/\(c=stop->kb stop ag))->Ts X ρ O (B (e::es)) kb):∀(es:List Zt)(O:af)(kb:Bool->af->Prop),f5 ah (Ts X ρ O (B es) kb)
 |[],O,kb=>⟨kb (!stop) O,λC=>h0⟩|e::es,O,kb=>⟨(tt O e λc ag=>(c=!stop->(vE tt stop B h0 h1 es ag kb).p)/\(c=stop->kb stop ag)).p,λc h=>h1 (((tt O e _).h c h).mono λb ag z=>⟨λq=>(vE tt stop B h0 h1 es ag kb).h c (z.1 q),z.2⟩)⟩
noncomputable def nk:Nat->∀(O:af)(e:Zt)(k:Bool->af->Prop),f5 (Ok X kd gt) (Ts X ρ O e k)
 |0,_,_,_=>bZ|n+1,O,e,kb=>match e with
 |.UnaryOp op e _=>match op with
   |.Not=>⟨(nk n O e λc ag=>kb (!c) ag).p,λc h=>.not ((nk n O e _).h c h)⟩|_=>bZ
 |.Compare l ops rs _=>match ops with
   |[op]=>match rs with
    |[r]=>match hb:Vl op r with
     |false=>⟨(dr X kd gt ρ n O l λa ag=>(dr X kd gt ρ n ag r λb aM=>EC X ρ op a b aM kb).p).p,λc h=>.cmp hb (((dr X kd gt ρ n O l _).h c h).mono λa ag z=>((dr X kd gt ρ n ag r _).h c z).mono λb aM=>(yT X ρ op a b aM kb).h trivial)⟩|true=>bZ
    |_=>bZ
   |_=>bZ
 |.BoolOp op es pos=>match op with
   |.And=>vE X ρ (nk n) ZS (λes=>.BoolOp .And es pos) .and_nil .and_cons es O kb|.Or=>vE X ρ (nk n) ZW (λes=>.BoolOp .Or es pos) .or_nil (λh=>.or_cons (h.mono λC C z=>⟨z.2,z.1⟩)) es O kb
 |.Name x pos=>match hx:ρ.lookup x with
   |some a=>⟨Nf X ρ a O kb,λc h=>.name (Ev.aE c hx ((vF X ρ a O kb).h trivial h))⟩|none=>bZ
 |_=>bZ
end
section
variable{X:Fx}{kd:ZU->Option Yj}{gt:List (ZU×GV)}{ρ:Loc}{pos px:XY}
theorem bO(ok:Ok X kd gt){n:Nat}{O:af}{e:Zt}{k:AV->af->Prop}(h:(dr X kd gt ρ n O e k).p):Ev X ρ O e k:=(dr X kd gt ρ n O e k).h ok h
theorem ED(ok:Ok X kd gt)(n:Nat){O:af}{es:List Zt}{k:List AV->af->Prop}(h:(oG X ρ (dr X kd gt ρ n) es O k).p):cC X ρ O es k:=(oG X ρ (dr X kd gt ρ n) es O k).h ok h
theorem d5(ok:Ok X kd gt){n:Nat}{O:af}{e:Zt}{k:Bool->af->Prop}(h:(nk X kd gt ρ n O e k).p):Ts X ρ O e k:=(nk X kd gt ρ n O e k).h ok h
theorem oF(ok:Ok X kd gt){n:Nat}{O:af}{t b o:Zt}{k:AV->af->Prop}(h:(nk X kd gt ρ n O t λc ag=>(c=ZW->(dr X kd gt ρ n ag b k).p)/\(c=ZS->(dr X kd gt ρ n ag o k).p)).p):Ev X ρ O (.IfExp t b o pos) k:=.aai ((d5 ok h).mono λc ag z=>⟨λq=>bO ok (z.1 q),λq=>bO ok (z.2 q)⟩)
end
noncomputable def AE:Zt->Bool
 |.ListComp ..=>ZS|.SetComp ..=>ZS|.DictComp ..=>ZS|_=>ZW
theorem wH{e:Zt}(h:AE e=ZW)(t:Option Zt)(l:Nat)(env:Rw):TQ e t l env=pure ZS:=by cases e<;>first|rfl|cases h
inductive J8(m:SV (Option (List ZU))):Type where|no(h:m=pure none)|yes(l:List ZU)(h:m=pure (some l))|bad
noncomputable def swR(m:SV (Option (List ZU))):J8 m:=match m with
 |.pure a=>match a with
  |none=>.no rfl|some l=>.yes l rfl
 |_=>.bad
noncomputable def ma(kd:ZU->Option Yj)(x:ZU):Bool:=match kd x with
 |some .local=>ZW|some .cell=>ZW|_=>ZS
theorem uR{X:Fx}{kd gt}(ok:Ok X kd gt){x:ZU}(h:ma kd x=ZW):Bd X x:=by unfold ma at h;cases e:kd x with|none=>replace h:=e▸h;cases h;|some n=>replace h:=e▸h;cases n<;>first|exact ok.loc x (.inl e)|exact ok.loc x (.inr e)|cases h
class inductive pQ(kd:ZU->Option Yj):List Zt->List ZU->Prop where|nil:pQ kd [] []|cons{x p ts xs}:ma kd x=true->pQ kd ts xs->pQ kd (.Name x p::ts) (x::xs)
inductive J4(kd:ZU->Option Yj)(ts:List Zt):Type where|no|yes(xs:List ZU)(h:pQ kd ts xs)
noncomputable def namesOf(kd:ZU->Option Yj):(ts:List Zt)->J4 kd ts
 |[]=>.yes [] .nil|t::ts=>match t with
 |.Name x _=>match hx:ma kd x with
   |true=>match namesOf kd ts with
    |.yes xs h=>.yes (x::xs) (.cons hx h)|.no=>.no
   |false=>.no
 |_=>.no
noncomputable def binds:Loc->List ZU->List AV->Loc
 |ρ,x::xs,a::l=>binds ((x,a)::ρ) xs l|ρ,_,_=>ρ
def Sub(ρ' ρ:Loc):Prop:=∀x a,ρ'.lookup x=Z7 a->ρ.lookup x=Z7 a
theorem Sub.refl(ρ:Loc):Sub ρ ρ:=λC C e=>e
theorem Sub.trans{a b c:Loc}(h:Sub a b)(q:Sub b c):Sub a c:=λx v e=>q x v (h x v e)
theorem Sub.cons{ρ ρ':Loc}(h:Sub ρ' ρ)(x:ZU)(a:AV):Sub ((x,a)::ρ') (gT ρ x a):=λy b e=>by
 exists qw;rw[ZM]at e;by_cases q:y=x;·subst q;exists if_pos rfl;simpa using e
 ·have:(y==x)=ZS:=by simpa using q
  replace e:=this▸e;exists if_neg q;exact h y b e
theorem Sub.binds:∀{xs:List ZU}{l:List AV}{ρ ρ':Loc},Sub ρ' ρ->Sub (binds ρ' xs l) (r8 ρ xs l)
 |[],_,_,_,h=>h|x::xs,[],_,_,h=>h|x::xs,a::l,ρ,ρ',h=>Sub.binds (xs:=xs) (l:=l) (h.cons x a)
def jW:Loc->Loc->Prop
 |[],_=>True|(x,a)::r,ρ=>(∃b,ρ.lookup x=Z7 b/\b=a)/\jW r ρ
theorem jW.ok{ρ' ρ:Loc}(h:jW ρ' ρ):Sub ρ' ρ:=λx a e=>by induction ρ' with|nil=>cases e;|cons p r ih=>cases p with|mk y b=>
  rw[ZM]at e;refine aO h ?_;clear h;intro bT h2;refine aR bT λb' h1 b5=>?_;subst b5;by_cases q:(x==y)=ZW;·replace e:=q▸e;cases e;exists eq_of_beq q;exact h1
  ·simp only[XX]at q;replace e:=q▸e;exact ih h2 e
theorem cq.ok{ρ' ρ:Loc}(h:ρ'.map (λp=>ρ.lookup p.1)=ρ'.map λp=>Z7 p.2):Sub ρ' ρ:=λx a e=>by induction ρ' with|nil=>cases e;|cons p r ih=>
  rw[Z2,Z2,Tf]at h;rw[ZM]at e;cases q:x==p.1<;>replace e:=q▸e;·exact ih h.2 e
  ·cases e;exists eq_of_beq q;exact h.1
section
variable{X:Fx}{ρ ρ':Loc}{O:af}{s:Z6}{K:Kn}{pos px:XY}
theorem Fr.sub(F:Fr X ρ O s)(h:Sub ρ' ρ):Fr X ρ' O s:=by obtain⟨a1,a3,a4,⟨m,cm,b1,b2,b3⟩,a6,a7,a8⟩:=F;exact⟨a1,a3,a4,⟨m,cm,b1,b2,λx av e=>b3 x av (h x av e)⟩,a6,a7,a8⟩
noncomputable def Kn.up(K:Kn):Kn:=⟨λρ O=>∃ρ',Sub ρ' ρ/\K.nx ρ' O,K.rt,λρ O=>∃ρ',Sub ρ' ρ/\K.bk ρ' O,λρ O=>∃ρ',Sub ρ' ρ/\K.ct ρ' O⟩
theorem i6.down{fl:Rq}{s':Z6}(x:i6 X O s K.up fl s'):i6 X O s K fl s':=by refine lP x ?_;clear x;intro cz ag F st x;cases fl with|next=>refine aR x ?_;clear x;intro dR h q;exact⟨dR,ag,F.sub h,st,q⟩;|brk=>refine aR x ?_;clear x;intro dR h q;exact⟨dR,ag,F.sub h,st,q⟩;|cont=>refine aR x ?_;clear x;intro dR h q;exact⟨dR,ag,F.sub h,st,q⟩;|ret v=>exact⟨cz,ag,F,st,x⟩
theorem Es.down{b:Y4}(h:Es X ρ O b K.up):Es X ρ O b K:=λE s F=>wm (h E s F) (λC C x=>x.down)
theorem Ex.down{b:List Y4}(h:Ex X ρ O b K.up):Ex X ρ O b K:=λE s F=>wm (h E s F) (λC C x=>x.down)
theorem Ex.sub{b:List Y4}(hs:Sub ρ' ρ)(h:Ex X ρ' O b K):Ex X ρ O b K:=λE s F=>h E s (F.sub hs)
theorem b8.mono{t:Zt}{a:AV}{k k':Loc->af->Prop}(h:b8 X ρ O t a k)(q:∀ρ O,k ρ O->k' ρ O):b8 X ρ O t a k':=λE s v F r=>wm (h E s v F r) (λC s' b6=>fG b6 λρ' O' F' st z=>eu ρ' O' F' st (q _ _ z))
theorem b8.down{t:Zt}{a:AV}{k:Loc->af->Prop}(h:b8 X ρ O t a λρ O=>∃ρ',Sub ρ' ρ/\k ρ' O):b8 X ρ O t a k:=λE s v F r=>wm (h E s v F r) (λC s' bJ=>MJ bJ λρ' O' F' st dR h z=>eu dR O' (F'.sub h) st z)
theorem b8.BS{t:Zt}{a:AV}{k:Loc->af->Prop}(h:Tg X ρ O t a λρ'=>k ρ' O):b8 X ρ O t a k:=λE s v F r=>wm (h E s v F r) (λC s' b7=>dE b7 λρ' F' st z=>eu ρ' O F' st z)
theorem Tg.mono{t:Zt}{a:AV}{k k':Loc->Prop}(h:Tg X ρ O t a k)(q:∀ρ,k ρ->k' ρ):Tg X ρ O t a k':=λE s v F r=>wm (h E s v F r) (λC s' cy=>dE cy λρ' F' st z=>cQ ρ' F' st (q _ z))
theorem Tg.down{t:Zt}{a:AV}{k:Loc->Prop}(h:Tg X ρ O t a λρ=>∃ρ',Sub ρ' ρ/\k ρ'):Tg X ρ O t a k:=λE s v F r=>wm (h E s v F r) (λC s' cx=>MH cx λρ' F' st dR h z=>cQ dR (F'.sub h) st z)
def ve(X:Fx)(ρ:Loc)(O:af):List Zt->AV->(Loc->af->Prop)->Prop
 |[],_,k=>k ρ O|t::ts,a,k=>b8 X ρ O t a λρ' O'=>ve X ρ' O' ts a k
end
section
variable{X:Fx}{kd:ZU->Option Yj}{gt:List (ZU×GV)}{en:Rw}{pos px:XY}{ρ:Loc}{O:af}
theorem pQ.ok{ts:List Zt}{xs:List ZU}(n:pQ kd ts xs)(ok:Ok X kd gt):∀{l:List AV}{ρ:Loc}{k:Loc->Prop},xs.length=l.length->k (r8 ρ xs l)->oj X ρ O ts l k/\ts.length=l.length/\∀env:Rw,(WC ts env).length=ts.length/\(WC ts env).findIdx? (·.1)=ZT:=by induction n with|nil=>exactλ{l ρ k}hl hk=>match l,hl with|[],_=>bM (.nil hk) rfl (λC=>⟨rfl,rfl⟩);|cons hx _ ih=>exactλ{l ρ k}hl hk=>match l,hl with
 |a::l,hl=>have q:=ih (l:=l) (UV hl) hk;(bM (.cons rfl (.name (uR ok hx) q.1) q.2.2) (congrArg (·+1) q.2.1) (λenv=>⟨congrArg (·+1) (q.2.2 env).1,(RL ..).trans (congrArg (Option.map (·+1)) (q.2.2 env).2)⟩))
noncomputable def tn{ah T:Prop}:f5 ah T:=⟨aC False,λC h=>h.h.elim⟩
variable(X kd gt en)
noncomputable def rq(ρ:Loc)(O:af)(t:Zt)(a:AV)(k:Loc->Prop){T:Prop}(f:Tg X ρ O t a k->T):f5 (Ok X kd gt) T:=match t with
 |.Name x _=>match hx:ma kd x with
  |true=>⟨k ((x,a)::ρ),λok h=>f (Tg.down (.name (uR ok hx) (aj _ ((Sub.refl ρ).cons _ _) h)))⟩|false=>bZ
 |.Tuple ts _ _=>match a with
  |.tup l=>match namesOf kd ts with
   |.yes xs hx=>match hl:xs.length==l.length with
    |true=>⟨k (binds ρ xs l),λok h=>f (Tg.down (.tup (hx.ok (O:=O) (ρ:=ρ) (k:=λC=>True) ok (eq_of_beq hl) trivial).2.1 (hx.ok ok (eq_of_beq hl) ⟨_,Sub.binds (Sub.refl _),h⟩).1))⟩|false=>bZ
   |.no=>bZ
  |_=>bZ
 |_=>bZ
noncomputable def ti:∀(ts:List Zt)(ρ:Loc)(O:af)(a:AV)(k:Loc->af->Prop),f5 (Ok X kd gt) (ve X ρ O ts a k)
 |[],ρ,O,_,k=>⟨k ρ O,λC h=>h⟩|[t],ρ,O,a,k=>⟨(rq X kd gt ρ O t a (λρ'=>k ρ' O) (T:=b8 X ρ O t a k) λh=>b8.BS h).p,λc h=>(rq X kd gt ρ O t a _ _).h c h⟩|t::u::ts,ρ,O,a,k=>⟨(rq X kd gt ρ O t a (λρ'=>(ti (u::ts) ρ' O a k).p) (λh=>b8.BS (k:=λρ' O'=>(ti (u::ts) ρ' O' a k).p) h)).p,λc h=>((rq X kd gt ρ O t a _ _).h c h).mono λρ O=>(ti (u::ts) ρ O a k).h c⟩
def Nc(ts:List Zt)(ρ:Loc)(O:af)(a:AV)(k:Loc->af->Prop):Prop:=(ti X kd gt ts ρ O a k).p
noncomputable def xJ:List Zt->Zt->Bool
 |[_],e=>AE e|_,_=>ZW
end
section
variable{X:Fx}{kd:ZU->Option Yj}{gt:List (ZU×GV)}{en:Rw}{ρ:Loc}{O:af}{s:Z6}{K:Kn}{pos px:XY}{E:Z3->Z6->Prop}
theorem aew{env:Rw}:∀{ts:List Zt},pC ts=ZW->(WC ts env).map (·.2)=ts.map λt=>UT t env:=by intro N';induction N' with|nil=>exactλ_=>rfl;|cons t ts ih=>
  intro h;have h':pC ts=ZW/\dH t=ZS:=by unfold pC at h⊢;rw[YF]at h;simp only[Rk,YM]at h⊢;exact⟨h.2,h.1⟩
  have:=ih h'.1;have q:=h'.2;cases t<;>first|exact congrArg (_::·) this|(cases(show ZW=ZS from q))
theorem Ku{ts:List Zt}:∀{ρ:Loc}{O:af}{a:AV}{k:Loc->af->Prop}{s:Z6}{v:Z3},ve X ρ O ts a k->Fr X ρ O s->aX (ak X O) s.heap v a->ZK (model pw X.w) X.A (assignAll v (ts.map λt=>UT t X.env)) (λC s'=>∃ρ' O',Fr X ρ' O' s'/\aJ (ak X O) s.heap (ak X O') s'.heap/\k ρ' O') E s:=by induction ts with|nil=>exactλh F r=>Z5 (eu _ _ F (.refl _ _) h);|cons t ts ih=>cases ts with|nil=>exactλh F r=>h _ _ _ F r;|cons u ts=>intro ρ O a k s v h F r;show ZK _ _ (do holding [v] (UT t X.env v);assignAll v ((u::ts).map λt=>UT t X.env)) _ _ _;refine Z8 (ZL (wm (h _ s v F r) (λC aq bH=>fG bH λcz ag aw aI aH=>?_)));exact wm (ih aH aw (r.move aI)) (λC aL bS=>fG bS λdR aM aS aY be=>eu dR aM aS (aI.trans aY) be)
theorem Jh{ts:List Zt}{e:Zt}(h:xJ ts e=ZW)(l:Nat)(env:Rw):swapsWithSole ts e l env=pure ZS:=by match ts,h with|[],_=>rfl;|[t],h=>exact wH h _ _ _;|_::_::_,_=>rfl
theorem Es.Kt{ts:List Zt}{e:Zt}(hs:xJ ts e=ZW)(hn:pC ts=ZW)(hw:T6 ts e X.env=pure ZT)(h:Ev X ρ O e λa ag=>ve X ρ ag ts a K.nx):Es X ρ O (.Assign ts e pos) K:=λE s F=>by refine wpAny_Assign_stores (wm (h _ s F) (λv aq cy=>cr cy λa ag aw aI a5 aH=>?_)) (Jh hs _ _) hw;exists aew hn;exact wm (Ku aH aw a5) (λC aL b5=>fG b5 λdR aM aS aY be=>⟨dR,aM,aS,aI.trans aY,be⟩)
theorem Ip.mono{op:Vg}{a b:AV}{k k':AV->af->Prop}(h:Ip X ρ O op a b k)(q:∀a O',k a O'->k' a O'):Ip X ρ O op a b k':=λE s u v F r1 r2=>wm (h E s u v F r1 r2) (λv s' cx=>cr cx λa O' F' st r z=>⟨a,O',F',st,r,q _ _ z⟩)
end
section
variable(X:Fx)(kd:ZU->Option Yj)(gt:List (ZU×GV))(en:Rw)
def yR:Loc->af->Kn->Prop:=λρ O K=>K.nx ρ O
def M7{ah:Prop}{X:Fx}(sx:∀(ρ:Loc)(O:af)(st:Y4)(K:Kn),f5 ah (Es X ρ O st K)):Y4->List Y4->(Loc->af->Kn->Prop)->Loc->af->Kn->Prop:=λb C ih ρ O K=>(sx ρ O b ⟨λρ' O'=>ih ρ' O' K,K.rt,K.bk,K.ct⟩).p
def kT{ah:Prop}{X:Fx}(sx:∀(ρ:Loc)(O:af)(st:Y4)(K:Kn),f5 ah (Es X ρ O st K))(b:List Y4):Loc->af->Kn->Prop:=List.rec yR (M7 sx) b
theorem yS{ah:Prop}{X:Fx}{sx:∀(ρ:Loc)(O:af)(st:Y4)(K:Kn),f5 ah (Es X ρ O st K)}(c:ah):∀(b:List Y4)(ρ:Loc)(O:af)(K:Kn),kT sx b ρ O K->Ex X ρ O b K:=by intro N';induction N' with|nil=>exactλρ O K h=>.nil h;|cons b r ih=>exactλρ O K h=>.cons (((sx ρ O b _).h c h).mono (ih · · K) (λC C z=>z) (λC C z=>z) λC C z=>z)
noncomputable def EG{ρ:Loc}(names:List ZU)(K:Kn)(a:AV)(O:af):f5 True (∃l,a=.tup l/\l.length=names.length/\K.up.nx (r8 ρ names.reverse l.reverse) O):=match a with
 |.tup l=>match hl:l.length==names.length with
  |true=>⟨K.nx (binds ρ names.reverse l.reverse) O,λC h=>⟨l,rfl,eq_of_beq hl,_,Sub.binds (Sub.refl _),h⟩⟩|false=>tn
 |_=>tn
noncomputable def Nb(n:Nat)(ρ:Loc)(O:af)(e:Zt)(pos:XY)(names:List ZU)(K:Kn):∀(ts:List Zt),xJ ts e=ZW->T6 ts e en=pure (Z7 names)->f5 (Ok X kd gt/\X.env=en) (Es X ρ O (.Assign ts e pos) K)
 |[t],hs,hw=>match t,hs,hw with
  |.Tuple es c p,hs,hw=>match jJ:names.all (ma kd)with
   |true=>⟨(dr X kd gt ρ (n+1) O e λa ag=>(EG (ρ:=ρ) names K a ag).p).p,λc h=>Es.down (.Ks names (λx hx=>uR c.1 (W9.mp jJ x hx)) (Jh hs _ _) (c.2▸hw) (((dr X kd gt ρ (n+1) O e _).h c.1 h).mono λa O'=>(EG names K a O').h trivial))⟩|false=>tn
  |_,_,_=>tn
 |_,_,_=>tn
noncomputable def ja:Nat->∀(ρ:Loc)(O:af)(st:Y4)(K:Kn),f5 (Ok X kd gt/\X.env=en) (Es X ρ O st K)
 |0,_,_,_,_=>bZ|n+1,ρ,O,st,K=>match st with
 |.Assign ts e pos=>match hs:xJ ts e with
   |true=>match hn:pC ts with
    |true=>match swR (T6 ts e en)with
     |.no hw=>⟨(dr X kd gt ρ (n+1) O e λa ag=>Nc X kd gt ts ρ ag a K.nx).p,λc h=>.Kt hs hn (c.2▸hw) (((dr X kd gt ρ (n+1) O e _).h c.1 h).mono λa ag=>(ti X kd gt ts ρ ag a K.nx).h c.1)⟩|.yes names hw=>Nb X kd gt en n ρ O e pos names K ts hs hw|.bad=>bZ
    |false=>bZ
   |false=>bZ
 |.AugAssign t op e pos=>match t with
   |.Name x p=>match hx:ma kd x with
    |true=>match hl:ρ.lookup x with
     |some a=>⟨(dr X kd gt ρ (n+1) O e λb ag=>Na X ρ op a b ag λc aM=>K.nx ((x,c)::ρ) aM).p,λc h=>Es.down (.aug (uR c.1 hx) hl (((dr X kd gt ρ (n+1) O e _).h c.1 h).mono λb ag z=>((EE X ρ op a b ag _).h trivial z).mono λd eC z=>aj _ ((Sub.refl _).cons _ _) z))⟩|none=>bZ
    |false=>bZ
   |_=>bZ
 |.If t b o pos=>⟨(nk X kd gt ρ (n+1) O t λc ag=>(c=ZW->kT (ja n) b ρ ag K)/\(c=ZS->kT (ja n) o ρ ag K)).p,λc h=>.ite (((nk X kd gt ρ (n+1) O t _).h c.1 h).mono λC ag z=>⟨λq=>yS c b ρ ag K (z.1 q),λq=>yS c o ρ ag K (z.2 q)⟩)⟩|.Return e _=>match e with
   |some e=>⟨(dr X kd gt ρ (n+1) O e K.rt).p,λc h=>.ret ((dr X kd gt ρ (n+1) O e K.rt).h c.1 h)⟩|none=>⟨K.rt .none O,λC=>.adv⟩
 |.Expr e pos=>match h1:AE e with
   |true=>⟨(dr X kd gt ρ (n+1) O e λC ag=>K.nx ρ ag).p,λc h=>.expr (wH h1 _ _ _) ((dr X kd gt ρ (n+1) O e _).h c.1 h)⟩|false=>bZ
 |.Pass _=>⟨K.nx ρ O,λC=>.pass⟩|.Break _=>⟨K.bk ρ O,λC=>.brk⟩|.Continue _=>⟨K.ct ρ O,λC=>.cont⟩|_=>bZ
end
section
variable{X:Fx}{kd:ZU->Option Yj}{gt:List (ZU×GV)}{en:Rw}{ρ:Loc}{O:af}{K:Kn}
theorem lR(ok:Ok X kd gt)(nA:X.env=en)(n:Nat)(ρ:Loc)(O:af)(st:Y4)(K:Kn)(h:(ja X kd gt en n ρ O st K).p):Es X ρ O st K:=(ja X kd gt en n ρ O st K).h ⟨ok,nA⟩ h
theorem run{b:List Y4}(ok:Ok X kd gt)(nA:X.env=en)(h:kT (ja X kd gt en 20) b ρ O K):Ex X ρ O b K:=yS ⟨ok,nA⟩ b ρ O K h
end
noncomputable section
noncomputable def bK:List (ZU×GV):=[(Z9 "len",.len),(Z9 "min",.min),(Z9 "max",.max),(Z9 "range",.val (.type "range")),(Z9 "str",.val (.type "str")),(Z9 "list",.val (.type "list")),(Z9 "abs",.val (.builtin "abs")),(Z9 "divmod",.val (.builtin "divmod")),(Z9 "chr",.val (.builtin "chr")),(Z9 "enumerate",.val (.type "enumerate")),(Z9 "map",.val (.type "map")),(Z9 "set",.val (.type "set")),(Z9 "isinstance",.val (.builtin "isinstance")),(Z9 "SequenceMatcher",.val (.ref 242)),(Z9 "_format_range_unified",.val (.ref 253)),(Z9 "unified_diff",.val (.ref 261)),(Z9 "_check_types",.val (.ref 268)),(Z9 "_law_kept",.val (.ref 273)),(Z9 "_law_rows",.val (.ref 278)),(Z9 "_law_range",.val (.ref 285)),(Z9 "_law_far",.val (.ref 292)),(Z9 "_law_diff",.val (.ref 297))]
structure pN(P:Zr)(x:ZU)(g:GV):Prop where
 pW:(x==("__debug__":ZU))=false
 NM:(WD (eZ (iV P)) x=none/\WD (eZ (WN P)) x=some g.v)\/WD (eZ (iV P)) x=some g.v
 pV:oa P g.v
theorem oS(P:Zr):∀p∈bK,pN P p.1 p.2:=by
 intro p hp;simp only[bK,ZZ,YU,or_false]at hp;rcases hp with rfl|rfl|rfl|rfl|rfl|rfl|rfl|rfl|rfl|rfl|rfl|rfl|rfl|rfl|rfl|rfl|rfl|rfl|rfl|rfl|rfl|rfl;all_goals first|exact⟨by kernel_rfl,.inl ⟨by kernel_rfl,by kernel_rfl⟩,.bi _⟩;|exact⟨by kernel_rfl,.inl ⟨by kernel_rfl,by kernel_rfl⟩,.ty _⟩;|skip
 ·exact⟨by kernel_rfl,.inr (by kernel_rfl),.cl (re λC C e=>e)⟩
 ·exact⟨by kernel_rfl,.inr (by kernel_rfl),.fn (o:=Bv) (by kernel_rfl) rfl⟩
 ·exact⟨by kernel_rfl,.inr (by kernel_rfl),.fn (o:=l7) (by kernel_rfl) rfl⟩
 ·exact⟨by kernel_rfl,.inr (by kernel_rfl),.fn (o:=ut) (by kernel_rfl) rfl⟩
 ·exact⟨by kernel_rfl,.inr (by kernel_rfl),.fn (o:=Bw) (by kernel_rfl) rfl⟩
 ·exact⟨by kernel_rfl,.inr (by kernel_rfl),.fn (o:=Bx) (by kernel_rfl) rfl⟩
 ·exact⟨by kernel_rfl,.inr (by kernel_rfl),.fn (o:=By) (by kernel_rfl) rfl⟩
 ·exact⟨by kernel_rfl,.inr (by kernel_rfl),.fn (o:=Bz) (by kernel_rfl) rfl⟩
 ·exact⟨by kernel_rfl,.inr (by kernel_rfl),.fn (o:=BA) (by kernel_rfl) rfl⟩
variable{X Y:Fx}{ρ:Loc}{O:af}{K:Kn}
theorem pN.ld{x:ZU}{g:GV}(h:∀P,pN P x g)(hx:X.env.kindOf x=Z7 .globalImplicit):Ld X x g.v:=λE s pos Q Kp q=>by
 refine ZR ((h X.w.params).NM) (λbJ=>aO bJ λh1 h2=>?_) (λh1=>?_);·exact W5 X.fn hx (Ud (by exists X.glob;exact wJ Kp) h1 (by exists X.bn;exact Hr Kp) h2 q) (h X.w.params).pW
 ·exact W5 X.fn hx (TR (by exists X.glob;exact wJ Kp) h1 q) (h X.w.params).pW
theorem Callee.ok{name:ZU}{scope:X7}{fa:Z1}{cd:Z3}(ah:Callee X Y name scope fa cd)(hd:scope.names.lookup ("__debug__":ZU)=ZT):Ok Y (λx=>scope.names.lookup x) bK:=by
 refine⟨λx h=>ah.bd h,λx g hx hg=>?_,?_⟩;·have hm:=mem_of_lookup hg;exact⟨pN.ld (λP=>oS P _ hm) (ah.glob hx),(oS _ _ hm).pV⟩
 ·refine aR ah.env λL e C=>?_;exists e;exact hd
theorem ii.ok{name:ZU}{scope:X7}{fa:Z1}{cd:Z3}(ah:ii X Y name scope fa cd)(hd:scope.names.lookup ("__debug__":ZU)=ZT):Ok Y (λx=>scope.names.lookup x) bK:=by
 refine⟨λx h=>ah.bd h,λx g hx hg=>?_,?_⟩;·have hm:=mem_of_lookup hg;exact⟨pN.ld (λP=>oS P _ hm) (ah.glob hx),(oS _ _ hm).pV⟩
 ·refine aR ah.env λL e C=>?_;exists e;exact hd
theorem Callee.run{name:ZU}{scope:X7}{fa:Z1}{cd:Z3}(ah:Callee X Y name scope fa cd)(hd:scope.names.lookup ("__debug__":ZU)=ZT){b:List Y4}(h:∀L,Y.env=Zf name scope L fa cd->kT (ja Y (λx=>scope.names.lookup x) bK (Zf name scope L fa cd) 20) b ρ O K):Ex Y ρ O b K:=by refine aR ah.env λL e C=>?_;exact Mine.Internal.run (ah.ok hd) e (h L e)
theorem ii.run{name:ZU}{scope:X7}{fa:Z1}{cd:Z3}(ah:ii X Y name scope fa cd)(hd:scope.names.lookup ("__debug__":ZU)=ZT){b:List Y4}(h:∀L,Y.env=Zf name scope L fa cd->kT (ja Y (λx=>scope.names.lookup x) bK (Zf name scope L fa cd) 20) b ρ O K):Ex Y ρ O b K:=by refine aR ah.env λL e C=>?_;exact Mine.Internal.run (ah.ok hd) e (h L e)
theorem iY{kd gt en}(ok:Ok X kd gt)(nA:X.env=en){K:Kn}{b2 b1:List Y4}:∀{ρ:Loc}{O:af},kT (ja X kd gt en 20) b1 ρ O ⟨λρ' O'=>Ex X ρ' O' b2 K,K.rt,K.bk,K.ct⟩->Ex X ρ O (b1++b2) K:=by induction b1 with|nil=>exactλh=>h;|cons b b1 ih=>exactλ{ρ O}h=>.cons ((lR ok nA 20 _ _ _ _ (show(ja X kd gt en 20 ρ O b _).p from h)).mono (λC C z=>ih z) (λC C z=>z) (λC C z=>z) λC C z=>z)
theorem Ex.gen{b:List Y4}(h:∀K':Kn,(∀ρ O,K.nx ρ O->K'.nx ρ O)->(∀a O,K.rt a O->K'.rt a O)->(∀ρ O,K.ct ρ O->K'.ct ρ O)->(∀ρ O,K.bk ρ O->K'.bk ρ O)->Ex X ρ O b K'):Ex X ρ O b K:=h K (λC C z=>z) (λC C z=>z) (λC C z=>z) λC C z=>z
@[elab_as_elim]theorem qv{n:Nat}{P:List Z3->Prop}{vs:List Z3}(h:vs.length=n+1)(q:∀a ws,ws.length=n->P (a::ws)):P vs:=by cases vs with|nil=>cases h;|cons a ws=>exact q a ws (UV h)
@[elab_as_elim]theorem abb{P:List Z3->Prop}{vs:List Z3}(h:vs.length=0)(q:P []):P vs:=by cases vs with|nil=>exact q;|cons a ws=>cases h
@[elab_as_elim]theorem wu{P:List Z3->Prop}{vs:List Z3}(h:vs.length=1)(q:∀a,P [a]):P vs:=qv h λa ws h=>abb h q a
@[elab_as_elim]theorem po{P:List Z3->Prop}{vs:List Z3}(h:vs.length=2)(q:∀a b,P [a,b]):P vs:=qv h λa ws h=>wu h λb=>q a b
@[elab_as_elim]theorem Gy{P:List Z3->Prop}{vs:List Z3}(h:vs.length=3)(q:∀a b c,P [a,b,c]):P vs:=qv h λa ws h=>po h λb c=>q a b c
@[elab_as_elim]theorem Gz{P:List Z3->Prop}{vs:List Z3}(h:vs.length=4)(q:∀a b c d,P [a,b,c,d]):P vs:=qv h λa ws h=>Gy h λb c d=>q a b c d
@[elab_as_elim]theorem GA{P:List Z3->Prop}{vs:List Z3}(h:vs.length=5)(q:∀a b c d e,P [a,b,c,d,e]):P vs:=qv h λa ws h=>Gz h λb c d e=>q a b c d e
@[elab_as_elim]theorem abc{P:List Z3->Prop}{vs:List Z3}(h:vs.length=6)(q:∀a b c d e f,P [a,b,c,d,e,f]):P vs:=qv h λa ws h=>GA h λb c d e f=>q a b c d e f
@[elab_as_elim]theorem GB{P:List Z3->Prop}{vs:List Z3}(h:vs.length=7)(q:∀a b c d e f g,P [a,b,c,d,e,f,g]):P vs:=qv h λa ws h=>abc h λb c d e f g=>q a b c d e f g
end
noncomputable section
structure gK(X:Fx)(as:List Z1):Prop where
 nl:∀a∈as,a≠X.env.locals
 nc:∀a∈as,∀n c,(n,c)∈X.env.cells->a≠c
 ab:∀a∈as,X.h₀.get? a=none\/a∈X.bY
 nh:∀a∈as,∀q∈X.held,a≠q.1
 nb:∀a∈as,(aP X.w.params).get? a=none
 nd:as.Nodup
noncomputable def Fx.holds(X:Fx)(hs:List (Z1×Zp))(c:gK X (hs.map (·.1))):Fx:={X with
  held:=hs++X.held
  hnl:=λq hq=>(ZE.mp hq).elim (λh=>c.nl _ (ZY.mpr (aj q h rfl))) (X.hnl q)
  hnc:=λq hq=>(ZE.mp hq).elim (λh=>c.nc _ (ZY.mpr (aj q h rfl))) (X.hnc q)
  hab:=λq hq=>(ZE.mp hq).elim (λh=>c.ab _ (ZY.mpr (aj q h rfl))) (X.hab q)}
noncomputable def bf(hs:List (Z1×Zp)):af:=hs.map λq=>(q.1,.other q.2)
theorem lw(hs:List (Z1×Zp)):(bf hs).map (·.1)=hs.map (·.1):=by unfold bf;exists XW;rfl
section
variable{X:Fx}{ρ:Loc}{O O':af}{s s':Z6}{E:Z3->Z6->Prop}{hs hs':List (Z1×Zp)}{K:Kn}{pos:XY}
theorem G7{a:Z1}{c:gK X (hs.map (·.1))}:a∈ak (X.holds hs c) O↔a∈ak X (bf hs++O):=by
 rw[fi,lw];unfold ak Fx.holds;simp only[ZJ,ZE];constructor
 ·rintro(h|(h|h)|h);·exact .inr (.inl h)
  ·exact .inl h
  ·exact .inr (.inr (.inl h))
  ·exact .inr (.inr (.inr h))
 ·rintro(h|h|h|h);·exact .inr (.inl (.inl h))
  ·exact .inl h
  ·exact .inr (.inl (.inr h))
  ·exact .inr (.inr h)
theorem o0{c:gK X (hs.map (·.1))}{h:YQ}:aJ (ak X (bf hs++O)) h (ak (X.holds hs c) O) h:=λa o ha e=>⟨λq=>ha (G7.mp q),e⟩
theorem qQ{c:gK X (hs.map (·.1))}{h:YQ}:aJ (ak (X.holds hs c) O) h (ak X (bf hs++O)) h:=λa o ha e=>⟨λq=>ha (G7.mpr q),e⟩
theorem Fr.we(F:Fr X ρ (bf hs++O) s):gK X (hs.map (·.1)):=by
 have key:∀a∈hs.map (·.1),∃ao,(a,ao)∈bf hs++O:=λa ha=>by refine dn ha λq hq=>?_;exact⟨_,Zk _ (ZY.mpr (aj q hq rfl))⟩
 have nd:=F.nd;rw[ZJ,lw,YY]at nd;refine⟨λa ha=>?_,λa ha=>?_,λa ha=>?_,λa ha=>?_,λa ha=>?_,nd.1⟩;all_goals refine br (key a ha) λao hm=>?_;obtain⟨b1,b2,b3,b4,C⟩:=F.own _ hm
 ·exact b2
 ·exact b3.1
 ·exact b1
 ·exact b3.2
 ·exact b4
theorem Fr.toHolds(F:Fr X ρ (bf hs++O) s)(c:gK X (hs.map (·.1))):Fr (X.holds hs c) ρ O s:=by
 refine iK F.vars λm cm hn hc hv=>?_;have nd:=F.nd;rw[ZJ,lw,YY]at nd;refine⟨F.keep,F.gens,F.os,⟨m,cm,hn,hc,λx av e=>?_⟩,λq hq=>?_,λp hp=>?_,nd.2.1⟩;·refine aR (hv x av e) λv a r=>?_;exact aj v a (r.move o0)
 ·refine ZR (ZE.mp hq) (λh=>?_) (λh=>?_);·exact F.ib (Zk _ (ZY.mpr (aj q h rfl)))
  ·exact F.held q h
 ·refine fB (F.own p (Zl _ hp)) λa1 a2 a3 a4 o ho z=>?_;refine⟨a1,a2,⟨a3.1,λq hq=>?_⟩,a4,o,ho,z.move o0⟩;refine ZR (ZE.mp hq) (λh=>?_) (λh=>?_);·exactλe=>nd.2.2 _ (ZY.mpr (aj q h rfl)) _ (ZY.mpr (aj p hp rfl)) e.symm
  ·exact a3.2 q h
theorem Fr.pD{c:gK X (hs.map (·.1))}(F:Fr (X.holds hs c) ρ O s):Fr X ρ (bf hs++O) s:=by
 refine iK F.vars λm cm hn hc hv=>?_;refine⟨F.keep,F.gens,F.os,⟨m,cm,hn,hc,λx av e=>?_⟩,λq hq=>F.held q (Zl _ hq),λp hp=>?_,?_⟩;·refine aR (hv x av e) λv a r=>?_;exact aj v a (r.move qQ)
 ·refine ZR (ZE.mp hp) (λh=>?_) (λh=>?_);·refine aR (ZY.mp h) λq hq cx=>?_;subst cx;have hm:q.1∈hs.map (·.1):=ZY.mpr (aj q hq rfl);exact⟨c.ab _ hm,c.nl _ hm,⟨c.nc _ hm,c.nh _ hm⟩,c.nb _ hm,q.2,F.held q (Zk _ hq),rfl⟩
  ·refine fB (F.own p h) λa1 a2 a3 a4 o ho z=>?_;exact⟨a1,a2,⟨a3.1,λq hq=>a3.2 q (Zl _ hq)⟩,a4,o,ho,z.move qQ⟩
 ·exists ZJ;rw[lw,YY];refine bM c.nd F.nd (λa ha b hb e=>?_);refine aR (ZY.mp ha) λq hq bH=>?_;subst bH;refine aR (ZY.mp hb) λp hp bS=>?_;subst bS;exact(F.own p hp).a3.2 q (Zk _ hq) e.symm
theorem Fr.mQ(F:Fr X ρ (bf hs++O) s)(hk:∀b o,b∉hs.map (·.1)->s.heap.get? b=Z7 o->s'.heap.get? b=Z7 o)(hh:∀q∈hs',s'.heap.get? q.1=Z7 q.2)(hn:∀a∈hs'.map (·.1),a∈hs.map (·.1)\/s.heap.get? a=ZT)(nd:(hs'.map (·.1)).Nodup)(hg:X.G s'.gens)(ho:s'.os=s.os):Fr X ρ (bf hs'++O) s'/\aJ (ak X (bf hs++O)) s.heap (ak X (bf hs'++O)) s'.heap:=by
 have c:=F.we;have wE:=F.nd;rw[ZJ,lw,YY]at wE;have out:∀d,d∈ak X O->d∉hs.map (·.1):=λd hd q=>by
  refine jB hd (λh=>?_) (λh=>?_) (λn h=>?_) (λh=>?_) λo h=>?_;·exact wE.2.2 _ q _ h rfl
  ·exact c.nl _ q h
  ·exact c.nc _ q _ _ h rfl
  ·refine ZR (c.ab _ q) (λz=>?_) (λz=>?_);·refine br (X.old _ h) λo ho=>?_;replace ho:=z▸ho;cases ho
   ·exact X.h9 _ z h
  ·exact c.nh _ q _ h rfl
 have st:aJ (ak X (bf hs++O)) s.heap (ak X (bf hs'++O)) s'.heap:=λa o ha e=>by
  have h1:a∉hs.map (·.1):=λq=>ha (fi.mpr (.inl (by exists lw ..;exact q)));refine⟨λq=>?_,hk a o h1 e⟩;refine ZR (fi.mp q) (λq=>?_) (λq=>?_)
  ·rw[lw]at q;refine ZR (hn a q) (λz=>?_) (λz=>?_);·exact h1 z
   ·replace e:=z▸e;cases e
  ·exact ha (fi.mpr (.inr q))
 have ex:∀d,d∈ak X O->∃o,s.heap.get? d=Z7 o:=λd hd=>F.ex d (fi.mpr (.inr hd));refine⟨F.move st (λa o hl h0 e=>hk a o (λq=>?_) e) hg ho (λo e=>hk _ o (out _ (bg.mpr (.inr (.inl rfl)))) e) (λn cc hc o e=>hk _ o (out _ (bg.mpr (.inr (.inr (.inl ⟨n,hc⟩))))) e) (λq hq e=>hk _ _ (out _ (bg.mpr (.inr (.inr (.inr (.inr ⟨q.2,hq⟩)))))) e) (λp hp=>?_) ?_,st⟩
 ·refine ZR (c.ab _ q) (λz=>?_) (λz=>?_);·replace h0:=z▸h0;cases h0
  ·exact hl z
 ·refine ZR (ZE.mp hp) (λh=>?_) (λh=>?_)
  ·refine dn h λq hq=>?_;have hm:q.1∈hs'.map (·.1):=ZY.mpr (aj q hq rfl);refine ZR (hn _ hm) (λz=>?_) (λz=>?_);·exact⟨c.ab _ z,c.nl _ z,⟨c.nc _ z,c.nh _ z⟩,c.nb _ z,q.2,hh q hq,rfl⟩
   ·have nx:∀d,d∈ak X O->q.1≠d:=λd hd e=>by refine br (ex d hd) λo ho=>?_;rw[<-e,z]at ho;cases ho
    refine⟨F.new z,nx _ (bg.mpr (.inr (.inl rfl))),⟨λn cc hc=>nx _ (bg.mpr (.inr (.inr (.inl ⟨n,hc⟩)))),λp hp=>nx _ (bg.mpr (.inr (.inr (.inr (.inr ⟨p.2,hp⟩)))))⟩,?_,q.2,hh q hq,rfl⟩;cases e:(aP X.w.params).get? q.1 with|none=>rfl;|some o=>have:=F.base _ _ e;replace this:=z▸this;cases this
  ·refine fB (F.own p (Zl _ h)) λa1 a2 a3 a4 o ho z=>?_;exact⟨a1,a2,a3,a4,o,hk _ _ (out _ (bg.mpr (.inl (ZY.mpr (aj p h rfl))))) ho,z.move st⟩
 ·exists ZJ;rw[lw,YY];refine bM nd wE.2.1 (λa ha b hb e=>?_);subst e;refine ZR (hn a ha) (λz=>?_) (λz=>?_);·exact wE.2.2 a z a hb rfl
  ·refine br (ex a (bg.mpr (.inl hb))) λo ho=>?_;replace ho:=z▸ho;cases ho
theorem Fr.n8(F:Fr X ρ (bf hs++O) s)(hk:∀b o,b∉hs.map (·.1)->s.heap.get? b=Z7 o->s'.heap.get? b=Z7 o)(hg:X.G s'.gens)(ho:s'.os=s.os):Fr X ρ O s'/\aJ (ak X (bf hs++O)) s.heap (ak X O) s'.heap:=by have:=F.mQ (hs':=[]) hk (λq hq=>nomatch hq) (λa ha=>nomatch ha) Yd hg ho;exact this
structure pR(X:Fx)(b9:List Z1)(be:YQ)(tg:Zt)(it:Z3)(l:List AV)(Nd:af->Prop)(IS:Nat->List (Z1×Zp)->Prop):Prop where
 item:∀i av hs ρ O s(Q:Option Z3->Z6->Prop)(E:Z3->Z6->Prop),l[i]?=some av->IS i hs->Nd O->Fr X ρ (bf hs++O) s->aJ b9 be (ak X (bf hs++O)) s.heap->(∀v s',(∀(Q2:Unit->Z6->Prop)(E2:Z3->Z6->Prop),(∀hs' ez,IS (i+1) hs'->Fr X ρ (bf hs'++O) ez->aJ (ak X (bf hs++O)) s.heap (ak X (bf hs'++O)) ez.heap->aX (ak X (bf hs'++O)) ez.heap v av->Q2 () ez)->ZK (model pw X.w) X.A (Wv tg it v) Q2 E2 s')->Q (some v) s')->ZK (model pw X.w) X.A (VU it) Q E s
 done:∀hs ρ O s(Q:Option Z3->Z6->Prop)(E:Z3->Z6->Prop),IS l.length hs->Nd O->Fr X ρ (bf hs++O) s->aJ b9 be (ak X (bf hs++O)) s.heap->(∀s',Fr X ρ O s'->aJ (ak X (bf hs++O)) s.heap (ak X O) s'.heap->Q none s')->ZK (model pw X.w) X.A (VU it) Q E s
inductive yd(X:Fx)(ρ:Loc)(O:af)(s:Z6)(tg:Zt)(k:List AV->af->(af->Prop)->Prop)(it:Z3)(aL:Z6):Prop|mk(l:List AV)(Nd:af->Prop)(IS:Nat->List (Z1×Zp)->Prop)(hs:List (Z1×Zp))(O':af)(W:pR X (ak X (bf hs++O')) aL.heap tg it l Nd IS)(i0:IS 0 hs)(aS:Fr X ρ (bf hs++O') aL)(sD:aJ (ak X O) s.heap (ak X (bf hs++O')) aL.heap)(hk:k l O' Nd)
def d0(X:Fx)(ρ:Loc)(O:af)(tg e:Zt)(k:List AV->af->(af->Prop)->Prop):Prop:=∀E s,Fr X ρ O s->ZK (model pw X.w) X.A (eval e X.env) (λx aq=>ZK (model pw X.w) X.A (RK x) (yd X ρ O s tg k) E aq) E s
inductive xU(X:Fx)(IS:Nat->List (Z1×Zp)->Prop)(Inv:Nat->Loc->af->Prop)(n:Nat)(D:List Z1)(h:YQ):Nat->Z6->Prop|mk{i ρ' O' hs' s'}(F':Fr X ρ' (bf hs'++O') s')(aW:IS i hs')(mR:aJ D h (ak X (bf hs'++O')) s'.heap)(tJ:Inv i ρ' O')(hi:i<=n):xU X IS Inv n D h (n+1-i) s'
theorem Es.jD{tg bX:Zt}{body:List Y4}(hf:∀x,XV bX X.env x=pure x)(h:d0 X ρ O tg bX λl ag Nd=>∃Inv:Nat->Loc->af->Prop,Inv 0 ρ ag/\(∀i ρ' O',Inv i ρ' O'->Nd O')/\(∀i av ρ' O' hs c,l[i]?=Z7 av->Inv i ρ' O'->Tg (X.holds hs c) ρ' O' tg av λeU=>Ex (X.holds hs c) eU O' body ⟨Inv (i+1),K.rt,K.nx,Inv (i+1)⟩)/\(∀ρ' O',Inv l.length ρ' O'->K.nx ρ' O')):Es X ρ O (.For tg bX body [] pos) K:=λE s F=>by
 refine wpAny_For (wm (h _ s F) (λx aq hx=>wm hx (λit aL dw=>?_))) hf;obtain⟨l,Nd,IS,hs,ag,W,lE,aS,sD,Inv,h0,gQ,step,fin⟩:=dw;refine codeAny_forLoop_any (xU X IS Inv l.length (ak X (bf hs++ag)) aL.heap) ?_ (l.length+1) (.mk (i:=0) aS lE (.refl _ _) h0 (ZI _));rintro C s'(@⟨i,ρ',O',hs',C,F',aW,mR,tJ,hi⟩);by_cases k6:i=l.length;·cases k6;refine W.done hs' ρ' O' s' _ _ aW (gQ _ _ _ tJ) F' mR λcR eV gG=>?_;exact Td ⟨ρ',O',eV,(sD.trans mR).trans gG,fin ρ' O' tJ⟩
 ·have bC:i<l.length:=UJ hi k6;refine W.item i l[i] hs' ρ' O' s' _ _ (Z0 bC) aW (gQ _ _ _ tJ) F' mR λv cR go=>go _ _ λbU dJ kD gJ sk rv=>?_;have c:=gJ.we;refine wm (step i l[i] ρ' O' bU c (Z0 bC) tJ _ dJ v (gJ.toHolds c) (rv.move o0)) (λC ig b5=>dE b5 λu5 fR kE nG=>?_);refine wm (nG _ ig fR) (λfl fP bJ=>lP bJ λjt fA jv jp x=>?_);have F7:Fr X jt (bf bU++fA) fP:=jv.pD;have sa:aJ (ak X (bf hs++ag)) aL.heap (ak X (bf bU++fA)) fP.heap:=((((mR.trans sk).trans o0).trans kE).trans jp).trans qQ;have G9:Inv (i+1) jt fA->∃m,m<l.length+1-i/\xU X IS Inv l.length (ak X (bf hs++ag)) aL.heap m fP:=λOw=>aj (l.length+1-(i+1)) ((ar 0x2 0x6422cc85113c32889e2889e1) bC) (.mk F7 kD sa Ow bC);have sub:fA.Sublist (bf bU++fA):=We _ _;have out:Fr X jt fA fP/\aJ (ak X O) s.heap (ak X fA) fP.heap:=⟨F7.drop sub,(sD.trans sa).trans (F7.j3 sub)⟩;cases fl with|next=>exact G9 x;|cont=>exact G9 x;|brk=>exact⟨jt,fA,out.1,out.2,x⟩;|ret v=>refine aR x ?_;clear x;intro a r q;exact⟨jt,fA,out.1,out.2,a,r.move (qQ.trans (F7.j3 sub)),q⟩
end
end
noncomputable section
section
variable{X:Fx}{ρ:Loc}{O O':af}{s s':Z6}{E:Z3->Z6->Prop}{hs hs':List (Z1×Zp)}{K:Kn}{pos px:XY}
noncomputable def ro(e it:Z1)(i:Nat)(old:Z3):Zp:={cls:=.type "enumerate",dict:=ZT,data:=.fields #[.none,.bool ZS,.ref it,Yc (i:Int),.none,old],slots:=#[]}
noncomputable def oE(l:List AV):List AV:=l.zipIdx.map λx=>.tup [.int x.2,x.1]
theorem El{l:List AV}{i:Nat}{av:AV}(h:(oE l)[i]?=Z7 av):∃a,l[i]?=Z7 a/\av=.tup [.int i,a]:=by unfold oE at h;replace h:=List.getElem?_zipIdx▸ZN▸h;cases e:l[i]? with|none=>replace h:=e▸h;cases h;|some a=>replace h:=e▸h;simp at h;exact aj a rfl h.symm
theorem yL(l:List AV):(oE l).length=l.length:=by simp[oE]
def Ei(e it ad:Z1)(i:Nat)(hs:List (Z1×Zp)):Prop:=∃old io,hs=[(e,ro e it i old),(it,io)]/\io.cls=.type "list_iterator"/\io.data=.fields #[.ref ad,.int i 0]
theorem Fr.nz(F:Fr X ρ (bf hs++O) s){q:Z1×Zp}(hq:q∈hs):s.heap.get? q.1=Z7 q.2:=by exact F.ib (Zk _ (ZY.mpr (aj q hq rfl)))
theorem Fr.absent(F:Fr X ρ O s){a:Z1}(h:s.heap.get? a=ZT):a∉ak X O:=λq=>by refine br (F.ex a q) λo ho=>?_;replace ho:=h▸ho;cases ho
theorem aeJ{e it ad:Z1}{vs:Array Z3}{n:Nat}{l:List AV}{b9:List Z1}{be:YQ}{ts:List Zt}{c:Nat}{p:XY}(bF:e≠it)(rD:ad∉b9)(hg:be.get? ad=Z7 ⟨.type "list",ZT,.seq vs n,#[]⟩)(rl:bb b9 be vs.toList l):pR X b9 be (.Tuple ts c p) (.ref e) (oE l) (λC=>True) (Ei e it ad)where
 item:=λi av hs ρ O s Q E aN hI C F st hQ=>by
  refine aR (El aN) λa ha b7=>?_;subst b7;refine fG hI ?_;clear hI;intro old io cy hc hd;subst cy;refine aR (rl.get ha) λx hx rx=>?_;have he:IsEnum s.heap e it i old:=F.nz (.head _);have dw:s.heap.IsListIter it ad i:=cQ io (F.nz (.tail _ (.head _))) hc hd;have hl:s.heap.IsList ad vs:=cX _ ((st _ _ rD hg).2) rfl n rfl;refine wpAny_pyNext_enum_item he dw hl (x:=x) (by simpa using hx) bF λh' ho jd hT hsz hk=>?_;refine hQ _ _ λQ2 E2 qc=>?_;refine wpAny_letOwnedTupleGo_enum ho λjF O5 jf=>?_;refine dE jd ?_;clear jd;intro fw zB zC zD;have lte:e<s.heap.objs.size:=Zc he;have GO:it<s.heap.objs.size:=by refine aR dw ?_;clear dw;intro o ho C;exact Zc ho
  have kk:∀b o,b∉([(e,ro e it i old),(it,io)]:List (Z1×Zp)).map (·.1)->s.heap.get? b=Z7 o->jF.get? b=Z7 o:=λb o hb eb=>by simp only[Z2,YS,ZZ,YU,or_false,not_or]at hb;exact(jf.2 b hb.1).trans (hk b o hb.1 hb.2 eb)
  have RH:=F.mQ (s':={s with heap:=jF,toks:=s.toks+1}) (hs':=[(e,ro e it (i+1) x),(it,fw)]) kk (λq hq=>by
    simp only[ZZ,YU,or_false]at hq;rcases hq with rfl|rfl;·have:((i+1:Nat):Int)=(i:Int)+1:=aD 0x1 0x3b113c36889e1;exists this;exact O5
    ·exact(jf.2 it (Xl bF)).trans zB) (λa ha=>.inl ha) (by simp[bF]) F.gens rfl;have nT:s.heap.objs.size∉ak X (bf [(e,ro e it (i+1) x),(it,fw)]++O):=λq=>by
   refine br (F.ex s.heap.objs.size (by
    refine ZR (fi.mp q) (λq=>?_) (λq=>?_);·exact fi.mpr (.inl q)
    ·exact fi.mpr (.inr q))) λo ho=>?_;exact absurd (Zc ho) (YT _)
  refine qc [(e,ro e it (i+1) x),(it,fw)] _ (eu x fw rfl zC zD) RH.1 RH.2 (.tup (n:=0) nT ((jf.2 _ (Wg lte)).trans hT) (.cons (.int _ _) (.cons ((rx.move st).move RH.2) .nil)))
 done:=λhs ρ O s Q E hI C F st hQ=>by
  refine fG hI ?_;clear hI;intro old io cx hc hd;subst cx;rw[yL]at hd;have he:IsEnum s.heap e it l.length old:=by have:=F.nz (.head _);rw[yL]at this;exact this
  have dw:s.heap.IsListIter it ad l.length:=cQ io (F.nz (.tail _ (.head _))) hc hd;have hl:s.heap.IsList ad vs:=cX _ ((st _ _ rD hg).2) rfl n rfl;refine wpAny_pyNext_enum_end X.hh he dw hl (by have:=rl.size;simp;exact(ar 0x2 0x3420e041) this) λh' hx=>?_;have:=F.n8 (s':={s with heap:=h'}) (λb o hb eb=>hx b o (λz=>hb (by simp[z])) eb) F.gens rfl;exact hQ _ this.1 this.2
theorem d0.enum{ts:List Zt}{c:Nat}{p:XY}{cw:Zt}{k:List AV->af->(af->Prop)->Prop}(hs:dH cw=ZS)(hl:Ld X (Z9 "enumerate") (.type "enumerate"))(h:Ev X ρ O cw λa ag=>∃l,a=.lst l/\k (oE l) ag λC=>True):d0 X ρ O (.Tuple ts c p) (.Call (.Name (Z9 "enumerate") px) [cw] [] pos) k:=λE s F=>by
 have hs':([cw]:List Zt).any dH=ZS:=by simp[hs]
 have hE:cC X ρ O [cw] λl' ag=>∃l,l'=[.lst l]/\k (oE l) ag λC=>True:=cC.cons hs (h.mono λa ag z=>cC.nil (by refine aR z ?_;clear z;intro l e z;exact aj l (by exact bG e rfl) z));refine Yv (hl E s px _ F.base (callWith_type1 (wm (hE E s pos F) (λvs aq x=>?_)) (kC hs') (lq (by rfl))));obtain⟨l',ag,aw,aI,a5,l,e,hk⟩:=x;subst e;obtain⟨r1⟩:=a5.i1;cases r1.iL with|@mk ad vs n rD hg rl=>
 refine call_enumerate_list (cX _ hg rfl n rfl) λh' he dw hsz cP=>?_;refine wpAny_pyIter_enum he ?_;refine dE dw ?_;clear dw;intro io zB zC zD;have n1:aq.heap.get? aq.heap.objs.size=ZT:=fY _;have n2:aq.heap.get? (aq.heap.objs.size+1)=ZT:=X2 (SO _);have JX:Fr X ρ (bf []++ag) aq:=aw;have RH:=JX.mQ (s':={aq with heap:=h'}) (hs':=[(aq.heap.objs.size+1,ro (aq.heap.objs.size+1) aq.heap.objs.size 0 .none),(aq.heap.objs.size,io)]) (λb o C e=>cP b o e) (λq hq=>by
    simp only[ZZ,YU,or_false]at hq;rcases hq with rfl|rfl;·exact he
    ·exact zB) (λa ha=>by
    simp only[Z2,YS,ZZ,YU,or_false]at ha;rcases ha with rfl|rfl;·exact .inr n2
    ·exact .inr n1) (by simp) aw.gens rfl;refine⟨oE l,_,Ei (aq.heap.objs.size+1) aq.heap.objs.size ad,_,ag,aeJ (Nat.succ_ne_self _) (RH.2 _ _ rD hg).1 (RH.2 _ _ rD hg).2 (rl.move RH.2),(eu (.none) io rfl zC zD),RH.1,aI.trans RH.2,hk⟩
end
end
noncomputable section
section
variable{K:Type}[DecidableEq K]{w:ZD}
class inductive PR(g:Z1->Option Zp):List (K×Z3)->List (K×AV)->Prop|nil:PR g [] []|cons{k v a r r'}:fz g v a->PR g r r'->PR g ((k,v)::r) ((k,a)::r')
section
variable{g:Z1->Option Zp}{k:K}{v:Z3}{a:AV}{bm:List (K×Z3)}{aA:List (K×AV)}
theorem PR.mono{g':Z1->Option Zp}(hg:∀a o,g a=Z7 o->g' a=Z7 o)(h:PR g bm aA):PR g' bm aA:=by induction h with|nil=>exact .nil;|cons x _ ih=>exact .cons (x.mono hg) ih
theorem PR.length(h:PR g bm aA):bm.length=aA.length:=by induction h with|nil=>rfl;|cons _ _ ih=>exact congrArg (·+1) ih
theorem PR.get(h:PR g bm aA){i:Nat}(e:aA[i]?=Z7 (k,a)):∃v,bm[i]?=Z7 (k,v)/\fz g v a:=by induction h generalizing i with|nil=>cases e;|cons x _ ih=>cases i with|zero=>cases e;exact aj _ rfl x;|succ i=>exact ih e
noncomputable def ce(aA:List (K×AV))(k:K):Option AV:=(aA.find? λx=>x.1=k).map (·.2)
theorem PR.at(h:PR g bm aA)(x:K):(ce aA x=ZT/\UR bm x=ZT)\/∃v a,ce aA x=Z7 a/\UR bm x=Z7 v/\fz g v a:=by induction h with|nil=>exact .inl ⟨rfl,rfl⟩;|@cons k _ _ _ _ y _ ih=>
  unfold ce UR at ih⊢;exists QH;exists QH;cases decide (k=x);·exact ih
  ·exact .inr (eu _ _ rfl rfl y)
theorem PR.some{x:K}{v:Z3}(h:PR g bm aA)(hv:UR bm x=Z7 v):∃a,ce aA x=Z7 a/\fz g v a:=by
 refine ZR (h.at x) (λbH=>aO bH λC e=>?_) (λbS=>fG bS λv' a e1 e r=>?_);·cases e.symm.trans hv
 ·cases e.symm.trans hv;exact aj a e1 r
theorem PR.none{x:K}(h:PR g bm aA)(hv:UR bm x=ZT):ce aA x=ZT:=by
 refine ZR (h.at x) (λbT=>aO bT λe C=>?_) (λb5=>fG b5 λv' a C e C=>?_);·exact e
 ·cases e.symm.trans hv
theorem PR.isSome{x:K}(h:PR g bm aA)(hx:(ce aA x).isSome=ZW):(UR bm x).isSome=ZW:=by
 refine ZR (h.at x) (λb6=>aO b6 λe C=>?_) (λbJ=>fG bJ λv' a C e C=>?_);·replace hx:=e▸hx;cases hx
 ·exists e;rfl
theorem PR.snoc(q:fz g v a)(h:PR g bm aA):PR g (bm++[(k,v)]) (aA++[(k,a)]):=by induction h with|nil=>exact .cons q .nil;|cons x _ ih=>exact .cons x ih
noncomputable def gW(aA:List (K×AV))(k:K):List (K×AV):=aA.filter λx=>decide (x.1≠k)
theorem PR.without(h:PR g bm aA):PR g (without bm k) (gW aA k):=by unfold PySem.without gW;induction h with|nil=>exact .nil;|@cons y _ _ _ _ x _ ih=>
  exists Yb;exists Yb;cases decide (y≠k);·exact ih
  ·exact .cons x ih
noncomputable def pH(aA:List (K×AV))(k:K)(a:AV):List (K×AV):=if aA.any (λx=>x.1=k)then aA.map (λx=>if x.1=k then(x.1,a)else x)else aA++[(k,a)]
theorem PR.any(h:PR g bm aA):(bm.any λx=>x.1=k)=aA.any λx=>x.1=k:=by induction h with|nil=>rfl;|cons _ _ ih=>exists YF;exists YF;exact bG ih rfl
theorem PR.map(q:fz g v a)(h:PR g bm aA):PR g (bm.map λx=>if x.1=k then(x.1,v)else x) (aA.map λx=>if x.1=k then(x.1,a)else x):=by induction h with|nil=>exact .nil;|@cons y _ _ _ _ x _ ih=>
  exists Z2;exists Z2;by_cases z:y=k;·exists if_pos z;exists if_pos z;exact .cons q ih
  ·exists if_neg z;exists if_neg z;exact .cons x ih
end
theorem PR.stored{g:Z1->Option Zp}{k:K}{v:Z3}{a:AV}(q:fz g v a){bm:List (K×Z3)}{aA:List (K×AV)}(h:PR g bm aA):PR g (stored bm k v) (pH aA k a):=by
 unfold PySem.stored pH;exists h.any (k:=k);split;·exact h.map q
 ·exact h.snoc q
def dP(knd:KeyKind pw w K)(aA:List (K×AV)):(Z1->Option Zp)->Zp->Prop:=λg o=>∃bm,o.IsDictOf knd bm/\PR g bm aA
theorem s9{knd:KeyKind pw w K}{aA:List (K×AV)}:∀g g' o,(∀a o,g a=Z7 o->g' a=Z7 o)->dP knd aA g o->dP knd aA g' o:=λg g' o hg b7=>aR b7 λbm h1 h2=>aj bm h1 (h2.mono hg)
def D3(knd:KeyKind pw w K)(aA:List (K×AV)):(Z1->Option Zp)->Z3->Prop:=λg v=>∃a o,v=.ref a/\(a==VT)=ZS/\g a=Z7 o/\dP knd aA g o
noncomputable def lO(knd:KeyKind pw w K)(aA:List (K×AV)):AV:=.ext (D3 knd aA)
theorem Mh{knd:KeyKind pw w K}{aA:List (K×AV)}:qX (D3 knd aA):=λg g' v hg cy=>th cy λa o e n h1 h2=>pd a o e n (hg a o h1) (s9 _ _ _ hg h2)
def DV(knd:KeyKind pw w K)(O:af)(a:AV)(aA:List (K×AV)):Prop:=(∃d P,a=.ref d/\(d,aQ.ext P)∈O/\∀g o,P g o->dP knd aA g o)\/a=lO knd aA
theorem wI{P:Zr}{a:Z1}(h:(aP P).get? a=ZT):(a==VT)=ZS:=by
 rw[beq_eq_false_iff_ne];rintro rfl;have:((aP P).get? VT).isSome=ZW:=by kernel_rfl
 replace this:=h▸this;cases this
structure ml(knd:KeyKind pw w K)(dI:K->AV):Prop where
 to:∀D h v k,aX D h v (dI k)->knd.is k v=true
 of:∀D h v k,knd.is k v=true->aX D h v (dI k)
theorem wl(w:ZD):ml (ZH pw w) AV.str:=⟨λD h v k r=>by cases r.iS;simp[ZH,P6],λD h v k e=>by refine br (UZ e) λt cx=>?_;exists cx;exact .str _ _⟩
theorem Gh(w:ZD):ml (Xu pw w) AV.int:=⟨λD h v k r=>by cases r.iI;simp[Xu,Value.isInt],λD h v k e=>by refine br (Value.isInt_shape e) λt bH=>?_;exists bH;exact .int _ _⟩
end
section
variable{X:Fx}{ρ:Loc}{O O':af}{s s':Z6}{E:Z3->Z6->Prop}{k:AV->af->Prop}{K:Kn}{pos px cD:XY}
variable{κ:Type}[DecidableEq κ]{knd:KeyKind pw X.w κ}{dI:κ->AV}{aA:List (κ×AV)}
theorem Fr.xF{v:Z3}{a:AV}(F:Fr X ρ O s)(r:aX (ak X O) s.heap v a)(h:DV knd O a aA):∃ad o,v=.ref ad/\(ad==VT)=ZS/\s.heap.get? ad=Z7 o/\dP knd aA (cv (ak X O) s.heap) o:=by
 rcases h with⟨d,P,rfl,hm,hP⟩|rfl;·cases r.iR;refine aR (F.oK hm) λo ho z=>?_;exact pd d o rfl (wI (F.own _ hm).a4) ho (hP _ _ z)
 ·cases r.iX with|mk m p=>
   refine th p ?_;clear p;intro ad o bT n hg h;exists bT;refine pd ad o rfl n ?_ h;unfold cv at hg;split at hg;·cases hg
   ·exact hg
theorem Ev.yD(h:∀a,a∉O.map (·.1)->k (.ref a) ((a,.ext (dP knd []))::O)):Ev X ρ O (.Dict [] [] pos) k:=λE s F=>by refine wpAny_Dict_empty ?_;have aS:=F.alloc (o:={cls:=.type "dict",data:=.dict #[]}) (ao:=.ext (dP knd [])) (tk:=s.toks) rfl (qs s9 ([]) (qt (#[]) 0 (bM rfl rfl rfl) rfl (λC he=>by simp at he) Pairs.nil Yd) (.nil));exact⟨_,_,aS,(mW (fY s.heap)).trans (aJ.of λC C e=>ZX _ e),.ref _,h _ λq=>F.fresh (bg.mpr (.inl q))⟩
theorem aG.Mp(kf:ml knd dI){a dflt:AV}{x:κ}(ha:DV knd O a aA)(h:k ((ce aA x).getD dflt) O):aG X ρ O (.builtin "dict.get") [a,dI x,dflt] k:=λE s vs F R=>by
 replace R:=R.i3;obtain⟨r1,r2,r3⟩:=R;obtain⟨ad,o,b5,n,ho,bm,hd,pr⟩:=F.xF r1 ha;exists b5;have hD:s.heap.DictOf knd ad bm:=VZ.mpr (aj o ho hd);refine Rj Vr hD.typeIs Tn (PySem.F.args_dict_get_3 _ _ _) (meets_dict_get_default knd ad (kf.to _ _ _ _ r2) n _) (aj _ hD.mapOf ?_);refine ZR (pr.at x) (λb6=>aO b6 λe1 e2=>?_) (λbJ=>fG bJ λv a' e1 e2 rv=>?_);·exists e2;replace h:=e1▸h;exact .done F (.tok _ _) r3 h
 ·exists e2;replace h:=e1▸h;exact .done F (.tok _ _) rv.up h
theorem afy{prog:YG}{w:ZD}{κ:Type}[DecidableEq κ]{knd:KeyKind prog w κ}{A:Zw}{d:Z1}{bm:List (κ×Z3)}{k:κ}{key dflt:Z3}{Q:Z3->Z6->Prop}(je:knd.is k key=ZW)(hm:s.heap.DictOf knd d bm)(h1:∀v,UR bm k=Z7 v->Q v {s with toks:=s.toks+1})(h2:UR bm k=ZT->∀h',h'.DictOf knd d (bm++[(k,dflt)])->YL d s.heap h'->Q dflt {s with heap:=h',toks:=s.toks+1})(hsz:bm.length<=Y8):ZK (model prog w) A (dictSetDefault d key dflt) Q E s:=by
 obtain⟨o,es,ep,ho,hc,hd,hk,hp,hn⟩:=hm;have O7:es.size<=Y8:=by
  have e1:=hp.length;have e2:es.toList.length=es.size:=by simp
  exact(aU 0x4 0xc087a1934126041) hsz e1 e2
 refine ZL ?_;refine Z8 (knd.pyHash je ?_);refine Z8 (wpAny_dictFind_of (s:={s with toks:=s.toks+1}) je ho hd hk ?_);have zA:(es.findIdx? λe=>knd.is k e.key)=bm.findIdx? λkv=>decide (kv.1=k):=by exists Zz (hp.findIdx k);obtain⟨l⟩:=es;simp
 cases hi:es.findIdx? λe=>knd.is k e.key with
 |some i=>
  have hl:(es.toList.findIdx? λe=>knd.is k e.key)=Z7 i:=by exists Zz hi;obtain⟨l⟩:=es;simp
  refine dE (hp.at hl) λe he hek tI=>?_;refine Z8 (wpAny_dictEntries (s:={s with toks:=s.toks+1}) ho hd ?_);have ny:es[i]?=Z7 e:=by exists Zz he;obtain⟨l⟩:=es;simp
  exists ny;exact Z8 (W4 (Z5 (h1 _ tI)));|none=>
  have zN:k∉bm.map (·.1):=not_mem_of_findIdx_none (zA▸hi);have hva:UR bm k=ZT:=by unfold UR;rw[Option.map_eq_none_iff,List.find?_eq_none];intro kv Po q;exact zN (ZY.mpr (aj kv Po (of_decide_eq_true q)))
  refine Z8 (W4 (Z8 (wpAny_updateDictKeys (hz:=O7) (s:={s with toks:=s.toks+1}) ho hd (Z5 (h2 hva _ ⟨_,_,ep+1,YI _ ho (Obj.isFreed_of_dict (Sq hd _)),hc.mapDictKeys _,Sq hd _,hk.push je _,?_,?_⟩ (YV ..))))));·have:=hp.append je (knd.hash k) dflt;obtain⟨l⟩:=es;simpa using this
  ·rw[ZJ,YY];refine bM hn (by simp) ?_;intro a ha b hb;simp only[Z2,YS,Zv]at hb;exists hb;exactλe=>zN (e▸ha)
inductive JS(knd:KeyKind pw X.w κ)(aA:List (κ×AV))(d:Z1)(g:Z1->Option Zp)(s:Z6):Prop|mk(bm:List (κ×Z3))(n:(d==VT)=false)(hD:s.heap.DictOf knd d bm)(hsz:bm.length<=Y8)(pr:PR g bm aA)
theorem Fr.D7{d:Z1}(F:Fr X ρ O s)(hm:(d,aQ.ext (dP knd aA))∈O)(hz:aA.length<=4000):JS knd aA d (cv (ak X O) s.heap) s:=by obtain⟨o,ho,bm,hd,pr⟩:=F.oK hm;exact⟨bm,wI (F.own _ hm).a4,VZ.mpr (aj o ho hd),by exists pr.length;exists Zs;exact(aD 0x2 0xc061e811e1c060180601845e1) hz,pr⟩
theorem Fr.yH{d:Z1}{ud:List (κ×AV)}{Gq:List (κ×Z3)}{h':YQ}{tk:Nat}(F:Fr X ρ O s)(hm:(d,aQ.ext (dP knd aA))∈O)(sb:YL d s.heap h')(hD:h'.DictOf knd d Gq)(pr:PR (cv (ak X O) s.heap) Gq ud):Fr X ρ (bp O d (.ext (dP knd ud))) {s with heap:=h',toks:=tk}/\aJ (ak X O) s.heap (ak X (bp O d (.ext (dP knd ud)))) h':=by refine aR (VZ.mp hD) λo' cN h8=>?_;exact⟨F.update (ao:=.ext (dP knd ud)) (tk:=tk) hm sb cN (qs s9 _ h8 pr),F.iF (ao:=.ext (dP knd ud)) hm (λb o hb e=>(sb.2 b hb).trans e)⟩
theorem aG.aed(kf:ml knd dI){d:Z1}{x:κ}{a:AV}(hm:(d,aQ.ext (dP knd aA))∈O)(hz:aA.length<=4000)(h1:∀b,ce aA x=Z7 b->k b O)(h2:ce aA x=ZT->k a (bp O d (.ext (dP knd (aA++[(x,a)]))))):aG X ρ O (.builtin "dict.setdefault") [.ref d,dI x,a] k:=λE s vs F R=>by
 replace R:=R.i3;obtain⟨r1,r2,r3⟩:=R;obtain⟨bm,n,hD,hsz,pr⟩:=F.D7 hm hz;cases r1.iR;refine YJ U5 hD.typeIs PySem.F.entry_dict_setdefault ?_ (PySem.F.args_dict_setdefault_3 _ _ _);refine Z8 ?_;refine Z8 (wpAny_notOrdered_dict hD.typeIs ?_);refine Z5 ?_;show ZK _ _ (if(d==VT)=ZW then _ else(dictSetDefault d _ _>>=_)) _ _ s;exists(if_neg (by refine bG n ?_;exact Ze));refine Z8 (afy (kf.to _ _ _ _ r2) hD (λv hv=>Z5 (aj v rfl ?_)) (λhv h' tu sb=>Z5 (aj _ rfl ?_)) hsz);·refine aR (pr.some hv) λa' e1 rv=>?_;exact .done F (.tok _ _) rv.up (h1 _ e1)
 ·have D:=F.yH (tk:=s.toks+1) hm sb tu (pr.snoc (fz.of r3));exact⟨a,_,D.1,D.2,r3.move D.2,h2 (pr.none hv)⟩
inductive qT(knd:KeyKind pw X.w κ)(dI:κ->AV)(b c:AV)(O:af)(P:Z1->κ->List (κ×AV)->Prop):Prop|mk(d:Z1)(x:κ)(aA:List (κ×AV))(e1:b=.ref d)(e2:c=dI x)(hm:(d,aQ.ext (dP knd aA))∈O)(hz:aA.length<=4000)(h:P d x aA)
inductive JT(X:Fx)(ρ:Loc)(O:af)(knd:KeyKind pw X.w κ)(dI:κ->AV)(P:af->Z1->κ->List (κ×AV)->Prop)(s aL:Z6)(iv:Z3)(d:Z1):Prop|mk(aM:af)(x:κ)(aA bm)(F:Fr X ρ aM aL)(st:aJ (ak X O) s.heap (ak X aM) aL.heap)(hk:knd.is x iv=true)(hm:(d,aQ.ext (dP knd aA))∈aM)(hD:aL.heap.DictOf knd d bm)(hsz:bm.length<=Y8)(pr:PR (cv (ak X aM) aL.heap) bm aA)(h:P aM d x aA)
theorem qT.rd(kf:ml knd dI){ei:Zt}{P:af->Z1->κ->List (κ×AV)->Prop}{ov:Z3}{aq:Z6}(z:dY X ρ O s (λb ag=>Ev X ρ ag ei λc aM=>qT knd dI b c aM (P aM)) ov aq){R:Z3->Z6->Prop}(h:∀iv aL d,ov=.ref d->JT X ρ O knd dI P s aL iv d->R iv aL):ZK (model pw X.w) X.A (eval ei X.env) R E aq:=by refine cr z ?_;clear z;intro b ag aw aI a5 aH;refine wm (aH _ aq aw) (λiv aL u4=>?_);obtain⟨c,aM,aS,aY,cK,d,x,aA,e1,e2,hm,hz,hk⟩:=u4;obtain⟨bm,n,hD,hsz,pr⟩:=aS.D7 hm hz;exact h iv aL d (e1▸a5).iR ⟨aM,x,aA,bm,aS,aI.trans aY,kf.to _ _ _ _ (e2▸cK),hm,hD,hsz,pr,hk⟩
theorem b8.Mz(kf:ml knd dI){eo ei:Zt}{a:AV}{kk:Loc->af->Prop}(hn:ur ei)(h:Ev X ρ O eo λb ag=>Ev X ρ ag ei λc aM=>qT knd dI b c aM λd x aA=>kk ρ (bp aM d (.ext (dP knd (pH aA x a))))):b8 X ρ O (.Subscript eo ei px) a kk:=λE s v F r=>by rw[assign_Subscript];refine Z8 (ZL (wm (h _ s F) (λov aq z=>Z8 (ZL (qT.rd kf z λiv aL d e u4=>?_)))));exists e;obtain⟨aM,x,aA,bm,aS,st,hk,hm,hD,hsz,pr,hq⟩:=u4;refine Z8 (YW (Z8 (ZL (wpAny_setItem_pairs hk hD (λh' tu sb=>T5 ?_) hsz))));have D:=aS.yH (tk:=aL.toks+1) hm sb tu (pr.stored (fz.of (r.move st)));exact eu ρ _ D.1 (st.trans D.2) hq
theorem Es.Mi(kf:ml knd dI){eo ei:Zt}(h:Ev X ρ O eo λb ag=>Ev X ρ ag ei λc aM=>qT knd dI b c aM λd x aA=>(ce aA x).isSome=ZW/\K.nx ρ (bp aM d (.ext (dP knd (gW aA x))))):Es X ρ O (.Delete [.Subscript eo ei px] pos) K:=λE s F=>by
 refine wpAny_Delete (wpAny_deleteEach_cons (delete_Subscript (wm (h _ s F) (λov aq z=>qT.rd kf z λiv aL d e u4=>?_))));exists e;obtain⟨aM,x,aA,bm,aS,st,hk,hm,hD,hsz,pr,hx,hq⟩:=u4;refine ZL ?_;refine Z8 (Uj hD.typeIs (by decide) ?_);refine Z8 (Yz (name:=Z9 "__delitem__") hD.typeIs Uo (Rj Uo hD.typeIs PySem.F.entry_dict_delitem (PySem.F.args_dict_delitem_2 _ _) (meets_dict_delitem_pairs knd d hk) (fe bm hD hsz (pr.isSome hx) (λh' tu sb=>?_))));have D:=aS.yH (tk:=aL.toks+1) hm sb tu pr.without;exact Z5 (wpAny_deleteEach_nil ⟨ρ,_,D.1,st.trans D.2,hq⟩)
end
end
theorem Jg:P4 "method_descriptor" (Z9 "__get__") "method_descriptor.__get__":=.of (owner:="method_descriptor") (n:="__get__") (by rw[Y5,Zq];kernel_rfl) dk dk dk (by first|exact .inl dk|exact .inr dk) (by rw[XQ];kernel_rfl)
theorem MP:Vc table "method_descriptor.__get__"=Z7 XJ.«method_descriptor.__get__»:=WM (by kernel_rfl)
theorem Kl(a b c:Z3):Sp "method_descriptor.__get__" ⟨[a,b,c],[]⟩:=by unfold Sp;kernel_rfl
theorem abh:Ym (.type "method_descriptor") (Z9 "__set__")=pure ZT:=by rw[Y5,Zq];kernel_rfl
theorem abg:Ym (.type "method_descriptor") (Z9 "__delete__")=pure ZT:=by rw[Y5,Zq];kernel_rfl
theorem abf:Ym (.type "dict") (Z9 "get")=pure (Z7 (.builtin "dict.get")):=by rw[Y5,Zq];kernel_rfl
noncomputable def jX(id:String)(a:Z1):Zp:={cls:=.type "builtin_function_or_method",data:=.fields #[.builtin id,.ref a]}
section
variable{M:Model}{A:Zw}{E:Z3->Z6->Prop}{s:Z6}
theorem adP{id T n:String}{a:Z1}{P:Fin->Z6->Prop}(ho:(kfb_private%"ownerAndName") id=(T,n))(hT:s.TypeIs (.ref a) T)(bh:Wr (.type T) (.type T)=pure ZW)(t7:W0.contains id=ZS)(h:P (.done (.ret (.ref s.heap.objs.size))) {s with heap:=s.heap.push (jX id a)}):ZK M A (XJ.«method_descriptor.__get__» ⟨[.builtin id,.ref a,.type T],[]⟩) P E s:=by refine Z8 (Zu (a:=(.builtin id,Z7 (.ref a),Z7 (.type T))) (by first|rfl|kernel_rfl) ?_);dsimp only;exists t7;simp only[YK,if_false];refine Z8 ?_;refine Z8 (Zu (a:=((Z9 n),Zg T)) (by show pure (Z9 ((kfb_private%"ownerAndName") id).2,Zg ((kfb_private%"ownerAndName") id).1)=_;exact bG ho rfl) ?_);refine Z8 (WL hT bh ?_);simp only[P2,YK,if_false];refine Z5 ?_;exact Z8 (XU (Z5 h))
end
theorem ac6:(kfb_private%"ownerAndName") "dict.get"=("dict","get"):=by first|decide+kernel|kernel_rfl
theorem ac8:(kfb_private%"ownerAndName") "set.__contains__"=("set","__contains__"):=by first|decide+kernel|kernel_rfl
theorem abi:Ym (.type "set") (Z9 "__contains__")=pure (Z7 (.builtin "set.__contains__")):=by rw[Y5,Zq];kernel_rfl
theorem afe:T7 (.builtin "set.__contains__")=pure (.type "method_descriptor"):=by show builtinType _=_;exists builtinType_eq_fast;kernel_rfl
theorem aeC:Wr (.type "dict") (.type "dict")=pure ZW:=by rw[XQ];kernel_rfl
theorem aeX:W0.contains "dict.get"=ZS:=dk
theorem aeY:W0.contains "set.__contains__"=ZS:=dk
section
variable{prog:YG}{w:ZD}{A:Zw}{E:Z3->Z6->Prop}{s:Z6}
theorem Nw{T id:String}{a:Z1}{o:Zp}{name:ZU}{Q:P1->Z6->Prop}(ho:s.heap.get? a=Z7 o)(hc:o.cls=.type T)(hd:o.dict=ZT)(hnc:(∃es k,o.data=.dict es k)\/∃es k t,o.data=.set es k t)(fZ:Ym (.type T) name=pure (Z7 (.builtin id)))(l0:T7 (.builtin id)=pure (.type "method_descriptor"))(tM:(["__module__","__name__","__qualname__","__doc__","__annotations__"]:List ZU).contains name=ZS)(h:Q (.bind (.builtin "method_descriptor.__get__") (.builtin id)) s):ZK (model prog w) A (PW (.ref a) (.type T) name) Q E s:=by
 have hB:s.TypeIs (.builtin id) "method_descriptor":=l0;have g1:=Jg.lookup;have g2:=abh;have g3:=abg;obtain⟨c,pX,dat,sl⟩:=o;simp only at hc hd hnc;subst hc hd;refine Z8 (Zu fZ ?_);refine Z8 (VY hB g1 ?_);refine Z8 ?_;refine Z8 ?_;refine Z8 (VY hB g2 ?_);simp only[UC,YK,if_false];refine Z8 (VY hB g3 (Z5 ?_));simp only[UC,YK,if_false];refine Z5 ?_;refine Z8 ?_;refine Z8 ?_;have fin:ZK (model prog w) A (instanceDict a ZS) (λd aq=>ZK (model prog w) A (P9 name d) (λv aL=>ZK (model prog w) A (match v with|some v=>do rule "getattr.instance-dict";pure (QZ v);|none=>do Wk name (.ref a);QR (Z7 (.builtin id)) (Z7 (.builtin "method_descriptor.__get__"))) Q E aL) E aq) E s:=by refine Z8 (So ho ?_);refine Z5 (Z5 ?_);refine Z8 ?_;unfold Wk;dsimp only;exists(if_neg (by refine bG tM ?_;exact Ze));refine Z5 ?_;exact Z8 (W4 (Z5 h))
 refine Z8 (So ho ?_);rcases hnc with⟨es,k,rfl⟩|⟨es,k,t,rfl⟩;·exact fin
 ·exact fin
theorem adM{T id n:String}{a:Z1}{o:Zp}{name:ZU}{u:PG}{P:Fin->Z6->Prop}(ho:s.heap.get? a=Z7 o)(hc:o.cls=.type T)(hd:o.dict=ZT)(hnc:(∃es k,o.data=.dict es k)\/∃es k t,o.data=.set es k t)(fZ:Ym (.type T) name=pure (Z7 (.builtin id)))(l0:T7 (.builtin id)=pure (.type "method_descriptor"))(tQ:(kfb_private%"ownerAndName") id=(T,n))(bh:Wr (.type T) (.type T)=pure ZW)(t7:W0.contains id=ZS)(tM:(["__module__","__name__","__qualname__","__doc__","__annotations__"]:List ZU).contains name=ZS)(h:P (.done (.ret (.ref s.heap.objs.size))) {s with heap:=s.heap.push (jX id a)}):ZK (model prog w) A (XJ.«object.__getattribute__» ⟨[.ref a,.str name u],[]⟩) P E s:=by have hT:s.TypeIs (.ref a) T:=aj o ho hc;have hB:s.TypeIs (.builtin id) "method_descriptor":=l0;refine Z8 (Zu (a:=(ZB a,[Q7 name u])) (by first|rfl|kernel_rfl) ?_);refine Z8 (Zu (a:=name) (by first|rfl|kernel_rfl) ?_);refine Z8 (UQ hT ?_);refine Z8 (Nw ho hc hd hnc fZ l0 tM ?_);refine Z8 (ZL (YJ Jg hB MP (adP tQ hT bh t7 (aj _ rfl ?_)) (Kl _ _ _)));exact Z5 h
theorem EX{T id n ga:String}{a:Z1}{o:Zp}{name:ZU}{Q:Z3->Z6->Prop}(ho:s.heap.get? a=Z7 o)(hc:o.cls=.type T)(hd:o.dict=ZT)(hnc:(∃es k,o.data=.dict es k)\/∃es k t,o.data=.set es k t)(fZ:Ym (.type T) name=pure (Z7 (.builtin id)))(l0:T7 (.builtin id)=pure (.type "method_descriptor"))(tQ:(kfb_private%"ownerAndName") id=(T,n))(bh:Wr (.type T) (.type T)=pure ZW)(t7:W0.contains id=ZS)(tM:(["__module__","__name__","__qualname__","__doc__","__annotations__"]:List ZU).contains name=ZS)(zy:P4 T "__getattribute__" ga)(zw:Vc table ga=Z7 XJ.«object.__getattribute__»)(OQ:∀x y,Sp ga ⟨[x,y],[]⟩)(zN:(Manifest.canonical ga !="object.__getattribute__")=ZS)(h:Q (.ref s.heap.objs.size) {s with heap:=s.heap.push (jX id a),toks:=s.toks+1}):ZK (model prog w) A (Sd (.ref a) name ZW) Q E s:=by have hT:∀tk,({s with toks:=tk}:Z6).TypeIs (.ref a) T:=λC=>aj o ho hc;refine Z8 (wpAny_mkText ?_);refine ZL ?_;refine Z8 (UQ (hT _) ?_);refine Z8 (Zu zy.lookup ?_);dsimp only;exists(if_neg (by refine bG (show onTheHeap (Zg T)=ZS from rfl) ?_;exact Ze));refine Z8 (Z5 ?_);refine Z8 (Wq (ZL ?_));unfold callGetattribute;exists(if_neg (by rw[show onTheHeap (XO ga)=ZS from rfl,Bool.and_false];exact Ze));refine Z8 (Zu (zy.bind _) ?_);refine YJ zy (hT _) zw (adM (s:={s with toks:=s.toks+1}) ho hc hd hnc fZ l0 tQ bh t7 tM (aj _ rfl ?_)) (OQ _ _);exact Zu (a:=ZB s.heap.objs.size) (by first|rfl|kernel_rfl) h
end
theorem aeB:Wr (.type "dict") (.type "module")=pure ZS:=by rw[XQ];kernel_rfl
section
variable{prog:YG}{w:ZD}{A:Zw}{E:Z3->Z6->Prop}{s:Z6}
theorem LY(a x y:Z3):(match V9 "dict.get"with|some su=>Sn "dict.get" {su with full:=toString (Vb "dict")++toString "."++toString (Vb "dict.get")} ⟨[a,x,y],[]⟩|none=>pure ())=pure ():=by kernel_rfl
theorem LZ(a x:Z3):(match V9 "set.__contains__"with|some su=>Sn "set.__contains__" {su with full:=toString (Vb "set")++toString "."++toString (Vb "set.__contains__")} ⟨[a,x],[]⟩|none=>pure ())=pure ():=by kernel_rfl
theorem aeF:Wr (.type "set") (.type "module")=pure ZS:=by rw[XQ];kernel_rfl
theorem DO{id T:String}{a:Z1}{rest:List Z3}{Q:Unit->Z6->Prop}{o:Zp}(ho:s.heap.get? a=Z7 o)(hc:o.cls=.type T)(hnc:(∃es k,o.data=.dict es k)\/∃es k t,o.data=.set es k t)(hm:Wr (.type T) (.type "module")=pure ZS)(hk:VR id=Z7 .method)(hv:VQ.contains id=ZS)(rF:(match V9 id with|some su=>Sn id {su with full:=toString (Vb T)++toString "."++toString (Vb id)} ⟨.ref a::rest,[]⟩|none=>pure ())=pure ())(h:Q () s):ZK (model prog w) A (UB id ⟨.ref a::rest,[]⟩) Q E s:=by have hT:s.TypeIs (.ref a) T:=aj o ho hc;unfold UB;cases e:V9 id with|none=>exact Z5 h;|some su=>
  replace rF:=e▸rF;dsimp only at rF⊢;exists hk;dsimp only;exists(if_neg (by decide));refine Z8 (WL hT hm ?_);exists hv;exists(if_neg (by decide));refine Z8 ?_;refine X5 (Q:=λb s'=>b=ZS/\s'=s) ?_ ?_ (λC C x=>x);·refine Z8 (So ho ?_);refine ZR hnc (λcy=>j4 cy λes k z=>?_) (λcx=>MK cx λes k t z=>?_)<;>rw[z]<;>exact Z5 ⟨rfl,rfl⟩
  ·rintro b s'⟨rfl,rfl⟩;exists if_neg Ze;refine Z8 (UQ hT ?_);exact Zu rF h
end
theorem aaC:VR "dict.get"=Z7 .method:=by first|decide+kernel|kernel_rfl
theorem aaD:VR "set.__contains__"=Z7 .method:=by first|decide+kernel|kernel_rfl
theorem afn:VQ.contains "dict.get"=ZS:=dk
theorem afo:VQ.contains "set.__contains__"=ZS:=dk
noncomputable section
section
variable{prog:YG}{w:ZD}{A:Zw}{E:Z3->Z6->Prop}{s:Z6}
theorem DI{id:String}{a b:Z1}{rest:List Z3}{bi:XJ}{Q:Z3->Z6->Prop}(hb:s.heap.get? b=Z7 (jX id a))(rM:plainId id=ZW)(zw:Vc table id=Z7 bi)(rF:∀Q':Unit->Z6->Prop,Q' () s->ZK (model prog w) A.in1 (UB id ⟨.ref a::rest,[]⟩) Q' E s)(h:ZK (model prog w) A.in1 (bi ⟨.ref a::rest,[]⟩) (λfin s'=>∃v,fin=.done (.ret v)/\Q v s') E s):ZK (model prog w) A (call (.ref b) rest) Q E s:=by refine XH (V2 ?_);refine Z8 (Tp hb ?_);show ZK _ _ (if(Zg "builtin_function_or_method"==Zg "method"||Zg "builtin_function_or_method"==Zg "builtin_function_or_method"||Zg "builtin_function_or_method"==Zg "method-wrapper")=ZW then _ else _) _ _ _;exists(if_pos (by decide));show ZK _ _ (if(Zg "builtin_function_or_method"!=Zg "method")=ZW then _ else _) _ _ _;exists(if_pos (by decide));refine Z8 (wm (rF _ ?_) (λC C x=>x));refine Z8 (Z5 (Z5 ⟨T4 rM _,VX zw ?_⟩));exists Wj rM _;exact wm h (λfin s' bH=>aR bH λv e q=>by exists e;exact q)
end
def DG(id:String)(self:AV):(Z1->Option Zp)->Z3->Prop:=λg v=>∃a sa,v=.ref a/\g a=Z7 (jX id sa)/\fz g (.ref sa) self
noncomputable def jy(id:String)(self:AV):AV:=.ext (DG id self)
theorem Lr{id:String}{self:AV}:qX (DG id self):=λg g' v hg bS=>fG bS λa sa e h1 h2=>eu a sa e (hg _ _ h1) (h2.mono hg)
section
variable{X:Fx}{ρ:Loc}{O O':af}{s s':Z6}{E:Z3->Z6->Prop}{k:AV->af->Prop}{K:Kn}{pos px cD:XY}
variable{κ:Type}[DecidableEq κ]{knd:KeyKind pw X.w κ}{dI:κ->AV}{aA:List (κ×AV)}
theorem yE{o:Zp}{bm:List (κ×Z3)}(h:o.IsDictOf knd bm):o.cls=.type "dict"/\o.dict=ZT/\∃es k,o.data=.dict es k:=by refine fG h ?_;clear h;intro es ep bT h3 C;refine f8 bT λh1 h2 C=>?_;exact⟨h1,h2,es,ep,h3⟩
theorem Et{id:String}{a:Z1}{self:AV}{tk:Nat}(F:Fr X ρ O s)(r:aX (ak X O) s.heap (.ref a) self)(h:k (jy id self) O):dY X ρ O s k (.ref s.heap.objs.size) {s with heap:=s.heap.push (jX id a),toks:=tk}:=by have g:=fX.push s (jX id a) tk;have r':aX (ak X O) (s.heap.push (jX id a)) (.ref a) self:=r.keeps λC C e=>ZX _ e;refine⟨_,O,F.grow g,g.nZ,.ext Lr (eu _ a rfl ?_ (fz.of r')),h⟩;unfold cv;exists if_neg F.fresh;exact Zy _ rfl
theorem Ev.dictGet{e:Zt}(h:Ev X ρ O e λa ag=>∃aA,DV knd ag a aA/\k (jy "dict.get" a) ag)(he:eval (.Attribute e (Z9 "get") pos) X.env=(do let o<-eval e X.env;Xk pos.atName;let r<-holding [o] (Sd o (Z9 "get") ZW);VD e o r;pure r)):Ev X ρ O (.Attribute e (Z9 "get") pos) k:=λE s F=>by refine Attribute_any_ (wm (h E s F) (λv aq z=>cr z λa ag aw aI a5 z=>aR z λaA hv hk=>?_)) he;obtain⟨ad,o,b6,n,ho,bm,hd,pr⟩:=aw.xF a5 hv;subst b6;refine f8 (yE hd) λh1 h2 h3=>?_;exact EX ho h1 h2 (.inl h3) abf S9 ac6 aeC aeX dk PySem.F.slot_dict_getattribute am_entry_dict_getattribute (λC C=>PySem.F.args_dict_getattribute_2 _ _) dk (.from aI (Et aw a5 hk))
theorem Ev.ad7{e:Zt}{w:ZD}(hw:w=X.w)(h:Ev X ρ O e λa ag=>∃S,a=eM w S/\k (jy "set.__contains__" a) ag)(he:eval (.Attribute e (Z9 "__contains__") pos) X.env=(do let o<-eval e X.env;Xk pos.atName;let r<-holding [o] (Sd o (Z9 "__contains__") ZW);VD e o r;pure r)):Ev X ρ O (.Attribute e (Z9 "__contains__") pos) k:=λE s F=>by refine Attribute_any_ (wm (h E s F) (λv aq z=>cr z λa ag aw aI a5 z=>aR z λS ea hk=>?_)) he;subst ea;have adV:=a5;cases a5.iX with|mk m p=>
  refine oD p ?_;clear p;intro ad o n b7 hg hn hs;subst b7;refine tf hs ?_;clear hs;intro cy es ep t h3 C;refine f8 cy λh1 h2 C=>?_;unfold cv at hg;split at hg;·cases hg
  ·exact EX hg h1 h2 (.inr (F6 _ _ _ h3)) abi afe ac8 QG aeY dk PySem.F.slot_set_getattribute PySem.F.entry_set_ga (λC C=>PySem.F.args_set_getattribute_2 _ _) dk (.from aI (Et aw adV hk))
end
end
noncomputable section
section
variable{M:Model}{A:Zw}{E:Z3->Z6->Prop}{s:Z6}
theorem LB{id:String}{pos:XY}{u sa:Z1}{args:List (Bool×SV Z3)}{Q:Z3->Z6->Prop}(rM:args.any (·.1)=ZS)(h:ZK M A (evalArgs (.ref u) ZW args []) (λx aq=>aq.heap.get? u=Z7 (jX id sa)/\ZK M A (call (.ref u) ([]++x.pos) x.kw) Q E aq) E s):ZK M A (Vd pos (.ref u) [] args []) Q E s:=by refine Z8 (ZL (wm h (λx aq aH=>Z8 (YW ?_))));refine aO aH ?_;clear aH;intro ho tz;exists rM;refine Z8 (m:=keeperOf (.ref u)) ?_;refine Z8 (Tp ho ?_);dsimp only[jX];exists(if_pos (by decide));refine Z5 ?_;exact Z8 (wm tz (λr aL hr=>Z8 (ZL (wpAny_point (Z5 hr)))))
theorem LA{id:String}{pos:XY}{u sa:Z1}{env:Rw}{e:Zt}{rest:List Zt}{Q:Z3->Z6->Prop}(h:ZK M A (spliced (Xb pos (Yt (e::rest) env))) (λvs aq=>aq.heap.get? u=Z7 (jX id sa)/\ZK M A (call (.ref u) vs) Q E aq) E s)(he:Yt (e::rest) env=(ZS,eval e env)::Yt rest env)(rM:(Xb pos (Yt rest env)).any (·.1)=ZS):ZK M A (Vd pos (.ref u) [] (Xb pos (Yt (e::rest) env)) []) Q E s:=by rw[he]at h⊢;refine LB (id:=id) (sa:=sa) (by show(ZS||(Xb pos (Yt rest env)).any (·.1))=ZS;exists rM;rfl) ?_;exact Ve h
end
section
variable{X:Fx}{ρ:Loc}{O O':af}{s s':Z6}{E:Z3->Z6->Prop}{k:AV->af->Prop}{K:Kn}{pos px cD:XY}
variable{κ:Type}[DecidableEq κ]{knd:KeyKind pw X.w κ}{dI:κ->AV}{aA:List (κ×AV)}
theorem Ls{prog:YG}{w:ZD}{A:Zw}{E:Z3->Z6->Prop}{s:Z6}{κ:Type}[DecidableEq κ]{knd:KeyKind prog w κ}{S:κ->Bool}{n:Nat}{x:κ}{a:Z1}{key:Z3}{Q:Z3->Z6->Prop}(je:knd.is x key=ZW)(qo:key.scannable=ZW)(hS:s.heap.SetOf knd a S n)(h:Q (.bool (S x)) {s with toks:=s.toks+1}):ZK (model prog w) A (XJ.«frozenset.__contains__» ⟨[.ref a,key],[]⟩) (λfin s'=>∃v,fin=.done (.ret v)/\Q v s') E s:=by
 unfold XJ.«frozenset.__contains__» UA;simp only[QY,bind_assoc];refine Z8 (Z5 ?_);try dsimp only
 refine Z8 (Z5 ?_);try dsimp only
 refine Z8 (Sm ?_);refine ZL ?_;refine Z8 (knd.pyHash je ?_);refine Z8 (wpAny_setFind_of (s:={s with toks:=s.toks+1}) je qo hS λr hr=>?_);refine Z5 ?_;exists hr;exact Z5 (aj _ rfl h)
theorem Ev.DH{kd gt}(ok:Ok X kd gt){f:ZU}{id:String}{self:AV}{e:Zt}{es:List Zt}(hs:(e::es).any dH=ZS)(hf:ρ.lookup f=Z7 (jy id self))(h:cC X ρ O (e::es) λl ag=>∀E s b sa vs,Fr X ρ ag s->s.heap.get? b=Z7 (jX id sa)->aX (ak X ag) s.heap (.ref sa) self->bb (ak X ag) s.heap vs l->ZK (model pw X.w) X.A (call (.ref b) vs) (dY X ρ ag s k) E s):Ev X ρ O (.Call (.Name f px) (e::es) [] pos) k:=λE s F=>by refine Yv (wm (Ev.aE (pos:=px) (k:=λa O'=>a=jy id self/\O'=O) ok hf ⟨rfl,rfl⟩ E s F) (λfv aq x=>?_));obtain⟨a,ag,aw,aI,a5,e1,e2⟩:=x;subst e1 e2;cases a5.iX with|mk m p=>
  have p':=p;refine fG p ?_;clear p;intro b sa bH hb rs;exists bH;have jG:∀{aM:af}{aL:Z6},aJ (ak X ag) aq.heap (ak X aM) aL.heap->aL.heap.get? b=Z7 (jX id sa):=λst=>by
   unfold cv at hb;split at hb;·cases hb
   ·rename_i hn;exact(st _ _ hn hb).2
  have ns:(Xb pos (Yt es X.env)).any (·.1)=ZS:=lq (by rw[YF,YM]at hs;exact hs.2);refine LA (id:=id) (sa:=sa) (wm (h E aq pos aw) (λvs aL bH=>j5 bH λl aM aS aY cK be=>⟨jG aY,?_⟩)) (kC hs) ns;exact wm (be E aL b sa vs aS (jG aY) (rs.up.move aY) cK) (λv cR x=>.from (aI.trans aY) x)
theorem Ev.Lw{kd gt}(ok:Ok X kd gt)(kf:ml knd dI){f:ZU}{self:AV}{cw eF:Zt}(hs:[cw,eF].any dH=ZS)(hf:ρ.lookup f=Z7 (jy "dict.get" self))(h:Ev X ρ O cw λa ag=>Ev X ρ ag eF λb aM=>∃x aA,a=dI x/\DV knd aM self aA/\k ((ce aA x).getD b) aM):Ev X ρ O (.Call (.Name f px) [cw,eF] [] pos) k:=by
 have wg:dH cw=ZS/\dH eF=ZS:=by simpa using hs
 refine Ev.DH ok hs hf (.cons wg.1 (h.mono λa ag z=>.cons wg.2 (z.mono λb aM z=>.nil ?_)));refine fG z ?_;clear z;intro x aA bT hD hk;exists bT;intro E s b sa vs F hb rs R;replace R:=R.i2;obtain⟨r1,r2⟩:=R;obtain⟨ad,o,e,n,ho,bm,hd,pr⟩:=F.xF rs hD;cases e;have za:s.heap.DictOf knd sa bm:=VZ.mpr (aj o ho hd);refine f8 (yE hd) λh1 h2 h3=>?_;refine DI hb Vr.plain Tn (λQ' q=>DO ho h1 (.inl h3) aeB aaC afn (LY _ _ _) q) ?_;show ZK _ _ (PySem.dictGet sa _>>=_) _ _ s;refine Z8 (wpAny_dictGet_of (kf.to _ _ _ _ r1) za.mapOf ?_);refine ZR (pr.at x) (λb5=>aO b5 λe1 e2=>?_) (λb6=>fG b6 λv a' e1 e2 rv=>?_);·exists e2;replace hk:=e1▸hk;exact Z8 (wpAny_missed_other n (Z5 (aj _ rfl (.done F (.tok _ _) r2 hk))))
 ·exists e2;replace hk:=e1▸hk;exact Z5 (aj _ rfl (.done F (.tok _ _) rv.up hk))
theorem Ev.vm{kd gt}(ok:Ok X kd gt){w:ZD}(hw:w=X.w){f:ZU}{S:ZU->Bool}{cw:Zt}(hs:[cw].any dH=ZS)(hf:ρ.lookup f=Z7 (jy "set.__contains__" (eM w S)))(h:Ev X ρ O cw λa ag=>∃x,a=.str x/\k (.bool (S x)) ag):Ev X ρ O (.Call (.Name f px) [cw] [] pos) k:=by
 subst hw;have wg:dH cw=ZS:=by simpa using hs
 refine Ev.DH ok hs hf (.cons wg (h.mono λa ag z=>.nil ?_));refine aR z ?_;clear z;intro x bJ hk;subst bJ;intro E s b sa vs F hb rs R;replace R:=R.i1;obtain⟨r1⟩:=R;cases rs.iX with|mk m p=>
  refine oD p ?_;clear p;intro ad o n e hg hn tV;cases e;unfold cv at hg;split at hg;·cases hg
  have qo:=tV.setOf hg hn;refine tf tV ?_;clear tV;intro b7 es ep t h3 C;refine f8 b7 λh1 h2 C=>?_;cases r1.iS;have je:=ph X.w x;have ck:∀(y:Z3)(Q':Unit->Z6->Prop),Q' () s->ZK (model pw X.w) X.A.in1 (UB "set.__contains__" ⟨[.ref sa,y],[]⟩) Q' E s:=λy Q' q=>DO (id:="set.__contains__") (T:="set") (rest:=[y]) hg h1 (.inr (F6 es ep t h3)) aeF aaD afo (LZ _ _) q;refine DI hb PySem.F.slot_set_contains.plain entry_set_contains (ck _) ?_;exact Ls (je _) rfl qo (.done F (.tok _ _) (.bool _) hk)
end
end
noncomputable section
noncomputable def mV(led:Bool):Zp:={cls:=.type "set",dict:=ZT,data:=.set #[] 0 (.fresh 0 0 led)}
section
variable{w:ZD}{A:Zw}{E:Z3->Z6->Prop}{s:Z6}
theorem aea{Q₁:Z3->Z6->Prop}(h:Q₁ (.ref s.heap.objs.size) {s with heap:=s.heap.push (mV (ji w))}):Vk (model pw w) A (.call (.builtin "set.__new__") ⟨[.type "set"],[]⟩) (wants Q₁ E) s:=by
 refine V2 ?_;show ZK _ A.in1 (do WK "set.__new__" ⟨[.type "set"],[]⟩;again (.builtin "set.__new__" ⟨[.type "set"],[]⟩)) _ _ s;refine Z8 (Zu F.newCall_set_0 (Z5 ⟨T4 QF _,VX F.entry_set_new ?_⟩));exists Wj QF _;refine Z8 (X5 (Q:=λr s'=>r=(Zg "set",[])/\s'=s) ?_ ?_ λC C x=>x);·have bh:=QG;obtain⟨hp,g,d,tk,os⟩:=s;wp_walk;exact⟨rfl,rfl⟩
 ·rintro r s'⟨rfl,rfl⟩;exact Z8 (Hp (Z5 h))
theorem Jb{Q:Z3->Z6->Prop}(h:Q (.ref s.heap.objs.size) {s with heap:=s.heap.push (mV (ji w))}):ZK (model pw w) A (call (.type "set") []) Q E s:=by
 refine j4 Wz.mro λc tl af0=>?_;have afZ:=Wz.made;have bh:=Wz.sub;refine XH (V2 ?_);refine Z5 ⟨Uz _ dk,VX F.entry_type_call ?_⟩;exists Around.under_plain (weight_type_call_type "set" [] []) rfl;have h1:=Wz.notType;have h2:=Wz.canCreate;have hct:=F.typeCall_set_0;repeat(any_goals(first|assumption|wp_step))
 refine codeAny_mono (aea (E:=E) (Q₁:=λobj aq=>obj=.ref s.heap.objs.size/\aq={s with heap:=s.heap.push (mV (ji w))}) ⟨rfl,rfl⟩) λr aq hr=>?_;cases r with|error e=>exact hr;|ok fl=>cases fl with
 |ret obj=>
   refine aO hr ?_;clear hr;intro b5 b6;exists b5;exists b6;have hS:(s.heap.push (mV (ji w))).get? s.heap.objs.size=Z7 (mV (ji w)):=Zy _ rfl;have hT:T8 {s with heap:=s.heap.push (mV (ji w))} (.ref s.heap.objs.size) "set":=aj _ hS rfl;have hli:=Wz.init.lookup;have hbi:=Wz.init.bind (.ref s.heap.objs.size);repeat(any_goals(first|assumption|wp_step))
   refine codeAny_mono (WT (R:=wants (λr aL=>r=.none/\Q (.ref s.heap.objs.size) aL) E) Wz.init.plain F.entry_set_init (PySem.check_set_init hT ?_)) λcK aL wf=>?_;·wp_walk;exact⟨rfl,h⟩
   ·cases cK with|error e=>exact wf;|ok NG=>cases NG with|ret r=>refine aO wf ?_;clear wf;intro bJ hq;exists bJ;repeat(any_goals(first|assumption|wp_step));|_=>exact wf.elim
 |_=>exact hr.elim
end
end
noncomputable section
theorem aa4(t:WJ)(es:Array (Int×Z3))(h:Int)(x:Z3):(PO t es h x).2.1.led=t.led:=by
 unfold PO;split;·dsimp only;unfold RE;split<;>rfl
 ·rfl
theorem aa5(t:WJ)(es:Array (Int×Z3))(h:Int)(x:Z3)(hp:t.plain=ZS):(PO t es h x).2.1.plain=ZS:=by
 unfold PO;split
 ·dsimp only;unfold RE;split;·exact hp
  ·rfl
 ·rfl
theorem IQ{t t':WJ}{hs:Array Int}{n:Nat}{o:Array Nat}(h:t.relaid hs n=Z7 (t',o)):t'.led=t.led/\t'.plain=t.plain:=by unfold SetTable.relaid SetTable.laid at h;cases e:SetTable.layClean (SetTable.sizeAbove n-1) hs with|none=>replace h:=e▸h;cases h;|some owner=>replace h:=e▸h;cases h;exact⟨rfl,rfl⟩
theorem adt(t:WJ)(es:Array (Int×Z3))(n:Nat):(Uy t es n).2.1.led=t.led:=by
 unfold Uy;split
 ·rename_i h;dsimp only;split;·exact(IQ h).1
  ·rfl
 ·rfl
theorem adu(t:WJ)(es:Array (Int×Z3))(n:Nat)(hp:t.plain=ZS):(Uy t es n).2.1.plain=ZS:=by
 unfold Uy;split
 ·rename_i h;dsimp only;split;·(exists(IQ h).2;exact bG hp rfl)
  ·rfl
 ·rfl
noncomputable def iA(e:Int×Z3):ZU:=match e.2 with
 |.str x _=>x|_=>XZ
structure mn(w:ZD)(l:List ZU)(es:Array (Int×Z3))(t:WJ):Prop where
 el:ElemsOf (ZH pw w) es.toList
 perm:(es.toList.map iA).Perm l
 fits:t.fits es.size=true
 led:t.led=ji w
 pl:t.plain=false\/es.size=0
def sV(w:ZD)(l:List ZU)(o:Zp):Prop:=o.ExactSet/\∃es ep t,o.data=.set es ep t/\mn w l es t
theorem mn.key{w:ZD}{l:List ZU}{es:Array (Int×Z3)}{t:WJ}(h:mn w l es t){e:Int×Z3}(he:e∈es.toList):∃u,e.2=.str (iA e) u:=by refine aO (h.el e he) λb7 C=>?_;refine aR b7 λx hx C=>?_;refine br (UZ hx) λu hu=>?_;exact⟨u,by unfold iA;exact bG hu rfl⟩
theorem mn.size{w:ZD}{l:List ZU}{es:Array (Int×Z3)}{t:WJ}(h:mn w l es t):es.size=l.length:=by have:=h.perm.length_eq;rw[Z4,Y0]at this;exact this
theorem ad9(w:ZD):sV w [] (mV (ji w)):=⟨bM rfl rfl rfl,#[],0,_,rfl,⟨λe he=>by simp at he,.refl _,by rfl,rfl,.inr rfl⟩⟩
section
variable{w:ZD}{A:Zw}{E:Z3->Z6->Prop}{s:Z6}
theorem Js{a:Z1}{o:Zp}{es pZ:Array (Int×Z3)}{ep:Nat}{t t':WJ}{l:List ZU}{h:YQ}(ho:h.get? a=Z7 o)(hx:o.ExactSet)(hd:o.data=.set es ep t)(T:mn w l pZ t'):∃o',(h.update a (Qh pZ t')).get? a=Z7 o'/\o'.ExactSet/\o'.data=.set pZ (ep+1) t':=by refine cQ ({o with data:=.set pZ (ep+1) t'}) ?_ hx rfl;have:=YI (Qh pZ t') ho (by exists putSet_of pZ t' hd;rfl);replace this:=(putSet_of pZ t' hd)▸this;exact this
theorem ad8{a:Z1}{o:Zp}{l:List ZU}{x:ZU}{u:PG}{Q:Z3->Z6->Prop}(ho:s.heap.get? a=Z7 o)(hS:sV w l o)(hx:x∉l)(hz:l.length+1<4000)(h:∀h' o' tk,YL a s.heap h'->h'.get? a=Z7 o'->sV w (l++[x]) o'->Q .none {s with heap:=h',toks:=tk}):ZK (model pw w) A (call (.builtin "set.add") [.ref a,.str x u]) Q E s:=by
 refine tf hS ?_;clear hS;intro qg es ep t hd T;have aab:=T.size;have hb:es.size<TP:=by show es.size<4096;exact(ar 0x3 0x32187a047c44f16841c8601815e1) hz aab
 have je:(ZH pw w).is x (.str x u)=ZW:=ph w x u;have tH:=T.el;have hf:=T.fits;refine YJ Ri (aj o ho qg.1) F.entry_set_add ?_ (F.args_set_add_2 _ _);unfold XJ.«set.add» UA;simp only[QY,bind_assoc];refine Z8 (Z5 ?_);try dsimp only
 refine Z8 (Z5 ?_);try dsimp only
 refine Z8 ?_;refine ZL ?_;refine Z8 ((ZH pw w).pyHash je ?_);refine ZL (Z8 (Xi (s:={s with toks:=s.toks+1}) ho hd hf ?_));dsimp only;exists byScan_of rfl hb tH;simp only[↓reduceIte];refine Z8 ?_;refine Z8 (W4 ?_);refine Z8 (wpAny_setScan_of (s:={s with toks:=s.toks+1}) je ho hd hf tH ?_);have tN:es.toList.findIdx? (λe=>(ZH pw w).is x e.2)=ZT:=by
  rw[List.findIdx?_eq_none_iff];intro e he;by_cases q:(ZH pw w).is x e.2=ZW;·refine br (UZ q) λv hv=>?_;exact absurd (T.perm.mem_iff.mp (ZY.mpr (aj e he (by unfold iA;exact bG hv rfl)))) hx
  ·simpa using q
 exists tN;have rL:=layNew_perm t es ((ZH pw w).hash x) (.str x u);have vU:=layNew_fits t es ((ZH pw w).hash x) (.str x u);have rJ:=aa4 t es ((ZH pw w).hash x) (.str x u);have tR:=aa5 t es ((ZH pw w).hash x) (.str x u);generalize PO t es ((ZH pw w).hash x) (.str x u)=L at rL vU rJ tR⊢;obtain⟨fH,t1,afv,afX⟩:=L;dsimp only at rL vU rJ tR⊢;replace rL:=WU▸rL;have Ft:∀(b:Bool){aq:Z6}{Q':Unit->Z6->Prop}{A':Zw}{E':Z3->Z6->Prop},Q' () aq->ZK (model pw w) A' (match b with|true=>rule "set.scan.the-table-gave-way"|false=>pure ()) Q' E' aq:=λb aq Q' A' E' hq=>by cases b<;>first|exact Z5 hq|exact W4 hq
 refine Z8 (Ft _ ?_);have FJ:(fH.toList.map iA).Perm (l++[x]):=(rL.map iA).trans (by exists ZJ;exact T.perm.append (.refl _));have key:∀t2:WJ,t2.fits fH.size=ZW->t2.led=ji w->t2.plain=ZS->mn w (l++[x]) fH t2:=λt2 h1 h2 h3=>⟨(tH.push je rfl).perm rL,FJ,h1,h2,.inl h3⟩;have GL:fH.size<=Y8:=by have:=FJ.length_eq;rw[Z4,Y0,ZQ]at this;(exists Zs;exists this);simp;exact(aD 0x2 0x6430f408f889e1c822088220841e1) hz
 have tail:∀t2:WJ,mn w (l++[x]) fH t2->ZK (model pw w) A.in1 (do storeSet a fH t2;if(!afv&&t2.tooFull)=ZW then do(match(Uy t2 fH (W3 fH.size)).2.2 with|true=>rule "set.scan.the-table-gave-way"|false=>pure ());storeSet a (Uy t2 fH (W3 fH.size)).1 (Uy t2 fH (W3 fH.size)).2.1;pure (Z7 ZW);else pure (Z7 ZW)) (λr s'=>r=Z7 ZW/\∃h' o',s'={s with heap:=h',toks:=s.toks+1}/\YL a s.heap h'/\h'.get? a=Z7 o'/\sV w (l++[x]) o') E {s with toks:=s.toks+1}:=by
  intro t2 T2;refine Z8 (Ui (s:={s with toks:=s.toks+1}) ho hd ?_ GL);refine dE (Js ho qg hd T2) λo1 mB FV qf=>?_;have mS:=YV s.heap a (Qh fH t2);split
  ·refine Z8 (Ft _ ?_);have p3:=relayAll_perm t2 fH (W3 fH.size);have f3:=relayAll_fits t2 fH (W3 fH.size);have l3:=adt t2 fH (W3 fH.size);have q3:=adu t2 fH (W3 fH.size);generalize Uy t2 fH (W3 fH.size)=R at p3 f3 l3 q3⊢;obtain⟨yO,t3,g3⟩:=R;dsimp only at p3 f3 l3 q3⊢;have T3:mn w (l++[x]) yO t3:=by
    refine⟨T2.el.perm p3,(p3.map iA).trans T2.perm,f3,l3.trans T2.led,?_⟩;refine ZR T2.pl (λz=>?_) (λz=>?_);·exact .inl (q3 z)
    ·have:=T2.size;replace this:=z▸this;simp at this
   have lt3:yO.size<=Y8:=by(exists Zz (Y0);exists p3.length_eq;exists Y0);exact GL
   refine Z8 (Ui mB qf ?_ lt3);refine dE (Js mB FV qf T3) λo3 Pz hx3 zq=>?_;exact Z5 ⟨rfl,_,o3,rfl,mS.trans (YV _ a _),Pz,hx3,yO,_,t3,zq,T3⟩
  ·exact Z5 ⟨rfl,_,o1,rfl,mS,mB,FV,fH,_,t2,qf,T2⟩
 by_cases zR:t1.plain=ZW;·exists if_pos zR;refine Z8 ?_;exists hashByValue_scannable 8 rfl;refine Z5 ?_;simp only[show plainKind (.str x u)=ZS from rfl,YK,if_false];exact wm (tail _ (key _ (SetTable.fits_plain_off vU) (rJ.trans T.led) rfl)) (λr s' cy=>Eg cy λe h' o' e2 h1 h2 h3=>by subst e e2;exact Z5 (Z5 (aj _ rfl (h h' o' _ h1 h2 h3))))
 ·exists if_neg zR;refine Z8 (Z5 ?_);simp only[if_true];exact wm (tail _ (key _ vU (rJ.trans T.led) (by simpa using zR))) (λr s' cx=>Eg cx λe h' o' e2 h1 h2 h3=>by subst e e2;exact Z5 (Z5 (aj _ rfl (h h' o' _ h1 h2 h3))))
end
end
noncomputable section
theorem Er{α:Type}{l:List α}:∀{i:Nat}(h:i<l.length),(l[i]::l.eraseIdx i).Perm l:=by induction l with|nil=>intro i h;cases h;|cons x l ih=>intro i h;cases i with|zero=>exact .refl _;|succ i=>exact((Ux x _ _)).trans ((ih (Nat.lt_of_succ_lt_succ h)).cons x)
theorem Cj:P4 "set_iterator" (Z9 "__next__") "set_iterator.__next__":=.of (owner:="set_iterator") (n:="__next__") (by rw[Y5,Zq];kernel_rfl) dk dk dk (by first|exact .inl dk|exact .inr dk) (by rw[XQ];kernel_rfl)
theorem MR:Vc table "set_iterator.__next__"=Z7 XJ.«set_iterator.__next__»:=WM (by kernel_rfl)
theorem Km(a:Z3):Sp "set_iterator.__next__" ⟨[a],[]⟩:=by unfold Sp;kernel_rfl
theorem MQ:Vc table "set.__iter__"=Z7 XJ.«frozenset.__iter__»:=entryFor_alias (id':="frozenset.__iter__") (by kernel_rfl) rfl dk (by kernel_rfl)
noncomputable def lD(f:Z3)(p:Z1)(i n ep:Nat):Zp:={cls:=.type "set_iterator",dict:=ZT,data:=.fields #[f,Yc (i:Int),.ref p,Yc (n:Int),Yc (ep:Int)],slots:=#[]}
section
variable{M:Model}{A:Zw}{E:Z3->Z6->Prop}{s:Z6}
theorem LX{src:Source}{n:Nat}{Q:Nat->Z6->Prop}(hn:n≠0)(h:∀i d,i<n->Q i {s with drawn:=d}):ZK M A (choose src n) Q E s:=λC C C=>⟨hn,h _ _ (UL _ ((aD 0x22 0x1ed05e1c842f) hn))⟩
theorem My{α:Type}(n:Nat):∀(xs:List α){s:Z6}{Q:List α->Z6->Prop},xs.length<=n->(∀ys d,ys.Perm xs->Q ys {s with drawn:=d})->ZK M A (drawOrder n xs) Q E s:=by induction n with
 |zero=>intro xs s Q hz h;cases xs with|nil=>exact Z5 (h [] s.drawn (.refl _));|cons x xs=>cases hz
 |succ n ih=>intro xs s Q hz h;cases xs with|nil=>exact Z5 (h [] s.drawn (.refl _));|cons x xs=>
  refine Z8 (LX (by simp) λi d hi=>?_);have e:(x::xs)[i]?=Z7 (x::xs)[i]:=Z0 hi;exists e;have hl:((x::xs).eraseIdx i).length<=n:=by exists Uw hi;simp at hz⊢;exact(ar 0x2 0x3020e041) hz
  refine Z8 (ih ((x::xs).eraseIdx i) hl λys d' hp=>Z5 ?_);exact h _ d' ((hp.cons _).trans (Er hi))
theorem ada{α:Type}(next:Nat->Nat):∀(left:List α)(k:Nat)(out:Array α),(Rh next left.length k left out).toList.Perm (out.toList++left):=by intro left;generalize hn:left.length=n;induction n generalizing left with
 |zero=>
  intro k out;have:left=[]:=by simpa using hn
  exists this;show out.toList.Perm (out.toList++[]);rw[ZA];|succ n ih=>
  intro k out;have bC:next k%left.length<left.length:=UL _ ((ar 0x43 0x35113c41c842f) hn);have e0:Rh next (n+1) k left out=match left[next k%left.length]? with|some x=>Rh next n (k+1) (left.eraseIdx (next k%left.length)) (out.push x)|none=>out:=rfl;exists e0;exists Z0 bC;have hl:(left.eraseIdx (next k%left.length)).length=n:=by exists Uw bC;exact(ar 0x43 0xd444f10742909e1) hn
  refine(ih _ hl (k+1) (out.push left[next k%left.length])).trans ?_;rw[WU,Zm];exact(Er bC).append_left _
theorem IB{α:Type}(next:Nat->Nat)(xs:Array α):(Sa next xs).toList.Perm xs.toList:=by unfold Sa;have:=ada next xs.toList 0 #[];rw[Y0]at this;simpa using this
theorem IM{α:Type}{Q:α->Z6->Prop}(hh:A.handled=ZT)(h:∀h' e,(∀b o,s.heap.get? b=Z7 o->h'.get? b=Z7 o)->(∃o,h'.get? e=Z7 o/\o.cls=.type "StopIteration")->E (.ref e) {s with heap:=h'}):ZK M A (do raiseNew (<-newExc (.type "StopIteration") []):SV α) Q E s:=by refine Z8 ?_;refine Z8 (XU ?_ (by size_fits));refine Z8 (m:=Uv _ _) (Zu (a:=Yr) (by first|rfl|(simp only[Uv];rfl)) ?_);refine XU ?_ (by size_fits);refine Z8 (wpAny_handled ?_);exists hh;refine Z8 (Z5 (wpAny_throw ?_));exact h _ _ (λb o e=>ZX _ (ZX _ e)) (aj _ (Zy _ rfl) rfl)
end
section
variable{w:ZD}{A:Zw}{E:Z3->Z6->Prop}{s:Z6}
theorem aeh{am p:Z1}{f:Z3}{i n ep:Nat}{od:Zp}{es:Array (Int×Z3)}{t:WJ}{Q:Option Z3->Z6->Prop}(hh:A.handled=ZT)(hI:s.heap.get? am=Z7 (lD f p i n ep))(ho:s.heap.get? p=Z7 od)(hd:od.data=.set es ep t)(hf:t.fits es.size=ZW)(hn:es.size=n)(slot:∀m:Nat,f=Yc (m:Int)->ZK (model pw w) A.in1 (PN p m i ep) (λr s'=>s'=s/\match r with
 |some (x,next)=>∀h',h'.get? am=Z7 (lD (Yc (next:Int)) p (i+1) n ep)->YL am s.heap h'->Q (Z7 x) {s with heap:=h'}|none=>∀h',(∀b o,b≠am->s.heap.get? b=Z7 o->h'.get? b=Z7 o)->Q ZT {s with heap:=h'}) (λC C=>False) s)(tW:(∃m:Nat,f=Yc (m:Int))\/∃T,f=.ref T)(draw:∀T,f=.ref T->∃ob k pl,s.heap.get? T=Z7 ob/\ob.data=.seq pl k/\((∃j:Nat,pl[i]?=Z7 (Yc (j:Int))/\∃x,es[j]?=Z7 x/\∀h',h'.get? am=Z7 (lD f p (i+1) n ep)->YL am s.heap h'->Q (Z7 x.2) {s with heap:=h'})\/(pl[i]?=ZT/\∀h',(∀b o,b≠am->s.heap.get? b=Z7 o->h'.get? b=Z7 o)->Q ZT {s with heap:=h'}))):ZK (model pw w) A (VU (.ref am)) Q E s:=by
 have hT:s.TypeIs (.ref am) "set_iterator":=aj _ hI rfl;refine Z8 (Wq (Yz (name:=Z9 "__next__") hT Cj (YJ Cj hT MR ?_ (Km _))));refine Z8 (Zu (a:=(ZB am,[])) (by first|rfl|kernel_rfl) ?_);refine Z8 (wpAny_fieldsOf hI rfl ?_);refine Z8 (R3 ho hd hf ?_);exists(if_neg (by refine bG hn ?_;simp));have stop:∀(h1:YQ),(∀b o,b≠am->s.heap.get? b=Z7 o->h1.get? b=Z7 o)->(∀h',(∀b o,b≠am->s.heap.get? b=Z7 o->h'.get? b=Z7 o)->Q ZT {s with heap:=h'})->∀(Qf:Xw->Z6->Prop),ZK (model pw w) A.in1 (do raiseNew (<-newExc (.type "StopIteration") []):SV Xw) Qf (λe s'=>ZK (model pw w) A (do if<-Qg e (.type "StopIteration")then pure ZT else throw e) Q E s') {s with heap:=h1}:=by intro h1 hk hQ Qf;refine IM (A:=A.in1) hh λh' e cP bH=>aR bH λoe cN gO=>?_;refine Z8 (WL (T:="StopIteration") (b:=ZW) (aj oe cN gO) Uu ?_);exact Z5 (hQ h' λb o hb e=>cP b o (hk b o hb e))
 have upd:∀{h:YQ}{vs:Array Z3}(j:Nat)(x:Z3){R:Unit->Z6->Prop}{E':Z3->Z6->Prop},h.get? am=Z7 {cls:=.type "set_iterator",dict:=ZT,data:=.fields vs,slots:=#[]}->j<vs.size->(∀h',h'.get? am=Z7 {cls:=.type "set_iterator",dict:=ZT,data:=.fields (vs.setIfInBounds j x),slots:=#[]}->YL am h h'->R () {s with heap:=h'})->ZK (model pw w) A.in1 (setField (.ref am) j x) R E' {s with heap:=h}:=λj x R E' e hj hR=>wpAny_setField_rec (s:={s with heap:=_}) e hj hR;rcases tW with⟨m,rfl⟩|⟨T,rfl⟩;·refine Z8 (X5 (slot m rfl) ?_ λC C x=>x.elim);rintro r s'⟨q,hr⟩;cases q.symm;cases r with|some xn=>obtain⟨x,next⟩:=xn;dsimp only at hr⊢;refine Z8 (upd 0 _ hI (by simp) λh1 e1 mS=>?_);refine Z8 (upd 1 _ e1 (by simp) λh2 e2 uF=>?_);refine Z5 (aj _ rfl (Z5 (hr h2 ?_ (mS.trans uF))));exists e2;simp[lD,Yc];|none=>dsimp only at hr⊢;refine Z8 (upd 2 _ hI (by simp) λh1 e1 mS=>?_);exact stop h1 (λb o hb e=>(mS.2 b hb).trans e) hr _
 ·obtain⟨ob,k,pl,mC,zs,Pf⟩:=draw T rfl;refine Z8 (Xq mC zs ?_);dsimp only;refine ZR Pf (λbT=>MI bT λj hj x hx hQ=>?_) (λb5=>aO b5 λhj hQ=>?_);·exists(show((i:Int)).toNat=i from Y6 i);exists hj;refine Z8 ?_;refine Z8 (Xi ho hd hf ?_);dsimp only;rw[if_neg (by simp),Y6,hx];refine Z5 ?_;refine Z8 (upd 1 _ hI (by simp) λh1 e1 mS=>?_);refine Z5 (aj _ rfl (Z5 (hQ h1 ?_ mS)));exists e1;simp[lD,Yc]
  ·exists(show((i:Int)).toNat=i from Y6 i);exists hj;refine Z8 (upd 0 _ hI (by simp) λh1 e1 mS=>?_);refine Z8 (upd 2 _ e1 (by simp) λh2 e2 uF=>?_);exact stop h2 (λb o hb e=>((mS.trans uF).2 b hb).trans e) hQ _
end
end
noncomputable section
def f0(od:Zp)(P:(Z1->Option Zp)->Zp->Prop):(Z1->Option Zp)->Zp->Prop:=λg o=>o=od/\P g o
def vb(P:(Z1->Option Zp)->Zp->Prop):Prop:=∀g g' o,(∀a o,g a=Z7 o->g' a=Z7 o)->P g o->P g' o
theorem IC{od:Zp}{P:(Z1->Option Zp)->Zp->Prop}(h:vb P):vb (f0 od P):=λg g' o hg cy=>aO cy λe q=>⟨e,h g g' o hg q⟩
section
variable{X:Fx}{ρ:Loc}{O O':af}{s s':Z6}{E:Z3->Z6->Prop}{hs hs':List (Z1×Zp)}{K:Kn}{pos px:XY}
theorem Fr.pin(F:Fr X ρ O s){p:Z1}{P:(Z1->Option Zp)->Zp->Prop}(hm:(p,aQ.ext P)∈O):∃od,s.heap.get? p=Z7 od/\P (cv (ak X O) s.heap) od/\Fr X ρ (bp O p (.ext (f0 od P))) s/\aJ (ak X O) s.heap (ak X (bp O p (.ext (f0 od P)))) s.heap:=by obtain⟨C,C,C,C,od,ho,zK,hP⟩:=F.own _ hm;refine fe od ho hP (F.upd (tk:=s.toks) (ao:=.ext (f0 od P)) hm (λb o C e=>e) ho (bM (IC zK) rfl hP)) (F.iF (ao:=.ext (f0 od P)) hm λb o C e=>e)
def dQ(w:ZD)(l:List ZU):(Z1->Option Zp)->Zp->Prop:=λC o=>sV w l o
theorem Ce{w:ZD}{l:List ZU}:vb (dQ w l):=λC C C C h=>h
theorem B0{O:af}{p:Z1}{ao Kj:aQ}(h:(p,Kj)∈O):(p,ao)∈bp O p ao:=ZY.mpr (aj _ h (if_pos rfl))
def yc(wK:Z3)(r:Option (Z3×Nat)):Option ZU->Prop
 |some x=>∃u next,r=Z7 (.str x u,next)/\wK=Yc (next:Int)|none=>r=ZT
def PickAt(es:Array (Int×Z3))(q:Option Z3):Option ZU->Prop
 |some x=>∃(j:Nat)(u:PG)(h:Int),q=Z7 (Yc (j:Int))/\es[j]?=Z7 (h,.str x u)|none=>q=ZT
inductive sQ(es:Array (Int×Z3))(D:List Z1)(h:YQ)(T:Z1)(i:Nat)(o:Option ZU):Prop|mk(ob:Zp)(k:Nat)(pl:Array Z3)(h1:h.get? T=some ob)(h2:T∉D)(h3:ob.data=.seq pl k)(h4:PickAt es pl[i]? o)
theorem aeM{w:ZD}(hw:w=X.w){l:List ZU}{p am:Z1}{es:Array (Int×Z3)}{ep:Nat}{t:WJ}{od:Zp}{b9:List Z1}{be:YQ}{tg:Zt}(hd:od.data=.set es ep t)(T:mn w l es t)(cJ:List ZU)(f:Nat->Z3)(tW:∀i,(∃m:Nat,f i=Yc (m:Int))\/∃T,f i=.ref T)(Ci:∀i(m:Nat)(s:Z6)(A:Zw)E,f i=Yc (m:Int)->s.heap.get? p=Z7 od->ZK (model pw X.w) A (PN p m i ep) (λr s'=>s'=s/\yc (f (i+1)) r cJ[i]?) E s)(yG:∀i T,f i=.ref T->f (i+1)=.ref T/\sQ es b9 be T i cJ[i]?):pR X b9 be tg (.ref am) (cJ.map AV.str) (λO=>(p,aQ.ext (f0 od (dQ w l)))∈O) (λi hs=>hs=[(am,lD (f i) p i es.size ep)]):=by
 have step:∀i hs ρ O s(Q:Option Z3->Z6->Prop)(E:Z3->Z6->Prop),hs=[(am,lD (f i) p i es.size ep)]->(p,aQ.ext (f0 od (dQ w l)))∈O->Fr X ρ (bf hs++O) s->aJ b9 be (ak X (bf hs++O)) s.heap->(∀x u h',cJ[i]?=Z7 x->h'.get? am=Z7 (lD (f (i+1)) p (i+1) es.size ep)->YL am s.heap h'->Q (Z7 (.str x u)) {s with heap:=h'})->(∀h',cJ[i]?=ZT->(∀b o,b≠am->s.heap.get? b=Z7 o->h'.get? b=Z7 o)->Q ZT {s with heap:=h'})->ZK (model pw X.w) X.A (VU (.ref am)) Q E s:=by
  rintro i hs ρ O s Q E rfl hm F st h1 h2;have hI:s.heap.get? am=Z7 (lD (f i) p i es.size ep):=F.nz (.head _);refine dE (F.oK (Zl _ hm)) λo ho e C=>?_;subst e;refine aeh (w:=X.w) X.hh hI ho hd T.fits rfl (λm Pb=>?_) (tW i) (λT' Fm=>?_);·refine wm (Ci i m s X.A.in1 (λC C=>False) Pb ho) ?_;rintro r s'⟨q,hr⟩;cases q.symm;refine⟨rfl,?_⟩;cases e:cJ[i]? with|some x=>replace hr:=e▸hr;refine iu hr ?_;clear hr;intro u next cx hn;subst cx;intro h' e' sb;exact h1 x u h' e (by exists hn;exact e') sb;|none=>replace hr:=e▸hr;have hr:r=ZT:=hr;subst hr;exactλh' hk=>h2 h' e hk
  ·obtain⟨Py,ob,k,pl,mC,gQ,zs,hz⟩:=yG i T' Fm;refine wk ob k pl ((st _ _ gQ mC).2) zs ?_;cases e:cJ[i]? with|some x=>replace hz:=e▸hz;refine rn hz ?_;clear hz;intro j u hh hj hx;exact .inl (F5 j hj _ hx (λh' e' sb=>h1 x u h' e (by(exists Py;exists Zz (Fm));exact e') sb));|none=>replace hz:=e▸hz;exact .inr ⟨hz,λh' hk=>h2 h' e hk⟩
 refine⟨λi av hs ρ O s Q E aN hI hm F st hQ=>?_,λhs ρ O s Q E hI hm F st hQ=>?_⟩;·replace aN:=ZN▸aN;refine step i hs ρ O s Q E hI hm F st (λx u h' hx e' sb=>?_) (λh' hx hk=>by replace aN:=hx▸aN;cases aN);replace aN:=hx▸aN;cases aN;refine hQ _ _ λQ2 E2 qc=>?_;refine Aq (s:={s with heap:=h'}) e' rfl rfl (by decide) ?_;subst hI;have RH:=F.mQ (s':={s with heap:=h'}) (hs':=[(am,lD (f (i+1)) p (i+1) es.size ep)]) (λb o hb e=>(sb.2 b (by simpa using hb)).trans e) (λq hq=>by exists Zv.mp hq;exact e') (λa ha=>.inl (by simpa using ha)) (by simp) F.gens rfl;exact qc _ _ rfl RH.1 RH.2 (.str _ _)
 ·refine step (cJ.map AV.str).length hs ρ O s Q E hI hm F st (λx u h' hx C C=>by rw[Z4]at hx;simp at hx) (λh' C hk=>?_);subst hI;have:=F.n8 (s':={s with heap:=h'}) (λb o hb e=>hk b o (by simpa using hb) e) F.gens rfl;exact hQ _ this.1 this.2
end
end
noncomputable section
section
variable{X:Fx}{ρ:Loc}{O O':af}{s s':Z6}{E:Z3->Z6->Prop}{K:Kn}{pos px:XY}
theorem sQ.move{es:Array (Int×Z3)}{D D':List Z1}{h h':YQ}{T:Z1}{i:Nat}{o:Option ZU}(x:sQ es D h T i o)(st:aJ D h D' h'):sQ es D' h' T i o:=by obtain⟨ob,k,pl,h1,h2,h3,h4⟩:=x;exact⟨ob,k,pl,(st _ _ h2 h1).2,(st _ _ h2 h1).1,h3,h4⟩
theorem d0.set{w:ZD}(hw:w=X.w){tg e:Zt}{k:List AV->af->(af->Prop)->Prop}(h:Ev X ρ O e λa ag=>∃p l,a=.ref p/\l.length<4000/\(p,aQ.ext (dQ w l))∈ag/\∀(od:Zp)(cJ:List ZU),cJ.Perm l->k (cJ.map AV.str) (bp ag p (.ext (f0 od (dQ w l)))) (λO=>(p,aQ.ext (f0 od (dQ w l)))∈O)):d0 X ρ O tg e k:=λE s F=>by
 subst hw;refine wm (h E s F) (λv aq z=>cr z λa ag aw aI a5 z=>th z λp l ea hz hm hk=>?_);subst ea;cases a5.iR;refine gM (aw.pin hm) λod ho bJ aS aY=>?_;refine tf bJ λqg es ep t hd T=>?_;have hT:aq.TypeIs (.ref p) "set":=aj od ho qg.1;refine Rg hT S8 (YJ S8 hT MQ ?_ (PySem.F.args_set_iter_1 _));refine Z8 (Zu (a:=p) (by first|rfl|kernel_rfl) ?_);refine Z8 (Z8 (R3 ho hd T.fits (Z5 ?_)));refine Z8 ?_;refine Z8 (Xi ho hd T.fits ?_);dsimp only;refine Z8 (Z8 (XG (Z5 ?_)));refine Z5 ?_;show ZK _ _ (if(!(X.w.params.followText "set-order")&&(!t.plain&&decide (es.size>1)))=ZW then _ else _) _ _ _;have fin:∀(f:Nat->Z3)(cJ:List ZU)(aL:Z6)(E':Z3->Z6->Prop),cJ.Perm l->(∀i,(∃m:Nat,f i=Yc (m:Int))\/∃T,f i=.ref T)->(∀i(m:Nat)(s:Z6)(A:Zw)E,f i=Yc (m:Int)->s.heap.get? p=Z7 od->ZK (model pw X.w) A (PN p m i ep) (λr s'=>s'=s/\yc (f (i+1)) r cJ[i]?) E s)->(∀i T,f i=.ref T->f (i+1)=.ref T/\sQ es (ak X ag) aL.heap T i cJ[i]?)->Fr X ρ ag aL->aJ (ak X ag) aq.heap (ak X ag) aL.heap->aL.heap.get? p=Z7 od->ZK (model pw X.w) X.A.in1 (do let e<-setEpoch p;let x<-newFields "set_iterator" [f 0,Yc 0,.ref p,Yc (es.size:Int),Yc (e:Int)];ret x) (λfin s'=>∃v,fin=.done (.ret v)/\∃T' r,T8 s' v T'/\Ym (.type T') (Z9 "__next__")=pure (Z7 r)/\yd X ρ O s tg k v s') E' aL:=by
  intro f cJ aL E' qm tW Ci yG eV gG FI;refine Z8 (wpAny_setEpoch_of FI hd T.fits ?_);simp only[newFields];refine Z8 (XU ?_ (by size_fits));refine Z5 (Ac _ rfl ("set_iterator") _ (aj _ (Zy _ rfl) rfl) Cj.lookup ?_);have gJ:Fr X ρ (bp ag p (.ext (f0 od (dQ X.w l)))) aL:=eV.upd (tk:=aL.toks) (ao:=.ext (f0 od (dQ X.w l))) hm (λb o C e=>e) FI ⟨IC Ce,rfl,qg,es,ep,t,hd,T⟩;have JZ:Fr X ρ (bf []++bp ag p (.ext (f0 od (dQ X.w l)))) aL:=gJ;have RH:=JZ.mQ (s':={aL with heap:=aL.heap.push (lD (f 0) p 0 es.size ep)}) (hs':=[(aL.heap.objs.size,lD (f 0) p 0 es.size ep)]) (λb o C e=>ZX _ e) (λq hq=>by exists Zv.mp hq;exact Zy _ rfl) (λa ha=>by simp only[Z2,YS,Zv]at ha;subst ha;exact .inr (fY _)) (by simp) eV.gens rfl;have kD:=eV.iF (ao:=.ext (f0 od (dQ X.w l))) (h':=aL.heap) hm λb o C e=>e;refine⟨_,_,_,_,_,aeM rfl hd T cJ f tW Ci (λi T' hf=>?_),rfl,RH.1,((aI.trans gG).trans kD).trans RH.2,hk od cJ qm⟩;refine aO (yG i T' hf) λa1 x=>?_;exact⟨a1,x.move (kD.trans RH.2)⟩
 have Gg:∀(j:Nat)(hj:j<es.size),∃u,es[j]?=Z7 (es[j].1,.str (iA es[j]) u):=λj hj=>by refine br (T.key (e:=es[j]) (by simp)) λu hu=>?_;exact⟨u,by exists Yg hj;exact congrArg Z7 (Prod.ext rfl hu)⟩
 by_cases tx:X.w.params.followText "set-order"=ZW
 ·exists tx;simp only[P2,Qe,YK,if_false];refine Z8 (Z5 ?_);refine fin (λC=>Yc ((0:Nat):Int)) ((Sa (X.w.params.setOrder p ep) es).toList.map iA) aq _ ?_ (λi=>.inl ⟨0,rfl⟩) (λi m s' A CU oY cN=>?_) (λi T' h=>nomatch h) aw (.refl _ _) ho;·exact((IB _ _).map iA).trans T.perm
  ·unfold PN;refine Z8 (Xi cN hd T.fits ?_);dsimp only;refine Z8 (Z8 (XG (Z5 ?_)));show ZK _ _ (if X.w.params.followText "set-order"=ZW then _ else _) _ _ _;exists(if_pos (show X.w.params.followText "set-order"=ZW from tx));exists(if_neg (by simp));refine Z8 ?_;refine Z8 (Xi cN hd T.fits ?_);dsimp only;refine Z8 (Z8 (XG (Z5 ?_)));show ZK _ _ (if X.w.params.followText "set-order"=ZW then _ else _) _ _ _;exists(if_pos (show X.w.params.followText "set-order"=ZW from tx));refine Z8 (XG (Z5 ?_));refine Z5 ⟨rfl,?_⟩;show yc _ ((Sa (X.w.params.setOrder p ep) es)[i]?.map λe=>(e.2,m)) _;exists ZN;exists Wo;cases e:(Sa (X.w.params.setOrder p ep) es)[i]? with|none=>rfl;|some x=>
    have iP:x∈es.toList:=(IB _ _).mem_iff.mp (SD.mpr (S7 e));refine br (T.key iP) λu hu=>?_;have mA:m=0:=by
     have:((0:Nat):Int)=(m:Int):=by injection oY
     exact(aD 0x2 0x1d0d82fd05e1) this
    exact dT u m (by simp[hu]) (by exact bG mA rfl)
 ·have Fh:X.w.params.followText "set-order"=ZS:=by simpa using tx
  have rJ:t.led=ZW:=by exists T.led;unfold ji;exists Fh;rfl
  exists Fh;simp only[SE,RR];by_cases jH:(!t.plain&&decide (es.size>1))=ZW
  ·exists if_pos jH;refine Z8 (My es.size (Zh es.size) (by simp) λys d hp=>?_);have dG:ys.length=es.size:=by exists hp.length_eq;exact bG Xj rfl
   have bC:∀j∈ys,j<es.size:=λj hj=>X4.mp (hp.mem_iff.mp hj);refine Z8 (UG ?_ (by show(ys.map λ(i:Nat)=>Yc (i:Int)).length<=_;rw[Z4,dG,T.size,Zs];exact(aD 0x2 0xc861e811e1c060180601845e1) hz));have Fd:Fr X ρ ag {aq with drawn:=d}:=⟨aw.keep,aw.gens,aw.os,aw.vars,aw.held,aw.own,aw.nd⟩;have g:=fX.push {aq with drawn:=d} ⟨.type "tuple",ZT,.seq (ys.map λ(i:Nat)=>Yc (i:Int)).toArray 0,#[]⟩ aq.toks;refine fin (λC=>.ref aq.heap.objs.size) (ys.map λj=>iA (es.getD j (0,.none))) _ _ ?_ (λi=>.inr ⟨_,rfl⟩) (λi m s' A CU oY=>nomatch oY) (λi T' zf=>?_) (Fd.grow g) g.nZ (ZX _ ho)
   ·have e1:(Zh es.size).map (λj=>iA (es.getD j (0,.none)))=es.toList.map iA:=by
     apply VN;intro i;exists ZN;exists ZN;by_cases hi:i<es.size
     ·have e2:es.toList[i]?=Z7 es[i]:=by simp[hi]
      have e3:es.getD i (0,Yr)=es[i]:=by simp[Ut,hi]
      exists WQ hi;exists e2;show Z7 (iA (es.getD i (0,Yr)))=_;exists e3;rfl
     ·have e2:es.toList[i]?=ZT:=by simp;exact(ar 0x2 0x7b2116041) hi
      exists(W1 (by simpa using hi));exists e2;rfl
    have:=hp.map λj=>iA (es.getD j (0,.none));rw[e1]at this;exact this.trans T.perm
   ·injection zf with zf;subst zf;refine⟨rfl,_,0,_,Zy _ rfl,aw.fresh,rfl,?_⟩;exists ZN;cases e:ys[i]? with|none=>show PickAt _ (TH _ ys).toArray[i]? ZT;exists List.getElem?_toArray;exists ZN;exists e;trivial;|some j=>
     have hj:=bC j (YN e);refine br (Gg j hj) λu hu=>?_;refine pf j u (es[j].1) (by simp[e]) ?_;have:es.getD j (0,Yr)=es[j]:=by simp[Ut,hj]
     show es[j]?=Z7 (es[j].1,.str (iA (es.getD j (0,Yr))) u);exists this;exact hu
  ·exists if_neg jH;have h1:es.size<=1:=by
    refine ZR T.pl (λz=>?_) (λz=>?_);·rw[z]at jH;simpa using jH
    ·exact(aD 0x2 0xd05e1c09e1) z
   refine Z8 (Z5 ?_);have o4:t.place.size=es.size:=by have:=T.fits;simp only[SetTable.fits,Yo,beq_iff_eq]at this;exact this.1
   refine fin (λi=>Yc ((if i=0 then 0 else t.place.getD 0 0+1:Nat):Int)) (es.toList.map iA) aq _ T.perm (λi=>.inl ⟨_,rfl⟩) (λi m s' A CU oY cN=>?_) (λi T' h=>nomatch h) aw (.refl _ _) ho;have mA:m=(if i=0 then 0 else t.place.getD 0 0+1):=by
    have:(((if i=0 then 0 else t.place.getD 0 0+1:Nat):Nat):Int)=(m:Int):=by injection oY
    exact(ar 0x2 0x3a116841) this
   refine Z8 (Xi cN hd T.fits ?_);dsimp only;refine Z8 (Z8 (XG (Z5 ?_)));show ZK _ _ (if X.w.params.followText "set-order"=ZW then _ else _) _ _ _;exists(if_neg (show¬X.w.params.followText "set-order"=ZW from tx));show ZK _ _ (if(!t.plain&&decide (es.size>1))=ZW then _ else _) _ _ _;exists if_neg jH;show ZK _ _ (do(if(!t.led&&!es.isEmpty)=ZW then unsupported "set:maker-not-led"else pure ());_) _ _ _;rw[if_neg (by rw[rJ];simp)];refine Z8 (Z5 ?_);refine Z5 ⟨rfl,?_⟩;exists ZN;exists Wo;refine ZR (XK 0 es.size) (λlZ=>?_) (λFE=>?_)
   ·have af1:es.size=1:=(aD 0x2 0xc09e1c842fd09e1) h1 lZ;obtain⟨q,hq⟩:∃q,t.place=#[q]:=by have:t.place.size=1:=(ar 0x3 0x604f16841c882fd09e1) h1 o4 lZ;exact⟨t.place[0],by apply PV (by simp[this]);intro i h1 h2;simp at h2;subst h2;rfl⟩
    exists hq;rw[hq]at mA;by_cases hi:i=0;·subst hi;have mA:m=0:=mA;subst mA;have eb:Sl #[q] 0=0:=PF (b:=ite (q<0) 1 0) (by kernel_rfl) (if_neg (WX q));exists eb;refine br (Gg 0 ((aD 0x2 0xc842fc842f) lZ)) λu hu=>?_;exists hu;exact dT u (q+1) rfl rfl
    ·rw[if_neg hi]at mA;have mA:m=q+1:=mA;subst mA;have eb:Sl #[q] (q+1)=1:=PF (b:=ite (q<q+1) 1 0) (by kernel_rfl) (if_pos (Wh q));exists eb;exists(XD (by exact(ar 0x43 0xc09e1f682f16041) h1 hi:es.size<=i));exists(XD (by exact(aD 0x2 0xc09e1c09e1) h1:es.size<=1));rfl
   ·exists(XD (by exact(ar 0x43 0x602f0e041) FE:es.size<=i));exists(XD (by exact(ar 0x43 0x602f0e041) FE:es.size<=Sl t.place m));rfl
end
end
noncomputable section
section
variable{X:Fx}{ρ:Loc}{O O':af}{s s':Z6}{E:Z3->Z6->Prop}{k:AV->af->Prop}{K:Kn}{pos px cD:XY}
variable{κ:Type}[DecidableEq κ]{knd:KeyKind pw X.w κ}{dI:κ->AV}{aA:List (κ×AV)}
def om(X:Fx)(ρ:Loc)(O:af)(a:AV)(T:String):Prop:=∀s v,Fr X ρ O s->aX (ak X O) s.heap v a->s.TypeIs v T/\∀b,v=.ref b->∃ob,s.heap.get? b=Z7 ob/\ob.dict=ZT
theorem om.dict{a:AV}(h:DV knd O a aA):om X ρ O a "dict":=λs v F r=>by obtain⟨ad,o,cx,n,ho,bm,hd,pr⟩:=F.xF r h;exists cx;refine f8 (yE hd) λh1 h2 h3=>?_;exact⟨(aj o ho h1),λb e=>by cases e;exact aj o ho h2⟩
theorem om.set{p:Z1}{l:List ZU}{w:ZD}(h:(p,aQ.ext (dQ w l))∈O):om X ρ O (.ref p) "set":=λs v F r=>by cases r.iR;obtain⟨C,C,C,C,o,ho,C,⟨h1,h2,C⟩,C⟩:=F.own _ h;exact⟨(aj o ho h1),λb e=>by cases e;exact aj o ho h2⟩
theorem Ev.BU{o e:Zt}{es:List Zt}{T:String}{name:ZU}{id:String}(pl:PlainAttrs T)(slot:P4 T name id)(ty:T7 (.builtin id)=pure (.type "method_descriptor"))(nu:Vi o name X.env (eval o X.env)=eval o X.env)(zx:((Xb pos (Yt (e::es) X.env)).all (λx=>!x.1)&&(Qj pos (Sr [] X.env)).all (λx=>x.1.isSome)&&decide ((e::es).length+([]:List Rm).length+(if([]:List Rm).isEmpty then 0 else 1)<30))=ZW)(lW:(cD.endLine==pos.line)=ZW)(hs:(e::es).any dH=ZS)(h:Ev X ρ O o λa ag=>om X ρ ag a T/\cC X ρ ag (e::es) λl aM=>aG X ρ aM (.builtin id) (a::l) k):Ev X ρ O (.Call (.Attribute o name cD) (e::es) [] pos) k:=λE s F=>by refine TK nu zx lW (wm (h _ s F) (λov aq z=>cr z λa ag aw aI a5 z=>aO z λht aH=>?_));refine aO (ht _ _ aw a5) λt1 t2=>?_;refine pe T id pl slot ty t1 t2 ?_;have o8:=kC (env:=X.env) hs;refine callWith_method1 (env:=X.env) (wm (aH _ aq pos aw) (λvs aL bT=>j5 bT λl aM aS aY cK be=>?_)) o8 (lq (by rw[YF,YM]at hs;exact hs.2));exact wm (be _ aL _ aS (.cons (a5.move aY) cK)) (λv cR x=>.from (aI.trans aY) x)
theorem aG.setAdd{w:ZD}(hw:w=X.w){p:Z1}{l:List ZU}{x:ZU}(hm:(p,aQ.ext (dQ w l))∈O)(hx:x∉l)(hz:l.length+1<4000)(h:k .none (bp O p (.ext (dQ w (l++[x]))))):aG X ρ O (.builtin "set.add") [.ref p,.str x] k:=λE s vs F R=>by subst hw;replace R:=R.i2;obtain⟨r1,r2⟩:=R;cases r1.iR;cases r2.iS;refine aR (F.oK hm) λo ho hS=>?_;refine ad8 (w:=X.w) ho hS hx hz λh' o' tk sb cN oV=>?_;exact⟨.none,_,F.update (tk:=tk) (ao:=.ext (dQ X.w (l++[x]))) hm sb cN ⟨Ce,oV⟩,F.iF hm (λb o hb e=>(sb.2 b hb).trans e),.none,h⟩
theorem Ev.ad4{w:ZD}(hw:w=X.w)(hl:Ld X (Z9 "set") (.type "set"))(h:∀a,a∉O.map (·.1)->k (.ref a) ((a,.ext (dQ w []))::O)):Ev X ρ O (.Call (.Name (Z9 "set") px) [] [] pos) k:=λE s F=>by subst hw;refine Yv (hl E s px _ F.base (callWith_type0 (Jb ?_)));have aS:=F.alloc (o:=mV (ji X.w)) (ao:=.ext (dQ X.w [])) (tk:=s.toks) rfl ⟨Ce,ad9 X.w⟩;exact⟨_,_,aS,(mW (fY s.heap)).trans (aJ.of λC C e=>ZX _ e),.ref _,h _ λq=>F.fresh (bg.mpr (.inl q))⟩
end
end
noncomputable section
section
variable{X:Fx}{ρ:Loc}{O O':af}{s s':Z6}{E:Z3->Z6->Prop}{k:AV->af->Prop}{K:Kn}{pos px cD:XY}
variable{κ:Type}[DecidableEq κ]{knd:KeyKind pw X.w κ}{dI:κ->AV}{aA:List (κ×AV)}
noncomputable def rQ(d:Z1)(i n ep:Nat)(f ok ov:Z3):Zp:={cls:=.type "dict_itemiterator",dict:=ZT,data:=.fields #[f,.bool ZS,.ref d,.int i 0,.int n 0,.int ep 0,ok,ov],slots:=#[]}
noncomputable def pi(dI:κ->AV)(aA:List (κ×AV)):List AV:=aA.map λx=>.tup [dI x.1,x.2]
def Gc(it d:Z1)(n ep:Nat)(i:Nat)(hs:List (Z1×Zp)):Prop:=∃ok ov,hs=[(it,rQ d i n ep .none ok ov)]
theorem aeK(kf:ml knd dI){it d:Z1}{bm:List (κ×Z3)}{ep:Nat}{od:Zp}{es:Array Sh}{P:(Z1->Option Zp)->Zp->Prop}{b9:List Z1}{be:YQ}{ts:List Zt}{c:Nat}{p:XY}(hd:od.data=.dict es ep)(ft:∀h:YQ,h.get? d=Z7 od->h.DictAt knd d bm ep)(pr:PR (cv b9 be) bm aA)(bF:it≠d):pR X b9 be (.Tuple ts c p) (.ref it) (pi dI aA) (λO=>(d,aQ.ext (f0 od P))∈O) (Gc it d bm.length ep)where
 item:=λi av hs ρ O s Q E aN hI hm F st hQ=>by
  refine j4 hI ?_;clear hI;intro ok ov bT;subst bT;unfold pi at aN;rw[ZN]at aN;refine aR (Xa.mp aN) λb5 hx b6=>?_;rcases b5 with⟨x,a⟩;subst b6;refine aR (pr.get hx) λv hv rv=>?_;refine dE (F.oK (Zl _ hm)) λo ho e C=>?_;subst e;have dw:IsItemIter s.heap it d i bm.length ep ok ov:=F.nz (.head _);refine wpAny_pyNext_items_item dw (ft _ ho) hv λkey h' je zO hT hsz hk=>?_;refine hQ _ _ λQ2 E2 qc=>?_;refine wpAny_letOwnedTupleGo_items zO λjF k6 jf=>?_;have GO:it<s.heap.objs.size:=Zc dw;have kk:∀b o,b∉([(it,rQ d i bm.length ep .none ok ov)]:List (Z1×Zp)).map (·.1)->s.heap.get? b=Z7 o->jF.get? b=Z7 o:=λb o hb eb=>by
   have hb:b≠it:=by simpa using hb
   exact(jf.2 b hb).trans (hk b o hb eb)
  have RH:=F.mQ (s':={s with heap:=jF}) (hs':=[(it,rQ d (i+1) bm.length ep .none key v)]) kk (λq hq=>by exists Zv.mp hq;exact k6) (λa ha=>.inl ha) (by simp) F.gens rfl;have nT:s.heap.objs.size∉ak X (bf [(it,rQ d (i+1) bm.length ep .none key v)]++O):=λq=>by
   refine br (F.ex s.heap.objs.size (by
    refine ZR (fi.mp q) (λq=>?_) (λq=>?_);·exact fi.mpr (.inl q)
    ·exact fi.mpr (.inr q))) λo ho=>?_;exact absurd (Zc ho) (YT _)
  exact qc _ _ (kn key v rfl) RH.1 RH.2 (.tup (n:=0) nT ((jf.2 _ (Wg GO)).trans hT) (.cons (kf.of _ _ _ _ je) (.cons ((rv.up.move st).move RH.2) .nil)))
 done:=λhs ρ O s Q E hI hm F st hQ=>by refine j4 hI ?_;clear hI;intro ok ov bJ;subst bJ;refine dE (F.oK (Zl _ hm)) λo ho e C=>?_;subst e;have dw:IsItemIter s.heap it d (pi dI aA).length bm.length ep ok ov:=F.nz (.head _);refine wpAny_pyNext_items_end X.hh dw (ft _ ho) (by rw[Uq];(exists Z4 ..;exists pr.length ..);exact ZO _) λh' hx=>?_;have:=F.n8 (s':={s with heap:=h'}) (λb o hb eb=>hx b o (by simpa using hb) eb) F.gens rfl;exact hQ _ this.1 this.2
theorem d0.items(kf:ml knd dI){ts:List Zt}{c:Nat}{p:XY}{o:Zt}{k:List AV->af->(af->Prop)->Prop}(nu:Vi o (Z9 "items") X.env (eval o X.env)=eval o X.env)(lW:(cD.endLine==pos.line)=ZW)(h:Ev X ρ O o λa ag=>∃d aA,a=.ref d/\(d,aQ.ext (dP knd aA))∈ag/\∀od,k (pi dI aA) (bp ag d (.ext (f0 od (dP knd aA)))) λO=>(d,aQ.ext (f0 od (dP knd aA)))∈O):d0 X ρ O (.Tuple ts c p) (.Call (.Attribute o (Z9 "items") cD) [] [] pos) k:=λE s F=>by
 refine wpAny_Call_method0_late nu lW (wm (h E s F) (λov aq x=>?_));obtain⟨a,ag,aw,aI,a5,d,aA,e,hm,hk⟩:=x;subst e;cases a5.iR;refine gM (aw.pin hm) λod ft b7 aS aY=>?_;refine aR b7 λbm hD pr=>?_;refine fG hD ?_;clear hD;intro es ep hx nv FM;have za:aq.heap.DictOf knd d bm:=VZ.mpr (Ac od ft es ep hx nv FM);have Fg:∀h:YQ,h.get? d=Z7 od->h.DictAt knd d bm ep:=λh ho=>pd od es ho hx nv FM;have lY:=wI (aw.own _ hm).a4;have dlt:d<aq.heap.objs.size:=Zc ft;refine pe ("dict") ("dict.items") VP TG PySem.F.type_dict_items (aj od ft hx.1) (λb e=>by cases e;exact aj od ft hx.2.1) ?_;refine callWith_method0 (env:=X.env) (Rj TG (aj od ft hx.1) PySem.F.entry_dict_items (PySem.F.args_dict_items_1 _) (meets_dict_items knd d lY) ⟨⟨bm,za⟩,?_⟩);have hp:∀b o,aq.heap.get? b=Z7 o->(aq.heap.push {cls:=.type "dict_items",data:=.fields #[.ref d]}).get? b=Z7 o:=λb o e=>ZX _ e;generalize hH:aq.heap.push {cls:=.type "dict_items",data:=.fields #[.ref d]}=H at hp;have hv:H.get? aq.heap.objs.size=Z7 {cls:=.type "dict_items",data:=.fields #[.ref d]}:=hH▸Zy _ rfl;refine wpAny_pyIter_items (s:={aq with heap:=H}) (ep:=ep) (cQ _ hv rfl rfl) (Fg _ (hp _ _ ft)) ?_;have eV:Fr X ρ (bf []++bp ag d (.ext (f0 od (dP knd aA)))) {aq with heap:=H}:=aS.keeps (h':=H) (tk:=aq.toks) hp;have JY:aJ (ak X ag) aq.heap (ak X (bp ag d (.ext (f0 od (dP knd aA))))) H:=aY.trans (aJ.of hp);have RH:=eV.mQ (s':={aq with heap:=H.push (rQ d 0 bm.length ep .none .none .none)}) (hs':=[(H.objs.size,rQ d 0 bm.length ep .none .none .none)]) (λb o C e=>ZX _ e) (λq hq=>by exists Zv.mp hq;exact Zy _ rfl) (λa ha=>by
   have:a=H.objs.size:=by simpa using ha
   subst this;exact .inr (fY _)) (by simp) aw.gens rfl;have uQ:=JY.trans RH.2;refine⟨pi dI aA,_,Gc H.objs.size d bm.length ep,_,_,aeK kf (P:=dP knd aA) nv Fg (pr.mono (s7 uQ)) (λe=>?_),(kn (.none) (.none) rfl),RH.1,aI.trans uQ,hk od⟩;have:=Zc (hp _ _ ft);rw[e]at this;exact absurd this (YT _)
end
end
noncomputable section
def Cv(X:Fx)(ρ:Loc)(O:af)(ρ':Loc)(O':af):Prop:=∀s,Fr X ρ O s->Fr X ρ' O' s/\aJ (ak X O) s.heap (ak X O') s.heap
section
variable{X:Fx}{ρ ρ' cz:Loc}{O O' ag:af}{s s':Z6}{E:Z3->Z6->Prop}{k:AV->af->Prop}{kb:Bool->af->Prop}{K:Kn}{pos px cD:XY}
variable{κ:Type}[DecidableEq κ]{knd:KeyKind pw X.w κ}{dI:κ->AV}{aA:List (κ×AV)}
theorem Cv.refl:Cv X ρ O ρ O:=λs F=>⟨F,.refl _ _⟩
theorem Cv.trans(h:Cv X ρ O cz ag)(q:Cv X cz ag ρ' O'):Cv X ρ O ρ' O':=λs F=>let⟨aw,st⟩:=h s F;let⟨aS,aW⟩:=q s aw;⟨aS,st.trans aW⟩
theorem Cv.sub(h:Sub ρ' ρ):Cv X ρ O ρ' O:=λs F=>⟨F.sub h,.refl _ _⟩
theorem Cv.drop(h:O'.Sublist O):Cv X ρ O ρ O':=λs F=>⟨F.drop h,F.j3 h⟩
theorem Cv.perm(h:O.Perm O'):Cv X ρ O ρ O':=λs F=>by have st:aJ (ak X O) s.heap (ak X O') s.heap:=λa o ha e=>⟨λq=>ha (bg.mpr ((bg.mp q).imp (λh'=>(h.map (·.1)).mem_iff.mpr h') id)),e⟩;exact⟨F.move st (λa o C C e=>e) F.gens rfl (λo e=>e) (λC c C o e=>e) (λq C e=>e) (λp hp=>let⟨a1,a2,a3,a4,o,h1,h2⟩:=F.own p (h.mem_iff.mpr hp);⟨a1,a2,a3,a4,o,h1,h2.move st⟩) ((h.map (·.1)).nodup_iff.mp F.nd),st⟩
theorem Cv.tq{r:Z1}{l:List AV}(hm:(r,aQ.list l)∈O):Cv X ρ O (me r l ρ) (r9 O r):=λs F=>F.tq hm λq=>by
 refine ZR ((F.own _ hm).1) (λz=>?_) (λz=>?_);·refine br (X.old _ q) λo ho=>?_;have z:X.h₀.get? r=ZT:=z;replace ho:=z▸ho;cases ho
 ·exact X.h9 _ z q
theorem Ex.cv{b:List Y4}(c:Cv X ρ O ρ' O')(h:Ex X ρ' O' b K):Ex X ρ O b K:=λE s F=>by refine aO (c s F) λF' st=>?_;exact wm (h _ s F') (λfl aq x=>.from st x)
noncomputable def Kn.cv(X:Fx)(K:Kn):Kn:=⟨λρ O=>∃ρ' O',Cv X ρ O ρ' O'/\K.nx ρ' O',K.rt,λρ O=>∃ρ' O',Cv X ρ O ρ' O'/\K.bk ρ' O',λρ O=>∃ρ' O',Cv X ρ O ρ' O'/\K.ct ρ' O'⟩
theorem i6.post{fl:Rq}{s':Z6}(x:i6 X O s (K.cv X) fl s'):i6 X O s K fl s':=by refine lP x ?_;clear x;intro cz ag F st x;cases fl with|next=>refine iu x ?_;clear x;intro dR aM c q;refine aO (c _ F) λF' aW=>?_;exact⟨dR,aM,F',st.trans aW,q⟩;|brk=>refine iu x ?_;clear x;intro dR aM c q;refine aO (c _ F) λF' aW=>?_;exact⟨dR,aM,F',st.trans aW,q⟩;|cont=>refine iu x ?_;clear x;intro dR aM c q;refine aO (c _ F) λF' aW=>?_;exact⟨dR,aM,F',st.trans aW,q⟩;|ret v=>exact⟨cz,ag,F,st,x⟩
theorem Es.post{b:Y4}(h:Es X ρ O b (K.cv X)):Es X ρ O b K:=λE s F=>wm (h E s F) (λC C x=>x.post)
theorem Ex.post{b:List Y4}(h:Ex X ρ O b (K.cv X)):Ex X ρ O b K:=λE s F=>wm (h E s F) (λC C x=>x.post)
theorem Ts.plain{e:Zt}(h:Ev X ρ O e λa ag=>Tr X ρ ag a kb)(he:PT e X.env (eval e X.env)=(do let v<-eval e X.env;Xk e.pos;holding [v] (truthy v))):Ts X ρ O e kb:=λE s F=>isTrue_plain (wm (h _ s F) (λv aq b6=>cr b6 λav ag aw aI a5 aH=>wm (aH _ aq _ aw a5) (λc aL x=>.from aI x))) he
theorem Cm.Gb{i:Int}(h:kb ZS O):Cm X ρ O .Is (.int i) .none kb:=λE s u v F ru rv=>by cases rv.iN;cases ru.iI;exact is_none_ne (λq=>nomatch q) (hV F h)
theorem Cm.Hq(h:kb ZS O):Cm X ρ O .IsNot .none .none kb:=λE s u v F ru rv=>by cases rv.iN;cases ru.iN;exact isNot_none (hV F h)
noncomputable def mI(ps:List (κ×Z1))(f:κ->List AV):af:=ps.map λp=>(p.2,.list (f p.1))
noncomputable def fy(ps:List (κ×Z1)):List (κ×AV):=ps.map λp=>(p.1,.ref p.2)
noncomputable def fW(ps:List (κ×Z1))(f:κ->List AV):List (κ×AV):=ps.map λp=>(p.1,.lst (f p.1))
theorem PR.aeS{K:Type}[DecidableEq K]{g g':Z1->Option Zp}{f:K->List AV}{ps:List (K×Z1)}{bm:List (K×Z3)}(h:∀p∈ps,fz g' (.ref p.2) (.lst (f p.1)))(q:PR g bm (fy ps)):PR g' bm (fW ps f):=by induction ps generalizing bm with|nil=>cases q;exact .nil;|cons p ps ih=>cases q with|cons y q2=>refine iu y ?_;clear y;intro D hh C r;cases r.iR;exact .cons (h _ (.head _)) (ih (λp hp=>h p (.tail _ hp)) q2)
theorem Cv.NT{d:Z1}{ps:List (κ×Z1)}{f:κ->List AV}:Cv X ρ ((d,.ext (dP knd (fy ps)))::(mI ps f++O)) ρ ((d,.ext (dP knd (fW ps f)))::O):=λs F=>by
 have sub:((d,aQ.ext (dP knd (fy ps)))::O).Sublist ((d,.ext (dP knd (fy ps)))::(mI ps f++O)):=.cons_cons _ (We _ _);have aw:=F.drop sub;have aI:=F.j3 sub;have nd:=F.nd;rw[Z2,ZG,ZJ,ZE,YY]at nd;have Hl:=aw.nd;rw[Z2,ZG]at Hl;obtain⟨C,C,C,C,od,ft,zK,bm,hD,pr⟩:=aw.own _ (.head _);have key:∀p∈ps,fz (cv (ak X ((d,aQ.ext (dP knd (fy ps)))::O)) s.heap) (.ref p.2) (.lst (f p.1)):=λp hp=>by
  have oY:(p.2,aQ.list (f p.1))∈mI ps f:=ZY.mpr (aj p hp rfl);have hm:(p.2,aQ.list (f p.1))∈(d,aQ.ext (dP knd (fy ps)))::(mI ps f++O):=.tail _ (Zk _ oY);have Fw:p.2∈(mI ps f).map (·.1):=ZY.mpr (aj _ oY rfl);obtain⟨b1,b2,b3,b4,o,ho,vs,n,rfl,rl⟩:=F.own _ hm;refine fz.of (.lst (λz=>?_) ho (rl.move aI));refine jB z (λz=>?_) (λz=>?_) (λn' z=>?_) (λz=>?_) λo' z=>?_
  ·replace z:=Z2▸z;refine ZR (ZZ.mp z) (λz=>?_) (λz=>?_);·exact nd.1 (.inl (z▸Fw))
   ·exact nd.2.2.2 _ Fw _ z rfl
  ·exact b2 z
  ·exact b3.1 n' _ z rfl
  ·refine ZR b1 (λq=>?_) (λq=>?_);·refine br (X.old _ z) λo ho=>?_;have q:X.h₀.get? p.2=ZT:=q;replace ho:=q▸ho;cases ho
   ·exact X.h9 _ q z
  ·exact b3.2 _ z rfl
 have aS:=aw.upd (tk:=s.toks) (ao:=.ext (dP knd (fW ps f))) (.head _) (λb o C e=>e) ft (qs s9 bm hD (PR.aeS key pr));have aY:=aw.iF (ao:=.ext (dP knd (fW ps f))) (h':=s.heap) (.head _) λb o C e=>e;have e:bp ((d,aQ.ext (dP knd (fy ps)))::O) d (.ext (dP knd (fW ps f)))=(d,.ext (dP knd (fW ps f)))::O:=by
  unfold bp;exists Z2;exists if_pos rfl;congr 1;conv=>rhs;rw[<-Vf O]
  exact X9 λp hp=>if_neg (λe:p.1=d=>Hl.1 (ZY.mpr (aj p hp e)))
 rw[e]at aS aY;exact⟨aS,aI.trans aY⟩
end
end
noncomputable section
theorem aal{fl:Loc}{n:ZU}{a:AV}:cS (gT fl n a)=cS ((n,a)::fl):=by
 have:∀y,(gT fl n a).lookup y=YA y ((n,a)::fl):=λy=>by
  (exists qw;exists ZM);by_cases e:y=n;·(exists if_pos e;exact bG (beq_iff_eq.mpr e) rfl)
  ·(exists if_neg e;exact bG (beq_eq_false_iff_ne.mpr e) rfl)
 exact funext λg=>funext λo=>propext ⟨Ga λy=>(this y).symm,Ga this⟩
structure gr(x dx:Z1)(ox:Zp):Prop where
 cls:ox.cls=.ref 242
 Hj:∀c,ox.data≠.cls c
 pX:ox.dict=some dx
 ne:dx≠x
noncomputable def bo(x dx:Z1)(ox:Zp)(fl:Loc)(R:af):af:=(x,.other ox)::(dx,.ext (cS fl))::R
theorem gr.inst{x dx:Z1}{ox:Zp}(am:gr x dx ox){fl:Loc}{R:af}:oi (bo x dx ox fl R) x dx fl:=⟨(fe ox (.head _) am.cls am.Hj am.pX),am.ne,.tail _ (.head _)⟩
theorem ms:∀n∈[Z9 "isjunk",Z9 "a",Z9 "b",Z9 "autojunk",Z9 "matching_blocks",Z9 "opcodes",Z9 "fullbcount",Z9 "b2j",Z9 "bjunk",Z9 "bpopular"],i7 n:=by intro n hn;simp only[ZZ,YU,or_false]at hn;rcases hn with rfl|rfl|rfl|rfl|rfl|rfl|rfl|rfl|rfl|rfl<;>exact⟨λC=>by kernel_rfl,by(exists Y5 ..;exists Zq ..);kernel_rfl⟩
theorem EL:i7 (Z9 "isjunk"):=ms _ (.head _)
theorem tj:i7 (Z9 "a"):=ms _ (.tail _ (.head _))
theorem rz:i7 (Z9 "b"):=ms _ (.tail _ (.tail _ (.head _)))
theorem EI:i7 (Z9 "autojunk"):=ms _ (.tail _ (.tail _ (.tail _ (.head _))))
theorem tm:i7 (Z9 "matching_blocks"):=ms _ (.tail _ (.tail _ (.tail _ (.tail _ (.head _)))))
theorem vH:i7 (Z9 "opcodes"):=ms _ (.tail _ (.tail _ (.tail _ (.tail _ (.tail _ (.head _))))))
theorem Nm:i7 (Z9 "fullbcount"):=ms _ (.tail _ (.tail _ (.tail _ (.tail _ (.tail _ (.tail _ (.head _)))))))
theorem EJ:i7 (Z9 "b2j"):=ms _ (.tail _ (.tail _ (.tail _ (.tail _ (.tail _ (.tail _ (.tail _ (.head _))))))))
theorem EK:i7 (Z9 "bjunk"):=ms _ (.tail _ (.tail _ (.tail _ (.tail _ (.tail _ (.tail _ (.tail _ (.tail _ (.head _)))))))))
theorem Nl:i7 (Z9 "bpopular"):=ms _ (.tail _ (.tail _ (.tail _ (.tail _ (.tail _ (.tail _ (.tail _ (.tail _ (.tail _ (.head _))))))))))
theorem acn:∀P,WD (eZ (ky P)) (Z9 "__setattr__")=ZT:=λC=>by kernel_rfl
theorem IF{X:Fx}{ρ:Loc}{O:af}{s:Z6}{x dx:Z1}{p q r:aQ}(F:Fr X ρ ((x,p)::(dx,q)::O) s):bp ((x,p)::(dx,q)::O) dx r=(x,p)::(dx,r)::O:=by
 have nd:=F.nd;rw[Z2,ZG,Z2,ZG]at nd;unfold bp;exists Z2;exists Z2;exists if_pos rfl;exists(if_neg (λe:x=dx=>nd.1 (e▸.head _)));congr 2;conv=>rhs;rw[<-Vf O]
 exact X9 λp hp=>if_neg (λe:p.1=dx=>nd.2.1 (ZY.mpr (aj p hp e)))
section
variable{X:Fx}{ρ:Loc}{O R:af}{s:Z6}{E:Z3->Z6->Prop}{k:AV->af->Prop}{K:Kn}{pos px:XY}
theorem Ev.dM{kd gt}(ok:Ok X kd gt){self name:ZU}{x dx:Z1}{ox:Zp}{fl:Loc}{av:AV}(am:gr x dx ox)(hs:ρ.lookup self=Z7 (.ref x))(hl:fl.lookup name=Z7 av)(hh:zh av)(FA:i7 name)(h:k av (bo x dx ox fl R))(he:eval (.Attribute (.Name self px) name pos) X.env=(do let o<-eval (.Name self px) X.env;Xk pos.atName;let r<-holding [o] (Sd o name ZW);VD (.Name self px) o r;pure r):=by rfl):Ev X ρ (bo x dx ox fl R) (.Attribute (.Name self px) name pos) k:=.attr (.aE ok hs ⟨x,dx,fl,av,rfl,am.inst,hl,hh,FA,h⟩) he
theorem b8.dM{kd gt}(ok:Ok X kd gt){self name:ZU}{a:AV}{x dx:Z1}{ox:Zp}{fl:Loc}{kk:Loc->af->Prop}(am:gr x dx ox)(hs:ρ.lookup self=Z7 (.ref x))(hz:fl.length<=1000)(FA:i7 name)(h:kk ρ (bo x dx ox ((name,a)::fl) R)):b8 X ρ (bo x dx ox fl R) (.Attribute (.Name self px) name pos) a kk:=λE s v F r=>by refine b8.attr (k:=kk) (.aE ok hs ⟨x,dx,fl,rfl,am.inst,hz,FA,acn,?_⟩) E s v F r;exists aal;exists IF F;exact h
end
end
noncomputable section
variable{X Y:Fx}{ρ aZ:Loc}{O O':af}{k:AV->af->Prop}
theorem Dq(P:Zr):(aP P).get? 174=Z7 Be:=by kernel_rfl
theorem Kz(P:Zr):(aP P).get? 173=Z7 Bc:=by kernel_rfl
theorem ad0{x dx:Z1}{ox:Zp}{fl:Loc}{a:List AV}(a9:X.A.depth<ZV)(am:gr x dx ox)(hz:fl.length<900)(ha:fl.lookup (Z9 "a")=Z7 .none)(hk:k .none (bo x dx ox ((Z9 "opcodes",.none)::(Z9 "matching_blocks",.none)::(Z9 "a",.lst a)::fl) []++O)):aG X ρ (bo x dx ox fl []++O) (.ref 174) [.ref x,.lst a] k:=by
 refine aG.ku (nm:=Z9 "set_seq1") (name:=Z9 "SequenceMatcher.set_seq1") (params:=gb sA) (body:=aV sA) (scope:=aT sA) (pm:=_) (ca:=173) (doc:=_) (ns:=[Z9 "self",Z9 "a"]) a9 (Dq _) rfl (Kz _) rfl rfl (λvs h=>?_) dk dk dk rfl rfl rfl λY ah=>?_;·exact po h λC C=>rfl
 ·refine ah.run (by kernel_rfl) λL eL=>?_;have ok:=ah.ok (by kernel_rfl);refine aC.mk (Ev.dM ok am rfl ha trivial tj ?_);refine ZP (λz=>(nomatch z)) (λC=>?_);refine aC.mk (b8.dM ok am rfl (XM (Rn hz (by decide))) tj ?_);refine aC.mk (b8.dM ok am rfl (by exists ZF;exact(aD 0x2 0x64b0ebc384c40f889e1) hz) tm ?_);refine aC.mk (b8.dM ok am rfl (by exists ZF;exists ZF;exact(aD 0x2 0x325875e1c26207c44f889e1) hz) vH ?_);exact hk
end
noncomputable section
section
variable{X:Fx}{ρ ρ':Loc}{O O' R:af}{s:Z6}{E:Z3->Z6->Prop}{k:AV->af->Prop}{K:Kn}{pos px:XY}
variable{κ:Type}[DecidableEq κ]{knd:KeyKind pw X.w κ}
theorem Cv.mem(h:∀p∈O',p∈O)(nd:(O'.map (·.1)).Nodup):Cv X ρ O ρ O':=λs F=>by
 have st:aJ (ak X O) s.heap (ak X O') s.heap:=λa o ha e=>⟨λq=>ha (bg.mpr ((bg.mp q).imp (λh'=>by refine dn h' λp hp=>?_;exact ZY.mpr (aj p (h p hp) rfl)) id)),e⟩;exact⟨F.move st (λa o C C e=>e) F.gens rfl (λo e=>e) (λC c C o e=>e) (λq C e=>e) (λp hp=>let⟨a1,a2,a3,a4,o,h1,h2⟩:=F.own p (h p hp);⟨a1,a2,a3,a4,o,h1,h2.move st⟩) nd,st⟩
theorem b8.cv{t:Zt}{a:AV}{kk:Loc->af->Prop}(c:Cv X ρ O ρ' O')(h:b8 X ρ' O' t a kk):b8 X ρ O t a kk:=λE s v F r=>by refine aO (c s F) λF' st=>?_;exact wm (h E s v F' (r.move st)) (λC s' bH=>fG bH λcz ag aw aI z=>eu cz ag aw (st.trans aI) z)
theorem Cv.ins{x dx:Z1}{ox:Zp}{fl:Loc}{p:Z1×aQ}:Cv X ρ (p::bo x dx ox fl R) ρ (bo x dx ox fl (p::R)):=.perm (TW (l₁:=[(x,aQ.other ox),(dx,aQ.ext (cS fl))])).symm
theorem Es.nodup{b:Y4}(h:(O.map (·.1)).Nodup->Es X ρ O b K):Es X ρ O b K:=λE s F=>h F.nd E s F
theorem nO{p:Z1×aQ}{a:Z1}{r:aQ}(h:p∈O)(hn:p.1≠a):p∈bp O a r:=ZY.mpr (aj p h (if_neg hn))
theorem Cv.NU{x dx d:Z1}{ox:Zp}{fl gN:Loc}{P:(Z1->Option Zp)->Zp->Prop}{b:AV}(hb:∀D h o,d∉D->h.get? d=Z7 o->(d==VT)=ZS->P (cv D h) o->aX D h (.ref d) b)(h1:∀n,gN.lookup n=fl.lookup n\/(fl.lookup n=Z7 (.ref d)/\gN.lookup n=Z7 b)):Cv X ρ (bo x dx ox fl ((d,.ext P)::R)) ρ (bo x dx ox gN R):=λs F=>by
 have sub:(bo x dx ox fl R).Sublist (bo x dx ox fl ((d,.ext P)::R)):=.cons_cons _ (.cons_cons _ (Ys _ _));have aw:=F.drop sub;have aI:=F.j3 sub;have nd:=F.nd;simp only[bo,Z2,ZG,ZZ,not_or]at nd;obtain⟨b1,b2,b3,b4,o,ho,hm,hP⟩:=F.own (d,.ext P) (.tail _ (.tail _ (.head _)));have uo:d∉ak X (bo x dx ox fl R):=λz=>by
  refine jB z (λz=>?_) (λz=>?_) (λn' z=>?_) (λz=>?_) λo' z=>?_
  ·simp only[bo,Z2,ZZ]at z;refine ZR z (λz=>?_) (λz'=>ZR z' (λz=>?_) (λz=>?_));·exact nd.1.2.1 z.symm
   ·exact nd.2.1.1 z.symm
   ·exact nd.2.2.1 z
  ·exact b2 z
  ·exact b3.1 n' _ z rfl
  ·refine ZR b1 (λq=>?_) (λq=>?_);·refine br (X.old _ z) λo ho=>?_;have q:X.h₀.get? d=ZT:=q;replace ho:=q▸ho;cases ho
   ·exact X.h9 _ q z
  ·exact b3.2 _ z rfl
 have rb:fz (cv (ak X (bo x dx ox fl R)) s.heap) (.ref d) b:=fz.of (hb _ _ o uo ho (wI b4) (hm _ _ _ (s7 aI) hP));obtain⟨od,ft,es,ep,m,q1,q2,q3,q4,q5,q6⟩:=aw.oK (.tail _ (.head _));have P3:s.heap.get? dx=Z7 od:=ft;have aS:=aw.upd (tk:=s.toks) (ao:=.ext (cS gN)) (a:=dx) (h':=s.heap) (.tail _ (.head _)) (λb o C e=>e) P3 ⟨Ad,es,ep,m,q1,q2,q3,q4,λn av e=>?_,λn e=>?_⟩;have aY:=aw.iF (ao:=.ext (cS gN)) (a:=dx) (h':=s.heap) (.tail _ (.head _)) λb o C e=>e;·unfold bo at aw aS aY;rw[IF aw]at aS aY;exact⟨aS,aI.trans aY⟩
 ·refine ZR (h1 n) (λz=>?_) (λbS=>aO bS λz1 z2=>?_);·exact q5 n av (z▸e)
  ·replace e:=z2▸e;cases e;obtain⟨v,hv,D,hh,hcv,r⟩:=q5 n _ z1;cases r.iR;exact aj _ hv rb
 ·refine ZR (h1 n) (λz=>?_) (λbT=>aO bT λz1 z2=>?_);·exact q6 n (z▸e)
  ·replace e:=z2▸e;cases e
theorem Mf{aA:List (κ×AV)}{d:Z1}:∀D h o,d∉D->h.get? d=Z7 o->(d==VT)=ZS->dP knd aA (cv D h) o->aX D h (.ref d) (lO knd aA):=λD h o hd e n q=>.ext Mh (pd d o rfl n (by unfold cv;exists if_neg hd;exact e) q)
theorem Ev.ad5{w:ZD}(hw:w=X.w)(hl:Ld X (Z9 "set") (.type "set"))(h:k (eM w λC=>ZS) O):Ev X ρ O (.Call (.Name (Z9 "set") px) [] [] pos) k:=λE s F=>by exists hw;refine Yv (hl E s px _ F.base (callWith_type0 (Jb ?_)));have g:=fX.push s (mV (ji X.w)) s.toks;have aS:=F.grow g;refine⟨_,O,aS,g.nZ,.ext Ja (jM _ (mV (ji X.w)) 0 rfl ?_ (by decide) (Su _)),h⟩;unfold Mine.Internal.cv;exists if_neg F.fresh;exact Zy _ rfl
end
end
noncomputable section
section
variable{X:Fx}{ρ ρ':Loc}{O O' R:af}{s:Z6}{E:Z3->Z6->Prop}{k:AV->af->Prop}{K:Kn}{pos px:XY}
theorem Sub.cc(h:Sub ρ' ρ)(x:ZU)(a:AV):Sub ((x,a)::ρ') ((x,a)::ρ):=λy b e=>by rw[ZM]at e⊢;cases q:y==x with|true=>rw[q]at e;exact e;|false=>rw[q]at e;exact h y b e
theorem Tg.ex{kd gt}(ok:Ok X kd gt){t:Zt}{a:AV}{kk:Loc->Prop}(h:(rq X kd gt ρ O t a kk id).p):Tg X ρ O t a kk:=(rq X kd gt ρ O t a kk id).h ok h
theorem Bn.fdiv{a b:Int}(hb:b≠0)(hp:Yu a b=ZS)(h:k (.int (a.fdiv b)) O):Bn X ρ O .FloorDiv (.int a) (.int b) k:=λE s u v F ru rv=>by cases ru.iI;cases rv.iI;exact PyProof.Rows.floordiv_int hb (.done F (.tok _ _) (.int _ _) h) (.inl hp)
theorem Ok.holds{kd gt}{hs:List (Z1×Zp)}{c:gK X (hs.map (·.1))}(h:Ok X kd gt):Ok (X.holds hs c) kd gt:=⟨h.loc,h.glob,h.pW⟩
theorem Ok.ld{kd gt}(h:Ok X kd gt){x:ZU}{v:Z3}(h1:kd x=Z7 .globalImplicit)(h2:gt.lookup x=Z7 (.val v)):Ld X x v:=(h.glob x _ h1 h2).1
end
noncomputable def eH:Y4->List Y4
 |.For _ _ b _ _=>b|.While _ b _ _=>b|.If _ b _ _=>b|_=>[]
noncomputable def bB(b:List Y4)(i:Nat):Y4:=b.getD i (.Pass default)
end
noncomputable section
section
variable{X:Fx}{ρ ρ':Loc}{O O' R:af}{s:Z6}{E:Z3->Z6->Prop}{k:AV->af->Prop}{K:Kn}{pos px:XY}
theorem gk{A B:af}{p:Z1}{r r':aQ}(nd:((A++(p,r)::B).map (·.1)).Nodup):bp (A++(p,r)::B) p r'=A++(p,r')::B:=by
 rw[ZJ,YY,Z2,ZG]at nd;have id':∀{ah:af},(∀q∈ah,q.1≠p)->ah.map (λq=>if q.1=p then(q.1,r')else q)=ah:=λ{ah}h=>by
  conv=>rhs;rw[<-Vf ah]
  exact X9 λq hq=>if_neg (h q hq)
 unfold bp;(exists ZJ;exists Z2;exists if_pos rfl;exists(id' λq hq e=>nd.2.2 _ (ZY.mpr (aj q hq e)) p (.head _) rfl);exact bG (id' λq hq e=>nd.2.1.1 (ZY.mpr (aj q hq e))) rfl)
theorem Cv.weak(A:af){B:af}{p:Z1}{P P':(Z1->Option Zp)->Zp->Prop}(hm:vb P')(hw:∀g o,P g o->P' g o):Cv X ρ (A++(p,.ext P)::B) ρ (A++(p,.ext P')::B):=λs F=>by have mem:(p,aQ.ext P)∈A++(p,aQ.ext P)::B:=Zl _ (.head _);obtain⟨C,C,C,C,od,ho,zK,hP⟩:=F.own _ mem;have F':=F.upd (tk:=s.toks) (ao:=.ext P') (h':=s.heap) mem (λb o C e=>e) ho ⟨hm,hw _ _ hP⟩;have st:=F.iF (ao:=.ext P') (h':=s.heap) mem λb o C e=>e;rw[gk F.nd]at F' st;exact⟨F',st⟩
end
end
noncomputable section
variable{X Y:Fx}{ρ aZ:Loc}{O O':af}{k:AV->af->Prop}
theorem Ds(P:Zr):(aP P).get? 188=Z7 Bi:=by kernel_rfl
theorem KB(P:Zr):(aP P).get? 187=Z7 Bh:=by kernel_rfl
noncomputable def cH(b:List ZU)(i:Nat)(e:ZU):List AV:=((Zh i).filter λ(j:Nat)=>decide (b[j]?=Z7 e)).map λ(j:Nat)=>.int (j:Int)
theorem FW{b:List ZU}{i:Nat}{e:ZU}(h:b[i]?=Z7 e):cH b (i+1) e=cH b i e++[.int i]:=by unfold cH;rw[Wx,Xx,ZJ];simp[h]
theorem F1{b:List ZU}{i:Nat}{e:ZU}(h:b[i]?≠Z7 e):cH b (i+1) e=cH b i e:=by unfold cH;rw[Wx,Xx,ZJ];simp[h]
structure u9(b:List ZU)(i:Nat)(ps:List (ZU×Z1)):Prop where
 nd:(ps.map (·.1)).Nodup
 mem:∀e,e∈ps.map (·.1)↔e∈b.take i
 len:ps.length<=i
noncomputable def ot(w:ZD)(x dx:Z1)(ox:Zp)(fl:Loc)(d:Z1)(ps:List (ZU×Z1))(f:ZU->List AV):af:=bo x dx ox fl ((d,.ext (dP (ZH pw w) (fy ps)))::mI ps f)
theorem LL{w:ZD}{x dx:Z1}{ox:Zp}{fl:Loc}{d:Z1}{ps:List (ZU×Z1)}{f:ZU->List AV}:(ot w x dx ox fl d ps f).map (·.1)=x::dx::d::ps.map (·.2):=by unfold ot bo mI;simp only[Z2,XW];rfl
structure i5(w:ZD)(x dx:Z1)(ox:Zp)(fl:Loc)(d:Z1)(b:List ZU)(i:Nat)(ps:List (ZU×Z1))(O':af):Prop where
 keys:u9 b i ps
 nd:(x::dx::d::ps.map (·.2)).Nodup
 sub:∀p∈ot w x dx ox fl d ps (cH b i),p∈O'
theorem Jx{b:List ZU}{i:Nat}{e:ZU}(h:b[i]?=Z7 e):b.take (i+1)=b.take i++[e]:=by exists YX;exists h;rfl
theorem z7{b:List ZU}{i:Nat}{e:ZU}(h:e∉b.take i):cH b i e=[]:=by unfold cH;rw[List.map_eq_nil_iff,VA];intro j hj q;have q:=of_decide_eq_true q;refine h (YN (i:=j) ?_);exists X3;exists if_pos (X4.mp hj);exact q
section
variable{w:ZD}{x dx d a a':Z1}{ox:Zp}{fl:Loc}{b:List ZU}{i:Nat}{e:ZU}{ps:List (ZU×Z1)}{OO:af}
theorem i5.dict(ah:i5 w x dx ox fl d b i ps OO):(d,aQ.ext (dP (ZH pw w) (fy ps)))∈OO:=ah.sub _ (.tail _ (.tail _ (.head _)))
theorem i5.lst(ah:i5 w x dx ox fl d b i ps OO)(h:(e,a)∈ps):(a,aQ.list (cH b i e))∈OO:=ah.sub _ (.tail _ (.tail _ (.tail _ (ZY.mpr (aj _ h rfl)))))
theorem ID{β:Type}(f:ZU×Z1->β):∀{ps:List (ZU×Z1)},(ps.map f).Nodup->∀{p q:ZU×Z1},p∈ps->q∈ps->f p=f q->p=q:=by intro N';induction N' with|nil=>exactλ_ _ _ h _ _=>nomatch h;|cons r ps ih=>
  intro nd p q hp hq e;rw[Z2,ZG]at nd;refine ZR (ZZ.mp hp) (λe1=>?_) (λjI=>?_)
  ·refine ZR (ZZ.mp hq) (λe2=>?_) (λkg=>?_);·exists e1;exact bG e2 rfl
   ·exact absurd (ZY.mpr (aj q kg (by exists Zz e;exact bG e1 rfl))) nd.1
  ·refine ZR (ZZ.mp hq) (λe2=>?_) (λkg=>?_);·exact absurd (ZY.mpr (aj p jI (by exists e;exact bG e2 rfl))) nd.1
   ·exact ih nd.2 jI kg e
theorem i5.old(ah:i5 w x dx ox fl d b i ps OO)(hb:b[i]?=Z7 e)(h:(e,a)∈ps):i5 w x dx ox fl d b (i+1) ps (bp ((a',.list [])::OO) a (.list (cH b i e++[.int i]))):=by
 have hm:a∈ps.map (·.2):=ZY.mpr (aj _ h rfl);have nd:=ah.nd;simp only[ZG,ZZ,not_or]at nd;refine kO nd ?_;clear nd;intro cy cx n6 n7;refine f8 cy λn1 n2 n3=>?_;refine aO cx λn4 n5=>?_;refine⟨⟨ah.keys.nd,λy=>?_,WV ah.keys.len⟩,ah.nd,λp hp=>?_⟩
 ·rw[Jx hb,ZE,Zv,ah.keys.mem y];constructor;·exact .inl
  ·rintro(q|rfl);·exact q
   ·exact(ah.keys.mem _).mp (ZY.mpr (aj _ h rfl))
 ·simp only[ot,bo,ZZ]at hp;rcases hp with rfl|rfl|rfl|hp;·exact nO (.tail _ (ah.sub _ (.head _))) (λq=>n3 (show x∈_ from(show x=a from q)▸hm))
  ·exact nO (.tail _ (ah.sub _ (.tail _ (.head _)))) (λq=>n5 (show dx∈_ from(show dx=a from q)▸hm))
  ·exact nO (.tail _ ah.dict) (λq=>n6 (show d∈_ from(show d=a from q)▸hm))
  ·refine aR (ZY.mp hp) λbH hq bS=>?_;rcases bH with⟨y,vh⟩;subst bS;by_cases z:vh=a;·subst z;cases ID _ n7 hq h rfl;exists FW hb;exact B0 (.tail _ (ah.lst h))
   ·have:b[i]?≠Z7 y:=λq=>by replace q:=hb▸q;cases q;exact z (congrArg Prod.snd (ID _ ah.keys.nd hq h rfl))
    exists F1 this;exact nO (.tail _ (ah.lst hq)) z
theorem i5.new(ah:i5 w x dx ox fl d b i ps OO)(hb:b[i]?=Z7 e)(h:e∉ps.map (·.1))(ha:a'∉OO.map (·.1)):i5 w x dx ox fl d b (i+1) (ps++[(e,a')]) (bp (bp ((a',.list [])::OO) d (.ext (dP (ZH pw w) (fy ps++[(e,.ref a')])))) a' (.list ([]++[.int i]))):=by
 have F8:∀p∈ot w x dx ox fl d ps (cH b i),p.1≠a':=λp hp q=>ha (q▸ZY.mpr (aj p (ah.sub p hp) rfl));have nd:=ah.nd;have uo:a'∉x::dx::d::ps.map (·.2):=λq=>by rw[<-LL (w:=w) (ox:=ox) (fl:=fl) (f:=cH b i)]at q;refine aR (ZY.mp q) λp hp e=>?_;exact F8 p hp e
 have h0:e∉b.take i:=λq=>h ((ah.keys.mem e).mpr q);simp only[ZZ,not_or]at uo;refine kO uo ?_;clear uo;intro m1 m2 m3 m4;have nS:=nd;simp only[ZG,ZZ,not_or]at nS;refine kO nS ?_;clear nS;intro bT b5 n6 n7;refine f8 bT λn1 n2 n3=>?_;refine aO b5 λn4 n5=>?_;have dd:(d,aQ.ext (dP (ZH pw w) (fy ps++[(e,AV.ref a')])))∈bp ((a',.list [])::OO) d (.ext (dP (ZH pw w) (fy ps++[(e,AV.ref a')]))):=B0 (.tail _ ah.dict);have keep:∀p∈ot w x dx ox fl d ps (cH b i),p.1≠d->p∈bp (bp ((a',.list [])::OO) d (.ext (dP (ZH pw w) (fy ps++[(e,.ref a')])))) a' (.list ([]++[.int i])):=λp hp hd=>nO (nO (.tail _ (ah.sub p hp)) hd) (F8 p hp);refine⟨⟨?_,λy=>?_,?_⟩,?_,λp hp=>?_⟩;·rw[ZJ,YY];refine bM ah.keys.nd (by simp) (λu hu v hv q=>h ?_);simp only[Z2,YS,Zv]at hv;exists Zz hv;exists Zz q;exact hu
 ·rw[Jx hb,ZJ,ZE,ZE,ah.keys.mem y];rfl
 ·exists ZQ;exact TO ah.keys.len
 ·have e1:x::dx::d::(ps++[(e,a')]).map (·.2)=(x::dx::d::ps.map (·.2))++[a']:=by simp
  rw[e1,YY];refine bM nd (by simp) (λu hu v hv q=>?_);rw[Zv]at hv;subst hv;subst q;simp only[ZZ]at hu;refine ZR hu (λz=>?_) (λz'=>ZR z' (λz=>?_) (λz'=>ZR z' (λz=>?_) (λz=>?_)));·exact m1 z
  ·exact m2 z
  ·exact m3 z
  ·exact m4 z
 ·simp only[ot,bo,ZZ]at hp;rcases hp with rfl|rfl|rfl|hp;·exact keep _ (.head _) n2
  ·exact keep _ (.tail _ (.head _)) n4
  ·have:fy (ps++[(e,a')])=fy ps++[(e,AV.ref a')]:=by unfold fy;exists ZJ;rfl
   exists this;exact nO dd (Xl m3)
  ·refine aR (ZY.mp hp) λb6 hq bJ=>?_;rcases b6 with⟨y,vh⟩;subst bJ;refine ZR (ZE.mp hq) (λhq=>?_) (λhq=>?_)
   ·have hy:b[i]?≠Z7 y:=λq=>by replace q:=hb▸q;cases q;exact h (ZY.mpr (aj _ hq rfl))
    exists F1 hy;have jI:(vh,aQ.list (cH b i y))∈ot w x dx ox fl d ps (cH b i):=.tail _ (.tail _ (.tail _ (ZY.mpr (aj _ hq rfl))));exact keep _ jI (λq=>n6 (show d∈_ from(show vh=d from q)▸ZY.mpr (aj _ hq rfl)))
   ·rw[Zv]at hq;cases hq;exists FW hb;exists z7 h0;exact B0 (nO (p:=(a',aQ.list [])) (.head _) m3)
end
theorem Gf{ps:List (ZU×Z1)}{e:ZU}:(∀v,ce (fy ps) e=Z7 v->∃a,(e,a)∈ps/\v=.ref a)/\(ce (fy ps) e=ZT->e∉ps.map (·.1)):=by induction ps with|nil=>exact⟨λv h=>(by cases h),λC h=>(by cases h)⟩;|cons p ps ih=>
  obtain⟨y,a⟩:=p;by_cases z:y=e;·exists z;exact⟨λv h=>aj a (.head _) (by simpa[ce,fy]using h.symm),λh=>by simp[ce,fy]at h⟩
  ·have e1:ce (fy ((y,a)::ps)) e=ce (fy ps) e:=by simp[ce,fy,z]
   exists e1;refine⟨λv h=>let⟨a,h1,h2⟩:=ih.1 v h;(aj a (.tail _ h1) h2),λh q=>?_⟩;replace q:=Z2▸q;refine ZR (ZZ.mp q) (λq=>?_) (λq=>?_);·exact z q.symm
   ·exact ih.2 h q
theorem F0(b:List ZU)(i:Nat)(e:ZU):(cH b i e).length<=i:=by unfold cH;rw[Z4];exact ZC (Wn _ _) (by exists Xj;exact ZO _)
theorem LU{x dx d:Z1}{ox:Zp}{fl:Loc}{b:List ZU}{L:Z1}{i:Nat}{e:ZU}{ps:List (ZU×Z1)}{OO:af}{K:Kn}(ok:Ok Y (λx=>(aT gV).names.lookup x) bK)(eL:Y.env=Zf (Z9 "SequenceMatcher.__chain_b") (aT gV) L 188 (ZB 187))(hb:b[i]?=Z7 e)(hn:b.length<=1000)(ah:i5 Y.w x dx ox fl d b i ps OO)(h:∀v O' BZ,i5 Y.w x dx ox fl d b (i+1) BZ O'->K.nx ((Z9 "indices",v)::(Z9 "elt",.str e)::(Z9 "i",.int i)::(Z9 "b2j",.ref d)::ρ) O'):Ex Y ((Z9 "elt",.str e)::(Z9 "i",.int i)::(Z9 "b2j",.ref d)::ρ) OO (eH (bB (aV gV) 2)) K:=by
 have hi:i<b.length:=(Zo.mp hb).1;have o4:ps.length<=i:=ah.keys.len;have SZ:(fy ps).length=ps.length:=Z4 _;have qj:=F0 b i e;refine run ok eL ?_;refine aC.mk (Ev.BU VP U5 PySem.F.type_dict_setdefault rfl rfl rfl rfl (Ev.aE ok rfl ⟨om.dict (knd:=ZH pw Y.w) (.inl (eu d _ rfl ah.dict (λC C z=>z))),.cons rfl (Ev.aE ok rfl (.cons rfl (.list (.nil ⟨ZI _,λa' rC=>.nil (aG.aed (wl _) (.tail _ ah.dict) (by exact(aU 0x5 0x613103c5910f0326881c061e811e1) hn hi o4 SZ) (λv hv=>?_) (λhv=>?_))⟩))))⟩));·refine aR (Gf.1 v hv) λa hm b7=>?_;exists b7;refine aC.mk (Ev.fU Zb Za rfl rfl rfl (Ev.aE ok rfl ⟨⟨_,.inr (aj a rfl (.tail _ (ah.lst hm)))⟩,Ev.aE ok rfl (aG.append (.tail _ (ah.lst hm)) (by exists Zs;exact(au 0x4 0xc262078b221e061c060180601845e1) hn hi qj) ?_)⟩));exact h _ _ _ (ah.old hb hm)
 ·have tN:=Gf.2 hv;have O1:a'≠d:=λq=>rC (q▸ZY.mpr (aj _ ah.dict rfl));have hm:(a',aQ.list [])∈bp ((a',.list [])::OO) d (.ext (dP (ZH pw Y.w) (fy ps++[(e,AV.ref a')]))):=nO (.head _) O1;refine aC.mk (Ev.fU Zb Za rfl rfl rfl (Ev.aE ok rfl ⟨⟨_,.inr (aj a' rfl hm)⟩,Ev.aE ok rfl (aG.append hm (by exists Zs;exact ZI _) ?_)⟩));exact h _ _ _ (ah.new hb tN rC)
theorem adg{x dx d pop:Z1}{ox:Zp}{fl:Loc}{L:Z1}{e:ZU}{l:List ZU}{il:List AV}{nt:Int}{dd:aQ}{K:Kn}(ok:Ok Y (λx=>(aT gV).names.lookup x) bK)(eL:Y.env=Zf (Z9 "SequenceMatcher.__chain_b") (aT gV) L 188 (ZB 187))(nd:[x,dx,pop,d].Nodup)(qj:il.length<=1000)(he:e∉l)(hl:l.length+1<4000)(h:K.nx ((Z9 "idxs",.lst il)::(Z9 "elt",.str e)::(Z9 "ntest",.int nt)::(Z9 "popular",.ref pop)::ρ) (bo x dx ox fl [(pop,.ext (dQ Y.w (if nt<(il.length:Int)then l++[e]else l))),(d,dd)])):Ex Y ((Z9 "idxs",.lst il)::(Z9 "elt",.str e)::(Z9 "ntest",.int nt)::(Z9 "popular",.ref pop)::ρ) (bo x dx ox fl [(pop,.ext (dQ Y.w l)),(d,dd)]) (eH (bB (eH (bB (aV gV) 8)) 1)) K:=by
 refine run ok eL ?_;refine ZP (by exact(aD 0x2 0x309881e1e06018060180601806018060180601825e1) qj) ?_;refine ZP (λq=>?_) (λq=>?_);·have q:nt<(il.length:Int):=of_decide_eq_true q;replace h:=(if_pos q)▸h;have hm:(pop,aQ.ext (dQ Y.w l))∈bo x dx ox fl [(pop,.ext (dQ Y.w l)),(d,dd)]:=.tail _ (.tail _ (.head _));refine aC.mk (Ev.BU PySem.F.plainAttrs_set Ri PySem.F.type_set_add rfl rfl rfl rfl (Ev.aE ok rfl ⟨om.set hm,.cons rfl (Ev.aE ok rfl (.nil (aG.setAdd rfl hm he hl ?_)))⟩));have e1:=gk (A:=[(x,.other ox),(dx,.ext (cS fl))]) (p:=pop) (r:=.ext (dQ Y.w l)) (r':=.ext (dQ Y.w (l++[e]))) (B:=[(d,dd)]) nd;exists(show(x,aQ.other ox)::(dx,aQ.ext (cS fl))::[(pop,aQ.ext (dQ Y.w l)),(d,dd)]=[(x,.other ox),(dx,.ext (cS fl))]++(pop,aQ.ext (dQ Y.w l))::[(d,dd)]from rfl);exists e1;exact h
 ·have q:¬nt<(il.length:Int):=of_decide_eq_false q;replace h:=(if_neg q)▸h;exact h
theorem Mj{x dx d pop:Z1}{ox:Zp}{fl:Loc}{L:Z1}{e:ZU}{pp:aQ}{aA:List (ZU×AV)}{K:Kn}(ok:Ok Y (λx=>(aT gV).names.lookup x) bK)(eL:Y.env=Zf (Z9 "SequenceMatcher.__chain_b") (aT gV) L 188 (ZB 187))(nd:[x,dx,pop,d].Nodup)(he:(ce aA e).isSome=ZW)(hl:aA.length<=4000)(h:K.nx ((Z9 "elt",.str e)::(Z9 "b2j",.ref d)::ρ) (bo x dx ox fl [(pop,pp),(d,.ext (dP (ZH pw Y.w) (gW aA e)))])):Ex Y ((Z9 "elt",.str e)::(Z9 "b2j",.ref d)::ρ) (bo x dx ox fl [(pop,pp),(d,.ext (dP (ZH pw Y.w) aA))]) (eH (bB (eH (bB (aV gV) 8)) 2)) K:=by refine run ok eL ?_;have hm:(d,aQ.ext (dP (ZH pw Y.w) aA))∈bo x dx ox fl [(pop,pp),(d,.ext (dP (ZH pw Y.w) aA))]:=.tail _ (.tail _ (.tail _ (.head _)));refine⟨Es.Mi (wl _) (Ev.aE ok rfl (Ev.aE ok rfl ⟨d,e,aA,rfl,rfl,hm,hl,he,?_⟩))⟩;have e1:=gk (A:=[(x,.other ox),(dx,.ext (cS fl)),(pop,pp)]) (p:=d) (r:=.ext (dP (ZH pw Y.w) aA)) (r':=.ext (dP (ZH pw Y.w) (gW aA e))) (B:=[]) nd;exists(show(x,aQ.other ox)::(dx,aQ.ext (cS fl))::[(pop,pp),(d,aQ.ext (dP (ZH pw Y.w) aA))]=[(x,.other ox),(dx,.ext (cS fl)),(pop,pp)]++(d,aQ.ext (dP (ZH pw Y.w) aA))::[]from rfl);exists e1;exact h
theorem Af{ps:List (ZU×Z1)}{f:ZU->List AV}{e:ZU}:ce (fW ps f) e=if e∈ps.map (·.1)then Z7 (.lst (f e))else ZT:=by induction ps with|nil=>rfl;|cons p ps ih=>
  obtain⟨y,a⟩:=p;by_cases z:y=e;·exists z;simp[ce,fW]
  ·have e1:ce (fW ((y,a)::ps) f) e=ce (fW ps f) e:=by simp[ce,fW,z]
   have e2:(e∈((y,a)::ps).map (·.1))↔e∈ps.map (·.1):=by rw[Z2,ZZ];exact⟨λh=>h.resolve_left λq=>z q.symm,.inr⟩
   exists e1;exists ih;simp only[e2]
theorem aav{aA:List (ZU×AV)}{x e:ZU}:ce (gW aA x) e=if e=x then ZT else ce aA e:=by induction aA with|nil=>simp[ce,gW];|cons p r ih=>
  obtain⟨y,a⟩:=p;by_cases z:y=x
  ·subst z;have e1:gW ((y,a)::r) y=gW r y:=by simp[gW]
   exists e1;exists ih;by_cases q:e=y;·exists if_pos q;exact bG (if_pos q) rfl
   ·exists if_neg q;exists if_neg q;have:¬y=e:=λh=>q h.symm;simp[ce,this]
  ·have e1:gW ((y,a)::r) x=(y,a)::gW r x:=by simp[gW,z]
   exists e1;by_cases q:y=e;·subst q;simp[ce,z]
   ·have e2:∀{l:List (ZU×AV)},ce ((y,a)::l) e=ce l e:=by intro l;simp[ce,q]
    exists e2;exists e2;exact bG ih rfl
theorem Ge:∀{cJ:List ZU}{aA:List (ZU×AV)}{e:ZU},ce (cJ.foldl gW aA) e=if e∈cJ then ZT else ce aA e:=by intro N';induction N' with|nil=>intro _ _;simp;|cons x cJ ih=>
  intro aA e;exists Wt;exists ih;exists aav;by_cases h:e∈cJ;·exists if_pos h;exact bG (if_pos (.tail _ h)) rfl
  ·exists if_neg h;by_cases q:e=x;·exists if_pos q;exact bG (if_pos (q▸.head _)) rfl
   ·exists if_neg q;exact bG (if_neg (λz=>(ZZ.mp z).elim q h)) rfl
theorem afx(aA:List (ZU×AV))(x:ZU):(gW aA x).length<=aA.length:=Wn _ _
theorem NN:∀(cJ:List ZU)(aA:List (ZU×AV)),(cJ.foldl gW aA).length<=aA.length:=by intro N';induction N' with|nil=>exactλ_=>ZO _;|cons x cJ ih=>exactλaA=>ZC (ih _) (afx aA x)
noncomputable def dh(b:List ZU)(e:ZU):Bool:=decide (200<=b.length)&&decide (b.length/100+1<(cH b b.length e).length)
def jS(b:List ZU)(aA:List (ZU×AV)):Prop:=∀e,(ce aA e).getD (.lst [])=.lst (if dh b e=ZW then[]else cH b b.length e)
noncomputable def jm(b:List ZU)(ps:List (ZU×Z1))(i:Nat):List ZU:=((ps.take i).filter λp=>decide (b.length/100+1<(cH b b.length p.1).length)).map (·.1)
theorem BX{b:List ZU}{ps:List (ZU×Z1)}{i:Nat}:(jm b ps i).Sublist (ps.map (·.1)):=(R4.trans (List.take_sublist _ _)).map _
theorem ade{b:List ZU}{ps:List (ZU×Z1)}{i:Nat}{p:ZU×Z1}(nd:(ps.map (·.1)).Nodup)(h:ps[i]?=Z7 p):p.1∉jm b ps i:=λq=>by refine aR (ZY.mp q) λr hr e=>?_;have hr:=(X0.mp hr).1;obtain⟨hi,hp⟩:=Zo.mp h;rw[<-Yp i ps,ZJ,YY,Yx hi,hp]at nd;exact nd.2.2 _ (ZY.mpr (aj r hr rfl)) _ (.head _) e
theorem adf{b:List ZU}{ps:List (ZU×Z1)}{i:Nat}{p:ZU×Z1}(h:ps[i]?=Z7 p):jm b ps (i+1)=if b.length/100+1<(cH b b.length p.1).length then jm b ps i++[p.1]else jm b ps i:=by
 unfold jm;rw[YX,h,WA,Xx,ZJ];by_cases q:b.length/100+1<(cH b b.length p.1).length;·exists if_pos q;simp[q]
 ·exists if_neg q;simp[q]
theorem K8{b:List ZU}{ps:List (ZU×Z1)}(K:u9 b b.length ps)(h:¬200<=b.length):jS b (fW ps (cH b b.length)):=λe=>by
 have:dh b e=ZS:=by unfold dh;simp[h]
 exists Af;exists this;by_cases q:e∈ps.map (·.1);·exists if_pos q;rfl
 ·exists if_neg q;exists if_neg Ze;exists(z7 (λz=>q ((K.mem e).mpr z)));rfl
theorem K9{b:List ZU}{ps:List (ZU×Z1)}{cJ:List ZU}(K:u9 b b.length ps)(h:200<=b.length)(hp:cJ.Perm (jm b ps ps.length)):jS b (cJ.foldl gW (fW ps (cH b b.length))):=λe=>by
 have hm:e∈cJ↔e∈ps.map (·.1)/\dh b e=ZW:=by
  rw[hp.mem_iff];unfold jm dh;rw[Yn,ZY];simp only[X0,h,decide_true,RR,decide_eq_true_eq];constructor;·rintro⟨p,⟨h1,h2⟩,rfl⟩;exact⟨ZY.mpr (aj p h1 rfl),h2⟩
  ·rintro⟨h1,h2⟩;refine aR (ZY.mp h1) λp hp cy=>?_;subst cy;exact aj p ⟨hp,h2⟩ rfl
 exists Ge;exists Af;by_cases q:e∈ps.map (·.1)
 ·by_cases z:dh b e=ZW;·exists if_pos (hm.mpr ⟨q,z⟩);exists if_pos z;rfl
  ·exists(if_neg (λy=>z (hm.mp y).2));exists if_pos q;exists if_neg z;rfl
 ·exists(if_neg (λy=>q (hm.mp y).1));exists if_neg q;have:cH b b.length e=[]:=z7 λz=>q ((K.mem e).mpr z);exists this;split<;>rfl
theorem LS{jk:AV}{x dx d pop:Z1}{ox:Zp}{fl:Loc}{L:Z1}{b:List ZU}{ps:List (ZU×Z1)}{K:Kn}(ok:Ok Y (λx=>(aT gV).names.lookup x) bK)(eL:Y.env=Zf (Z9 "SequenceMatcher.__chain_b") (aT gV) L 188 (ZB 187))(hn:b.length<=1000)(hK:u9 b b.length ps)(h:∀ρ'(cJ:List ZU)pp,cJ.Perm (jm b ps ps.length)->K.nx ρ' (bo x dx ox fl [(pop,pp),(d,.ext (dP (ZH pw Y.w) (cJ.foldl gW (fW ps (cH b b.length)))))])):kT (ja Y (λx=>(aT gV).names.lookup x) bK (Zf (Z9 "SequenceMatcher.__chain_b") (aT gV) L 188 (ZB 187)) 19) (eH (bB (aV gV) 8)) ((Z9 "n",.int (b.map AV.str).length)::(Z9 "popular",.ref pop)::(Z9 "isjunk",.none)::(Z9 "junk",jk)::(Z9 "b2j",.ref d)::ρ) (bo x dx ox fl [(pop,.ext (dQ Y.w [])),(d,.ext (dP (ZH pw Y.w) (fW ps (cH b b.length))))]) K:=by
 have o4:=hK.len;have FU:(fW ps (cH b b.length)).length=ps.length:=Z4 _;have qj:=F0 b b.length;have tR:∀i,(jm b ps i).length<=ps.length:=λi=>by have:=(BX (b:=b) (ps:=ps) (i:=i)).length_le;rwa[Z4]at this
 refine aC.mk (Bn.fdiv (by decide) (Vz (by decide)) ?_);have e1:((b.map AV.str).length:Int).fdiv 100=((b.length/100:Nat):Int):=by rw[Z4,W2 _ (by decide)];rfl
 exists e1;refine⟨Es.nodup λnd=>Es.post (Es.jD (λC=>rfl) (d0.items (wl _) rfl rfl (Ev.aE ok rfl ⟨d,_,rfl,.tail _ (.tail _ (.tail _ (.head _))),λod=>(fe (λi ρ' O'=>O'=bo x dx ox fl [(pop,.ext (dQ Y.w (jm b ps i))),(d,.ext (f0 od (dP (ZH pw Y.w) (fW ps (cH b b.length)))))]/\Sub ((Z9 "ntest",.int (((b.length/100:Nat):Int)+1))::(Z9 "popular",.ref pop)::[(Z9 "b2j",.ref d)]) ρ') ?_ ?_ ?_ ?_)⟩)))⟩;·refine⟨gk (A:=[(x,.other ox),(dx,.ext (cS fl)),(pop,.ext (dQ Y.w []))]) (B:=[]) nd,?_⟩;exact cq.ok (by kernel_rfl)
 ·rintro i ρ' O'⟨rfl,C⟩;exact .tail _ (.tail _ (.tail _ (.head _)))
 ·rintro i av ρ' O' hs c aN⟨rfl,bh⟩;unfold pi fW at aN;replace aN:=ZN▸XW▸aN;refine aR (Xa.mp aN) λp hp cx=>?_;exists Zz cx;refine Tg.ex ok.holds ?_;have h1:=tR i;have h2:=qj p.1;refine Ex.sub ((bh.cc _ _).cc _ _) (adg (Y:=Y.holds hs c) ok.holds eL nd (by exact(ar 0x3 0x613103c5810709881e1) hn h2) (ade hK.nd hp) (by exact(au 0x4 0x613103c5810f030e430f408f889e1) hn o4 h1) ⟨?_,?_⟩);·exists adf hp;have:(((b.length/100:Nat):Int)+1<((cH b b.length p.1).length:Int))=(b.length/100+1<(cH b b.length p.1).length):=propext Xd;simp only[this];rfl
  ·exact cq.ok (by kernel_rfl)
 ·rintro ρ' O'⟨rfl,bh⟩;have hl:(pi AV.str (fW ps (cH b b.length))).length=ps.length:=by unfold pi;rw[Z4,FU]
  exists hl;refine dT _ _ ((Cv.sub bh).trans (Cv.weak [(x,.other ox),(dx,.ext (cS fl)),(pop,.ext (dQ Y.w (jm b ps ps.length)))] (B:=[]) s9 λg o z=>z.2)) ?_;have h1:=tR ps.length;refine⟨Es.nodup λnd=>Es.jD (λC=>rfl) (d0.set rfl (Ev.aE ok rfl ⟨pop,_,rfl,by exact(au 0x4 0xc262078b021e061c861e811e1) hn o4 h1,.tail _ (.tail _ (.head _)),λod cJ qm=>(fe (λi ρ' O'=>O'=bo x dx ox fl [(pop,.ext (f0 od (dQ Y.w (jm b ps ps.length)))),(d,.ext (dP (ZH pw Y.w) ((cJ.take i).foldl gW (fW ps (cH b b.length)))))]/\Sub [(Z9 "b2j",.ref d)] ρ') ?_ ?_ ?_ ?_)⟩))⟩;·refine⟨gk (A:=[(x,.other ox),(dx,.ext (cS fl))]) (B:=[(d,.ext (dP (ZH pw Y.w) (fW ps (cH b b.length))))]) nd,?_⟩;exact cq.ok (by kernel_rfl)
  ·rintro i ρ' O'⟨rfl,C⟩;exact .tail _ (.tail _ (.head _))
  ·rintro i av ρ' O' hs c aN⟨rfl,bh⟩;replace aN:=ZN▸aN;refine aR (Xa.mp aN) λe he bH=>?_;exists Zz bH;refine Tg.ex ok.holds ?_;have tN:e∉cJ.take i:=λq=>by have gQ:cJ.Nodup:=qm.nodup_iff.mpr (hK.nd.sublist BX);obtain⟨hi,hp⟩:=Zo.mp he;rw[<-Yp i cJ,YY,Yx hi,hp]at gQ;exact gQ.2.2 _ q _ (.head _) rfl
   have k6:e∈ps.map (·.1):=(BX (b:=b)).subset (qm.mem_iff.mp (YN he));have h2:=NN (cJ.take i) (fW ps (cH b b.length));refine Ex.sub (bh.cc _ _) (Mj (Y:=Y.holds hs c) (pp:=.ext (f0 od (dQ Y.w (jm b ps ps.length)))) ok.holds eL nd ?_ (by exact(aU 0x5 0x613103c5810f4326081c061e811e1) hn o4 FU h2) ⟨?_,?_⟩);·exists Ge;exists if_neg tN;exists Af;exists if_pos k6;rfl
   ·rw[YX,he,WA,Yk];rfl
   ·exact cq.ok (by kernel_rfl)
  ·rintro ρ' O'⟨rfl,bh⟩;have:=h ρ' cJ (.ext (f0 od (dQ Y.w (jm b ps ps.length)))) qm;rw[Z4,Yn];exact this
theorem i5.tq{x dx d:Z1}{ox:Zp}{fl:Loc}{b:List ZU}{ps:List (ZU×Z1)}{i:Nat}(ah:i5 Y.w x dx ox fl d b i ps O):Cv Y ρ O ρ (bo x dx ox fl [(d,.ext (dP (ZH pw Y.w) (fW ps (cH b i))))]):=by
 refine(Cv.mem (O':=(d,.ext (dP (ZH pw Y.w) (fy ps)))::(mI ps (cH b i)++bo x dx ox fl [])) (λp hp=>ah.sub p ?_) ?_).trans (Cv.NT.trans Cv.ins)
 ·rcases ZZ.mp hp with rfl|hp;·exact .tail _ (.tail _ (.head _))
  ·refine ZR (ZE.mp hp) (λhp=>?_) (λhp=>?_);·exact .tail _ (.tail _ (.tail _ hp))
   ·rcases ZZ.mp hp with rfl|hp;·exact .head _
    ·exists Zv.mp hp;exact .tail _ (.head _)
 ·have nd:=ah.nd;simp only[ZG,ZZ,not_or]at nd;refine kO nd ?_;clear nd;intro bS bT n6 n7;refine f8 bS λn1 n2 n3=>?_;refine aO bT λn4 n5=>?_;have e1:(mI ps (cH b i)).map (·.1)=ps.map (·.2):=by unfold mI;exists XW;rfl
  rw[Z2,ZJ,e1,ZG,ZE,YY];refine k9 (λq=>q.elim n6 λq=>?_) n7 ?_ (λu hu v hv q=>?_)
  ·simp only[bo,Z2,YS,ZZ,YU,or_false]at q;refine ZR q (λq=>?_) (λq=>?_);·exact n2 q.symm
   ·exact n4 q.symm
  ·simp only[bo,Z2,YS,ZG,ZZ,YU,or_false,not_false_eq_true,Yd,and_true];exact n1
  ·subst q;simp only[bo,Z2,YS,ZZ,YU,or_false]at hv;rcases hv with rfl|rfl;·exact n3 hu
   ·exact n5 hu
theorem lk3{y1 y2 y3:ZU}{a1 a2 a b:AV}{l:Loc}(n:ZU):YA n ((y1,a1)::(y2,a2)::(y3,b)::l)=YA n ((y1,a1)::(y2,a2)::(y3,a)::l)\/(YA n ((y1,a1)::(y2,a2)::(y3,a)::l)=Z7 a/\YA n ((y1,a1)::(y2,a2)::(y3,b)::l)=Z7 b):=by
 exists ZM;exists ZM;exists ZM;exists ZM;exists ZM;exists ZM;cases n==y1
 ·cases n==y2
  ·cases n==y3;·exact .inl rfl
   ·exact .inr ⟨rfl,rfl⟩
  ·exact .inl rfl
 ·exact .inl rfl
theorem LQ{x dx:Z1}{ox:Zp}{fl:Loc}{b:List ZU}(a9:X.A.depth<ZV)(am:gr x dx ox)(hz:fl.length<900)(hb:fl.lookup (Z9 "b")=Z7 (.lst (b.map .str)))(hj:fl.lookup (Z9 "isjunk")=Z7 .none)(zi:fl.lookup (Z9 "autojunk")=Z7 (.bool ZW))(hn:b.length<=1000)(hk:∀w aA pop,w=X.w->jS b aA->k .none (bo x dx ox ((Z9 "bpopular",.ref pop)::(Z9 "bjunk",eM w λC=>ZS)::(Z9 "b2j",lO (ZH pw w) aA)::fl) []++O)):aG X ρ (bo x dx ox fl []++O) (.ref 188) [.ref x] k:=by
 refine aG.ku (nm:=Z9 "__chain_b") (name:=Z9 "SequenceMatcher.__chain_b") (params:=gb gV) (body:=aV gV) (scope:=aT gV) (pm:=_) (ca:=187) (doc:=_) (ns:=[Z9 "self"]) a9 (Ds _) rfl (KB _) rfl rfl (λvs h=>?_) dk dk dk rfl rfl rfl λY ah=>?_;·exact wu h λC=>rfl
 ·refine Ex.post (Ex.gen λK hN C C C=>ah.run (by kernel_rfl) λL eL=>?_);have ok:=ah.ok (by kernel_rfl);have hw:=ah.w;refine aC.mk (Ev.dM ok am rfl hb trivial rz ?_);refine aC.mk (Ev.yD (knd:=ZH pw Y.w) λd hd=>?_);refine aC.mk (b8.cv Cv.ins (b8.dM ok am rfl (XM (Rn hz (by decide))) EJ ?_));refine⟨Es.post (Es.jD (λC=>rfl) (d0.enum rfl (ok.ld (by kernel_rfl) (by kernel_rfl)) (Ev.aE ok rfl ⟨_,rfl,λi ρ' O'=>(∃ps,i5 Y.w x dx ox ((Z9 "b2j",.ref d)::fl) d b i ps O')/\Sub [(Z9 "b2j",.ref d),(Z9 "b",.lst (b.map .str)),(Z9 "self",.ref x)] ρ',?_,λC C C C=>trivial,?_,?_⟩)))⟩;·refine⟨⟨[],⟨Yd,λe=>by simp,ZO _⟩,?_,λp hp=>hp⟩,Sub.refl _⟩;simp only[bo,Z2,YS,ZZ,YU,or_false,not_or]at hd;simp only[YS,ZG,ZZ,YU,or_false,not_or,not_false_eq_true,Yd,and_true];exact⟨⟨Xl am.ne,Xl hd.1⟩,Xl hd.2⟩
  ·rintro i av ρ' O' hs c aN⟨⟨ps,CI⟩,bh⟩;refine aR (El aN) λa ha b5=>?_;subst b5;replace ha:=ZN▸ha;refine aR (Xa.mp ha) λe he b6=>?_;subst b6;refine Tg.ex ok.holds ?_;refine Ex.sub ((bh.cc _ _).cc _ _) (LU (Y:=Y.holds hs c) ok.holds eL he hn CI λv O' BZ JQ=>⟨⟨BZ,JQ⟩,?_⟩);exact cq.ok (by kernel_rfl)
  ·rintro ρ' O'⟨⟨ps,CI⟩,bh⟩;rw[yL,Z4]at CI;refine dT _ _ ((Cv.sub bh).trans CI.tq) ?_;have hK:=CI.keys;have Hk:=CI.nd;clear CI;have cP:=λaA pop=>hk Y.w aA pop hw;refine aC.mk (Ev.ad5 rfl (ok.ld (by kernel_rfl) (by kernel_rfl)) ?_);refine aC.mk (b8.dM ok am rfl (by exists ZF;exact(aD 0x2 0x64b0ebc384c40f889e1) hz) EK ?_);refine aC.mk (Ev.dM ok am rfl hj trivial EL ?_);refine ZP (λz=>(nomatch z)) (λC=>?_);refine aC.mk (Ev.ad4 rfl (ok.ld (by kernel_rfl) (by kernel_rfl)) λpop af2=>?_);refine aC.mk (b8.cv Cv.ins (b8.dM ok am rfl (by exists ZF;exists ZF;exact(aD 0x2 0x325875e1c26207c44f889e1) hz) Nl ?_));refine ZP (by rw[Z4];exact(aD 0x2 0x309881e1e06018060180601806018060180601825e1) hn) ?_;refine aC.mk (Ts.plain (Ev.dM ok am rfl zi trivial EI (Tr.bool ?_)) rfl);refine⟨λC=>?_,λz=>(nomatch z)⟩;have Fq:∀aA pop pp cz,jS b aA->∃ρ' O',Cv Y cz (bo x dx ox ((Z9 "bpopular",.ref pop)::(Z9 "bjunk",eM Y.w λC=>ZS)::(Z9 "b2j",.ref d)::fl) [(pop,pp),(d,.ext (dP (ZH pw Y.w) aA))]) ρ' O'/\k .none (O'++O):=λaA pop pp cz hB=>(dT _ _ ((Cv.drop (.cons_cons _ (.cons_cons _ (.cons _ (.refl _))))).trans (Cv.NU (gN:=(Z9 "bpopular",.ref pop)::(Z9 "bjunk",eM Y.w λC=>ZS)::(Z9 "b2j",lO (ZH pw Y.w) aA)::fl) Mf λn=>?_)) (cP aA pop hB))
   ·refine⟨λq=>?_,λq=>?_⟩
    ·have zj:200<=b.length:=by have:=of_decide_eq_true q;rw[Z4]at this;exact(aD 0x2 0xd85303bf014c0ef) this
     refine⟨λC=>?_,λz=>(nomatch z)⟩;refine LS ok eL hn hK λρ' cJ pp qm=>?_;exact hN _ _ (Fq _ _ _ _ (K9 hK zj qm))
    ·have zj:¬200<=b.length:=by have:=of_decide_eq_false q;rw[Z4]at this;exact(aD 0x2 0x3db0a6077fb014c0ef) this
     refine⟨λz=>(nomatch z),λC=>?_⟩;exact hN _ _ (Fq _ _ _ _ (K8 hK zj))
   ·exact lk3 n
end
noncomputable section
variable{X Y:Fx}{ρ aZ:Loc}{O O':af}{k:AV->af->Prop}
theorem Dr(P:Zr):(aP P).get? 181=Z7 Bg:=by kernel_rfl
theorem KA(P:Zr):(aP P).get? 180=Z7 Bf:=by kernel_rfl
theorem ii.room{name:ZU}{scope:X7}{fa:Z1}{cd:Z3}(ah:ii X Y name scope fa cd){n:Nat}(h:X.A.depth+1<n):Y.A.depth<n:=by refine aR ah.env λL C e=>?_;exists e;exact h
theorem ii.depth{name:ZU}{scope:X7}{fa:Z1}{cd:Z3}(ah:ii X Y name scope fa cd):Y.A.depth=X.A.depth+1:=by refine aR ah.env λL C e=>?_;exists e;rfl
noncomputable def I9(w:ZD)(b:List ZU)(aA:List (ZU×AV))(pop:Z1)(fl:Loc):Loc:=(Z9 "bpopular",.ref pop)::(Z9 "bjunk",eM w λC=>ZS)::(Z9 "b2j",lO (ZH pw w) aA)::(Z9 "fullbcount",.none)::(Z9 "opcodes",.none)::(Z9 "matching_blocks",.none)::(Z9 "b",.lst (b.map .str))::fl
theorem ad2{x dx:Z1}{ox:Zp}{fl:Loc}{b:List ZU}(a9:X.A.depth+1<ZV)(am:gr x dx ox)(hz:fl.length<800)(hb:fl.lookup (Z9 "b")=Z7 .none)(hj:fl.lookup (Z9 "isjunk")=Z7 .none)(zi:fl.lookup (Z9 "autojunk")=Z7 (.bool ZW))(hm:fl.lookup (Z9 "_SequenceMatcher__chain_b")=ZT)(hn:b.length<=1000)(hk:∀w aA pop,w=X.w->jS b aA->k .none (bo x dx ox (I9 w b aA pop fl) []++O)):aG X ρ (bo x dx ox fl []++O) (.ref 181) [.ref x,.lst (b.map .str)] k:=by
 refine aG.ku (nm:=Z9 "set_seq2") (name:=Z9 "SequenceMatcher.set_seq2") (params:=gb sB) (body:=aV sB) (scope:=aT sB) (pm:=_) (ca:=180) (doc:=_) (ns:=[Z9 "self",Z9 "b"]) (Wl a9) (Dr _) rfl (KA _) rfl rfl (λvs h=>?_) dk dk dk rfl rfl rfl λY ah=>?_;·exact po h λC C=>rfl
 ·refine ah.run (by kernel_rfl) λL eL=>?_;have ok:=ah.ok (by kernel_rfl);have hw:=ah.w;have hr:=ah.room a9;refine aC.mk (Ev.dM ok am rfl hb trivial rz ?_);refine ZP (λz=>(nomatch z)) (λC=>?_);refine aC.mk (b8.dM ok am rfl (by exact(aD 0x2 0xc861a78709881e1) hz) rz ?_);refine aC.mk (b8.dM ok am rfl (by exists ZF;exact(aD 0x2 0x6430d3c384c40f889e1) hz) tm ?_);refine aC.mk (b8.dM ok am rfl (by exists ZF;exists ZF;exact(aD 0x2 0x321869e1c26207c44f889e1) hz) vH ?_);refine aC.mk (b8.dM ok am rfl (by exists ZF;exists ZF;exists ZF;exact(aD 0x2 0x190c34f0e13103e227c44f889e1) hz) Nm ?_);refine aC.mk (Ev.AA (f:=188) (λC=>by kernel_rfl) (Ds _) rfl rfl (y:=ZT) (by rw[Y5,Zq];kernel_rfl) rfl (Ev.aE ok rfl ⟨x,dx,_,rfl,am.inst,hm,?_⟩));refine LQ (O:=[]) hr am (by simp only[ZF];exact(aD 0x2 0xc861a78725875f113e227c44f889e1) hz) rfl hj zi hn λw aA pop e hB=>?_;exact hk w aA pop (e.trans hw) hB
end
noncomputable section
section
variable{X Y:Fx}{ρ:Loc}{O O' OL:af}{k:AV->af->Prop}
noncomputable def wA(nm name:ZU)(params:UN)(body:List Y4)(scope:X7)(pm:Z3)(ca df:Z1)(doc:Z3):V4:={name:=nm,qualname:=name,params:=params,body:=.stmts body,scope:=scope,globals:=Xs,closure:=[],defaults:=.ref df,kwdefaults:=.none,doc:=doc,pyModule:=pm,annotations:=ZT,code:=.ref ca,closureTuple:=.none,builtins:=Vq}
set_option backward.match.sparseCases true in theorem LC{prog:YG}{w:ZD}{A:Zw}{s:Z6}{R:Wb->Z6->Prop}{a:Z1}{o:Zp}{fd:V4}{body:List Y4}{args:Args}{binds:List (ZU×Z3)}(a9:A.depth<ZV)(ho:s.heap.get? a=Z7 o)(O2:o.data=.func fd)(qk:s.heap.NoLimit)(ix:s.heap.CodeRec fd.code fd.qualname)(j8:fd.body=.stmts body)(OT:BindsTo s fd args binds)(OX:fd.closure=[])(zG:∀x∈binds,fd.scope.names.lookup x.1=Z7 .local\/(fd.scope.names.lookup x.1=Z7 .cell/\((XF (s.heap.objs.size+1) fd.scope.names []).lookup x.1).isSome=ZW))(h:∀aq,InCallC s (Us fd s.heap.objs.size a).locals (bindL (Us fd s.heap.objs.size a).kindOf binds λC=>ZT) (Us fd s.heap.objs.size a).cells (Qk (Us fd s.heap.objs.size a).kindOf binds λC=>ZT) aq->ZK (model prog w) (A.deeper (Us fd s.heap.objs.size a)) (execs body (Us fd s.heap.objs.size a)) (λf s'=>R (.ok (.ret (match f with|.ret v=>v|_=>.none))) s') (λe s'=>ZK (model prog w) (A.deeper (Us fd s.heap.objs.size a)) (leaving (Us fd s.heap.objs.size a) e) (λC ez=>R (.error e) ez) (λe' ez=>R (.error e') ez) s') aq)(e9:fd.scope.isCoroutine=ZS)(qi:fd.scope.isGenerator=ZS)(hk:fd.scope.kind=.function):Vk (model prog w) A (.call (.ref a) args) R s:=by refine S6 a9 ho O2 e9 qi j8 ix (OT _ _ _ _ ?_);exists OX;refine Ur hk zG λenv he s' x=>?_;subst he;exact⟨qk.keeps x.toInCall.keep,codeAny_func (h s' x)⟩
theorem aG.qA{fa ca df:Z1}{o co D6:Zp}{nm name:ZU}{params:UN}{body:List Y4}{scope:X7}{pm doc:Z3}{l:List AV}{fS items:Array Z3}{n:Nat}{ct:PG}{ns:List ZU}{dv:List Z3}{dl:List AV}(a9:X.A.depth<ZV)(ho:(aP X.w.params).get? fa=Z7 o)(hd:o.data=.func (wA nm name params body scope pm ca df doc))(e9:(aP X.w.params).get? ca=Z7 co)(ix:co.data=.fields fS)(lT:fS[1]?=Z7 (.str name ct))(O3:(aP X.w.params).get? df=Z7 D6)(tE:D6.data=.seq items n)(hb:∀vs:List Z3,vs.length=l.length->∃kk:Option (Array Z3)->SV (List (ZU×Z3)),Ss (wA nm name params body scope pm ca df doc) ⟨vs,[]⟩=seqItems? (.ref df)>>=kk/\kk (Z7 items)=pure (ns.zip (vs++dv)))(zu:∀D h,bb D h dv dl)(gQ:ns.Nodup)(hl:∀x∈ns,scope.names.lookup x=Z7 .local\/scope.names.lookup x=Z7 .cell)(lX:(scope.names.map (·.1)).Nodup)(kZ:scope.kind=.function)(qi:scope.isGenerator=ZS)(tC:scope.isCoroutine=ZS)(h:∀Y,ii X Y name scope fa (.ref ca)->Ex Y (ns.zip (l++dl)) OL body ⟨λC ag=>k .none (ag++O'),λa ag=>k a (ag++O'),λC C=>False,λC C=>False⟩):aG X ρ (OL++O') (.ref fa) l k:=by refine aG.lend (fd:=wA nm name params body scope pm ca df doc) (ns:=ns) (dv:=dv) (dl:=dl) a9 ho hd e9 ix lT ?_ zu gQ hl lX kZ h;intro A R s args tL hr tX qk tD dG kind j8;refine aR (hb args dG) λkk h1 h2=>?_;refine LC (fd:=wA nm name params body scope pm ca df doc) (body:=body) (binds:=ns.zip (args++dv)) hr tX hd qk tD rfl (V8 (k:=kk) rfl (tL _ _ O3) tE h1 h2) rfl kind (λaq Xc=>?_) tC qi kZ;refine iu Xc.done λaH tk b7 C=>?_;subst b7;exact X5 (j8 aH tk ⟨Xc.toInCall.ns,Xc.toInCall.keep,Xc.toInCall.fresh⟩ ⟨Xc.cell,Xc.apart,Xc.above⟩) (λC C x=>x) (λC C x=>x.elim)
end
end
noncomputable section
variable{X Y:Fx}{ρ aZ:Loc}{O O':af}{k:AV->af->Prop}
theorem Dp(P:Zr):(aP P).get? 167=Z7 Bb:=by kernel_rfl
theorem Ky(P:Zr):(aP P).get? 166=Z7 Ba:=by kernel_rfl
theorem Do(P:Zr):(aP P).get? 160=Z7 A9:=by kernel_rfl
theorem Kx(P:Zr):(aP P).get? 159=Z7 A8:=by kernel_rfl
theorem Kw(P:Zr):(aP P).get? 153=Z7 A7:=by kernel_rfl
noncomputable def EP:Loc:=[(Z9 "autojunk",.bool ZW),(Z9 "b",.none),(Z9 "a",.none),(Z9 "isjunk",.none)]
noncomputable def uI(w:ZD)(a b:List ZU)(aA:List (ZU×AV))(pop:Z1):Loc:=I9 w b aA pop ((Z9 "opcodes",.none)::(Z9 "matching_blocks",.none)::(Z9 "a",.lst (a.map .str))::EP)
theorem ad3{x dx:Z1}{ox:Zp}{a b:List ZU}(a9:X.A.depth+2<ZV)(am:gr x dx ox)(hn:b.length<=1000)(hk:∀w aA pop,w=X.w->jS b aA->k .none (bo x dx ox (uI w a b aA pop) []++O)):aG X ρ (bo x dx ox EP []++O) (.ref 167) [.ref x,.lst (a.map .str),.lst (b.map .str)] k:=by
 refine aG.ku (nm:=Z9 "set_seqs") (name:=Z9 "SequenceMatcher.set_seqs") (params:=gb sz) (body:=aV sz) (scope:=aT sz) (pm:=_) (ca:=166) (doc:=_) (ns:=[Z9 "self",Z9 "a",Z9 "b"]) (Wl (Wl a9)) (Dp _) rfl (Ky _) rfl rfl (λvs h=>?_) dk dk dk rfl rfl rfl λY ah=>?_;·exact Gy h λC C C=>rfl
 ·refine ah.run (by kernel_rfl) λL eL=>?_;have ok:=ah.ok (by kernel_rfl);have hw:=ah.w;have hr:Y.A.depth+1<ZV:=by exists ah.depth;exact a9
  refine aC.mk (Ev.ku (f:=174) (λC=>by kernel_rfl) (Dq _) rfl rfl (y:=ZT) (by rw[Y5,Zq];kernel_rfl) rfl rfl (Ev.aE ok rfl ⟨x,dx,_,rfl,am.inst,rfl,.cons rfl (Ev.aE ok rfl (.nil ?_))⟩));refine ad0 (O:=[]) (Wl hr) am (by decide) rfl ?_;refine aC.mk (Ev.ku (f:=181) (λC=>by kernel_rfl) (Dr _) rfl rfl (y:=ZT) (by rw[Y5,Zq];kernel_rfl) rfl rfl (Ev.aE ok rfl ⟨x,dx,_,rfl,am.inst,rfl,.cons rfl (Ev.aE ok rfl (.nil ?_))⟩));refine ad2 (O:=[]) hr am (by show 7<800;decide) rfl rfl rfl rfl hn λw aA pop e hB=>?_;exact hk w aA pop (e.trans hw) hB
theorem aak{x dx:Z1}{ox:Zp}{a b:List ZU}(a9:X.A.depth+3<ZV)(am:gr x dx ox)(hn:b.length<=1000)(hk:∀w aA pop,w=X.w->jS b aA->k .none (bo x dx ox (uI w a b aA pop) []++O)):aG X ρ (bo x dx ox [] []++O) (.ref 160) [.ref x,.none,.lst (a.map .str),.lst (b.map .str)] k:=by
 refine aG.qA (df:=153) (nm:=Z9 "__init__") (name:=Z9 "SequenceMatcher.__init__") (params:=gb sy) (body:=aV sy) (scope:=aT sy) (pm:=_) (ca:=159) (doc:=_) (ns:=[Z9 "self",Z9 "isjunk",Z9 "a",Z9 "b",Z9 "autojunk"]) (dv:=[.bool ZW]) (dl:=[.bool ZW]) (by exact(ar 0x2 0x191448f0e441) a9) (Do _) rfl (Kx _) rfl rfl (Kw _) rfl (λvs h=>?_) (λC C=>.cons (.bool _) .nil) dk dk dk rfl rfl rfl λY ah=>?_;·rcases vs with _|⟨v1,C|⟨v2,C|⟨v3,C|⟨v4,C|⟨v5,vs⟩⟩⟩⟩⟩<;>simp at h;exact aj _ rfl rfl
 ·refine ah.run (by kernel_rfl) λL eL=>?_;have ok:=ah.ok (by kernel_rfl);have hw:=ah.w;have hr:Y.A.depth+2<ZV:=by exists ah.depth;exact a9
  refine aC.mk (b8.dM ok am rfl (by decide) EL ?_);refine aC.mk (b8.dM ok am rfl (by decide) tj ?_);refine aC.mk (b8.dM ok am rfl (by decide) rz ?_);refine aC.mk (b8.dM ok am rfl (by decide) EI ?_);refine aC.mk (Ev.ku (f:=167) (λC=>by kernel_rfl) (Dp _) rfl rfl (y:=ZT) (by rw[Y5,Zq];kernel_rfl) rfl rfl (Ev.aE ok rfl ⟨x,dx,_,rfl,am.inst,rfl,.cons rfl (Ev.aE ok rfl (.cons rfl (Ev.aE ok rfl (.nil ?_))))⟩));refine ad3 (O:=[]) hr am hn λw aA pop e hB=>?_;exact hk w aA pop (e.trans hw) hB
theorem aG.nodup{f:Z3}{l:List AV}(h:(O.map (·.1)).Nodup->aG X ρ O f l k):aG X ρ O f l k:=λE s vs F=>h F.nd E s vs F
theorem aeP{A:Zw}:(sE A).depth=A.depth+1:=by
 have:(Tm "type.__call__" ⟨[.ref 242],[]⟩).weight=1:=by kernel_rfl
 show A.depth+(Tm "type.__call__" ⟨[.ref 242],[]⟩).weight=A.depth+1;exact bG this rfl
theorem aek{a b:List ZU}(a9:X.A.depth+5<ZV)(hn:b.length<=1000)(hk:∀x dx ox w aA pop,gr x dx ox->w=X.w->jS b aA->k (.ref x) (bo x dx ox (uI w a b aA pop) []++O)):aG X ρ O (.ref 242) [.none,.lst (a.map .str),.lst (b.map .str)] k:=by
 refine aG.make (fI:=160) (λC=>by kernel_rfl) (Do _) rfl λx dx ox J=>aG.nodup λnd=>?_;have am:gr x dx ox:=by
  obtain⟨⟨o,h1,h2,h3,h4⟩,bF,C⟩:=J;rw[Z2,ZG]at nd;refine ZR (ZZ.mp h1) (λe=>?_) (λh1=>?_);·cases e;exact⟨h2,h3,h4,bF⟩
  ·exact absurd (ZY.mpr (aj _ h1 rfl)) nd.1
 exact aak (X:=X.at (sE X.A) (Jy X.hh)) (O:=O) (by show(sE X.A).depth+3<_;exists aeP;exact(ar 0x2 0x645133c391448f889e1) a9) am hn λw aA pop e hB=>⟨rfl,hk x dx ox w aA pop am e hB⟩
end
noncomputable section
section
variable{X:Fx}{ρ:Loc}{O O':af}{s s':Z6}{E:Z3->Z6->Prop}{K:Kn}{pos px:XY}
theorem xN{b9:List Z1}{be:YQ}{tg:Zt}{am:Z1}{l:List AV}(ob:Nat->Zp->Prop)(hc:∀i o,ob i o->∃nm vs,o.cls=.type nm/\o.data=.fields vs/\["enumerate","zip","dict_itemiterator","dict_reverseitemiterator","odict_iterator","itertools.zip_longest","itertools.pairwise"].contains nm=ZS)(hi:∀i av o D s(Q:Option Z3->Z6->Prop)(E:Z3->Z6->Prop),l[i]?=Z7 av->s.heap.get? am=Z7 o->ob i o->aJ b9 be D s.heap->(∀v h' tk o',aX D s.heap v av->h'.get? am=Z7 o'->ob (i+1) o'->(∀b o,b≠am->s.heap.get? b=Z7 o->h'.get? b=Z7 o)->Q (Z7 v) {s with heap:=h',toks:=tk})->ZK (model pw X.w) X.A (VU (.ref am)) Q E s)(hd:∀o D s(Q:Option Z3->Z6->Prop)(E:Z3->Z6->Prop),s.heap.get? am=Z7 o->ob l.length o->aJ b9 be D s.heap->(∀h' tk,(∀b o,b≠am->s.heap.get? b=Z7 o->h'.get? b=Z7 o)->Q ZT {s with heap:=h',toks:=tk})->ZK (model pw X.w) X.A (VU (.ref am)) Q E s):pR X b9 be tg (.ref am) l (λC=>True) (λi hs=>∃o,hs=[(am,o)]/\ob i o)where
 item:=λi av hs ρ O s Q E aN hI C F st hQ=>by refine aR hI ?_;clear hI;intro o bJ ho;subst bJ;refine hi i av o _ s Q E aN (F.nz (.head _)) ho st λv h' tk o' rv e' cN hk=>hQ _ _ λQ2 E2 qc=>?_;refine fG (hc _ _ cN) λnm vs c1 c2 c3=>?_;refine Aq (s:={s with heap:=h',toks:=tk}) e' c1 c2 c3 ?_;have RH:=F.mQ (s':={s with heap:=h',toks:=tk}) (hs':=[(am,o')]) (λb o hb eb=>hk b o (by simpa using hb) eb) (λq hq=>by exists Zv.mp hq;exact e') (λa ha=>.inl ha) (by simp) F.gens rfl;exact qc _ _ (aj o' rfl cN) RH.1 RH.2 (rv.move RH.2)
 done:=λhs ρ O s Q E hI C F st hQ=>by refine aR hI ?_;clear hI;intro o b7 ho;subst b7;refine hd o _ s Q E (F.nz (.head _)) ho st λh' tk hk=>?_;have:=F.n8 (s':={s with heap:=h',toks:=tk}) (λb o hb eb=>hk b o (by simpa using hb) eb) F.gens rfl;exact hQ _ this.1 this.2
theorem Fr.wd{h':YQ}{o:Zp}{tk:Nat}(F:Fr X ρ O s)(hf:o.isFreed=ZS):Fr X ρ (bf [(s.heap.objs.size,o)]++O) {s with heap:=s.heap.push o,toks:=tk}/\aJ (ak X O) s.heap (ak X (bf [(s.heap.objs.size,o)]++O)) (s.heap.push o):=⟨F.alloc (o:=o) (ao:=.other o) hf rfl,(mW (fY s.heap)).trans (aJ.of λC C e=>ZX _ e)⟩
theorem d0.lst{tg e:Zt}{k:List AV->af->(af->Prop)->Prop}(h:Ev X ρ O e λa ag=>∃l,a=.lst l/\k l ag λC=>True):d0 X ρ O tg e k:=λE s F=>by refine wm (h _ s F) (λv aq x=>?_);obtain⟨a,ag,aw,aI,a5,l,e,aH⟩:=x;subst e;cases a5.iL with|@mk ad vs n hd hg rl=>
  refine VH (cX _ hg rfl n rfl) ?_;have bF:ad≠aq.heap.objs.size:=X6 (Zc hg);refine aO (aw.wd (h':=aq.heap) (o:=gB ad 0) (tk:=aq.toks) rfl) λaS aY=>?_;have B8:=rl.move aY;refine⟨l,_,_,[(aq.heap.objs.size,gB ad 0)],ag,xN (λi o=>o.cls=.type "list_iterator"/\o.data=.fields #[.ref ad,.int i 0]) (λi o h=>eu _ _ h.1 h.2 (by decide)) (λi av o D s Q E aN ho hb st hQ=>?_) (λo D s Q E ho hb st hQ=>?_),(cQ _ rfl rfl rfl),aS,aI.trans aY,aH⟩;·refine aR (B8.get aN) λv hv rv=>?_;have hl:s.heap.IsList ad vs:=cX _ ((st _ _ (aY _ _ hd hg).1 (aY _ _ hd hg).2).2) rfl n rfl;refine Tk (cQ o ho hb.1 hb.2) hl (x:=v) (by simpa using hv) λh' jd hs'=>?_;refine dE jd ?_;clear jd;intro o' e1 e2 e3;exact hQ v h' s.toks o' (rv.move st) e1 ⟨e2,e3⟩ λb o hb e=>hs'.extBut b o hb e
  ·have hl:s.heap.IsList ad vs:=cX _ ((st _ _ (aY _ _ hd hg).1 (aY _ _ hd hg).2).2) rfl n rfl;exact S5 X.hh (cQ o ho hb.1 hb.2) hl (by have:=rl.size;simp[this]) λh' ny=>hQ h' s.toks λb o hb e=>ny b o hb e
noncomputable def IU(a n:Int):Zp:={cls:=.type "range_iterator",data:=.fields #[Yc a,Yc n,Yc 1]}
theorem IV{tg:Zt}{a b:Int}{t u w:PG}{tk:Nat}{k:List AV->af->(af->Prop)->Prop}{ag:af}{aq:Z6}(aw:Fr X ρ ag aq)(aI:aJ (ak X O) s.heap (ak X ag) aq.heap)(ha:-(2^62)<=a)(rC:a<2^62)(hb:-(2^62)<=b)(jG:b<2^62)(h:k (dO a (b-a).toNat) ag λC=>True):ZK (model pw X.w) X.A (RK (.ref aq.heap.objs.size)) (yd X ρ O s tg k) E {aq with heap:=aq.heap.push {cls:=.type "range",data:=.fields #[.int a t,.int b u,.int 1 w]},toks:=tk}:=by
 refine RG (PE ..) (small_one ha rC hb jG) ?_;have hsz:TL a b 1=((b-a).toNat:Int):=IW;have g:=fX.push aq {cls:=.type "range",data:=.fields #[.int a t,.int b u,.int 1 w]} tk;have aS:=aw.grow g;exists hsz;refine aO (aS.wd (h':=aq.heap) (o:=IU a (b-a).toNat) (tk:=tk) rfl) λeV gG=>?_;have ln:(dO a (b-a).toNat).length=(b-a).toNat:=by simp[dO]
 refine⟨dO a (b-a).toNat,_,_,_,ag,xN (λi o=>o=IU (a+(i:Int)) (((b-a).toNat:Int)-(i:Int))) (λi o h=>by subst h;exact eu ("range_iterator") _ rfl rfl (by decide)) (λi av o D s Q E aN ho hb st hQ=>?_) (λo D s Q E ho hb st hQ=>?_),(aj _ rfl ?_),eV,(aI.trans g.nZ).trans gG,h⟩
 ·subst hb;have hi:i<(b-a).toNat:=by have:=(Zo.mp aN).1;rwa[ln]at this
  have e1:av=.int (a+(i:Int)):=by unfold dO at aN;replace aN:=(WQ hi)▸ZN▸aN;cases aN;rfl
  subst e1;refine wpAny_pyNext_range_item ho ((ar 0x2 0x1908b921042f) hi) λh' jd hs'=>?_;refine hQ _ h' _ _ (.int _ _) jd ?_ λb o hb e=>hs'.extBut b o hb e;have e1:a+((i+1:Nat):Int)=a+(i:Int)+1:=jN 0x1 0xec44f8844e8da227844e;have e2:((b-a).toNat:Int)-((i+1:Nat):Int)=((b-a).toNat:Int)-(i:Int)-1:=ar 0x1 0x3b213e420cad113c41;exists e1;exists e2;rfl
 ·subst hb;replace ho:=ln▸ho;exact wpAny_pyNext_range_end X.hh ho (aD 0x1 0x3617c821) λh' ny=>hQ h' s.toks λb o hb e=>ny b o hb e
 ·have e1:a+((0:Nat):Int)=a:=fx 0x1 0x1d0ba360bc2e;have e2:((b-a).toNat:Int)-((0:Nat):Int)=((b-a).toNat:Int):=aD 0x1 0x7432b05e1;exists e1;exact bG e2 rfl
theorem d0.uC{tg cw eF:Zt}{k:List AV->af->(af->Prop)->Prop}(hs:[cw,eF].any dH=ZS)(hl:Ld X (Z9 "range") (.type "range"))(h:cC X ρ O [cw,eF] λl ag=>∃a b,l=[.int a,.int b]/\-(2^62)<=a/\a<2^62/\-(2^62)<=b/\b<2^62/\k (dO a (b-a).toNat) ag λC=>True):d0 X ρ O tg (.Call (.Name (Z9 "range") px) [cw,eF] [] pos) k:=λE s F=>by refine Yv (hl E s px _ F.base (callWith_type1 (wm (h _ s pos F) (λvs aq x=>?_)) (kC hs) (lq (by rw[YF,YM]at hs;exact hs.2))));obtain⟨l,ag,aw,aI,a5,a,b,e,h1,h2,h3,h4,hk⟩:=x;subst e;obtain⟨r1,r2⟩:=a5.i2;cases r1.iI;cases r2.iI;exact call_range_2 (IV aw aI h1 h2 h3 h4 hk)
theorem d0.uB{tg cw:Zt}{k:List AV->af->(af->Prop)->Prop}(hs:[cw].any dH=ZS)(hl:Ld X (Z9 "range") (.type "range"))(h:cC X ρ O [cw] λl ag=>∃b,l=[.int b]/\-(2^62)<=b/\b<2^62/\k (dO 0 b.toNat) ag λC=>True):d0 X ρ O tg (.Call (.Name (Z9 "range") px) [cw] [] pos) k:=λE s F=>by refine Yv (hl E s px _ F.base (callWith_type1 (wm (h _ s pos F) (λvs aq x=>?_)) (kC hs) (lq (by rw[YF,YM]at hs;exact hs.2))));obtain⟨l,ag,aw,aI,a5,b,e,h3,h4,hk⟩:=x;subst e;obtain⟨r1⟩:=a5.i1;cases r1.iI;refine call_range_1 (IV aw aI (by decide) (by decide) h3 h4 ?_);rw[Int.sub_zero];exact hk
end
end
noncomputable section
variable{X Y:Fx}{ρ aZ:Loc}{O O':af}{k:AV->af->Prop}
theorem Dt(P:Zr):(aP P).get? 196=Z7 Bm:=by kernel_rfl
theorem KD(P:Zr):(aP P).get? 195=Z7 Bl:=by kernel_rfl
theorem KC(P:Zr):(aP P).get? 189=Z7 Bj:=by kernel_rfl
noncomputable def Lz(L:Nat->Nat)(x:Int):Nat:=if 0<=x then L x.toNat else 0
def JK(L:Nat->Nat)(aA:List (Int×AV)):Prop:=∀x:Int,(ce aA x).getD (.int 0)=.int (Lz L x)
theorem J2(L:Nat->Nat)(j:Nat):Lz L ((j:Int)-1)=dN L j:=by cases j with|zero=>rfl;|succ j=>
  have:(((j+1:Nat):Int)-1)=(j:Int):=by exact aD 0x1 0x3a1909f6889e1
  exists this;unfold Lz dN;exists if_pos (YD j);rfl
theorem Gd:JK (λC=>0) []:=λx=>by unfold Lz;split<;>rfl
theorem aau{aA:List (Int×AV)}{x e:Int}{a:AV}:ce (pH aA x a) e=if e=x then Z7 a else ce aA e:=by
 unfold pH;by_cases h:(aA.any λy=>y.1=x)=ZW;·exists if_pos h;induction aA with|nil=>simp at h;|cons p r ih=>
   obtain⟨y,b⟩:=p;by_cases z:y=x
   ·subst z;by_cases q:e=y;·subst q;simp[ce]
    ·exists if_neg q;have q':¬y=e:=λh=>q h.symm;by_cases hr:(r.any λy'=>y'.1=y)=ZW;·have:=ih hr;rw[if_neg q]at this;simpa[ce,q']using this
     ·have Ph:r.map (λx=>if x.1=y then(x.1,a)else x)=r:=by
       conv=>rhs;rw[<-Vf r]
       refine X9 λu hu=>if_neg λe=>hr ?_;exact Ra.mpr (aj u hu (by simpa using e))
      exists Z2;exists Ph;simp[ce,q']
   ·have hr:(r.any λy'=>y'.1=x)=ZW:=by simpa[z]using h
    have:=ih hr;by_cases q:y=e;·subst q;exists if_neg z;simp[ce,z]
    ·simpa[ce,z,q]using this
 ·exists if_neg h;induction aA with|nil=>
   by_cases q:e=x;·subst q;simp[ce]
   ·have q':¬x=e:=λh=>q h.symm;exists if_neg q;simp[ce,q'];|cons p r ih=>
   obtain⟨y,b⟩:=p;have hz:¬y=x:=λz=>h (by simp[z]);have hr:¬(r.any λy'=>y'.1=x)=ZW:=λz=>h (by exists YF;rw[z,PM]);have:=ih hr;by_cases q:y=e;·subst q;exists if_neg hz;simp[ce]
   ·simpa[ce,q]using this
theorem aev(aA:List (Int×AV))(x:Int)(a:AV):(pH aA x a).length<=aA.length+1:=by
 unfold pH;split;·rw[Z4];exact SO _
 ·exists ZQ;exact ZO _
theorem aat{L:Nat->Nat}{aA:List (Int×AV)}{j m:Nat}(h:JK L aA):JK (λx=>if x=j then m else L x) (pH aA (j:Int) (.int m)):=λx=>by
 exists aau;by_cases q:x=(j:Int);·exists q;exists if_pos rfl;unfold Lz;exists if_pos (YD j);simp
 ·exists if_neg q;exists h x;unfold Lz;by_cases z:0<=x
  ·exists if_pos z;exists if_pos z;have:x.toNat≠j:=by exact Ar.bA 0x4 0x7ba11bb63705e30746eb0b637582ff6822 [_,_,0] [0,0,_] (by kernel_rfl) q z (@Zn (x))
   show AV.int (L x.toNat)=AV.int ((if x.toNat=j then m else L x.toNat:Nat):Int);exact bG (if_neg this) rfl
  ·exists if_neg z;exact bG (if_neg z) rfl
theorem adl{B:af}{p:Z1}{r r':aQ}(nd:(((p,r)::B).map (·.1)).Nodup):bp ((p,r)::B) p r'=(p,r')::B:=gk (A:=[]) nd
theorem DK{i p:Nat}(h:p<=i):AV.int ((i:Int)-((p+1:Nat):Int)+1)=AV.int ((i-p:Nat):Int):=congrArg AV.int (by exact(ar 0x2 0x301176d2106227cad113c41) h)
structure mi where
 bj:AV
 pX:AV
 la:AV
 lb:AV
 ae:Nat
 V:Nat
 aa:Nat
 I:Nat
noncomputable def tp(e:mi):Loc:=[(Z9 "bhi",.int e.I),(Z9 "blo",.int e.aa),(Z9 "isbjunk",e.bj),(Z9 "b2j",e.pX),(Z9 "b",e.lb),(Z9 "a",e.la),(Z9 "nothing",.lst []),(Z9 "ahi",.int e.V),(Z9 "alo",.int e.ae)]
noncomputable def rA(d d2:Z1)(st:FS)(i:Nat)(e:mi):Loc:=(Z9 "newj2len",.ref d2)::(Z9 "j2lenget",jy "dict.get" (.ref d))::(Z9 "bestsize",.int st.best.m)::(Z9 "bestj",.int st.best.j)::(Z9 "besti",.int st.best.i)::(Z9 "i",.int i)::tp e
noncomputable def np(w:ZD)(d d2:Z1)(aA ff:List (Int×AV))(R:af):af:=(d2,.ext (dP (Xu pw w) ff))::(d,.ext (dP (Xu pw w) aA))::R
theorem NF{d d2 L:Z1}{aA ff:List (Int×AV)}{L0:Nat->Nat}{st:FS}{i j:Nat}{e:mi}{R:af}{K:Kn}(ok:Ok Y (λx=>(aT fh).names.lookup x) bK)(eL:Y.env=Zf (Z9 "SequenceMatcher.find_longest_match") (aT fh) L 196 (ZB 195))(hk:JK L0 aA)(Px:JK st.L ff)(hl:ff.length<=2000)(hp:dN L0 j<=i)(hq:dN L0 j<=j)(nd:((np Y.w d d2 aA ff R).map (·.1)).Nodup)(h1:j<e.aa->K.ct ((Z9 "j",.int j)::rA d d2 st i e) (np Y.w d d2 aA ff R))(h2:e.I<=j->K.bk ((Z9 "j",.int j)::rA d d2 st i e) (np Y.w d d2 aA ff R))(h3:e.aa<=j->j<e.I->∀ρ' uq,JK (kU i L0 st j).L uq->uq.length<=ff.length+1->Sub (rA d d2 (kU i L0 st j) i e) ρ'->K.nx ρ' (np Y.w d d2 aA uq R)):Ex Y ((Z9 "j",.int j)::rA d d2 st i e) (np Y.w d d2 aA ff R) (eH (bB (eH (bB (aV fh) 7)) 2)) K:=by
 refine run ok eL ?_;refine ZP (λq=>?_) (λq=>?_);·have q:=of_decide_eq_true q;exact h1 (by exact(ar 0x2 0x3820e441) q)
 ·have q:=of_decide_eq_false q;refine ZP (λq2=>?_) (λq2=>?_);·have q2:=of_decide_eq_true q2;exact h2 (by exact(ar 0x2 0x3620e041) q2)
  ·have q2:=of_decide_eq_false q2;have h3:=h3 (by exact(ar 0x2 0x7b8116041) q) (by exact(ar 0x2 0x7b6116441) q2);clear h1 h2;refine aC.mk (Ev.Lw ok (Gh _) rfl rfl (bO ok (n:=5) ?_));refine bO ok (n:=5) ?_;refine eu ((j:Int)-1) aA rfl (.inl (eu d _ rfl (.tail _ (.head _)) (λC C z=>z))) ?_;rw[hk,J2];refine aC.mk (b8.Mz (Gh _) trivial (Ev.aE ok rfl (Ev.aE ok rfl ⟨d2,(j:Int),ff,rfl,rfl,.head _,by exact(aD 0x2 0xc461f809e1c061e811e1) hl,?_⟩)));unfold np at nd⊢;exists adl nd;have e1:((dN L0 j:Nat):Int)+1=((dN L0 j+1:Nat):Int):=rfl;exists e1;have hj:=aat (j:=j) (m:=dN L0 j+1) Px;have nB:=aev ff (j:Int) (.int ((dN L0 j+1:Nat):Int));refine ZP (λc=>?_) (λc=>?_)
   ·have c:=of_decide_eq_true c;have e2:kU i L0 st j=⟨⟨dN L0 j+1,i-dN L0 j,j-dN L0 j⟩,λx=>if x=j then dN L0 j+1 else st.L x⟩:=by unfold kU;exact bG (if_pos (by exact(ar 0x2 0x1cb444f1073113c41) c)) rfl
    rw[e2]at h3;exact h3 _ _ hj nB (jW.ok ⟨(aj _ rfl rfl),(aj _ rfl rfl),(aj _ rfl rfl),(aj _ rfl (DK hq)),(aj _ rfl (DK hp)),(aj _ rfl rfl),(aj _ rfl rfl),(aj _ rfl rfl),(aj _ rfl rfl),(aj _ rfl rfl),(aj _ rfl rfl),(aj _ rfl rfl),(aj _ rfl rfl),(aj _ rfl rfl),(aj _ rfl rfl),trivial⟩)
   ·have c:=of_decide_eq_false c;have e2:kU i L0 st j=⟨st.best,λx=>if x=j then dN L0 j+1 else st.L x⟩:=by unfold kU;exact bG (if_neg (by exact(ar 0x2 0x7b96889e20fb3113c41) c)) rfl
    rw[e2]at h3;exact h3 _ _ hj nB (cq.ok (by kernel_rfl))
noncomputable def iJ(b:List ZU)(e:ZU):List Nat:=if dh b e=ZW then[]else(Zh b.length).filter λ(j:Nat)=>decide (b[j]?=Z7 e)
theorem LI(b:List ZU)(e:ZU):(iJ b e).map (λ(j:Nat)=>AV.int (j:Int))=if dh b e=ZW then[]else cH b b.length e:=by unfold iJ;split<;>rfl
noncomputable def lg(aa I j:Nat):Bool:=decide (aa<=j)&&decide (j<I)
theorem Ni{a b:List ZU}{i aa I:Nat}{e:ZU}(h:a[i]?=Z7 e):vG a b (λx=>!dh b x) aa I i b.length=(iJ b e).filter (lg aa I):=by
 have e1:a.getD i XZ=e:=vN h;unfold vG iJ lg;exists e1;exists h;by_cases z:dh b e=ZW;·exists if_pos z;simp only[z];simp
 ·have z':dh b e=ZS:=by simpa using z
  exists if_neg z;exists List.filter_filter;simp only[z'];refine List.filter_congr λj C=>?_;simp only[SE,RQ];congr 1;exact decide_eq_decide.mpr ⟨Zz,Zz⟩
theorem LK(b:List ZU)(e:ZU):(iJ b e).Pairwise (·<·):=by
 unfold iJ;split;·exact .nil
 ·exact List.Pairwise.filter _ List.pairwise_lt_range
theorem LJ(b:List ZU)(e:ZU):(iJ b e).length<=b.length:=by
 unfold iJ;split;·exact ZI _
 ·exact ZC (Wn _ _) (by exists Xj;exact ZO _)
noncomputable def lS(i:Nat)(st:FS)(cs:List Nat)(aa I m:Nat):FS:=((cs.take m).filter (lg aa I)).foldl (kU i st.L) ⟨st.best,λC=>0⟩
theorem NW{i:Nat}{st:FS}{cs:List Nat}{aa I m j:Nat}(h:cs[m]?=Z7 j):lS i st cs aa I (m+1)=if lg aa I j=ZW then kU i st.L (lS i st cs aa I m) j else lS i st cs aa I m:=by
 unfold lS;exists YX;rw[h,WA,Xx,Yk];by_cases z:lg aa I j=ZW;·exists if_pos z;simp[z]
 ·exists if_neg z;simp[z]
theorem NV{i:Nat}{st:FS}{cs:List Nat}{aa I m j:Nat}(hs:cs.Pairwise (·<·))(h:cs[m]?=Z7 j)(hj:I<=j):lS i st cs aa I m=(cs.filter (lg aa I)).foldl (kU i st.L) ⟨st.best,λC=>0⟩:=by
 unfold lS;congr 1;obtain⟨hm,e⟩:=Zo.mp h;have hd:(cs.drop m).filter (lg aa I)=[]:=by
  rw[VA];intro x hx;have:j<=x:=by
   rw[Yx hm,e]at hx;rcases ZZ.mp hx with rfl|hx;·exact ZO _
   ·have hs':(cs.drop m).Pairwise (·<·):=hs.sublist (List.drop_sublist _ _);rw[Yx hm,e]at hs';exact XM ((List.pairwise_cons.mp hs').1 x hx)
  unfold lg;simp only[Yo,decide_eq_true_eq,not_and];exact(aU 0x4 0x6083c088307b2316041) hj this
 conv=>rhs;rw[<-Yp m cs,Xx,hd,ZA]
theorem NE{d L:Z1}{b:List ZU}{x:ZU}{aA:List (Int×AV)}{pU:List (ZU×AV)}{w:ZD}{st:FS}{i:Nat}{e:mi}{a:List ZU}{R:af}{K:Kn}(ok:Ok Y (λx=>(aT fh).names.lookup x) bK)(eL:Y.env=Zf (Z9 "SequenceMatcher.find_longest_match") (aT fh) L 196 (ZB 195))(hw:w=Y.w)(mz:e.la=.lst (a.map .str))(nw:e.pX=lO (ZH pw w) pU)(hB:jS b pU)(hx:a[i]?=Z7 x)(hn:b.length<=1000)(hi:i<2^62)(hk:JK st.L aA)(hp:∀j,dN st.L j<=i/\dN st.L j<=j)(h:∀d2 ρ' ff,JK (jC a b (λx=>!dh b x) e.aa e.I i b.length st).L ff->Sub ((Z9 "j2len",.ref d2)::rA d d2 (jC a b (λx=>!dh b x) e.aa e.I i b.length st) i e) ρ'->((np Y.w d d2 aA ff R).map (·.1)).Nodup->K.nx ρ' (np Y.w d d2 aA ff R)):Ex Y ((Z9 "i",.int i)::(Z9 "j2len",.ref d)::(Z9 "bestsize",.int st.best.m)::(Z9 "bestj",.int st.best.j)::(Z9 "besti",.int st.best.i)::tp e) ((d,.ext (dP (Xu pw Y.w) aA))::R) (eH (bB (aV fh) 7)) K:=by
 subst hw;refine run ok eL ?_;refine aC.mk (Ev.dictGet (Ev.aE ok rfl (aj aA (.inl (eu d _ rfl (.head _) (λC C z=>z))) ?_)) rfl);refine aC.mk (Ev.yD (knd:=Xu pw Y.w) λd2 Fl=>?_);have FN:(∀m j,(iJ b x)[m]?=Z7 j->e.I<=j->lS i st (iJ b x) e.aa e.I m=jC a b (λx=>!dh b x) e.aa e.I i b.length st)/\lS i st (iJ b x) e.aa e.I (iJ b x).length=jC a b (λx=>!dh b x) e.aa e.I i b.length st:=by unfold jC;exists Ni hx;refine⟨λm j h1 h2=>NV (LK b x) h1 h2,?_⟩;unfold lS;exact bG Yn rfl
 have qe:=LJ b x;refine⟨Es.nodup λnd=>Es.post (Es.jD (λC=>rfl) (d0.lst (Ev.BU VP Vr S9 rfl rfl rfl rfl (Ev.aE ok rfl ⟨om.dict (knd:=ZH pw Y.w) (.inr nw),.cons rfl (Ev.sub (Ev.aE ok rfl (Ev.aE ok rfl (Ix.list trivial (.inl mz) (YD i) (Wf (Xd.mpr hi) (by decide)) (x:=.str x) (by rw[Y6,ZN,hx];rfl) (.cons rfl (Ev.aE ok rfl (.nil (aG.Mp (wl _) (.inr nw) ⟨(iJ b x).map (λ(j:Nat)=>AV.int (j:Int)),(hB x).trans (by rw[LI]),λm ρ' O'=>∃ff,JK (lS i st (iJ b x) e.aa e.I m).L ff/\ff.length<=m/\O'=np Y.w d d2 aA ff R/\Sub (rA d d2 (lS i st (iJ b x) e.aa e.I m) i e) ρ',?_,λC C C C=>trivial,?_,?_⟩))))))))⟩))))⟩;·refine fe ([]) Gd (ZO _) rfl ?_;exact cq.ok (by kernel_rfl)
 ·rintro m av ρ' O' hs c aN⟨ff,g1,g2,rfl,bh⟩;rw[ZN]at aN;refine aR (Xa.mp aN) λj hj cy=>?_;subst cy;have hm:m<(iJ b x).length:=(Zo.mp hj).1;have rN:=NW (i:=i) (st:=st) (aa:=e.aa) (I:=e.I) hj;refine Tg.ex ok.holds ?_;refine Ex.sub (bh.cc _ _) (NF (Y:=Y.holds hs c) (aA:=aA) (R:=R) ok.holds eL hk g1 (by exact(aU 0x5 0x613103c5810f040e464c461f809e1) hn qe g2 hm) (hp j).1 (hp j).2 nd (λq=>?_) (λq=>?_) λq1 q2 eU uq g3 g4 hs'=>?_)
  ·have z:lg e.aa e.I j=ZS:=by unfold lg;exists decide_eq_false (Nat.not_le.mpr q);rfl
   rw[z,if_neg Ze]at rN;refine fe ff ?_ (WV g2) rfl ?_;·exists rN;exact g1
   ·exists rN;exact cq.ok (by kernel_rfl)
  ·rw[FN.1 m j hj q]at g1⊢;refine dT _ _ Cv.refl ?_;refine h d2 _ ff g1 ?_ nd;exact cq.ok (by kernel_rfl)
  ·have z:lg e.aa e.I j=ZW:=by unfold lg;exists decide_eq_true q1;exists decide_eq_true q2;rfl
   rw[if_pos z]at rN;refine fe uq ?_ (by exact(au 0x3 0x6043c444f1871113c41) g2 g4) rfl ?_;·exists rN;exact g3
   ·exists rN;exact hs'
 ·rintro ρ' O'⟨ff,g1,g2,rfl,bh⟩;rw[Z4,FN.2]at g1 bh;refine dT _ _ (Cv.sub bh) ?_;exact h d2 _ ff g1 (Sub.refl _) nd
end
noncomputable section
variable{X Y:Fx}{ρ aZ:Loc}{O O':af}{k:AV->af->Prop}
inductive GZ(i j m:Int)(g:Z1->Option Zp)(v:Z3):Prop|mk(a o t u w n)(e:v=.ref a)(hg:g a=some o)(hc:o.cls=.ref 135)(hd:o.data=.seq #[.int i t,.int j u,.int m w] n)(hs:o.slots=#[])
noncomputable def lp(i j m:Int):AV:=.ext (GZ i j m)
theorem abO{i j m:Int}:qX (GZ i j m):=λg g' v hg h=>by cases h with|mk a o t u w n e h1 h2 h3 h4=>exact⟨a,o,t,u,w,n,e,hg a o h1,h2,h3,h4⟩
def C9:Prop:=∀(X:Fx)(ρ:Loc)(O:af)(cw eF rr:Zt)(px pos:XY)(k:AV->af->Prop),X.env.kindOf (Z9 "Match")=Z7 .globalImplicit->X.A.depth+2<ZV->[cw,eF,rr].any dH=ZS->(cC X ρ O [cw,eF,rr] λl ag=>∃i j m,l=[.int i,.int j,.int m]/\k (lp i j m) ag)->Ev X ρ O (.Call (.Name (Z9 "Match") px) [cw,eF,rr] [] pos) k
noncomputable def hZ(bi bj bs:Nat)(e:mi):Loc:=(Z9 "bestsize",.int bs)::(Z9 "bestj",.int bj)::(Z9 "besti",.int bi)::tp e
theorem adi{a b:List ZU}{S:ZU->Bool}{ae V aa I i:Nat}{L:Nat->Nat}(h:sU a b S ae V aa I i L)(j:Nat):dN L j<=i/\dN L j<=j:=by
 refine ZR (W6 (dN L j)) (λz=>?_) (λz=>?_);·exists z;exact⟨ZI _,ZI _⟩
 ·refine fG ((BY h (dN L j) z).mp (ZO _)) λp q e1 e2 C=>?_;exact⟨(au 0x43 0xd0e2116061) e1,(au 0x43 0xd0e2116061) e2⟩
theorem Ny{d L:Z1}{a b:List ZU}{pU:List (ZU×AV)}{w:ZD}{e:mi}{R:af}{K:Kn}(ok:Ok Y (λx=>(aT fh).names.lookup x) bK)(eL:Y.env=Zf (Z9 "SequenceMatcher.find_longest_match") (aT fh) L 196 (ZB 195))(hw:w=Y.w)(mz:e.la=.lst (a.map .str))(nw:e.pX=lO (ZH pw w) pU)(hB:jS b pU)(hn:b.length<=1000)(fc:a.length<=1100)(h1:e.ae<=e.V)(ha:e.V<=a.length)(hb:e.I<=b.length)(h:∀ρ' O',Cv Y ρ' O' (hZ (i9 a b (λx=>!dh b x) e.ae e.V e.aa e.I).i (i9 a b (λx=>!dh b x) e.ae e.V e.aa e.I).j (i9 a b (λx=>!dh b x) e.ae e.V e.aa e.I).m e) R->K.nx ρ' O'):Es Y ((Z9 "j2len",.ref d)::(Z9 "bestsize",.int (0:Nat))::(Z9 "bestj",.int e.aa)::(Z9 "besti",.int e.ae)::tp e) ((d,.ext (dP (Xu pw Y.w) []))::R) (bB (aV fh) 7) K:=by
 refine lR ok eL 20 _ _ _ _ ?_;have hN:((e.V:Int)-(e.ae:Int)).toNat=e.V-e.ae:=(au 0x3 0x3076430d85b90c360bc60d05e2dd82f90c3a90c22) (@Zn ((↑e.V:Int)-(↑e.ae:Int))) (@YR ((↑e.V:Int)-(↑e.ae:Int)));refine⟨Es.nodup λnd=>Es.jD (λC=>rfl) (d0.uC rfl (ok.ld (by kernel_rfl) (by kernel_rfl)) (.cons rfl (Ev.aE ok rfl (.cons rfl (Ev.aE ok rfl (.nil ⟨(e.ae:Int),(e.V:Int),rfl,aD 0x22 0x1b0dc300c0300c0300c0300c0300c0300c0af,(au 0x4 0x30d80e0278b030e043e06018060180601806018060180601815e1) fc h1 ha,aD 0x22 0x1b0dc300c0300c0300c0300c0300c0300c0af,(ar 0x3 0x61b01c04f16041e06018060180601806018060180601815e1) fc ha,λt ρ' O'=>∃d aA,JK (oM a b (λx=>!dh b x) e.ae e.aa e.I t).L aA/\O'=(d,.ext (dP (Xu pw Y.w) aA))::R/\(O'.map (·.1)).Nodup/\Sub ((Z9 "j2len",.ref d)::hZ (oM a b (λx=>!dh b x) e.ae e.aa e.I t).best.i (oM a b (λx=>!dh b x) e.ae e.aa e.I t).best.j (oM a b (λx=>!dh b x) e.ae e.aa e.I t).best.m e) ρ',?_,λC C C C=>trivial,?_,?_⟩))))))⟩;·exact pd d ([]) Gd rfl nd (Sub.refl _)
 ·rintro t av ρ' O' hs c aN⟨d,aA,g1,rfl,nS,bh⟩;replace aN:=hN▸aN;have ht:t<e.V-e.ae:=by have:=(Zo.mp aN).1;simpa[dO]using this
  have e1:av=.int ((e.ae+t:Nat):Int):=by unfold dO at aN;replace aN:=(WQ ht)▸ZN▸aN;cases aN;rfl
  exists e1;have fZ:=(IZ (a:=a) (b:=b) (S:=λx=>!dh b x) (ae:=e.ae) (V:=e.V) (aa:=e.aa) (I:=e.I) hb t ((au 0x43 0x33208c581c441) ht)).1;have hx:∃x,a[e.ae+t]?=Z7 x:=⟨a[e.ae+t]'((aU 0x44 0x1819332090591c441) ha ht),Z0 ((aU 0x44 0x1819332090591c441) ha ht)⟩;refine br hx ?_;clear hx;intro x hx;refine Tg.ex ok.holds ?_;refine Ex.post (Ex.sub (bh.cc _ _) (NE (Y:=Y.holds hs c) (w:=w) (b:=b) (a:=a) (pU:=pU) (x:=x) (R:=R) ok.holds eL hw mz nw hB hx hn ((aU 0x45 0x30d80e0278f032664120b218060180601806018060180601806057c441) fc ha ht) g1 (λj=>?_) λd2 eU ff g2 hs' pA=>?_));·exact adi fZ j
  ·have nd3:(((d2,aQ.ext (dP (Xu pw Y.w) ff))::R).map (·.1)).Nodup:=pA.sublist (.cons_cons _ (Ys _ _));refine⟨_,_,(Cv.sub (Sub.trans ?_ hs')).trans (Cv.drop (.cons_cons _ (Ys _ _))),d2,ff,g2,rfl,nd3,Sub.refl _⟩;exact cq.ok (by kernel_rfl)
 ·rintro ρ' O'⟨d,aA,g1,rfl,nS,bh⟩;have hl:(dO (e.ae:Int) ((e.V:Int)-(e.ae:Int)).toNat).length=e.V-e.ae:=by exists hN;simp[dO]
  replace bh:=(adK ha hb h1)▸hl▸bh;refine h _ _ ((Cv.sub (Sub.trans ?_ bh)).trans (Cv.drop (Ys _ _)));exact cq.ok (by kernel_rfl)
end
noncomputable section
variable{X Y:Fx}{ρ aZ:Loc}{O O':af}{k:AV->af->Prop}
theorem Hf(P:Nat->Bool)(n t:Nat)(hp:P t=ZW)(ht:t<=n)(hd:∀u,u<n->P (u+1)=ZW->P u=ZW)(hs:t<n->P (t+1)=ZS):mx P n=t:=by
 refine acf P n t hp ht λu hu FP=>?_;have:∀k,t+1+k<=n->P (t+1+k)=ZS:=by intro k;induction k with|zero=>intro h;exact hs h;|succ k ih=>intro h;cases e:P (t+1+(k+1))with|false=>rfl;|true=>have:=hd (t+1+k) ((au 0x2 0x6071889e2889e1c8e22889e1) h) e;replace this:=(ih ((au 0x2 0x6071889e2889e1c0e22889e1) h))▸this;cases this
 have:=this (u-(t+1)) ((au 0x3 0x6062c88381c65113c22889e1) hu FP);rwa[show t+1+(u-(t+1))=u by exact(ar 0x2 0xc883a1465113c22889e1) FP]at this
theorem I4{l:List ZU}{i t:Nat}{x:ZU}(h:l[i-(t+1)]?=Z7 x)(ht:t+1<=i)(hi:i<=l.length):seg l (i-(t+1)) i=x::seg l (i-t) i:=by
 unfold seg;obtain⟨hl,e⟩:=Zo.mp h;exists(Yx (by rw[Zi];exact(au 0x64 0x605113c7808b3408a5113c62) ht hi));rw[List.getElem_take,e];have:i-(t+1)+1=i-t:=by exact(ar 0x2 0x603113c5a9083113e5113c41) ht
 exact bG this rfl
theorem I7{l:List ZU}{p t:Nat}{x:ZU}(h:l[p+t]?=Z7 x):seg l p (p+(t+1))=seg l p (p+t)++[x]:=by
 unfold seg;exists(show p+(t+1)=p+t+1 by exact ar 0x1 0x1a889f11063113c41);rw[YX,h,WA,TF];have hl:=(Zo.mp h).1;have:p-(l.take (p+t)).length=0:=by exists Zi;exact(au 0x43 0x6471107417ca8388821) hl
 exists this;rfl
noncomputable def jx(a b:List ZU)(i j t:Nat):Bool:=seg a (i-t) i==seg b (j-t) j
noncomputable def lu(a b:List ZU)(i j t:Nat):Bool:=seg a i (i+t)==seg b j (j+t)
theorem DA{a b:List ZU}{i j t:Nat}{x y:ZU}(h1:a[i-(t+1)]?=Z7 x)(h2:b[j-(t+1)]?=Z7 y)(ht:t+1<=i)(ht':t+1<=j)(hi:i<=a.length)(hj:j<=b.length):jx a b i j (t+1)=(x==y&&jx a b i j t):=by unfold jx;exists I4 h1 ht hi;exists I4 h2 ht' hj;rfl
theorem Iv{a b:List ZU}{i j t:Nat}{x y:ZU}(h1:a[i+t]?=Z7 x)(h2:b[j+t]?=Z7 y):lu a b i j (t+1)=(x==y&&lu a b i j t):=by
 unfold lu;exists I7 h1;exists I7 h2;by_cases e:x=y;·exists e;simp
 ·have e':(x==y)=ZS:=by simpa using e
  exists e';rw[Qe];rw[beq_eq_false_iff_ne];intro q;exact e (by simpa using(List.append_inj' q rfl).2)
theorem mu{a:List ZU}{i:Nat}(h:i<a.length):∃x,a[i]?=Z7 x:=⟨a[i],Z0 h⟩
theorem mJ{x y:Nat}(h:decide ((x:Int)<(y:Int))=!ZS):x<y:=Xd.mp (of_decide_eq_true h)
theorem pB{x y:Nat}(h:decide ((x:Int)<(y:Int))=ZS):¬x<y:=λq=>of_decide_eq_false h (Xd.mpr q)
theorem DL{i t:Nat}(h:t<i):AV.int (((i-t:Nat):Int)-1)=AV.int ((i-(t+1):Nat):Int):=congrArg AV.int ((ar 0x2 0x321176d2889e20c84fb4841) h)
theorem z8{l:List ZU}{i t:Nat}{x:ZU}(h:l[i-(t+1)]?=Z7 x)(ht:t<i)(hl:l.length<=1100):0<=((i-t:Nat):Int)-1/\((i-t:Nat):Int)-1<2^63/\(l.map AV.str)[(((i-t:Nat):Int)-1).toNat]?=Z7 (.str x):=by have bC:=(Zo.mp h).1;have e:((i-t:Nat):Int)-1=((i-(t+1):Nat):Int):=(ar 0x2 0x321176d2889e20c84fb4841) ht;exists e;rw[Y6,ZN,h];exact bM (YD _) (Wf (Xd.mpr (RD bC hl)) (by decide)) rfl
theorem z9{l:List ZU}{i t:Nat}{x:ZU}(h:l[i+t]?=Z7 x)(hl:l.length<=1100):0<=(i:Int)+(t:Int)/\(i:Int)+(t:Int)<2^63/\(l.map AV.str)[((i:Int)+(t:Int)).toNat]?=Z7 (.str x):=by have bC:=(Zo.mp h).1;have e:(i:Int)+(t:Int)=((i+t:Nat):Int):=rfl;exists e;rw[Y6,ZN,h];exact bM (YD _) (Wf (Xd.mpr (RD bC hl)) (by decide)) rfl
theorem Nx{L:Z1}{a b:List ZU}{w:ZD}{e:mi}{R:af}{K:Kn}{i j m:Nat}(ok:Ok Y (λx=>(aT fh).names.lookup x) bK)(eL:Y.env=Zf (Z9 "SequenceMatcher.find_longest_match") (aT fh) L 196 (ZB 195))(hw:w=Y.w)(mz:e.la=.lst (a.map .str))(nC:e.lb=.lst (b.map .str))(qd:e.bj=jy "set.__contains__" (eM w λC=>ZS))(hi:i<=a.length)(hj:j<=b.length)(fc:a.length<=1100)(hn:b.length<=1000)(h:K.nx (hZ (i-mx (jx a b i j) (min (i-e.ae) (j-e.aa))) (j-mx (jx a b i j) (min (i-e.ae) (j-e.aa))) (m+mx (jx a b i j) (min (i-e.ae) (j-e.aa))) e) R):Es Y (hZ i j m e) R (bB (aV fh) 8) K:=by
 have nw:∀u,u<min (i-e.ae) (j-e.aa)->jx a b i j (u+1)=ZW->jx a b i j u=ZW:=λu hu q=>by refine br (mu (a:=a) (i:=i-(u+1)) ((gC 0x8a6 0xc0c99a48c190885c8e5113ca4) hi hu)) λx hx=>?_;refine br (mu (a:=b) (i:=j-(u+1)) ((gC 0x865 0xc1499a484491823c965113c64) hj hu)) λy hy=>?_;rw[DA hx hy ((bQ 0x885 0x66922864220f04889e3) hu) ((bQ 0x885 0x66921124508f04889e3) hu) hi hj,Yo]at q;exact q.2
 have h0:jx a b i j 0=ZW:=by unfold jx seg;simp
 refine lR ok eL 20 _ _ _ _ ?_;refine aC.mk (Es.sN (λt=>hZ (i-t) (j-t) (m+t) e) (λC=>R) (λt=>min (i-e.ae) (j-e.aa)-t) (λt=>t<=min (i-e.ae) (j-e.aa)/\jx a b i j t=ZW) 0 ⟨ZI _,h0⟩ ?_);rintro t⟨ht,hP⟩;refine d5 ok (n:=9) ?_;have ex:(t<min (i-e.ae) (j-e.aa)->jx a b i j (t+1)=ZS)->K.nx (hZ (i-t) (j-t) (m+t) e) R:=λq=>by have:=Hf _ _ t hP ht nw q;rwa[this]at h
 clear h;refine ZP (λc1=>?_) (λc1=>?_)
 ·have c1:=mJ c1;refine ZP (λc2=>?_) (λc2=>?_)
  ·have c2:=mJ c2;refine br (mu (a:=a) (i:=i-(t+1)) ((aU 0x1065 0xc083990c24c8a5113c61) hi c1)) λx hx=>?_;refine br (mu (a:=b) (i:=j-(t+1)) ((aU 0x1065 0xc083990c24c8a5113c61) hj c2)) λy hy=>?_;have bs:=DA hx hy ((au 0x43 0x664118b03889e1) c1) ((au 0x43 0x664118b03889e1) c2) hi hj;rw[hP,RQ]at bs;have gx:=z8 (l:=a) (i:=i) (t:=t) hx ((au 0x43 0xcc82316461) c1) fc;have gy:=z8 (l:=b) (i:=j) (t:=t) hy ((au 0x43 0xcc82316461) c2) (ZC hn (by decide));refine aC.mk (Ts.plain (Ev.vm ok hw rfl (congrArg Z7 qd) (Ev.sub (Ev.aE ok rfl (bO ok (n:=5) ?_)))) rfl);refine Ix.list trivial (.inl nC) gy.1 gy.2.1 gy.2.2 (aj y rfl (Tr.bool ?_));refine⟨λC=>?_,λz=>(nomatch z)⟩;refine aC.mk (Ev.sub (Ev.aE ok rfl (bO ok (n:=5) ?_)));refine Ix.list trivial (.inl mz) gx.1 gx.2.1 gx.2.2 ?_;refine aC.mk (Ev.sub (Ev.aE ok rfl (bO ok (n:=5) ?_)));refine Ix.list trivial (.inl nC) gy.1 gy.2.1 gy.2.2 ?_;refine ZP (λc3=>?_) (λc3=>?_);·refine⟨λC=>?_,λz=>(nomatch z)⟩;refine Ex.post (run ok eL ?_);refine⟨_,_,(Cv.sub (ρ':=hZ (i-(t+1)) (j-(t+1)) (m+(t+1)) e) ?_),t+1,Ar.DE (Ar.DD c1 c2),⟨Ar.DD c1 c2,bs.trans c3⟩,rfl,rfl⟩;exact jW.ok ⟨(aj _ rfl rfl),(aj _ rfl (DL ((au 0x43 0xcc82316461) c2))),(aj _ rfl (DL ((au 0x43 0xcc82316461) c1))),(aj _ rfl rfl),(aj _ rfl rfl),(aj _ rfl rfl),(aj _ rfl rfl),(aj _ rfl rfl),(aj _ rfl rfl),(aj _ rfl rfl),(aj _ rfl rfl),(aj _ rfl rfl),trivial⟩
   ·refine⟨λz=>(nomatch z),λC=>ex λC=>?_⟩;exact bs.trans c3
  ·have c2:=pB c2;exact⟨λz=>(nomatch z),λC=>ex λq=>by exact((bQ 0x85 0xf664418bd9a4843904a4) c2 q).elim⟩
 ·have c1:=pB c1;exact⟨λz=>(nomatch z),λC=>ex λq=>by exact((bQ 0x85 0xf664418bd9a48a190864) c1 q).elim⟩
theorem ND{L:Z1}{a b:List ZU}{w:ZD}{e:mi}{R:af}{K:Kn}{i j m:Nat}(ok:Ok Y (λx=>(aT fh).names.lookup x) bK)(eL:Y.env=Zf (Z9 "SequenceMatcher.find_longest_match") (aT fh) L 196 (ZB 195))(hw:w=Y.w)(mz:e.la=.lst (a.map .str))(nC:e.lb=.lst (b.map .str))(qd:e.bj=jy "set.__contains__" (eM w λC=>ZS))(hi:e.V<=a.length)(hj:e.I<=b.length)(fc:a.length<=1100)(hn:b.length<=1000)(h:K.nx (hZ i j (m+mx (lu a b (i+m) (j+m)) (min (e.V-(i+m)) (e.I-(j+m)))) e) R):Es Y (hZ i j m e) R (bB (aV fh) 9) K:=by
 have nw:∀u,u<min (e.V-(i+m)) (e.I-(j+m))->lu a b (i+m) (j+m) (u+1)=ZW->lu a b (i+m) (j+m) u=ZW:=λu hu q=>by refine br (mu (a:=a) (i:=i+m+u) ((lh 0x65 0x6086cd25129c32894461e4911c4a2) hi hu)) λx hx=>?_;refine br (mu (a:=b) (i:=j+m+u) ((lh 0x65 0x6086cd251288d2894e11e4911c4a2) hj hu)) λy hy=>?_;rw[Iv hx hy,Yo]at q;exact q.2
 have h0:lu a b (i+m) (j+m) 0=ZW:=by unfold lu seg;simp
 refine lR ok eL 20 _ _ _ _ ?_;refine aC.mk (Es.sN (λt=>hZ i j (m+t) e) (λC=>R) (λt=>min (e.V-(i+m)) (e.I-(j+m))-t) (λt=>t<=min (e.V-(i+m)) (e.I-(j+m))/\lu a b (i+m) (j+m) t=ZW) 0 ⟨ZI _,h0⟩ ?_);rintro t⟨ht,hP⟩;refine d5 ok (n:=9) ?_;have ex:(t<min (e.V-(i+m)) (e.I-(j+m))->lu a b (i+m) (j+m) (t+1)=ZS)->K.nx (hZ i j (m+t) e) R:=λq=>by have:=Hf _ _ t hP ht nw q;rwa[this]at h
 clear h;refine ZP (λc1=>?_) (λc1=>?_)
 ·have c1:i+(m+t)<e.V:=mJ c1;refine ZP (λc2=>?_) (λc2=>?_)
  ·have c2:j+(m+t)<e.I:=mJ c2;refine br (mu (a:=a) (i:=i+(m+t)) ((bQ 0x3 0x18117258c4830e45189061) hi c1)) λx hx=>?_;refine br (mu (a:=b) (i:=j+(m+t)) ((bQ 0x3 0x18117258c4830e45189061) hj c2)) λy hy=>?_;have gx:=z9 hx fc;have gy:=z9 hy (ZC hn (by decide));have bs:=Iv (a:=a) (b:=b) (i:=i+m) (j:=j+m) (t:=t) (x:=x) (y:=y) (by rw[Ws];exact hx) (by rw[Ws];exact hy);rw[hP,RQ]at bs;refine aC.mk (Ts.plain (Ev.vm ok hw rfl (congrArg Z7 qd) (Ev.sub (Ev.aE ok rfl (bO ok (n:=5) ?_)))) rfl);refine Ix.list trivial (.inl nC) gy.1 gy.2.1 gy.2.2 (aj y rfl (Tr.bool ?_));refine⟨λC=>?_,λz=>(nomatch z)⟩;refine aC.mk (Ev.sub (Ev.aE ok rfl (bO ok (n:=5) ?_)));refine Ix.list trivial (.inl mz) gx.1 gx.2.1 gx.2.2 ?_;refine aC.mk (Ev.sub (Ev.aE ok rfl (bO ok (n:=5) ?_)));refine Ix.list trivial (.inl nC) gy.1 gy.2.1 gy.2.2 ?_;refine ZP (λc3=>?_) (λc3=>?_);·refine⟨λC=>?_,λz=>(nomatch z)⟩;refine Ex.post (run ok eL ?_);have le:t+1<=min (e.V-(i+m)) (e.I-(j+m)):=(uj 0x7 0x6491884a7ca2310953a944a720f528952836a8618b02889e1) c1 c2 (Wm (e.V-(i+m))) (Wm (e.I-(j+m))) (Wm (min (e.V-(i+m)) (e.I-(j+m))));refine⟨_,_,(Cv.sub (ρ':=hZ i j (m+(t+1)) e) ?_),t+1,Ar.DE le,⟨le,bs.trans c3⟩,rfl,rfl⟩;exact cq.ok (by kernel_rfl)
   ·refine⟨λz=>(nomatch z),λC=>ex λC=>?_⟩;exact bs.trans c3
  ·have c2:¬j+(m+t)<e.I:=pB c2;exact⟨λz=>(nomatch z),λC=>ex λq=>by exact((gC 0x64 0x3d934623117d9a4a2229a5110483) c2 q).elim⟩
 ·have c1:¬i+(m+t)<e.V:=pB c1;exact⟨λz=>(nomatch z),λC=>ex λq=>by exact((gC 0x64 0x3d92c62320bd9a4a2430651208a3) c1 q).elim⟩
theorem Nz{L:Z1}{b:List ZU}{w:ZD}{e:mi}{R:af}{K:Kn}{i j m:Nat}(ok:Ok Y (λx=>(aT fh).names.lookup x) bK)(eL:Y.env=Zf (Z9 "SequenceMatcher.find_longest_match") (aT fh) L 196 (ZB 195))(hw:w=Y.w)(nC:e.lb=.lst (b.map .str))(qd:e.bj=jy "set.__contains__" (eM w λC=>ZS))(hj:j<=b.length)(hn:b.length<=1000)(h:K.nx (hZ i j m e) R):Es Y (hZ i j m e) R (bB (aV fh) 10) K:=by refine lR ok eL 20 _ _ _ _ ?_;refine aC.mk (Es.sN (λ_:Unit=>hZ i j m e) (λC=>R) (λC=>0) (λC=>True) () trivial λC C=>?_);refine d5 ok (n:=9) ?_;refine ZP (λc1=>?_) (λc1=>⟨λz=>(nomatch z),λC=>h⟩);refine ZP (λc2=>?_) (λc2=>⟨λz=>(nomatch z),λC=>h⟩);have c2:=mJ c2;refine br (mu (a:=b) (i:=j-(0+1)) ((au 0x64 0x6041c847914a22785e1) hj c2)) λy hy=>?_;have gy:=z8 (l:=b) (i:=j) (t:=0) hy ((ar 0x43 0x6422c842f) c2) (ZC hn (by decide));refine aC.mk (Ts.plain (Ev.vm ok hw rfl (congrArg Z7 qd) (Ev.sub (Ev.aE ok rfl (bO ok (n:=5) ?_)))) rfl);refine Ix.list trivial (.inl nC) gy.1 gy.2.1 gy.2.2 (aj y rfl (Tr.bool ?_));exact⟨λz=>(nomatch z),λC=>⟨λz=>(nomatch z),λC=>h⟩⟩
theorem NA{L:Z1}{b:List ZU}{w:ZD}{e:mi}{R:af}{K:Kn}{i j m:Nat}(ok:Ok Y (λx=>(aT fh).names.lookup x) bK)(eL:Y.env=Zf (Z9 "SequenceMatcher.find_longest_match") (aT fh) L 196 (ZB 195))(hw:w=Y.w)(nC:e.lb=.lst (b.map .str))(qd:e.bj=jy "set.__contains__" (eM w λC=>ZS))(hj:e.I<=b.length)(hn:b.length<=1000)(h:K.nx (hZ i j m e) R):Es Y (hZ i j m e) R (bB (aV fh) 11) K:=by refine lR ok eL 20 _ _ _ _ ?_;refine aC.mk (Es.sN (λ_:Unit=>hZ i j m e) (λC=>R) (λC=>0) (λC=>True) () trivial λC C=>?_);refine d5 ok (n:=9) ?_;refine ZP (λc1=>?_) (λc1=>⟨λz=>(nomatch z),λC=>h⟩);refine ZP (λc2=>?_) (λc2=>⟨λz=>(nomatch z),λC=>h⟩);have c2:j+m<e.I:=mJ c2;refine br (mu (a:=b) (i:=j+m) ((aU 0x3 0x181132488c3914461) hj c2)) λy hy=>?_;have gy:=z9 hy (ZC hn (by decide));refine aC.mk (Ts.plain (Ev.vm ok hw rfl (congrArg Z7 qd) (Ev.sub (Ev.aE ok rfl (bO ok (n:=5) ?_)))) rfl);refine Ix.list trivial (.inl nC) gy.1 gy.2.1 gy.2.2 (aj y rfl (Tr.bool ?_));exact⟨λz=>(nomatch z),λC=>⟨λz=>(nomatch z),λC=>h⟩⟩
end
noncomputable section
variable{X Y:Fx}{ρ ρ' aZ:Loc}{O O':af}{k:AV->af->Prop}{K:Kn}
theorem Es.yB{b:Y4}(c:Cv X ρ O ρ' O')(h:Es X ρ' O' b K):Es X ρ O b K:=λE s F=>by refine aO (c s F) λF' st=>?_;exact wm (h _ s F') (λfl aq x=>.from st x)
theorem Lq{a b:List ZU}{S:ZU->Bool}{ae V aa I:Nat}(ha:V<=a.length)(hb:I<=b.length)(h1:ae<=V)(h2:aa<=I){st:dC}(jJ:st=i9 a b S ae V aa I){bk:Nat}(zk:bk=mx (jx a b st.i st.j) (min (st.i-ae) (st.j-aa))):bk<=st.i/\bk<=st.j/\st.i<=a.length/\st.j<=b.length/\(bc a b S ae V aa I).i=st.i-bk/\(bc a b S ae V aa I).j=st.j-bk/\(st.m+bk+mx (lu a b (st.i-bk+(st.m+bk)) (st.j-bk+(st.m+bk))) (min (V-(st.i-bk+(st.m+bk))) (I-(st.j-bk+(st.m+bk)))))=(bc a b S ae V aa I).p-(bc a b S ae V aa I).i:=by
 obtain⟨q1,q2,q3,q4⟩:=vi (S:=S) ha hb h1 h2;rw[<-jJ]at q1 q2 q3 q4;have oX:=mO (jx a b st.i st.j) (min (st.i-ae) (st.j-aa));rw[<-zk]at oX;have b1:bk<=st.i:=(bQ 0x885 0xc52412c8441e083) oX;have b2:bk<=st.j:=(bQ 0x885 0xc5242248251e083) oX;have e1:st.i-bk+(st.m+bk)=st.i+st.m:=(au 0x2 0x30116a230c6221c841) b1;have e2:st.j-bk+(st.m+bk)=st.j+st.m:=(au 0x2 0x30116a230c6221c841) b2;have ei:(bc a b S ae V aa I).i=st.i-bk:=by exists zk;exists jJ;rfl
 have ej:(bc a b S ae V aa I).j=st.j-bk:=by exists zk;exists jJ;rfl
 have ep:(bc a b S ae V aa I).p=st.i+st.m+mx (lu a b (st.i+st.m) (st.j+st.m)) (min (V-(st.i+st.m)) (I-(st.j+st.m))):=by exists jJ;rfl
 exists e1;exists e2;exists ei;exists ej;exists ep;refine⟨b1,b2,(aU 0x64 0x6044c12230e041) ha q2,(aU 0x64 0x6044c12230e041) hb q4,rfl,rfl,?_⟩;exists Ar.span b1;exact RN _ _ _
theorem NB(MO:C9){x dx:Z1}{ox:Zp}{fl:Loc}{a b:List ZU}{aA:List (ZU×AV)}{w:ZD}{ae V aa I:Nat}(a9:X.A.depth+4<ZV)(am:gr x dx ox)(hw:w=X.w)(fa:fl.lookup (Z9 "a")=Z7 (.lst (a.map .str)))(fb:fl.lookup (Z9 "b")=Z7 (.lst (b.map .str)))(fd:fl.lookup (Z9 "b2j")=Z7 (lO (ZH pw w) aA))(fj:fl.lookup (Z9 "bjunk")=Z7 (eM w λC=>ZS))(hB:jS b aA)(hn:b.length<=1000)(fc:a.length<=1100)(ha:V<=a.length)(hb:I<=b.length)(h1:ae<=V)(h2:aa<=I)(hk:k (lp ((bc a b (λx=>!dh b x) ae V aa I).i:Nat) ((bc a b (λx=>!dh b x) ae V aa I).j:Nat) (((bc a b (λx=>!dh b x) ae V aa I).p-(bc a b (λx=>!dh b x) ae V aa I).i:Nat):Int)) (bo x dx ox fl []++O)):aG X ρ (bo x dx ox fl []++O) (.ref 196) [.ref x,.int ae,.int V,.int aa,.int I] k:=by
 refine aG.qA (df:=189) (nm:=Z9 "find_longest_match") (name:=Z9 "SequenceMatcher.find_longest_match") (params:=gb fh) (body:=aV fh) (scope:=aT fh) (pm:=_) (ca:=195) (doc:=_) (ns:=[Z9 "self",Z9 "alo",Z9 "ahi",Z9 "blo",Z9 "bhi"]) (dv:=[]) (dl:=[]) ((ar 0x2 0x19144af0e441) a9) (Dt _) rfl (KD _) rfl rfl (KC _) rfl (λvs h=>?_) (λC C=>.nil) dk dk dk rfl rfl rfl λY ah=>?_;·exact GA h λC C C C C=>aj _ rfl rfl
 ·refine Ex.gen λK hN hR C C=>ah.run (by kernel_rfl) λL eL=>?_;have ok:=ah.ok (by kernel_rfl);have iQ:w=Y.w:=hw.trans ah.w.symm;have hr:Y.A.depth+3<ZV:=by exists ah.depth;exact a9
  refine aC.mk (Ev.dM ok am rfl fa trivial tj ?_);refine aC.mk (Ev.dM ok am rfl fb trivial rz ?_);refine aC.mk (Ev.dM ok am rfl fd (λg v cx=>iu cx λa o e C=>⟨a,e⟩) EJ ?_);refine aC.mk (Ev.ad7 iQ (Ev.dM ok am rfl fj (λg v bH=>rn bH λa o n e C=>⟨a,e⟩) EK (aj _ rfl ?_)) rfl);refine aC.mk (Cm.Gb ?_);refine⟨λz=>(nomatch z),λC=>?_⟩;refine aC.mk (Cm.Gb ?_);refine⟨λz=>(nomatch z),λC=>?_⟩;refine aC.mk (Ev.yD (knd:=Xu pw Y.w) λd hd=>?_);refine aC.mk (Ev.ll (.nil ⟨ZI _,?_⟩));refine⟨Es.yB (Cv.sub (ρ':=(Z9 "j2len",.ref d)::(Z9 "bestsize",.int (0:Nat))::(Z9 "bestj",.int aa)::(Z9 "besti",.int ae)::tp ⟨jy "set.__contains__" (eM w λC=>ZS),lO (ZH pw w) aA,.lst (a.map .str),.lst (b.map .str),ae,V,aa,I⟩) (cq.ok (by kernel_rfl))) (Es.post (Ny (R:=bo x dx ox fl []) (e:=⟨jy "set.__contains__" (eM w λC=>ZS),lO (ZH pw w) aA,.lst (a.map .str),.lst (b.map .str),ae,V,aa,I⟩) ok eL iQ rfl rfl hB hn fc h1 ha hb λρ' O' DY=>dT _ _ DY ?_))⟩;obtain⟨v1,v2,v3,v4,v5,v6,v7⟩:=Lq (a:=a) (b:=b) (S:=λx=>!dh b x) (ae:=ae) (V:=V) (aa:=aa) (I:=I) ha hb h1 h2 rfl rfl;rw[<-v7,v5,v6]at hk;clear v5 v6 v7 DY;refine aC.mk (Nx ok eL iQ rfl rfl rfl v3 v4 fc hn ?_);refine aC.mk (ND ok eL iQ rfl rfl rfl ha hb fc hn ?_);refine aC.mk (Nz ok eL iQ rfl rfl (ZC (Qw _ _) v4) hn ?_);refine aC.mk (NA ok eL iQ rfl rfl hb hn ?_);refine aC.mk (MO _ _ _ _ _ _ _ _ _ (ah.glob (by kernel_rfl)) ((ar 0x2 0xc8a247872288de1) hr) rfl (.cons rfl (Ev.aE ok rfl (.cons rfl (Ev.aE ok rfl (.cons rfl (Ev.aE ok rfl (.nil (pf _ _ _ rfl ?_)))))))));first|exact hR _ _ (hk)|exact hN _ _ (hk)
end
noncomputable section
noncomputable def KM(P:Zr):Frag:=[(135,wM),(134,wL P),(136,wN),(82,uu),(Qp,Vh P)]
theorem ko{P:Zr}{h:YQ}(Y:Keeps (aP P) h):(KM P).In h:=by have:(KM P).In (aP P):=Frag.in_of (as:=[135,134,136,82,Qp]) rfl (by kernel_rfl);exact this.keeps Y
section
variable(P:Zr)(prog:YG)(vs:List Z3)
theorem km1:peek (KM P) ⟨prog,P⟩ (keeperOf (.ref 135))=Z7 .machine:=by kernel_rfl
theorem km2:peek (KM P) ⟨prog,P⟩ (callAny (.ref 135) ⟨vs,[]⟩)=Z7 (.again (.call (.builtin "type.__call__") ⟨.ref 135::vs,[]⟩)):=by kernel_rfl
theorem km3:peek (KM P) ⟨prog,P⟩ (WK "type.__call__" ⟨.ref 135::vs,[]⟩)=Z7 ():=by kernel_rfl
theorem km4:peek (KM P) ⟨prog,P⟩ (mroOf (.ref 135))=Z7 [.ref 135,.type "tuple",.type "object"]:=by kernel_rfl
theorem Gl:peek (KM P) ⟨prog,P⟩ (Bind.madeBy (.ref 135))=Z7 ZT:=by kernel_rfl
theorem Am:peek (KM P) ⟨prog,P⟩ (Ym (.ref 135) "__init__")=Z7 (Z7 (.builtin "object.__init__")):=by kernel_rfl
theorem km9:peek (KM P) ⟨prog,P⟩ (Bind.madeHere "tuple.__new__" (.ref 135))=Z7 ():=by kernel_rfl
theorem ug:peek (KM P) ⟨prog,P⟩ (Wr (.ref 135) (.type "tuple"))=Z7 ZW:=by kernel_rfl
theorem aaE:peek (KM P) ⟨prog,P⟩ (Wr (.ref 135) (.ref 135))=Z7 ZW:=by kernel_rfl
theorem aaI:peek (KM P) ⟨prog,P⟩ (Wr (.ref 135) (.type "object"))=Z7 ZW:=by kernel_rfl
theorem aaF:readsIn (KM P) 135 (.type "type")=ZW:=by kernel_rfl
theorem aaG:findCls (KM P) (.ref 135) (.type "type") (Z9 "__new__")=Z7 (.get (.builtin "staticmethod.__get__") (.ref 136) .none (.ref 135)):=by kernel_rfl
theorem aaH:recIn (KM P) 136 "staticmethod"=Z7 [.ref 82]:=by kernel_rfl
end
section
variable{w:ZD}{A:Zw}{E:Z3->Z6->Prop}{s:Z6}
theorem Ob{Q:Z3->Z6->Prop}(Y:Keeps (aP w.params) s.heap)(h:Q (.ref 82) {s with toks:=s.toks+1}):ZK (model pw w) A (Sd (.ref 135) (Z9 "__new__")) Q E s:=cls_bind (K:=KM w.params) (ko Y) (aaF _) (aaG _) (XH (sm_get (s:={s with toks:=s.toks+1}) (ko Y) (aaH _) (handed_on rfl h)))
noncomputable def pv(A:Zw)(vs:List Z3):Zw:=A.under (.builtin "type.__call__" ⟨.ref 135::vs,[]⟩)
theorem LF{v1 v2 v3:Z3}{Q:Z3->Z6->Prop}(Y:Keeps (aP w.params) s.heap)(h:ZK (model pw w) (pv A [v1,v2,v3]) (call (.ref 82) [.ref 135,v1,v2,v3]) (λv aq=>(∃x o,v=.ref x/\aq.heap.get? x=Z7 o/\o.cls=.ref 135)/\Keeps (aP w.params) aq.heap/\Q v aq) E {s with toks:=s.toks+1}):ZK (model pw w) A (call (.ref 135) [v1,v2,v3]) Q E s:=by
 have fu:=ko Y;refine XH (V2 ?_);refine YB (Y2 fu (km2 _ _ _)) ⟨rfl,?_⟩;refine TE (Uz _ dk) entry_typeCall (YB (Y2 fu (km3 _ _ _)) ?_);refine Z8 (YB (Y2 fu (km4 _ _)) ?_);refine Z8 (YB (Y2 fu (Gl _ _)) ?_);refine Z8 (Ob Y ?_);refine Z8 (ZL (wm h (λv aq x=>?_)));refine f8 x ?_;clear x;intro bT Ka hq;refine fG bT λx o b5 ho hc=>?_;subst b5;have ub:=ko Ka;have l0:∀{A:Zw}{E:Z3->Z6->Prop}{Q:Z3->Z6->Prop},Q (.ref 135) aq->ZK (model pw w) A (T7 (.ref x)) Q E aq:=λq=>by exact Z8 (Tp ho (Z5 (hc.symm▸q)))
 refine Z8 (Z8 (l0 (YB (Y2 ub (aaE _ _)) ?_)));exists(if_neg (by decide));refine Z8 (ZL (Z8 (Z8 (l0 (YB (Y2 ub (Am _ _)) ?_)))));refine ZL (Z8 (Zu (a:=(XO "object.__init__",[ZB x])) (by kernel_rfl) ?_));refine Z8 (XH ?_);refine TE (Uz _ dk) (b:=XJ.«object.__init__») (WM (by kernel_rfl)) ?_;·unfold WK;have h1:VR "object.__init__"=Z7 .slot:=dk;have h2:PL "object.__init__"=Z7 ("object","__init__"):=dk;dsimp only;exists h1;exists h2;refine Z8 (Z8 (l0 (YB (Y2 ub (aaI _ _)) ?_)));refine Zu (a:=()) (by kernel_rfl) ?_;refine Z8 (l0 ?_);refine Z8 (YB (Y2 ub (Am _ _)) ?_);refine Z8 (YB (Y2 ub (Gl _ _)) ?_);refine Zu (a:=Sk (.ret .none)) (by kernel_rfl) ?_;exact Z5 (Zu (a:=Sk (.ret (.ref x))) (by kernel_rfl) hq)
theorem km8(P:Zr)(prog:YG)(v:Z3):peek (KM P) ⟨prog,P⟩ (WK "tuple.__new__" ⟨[.ref 135,v],[]⟩)=Z7 ():=by kernel_rfl
theorem aaJ(P:Zr)(prog:YG):peek (KM P) ⟨prog,P⟩ (isType (.ref 135))=Z7 ZW:=by kernel_rfl
theorem aaK(P:Zr)(prog:YG):peek (KM P) ⟨prog,P⟩ (classHasDel 135)=Z7 ZS:=by kernel_rfl
theorem afa{T:Z1}{nm:String}{o:Zp}{items:Array Z3}{n:Nat}{Q:Z3->Z6->Prop}(Y:Keeps (aP w.params) s.heap)(hT:nm="list"\/nm="tuple")(ho:s.heap.get? T=Z7 o)(hc:o.cls=.type nm)(hd:o.data=.seq items n)(hz:items.size<=1000)(h:∀h' x ox,Keeps s.heap h'->h'.get? x=Z7 ox->s.heap.get? x=ZT->ox.cls=.ref 135->ox.data=.seq items 0->ox.slots=#[]->Q (.ref x) {s with heap:=h'}):ZK (model pw w) A (call (.builtin "tuple.__new__") [.ref 135,.ref T]) Q E s:=by
 have fu:=ko Y;refine XH (WT PySem.F.plain_tuple_new PySem.F.entry_tuple_new (YB (Y2 fu (km8 _ _ _)) ?_));refine Z8 (YB (Y2 fu (aaJ _ _)) ?_);refine Z8 (YB (Y2 fu (ug _ _)) ?_);refine Z8 (YB (Y2 fu (km9 _ _)) ?_);refine Z8 (YB (Y2 fu (Am _ _)) ?_);exists(if_pos (by rfl));refine Z8 (Zu (a:=()) (by kernel_rfl) ?_);refine Z8 (Zu (a:=()) (by kernel_rfl) ?_);dsimp only;exists(if_neg (by refine bG (show(ZB 135==Zg "tuple")=ZS from rfl) ?_;exact Ze));refine Z8 (wpAny_collect_seq T hT ho hc hd (λaH Pp=>?_) (ZC hz (by exists Zs;decide)));refine Z8 (Z5 ?_);refine Z8 (wpAny_alloc' ?_);have Ao:Keeps s.heap (aH.push {cls:=.type "dict",data:=.dict #[]}):=λb o e=>ZX _ (Pp b o e);generalize aH.push {cls:=.type "dict",data:=.dict #[]}=be at Ao⊢;unfold newObj;dsimp only;have e0:items.toList.toArray=items:=by simp
 exists e0;exists(if_neg (by refine bG Zs ?_;exact(aD 0x2 0x613103c3ec84300c0300c22f) hz));refine Z8 ?_;refine Z8 (wpAny_alloc' ?_);have Gs:Keeps s.heap (be.push {cls:=.ref 135,dict:=Z7 aH.objs.size,data:=.seq items}):=λb o e=>ZX _ (Ao b o e);have aaj:(KM w.params).In (be.push {cls:=.ref 135,dict:=Z7 aH.objs.size,data:=.seq items}):=ko λb o e=>Gs b o (Y b o e);have hx:s.heap.get? be.objs.size=ZT:=by cases e:s.heap.get? be.objs.size with|none=>rfl;|some o'=>exact absurd (Zc (Ao _ _ e)) (YT _)
 refine Z8 (YB (s:={s with heap:=be.push {cls:=.ref 135,dict:=Z7 aH.objs.size,data:=.seq items}}) (Y2 aaj (aaK _ _)) ?_);exists if_neg Ze;exact Z5 (Z5 (h _ _ _ Gs (Zy _ rfl) hx rfl rfl rfl))
end
end
noncomputable section
theorem aaL:findCls [] (.type "tuple") (.type "type") (Z9 "__new__")=Z7 (.val (.builtin "tuple.__new__")):=by kernel_rfl
theorem Oa{w:ZD}{A:Zw}{E:Z3->Z6->Prop}{s:Z6}{pl:SV Bool}{Q:Z3×List Z3->Z6->Prop}(h:Q (.builtin "tuple.__new__",[]) {s with toks:=s.toks+1}):ZK (model pw w) A (Sc (.type "tuple") (Z9 "__new__") pl) Q E s:=by have X:Frag.In [] s.heap:=λa o e=>nomatch e;have L0:Looks (model pw w) s.heap (T7 (.type "tuple")) (.type "type"):=PZ (by kernel_rfl);have LO:Looks (model pw w) s.heap (opaqueClassAbove (.type "tuple")) ZT:=PZ (by kernel_rfl);refine Z8 (Z8 (L0.here ((looks_findIn X type_tga).here ?_)));dsimp only;exists if_pos canon_tga;refine Z8 (X5 (Q:=λv=>Q (v,[])) (E:=E) ?_ (λC C z=>Z5 z) λC C z=>z);exact cls_open X LO L0 type_tga (looks_hook X (r:=ZT) (by rfl)) (by show subIn [] _ _=_;rfl) aaL (Z5 (by show ZK _ _ (handedOut _) _ _ _;exists handedOut_of rfl;exact Z5 h))
section
variable{X Y:Fx}{ρ:Loc}{O:af}{s:Z6}{E:Z3->Z6->Prop}{k:AV->af->Prop}{pos px cD:XY}
set_option tactic.hygienic true in theorem Ev.JD{cw eF:Zt}{pl:SV Bool}(hl:Ld X (Z9 "tuple") (.type "tuple"))(hs:[cw,eF].any dH=ZS)(he:eval (.Call (.Attribute (.Name (Z9 "tuple") px) (Z9 "__new__") cD) [cw,eF] [] pos) X.env=(do let ov<-eval (.Name (Z9 "tuple") px) X.env;Xk cD.atName;let(f,first)<-holding [ov] (Sc ov (Z9 "__new__") pl);Vd pos f first (Xb pos (Yt [cw,eF] X.env)) []))(h:cC X ρ O [cw,eF] λl ag=>∃i j m:Int,l=[.ref 135,.tup [.int i,.int j,.int m]]/\k (lp i j m) ag):Ev X ρ O (.Call (.Attribute (.Name (Z9 "tuple") px) (Z9 "__new__") cD) [cw,eF] [] pos) k:=λE s F=>by refine QS (pl:=pl) (hl E s px _ F.base (Oa ?_)) he;have F':Fr X ρ O {s with toks:=s.toks+1}:=F.grow (fX.tok s _);refine callWith_builtin1 (wm (h E _ pos F') (λvs aq x=>?_)) (kC hs) (lq (by rw[YF,YM]at hs;exact hs.2));obtain⟨l,ag,aw,aI,a5,i,j,m,e,hk⟩:=x;subst e;obtain⟨r1,r2⟩:=a5.i2;cases r1.iR;cases r2.iT with|@mk T vs n hd hg rl=>cases vs with|mk vl=>obtain⟨q1,q2,q3⟩:=rl.i3;cases q1.iI;cases q2.iI;cases q3.iI;rename_i t u v;refine afa aw.base (.inr rfl) hg rfl rfl (by show 3<=1000;decide) λh' x ox kk e1 e2 e3 e4 e5=>?_;have aS:=aw.keeps (h':=h') (tk:=aq.toks) kk;have nx:x∉ak X ag:=aw.absent e2;refine⟨_,ag,aS,aI.trans (aJ.of kk),.ext abO ⟨x,ox,t,u,v,0,rfl,?_,e3,e4,e5⟩,hk⟩;unfold Mine.Internal.cv;exists if_neg nx;exact e1
end
end
noncomputable section
variable{X Y:Fx}{ρ aZ:Loc}{O O':af}{k:AV->af->Prop}
theorem K4(P:Zr):(aP P).get? 82=Z7 uu:=by kernel_rfl
theorem K3(P:Zr):(aP P).get? 81=Z7 xy:=by kernel_rfl
theorem ach{i j m:Int}(a9:X.A.depth<ZV)(hk:k (lp i j m) O):aG X ρ O (.ref 82) [.ref 135,.int i,.int j,.int m] k:=by
 refine aG.ku (OL:=[]) (O':=O) (nm:=Z9 "__new__") (name:=Z9 "Match.__new__") (params:=gb sw) (body:=aV sw) (scope:=aT sw) (pm:=_) (ca:=81) (doc:=_) (ns:=[Z9 "_cls",Z9 "a",Z9 "b",Z9 "size"]) a9 (K4 _) rfl (K3 _) rfl rfl (λvs h=>?_) dk dk dk rfl rfl rfl λY ah=>?_;·exact Gz h λC C C C=>rfl
 ·refine ah.run (by kernel_rfl) λL eL=>?_;have ok:=ah.ok (by kernel_rfl);refine aC.mk (Ev.JD (Ld.b (ah.glob (by kernel_rfl)) (by kernel_rfl) (λC=>by kernel_rfl) (λC=>by kernel_rfl)) rfl rfl (.cons rfl (Ev.aE ok rfl (.cons rfl (bO ok (n:=5) ?_)))));refine cC.nil (pf i j m rfl ?_);exact hk
theorem abU{A:Zw}:(pv A []).depth=A.depth+1:=by
 have:(Tm "type.__call__" ⟨[.ref 135],[]⟩).weight=1:=by kernel_rfl
 show A.depth+(Tm "type.__call__" ⟨[.ref 135],[]⟩).weight=A.depth+1;exact bG this rfl
theorem G5{A:Zw}(h:A.handled=ZT):(pv A []).handled=ZT:=h
theorem abR{i j m:Int}(a9:X.A.depth+1<ZV)(hk:k (lp i j m) O):aG X ρ O (.ref 135) [.int i,.int j,.int m] k:=λE s vs F R=>by obtain⟨r1,r2,r3⟩:=R.i3;refine LF F.base ?_;rw[show∀vs,pv X.A vs=pv X.A []fromλC=>rfl];have aw:Fr X ρ O {s with toks:=s.toks+1}:=F.grow (fX.tok s _);have aS:Fr (X.at (pv X.A []) (G5 X.hh)) ρ O {s with toks:=s.toks+1}:=aw.at;refine wm (ach (X:=X.at (pv X.A []) (G5 X.hh)) (k:=λa ag=>a=lp i j m/\k a ag) (by show(pv X.A []).depth<_;exists abU;exact a9) ⟨rfl,hk⟩ E _ _ aS (.cons (.ref _) (.cons r1 (.cons r2 (.cons r3 .nil))))) (λv aL x=>?_);obtain⟨a,aM,eV,aY,cK,e,cP⟩:=x;subst e;have gJ:=eV.uv;refine⟨?_,gJ.base,_,aM,gJ,aY,cK,cP⟩;cases cK with|ext mm p=>
  obtain⟨ad,o,t,u,w,n,e1,e2,e3,C⟩:=p;unfold Mine.Internal.cv at e2;split at e2;·cases e2
  ·exact eu ad o e1 e2 e3
theorem abQ:C9:=λX ρ O cw eF rr px pos k hx a9 hs h E s F=>by
 have hl:Ld X (Z9 "Match") (.ref 135):=Ld.g hx (by kernel_rfl) (λC=>by kernel_rfl);refine Yv (hl E s px _ F.base ?_);have jJ:=kC (env:=X.env) hs;have lY:(Xb pos (Yt [eF,rr] X.env)).any (·.1)=ZS:=lq (by rw[YF,YM]at hs;exact hs.2);refine callWith_of (P:=λh=>Keeps (aP X.w.params) h) ?_ (λh Y=>aj (.machine) (.inr (.inl rfl)) (Y2 (ko Y) (km1 _ _))) ?_;·exists jJ;show((ZS||(Xb pos (Yt [eF,rr] X.env)).any (·.1))||ZS)=ZS;exists lY;rfl
 ·exists jJ;refine Ve ?_;have:=h E s pos F;rw[jJ]at this;refine wm this (λvs aq x=>?_);obtain⟨l,ag,aw,aI,a5,i,j,m,e,hk⟩:=x;subst e;exact⟨aw.base,wm (abR (k:=k) (Wl a9) hk E aq vs aw a5) (λv aL x=>.from aI x)⟩
end
noncomputable section
noncomputable def lG(t:Z1)(i:Nat):Zp:={cls:=.type "tuple_iterator",data:=.fields #[.ref t,.int i 0]}
section
variable{prog:YG}{w:ZD}{A:Zw}{E:Z3->Z6->Prop}{s:Z6}
theorem He{it t:Z1}{i n:Nat}{o:Zp}{items:Array Z3}{x:Z3}{Q:Option Z3->Z6->Prop}(dw:s.heap.get? it=Z7 (lG t i))(ho:s.heap.get? t=Z7 o)(hd:o.data=.seq items n)(hx:items[i]?=Z7 x)(hQ:∀h',h'.get? it=Z7 (lG t (i+1))->YL it s.heap h'->Q (Z7 x) {s with heap:=h'}):ZK (model prog w) A (VU (.ref it)) Q E s:=by have hT:s.TypeIs (.ref it) "tuple_iterator":=aj _ dw rfl;refine Z8 (Wq (Yz (name:=Z9 "__next__") hT WP (YJ WP hT Sj ?_ (R2 _))));show ZK _ _ (field (.ref it) 0>>=_) _ _ s;refine Z8 (Va dw rfl (x:=.ref t) rfl ?_);exists(if_neg (show¬((ZB t==Yr)=ZW)from Ze));refine Z8 (Va dw rfl (x:=.int i 0) rfl ?_);refine Z8 (Xq ho hd ?_);simp only[Y6,hx];refine Z8 (wpAny_setField dw rfl (by simp[lG]) (Z5 (aj x rfl (Z5 (hQ _ ?_ (YV ..))))));exists YI _ dw rfl;rfl
theorem Hd{it t:Z1}{i n:Nat}{o:Zp}{items:Array Z3}{Q:Option Z3->Z6->Prop}(hh:A.handled=ZT)(dw:s.heap.get? it=Z7 (lG t i))(ho:s.heap.get? t=Z7 o)(hd:o.data=.seq items n)(hx:items[i]?=ZT)(hQ:∀h',Sx it s.heap h'->Q ZT {s with heap:=h'}):ZK (model prog w) A (VU (.ref it)) Q E s:=by have hT:s.TypeIs (.ref it) "tuple_iterator":=aj _ dw rfl;refine Z8 (Wq (Yz (name:=Z9 "__next__") hT WP (YJ WP hT Sj ?_ (R2 _))));show ZK _ _ (field (.ref it) 0>>=_) _ _ s;refine Z8 (Va dw rfl (x:=.ref t) rfl ?_);exists(if_neg (show¬((ZB t==Yr)=ZW)from Ze));refine Z8 (Va dw rfl (x:=.int i 0) rfl ?_);refine Z8 (Xq ho hd ?_);simp only[Y6,hx];refine Z8 (W4 (Z8 (wpAny_setField dw rfl (by simp[lG]) ?_)));refine IM hh λh' e hk hc=>?_;refine aR hc ?_;clear hc;intro oe h1 h2;refine Z8 (WL (T:="StopIteration") (b:=ZW) (aj oe h1 h2) Uu ?_);exact Z5 (hQ h' λb o hb eb=>hk b o (((YV s.heap it _).2 b hb).trans eb))
theorem ab7{it t:Z1}{n:Nat}{o:Zp}{items:Array Z3}(bF:t≠it)(hd:o.data=.seq items n):∀(c i:Nat)(s:Z6)(Q:List Z3->Z6->Prop),s.heap.get? it=Z7 (lG t i)->s.heap.get? t=Z7 o->i+c<=items.size->(∀h',h'.get? it=Z7 (lG t (i+c))->YL it s.heap h'->Q ((items.toList.drop i).take c) {s with heap:=h'})->ZK (model prog w) A (draw (.ref it) c) Q E s:=by intro N';induction N' with|zero=>exactλi s Q dw _ _ hQ=>Z5 (by simpa using hQ s.heap dw (Heap.SameBut.refl ..));|succ c ih=>
  intro i s Q dw ho oX hQ;have bC:i<items.size:=(au 0x43 0x6071889e20e461) oX;refine Z8 (He dw ho hd (x:=items[i]) (by simp[bC]) λaH zE tZ=>?_);refine Z8 (ZL (ih (i+1) _ _ zE ((tZ.2 t bF).trans ho) ((au 0x2 0xc0e3113c41c0e22889e1) oX) λbe Pk bU=>Z5 ?_));have jH:items.toList.drop i=items[i]::items.toList.drop (i+1):=by simp[Yx,bC]
  have:=hQ be (by exists(show i+(c+1)=i+1+c by exact ar 0x1 0x1a88a227863113c41);exact Pk) (tZ.trans bU);rwa[jH,Wc]at this
theorem Al(P:Zr)(prog:YG):peek (KM P) ⟨prog,P⟩ (Ym (.ref 135) "__iter__")=Z7 (Z7 (.builtin "tuple.__iter__")):=by kernel_rfl
end
section
variable{w:ZD}{A:Zw}{E:Z3->Z6->Prop}{s:Z6}
theorem mN{x:Z1}{o:Zp}(ho:s.heap.get? x=Z7 o)(hc:o.cls=.ref 135){Q:Z3->Z6->Prop}(q:Q (.ref 135) s):ZK (model pw w) A (T7 (.ref x)) Q E s:=by exact Z8 (Tp ho (Z5 (hc.symm▸q)))
theorem ab8{x:Z1}{o:Zp}{Q:Z3->Z6->Prop}(Y:Keeps (aP w.params) s.heap)(ho:s.heap.get? x=Z7 o)(hc:o.cls=.ref 135)(hQ:Q (.ref s.heap.objs.size) {s with heap:=s.heap.push (lG x 0)}):ZK (model pw w) A (RK (.ref x)) Q E s:=by
 have fu:=ko Y;refine Z8 (Z8 (mN ho hc (YB (Y2 fu (Al _ _)) ?_)));refine Z8 ?_;refine ZL (Z8 (X5 (Q:=λr s'=>r=Z7 (XO "tuple.__iter__",[ZB x])/\s'=s) ?_ ?_ λC C z=>z))
 ·refine Z8 (Z8 (mN ho hc (YB (Y2 fu (Al _ _)) ?_)));have hb:∀{A:Zw}{E:Z3->Z6->Prop},ZK (model pw w) A (do let r<-bindSpecial (XO "tuple.__iter__") (ZB x);pure (Z7 r)) (λr s'=>r=Z7 (XO "tuple.__iter__",[ZB x])/\s'=s) E s:=λ{A E}=>Z8 (Zu (a:=(XO "tuple.__iter__",[ZB x])) (by kernel_rfl) (Z5 ⟨rfl,rfl⟩));refine Z8 (XG ?_);split;·exact hb
  ·exact Sm hb
 ·rintro r s'⟨rfl,rfl⟩;dsimp only;exists(if_neg (show¬((XO "tuple.__iter__"==Yr)=ZW)from Ze));refine Z8 (XH ?_);refine WT dk entry_tuple_iter ?_;have h1:VR "tuple.__iter__"=Z7 .slot:=dk;have h2:PL "tuple.__iter__"=Z7 ("tuple","__iter__"):=dk;dsimp only;exists h1;exists h2;refine Z8 (Z8 (mN ho hc (YB (Y2 fu (ug _ _)) ?_)));refine Zu (a:=()) (by kernel_rfl) ?_;show ZK _ _ (do ret (<-newFields "tuple_iterator" [.ref x,Yc 0])) _ _ _;refine Z8 (XU (Z5 ?_));refine Z5 ?_;have hT:T8 {s' with heap:=s'.heap.push (lG x 0)} (.ref s'.heap.objs.size) "tuple_iterator":=aj _ (Zy _ rfl) rfl;refine Z8 (Z8 (UQ hT (Zu WP.lookup ?_)));exact Z5 hQ
theorem acd{x:Z1}{o:Zp}{items:Array Z3}{n:Nat}{xO:List (Bool×(Z3->SV Unit))}{Q:Unit->Z6->Prop}(hh:A.handled=ZT)(Y:Keeps (aP w.params) s.heap)(ho:s.heap.get? x=Z7 o)(hc:o.cls=.ref 135)(hd:o.data=.seq items n)(hn:xO.length=items.size)(aac:xO.findIdx? (·.1)=ZT)(h:∀h',Sx s.heap.objs.size s.heap h'->ZK (model pw w) A (Uc (xO.map (·.2)) items.toList) Q E {s with heap:=h'}):ZK (model pw w) A (unpack (.ref x) xO) Q E s:=by
 have bF:x≠s.heap.objs.size:=X6 (Zc ho);have fu:=ko Y;unfold unpack;exists hn;exists aac;refine Z8 (ZL ?_);refine Z8 ?_;refine Z8 (Z8 (mN ho hc (YB (Y2 fu (Al _ _)) ?_)));refine Z5 ?_;simp only[YK,if_false];refine Z8 (ZL (ab8 Y ho hc ?_));refine Z8 (ZL (ab7 bF hd items.size 0 _ _ (Zy _ rfl) (ZX _ ho) (aD 0x1 0x3018842f) λaH zE tZ=>?_));have ON:PX items.size (PY 0 items.toList)=items.toList:=by exists List.drop_zero;exact Vy (by simp)
 exists ON;exists(if_neg (by simp));refine Z8 (ZL (Hd hh zE ((tZ.2 x bF).trans (ZX _ ho)) hd (by simp) λbe O8=>?_));simp only[UC,YK,if_false];exact Z5 (h be λb o hb e=>O8 b o hb ((tZ.2 b hb).trans (ZX _ e)))
end
section
variable{X:Fx}{ρ:Loc}{O:af}{pos px:XY}
theorem B5{D:List Z1}{h:YQ}{i j m:Int}{v:Z3}(r:aX D h v (lp i j m)):∃x o t u w n,v=.ref x/\x∉D/\h.get? x=Z7 o/\o.cls=.ref 135/\o.data=.seq #[.int i t,.int j u,.int m w] n:=by cases r with|ext mm p=>
  obtain⟨x,o,t,u,w,n,e1,e2,e3,e4,C⟩:=p;unfold cv at e2;split at e2;·cases e2
  ·rename_i hn;exact⟨x,o,t,u,w,n,e1,hn,e2,e3,e4⟩
theorem Tg.mat{ts:List Zt}{x1}{i j m:Int}{k:Loc->Prop}(dG:ts.length=3)(h:oj X ρ O ts [.int i,.int j,.int m] k):Tg X ρ O (.Tuple ts x1 px) (lp i j m) k:=λE s v F r=>by obtain⟨x,o,t,u,w,n,bS,hx,ho,hc,hd⟩:=B5 r;exists bS;have rl:∀h',bb (ak X O) h' [.int i t,.int j u,.int m w] [.int i,.int j,.int m]:=λh'=>.cons (.int _ _) (.cons (.int _ _) (.cons (.int _ _) .nil));refine f8 (h E s _ F (rl _)) λq1 q2 C=>?_;rw[PyProof.Rows.assign_Tuple];refine Z8 (YW (acd X.hh F.base ho hc hd (by exists q1;exists dG;rfl) q2 λh' hx=>?_));have hk:=Ai hx;have F':=F.keeps (tk:=s.toks) hk;exact wm (h E _ _ F' (rl _)).2.2 (λC aL z=>by refine dE z ?_;clear z;intro dR aS aY be;exact cQ dR aS ((aJ.of hk).trans aY) be)
theorem Tg.Ay{kd gt}(ok:Ok X kd gt){x y z:ZU}{p1 p2 p3:XY}{x1}{i j m:Int}{k:Loc->Prop}(h1:ma kd x=ZW)(h2:ma kd y=ZW)(h3:ma kd z=ZW)(h:k ((z,.int m)::(y,.int j)::(x,.int i)::ρ)):Tg X ρ O (.Tuple [.Name x p1,.Name y p2,.Name z p3] x1 px) (lp i j m) k:=by refine Tg.down (.mat rfl ?_);exact((pQ.cons h1 (.cons h2 (.cons h3 .nil))).ok (O:=O) ok (l:=[.int i,.int j,.int m]) (k:=λρ'=>∃eU,Sub eU ρ'/\k eU) rfl (aj _ (Sub.binds (xs:=[x,y,z]) (l:=[.int i,.int j,.int m]) (Sub.refl _)) h)).1
end
end
noncomputable section
variable{X Y:Fx}{ρ aZ:Loc}{O O':af}{s s':Z6}{E:Z3->Z6->Prop}{k:AV->af->Prop}{pos px cD:XY}{K:Kn}
theorem Ev.GE{o:Zt}{name:ZU}{id:String}(slot:P4 "list" name id)(ty:T7 (.builtin id)=pure (.type "method_descriptor"))(nu:Vi o name X.env (eval o X.env)=eval o X.env)(lW:(cD.endLine==pos.line)=ZW)(h:Ev X ρ O o λa ag=>(∃l,LV ag a l)/\aG X ρ ag (.builtin id) [a] k):Ev X ρ O (.Call (.Attribute o name cD) [] [] pos) k:=λE s F=>by refine Call_method0 nu lW (wm (h _ s F) (λov aq x=>?_));obtain⟨a,ag,aw,aI,a5,⟨l,hl⟩,aH⟩:=x;obtain⟨ad,vs,n,hg,rl⟩:=aw.rd a5 hl;refine pe ("list") id TM slot ty (aj _ hg rfl) (λb e=>by cases e;exact aj _ hg rfl) ?_;exact callWith_method0 (env:=X.env) (wm (aH _ aq _ aw (.cons a5 .nil)) (λv cR x=>.from aI x))
theorem bb.takes{D:List Z1}{h:YQ}{b:AV}:∀{vs:List Z3}{l:List AV},bb D h vs (l++[b])->bb D h (vs.take l.length) l
 |_,[],_=>.nil|_,_::l,.cons r rs=>.cons r (bb.takes rs)
theorem aG.pop{r:Z1}{l:List AV}{b:AV}(hm:(r,aQ.list (l++[b]))∈O)(hz:l.length<100000)(h:k b (bp O r (.list l))):aG X ρ O (.builtin "list.pop") [.ref r] k:=λE s vs F R=>by
 replace R:=R.i1;obtain⟨r1⟩:=R;cases r1.iR;refine kP (F.fL hm) λvs n ho rl=>?_;have hsz:vs.size=l.length+1:=by exists rl.size;exists ZQ;rfl
 have Fv:∃y,vs[vs.size-1]?=Z7 y/\aX (ak X O) s.heap y b:=by refine aR (rl.get (i:=l.length) (a:=b) (by simp)) λy hy ry=>?_;exact aj y (by exists hsz;simpa using hy) ry
 refine aR Fv ?_;clear Fv;intro y hy ry;refine RJ S4 (aj _ ho rfl) PySem.F.entry_list_pop (PySem.F.args_list_pop_1 _) (QE r vs n y hy (by exists hsz;exists Zs;exact(aD 0x2 0x190c2d01408f0e0300c0300c22f889e1) hz)) ?_;have sb:YL r s.heap (s.heap.update r (X8 λxs=>xs.eraseIdxIfInBounds (vs.size-1))):=YV ..;have e7:=YI (X8 λxs=>xs.eraseIdxIfInBounds (vs.size-1)) ho (by rfl);have gE:bb (ak X O) s.heap (vs.eraseIdxIfInBounds (vs.size-1)).toList l:=by
  have e:(vs.eraseIdxIfInBounds (vs.size-1)).toList=vs.toList.take l.length:=by
   have h1:vs.toList.length=l.length+1:=by exists Y0;exact hsz
   unfold Array.eraseIdxIfInBounds;rw[dif_pos (Nat.sub_lt (by rw[hsz];exact Nat.succ_pos _) Nat.one_pos),Array.toList_eraseIdx,hsz,WF];rw[List.eraseIdx_eq_take_drop_succ,VE (by exact(ar 0x2 0xd444f1071113c41) h1),ZA]
  exists e;exact rl.takes
 exact⟨ho,b,_,F.update (tk:=s.toks) (ao:=.list l) hm sb e7 (dT _ _ rfl gE),F.iF hm (λb o hb e=>(sb.2 b hb).trans e),ry.move (F.iF hm (λb o hb e=>(sb.2 b hb).trans e)),h⟩
end
noncomputable section
theorem af5:P4 "tuple" (Z9 "__lt__") "tuple.__lt__":=.of (owner:="tuple") (n:="__lt__") (by rw[Y5,Zq];kernel_rfl) dk dk dk (by first|exact .inl dk|exact .inr dk) (by rw[XQ];kernel_rfl)
theorem MS:Vc table "tuple.__lt__"=Z7 XJ.«tuple.__lt__»:=WM (by kernel_rfl)
theorem aaM(P:Zr)(prog:YG):peek (KM P) ⟨prog,P⟩ (Ym (.ref 135) "__lt__")=Z7 (Z7 (.builtin "tuple.__lt__")):=by kernel_rfl
noncomputable def qR(i j m:Int)(t u v:PG):Array Z3:=#[.int i t,.int j u,.int m v]
section
variable{w:ZD}{A:Zw}{E:Z3->Z6->Prop}{s:Z6}
theorem acb{x y:Z1}{ox oy:Zp}{i j m i' j' m':Int}{t u v t' C v':PG}{n n':Nat}{Q:Xw->Z6->Prop}(Y:Keeps (aP w.params) s.heap)(hx:s.heap.get? x=Z7 ox)(tF:ox.data=.seq (qR i j m t u v) n)(hy:s.heap.get? y=Z7 oy)(zp:oy.cls=.ref 135)(zv:oy.data=.seq (qR i' j' m' t' C v') n')(h:Q (.done (.ret (.bool (if i=i' then(if j=j' then decide (m<m')else decide (j<j'))else decide (i<i'))))) s):ZK (model pw w) A (XJ.«tuple.__lt__» ⟨[.ref x,.ref y],[]⟩) Q E s:=by
 have fu:=ko Y;have zo:∀{a b:Int}{p q:PG}{A:Zw}{Q:Z3->Z6->Prop},Q (.bool (decide (a<b))) s->ZK (model pw w) A (richCompare .Lt (.int a p) (.int b q)) Q E s:=λh=>R6 (a:=_) (b:=_) h;show ZK (model pw w) A (do
 let(a,[b])<-PySem.slotArgs "__lt__" 1 ⟨[.ref x,.ref y],[]⟩|unsupported "internal:tuple.compare"
 if !(<-Qg b (.type "tuple"))then return<-ret .notImplemented
 let xs<-WI a;let ys<-WI b;for(x,y)in xs.toList.zip ys.toList do if !(<-eqBool x y)then match PD with|.Eq=>return<-ret (.bool ZS);|.NotEq=>return<-ret (.bool ZW);|_=>rule "tuple.compare.by-the-first-pair-that-differs";return<-ret (<-richCompare PD x y)
 ret (R9 PD xs.size ys.size)) Q E s;refine Z8 (Zu (a:=(ZB x,[ZB y])) (by kernel_rfl) ?_);dsimp only;refine Z8 (Z8 (mN hy zp (YB (Y2 fu (ug _ _)) ?_)));exists(if_neg (by decide));refine Z8 (Z8 (Xq hx tF (Z5 ?_)));refine Z8 (Z8 (Xq hy zv (Z5 ?_)));exists(show(qR i j m t u v).toList.zip (qR i' j' m' t' C v').toList=[(TD i t,TD i' t'),(TD j u,TD j' C),(TD m v,TD m' v')]from rfl);refine Z8 ?_;rw[V1];refine Z8 ?_;refine Z8 (TC ?_);by_cases hi:i=i'
 ·rw[if_pos hi]at h;exists(if_neg (by simp[hi]));refine Z5 ?_;dsimp only;rw[V1];refine Z8 (Z8 (TC ?_));by_cases hj:j=j'
  ·rw[if_pos hj]at h;exists(if_neg (by simp[hj]));refine Z5 ?_;dsimp only;rw[V1];refine Z8 (Z8 (TC ?_));by_cases hm:m=m';·exists(if_neg (by simp[hm]));refine Z5 ?_;dsimp only;exists Qd;refine Z5 ?_;dsimp only;refine Zu (a:=Sk (.ret (.bool ZS))) (by kernel_rfl) ?_;rw[show decide (m<m')=ZS from decide_eq_false ((ia 0x2 0x744e0bbdc1382e) hm)]at h;exact h
   ·exists(if_pos (by simp[hm]));dsimp only;exact Z8 (W4 (Z8 (zo (Z8 (Z5 (Z5 (Z5 (Z5 h))))))))
  ·rw[if_neg hj]at h;exists(if_pos (by simp[hj]));dsimp only;exact Z8 (W4 (Z8 (zo (Z8 (Z5 (Z5 (Z5 (Z5 h))))))))
 ·rw[if_neg hi]at h;exists(if_pos (by simp[hi]));dsimp only;exact Z8 (W4 (Z8 (zo (Z8 (Z5 (Z5 (Z5 (Z5 h))))))))
theorem aca{x y:Z1}{ox oy:Zp}{i j m i' j' m':Int}{t u v t' C v':PG}{n n':Nat}{Q:Bool->Z6->Prop}(hu:A.units<X1)(Y:Keeps (aP w.params) s.heap)(hx:s.heap.get? x=Z7 ox)(j9:ox.cls=.ref 135)(tF:ox.data=.seq (qR i j m t u v) n)(hy:s.heap.get? y=Z7 oy)(zp:oy.cls=.ref 135)(zv:oy.data=.seq (qR i' j' m' t' C v') n')(h:Q (if i=i' then(if j=j' then decide (m<m')else decide (j<j'))else decide (i<i')) s):ZK (model pw w) A (keyLt' TB (.ref x) (.ref y)) Q E s:=by
 have fu:=ko Y;rw[keyLt'_oneType,oneLt'_eq];exists if_pos rfl;refine Z8 (wpAny_cRoomFor hu ?_);refine Z8 ?_;unfold callSpecialIfBound?;refine ZL (Z8 (X5 (Q:=λr s'=>r=Z7 (XO "tuple.__lt__",[ZB x])/\s'=s) ?_ ?_ λC C z=>z))
 ·unfold bindSpecialIfBound? specialOf;refine Z8 (Z8 (mN hx j9 (YB (Y2 fu (aaM _ _)) ?_)));dsimp only;have hb:∀{A:Zw}{E:Z3->Z6->Prop},ZK (model pw w) A (do let r<-bindSpecial (XO "tuple.__lt__") (ZB x);pure (Z7 r)) (λr s'=>r=Z7 (XO "tuple.__lt__",[ZB x])/\s'=s) E s:=λ{A E}=>Z8 (Zu (a:=(XO "tuple.__lt__",[ZB x])) (by kernel_rfl) (Z5 ⟨rfl,rfl⟩));refine Z8 (XG ?_);split;·exact hb
  ·exact Sm hb
 ·rintro r s'⟨rfl,rfl⟩;dsimp only;refine Z8 (XH ?_);refine WT dk MS ?_;unfold WK;have h1:VR "tuple.__lt__"=Z7 .slot:=dk;have h2:PL "tuple.__lt__"=Z7 ("tuple","__lt__"):=dk;dsimp only;exists h1;exists h2;dsimp only;unfold Qg;refine Z8 (Z8 (mN hx j9 (YB (Y2 fu (ug _ _)) ?_)));refine Zu (a:=()) (by kernel_rfl) ?_;refine acb Y hx tF hy zp zv ?_;exact Z5 (VJ h)
end
end
class inductive iH(lt:Nat->Nat->Bool)(n:Nat){α:Type}:KasT α->α->Prop|ret(a):iH lt n (.ret a) a|ask{i j k a}:i<n->j<n->iH lt n (k (lt i j)) a->iH lt n (.ask i j k) a
theorem iH.bind{lt:Nat->Nat->Bool}{n:Nat}{α β:Type}{t:KasT α}{a:α}{f:α->KasT β}{b:β}(h:iH lt n t a)(q:iH lt n (f a) b):iH lt n (t.bind f) b:=by induction h with|ret a=>exact q;|ask hi hj _ ih=>exact .ask hi hj (ih q)
structure Pm(n:Nat)(p:Array Nat):Prop where
 size:p.size=n
 perm:p.toList.Perm (Zh n)
section
variable{n:Nat}{p:Array Nat}{key:Nat->Int}
theorem Pm.lt(h:Pm n p){i:Nat}(hi:i<n):p.getD i 0<n:=by
 have:p.getD i 0=p[i]'(by exists h.size;exact hi):=by simp[Ut,h.size,hi]
 exists this;exact X4.mp (h.perm.mem_iff.mp (by simp))
theorem Pm.ne(h:Pm n p){i j:Nat}(hi:i<n)(hj:j<n)(dg:i≠j):p.getD i 0≠p.getD j 0:=λe=>by
 have hn:p.toList.Nodup:=h.perm.nodup_iff.mpr List.nodup_range;have e1:p.getD i 0=p[i]'(by exists h.size;exact hi):=by simp[Ut,h.size,hi]
 have e2:p.getD j 0=p[j]'(by exists h.size;exact hj):=by simp[Ut,h.size,hj]
 rw[e1,e2]at e;have hp:=WY.mp hn;refine ZR (XK i j) (λhl=>?_) (λhl=>?_);·exact hp i j (by exists Y0;exists h.size;exact hi) (by exists Y0;exists h.size;exact hj) hl (by simpa using e)
 ·exact hp j i (by exists Y0;exists h.size;exact hj) (by exists Y0;exists h.size;exact hi) ((ar 0x2 0x3da08b020e441) dg hl) (by simpa using e.symm)
noncomputable def dB(key:Nat->Int)(p:Array Nat)(i:Nat):Int:=key (p.getD i 0)
def Up(key:Nat->Int)(p:Array Nat)(m:Nat):Prop:=∀i j,i<j->j<m->dB key p i<dB key p j
def Dn(key:Nat->Int)(p:Array Nat)(m:Nat):Prop:=∀i j,i<j->j<m->dB key p j<dB key p i
def oh(key:Nat->Int)(n:Nat):Prop:=∀i j,i<n->j<n->key i=key j->i=j
noncomputable def iD(key:Nat->Int)(i j:Nat):Bool:=decide (key i<key j)
theorem Up.grow{m:Nat}(h:Up key p m)(hm:0<m)(q:dB key p (m-1)<dB key p m):Up key p (m+1):=λi j dg hj=>by
 rcases XI (Te.mp hj)with hj|rfl;·exact h i j dg hj
 ·rcases XI (Si dg)with hi|rfl;·exact Wf (h i (j-1) hi ((aD 0x2 0x3210bf21909e1) hm)) q
  ·exact q
theorem Dn.grow{m:Nat}(h:Dn key p m)(hm:0<m)(q:dB key p m<dB key p (m-1)):Dn key p (m+1):=λi j dg hj=>by
 rcases XI (Te.mp hj)with hj|rfl;·exact h i j dg hj
 ·rcases XI (Si dg)with hi|rfl;·exact Wf q (h i (j-1) hi ((aD 0x2 0x3210bf21909e1) hm))
  ·exact q
theorem Dm(P:Pm n p)(J:oh key n):∀(f c:Nat),1<=c->c+f<=n->Up key p c->∃m,iH (iD key) n (kas_asc p f c) m/\c<=m/\m<=c+f/\Up key p m/\(m<c+f->dB key p m<dB key p (m-1)):=by intro N';induction N' with|zero=>exactλc _ _ h=>Ab c (.ret _) (ZO _) (ZO _) h (λq=>absurd q (YT _));|succ f ih=>
  intro c hc hf h;by_cases q:key (p.getD c 0)<key (p.getD (c-1) 0);·refine Ab c (.ask (P.lt ((au 0x43 0x6071889e20e461) hf)) (P.lt ((au 0xc24 0x3028c44f18722909e1) hf)) ?_) (ZO _) (ar 0x22 0xc462278442) h (λC=>q);exists(show iD key (p.getD c 0) (p.getD (c-1) 0)=ZW from decide_eq_true q);exists if_pos rfl;exact .ret _
  ·have bF:key (p.getD c 0)≠key (p.getD (c-1) 0):=λe=>P.ne (i:=c) (j:=c-1) ((au 0x43 0x6071889e20e461) hf) ((au 0xc24 0x3028c44f18722909e1) hf) ((aD 0x2 0x60227fb5213c21) hc) (J _ _ (P.lt ((au 0x43 0x6071889e20e461) hf)) (P.lt ((au 0xc24 0x3028c44f18722909e1) hf)) e);refine vz (ih (c+1) (aD 0x22 0x62227844f) ((au 0x2 0xc0e3113c41c0e22889e1) hf) (h.grow ((aD 0x2 0xc044fc842f) hc) (by unfold dB;exact(ia 0x2 0x1ee05c277ba1709dc1382e) q bF))) λm h1 h2 h3 h4 h5=>?_;refine Ab m (.ask (P.lt ((au 0x43 0x6071889e20e461) hf)) (P.lt ((au 0xc24 0x3028c44f18722909e1) hf)) ?_) ((ar 0x2 0x181444f0e041) h2) ((au 0x2 0xc447113c41c462278c41) h3) h4 (λz=>h5 ((au 0x2 0xcc62278c41cc47113c41) z));exists(show iD key (p.getD c 0) (p.getD (c-1) 0)=ZS from decide_eq_false q);exists if_neg Ze;exact h1
theorem Mk(P:Pm n p)(J:oh key n):∀(f c:Nat),1<=c->c+f<=n->Dn key p c->∃m,iH (iD key) n (kas_desc f p c 0) (p,m,0)/\c<=m/\m<=c+f/\Dn key p m:=by intro N';induction N' with|zero=>exactλc _ _ h=>fe c (.ret _) (ZO _) (ZO _) h;|succ f ih=>
  intro c hc hf h;by_cases q:key (p.getD c 0)<key (p.getD (c-1) 0);·refine gM (ih (c+1) (aD 0x22 0x62227844f) ((au 0x2 0xc0e3113c41c0e22889e1) hf) (h.grow ((aD 0x2 0xc044fc842f) hc) q)) λm h1 h2 h3 h4=>?_;refine fe m (.ask (P.lt ((au 0x43 0x6071889e20e461) hf)) (P.lt ((au 0xc24 0x3028c44f18722909e1) hf)) ?_) ((ar 0x2 0x181444f0e041) h2) ((au 0x2 0xc447113c41c462278c41) h3) h4;exists(show iD key (p.getD c 0) (p.getD (c-1) 0)=ZW from decide_eq_true q);exists if_pos rfl;exists if_neg (YT 0);exact h1
  ·have bF:key (p.getD c 0)≠key (p.getD (c-1) 0):=λe=>P.ne (i:=c) (j:=c-1) ((au 0x43 0x6071889e20e461) hf) ((au 0xc24 0x3028c44f18722909e1) hf) ((aD 0x2 0x60227fb5213c21) hc) (J _ _ (P.lt ((au 0x43 0x6071889e20e461) hf)) (P.lt ((au 0xc24 0x3028c44f18722909e1) hf)) e);refine fe c (.ask (P.lt ((au 0x43 0x6071889e20e461) hf)) (P.lt ((au 0xc24 0x3028c44f18722909e1) hf)) ?_) (ZO _) (ar 0x22 0xc462278442) h;exists(show iD key (p.getD c 0) (p.getD (c-1) 0)=ZS from decide_eq_false q);exists if_neg Ze;refine .ask (P.lt ((au 0xc24 0x3028c44f18722909e1) hf)) (P.lt ((au 0x43 0x6071889e20e461) hf)) ?_;exists(show iD key (p.getD (c-1) 0) (p.getD c 0)=ZW from decide_eq_true ((ia 0x2 0x1ee05c277ba1709dc1382e) q bF));exists if_pos rfl;exact .ret _
theorem vO{p q:Array Nat}{i j:Nat}(h:p[i]?=q[j]?):p.getD i 0=q.getD j 0:=by exists UP;exists UP;exact bG h rfl
theorem Pm.of(P:Pm n p){q:Array Nat}(h:q.Perm p):Pm n q:=⟨h.size_eq.trans P.size,(Array.perm_iff_toList_perm.mp h).trans P.perm⟩
theorem adx(P:Pm n p){m:Nat}(hm:m<=n)(h:Dn key p m):Up key (PK p 0 m) m:=λi j dg hj=>by
 have e:∀t,t<m->dB key (PK p 0 m) t=dB key p (m-1-t):=λt ht=>by unfold dB;congr 1;refine vO ?_;have:=getElem?_mirror_all (xs:=p) (i:=0) (j:=m) (by exists P.size;exact hm) t;unfold PK;rw[this,if_pos ⟨ZI _,ht⟩,UW]
 exists e i ((au 0x3 0x19187221e441) dg hj);exists e j hj;exact h _ _ ((au 0x4 0x6422c8c3990a4278e41909e3) dg hj) ((au 0xc24 0x6443c8a41909e2) hj)
theorem IR(P:Pm n p)(i j:Nat):Pm n (PK p i j):=P.of (mirror_perm _ _ _ _)
theorem aeN(P:Pm n p)(J:oh key n){m:Nat}(h1:1<=m)(hm:m<=n)(h:Dn key p m):∃m' p',iH (iD key) n (kas_tail3 m n p) (m',p')/\Pm n p'/\1<=m'/\m'<=n/\Up key p' m':=by refine vz (Dm (IR P 0 m) J (n-m) m h1 ((ar 0x2 0x3020e05190441) hm) (adx P hm h)) λm' e1 e2 e3 e4 C=>?_;exact qt m' _ (e1.bind (.ret _)) (IR P 0 m) ((ar 0x3 0x60427e022c044f) h1 e2) ((au 0x3 0x18187119046116062) hm e3) e4
theorem L7(P:Pm n p)(J:oh key n)(hn:2<=n):∃m p',iH (iD key) n (kas_count n p) (m,p')/\Pm n p'/\1<=m/\m<=n/\Up key p' m:=by
 refine vz (Dm P J (n-1) 1 (ZO _) ((aD 0x2 0x1808df80c6427844f) hn) (λi j dg hj=>by exact Ar.bA 0x24 0xc8c3913c7c2384e [_,0,_,0] [0,_,0,_] (by kernel_rfl) dg hj)) λm e1 e2 e3 e4 e5=>?_;by_cases q:m=n;·exact qt m p (e1.bind (by exists(if_pos (by simpa using q));exact .ret _)) P e2 ((ar 0x2 0x3420e041) q) e4
 ·by_cases q1:m>1;·refine qt m p (e1.bind ?_) P e2 ((ar 0x3 0xc086fc46427884f0e041) hn e3) e4;exists(if_neg (by simpa using q));exists if_pos q1;refine .ask (P.lt ((aD 0x2 0xc046fc842f) hn)) (P.lt ((ar 0x3 0x623213c2278b2213f21909e2) e3 q1)) ?_;exists(show iD key (p.getD 0 0) (p.getD (m-1) 0)=ZW from decide_eq_true (e4 0 (m-1) ((aD 0x2 0x64227e6427842f) q1) ((aD 0x2 0x32113f21909e1) q1)));exists if_pos rfl;exact .ret _
  ·have hm:m=1:=(aD 0x2 0x18089fec844fd09e1) e2 q1;subst hm;have d2:Dn key p 2:=λi j dg hj=>by have:i=0:=(ar 0x23 0x6441c8de2d05e1) dg hj;have:j=1:=(ar 0x43 0x6422c8de1d09e1) dg hj;subst i;subst j;exact e5 ((aD 0x2 0x3011bf31909e113c4f) hn)
   refine gM (Mk P J (n-(1+1)) (1+1) (by exact Ar.bA 0x1 0xc444f13c4f [] [] (by kernel_rfl)) (by exact(aD 0x2 0x60237e0319444f13c3113c4f) hn) d2) λm2 g1 g2 g3 g4=>?_;obtain⟨m',p',k1,k2,k3,k4,k5⟩:=aeN P J (m:=m2) ((aD 0x2 0x603113c4fc044f) g2) ((ar 0x3 0x3021bf119444f13c5113c4f0e041) hn g3) g4;refine qt m' p' (e1.bind ?_) k2 k3 k4 k5;exists(if_neg (by simpa using q));exists if_neg q1;refine g1.bind ?_;exists if_neg (YT 0);exact k1
theorem adc(P:Pm n p)(J:oh key n){k:Nat}(hk:k<n)(h:Up key p k):∀(f l r:Nat),r-l<=f->l<=r->r<=k->(∀i,i<l->dB key p i<dB key p k)->(∀i,r<=i->i<k->dB key p k<dB key p i)->∃t,iH (iD key) n (kas_place p k f l r) t/\t<=k/\(∀i,i<t->dB key p i<dB key p k)/\(∀i,t<=i->i<k->dB key p k<dB key p i):=by intro N';induction N' with|zero=>exactλl r hf hl hr a b=>fe l (.ret _) ((au 0x3 0x18187021e041) hl hr) a (λi h1 h2=>b i ((au 0x3 0xc05f2187021e041) hf h1) h2);|succ f ih=>
  intro l r hf hl hr a b;unfold kas_place;by_cases q:l≥r;·exists if_pos q;exact fe l (.ret _) ((au 0x3 0x18187021e041) hl hr) a (λi h1 h2=>b i (by exact(au 0x3 0x18187021e041) q h1) h2)
  ·exists if_neg q;by_cases c:key (p.getD k 0)<key (p.getD ((l+r)/2) 0)
   ·refine aR (ih l ((l+r)/2) (by exact Ar.bA 0x1045 0x6222792432ea251c45308df824861 [_,(l+r)%2,_,_,_] [] (by kernel_rfl) hf (Yw (l+r) 2)) (by exact Ar.bA 0x4 0x1ec089a890511cc237e46f1e022 [_,_,(l+r)%2,_] [] (by kernel_rfl) q (Yw (l+r) 2) (UL (l+r) (by decide:2>0))) (by exact Ar.bA 0x85 0xc147ec087a88c5124c237e0a1 [_,_,_,(l+r)%2,_] [] (by kernel_rfl) hr q (Yw (l+r) 2)) a (λi h1 h2=>by
     refine ZR (XI h1) (λz=>?_) (λz=>?_);·exact Wf c (h _ _ z h2)
     ·exists Zz z;exact c)) λt e1 e2=>?_;refine aj t (.ask (P.lt hk) (P.lt (by exact Ar.bA 0x86 0x64a6c187ec087a88c5124c237e4a1 [_,_,_,(l+r)%2,_,_] [] (by kernel_rfl) hk hr q (Yw (l+r) 2))) ?_) e2;exists(show iD key (p.getD k 0) (p.getD ((l+r)/2) 0)=ZW from decide_eq_true c);exists if_pos rfl;exact e1
   ·have bF:key (p.getD k 0)≠key (p.getD ((l+r)/2) 0):=λe=>P.ne (i:=k) (j:=(l+r)/2) hk (by exact Ar.bA 0x86 0x64a6c187ec087a88c5124c237e4a1 [_,_,_,(l+r)%2,_,_] [] (by kernel_rfl) hk hr q (Yw (l+r) 2)) (by exact Ar.bA 0x85 0x18097d81975128e249886ff6841 [_,_,_,(l+r)%2,_] [] (by kernel_rfl) hr q (Yw (l+r) 2)) (J _ _ (P.lt hk) (P.lt (by exact Ar.bA 0x86 0x64a6c187ec087a88c5124c237e4a1 [_,_,_,(l+r)%2,_,_] [] (by kernel_rfl) hk hr q (Yw (l+r) 2))) e);have bC:dB key p ((l+r)/2)<dB key p k:=by unfold dB;exact(ia 0x2 0x1ee05c277ba1709dc1382e) c bF
    refine aR (ih ((l+r)/2+1) r (by exact Ar.bA 0x85 0x31113c9228f51196229846fc8de2c125113c23 [_,(l+r)%2,_,_,_] [] (by kernel_rfl) hf (Yw (l+r) 2) (UL (l+r) (by decide:2>0))) (by exact Ar.bA 0x64 0xf6044d448288e611bf04889e1 [_,_,(l+r)%2,_] [] (by kernel_rfl) q (Yw (l+r) 2)) hr (λi h1=>by
     refine ZR (XI (VM h1)) (λz=>?_) (λz=>?_);·exact Wf (h _ _ z (by exact Ar.bA 0x85 0xc147ec087a88c5124c237e4a1 [_,_,_,(l+r)%2,_] [] (by kernel_rfl) hr q (Yw (l+r) 2))) bC
     ·exists z;exact bC) b) λt e1 e2=>?_;refine aj t (.ask (P.lt hk) (P.lt (by exact Ar.bA 0x86 0x64a6c187ec087a88c5124c237e4a1 [_,_,_,(l+r)%2,_,_] [] (by kernel_rfl) hk hr q (Yw (l+r) 2))) ?_) e2;exists(show iD key (p.getD k 0) (p.getD ((l+r)/2) 0)=ZS from decide_eq_false c);exists if_neg Ze;exact e1
theorem Lv(P:Pm n p){k t:Nat}(hk:k<n)(ht:t<=k)(h:Up key p k)(a:∀i,i<t->dB key p i<dB key p k)(b:∀i,t<=i->i<k->dB key p k<dB key p i):Up key (bubble p k (k-t)) (k+1):=λi j dg hj=>by
 have e:∀x,dB key (bubble p k (k-t)) x=if x=t then dB key p k else if t<x/\x<=k then dB key p (x-1)else dB key p x:=λx=>by
  have:=getElem?_bubble (xs:=p) (src:=k) (by exists P.size;exact hk) (k-t) (Qw _ _) x;rw[show k-(k-t)=t by exact(ar 0x43 0x3011685290821) ht]at this;split;·rename_i q;rw[if_pos q]at this;exact congrArg key (vO this)
  ·rename_i q;rw[if_neg q]at this;split;·rename_i q2;rw[if_pos q2]at this;exact congrArg key (vO this)
   ·rename_i q2;rw[if_neg q2]at this;exact congrArg key (vO this)
 exists e i;exists e j;by_cases hi:i=t;·exists if_pos hi;exists if_neg ((au 0x3 0x3211e843f6841) dg hi:¬j=t);exists if_pos ⟨(au 0x3 0x1910f411e441) dg hi,(ar 0x2 0x19889e20e041) hj⟩;exact b _ ((au 0x4 0xc887a08f1213c41) dg hi) ((au 0x64 0x6423cc44f10722909e1) dg hj)
 ·exists if_neg hi;by_cases oW:t<i/\i<=k;·exists if_pos oW;exists if_neg ((aU 0x3 0x3211ff041e462f6841) dg oW:¬j=t);exists if_pos ⟨(aU 0x3 0x1910ff820f230e441) dg oW,(ar 0x2 0x19889e20e041) hj⟩;exact h _ _ ((aU 0x45 0x6424fe064c9059909e1909e4) dg oW) ((au 0x64 0x6423cc44f10722909e1) dg hj)
  ·exists if_neg oW;by_cases rI:j=t;·exists if_pos rI;exact a _ ((au 0x3 0x19187421e441) dg rI)
   ·exists if_neg rI;by_cases v8:t<j/\j<=k;·exists if_pos v8;exact h _ _ ((aU 0x5 0xc907ed047efe043c8c3fc08992073213c83) dg hi oW v8) ((au 0x64 0x6423cc44f10722909e1) dg hj)
    ·exists if_neg v8;exact h _ _ ((ar 0x2 0x3220e441) dg) ((au 0x3 0xc0c39889e317b4117bf818b220e462) ht hj rI v8)
theorem Lg(J:oh key n):∀(f:Nat)(p:Array Nat)(k:Nat),Pm n p->k+f=n->1<=k->Up key p k->∃p',iH (iD key) n (kas_bin f p k) p'/\Pm n p'/\Up key p' n:=by intro N';induction N' with|zero=>exactλp k P hk _ h=>cQ p (.ret _) P (by exists Zz hk;exact h);|succ f ih=>intro p k P hk h1 h;refine gM (adc P J (k:=k) ((au 0x43 0x6871889e20e461) hk) h k 0 k (ZO _) (ZI _) (ZO _) (λi hi=>absurd hi (WX _)) (λi h1 h2=>by exact Ar.bA 0x2 0x6081c849c1b84e [_,0,0,_] [0,_,_,0] (by kernel_rfl) h1 h2)) λt e1 e2 e3 e4=>?_;refine dE (ih (bubble p k (k-t)) (k+1) (P.of (bubble_perm _ _ _)) ((au 0x2 0xd0e3113c41d0e22889e1) hk) (aD 0x22 0x62227844f) (Lv P ((au 0x43 0x6871889e20e461) hk) e2 h e3 e4)) λp' g1 g2 g3=>?_;exact cQ p' (e1.bind g1) g2 g3
theorem aeo(J:oh key n)(hn:2<=n):∃p,iH (iD key) n (kas_sort n) p/\Pm n p/\Up key p n:=by
 have P0:Pm n (Zh n).toArray:=⟨by simp,by simp⟩;obtain⟨m,p,e1,e2,e3,e4,e5⟩:=L7 P0 J hn;by_cases q:m<n;·refine dE (Lg J (n-max m 1) p (max m 1) e2 ((ar 0x43 0xc845a0c65513c41a89e2) q) (aD 0x2 0x62a27844f) (by exists QN e3;exact e5)) λp' g1 g2 g3=>?_;refine cQ p' (e1.bind ?_) g2 g3;exists if_pos q;exact g1
 ·refine cQ p (e1.bind ?_) e2 ?_;·exists if_neg q;exact .ret _
  ·rw[show m=n by exact(ar 0x2 0x3020fb220e841) e4 q]at e5;exact e5
end
noncomputable section
theorem iH.wp{lt:Nat->Nat->Bool}{n:Nat}{α:Type}{t:KasT α}{a:α}{cmp:Nat->Nat->(Bool->Z6->Prop)->Z6->Prop}{s:Z6}{Q:α->Z6->Prop}(h:iH lt n t a)(hc:∀i j(ah:Bool->Z6->Prop),i<n->j<n->ah (lt i j) s->cmp i j ah s)(q:Q a s):t.kasWp cmp Q s:=by induction h with|ret a=>exact q;|ask hi hj _ ih=>exact hc _ _ _ hi hj (ih q)
structure pP(h:YQ)(v:Z3)(b:Int×Int×Int):Prop where ex:∃x o t u w n,v=.ref x/\h.get? x=some o/\o.cls=.ref 135/\o.data=.seq (qR b.1 b.2.1 b.2.2 t u w) n
theorem pP.but{h h':YQ}{v:Z3}{b:Int×Int×Int}{r:Z1}{o:Zp}(x:pP h v b)(hr:h.get? r=Z7 o)(hc:o.cls=.type "list")(k:∀a o,a≠r->h.get? a=Z7 o->h'.get? a=Z7 o):pP h' v b:=by obtain⟨x,ox,t,u,w,n,rfl,e1,e2,e3⟩:=x;refine⟨x,ox,t,u,w,n,rfl,k _ _ ?_ e1,e2,e3⟩;rintro rfl;replace e1:=hr▸e1;cases e1;replace e2:=hc▸e2;cases e2
section
variable{w:ZD}{A:Zw}{E:Z3->Z6->Prop}{s:Z6}
theorem Kq{vs:List Z3}{ks:List (Int×Int×Int)}(hu:A.units<X1)(Y:Keeps (aP w.params) s.heap)(hl:vs.length=ks.length)(hv:∀(i:Nat)(v:Z3)(b:Int×Int×Int),vs[i]?=Z7 v->ks[i]?=Z7 b->pP s.heap v b)(nd:(ks.map (·.1)).Nodup){i j:Nat}(hi:i<vs.length)(hj:j<vs.length){ah:Bool->Z6->Prop}(h:ah (iD (λi=>(ks.getD i (0,0,0)).1) i j) s):kas_ask pw w A TB vs i j ah s:=by
 unfold kas_ask;have gv:∀{i:Nat},i<vs.length->∃v b,vs[i]?=Z7 v/\ks[i]?=Z7 b/\vs.getD i Yr=v/\ks.getD i (0,0,0)=b:=λ{i}hi=>by have gc:i<ks.length:=(au 0x3 0x1a10f230e441) hl hi;refine pd (vs[i]) (ks[i]) (Z0 hi) (Z0 gc) ?_ ?_<;>simp[hi,gc]
 refine th (gv hi) λv b e1 e2 e3 e4=>?_;refine th (gv hj) λv' b' f1 f2 f3 f4=>?_;obtain⟨x,ox,t,u,w',n,rfl,g1,g2,g3⟩:=hv _ _ _ e1 e2;obtain⟨y,oy,t',C,w'',n',rfl,k1,k2,k3⟩:=hv _ _ _ f1 f2;exists e3;exists f3;replace h:ah (decide (b.1<b'.1)) s:=by
  have e:iD (λi=>(ks.getD i (0,0,0)).1) i j=decide (b.1<b'.1):=by show decide ((ks.getD i (0,0,0)).1<(ks.getD j (0,0,0)).1)=_;simp only[e4,f4]
  exists Zz e;exact h
 refine aca hu Y g1 g2 g3 k1 k2 k3 ?_;by_cases c:b.1=b'.1
 ·have gc:i<ks.length:=(au 0x3 0x1a10f230e441) hl hi;have gP:j<ks.length:=(au 0x3 0x1a10f230e441) hl hj;have dg:i=j:=by
   have hp:=WY.mp nd;refine ZR (Rf i j) (λq=>?_) (λz'=>ZR z' (λq=>?_) (λq=>?_));·refine absurd ?_ (hp i j (by simpa using gc) (by simpa using gP) q);replace e2:=(Z0 gc)▸e2;replace f2:=(Z0 gP)▸f2;cases e2;cases f2;simpa using c
   ·exact q
   ·refine absurd ?_ (hp j i (by simpa using gP) (by simpa using gc) q);replace e2:=(Z0 gc)▸e2;replace f2:=(Z0 gP)▸f2;cases e2;cases f2;simpa using c.symm
  subst dg;replace f2:=e2▸f2;cases f2;exists if_pos rfl;exists if_pos rfl;simpa using h
 ·exists if_neg c;exact h
theorem aef:∀{vs:List Z3},vs.length<2->(XC (Zh vs.length)).toList.map (λi=>vs.getD i Yr)=vs
 |[],_=>rfl|[_],_=>rfl|_::_::l,h=>absurd h (UE.mpr (Th 2 l.length))
theorem aeg{vs:List Z3}(h:vs.length<2):(vs.toArray.zip vs.toArray).map (·.2)=vs.toArray:=by apply QX.mp;simp only[QW,Array.toList_zip];cases vs with|nil=>rfl;|cons v vs=>cases vs with|nil=>rfl;|cons w vs=>exact absurd h (UE.mpr (Th 2 _))
theorem aen{r:Z1}{n:Nat}{vs:List Z3}{ks:List (Int×Int×Int)}{Q:Xw->Z6->Prop}(hu:A.units<X1)(Y:Keeps (aP w.params) s.heap)(zT:(aP w.params).get? r=ZT)(ho:s.heap.get? r=Z7 (RC "list" vs.toArray n))(fq:vs.length<64)(hl:vs.length=ks.length)(hv:∀(i:Nat)(v:Z3)(b:Int×Int×Int),vs[i]?=Z7 v->ks[i]?=Z7 b->pP s.heap v b)(nd:(ks.map (·.1)).Nodup)(h:∀(p:Array Nat)h' c tk,p.toList.Perm (Zh vs.length)->(∀i j,i<j->j<vs.length->(ks.getD (p.getD i 0) (0,0,0)).1<(ks.getD (p.getD j 0) (0,0,0)).1)->(∀b o,b≠r->s.heap.get? b=Z7 o->h'.get? b=Z7 o)->h'.get? r=Z7 (RC "list" (XC (p.toList.map λi=>vs.getD i Yr)) c)->Q (.done (.ret .none)) {s with heap:=h',toks:=tk}):ZK (model pw w) A (XJ.«list.sort» ⟨[.ref r],[]⟩) Q E s:=by
 have s1:=YV s.heap r (X8 λC=>(#[]:Array Z3));obtain⟨e1,mB⟩:∃e1,(s.heap.update r (X8 λC=>(#[]:Array Z3))).get? r=Z7 (RC "list" #[] e1):=⟨_,get?_update_seq ho λC=>#[]⟩;rw[list_sort_plain];refine Z8 (listItems_at ho rfl ?_);refine Z8 (listUpdate_at ho rfl ?_ (by exists Vx;exists Zs;exact(aD 0x2 0x32180de1c060180601845e1) fq) (ZI _));refine Z8 (seqEpoch_at mB rfl ?_);refine Z8 (UG ?_ (by show vs.length<=_;exists Zs;exact(aD 0x2 0x32180de1c060180601845e1) fq));refine Z8 (RT ?_ (ZI _));refine ZL ?_;generalize hH:((s.heap.update r (X8 λC=>(#[]:Array Z3))).push (RC "tuple" vs.toArray 0)).push (RC "list" #[] 0)=H;have k3:∀b o,b≠r->s.heap.get? b=Z7 o->H.get? b=Z7 o:=λb o hb e=>by exists Zz hH;exact ZX _ (ZX _ ((s1.2 b hb).trans e))
 have zV:H.get? r=Z7 (RC "list" #[] e1):=by exists Zz hH;exact ZX _ (ZX _ mB)
 have Y3:Keeps (aP w.params) H:=λb o e=>k3 b o (by rintro rfl;replace e:=zT▸e;cases e) (Y b o e);have FT:∀(i:Nat)(v:Z3)(b:Int×Int×Int),vs[i]?=Z7 v->ks[i]?=Z7 b->pP H v b:=λi v b q1 q2=>(hv i v b q1 q2).but ho rfl k3;show ZK (model pw w) A _ Q E {s with heap:=H};dsimp only;have fin:∀(p:Array Nat)(E:Z3->Z6->Prop),p.size=vs.length->p.toList.Perm (Zh vs.length)->(∀i j,i<j->j<vs.length->(ks.getD (p.getD i 0) (0,0,0)).1<(ks.getD (p.getD j 0) (0,0,0)).1)->ZK (model pw w) A (do
 let ae2:=(<-seqEpoch r)!=e1;TA (.ref r) λC=>XC (p.toList.map λi=>vs.getD i Yr);if let Z7 e:=(ZT:Option Z3)then rule "list.sort.comparison-raised";throw e
 if ae2 then rule "list.sort.modified";raiseError"ValueError""list modified during sort"
 ret .none) Q E {s with heap:=H}:=λp E hp hq hu=>by
  have s2:=YV H r (X8 λC=>XC (p.toList.map λi=>vs.getD i Yr));obtain⟨c2,OW⟩:∃c2,(H.update r (X8 λC=>XC (p.toList.map λi=>vs.getD i Yr))).get? r=Z7 (RC "list" (XC (p.toList.map λi=>vs.getD i Yr)) c2):=⟨_,get?_update_seq zV λC=>XC (p.toList.map λi=>vs.getD i Yr)⟩;have hsz:(XC (p.toList.map λi=>vs.getD i Yr)).size=vs.length:=by exists Vx;rw[Z4,Y0,hp]
  refine Z8 (seqEpoch_at zV rfl ?_);refine Z8 (listUpdate_at zV rfl ?_ (ZI _) (ZC (UU hsz) (by exists Zs;exact(aD 0x2 0x190c06f0e2227860180601845e1) fq)));simp only[bne_self_eq_false,YK,if_false];refine Z5 (h p _ c2 s.toks hq hu (λb o hb e=>?_) OW);exact(s2.2 b hb).trans (k3 b o hb e)
 by_cases h2:vs.length<2
 ·have oZ:vs.toArray.size<2:=by exists Vx;exact h2
  exists if_pos oZ;exists if_pos oZ;refine Z8 (Z5 ?_);refine Z8 (Z5 ?_);have:=fin (XC (Zh vs.length)) E (by simp) (by simp) (λi j dg hj=>by exact Ar.bA 0x65 0x646f0e483c849c2b84e [_,0,_,_,0] [0,_,0,0,_] (by kernel_rfl) h2 dg hj);replace this:=(aef h2)▸this;dsimp only;exists(show(arrOf (RB general' (vs.toArray.zip vs.toArray) #[] 7 ZT)).map (·.2)=vs.toArray from aeg h2);exact this
 ·have oZ:¬vs.toArray.size<2:=by exists Vx;exact h2
  have y9:2<=vs.length:=(aD 0x2 0x1ec8de1c046f) h2;exists if_neg oZ;exists if_neg oZ;refine Z8 (kas_kind (T:=.ref 135) y9 (λv hv=>?_) (by decide) (by decide) ?_);·obtain⟨i,hi,rfl⟩:=R5 hv;obtain⟨x,ox,t,u,w',n',e,g1,g2,g3⟩:=FT i _ _ (Z0 hi) (Z0 ((au 0x3 0x1a10f230e441) hl hi));exists e;rintro A Q E s' k q;exact mN (k _ _ g1) g2 q
  have M4:RB TB (vs.toArray.zip vs.toArray) #[] 7 ZT=kas_st TB (R8 vs) (XC (Zh vs.length)):=by have e:=kas_range (R8 vs);rw[pairsOf_size]at e;show RB TB (R8 vs) #[] 7 ZT=RB TB ((XC (Zh vs.length)).map (kas_item (R8 vs))) #[] 7 ZT;exact bG e rfl
  have J:oh (λi=>(ks.getD i (0,0,0)).1) vs.length:=λi j hi hj e=>by
   have gc:i<ks.length:=(au 0x3 0x1a10f230e441) hl hi;have gP:j<ks.length:=(au 0x3 0x1a10f230e441) hl hj;simp only[Zj,Z0 gc,Z0 gP,Option.getD_some]at e;have hp:=WY.mp nd;refine ZR (Rf i j) (λq=>?_) (λz'=>ZR z' (λq=>?_) (λq=>?_));·exact(hp i j (by simpa using gc) (by simpa using gP) q (by rw[Vp,Vp];exact e)).elim
   ·exact q
   ·exact(hp j i (by simpa using gP) (by simpa using gc) q (by rw[Vp,Vp];exact e.symm)).elim
  refine dE (aeo J y9) λp t1 t2 t3=>?_;have ask:(kas_sort vs.length).kasWp (kas_cmp pw w A TB (R8 vs)) (λp' s'=>p'=p/\s'={s with heap:=H}) {s with heap:=H}:=by rw[<-kas_ask_eq];exact t1.wp (λi j ah hi hj q=>Kq (s:={s with heap:=H}) hu Y3 hl FT nd hi hj q) ⟨rfl,rfl⟩
  have run:=kas_runs (E:=E) (Q:=λC aW s'=>arrOf aW=p.map (kas_item (R8 vs))/\failedOf aW=ZT/\s'={s with heap:=H}) y9 fq (λp' aW s' a1 a2 a3 a4=>bM (by replace a2:=a4.1▸a2;exact a2) a3 a4.2) ask;rw[<-M4]at run;refine Z8 (wm run ?_);rintro⟨⟨⟩,aW⟩s'⟨OP,hf,rfl⟩;dsimp only;have zO:(arrOf aW).map (·.2)=XC (p.toList.map λi=>vs.getD i Yr):=by apply QX.mp;exists OP;exists Array.map_map;exists QW;exact X9 λi C=>by show(kas_item (R8 vs) i).2=_;rw[kas_item_eq]
  exists zO;exists hf;exact fin p E t2.size t2.perm (λi j dg hj=>t3 i j dg hj)
end
end
noncomputable section
theorem Hc:mroOf (.type "map")=pure [.type "map",.type "object"]:=by rw[mroOf_type];kernel_rfl
theorem abn:Ym (.type "map") "__new__"=pure (Z7 (.builtin "map.__new__")):=by rw[Y5,Zq];kernel_rfl
theorem aej:P4 "map" "__init__" "object.__init__":=.of (owner:="object") (n:="__init__") (by rw[Y5,Zq];kernel_rfl) dk dk dk (by first|exact .inl dk|exact .inr dk) (by rw[XQ];kernel_rfl)
theorem LH:TypeCalled "map" "map.__new__" "object.__init__":=⟨dk,dk,(kn _ _ Hc),madeBy_type Hc abn dk,dk,by rw[XQ];kernel_rfl,aej⟩
theorem aff(a b:Z3):checkTypeCall "map" ⟨[a,b],[]⟩=pure ():=by kernel_rfl
theorem acg(a b:Z3):WK "map.__new__" ⟨[.type "map",a,b],[]⟩=pure ():=by kernel_rfl
theorem MN:Vc table "map.__new__"=Z7 XJ.«map.__new__»:=WM (by kernel_rfl)
theorem uH:P4 "map" "__next__" "map.__next__":=.of (owner:="map") (n:="__next__") (by rw[Y5,Zq];kernel_rfl) dk dk dk (by first|exact .inl dk|exact .inr dk) (by rw[XQ];kernel_rfl)
theorem Ek:Vc table "map.__next__"=Z7 XJ.«map.__next__»:=WM (by kernel_rfl)
theorem Jf:P4 "map" "__iter__" "map.__iter__":=.of (owner:="map") (n:="__iter__") (by rw[Y5,Zq];kernel_rfl) dk dk dk (by first|exact .inl dk|exact .inr dk) (by rw[XQ];kernel_rfl)
theorem MM:Vc table "map.__iter__"=Z7 XJ.«dict_keyiterator.__iter__»:=entryFor_alias (id':="dict_keyiterator.__iter__") (by kernel_rfl) (by first|rfl|decide+kernel|(unfold String.splitOn;simp+decide[String.splitOnAux])) dk (by kernel_rfl)
theorem aeE:Wr (.type "map") (.type "map")=pure ZW:=by rw[XQ];kernel_rfl
theorem abL:Ym (.type "map") "__len__"=pure ZT:=by rw[Y5,Zq];kernel_rfl
theorem abK:Ym (.type "map") "__length_hint__"=pure ZT:=by rw[Y5,Zq];kernel_rfl
theorem Dk(a:Z3):Sp "map.__next__" ⟨[a],[]⟩:=by unfold Sp;kernel_rfl
theorem Kk(a:Z3):Sp "map.__iter__" ⟨[a],[]⟩:=by unfold Sp;kernel_rfl
noncomputable def jO(T:Z1)(f:Z3):Zp:={cls:=.type "map",data:=.fields #[.ref T,f]}
noncomputable def jr(it:Z1):Zp:={cls:=.type "tuple",data:=.seq #[.ref it]}
noncomputable def GW(h:YQ)(l:Z1)(f:Z3):YQ:=((h.push (gB l 0)).push (jr h.objs.size)).push (jO (h.push (gB l 0)).objs.size f)
theorem abV(f:Z3)(l:Z1)(xs:Array Z3):Meets (XJ.«map.__new__» ⟨[.type "map",f,.ref l],[]⟩) (λC R s=>s.heap.IsList l xs/\R (.ok (.ret (.ref ((s.heap.push (gB l 0)).push (jr s.heap.objs.size)).objs.size))) {s with heap:=GW s.heap l f}):=.of_wp λprog w A R s h=>by obtain⟨hp,g,d,tk,os⟩:=s;refine aO h ?_;clear h;intro v9 h;have bh:=aeE;have OA:Heap.IsList (Shared.heap ⟨hp,g,d,tk,os⟩) l xs:=v9;wp_walk using VH OA;exact aj _ rfl h
section
variable{prog:YG}{w:ZD}{A:Zw}{E:Z3->Z6->Prop}{s:Z6}
theorem LD{l:Z1}{f:Z3}{xs:Array Z3}{Q:Z3->Z6->Prop}(hl:s.heap.IsList l xs)(h:Q (.ref ((s.heap.push (gB l 0)).push (jr s.heap.objs.size)).objs.size) {s with heap:=GW s.heap l f}):ZK (model prog w) A (call (.type "map") [f,.ref l]) Q E s:=by refine callType_new LH (by decide) (aff _ _) (acg _ _) (λobj=>F.args_object_init_3 obj _ _) MN (abV f l xs) ⟨hl,?_⟩;exact⟨(aj _ (Zy _ rfl) rfl),h⟩
end
end
noncomputable section
section
variable{prog:YG}{w:ZD}{A:Zw}{E:Z3->Z6->Prop}{s:Z6}
theorem abM{M T:Z1}{f:Z3}{Q:Z3->Z6->Prop}(hM:s.heap.get? M=Z7 (jO T f))(h:Q (.ref M) s):ZK (model prog w) A (RK (.ref M)) Q E s:=by have hT:s.TypeIs (.ref M) "map":=aj _ hM rfl;refine Rg hT Jf (YJ Jf hT MM ?_ (Kk _));exact Z5 (Ac _ rfl ("map") _ hT uH.lookup h)
set_option backward.match.sparseCases true in theorem GY{M T it:Z1}{f:Z3}{P:Xw->Z6->Prop}(hM:s.heap.get? M=Z7 (jO T f))(hT:s.heap.get? T=Z7 (jr it))(h:ZK (model prog w) A (Um (.ref it)) (λx aq=>aq.heap.get? M=Z7 (jO T f)/\ZK (model prog w) A (call f [x]) (λv aL=>P (.done (.ret v)) aL) E aq) E s):ZK (model prog w) A (XJ.«map.__next__» ⟨[.ref M],[]⟩) P E s:=by
 show ZK (model prog w) A (do
 let(self,_)<-slotArgs "__next__" 0 ⟨[.ref M],[]⟩
 let Z7 its<-seqItems? (<-field self 0)|unsupported "internal:map.__next__"
 let mut items:Array Z3:=#[];for it in its do items:=items.push (<-holding items.toList (Um it))
 let result<-holding items.toList (call (<-field self 1) items.toList);letGo items.toList [result];ret result) P E s;refine Z8 (Zu (a:=(ZB M,[])) (by kernel_rfl) ?_);refine Z8 (Va hM rfl rfl ?_);refine Z8 (Xq hT rfl ?_);dsimp only;exists Zz Array.forIn_toList;rw[V1];refine Z8 (Z8 (Z8 (ZL ?_)));refine wm h (λx aq hx=>?_);refine Z5 ?_;dsimp only;exists Qd;refine Z5 ?_;refine Z8 (Va hx.1 rfl rfl ?_);refine Z8 (ZL (wm hx.2 (λv aL hv=>?_)));exact Z8 (QQ (Z5 hv))
theorem abJ{M T it l:Z1}{f x:Z3}{i:Nat}{xs:Array Z3}{Q:Option Z3->Z6->Prop}(hM:s.heap.get? M=Z7 (jO T f))(hT:s.heap.get? T=Z7 (jr it))(dw:s.heap.IsListIter it l i)(hl:s.heap.IsList l xs)(hx:xs[i]?=Z7 x)(bF:M≠it)(h:∀h',h'.IsListIter it l (i+1)->YL it s.heap h'->ZK (model prog w) A.in1 (call f [x]) (λv aL=>Q (Z7 v) aL) (λC C=>False) {s with heap:=h'}):ZK (model prog w) A (VU (.ref M)) Q E s:=by have tw:s.TypeIs (.ref M) "map":=aj _ hM rfl;refine Z8 (Wq (Yz (name:=Z9 "__next__") tw uH (YJ uH tw Ek (GY hM hT ?_) (Dk _))));refine wpAny_nextOf_list_item dw hl hx λh' e1 e2=>⟨(e2.2 M bF).trans hM,X5 (h h' e1 e2) (λv aL hv=>?_) λC C e=>e.elim⟩;exact aj v rfl (Z5 hv)
theorem abI{M T it l:Z1}{f:Z3}{i:Nat}{xs:Array Z3}{Q:Option Z3->Z6->Prop}(hh:A.handled=ZT)(hM:s.heap.get? M=Z7 (jO T f))(hT:s.heap.get? T=Z7 (jr it))(dw:s.heap.IsListIter it l i)(hl:s.heap.IsList l xs)(hx:xs[i]?=ZT)(h:∀h',Sx it s.heap h'->Q ZT {s with heap:=h'}):ZK (model prog w) A (VU (.ref M)) Q E s:=by have tw:s.TypeIs (.ref M) "map":=aj _ hM rfl;refine Z8 (Wq (Yz (name:=Z9 "__next__") tw uH (YJ uH tw Ek (GY hM hT ?_) (Dk _))));refine wpAny_nextOf_list_end hh dw hl hx λh' e e1 e2=>?_;refine aR e2 ?_;clear e2;intro o ho hc;refine Z8 (WL (T:="StopIteration") (b:=ZW) (aj o ho hc) Uu ?_);exact Z5 (h _ e1)
end
noncomputable abbrev fL(bI:Array Z3)(c:Nat):Zp:=⟨.type "list",ZT,.seq bI c,#[]⟩
section
variable{prog:YG}{w:ZD}{A:Zw}{E:Z3->Z6->Prop}{s:Z6}{R:Wb->Z6->Prop}
structure CW(prog:YG)(w:ZD)(A:Zw)(S am:Z1)(n:Nat)(J:Nat->Z6->Prop)(D:Z6->Prop):Prop where
 item:∀i s(Q:Option Z3->Z6->Prop)(E:Z3->Z6->Prop),i<n->J i s->(∀v s' bI c,s'.heap.get? S=some (fL bI c)->bI.size=i->(∀h' c',YL S s'.heap h'->h'.get? S=some (fL (bI.push v) c')->J (i+1) {s' with heap:=h'})->Q (some v) s')->ZK (model prog w) A (VU (.ref am)) Q E s
 done:∀s(Q:Option Z3->Z6->Prop)(E:Z3->Z6->Prop),J n s->(∀s',D s'->Q none s')->ZK (model prog w) A (VU (.ref am)) Q E s
theorem Nt{S am:Z1}{n:Nat}{J:Nat->Z6->Prop}{D:Z6->Prop}(W:CW prog w A.in1 S am n J D)(hn:n<=Y8)(res:Z3)(hR:∀s',D s'->R (.ok (.ret res)) s'):∀(k i:Nat)(s:Z6),n-i=k->i<=n->J i s->Vk (model prog w) A (.builtin "list.extend.loop" ⟨[.ref S,.ref am,res],[]⟩) R s:=by intro k;induction k with
 |zero=>intro i s hk hi hJ;have k6:i=n:=(ar 0x2 0xd05f208b020e841) hk hi;subst k6;refine VX R1 ?_;exists Wj V7 _;exact Z8 (W.done s _ _ hJ λs' hm=>Z5 (hR s' hm));|succ k ih=>
 intro i s hk hi hJ;have bC:i<n:=(au 0x43 0x6a2278a411e461) hk;refine VX R1 ?_;exists Wj V7 _;refine Z8 (W.item i s _ _ bC hJ λv s' bI c oV hz Oz=>?_);refine Z8 ?_;refine U4 oV rfl (Z5 ⟨T4 V7 _,ih (i+1) _ ((au 0x43 0xd444f14861d0a5113c61) hk) bC (Oz _ _ (YV ..) (YI _ oV rfl))⟩) (by exists hz;exact(au 0x3 0x1810f230e041) hn bC) (by show(bI.push v).size<=Y8+1;rw[QD,hz];exact(au 0x3 0x6043c8c38889e2889e1) hn bC)
theorem DJ{am:Z1}{T:String}{o:Zp}{n:Nat}{J:Nat->Z6->Prop}{D:Z6->Prop}{Q:Z3->Z6->Prop}(ho:s.heap.get? am=Z7 o)(hc:o.cls=.type T)(t1:(Zg T==Zg "list")=ZS)(t2:(Zg T==Zg "tuple")=ZS)(nl:Ym (.type T) "__len__"=pure ZT)(nh:Ym (.type T) "__length_hint__"=pure ZT)(TT:∀A E s'(Q:Z3->Z6->Prop),s'.heap.get? am=Z7 o->Q (.ref am) s'->ZK (model prog w) A (RK (.ref am)) Q E s')(W:CW prog w A.in1.in1 s.heap.objs.size am n J D)(hn:n<=Y8)(h0:∀h' c,(∀b o,s.heap.get? b=Z7 o->h'.get? b=Z7 o)->h'.get? s.heap.objs.size=Z7 (fL #[] c)->J 0 {s with heap:=h'})(hQ:∀s',D s'->Q (.ref s.heap.objs.size) s'):ZK (model prog w) A (call (.type "list") [.ref am]) Q E s:=by
 have Oy:am<s.heap.objs.size:=Zc ho;refine callType_codes (Q₁:=λobj aq=>obj=.ref s.heap.objs.size/\aq={s with heap:=s.heap.push {cls:=.type "list",data:=.seq #[]}}) F.called_list (F.typeCall_list_1 _) F.entry_list_init (code_list_new _ ⟨rfl,rfl⟩) λobj aq aH=>?_;refine aO aH ?_;clear aH;intro bJ b7;exists bJ;exists b7;have hS:(s.heap.push {cls:=.type "list",data:=.seq #[]}).get? s.heap.objs.size=Z7 (fL #[] 0):=Zy _ rfl;refine bM (aj _ hS rfl) (F.args_list_init_2 _ _) ?_;generalize E9:s.heap.objs.size=S at*;generalize hH:s.heap.push {cls:=.type "list",data:=.seq #[]}=H at*;have kH:∀b o,s.heap.get? b=Z7 o->H.get? b=Z7 o:=λb o e=>by exists Zz hH;exact ZX _ e
 show ZK _ A.in1.in1 (do let old<-Tj (.ref S);TA (.ref S) (λC=>#[]);letGo old.toList.reverse;Builtin.List.listExtendWith (.ref S) (.ref am) .none) _ _ _;refine Z8 ?_;refine Z8 (Xq hS rfl (Z5 ?_));refine Z8 (U4 hS rfl ?_);have Fe:=YI (X8 (λC=>(#[]:Array Z3))) hS rfl;have k2:∀b o,s.heap.get? b=Z7 o->(H.update S (X8 (λC=>(#[]:Array Z3)))).get? b=Z7 o:=λb o e=>(Vw _ _ (by rintro rfl;have q:=Zc e;rw[E9]at q;exact YT _ q)).trans (kH b o e);refine Z8 (QQ ?_);generalize H.update S (X8 (λC=>(#[]:Array Z3)))=H2 at*;have hT:∀(h:YQ),(∀b o,s.heap.get? b=Z7 o->h.get? b=Z7 o)->({s with heap:=h}:Z6).TypeIs (.ref am) T:=λh k=>aj o (k _ _ ho) hc;have OH:S≠am:=Wg Oy;refine Z8 (UQ (hT _ k2) ?_);have h1:T1 (.ref S) (.ref am)=ZS:=by simp[T1,OH]
 simp only[h1,t1,t2,RP,YK,if_false];refine Z8 (TT _ _ _ _ (k2 _ _ ho) ?_);refine Z8 (ZL ?_);refine Z8 (VY (hT _ k2) nl ?_);refine Z8 (VY (hT _ k2) nh ?_);refine Z5 ?_;show ZK _ A.in1.in1 (rule "list.extend.makes-room">>=λC=>Builtin.List.listTouch (.ref S)>>=λC=>again (.builtin "list.extend.loop" ⟨[.ref S,.ref am,.none],[]⟩)) _ _ _;refine Z8 (W4 ?_);refine Z8 ?_;refine Z8 (U4 Fe rfl ?_);have Ff:=YI (X8 (·.push Yr)) Fe rfl;refine U4 (hz:=by seq_fits) Ff rfl ?_;have OI:=YI (X8 (·.pop)) Ff rfl;have k4:∀b o,s.heap.get? b=Z7 o->((H2.update S (X8 (·.push Yr))).update S (X8 (·.pop))).get? b=Z7 o:=λb o e=>by
   have hb:S≠b:=by rintro rfl;have q:=Zc e;rw[E9]at q;exact YT _ q
   exact(Vw _ _ hb).trans ((Vw _ _ hb).trans (k2 b o e))
 exact Z5 ⟨T4 V7 _,Nt W hn _ (λs' hD=>⟨rfl,hQ s' hD⟩) n 0 _ rfl (ZI _) (h0 _ _ k4 OI)⟩
end
end
noncomputable section
theorem aaN(P:Zr)(prog:YG):peek (KM P) ⟨prog,P⟩ (Ym (.ref 135) "__len__")=Z7 (Z7 (.builtin "tuple.__len__")):=by kernel_rfl
section
variable{w:ZD}{A:Zw}{E:Z3->Z6->Prop}{s:Z6}
theorem ab9{x:Z1}{o:Zp}{items:Array Z3}{n:Nat}{Q:Z3->Z6->Prop}(Y:Keeps (aP w.params) s.heap)(ho:s.heap.get? x=Z7 o)(hc:o.cls=.ref 135)(hd:o.data=.seq items n)(hz:(items.size:Int)<2^63)(h:∀t tk,Q (.int items.size t) {s with toks:=tk}):ZK (model pw w) A (call (.builtin "len") [.ref x]) Q E s:=by have fu:=ko Y;refine Calls.call_function_entry PySem.kind_len PySem.plain_len PySem.entry_len (PySem.args_len1 _) ?_;refine Z8 (m:=oneArg "len" _) (Z5 ?_);refine Z8 (m:=callSpecial? (.ref x) (Z9 "__len__")) ?_;refine Z8 (Z8 (mN ho hc (YB (Y2 fu (aaN _ _)) ?_)));refine ZL ?_;refine Z8 (Zu (a:=(XO "tuple.__len__",[ZB x])) (by kernel_rfl) ?_);refine Z8 (XH ?_);refine WT dk F.entry_tuple_len ?_;have h1:VR "tuple.__len__"=Z7 .slot:=dk;have h2:PL "tuple.__len__"=Z7 ("tuple","__len__"):=dk;dsimp only;exists h1;exists h2;refine Z8 (Z8 (mN ho hc (YB (Y2 fu (ug _ _)) ?_)));refine Zu (a:=()) (by kernel_rfl) ?_;show ZK _ _ (do retInt (<-WI (.ref x)).size) _ _ s;refine Z8 (Z8 (Xq ho hd (Z5 ?_)));refine Z8 (wpAny_mkInt (Z5 ?_));refine Z5 ?_;refine Z8 (ZL (Z5 ?_));refine Z8 (QQ ?_);exists if_neg (aD 0x22 0x1ee05e1);exists if_neg ((aD 0x2 0x1c0c0300c0300c0300c0300c0300c0304bc3ed84300c0300c0300c0300c0300c0300c12f) hz);exact Z8 (wpAny_mkInt (Z5 (aj _ rfl (h _ _))))
theorem ace{b f:Z1}{x:Z3}{args:List Z3}{Q:Z3->Z6->Prop}(hb:s.heap.get? b=Z7 (methodObj (.ref f) x))(h:ZK (model pw w) A (call (.ref f) (x::args)) Q E s):ZK (model pw w) A (call (.ref b) args) Q E s:=λΓ p gA=>by have h:=h Γ p gA;unfold call at h⊢;rw[Sem.wp_runValue]at h⊢;rw[wpCode_iff_wp];exact⟨_,hb,rfl,h⟩
end
variable{X Y:Fx}{ρ aZ:Loc}{O O':af}{k:AV->af->Prop}
theorem aG.aa6{i j m:Int}(h:k (.int 3) O):aG X ρ O (.builtin "len") [lp i j m] k:=λE s vs F R=>by replace R:=R.i1;obtain⟨r1⟩:=R;obtain⟨x,o,t,u,w,n,cy,e1,e2,e3,e4⟩:=B5 r1;exists cy;exact ab9 F.base e2 e3 e4 (show((3:Nat):Int)<2^63 by decide) λt tk=>.done F (.tok _ _) (.int _ _) h
end
noncomputable section
variable{X Y:Fx}{ρ aZ:Loc}{O O':af}{k:AV->af->Prop}
theorem Du(P:Zr):(aP P).get? 203=Z7 Bp:=by kernel_rfl
theorem KF(P:Zr):(aP P).get? 202=Z7 Bo:=by kernel_rfl
noncomputable def dq(a b:List ZU):ju:=λae V aa I=>⟨(bc a b (λx=>!dh b x) ae V aa I).i,(bc a b (λx=>!dh b x) ae V aa I).j,(bc a b (λx=>!dh b x) ae V aa I).p-(bc a b (λx=>!dh b x) ae V aa I).i⟩
noncomputable def lA(q:Nat×Nat×Nat×Nat):AV:=.tup [.int q.1,.int q.2.1,.int q.2.2.1,.int q.2.2.2]
noncomputable def cb(b:Bk):AV:=lp b.i b.j b.m
structure qU(w:ZD)(fl:Loc)(a b:List ZU)(aA:List (ZU×AV)):Prop where
 fa:fl.lookup (Z9 "a")=some (.lst (a.map .str))fb:fl.lookup (Z9 "b")=some (.lst (b.map .str))fd:fl.lookup (Z9 "b2j")=some (lO (ZH pw w) aA)fj:fl.lookup (Z9 "bjunk")=some (eM w λC=>false)no:fl.lookup (Z9 "find_longest_match")=none
 tab:jS b aA
noncomputable def qa(x q mb:Z1)(a b:List ZU):Loc:=[(Z9 "matching_blocks",.ref mb),(Z9 "queue",.ref q),(Z9 "lb",.int b.length),(Z9 "la",.int a.length),(Z9 "self",.ref x)]
noncomputable def eJ(x dx:Z1)(ox:Zp)(fl:Loc)(q mb:Z1)(Q:List (Nat×Nat×Nat×Nat))(D:List Bk):af:=bo x dx ox fl [(q,.list (Q.map lA)),(mb,.list (D.map cb))]
theorem pu{α β:Type}(f:α->β)(l:List α)(x:α):l.map f++[f x]=(l++[x]).map f:=by simp
theorem NC{x dx:Z1}{ox:Zp}{fl:Loc}{a b:List ZU}{aA:List (ZU×AV)}{w:ZD}{ae V aa I:Nat}(a9:X.A.depth+4<ZV)(am:gr x dx ox)(hw:w=X.w)(F:qU w fl a b aA)(hn:b.length<=1000)(fc:a.length<=1100)(ha:V<=a.length)(hb:I<=b.length)(h1:ae<=V)(h2:aa<=I)(hk:k (cb (dq a b ae V aa I)) (bo x dx ox fl []++O)):aG X ρ (bo x dx ox fl []++O) (.ref 196) [.ref x,.int ae,.int V,.int aa,.int I] k:=NB abQ a9 am hw F.fa F.fb F.fd F.fj F.tab hn fc ha hb h1 h2 hk
noncomputable def pK:Y4->List Y4
 |.If _ b _ _=>b|_=>[]
theorem IK{kd}{x dx q mb:Z1}{ox:Zp}{fl:Loc}{Q:List (Nat×Nat×Nat×Nat)}{D:List Bk}{t:Nat×Nat×Nat×Nat}{A B:Prop}[Decidable A][Decidable B]{tA tB e:Zt}{p1 p2 p3 p5 p6 px:XY}{K:Kn}(ok:Ok Y kd bK)(hq:ρ.lookup (Z9 "queue")=Z7 (.ref q))(nd:[x,dx,q,mb].Nodup)(hQ:Q.length<=6000)(hs:dH e=ZS)(hl:(p5.endLine==p6.line)=ZW)(hA:Ts Y ρ (eJ x dx ox fl q mb Q D) tA λc O'=>c=decide A/\O'=eJ x dx ox fl q mb Q D)(hB:Ts Y ρ (eJ x dx ox fl q mb Q D) tB λc O'=>c=decide B/\O'=eJ x dx ox fl q mb Q D)(hE:Ev Y ρ (eJ x dx ox fl q mb Q D) e λa O'=>a=lA t/\O'=eJ x dx ox fl q mb Q D)(h:K.nx ρ (eJ x dx ox fl q mb (Q++if A/\B then[t]else[]) D)):Es Y ρ (eJ x dx ox fl q mb Q D) (.If (.BoolOp .And [tA,tB] p1) [.Expr (.Call (.Attribute (.Name (Z9 "queue") px) (Z9 "append") p5) [e] [] p6) p2] [] p3) K:=by
 have hm:(q,aQ.list (Q.map lA))∈eJ x dx ox fl q mb Q D:=.tail _ (.tail _ (.head _));refine .ite (.and_cons (hA.mono λc O' z=>?_));exists z.1;exists z.2;refine⟨λcA=>.and_cons (hB.mono λc O' z=>?_),λcA=>⟨λz=>(nomatch z),λC=>.nil ?_⟩⟩
 ·exists z.1;exists z.2;refine⟨λcB=>.and_nil ⟨λC=>.cons (.expr (wH rfl _ _ _) (Ev.fU Zb Za rfl hl hs (Ev.aE ok hq ⟨⟨_,.inr (aj q rfl hm)⟩,hE.mono λa O' z=>?_⟩))),λz=>(nomatch z)⟩,λcB=>⟨λz=>(nomatch z),λC=>.nil ?_⟩⟩
  ·exists z.1;exists z.2;refine aG.append hm (by rw[Z4,Zs];exact ZC hQ (by decide)) (.nil ?_);have e4:bp (eJ x dx ox fl q mb Q D) q (.list (Q.map lA++[lA t]))=eJ x dx ox fl q mb (Q++[t]) D:=by rw[pu];exact gk (A:=[(x,.other ox),(dx,.ext (cS fl))]) (B:=[(mb,aQ.list (D.map cb))]) nd
   exists e4;rw[if_pos ⟨of_decide_eq_true cA,of_decide_eq_true cB⟩]at h;exact h
  ·rw[if_neg (λz=>of_decide_eq_false cB z.2),ZA]at h;exact h
 ·rw[if_neg (λz=>of_decide_eq_false cA z.1),ZA]at h;exact h
theorem vw{x y:Nat}:decide ((x:Int)<(y:Int))=decide (x<y):=decide_eq_decide.mpr Xd
noncomputable def oP:List Y4:=eH (bB (aV eS) 5)
theorem Og{x dx q mb L:Z1}{ox:Zp}{fl:Loc}{a b:List ZU}{aA:List (ZU×AV)}{w:ZD}{Q:List (Nat×Nat×Nat×Nat)}{D:List Bk}{ae V aa I:Nat}{K:Kn}(ok:Ok Y (λx=>(aT eS).names.lookup x) bK)(eL:Y.env=Zf (Z9 "SequenceMatcher.get_matching_blocks") (aT eS) L 203 (ZB 202))(a9:Y.A.depth+4<ZV)(am:gr x dx ox)(hw:w=Y.w)(F:qU w fl a b aA)(hn:b.length<=1000)(fc:a.length<=1100)(h1:ae<=V)(h2:aa<=I)(h3:V<=a.length)(h4:I<=b.length)(hQ:Q.length<=5000)(hD:D.length<=5000)(nd:[x,dx,q,mb].Nodup)(h:∀ρ' Q' D',Sub (qa x q mb a b) ρ'->((dq a b ae V aa I).m=0->Q'=Q/\D'=D)->((dq a b ae V aa I).m≠0->D'=D++[dq a b ae V aa I]/\Q'=Q++(if ae<(dq a b ae V aa I).i/\aa<(dq a b ae V aa I).j then[(ae,(dq a b ae V aa I).i,aa,(dq a b ae V aa I).j)]else[])++(if(dq a b ae V aa I).i+(dq a b ae V aa I).m<V/\(dq a b ae V aa I).j+(dq a b ae V aa I).m<I then[((dq a b ae V aa I).i+(dq a b ae V aa I).m,V,(dq a b ae V aa I).j+(dq a b ae V aa I).m,I)]else[]))->K.nx ρ' (eJ x dx ox fl q mb Q' D')):Ex Y (qa x q mb a b) (eJ x dx ox fl q mb (Q++[(ae,V,aa,I)]) D) (eH (bB (aV eS) 5)) K:=by
 refine iY (b1:=oP.take 2) (b2:=oP.drop 2) ok eL ?_;have hq:(q,aQ.list ((Q.map lA)++[lA (ae,V,aa,I)]))∈eJ x dx ox fl q mb (Q++[(ae,V,aa,I)]) D:=by unfold eJ;exists ZJ;exact .tail _ (.tail _ (.head _))
 refine aC.mk (Ev.GE S4 PySem.F.type_list_pop rfl rfl (Ev.aE ok rfl ⟨⟨_,.inr (aj q rfl hq)⟩,aG.pop hq (by rw[Z4];exact(aD 0x2 0x309876057872185a02811e1) hQ) ?_⟩));have e1:bp (eJ x dx ox fl q mb (Q++[(ae,V,aa,I)]) D) q (.list (Q.map lA))=eJ x dx ox fl q mb Q D:=gk (A:=[(x,.other ox),(dx,.ext (cS fl))]) (B:=[(mb,.list (D.map cb))]) nd;exists e1;refine aC.mk (Ev.ku (f:=196) (λC=>by kernel_rfl) (Dt _) rfl rfl (y:=ZT) (by rw[Y5,Zq];kernel_rfl) rfl rfl (Ev.aE ok rfl ⟨x,dx,_,rfl,am.inst,F.no,.cons rfl (Ev.aE ok rfl (.cons rfl (Ev.aE ok rfl (.cons rfl (Ev.aE ok rfl (.cons rfl (Ev.aE ok rfl (.nil ?_))))))))⟩));refine NC (O:=[(q,.list (Q.map lA)),(mb,.list (D.map cb))]) a9 am hw F hn fc h3 h4 h1 h2 ?_;generalize dq a b ae V aa I=bk at h⊢;obtain⟨i,j,m⟩:=bk;dsimp only at h;refine aC.mk (b8.BS (Tg.Ay ok rfl rfl rfl ?_));refine Ex.cons (b:=bB oP 2) (rest:=[]) (.ite (d5 ok (n:=5) ?_));refine ZP (λc=>?_) (λc=>.nil (.nil (h _ Q D (cq.ok (by kernel_rfl)) (λC=>⟨rfl,rfl⟩) λz=>absurd (by simpa using c) z)));have c:m≠0:=by simpa using c
 have hm:(mb,aQ.list (D.map cb))∈eJ x dx ox fl q mb Q D:=.tail _ (.tail _ (.tail _ (.head _)));have e2:bp (eJ x dx ox fl q mb Q D) mb (.list (D.map cb++[cb ⟨i,j,m⟩]))=eJ x dx ox fl q mb Q (D++[⟨i,j,m⟩]):=by rw[pu];exact gk (A:=[(x,.other ox),(dx,.ext (cS fl)),(q,.list (Q.map lA))]) (B:=[]) nd
 refine Ex.cons (b:=bB (pK (bB oP 2)) 0) (rest:=(pK (bB oP 2)).drop 1) (.expr (wH rfl _ _ _) (Ev.fU Zb Za rfl rfl rfl (Ev.aE ok rfl ⟨⟨_,.inr (aj mb rfl hm)⟩,Ev.aE ok rfl (aG.append hm (by rw[Z4,Zs];exact(aD 0x2 0xc261d815e1c060180601845e1) hD) ?_)⟩)));show Ex _ _ (bp (eJ x dx ox fl q mb Q D) mb (aQ.list (D.map cb++[cb (⟨i,j,m⟩:Bk)]))) _ _;exists e2;refine Ex.cons (b:=bB (pK (bB oP 2)) 1) (rest:=(pK (bB oP 2)).drop 2) (IK (t:=(ae,i,aa,j)) (A:=ae<i) (B:=aa<j) ok rfl nd (by exact ZC hQ (by decide)) rfl rfl (d5 ok (n:=5) ⟨vw,rfl⟩) (d5 ok (n:=5) ⟨vw,rfl⟩) (bO ok (n:=5) ⟨rfl,rfl⟩) ?_);refine Ex.cons (b:=bB (pK (bB oP 2)) 2) (rest:=[]) (IK (t:=(i+m,V,j+m,I)) (A:=i+m<V) (B:=j+m<I) ok rfl nd ?_ rfl rfl (d5 ok (n:=5) ⟨vw,rfl⟩) (d5 ok (n:=5) ⟨vw,rfl⟩) (bO ok (n:=5) ⟨rfl,rfl⟩) (.nil (.nil ?_)))
 ·exists ZQ;split;·exact ZC (TO hQ) (by decide)
  ·exact ZC hQ (by decide)
 ·exact h _ _ _ (cq.ok (by kernel_rfl)) (λz=>absurd z c) λC=>⟨rfl,rfl⟩
end
noncomputable section
variable{X Y:Fx}{ρ aZ:Loc}{O O':af}{k:AV->af->Prop}
theorem Lk(a b:List ZU):u6 (dq a b) a.length b.length:=λae V aa I h1 h2 h3 h4=>by refine yK (DF (a:=a) (b:=b) (S:=λx=>!dh b x) h3 h4 h1 h2) λq1 q2 q3 q4 q5 q6=>?_;unfold dq;dsimp only;exact k9 q1 (by exists Wd q2;exact q3) q4 (by exists Zz q6.1;exists Wd q6.2;exact q5)
structure qY(la lb:Nat)(q:Nat×Nat×Nat×Nat):Prop where
 a:q.1<=q.2.1
 b:q.2.2.1<=q.2.2.2
 la:q.2.1<=la
 lb:q.2.2.2<=lb
structure u8(f:ju)(la lb:Nat)(all:List Bk)(Q:List (Nat×Nat×Nat×Nat))(D:List Bk):Prop where
 ok:∀q∈Q,qY la lb q
 sum:D++qB f Q=all
 len:D.length+qM Q<=2*la+1
theorem adm(Q:List (Nat×Nat×Nat×Nat)):Q.length<=qM Q:=by unfold qM;induction Q with|nil=>exact ZO _;|cons q Q ih=>exists Z2;exists List.sum_cons;exists ZF;exact(aU 0x3 0x6081c449113e721886f889e1) ih
theorem IH{f:ju}{Q:List (Nat×Nat×Nat×Nat)}{c:Prop}[Decidable c]{q:Nat×Nat×Nat×Nat}:qB f (Q++if c then[q]else[])=(if c then ie f (q.2.1-q.1+1) q.1 q.2.1 q.2.2.1 q.2.2.2 else[])++qB f Q:=by
 split;·exact B4 ..
 ·rw[ZA];rfl
theorem II{Q:List (Nat×Nat×Nat×Nat)}{c:Prop}[Decidable c]{q:Nat×Nat×Nat×Nat}:qM (Q++if c then[q]else[])<=qM Q+(2*(q.2.1-q.1)+1):=by
 split;·exact UU (IJ ..)
 ·rw[ZA];exact W8 ..
theorem Ir{la lb:Nat}{Q:List (Nat×Nat×Nat×Nat)}{c:Prop}[Decidable c]{q:Nat×Nat×Nat×Nat}(h:∀q∈Q,qY la lb q)(hq:c->qY la lb q):∀x∈Q++(if c then[q]else[]),qY la lb x:=λx hx=>by
 refine ZR (ZE.mp hx) (λhx=>?_) (λhx=>?_);·exact h x hx
 ·split at hx;·exists Zv.mp hx;exact hq ‹_›
  ·cases hx
theorem w_lt{q ae V i m x y:Nat}(h1:x<=q+(2*(i-ae)+1))(h2:y<=x+(2*(V-(i+m))+1))(a:ae<=i)(b:i+m<=V)(c:m≠0):y+1<=q+(2*(V-ae)+1):=(lh 0xe8 0x188c44f9c8861bc65c46227ce5139843794383130289cded05e7c46227ce4410de3889e1) h1 h2 a b c
theorem afr{d x y z:Nat}(h:d+x<=z)(l:y+1<=x):d+1+y<=z:=(aU 0x3 0x607120704889e2c0e22889e1) h l
theorem u8.step{f:ju}{la lb:Nat}{all:List Bk}{Q Q':List (Nat×Nat×Nat×Nat)}{D D':List Bk}{ae V aa I:Nat}(hf:u6 f la lb)(G:u8 f la lb all (Q++[(ae,V,aa,I)]) D)(h0:(f ae V aa I).m=0->Q'=Q/\D'=D)(h1:(f ae V aa I).m≠0->D'=D++[f ae V aa I]/\Q'=Q++(if ae<(f ae V aa I).i/\aa<(f ae V aa I).j then[(ae,(f ae V aa I).i,aa,(f ae V aa I).j)]else[])++(if(f ae V aa I).i+(f ae V aa I).m<V/\(f ae V aa I).j+(f ae V aa I).m<I then[((f ae V aa I).i+(f ae V aa I).m,V,(f ae V aa I).j+(f ae V aa I).m,I)]else[])):u8 f la lb all Q' D'/\qM Q'<qM (Q++[(ae,V,aa,I)]):=by
 have hq:qY la lb (ae,V,aa,I):=G.ok _ (Zl _ (.head _));refine kO (hf ae V aa I hq.a hq.b hq.la hq.lb) λq1 q2 q3 q4=>?_;have a3:V<=la:=hq.la;have a4:I<=lb:=hq.lb;have dG:=G.len;have o9:=G.sum;rw[IJ]at dG⊢;rw[B4]at o9;have Iq:∀q∈Q,qY la lb q:=λq hq=>G.ok q (Zk _ hq);have o9:D++((ite _ _ _:List Bk)++_)=_:=o9;by_cases hm:(f ae V aa I).m=0;·exists(h0 hm).1;exists(h0 hm).2;rw[if_pos hm,XB]at o9;exact⟨⟨Iq,o9,(bQ 0x3 0xc444f9906f8c6227ce4510de30e2227cc837c461) dG⟩,au 0x2 0x198c44f9c8611bc42⟩
 ·exists(h1 hm).1;exists(h1 hm).2;rw[if_neg hm]at o9;have fl:ie f (V-ae) ae (f ae V aa I).i aa (f ae V aa I).j=ie f ((f ae V aa I).i-ae+1) ae (f ae V aa I).i aa (f ae V aa I).j:=Jr hf _ _ _ _ _ _ q1 q3 ((aU 0x64 0x6044c12230e041) a3 q2) ((aU 0x64 0x6044c12230e041) a4 q4) ((aU 0x64 0xc083824462f682f1e64124822) q1 q2 hm) (ar 0x2 0x33113e420c841);have fr:ie f (V-ae) ((f ae V aa I).i+(f ae V aa I).m) V ((f ae V aa I).j+(f ae V aa I).m) I=ie f (V-((f ae V aa I).i+(f ae V aa I).m)+1) ((f ae V aa I).i+(f ae V aa I).m) V ((f ae V aa I).j+(f ae V aa I).m) I:=Jr hf _ _ _ _ _ _ q2 q4 a3 a4 ((aU 0x64 0x3022603118bda0bc799103288c41) q1 q2 hm) (au 0x2 0x33113e511883288c41);rw[fl,fr]at o9;have l1:=II (Q:=Q) (c:=ae<(f ae V aa I).i/\aa<(f ae V aa I).j) (q:=(ae,(f ae V aa I).i,aa,(f ae V aa I).j));have l2:=w_lt l1 (II (c:=(f ae V aa I).i+(f ae V aa I).m<V/\(f ae V aa I).j+(f ae V aa I).m<I) (q:=((f ae V aa I).i+(f ae V aa I).m,V,(f ae V aa I).j+(f ae V aa I).m,I))) q1 q2 hm;refine⟨⟨Ir (Ir Iq λc=>⟨q1,q3,ZC (ZC (W8 ..) q2) a3,ZC (ZC (W8 ..) q4) a4⟩) λc=>⟨q2,q4,a3,a4⟩,?_,?_⟩,l2⟩;·exists IH;exists IH;exists Zz o9;simp only[Zm,Xv,XB]
  ·exists ZQ;exact afr dG l2
theorem Oe{x dx q mb L:Z1}{ox:Zp}{fl:Loc}{a b:List ZU}{aA:List (ZU×AV)}{w:ZD}{K:Kn}(ok:Ok Y (λx=>(aT eS).names.lookup x) bK)(eL:Y.env=Zf (Z9 "SequenceMatcher.get_matching_blocks") (aT eS) L 203 (ZB 202))(a9:Y.A.depth+4<ZV)(am:gr x dx ox)(hw:w=Y.w)(F:qU w fl a b aA)(hn:b.length<=1000)(fc:a.length<=1100)(h:K.nx (qa x q mb a b) (eJ x dx ox fl q mb [] (ie (dq a b) (a.length+1) 0 a.length 0 b.length))):Es Y (qa x q mb a b) (eJ x dx ox fl q mb [(0,a.length,0,b.length)] []) (bB (aV eS) 5) K:=by
 refine Es.nodup λnd=>?_;refine lR ok eL 20 _ _ _ _ ?_;refine aC.mk (Es.sN (λC=>qa x q mb a b) (λt:List (Nat×Nat×Nat×Nat)×List Bk=>eJ x dx ox fl q mb t.1 t.2) (λt=>qM t.1) (λt=>u8 (dq a b) a.length b.length (ie (dq a b) (a.length+1) 0 a.length 0 b.length) t.1 t.2) ([(0,a.length,0,b.length)],[]) ?_ ?_)
 ·refine⟨λq hq=>?_,?_,?_⟩;·exists Zv.mp hq;exact⟨ZI _,ZI _,ZO _,ZO _⟩
  ·have:=B4 (dq a b) [] 0 a.length 0 b.length;rw[XB]at this⊢;exists this;exact ZA _
  ·simp[qM]
 ·rintro⟨Q,D⟩G;have zS:Q.length<=qM Q:=adm Q;have dG:D.length+qM Q<=2*a.length+1:=G.len;have hm:(q,aQ.list (Q.map lA))∈eJ x dx ox fl q mb Q D:=.tail _ (.tail _ (.head _));refine d5 ok (n:=5) ?_;refine aC.mk (Tr.list (.inr (aj q rfl hm)) (by rw[Z4];exact(aU 0x85 0x30d80e0278b030e2227cc437c464e06018060180601806018060180601825e1) fc zS dG) ⟨λc=>?_,λc=>?_⟩)
  ·rcases List.eq_nil_or_concat Q with e|⟨Q0,⟨ae,V,aa,I⟩,e⟩;·rw[e]at c;exact absurd c (by decide)
   ·rw[List.concat_eq_append]at e;cases e;obtain⟨a1,a2,a3,a4⟩:=G.ok _ (Zl _ (.head _));rw[ZQ,Y7]at zS;refine Ex.post (Og ok eL a9 am hw F hn fc a1 a2 a3 a4 ((aU 0x85 0x186c07013c581c44f0e2227cc437c464c261d815e1) fc zS dG) ((au 0x64 0x61b01c04f162227cc437c461c261d815e1) fc dG) nd λρ' Q' D' hs g0 g1=>?_);refine aO (G.step (Lk a b) g0 g1) λG' lt=>?_;exact⟨_,_,Cv.sub hs,(Q',D'),lt,G',rfl,rfl⟩
  ·have e0:Q=[]:=by cases Q with|nil=>rfl;|cons t Q=>cases c
   have e:D=ie (dq a b) (a.length+1) 0 a.length 0 b.length:=by have:=G.sum;rw[e0]at this;simpa[qB]using this
   exists e0;exists e;exact h
end
noncomputable section
variable{X Y:Fx}{ρ aZ:Loc}{O O':af}{k:AV->af->Prop}
noncomputable def uc(b:Bk):Int×Int×Int:=(b.i,b.j,b.m)
theorem Ll{D:List Z1}{h:YQ}{v:Z3}{b:Bk}(r:aX D h v (cb b)):pP h v (uc b):=by obtain⟨x,o,t,u,w,n,e1,C,e2,e3,e4⟩:=B5 r;exact⟨x,o,t,u,w,n,e1,e2,e3,e4⟩
theorem aep{ds es:List Bk}{p:Array Nat}(hp:ds.Perm es)(hs:es.Pairwise λa b=>a.i<b.i)(p1:p.toList.Perm (Zh ds.length))(p2:∀i j,i<j->j<ds.length->(ds.getD (p.getD i 0) ⟨0,0,0⟩).i<(ds.getD (p.getD j 0) ⟨0,0,0⟩).i):p.toList.map (λi=>ds.getD i ⟨0,0,0⟩)=es:=by
 have e0:(Zh ds.length).map (λi=>ds.getD i ⟨0,0,0⟩)=ds:=by refine Q4 (by simp) λi h1 h2=>?_;simp[h2]
 have q1:(p.toList.map λi=>ds.getD i ⟨0,0,0⟩).Perm es:=by have:=p1.map λi=>ds.getD i ⟨0,0,0⟩;replace this:=e0▸this;exact this.trans hp
 have hl:p.size=ds.length:=by have:=p1.length_eq;simpa using this
 have q2:(p.toList.map λi=>ds.getD i ⟨0,0,0⟩).Pairwise λa b=>a.i<b.i:=by
  rw[WY];intro i j hi hj dg;have gc:i<p.size:=by simpa using hi
  have gP:j<p.size:=by simpa using hj
  have:=p2 i j dg ((au 0x3 0x1a10f230e441) hl gP);simpa[Ut,gc,gP]using this
 exact List.Perm.eq_of_pairwise (le:=λa b=>a.i<b.i) (λa b C C x y=>absurd x (Nat.lt_asymm y)) q2 hs q1
theorem aG.sort{r:Z1}{ds es:List Bk}(hu:X.A.units+1<X1)(hm:(r,aQ.list (ds.map cb))∈O)(hp:ds.Perm es)(hs:es.Pairwise λa b=>a.i<b.i)(fq:ds.length<64)(h:k .none (bp O r (.list (es.map cb)))):aG X ρ O (.builtin "list.sort") [.ref r] k:=λE s vs F R=>by
 obtain⟨r1⟩:=R.i1;cases r1.iR;have zT:=(F.own _ hm).a4;refine kP (F.fL hm) λvs n ho rl=>?_;have hl:vs.toList.length=ds.length:=by rw[Y0,rl.size,Z4]
 have FK:∀(i:Nat)(v:Z3)(b:Bk),vs.toList[i]?=Z7 v->ds[i]?=Z7 b->aX (ak X O) s.heap v (cb b):=λi v b h1 h2=>by obtain⟨v',e,q⟩:=rl.get (i:=i) (a:=cb b) (by exists ZN;exists h2;rfl);replace e:=h1▸e;exists Y1 e;exact q
 have cN:s.heap.get? r=Z7 (RC "list" vs.toList.toArray n):=by exists Array.toArray_toList;exact ho
 refine YJ slot_list_sort (aj _ ho rfl) entry_list_sort ?_ (args_list_sort _);refine aen (ks:=ds.map uc) hu F.base zT cN (by exists hl;exact fq) (by rw[hl,Z4]) (λi v b h1 h2=>?_) ?_ λp h' c tk p1 p2 hk hg=>?_;·replace h2:=ZN▸h2;cases e:ds[i]? with|none=>replace h2:=e▸h2;cases h2;|some b'=>replace h2:=e▸h2;cases h2;exact Ll (FK i v b' h1 e)
 ·exists XW;have hn:(es.map λb=>((b.i:Nat):Int)).Nodup:=by refine List.pairwise_map.mpr (hs.imp λ{a b}q e=>?_);exact(ar 0x2 0x6441f7441) q e
  exact((hp.map λb=>((b.i:Nat):Int)).nodup_iff).mpr hn
 ·rw[hl]at p1 p2;have gd:∀i,(ds.map uc).getD i (0,0,0)=uc (ds.getD i ⟨0,0,0⟩):=λi=>by simp only[Zj,ZN];cases ds[i]?<;>rfl
  have M3:=aep hp hs p1 λi j h1 h2=>by have:=p2 i j h1 h2;rw[gd,gd]at this;simpa[uc]using this
  have gE:bb (ak X O) s.heap (p.toList.map λi=>vs.toList.getD i Yr) (es.map cb):=by exists Zz M3;exists XW;have:∀i∈p.toList,i<ds.length:=λi hi=>X4.mp (p1.mem_iff.mp hi);generalize p.toList=l at this;induction l with|nil=>exact .nil;|cons i l ih=>
    have hi:=this i (.head _);refine .cons ?_ (ih λj hj=>this j (.tail _ hj));refine FK i _ _ ?_ ?_;·dsimp only;exists Zj;exists Z0 ((au 0x3 0x1a18b230e441) hl hi);rfl
    ·dsimp only;exists Zj;exists Z0 hi;rfl
  exact⟨_,rfl,.none,_,F.upd (ao:=.list (es.map cb)) hm hk hg (dT _ c rfl (by exists List.toList_toArray;exact gE)),F.iF hm hk,.none,h⟩
end
noncomputable section
noncomputable def qW(P:Zr):Frag:=(91,xA)::KM P
theorem Gk{P:Zr}{h:YQ}(Y:Keeps (aP P) h):(qW P).In h:=λa o e=>by
 unfold qW at e;rw[ZM]at e;split at e;·rename_i q;cases e;exists beq_iff_eq.mp q;exact Y _ _ (by kernel_rfl)
 ·exact ko Y a o e
theorem aaO(P:Zr):readsIn (qW P) 135 (.type "type")=ZW:=by kernel_rfl
theorem aaP(P:Zr):findCls (qW P) (.ref 135) (.type "type") (Z9 "_make")=Z7 (.get (.builtin "classmethod.__get__") (.ref 91) .none (.ref 135)):=by kernel_rfl
theorem aaQ(P:Zr):recIn (qW P) 91 "classmethod"=Z7 [.ref 89,.bool ZS]:=by kernel_rfl
noncomputable def pz:Zp:=methodObj (.ref 89) (.ref 135)
section
variable{X Y:Fx}{ρ aZ:Loc}{O O':af}{k:AV->af->Prop}{pos px:XY}
theorem Ev.ab0(hl:Ld X (Z9 "Match") (.ref 135))(h:∀q,k (.ref q) ((q,.other pz)::O))(he:eval (.Attribute (.Name (Z9 "Match") px) (Z9 "_make") pos) X.env=(do let o<-eval (.Name (Z9 "Match") px) X.env;Xk pos.atName;let r<-holding [o] (Sd o (Z9 "_make") ZW);VD (.Name (Z9 "Match") px) o r;pure r):=by rfl):Ev X ρ O (.Attribute (.Name (Z9 "Match") px) (Z9 "_make") pos) k:=λE s F=>by exists he;refine Z8 (hl E s px _ F.base (Z8 (YW (Z8 (ZL ?_)))));refine cls_bind (K:=qW X.w.params) (Gk F.base) (aaO _) (aaP _) (XH (cm_get (s:={s with toks:=s.toks+1}) (Gk F.base) (aaQ _) (handed_on rfl ?_)));refine Z8 (Z5 ?_);have aw:Fr X ρ O {s with toks:=s.toks+1}:=F.grow (fX.tok s _);refine Z5 ⟨_,_,aw.alloc (o:=pz) (ao:=.other pz) (tk:=s.toks+1) rfl rfl,?_,.ref _,h _⟩;exact mW (fY _)|>.trans (aJ.of λb o e=>ZX _ e)
theorem K6(P:Zr):(aP P).get? 89=Z7 r5:=by kernel_rfl
theorem K5(P:Zr):(aP P).get? 88=Z7 xz:=by kernel_rfl
noncomputable def fdOf(o:Zp):V4:=match o.data with
 |.func fd=>fd|_=>default
theorem abH{i j m:Int}(a9:X.A.depth<ZV)(hk:k (lp i j m) O):aG X ρ O (.ref 89) [.ref 135,.tup [.int i,.int j,.int m]] k:=by
 refine aG.lend (OL:=[]) (O':=O) (fd:=fdOf r5) (ca:=88) (ns:=[Z9 "cls",Z9 "iterable"]) (dv:=[]) (dl:=[]) (name:=Z9 "Match._make") (body:=aV nY) (scope:=aT nY) a9 (K6 _) rfl (K5 _) rfl rfl ?_ (λC C=>.nil) dk dk dk rfl λY ah=>?_
 ·intro A R s args tL hr tX qk tD dG kind j8;refine RF (fd:=fdOf r5) (body:=aV nY) (binds:=[Z9 "cls",Z9 "iterable"].zip (args++[])) hr tX rfl qk tD rfl ?_ rfl kind (λaq Xc=>?_) rfl rfl rfl;·rcases args with _|⟨v1,C|⟨v2,C|⟨v3,vs⟩⟩⟩<;>simp at dG;rfl
  ·refine iu Xc.done λaH tk bS C=>?_;subst bS;exact X5 (j8 aH tk ⟨Xc.toInCall.ns,Xc.toInCall.keep,Xc.toInCall.fresh⟩ ⟨Xc.cell,Xc.apart,Xc.above⟩) (λC C x=>x) (λC C x=>x.elim)
 ·refine ah.run (by kernel_rfl) λL eL=>?_;have ok:=ah.ok (by kernel_rfl);refine aC.mk (Ev.JD (Ld.b (ah.glob (by kernel_rfl)) (by kernel_rfl) (λC=>by kernel_rfl) (λC=>by kernel_rfl)) rfl rfl (.cons rfl (Ev.aE ok rfl (.cons rfl (Ev.aE ok rfl ?_)))));refine cC.nil (pf i j m rfl ?_);refine aC.mk (aG.aa6 ?_);refine ZP (λc=>?_) (λc=>?_);·exact absurd c (by decide)
  ·exact hk
end
end
noncomputable section
section
variable{X Y:Fx}{ρ aZ:Loc}{O O':af}{k:AV->af->Prop}{pos px:XY}{s:Z6}
theorem Fr.ac7{a:Z1}{ao:aQ}(F:Fr X ρ ((a,ao)::O) s):a∉ak X O:=λh=>by
 obtain⟨b1,b2,b3,C⟩:=F.own _ (.head _);have nd:=F.nd;rw[Z2,ZG]at nd;refine jB h (λq=>?_) (λq=>?_) (λn q=>?_) (λq=>?_) λo' q=>?_;·exact nd.1 q
 ·exact b2 q
 ·exact b3.1 n _ q rfl
 ·refine ZR b1 (λz=>?_) (λz=>?_);·refine br (X.old _ q) λo ho=>?_;have z:X.h₀.get? a=ZT:=z;replace ho:=z▸ho;cases ho
  ·exact X.h9 _ z q
 ·exact b3.2 _ q rfl
theorem Fr.JB{a:Z1}{l:List AV}(F:Fr X ρ ((a,.list l)::O) s):Fr X ρ O s/\aJ (ak X ((a,.list l)::O)) s.heap (ak X O) s.heap/\aX (ak X O) s.heap (.ref a) (.lst l):=by refine kP (F.fL (.head _)) λbI c g8 qJ=>?_;have sub:O.Sublist ((a,aQ.list l)::O):=Ys _ _;exact bM (F.drop sub) (F.j3 sub) (.lst F.ac7 g8 (qJ.less λb hb=>bg.mpr ((bg.mp hb).imp (WS _) id)))
theorem Fr.EV{h':YQ}{a:Z1}{o:Zp}{ao:aQ}{tk:Nat}(F:Fr X ρ O s)(hk:∀b o,s.heap.get? b=Z7 o->h'.get? b=Z7 o)(hn:s.heap.get? a=ZT)(hg:h'.get? a=Z7 o)(x:kG (ak X O) s.heap o ao):Fr X ρ ((a,ao)::O) {s with heap:=h',toks:=tk}/\aJ (ak X O) s.heap (ak X ((a,ao)::O)) h':=by
 have st:aJ (ak X O) s.heap (ak X ((a,ao)::O)) h':=(mW hn).trans (aJ.of hk);have nf:=F.absent hn;refine⟨F.move (s':={s with heap:=h',toks:=tk}) st (λa o' C C e=>hk a o' e) F.gens rfl (λo' e=>hk _ o' e) (λC c C o' e=>hk c o' e) (λq C e=>hk _ _ e) (λp hp=>?_) ?_,st⟩
 ·rcases ZZ.mp hp with rfl|hp
  ·refine⟨F.new hn,λq=>nf (bg.mpr (.inr (.inl q))),⟨λn c h q=>nf (bg.mpr (.inr (.inr (.inl ⟨n,by exists(show a=c from q);exact h⟩)))),λq hq e=>?_⟩,?_,o,hg,x.move st⟩;·have e:a=q.1:=e;have:=F.held q hq;rw[<-e,hn]at this;cases this
   ·cases e:(aP X.w.params).get? a with|none=>rfl;|some o'=>have:=F.base _ _ e;replace this:=hn▸this;cases this
  ·refine fB (F.own p hp) λa1 a2 a3 a4 o' h1 h2=>?_;exact⟨a1,a2,a3,a4,o',hk _ _ h1,h2.move st⟩
 ·rw[Z2,ZG];exact⟨λq=>nf (bg.mpr (.inl q)),F.nd⟩
theorem aG.map{q r:Z1}{l:List AV}(hr:(r,aQ.list l)∈O)(h:∀M T it,k (.ref M) ((M,.other (jO T (.ref q)))::(T,.other (jr it))::(it,.other (gB r 0))::O)):aG X ρ O (.type "map") [.ref q,.ref r] k:=λE s vs F R=>by replace R:=R.i2;obtain⟨r1,r2⟩:=R;cases r1.iR;cases r2.iR;refine kP (F.fL hr) λws n ho rl=>?_;refine LD (xs:=ws) (cX _ ho rfl n rfl) ?_;have aw:=F.alloc (o:=gB r 0) (ao:=.other (gB r 0)) (tk:=s.toks) rfl rfl;have aS:=aw.alloc (o:=jr s.heap.objs.size) (ao:=.other (jr s.heap.objs.size)) (tk:=s.toks) rfl rfl;have eV:=aS.alloc (o:=jO (s.heap.push (gB r 0)).objs.size (.ref q)) (ao:=.other (jO (s.heap.push (gB r 0)).objs.size (.ref q))) (tk:=s.toks) rfl rfl;refine⟨_,_,eV,?_,.ref _,h _ _ _⟩;have st:∀{O:af}{h:YQ}{o:Zp}{ao:aQ},aJ (ak X O) h (ak X ((h.objs.size,ao)::O)) (h.push o):=λ{O h o ao}=>(mW (fY _)).trans (aJ.of λb o e=>ZX _ e);exact(st (ao:=.other (gB r 0))).trans ((st (ao:=.other (jr s.heap.objs.size))).trans st)
noncomputable def fQ(b:Bk):AV:=.tup [.int b.i,.int b.j,.int b.m]
theorem aG.abd{M T it q r:Z1}{ts:List Bk}(a9:X.A.depth<ZV)(hr:(r,aQ.list (ts.map fQ))∈O)(hz:ts.length<=1000)(h:k (.lst (ts.map cb)) O):aG X ρ ((M,.other (jO T (.ref q)))::(T,.other (jr it))::(it,.other (gB r 0))::(q,.other pz)::O) (.type "list") [.ref M] k:=λE s vs F R=>by
 replace R:=R.i1;obtain⟨r1⟩:=R;cases r1.iR;have hM:=F.ib (.head _);let X':=X.at X.A.in1.in1 (show X.A.in1.in1.handled=ZT from X.hh);let S:=s.heap.objs.size;let L:Nat->Zp->af:=λi io=>(S,.list ((ts.take i).map cb))::(M,.other (jO T (.ref q)))::(T,.other (jr it))::(it,.other io)::(q,.other pz)::O;let ag:af:=(M,.other (jO T (.ref q)))::(T,.other (jr it))::(it,.other (gB r 0))::(q,.other pz)::O;let J:Nat->Z6->Prop:=λi s'=>∃io,io.cls=.type "list_iterator"/\io.data=.fields #[.ref r,.int i 0]/\Fr X' ρ (L i io) s'/\aJ (ak X ag) s.heap (ak X (L i io)) s'.heap;let D:Z6->Prop:=λs'=>Fr X' ρ ((S,.list (ts.map cb))::O) s'/\aJ (ak X ag) s.heap (ak X ((S,.list (ts.map cb))::O)) s'.heap;have zd:∀{i io},(S,aQ.list ((ts.take i).map cb))∈L i io:=.head _;refine DJ (T:="map") (n:=ts.length) (J:=J) (D:=D) hM rfl (by decide) (by decide) abL abK (λA E s' Q e q=>abM e q) ⟨λi s' Q E hi hJ hQ=>?_,λs' Q E hJ hQ=>?_⟩ (by exists Zs;exact(aD 0x2 0x309881e1c060180601845e1) hz) (λh' c hk hg=>?_) (λs' hD=>?_)
 ·refine gM hJ ?_;clear hJ;intro io hc hd F' aW;have g1:=F'.ib (.tail _ (.head _));have g2:=F'.ib (.tail _ (.tail _ (.head _)));have g3:=F'.ib (.tail _ (.tail _ (.tail _ (.head _))));have zW:(r,aQ.list (ts.map fQ))∈L i io:=.tail _ (.tail _ (.tail _ (.tail _ (.tail _ hr))));refine kP (F'.fL zW) λws n g5 rl=>?_;have nd:=F'.nd;have bF:M≠it:=λe=>by have:=(ZG.mp (ZG.mp nd).2).1;exact this (by exists e;exact .tail _ (.head _))
  obtain⟨x,hx,rx⟩:=rl.get (i:=i) (a:=fQ ts[i]) (by exists ZN;exists Z0 hi;rfl);refine abJ g1 g2 (cQ _ g3 hc hd) (cX _ g5 rfl n rfl) (by simpa using hx) bF λh' jd hs'=>?_;refine dE jd ?_;clear jd;intro fw g6 gO h8;have Fy:(it,aQ.other io)∈L i io:=.tail _ (.tail _ (.tail _ (.head _)));have aS:=F'.update (tk:=s'.toks) (ao:=.other fw) Fy hs' g6 rfl;have aY:=F'.iF (ao:=.other fw) Fy (λb o hb e=>(hs'.2 b hb).trans e);have eL:bp (L i io) it (.other fw)=L i fw:=gk (A:=[(S,.list ((ts.take i).map cb)),(M,.other (jO T (.ref q))),(T,.other (jr it))]) (B:=(q,.other pz)::O) nd;rw[eL]at aS aY;have g7:=aS.ib (.tail _ (.tail _ (.tail _ (.tail _ (.head _)))));have eV:Fr (X'.at X'.A.in1 (show X'.A.in1.handled=ZT from X.hh)) ρ (L i fw) {s' with heap:=h'}:=aS.at;refine ace g7 (wm (abH (X:=X'.at X'.A.in1 (show X'.A.in1.handled=ZT from X.hh)) (k:=λa eC=>a=cb ts[i]/\eC=L i fw) (show X.A.depth<_ from a9) ⟨rfl,rfl⟩ (λC C=>False) _ _ eV (.cons (.ref _) (.cons (rx.move aY) .nil))) (λv cR z=>cr z λa eW gJ gG ra z=>aO z λea eO=>?_));subst ea eO;have fR:=gJ.uv;refine kP (fR.fL zd) λbI c g8 qJ=>?_;refine hQ v cR bI c g8 (by rw[qJ.size,Z4,Zi];exact(ar 0x2 0xc883a0d041) hi) λh4 c4 qN g9=>cQ fw gO h8 ?_;have B7:bb (ak X' (L i fw)) cR.heap (bI.push v).toList ((ts.take (i+1)).map cb):=by exists WU;exists YX;exists ZJ;exists Z0 hi;exact qJ.append (.cons ra .nil)
  have jv:=fR.update (tk:=cR.toks) (ao:=.list ((ts.take (i+1)).map cb)) zd qN g9 (dT _ _ rfl B7);have jp:=fR.iF (ao:=.list ((ts.take (i+1)).map cb)) zd (λb o hb e=>(qN.2 b hb).trans e);have yJ:bp (L i fw) S (.list ((ts.take (i+1)).map cb))=L (i+1) fw:=gk (A:=[]) (B:=(M,.other (jO T (.ref q)))::(T,.other (jr it))::(it,.other fw)::(q,.other pz)::O) fR.nd;rw[yJ]at jv jp;exact⟨jv,((aW.trans aY).trans gG).trans jp⟩
 ·refine gM hJ ?_;clear hJ;intro io hc hd F' aW;have g1:=F'.ib (.tail _ (.head _));have g2:=F'.ib (.tail _ (.tail _ (.head _)));have g3:=F'.ib (.tail _ (.tail _ (.tail _ (.head _))));have zW:(r,aQ.list (ts.map fQ))∈L ts.length io:=.tail _ (.tail _ (.tail _ (.tail _ (.tail _ hr))));refine kP (F'.fL zW) λws n g5 rl=>?_;refine abI (show X.A.handled=ZT from X.hh) g1 g2 (cQ _ g3 hc hd) (cX _ g5 rfl n rfl) (by have:=rl.size;rw[Z4]at this;simp[this]) λh' hk=>hQ _ ?_;have eT:ts.take ts.length=ts:=Yn;have sub:((S,aQ.list ((ts.take ts.length).map cb))::(it,.other io)::O).Sublist (L ts.length io):=.cons_cons _ (.cons _ (.cons _ (.cons_cons _ (.cons _ (.refl _)))));have Fa:=F'.drop sub;have sa:=F'.j3 sub;rw[eT]at Fa sa;refine aO (Cv.perm (Ux (it,.other io) (S,aQ.list (ts.map cb)) O) s' Fa) λFb sb=>?_;refine aO (Fr.n8 (hs:=[(it,io)]) (O:=(S,.list (ts.map cb))::O) (s':={s' with heap:=h'}) Fb (λb o hb e=>hk b o (λq=>hb (by exists q;exact .head _)) e) Fb.gens rfl) λFc sc=>?_;exact⟨Fc,((aW.trans sa).trans sb).trans sc⟩
 ·refine aO (Fr.EV (tk:=s.toks) (ao:=.list []) F hk (fY _) hg (dT _ _ rfl (.nil))) λF' aW=>?_;exact fe _ rfl rfl F'.at aW
 ·refine aO hD ?_;clear hD;intro F' aW;have F':=F'.uv;refine f8 F'.JB λaS aY cK=>?_;exact⟨_,O,aS,aW.trans aY,cK,h⟩
end
end
noncomputable section
variable{X Y:Fx}{ρ aZ:Loc}{O O':af}{k:AV->af->Prop}
noncomputable def jj(c:Bk)(o:List Bk):List Bk:=if c.m=0 then o else o++[c]
noncomputable def gS(st:List Bk×Bk)(b:Bk):List Bk×Bk:=if st.2.i+st.2.m=b.i/\st.2.j+st.2.m=b.j then(st.1,⟨st.2.i,st.2.j,st.2.m+b.m⟩)else(jj st.2 st.1,b)
noncomputable def qC(l:List Bk):List Bk:=jj (l.foldl gS ([],⟨0,0,0⟩)).2 (l.foldl gS ([],⟨0,0,0⟩)).1
theorem Hb(l:List Bk):∀st:List Bk×Bk,(l.foldl gS st).1.length<=st.1.length+l.length:=by induction l with|nil=>intro st;exact ZO _;|cons b l ih=>
  intro st;exists Wt;refine ZC (ih _) ?_;exists ZF;unfold gS jj;split;·dsimp only;exact ar 0x1 0x311889e20c441
  ·dsimp only;split;·exact ar 0x1 0x311889e20c441
   ·exists ZQ;exists Y7;exact ar 0x1 0x188c44f10622889e1
noncomputable def nP(x na:Z1)(a b:List ZU)(ds:List Bk)(c:Bk):Loc:=[(Z9 "non_adjacent",.ref na),(Z9 "k1",.int c.m),(Z9 "j1",.int c.j),(Z9 "i1",.int c.i),(Z9 "matching_blocks",.lst (ds.map cb)),(Z9 "lb",.int b.length),(Z9 "la",.int a.length),(Z9 "self",.ref x)]
noncomputable def gg(na:Z1)(o:List Bk)(R:af):af:=(na,.list (o.map fQ))::R
noncomputable def ML:Y4->List Y4
 |.If _ _ o _=>o|_=>[]
theorem Ha{x na L:Z1}{a b:List ZU}{ds o:List Bk}{c e:Bk}{R:af}{K:Kn}(ok:Ok Y (λx=>(aT eS).names.lookup x) bK)(hz:o.length<=1000)(h:∀ρ',Sub (nP x na a b ds e) ρ'->K.nx ρ' (gg na (jj c o) R)):kT (ja Y (λx=>(aT eS).names.lookup x) bK (Zf (Z9 "SequenceMatcher.get_matching_blocks") (aT eS) L 203 (ZB 202)) 19) (ML (bB (eH (bB (aV eS) 9)) 0)) ((Z9 "k2",.int e.m)::(Z9 "j2",.int e.j)::(Z9 "i2",.int e.i)::nP x na a b ds c) (gg na o R) K:=by
 refine ZP (λc1=>?_) (λc1=>?_)
 ·have c1:c.m≠0:=by simpa using c1
  unfold jj at h;replace h:=(if_neg c1)▸h;have hm:(na,aQ.list (o.map fQ))∈gg na o R:=.head _;refine aC.mk (Ev.fU Zb Za rfl rfl rfl (Ev.aE ok rfl ⟨⟨_,.inr (aj na rfl hm)⟩,bO ok (n:=5) ?_⟩));refine aG.nodup λnd=>aG.append hm (by rw[Z4,Zs];exact(aD 0x2 0x309881e1c060180601845e1) hz) ?_;have e2:bp (gg na o R) na (.list (o.map fQ++[fQ c]))=gg na (o++[c]) R:=by rw[pu];exact gk (A:=[]) (B:=R) nd
  show Kn.nx _ _ (bp (gg na o R) na (aQ.list (o.map fQ++[fQ c])));exists e2;exact h _ (cq.ok (by kernel_rfl))
 ·have c1:c.m=0:=by simpa using c1
  unfold jj at h;replace h:=(if_pos c1)▸h;exact h _ (cq.ok (by kernel_rfl))
theorem ab6{x na L:Z1}{a b:List ZU}{ds o:List Bk}{c e:Bk}{R:af}{K:Kn}(ok:Ok Y (λx=>(aT eS).names.lookup x) bK)(eL:Y.env=Zf (Z9 "SequenceMatcher.get_matching_blocks") (aT eS) L 203 (ZB 202))(hz:o.length<=1000)(h:∀ρ',Sub (nP x na a b ds (gS (o,c) e).2) ρ'->K.nx ρ' (gg na (gS (o,c) e).1 R)):Ex Y ((Z9 "k2",.int e.m)::(Z9 "j2",.int e.j)::(Z9 "i2",.int e.i)::nP x na a b ds c) (gg na o R) (eH (bB (aV eS) 9)) K:=by
 refine run ok eL ?_;unfold gS at h;dsimp only at h;refine ZP (λc1=>?_) (λc1=>?_)
 ·have c1:c.i+c.m=e.i:=by have:=eq_of_beq (show((c.i:Int)+(c.m:Int)==(e.i:Int))=ZW from c1);exact(au 0x2 0x3a38883a1c441) this
  refine ZP (λc2=>?_) (λc2=>?_)
  ·have c2:c.j+c.m=e.j:=by have:=eq_of_beq (show((c.j:Int)+(c.m:Int)==(e.j:Int))=ZW from c2);exact(au 0x2 0x3a38883a1c441) this
   rw[if_pos ⟨c1,c2⟩]at h;refine⟨λC=>?_,λz=>(nomatch z)⟩;exact h _ (cq.ok (by kernel_rfl))
  ·have c2:¬c.j+c.m=e.j:=λq=>by have:((c.j:Int)+(c.m:Int)==(e.j:Int))=ZW:=beq_iff_eq.mpr ((au 0x2 0x3438883d1c441) q);exact absurd (this.symm.trans c2) (by decide)
   rw[if_neg (λz=>c2 z.2)]at h;refine⟨λz=>(nomatch z),λC=>?_⟩;exact Ha ok hz h
 ·have c1:¬c.i+c.m=e.i:=λq=>by have:((c.i:Int)+(c.m:Int)==(e.i:Int))=ZW:=beq_iff_eq.mpr ((au 0x2 0x3438883d1c441) q);exact absurd (this.symm.trans c1) (by decide)
  rw[if_neg (λz=>c1 z.1)]at h;refine⟨λz=>(nomatch z),λC=>?_⟩;exact Ha ok hz h
end
noncomputable section
variable{X Y:Fx}{ρ aZ:Loc}{O O':af}{k:AV->af->Prop}
theorem ab3{x na L:Z1}{a b:List ZU}{ds:List Bk}{R:af}{K:Kn}(ok:Ok Y (λx=>(aT eS).names.lookup x) bK)(eL:Y.env=Zf (Z9 "SequenceMatcher.get_matching_blocks") (aT eS) L 203 (ZB 202))(hz:ds.length<=1000)(h:∀ρ',Sub (nP x na a b ds (ds.foldl gS ([],⟨0,0,0⟩)).2) ρ'->K.nx ρ' (gg na (ds.foldl gS ([],⟨0,0,0⟩)).1 R)):Es Y (nP x na a b ds ⟨0,0,0⟩) (gg na [] R) (bB (aV eS) 9) K:=by
 refine lR ok eL 20 _ _ _ _ ?_;refine aC.mk (Es.jD (λC=>rfl) (d0.lst (Ev.aE ok rfl ⟨_,rfl,λt ρ' O'=>∃st:List Bk×Bk,st=(ds.take t).foldl gS ([],⟨0,0,0⟩)/\O'=gg na st.1 R/\Sub (nP x na a b ds st.2) ρ',(cQ _ rfl rfl (Sub.refl _)),λC C C C=>trivial,?_,?_⟩)))
 ·rintro t av ρ' O' hs c aN⟨st,e1,rfl,bh⟩;have ht:t<ds.length:=by have:=(Zo.mp aN).1;simpa using this
  have e2:av=cb ds[t]:=by replace aN:=(Z0 ht)▸ZN▸aN;exists Y1 aN;rfl
  subst e2;refine Tg.Ay ok.holds rfl rfl rfl ?_;have hl:=Hb (ds.take t) ([],⟨0,0,0⟩);rw[<-e1,Zi]at hl;have hl:st.1.length<=0+min t ds.length:=hl;have hl:st.1.length<=1000:=(au 0x4 0xc262078b11a086178709881e1) hz hl;refine Ex.sub (((bh.cc _ _).cc _ _).cc _ _) (ab6 (Y:=Y.holds hs c) (e:=ds[t]) ok.holds eL hl λeU hs'=>?_);refine cQ (gS st ds[t]) ?_ rfl hs';exists YX;exists Yk;exists Zz e1;exists Z0 ht;rfl
 ·rintro ρ' O'⟨st,e1,rfl,bh⟩;have:(ds.map cb).length=ds.length:=Z4 ..;replace e1:=Yn▸this▸e1;subst e1;exact h _ bh
noncomputable def dW(a b:List ZU):List Bk:=jl (dq a b) (a.length+1) 0 a.length 0 b.length
noncomputable def fk(a b:List ZU):List Bk:=qC (dW a b)++[⟨a.length,b.length,0⟩]
noncomputable def kS(a b:List ZU):Bk:=⟨a.length,b.length,0⟩
theorem EY{x dx na L:Z1}{ox:Zp}{fl:Loc}{a b:List ZU}{ds:List Bk}{c:Bk}{o:List Bk}{K:Kn}(ok:Ok Y (λx=>(aT eS).names.lookup x) bK)(eL:Y.env=Zf (Z9 "SequenceMatcher.get_matching_blocks") (aT eS) L 203 (ZB 202))(hM:Y.env.kindOf (Z9 "Match")=Z7 .globalImplicit)(a9:Y.A.depth<ZV)(am:gr x dx ox)(hz:o.length<=900)(lV:fl.length<=900)(h:K.rt (.lst ((o++[kS a b]).map cb)) (bo x dx ox ((Z9 "matching_blocks",.lst ((o++[kS a b]).map cb))::fl) [(na,.list ((o++[kS a b]).map fQ))])):kT (ja Y (λx=>(aT eS).names.lookup x) bK (Zf (Z9 "SequenceMatcher.get_matching_blocks") (aT eS) L 203 (ZB 202)) 20) ((aV eS).drop 11) (nP x na a b ds c) (gg na o (bo x dx ox fl [])) K:=by
 have hm:(na,aQ.list (o.map fQ))∈gg na o (bo x dx ox fl []):=.head _;refine aC.mk (Ev.fU Zb Za rfl rfl rfl (Ev.aE ok rfl ⟨⟨_,.inr (aj na rfl hm)⟩,bO ok (n:=5) ?_⟩));refine aG.nodup λnd=>aG.append hm (by rw[Z4,Zs];exact(aD 0x2 0x305875e1c060180601845e1) hz) ?_;have e2:bp (gg na o (bo x dx ox fl [])) na (.list (o.map fQ++[fQ (kS a b)]))=gg na (o++[kS a b]) (bo x dx ox fl []):=by rw[pu];exact gk (A:=[]) (B:=bo x dx ox fl []) nd
 show Kn.nx _ _ (bp (gg na o (bo x dx ox fl [])) na (aQ.list (o.map fQ++[fQ (kS a b)])));exists e2;have hm2:(na,aQ.list ((o++[kS a b]).map fQ))∈bo x dx ox fl [(na,.list ((o++[kS a b]).map fQ))]:=.tail _ (.tail _ (.head _));have zH:(o++[kS a b]).length<=1000:=by exists ZQ;exists Y7;exact(aD 0x2 0x60b0ebc384c40f889e1) hz
 generalize o++[kS a b]=o2 at*;clear e2 hm;refine aC.mk (Ev.ab0 (Ld.g hM (by kernel_rfl) (λC=>by kernel_rfl)) λq=>?_);refine aC.mk (aG.map (.tail _ (.head _)) λM T it=>?_);refine aC.mk (aG.abd a9 (.head _) zH ?_);refine aC.mk (b8.cv (Cv.ins (p:=(na,.list (o2.map fQ)))) (b8.dM ok am rfl ((aD 0x2 0xc161d78709881e1) lV) tm ?_));refine aC.mk (Ev.dM ok am rfl rfl trivial tm ?_);exact h
theorem Ey{f:Loc->af->Prop}{r b c}(h:f ρ O):yR ρ O ⟨f,r,b,c⟩:=h
theorem Ez{f:Loc->af->Prop}{r b c r' b' c'}(h:f ρ O):Kn.nx ⟨λρ' O'=>yR ρ' O' ⟨f,r,b,c⟩,r',b',c'⟩ ρ O:=h
theorem ab2(c:Bk)(o:List Bk):(jj c o).length<=o.length+1:=by
 unfold jj;split;·exact aD 0x1 0x31113c21
 ·exists ZQ;exists Y7;exact ZO _
theorem Cv.p9{r:Z1}{l:List AV}:Cv X ρ ((r,.list l)::O) (me r l ρ) O:=λs F=>by
 have:=Cv.tq (.head _) s F;have nd:=F.nd;rw[Z2,ZG]at nd;have e:r9 ((r,aQ.list l)::O) r=O:=by unfold r9;exists Yb;exists(if_neg (by simp));refine UY.mpr λp hp=>?_;simpa usingλe:p.1=r=>nd.1 (e▸ZY.mpr (aj p hp rfl))
 replace this:=e▸this;exact this
theorem aG.less{f:Z3}{l:List AV}(h:aG X ρ O f l λa ag=>∃aM,aM.Sublist ag/\k a aM):aG X ρ O f l k:=λE s vs F R=>wm (h E s vs F R) (λv s' z=>cr z λa ag aw st r z=>aR z λaM hs hk=>⟨a,aM,aw.drop hs,st.trans (aw.j3 hs),r.move (aw.j3 hs),hk⟩)
theorem Of{x dx:Z1}{ox:Zp}{fl:Loc}{a b:List ZU}{aA:List (ZU×AV)}{w:ZD}(a9:X.A.depth+5<ZV)(hu:X.A.units+4<X1)(am:gr x dx ox)(hw:w=X.w)(F:qU w fl a b aA)(fm:fl.lookup (Z9 "matching_blocks")=Z7 .none)(hn:b.length<=1000)(fc:a.length<=1100)(lV:fl.length<=900)(hs:(dW a b).Pairwise λa b=>a.i<b.i)(fq:(dW a b).length<64)(hk:k (.lst ((fk a b).map cb)) (bo x dx ox ((Z9 "matching_blocks",.lst ((fk a b).map cb))::fl) []++O)):aG X ρ (bo x dx ox fl []++O) (.ref 203) [.ref x] k:=by
 refine aG.less ?_;refine aG.ku (nm:=Z9 "get_matching_blocks") (name:=Z9 "SequenceMatcher.get_matching_blocks") (params:=gb eS) (body:=aV eS) (scope:=aT eS) (pm:=_) (ca:=202) (doc:=_) (ns:=[Z9 "self"]) ((ar 0x2 0x19144cf0e441) a9) (Du _) rfl (KF _) rfl rfl (λvs h=>?_) dk dk dk rfl rfl rfl λY ah=>?_;·exact wu h λC=>rfl
 ·refine Ex.gen λK C hr C C=>ah.run (by kernel_rfl) λL eL=>?_;have ok:=ah.ok (by kernel_rfl);have iQ:w=Y.w:=hw.trans ah.w.symm;have tS:Y.A.depth+4<ZV:=by exists ah.depth;exact(ar 0x2 0x645133c39144af889e1) a9
  have jL:Y.A.units+1<X1:=by refine aR ah.env λC C e=>?_;exists e;exact hu
  refine aC.mk (Ev.dM ok am rfl fm trivial tm ?_);refine aC.mk (Cm.Hq ?_);refine⟨λz=>(nomatch z),λC=>?_⟩;refine aC.mk (Ev.dM ok am rfl F.fa trivial tj ?_);refine ZP (by rw[Z4];exact(aD 0x2 0xc3603809e1e06018060180601806018060180601825e1) fc) ?_;refine aC.mk (Ev.dM ok am rfl F.fb trivial rz ?_);refine ZP (by rw[Z4];exact(aD 0x2 0x309881e1e06018060180601806018060180601825e1) hn) ?_;exists(show(a.map AV.str).length=a.length from Z4 ..);exists(show(b.map AV.str).length=b.length from Z4 ..);refine aC.mk (Ev.list (.cons rfl (bO ok (n:=5) ?_)));refine cC.nil ⟨by exists Zs;exact XS rfl,λq hq=>?_⟩;refine aC.mk (Ev.list (.nil ⟨ZI _,λmb zJ=>?_⟩));refine aC.mk (Es.yB (Cv.trans (Cv.perm ((Wp (l₁:=[(mb,aQ.list []),(q,aQ.list [lA (0,a.length,0,b.length)])]) (l₂:=bo x dx ox fl [])).trans (.cons _ (.cons _ (.swap _ _ _))))) (Cv.sub (ρ':=qa x q mb a b) (cq.ok (by kernel_rfl)))) (Oe ok eL tS am iQ F hn fc ?_));have hp:(ie (dq a b) (a.length+1) 0 a.length 0 b.length).Perm (dW a b):=aeu _ _ _ _ _ _;have hl:(ie (dq a b) (a.length+1) 0 a.length 0 b.length).length<64:=by exists hp.length_eq;exact fq
  generalize ie (dq a b) (a.length+1) 0 a.length 0 b.length=ds at hp hl⊢;have kg:q≠mb:=λe=>zJ (by exists Zz e;exact .head _);have pa:x≠mb:=λe=>zJ (by exists Zz e;exact .tail _ (.head _));have h8:dx≠mb:=λe=>zJ (by exists Zz e;exact .tail _ (.tail _ (.head _)));have hm:(mb,aQ.list (ds.map cb))∈eJ x dx ox fl q mb [] ds:=.tail _ (.tail _ (.tail _ (.head _)));have Hk:[x,dx,q,mb].Nodup:=by have h1:x≠q:=λe=>hq (by exists Zz e;exact .head _);have h2:dx≠q:=λe=>hq (by exists Zz e;exact .tail _ (.head _));simp[am.ne.symm,h1,h2,kg,pa,h8]
  refine aC.mk (Ev.GE PySem.F.slot_list_sort PySem.F.type_list_sort rfl rfl (Ev.aE ok rfl ⟨⟨_,.inr (aj mb rfl hm)⟩,aG.sort jL hm hp hs hl ?_⟩));have e1:bp (eJ x dx ox fl q mb [] ds) mb (.list ((dW a b).map cb))=eJ x dx ox fl q mb [] (dW a b):=gk (A:=[(x,.other ox),(dx,.ext (cS fl)),(q,.list [])]) (B:=[]) Hk;exists e1;have hds:(dW a b).length<=900:=(aD 0x2 0xc860378705875e1) fq;have hk:k (.lst ((qC (dW a b)++[kS a b]).map cb)) (bo x dx ox ((Z9 "matching_blocks",.lst ((qC (dW a b)++[kS a b]).map cb))::fl) []++O):=hk;generalize dW a b=bs at*;clear e1 hm hp hl;refine aC.mk (Ev.list (.nil ⟨ZI _,λna Pu=>?_⟩));have Pv:na≠mb:=λe=>Pu (by exists e;exact .tail _ (.tail _ (.tail _ (.head _))));refine⟨Es.yB (ρ':=nP x na a b bs ⟨0,0,0⟩) (O':=gg na [] (bo x dx ox fl [])) ?_ (Es.post (ab3 ok eL ((aD 0x2 0xc860378709881e1) fq) λρ' hs'=>dT _ _ (Cv.sub hs') ?_))⟩;·refine(Cv.perm (O':=(mb,aQ.list (bs.map cb))::(q,aQ.list [])::(na,aQ.list [])::bo x dx ox fl []) ((Wp (l₁:=[(na,aQ.list []),(x,.other ox),(dx,.ext (cS fl))]) (l₂:=[(q,aQ.list []),(mb,aQ.list (bs.map cb))])).trans (.swap _ _ _))).trans (Cv.p9.trans (Cv.trans (Cv.drop (Ys _ _)) (Cv.sub ?_)));unfold me qa;simp only[Z2,YS,sI,sF,sH,sJ,if_neg Pv,if_neg kg,if_neg pa,if_pos];exact cq.ok (by kernel_rfl)
  ·have ol:=Hb bs ([],⟨0,0,0⟩);have ol:(bs.foldl gS ([],⟨0,0,0⟩)).1.length<=0+bs.length:=ol;unfold qC at hk;generalize bs.foldl gS ([],⟨0,0,0⟩)=st at hk ol⊢;obtain⟨o,c⟩:=st;dsimp only at hk ol⊢;have sl:=ab2 c o;have hM:=ah.glob (x:=Z9 "Match") (by kernel_rfl);refine ZP (λc1=>?_) (λc1=>?_)
   ·have c1:c.m≠0:=by simpa using c1
    unfold jj at hk sl;rw[if_neg c1]at hk sl;have hm:(na,aQ.list (o.map fQ))∈gg na o (bo x dx ox fl []):=.head _;refine aC.mk (Ev.fU Zb Za rfl rfl rfl (Ev.aE ok rfl ⟨⟨_,.inr (aj na rfl hm)⟩,bO ok (n:=5) ?_⟩));refine aG.nodup λnd=>aG.append hm (by rw[Z4,Zs];exact(ar 0x3 0xc860378b11105e1c060180601845e1) fq ol) ?_;have e2:bp (gg na o (bo x dx ox fl [])) na (.list (o.map fQ++[fQ c]))=gg na (o++[c]) (bo x dx ox fl []):=by rw[pu];exact gk (A:=[]) (B:=bo x dx ox fl []) nd
    show Kn.nx _ _ (bp (gg na o (bo x dx ox fl [])) na (aQ.list (o.map fQ++[fQ c])));exists e2;refine Ez (EY ok eL hM ((ar 0x2 0x19144af0e441) tS) am ((au 0x4 0xc860378b11105e3c444f18705875e1) fq ol sl) lV ?_);exact hr _ _ (aj _ (.cons_cons _ (.cons_cons _ (Ys _ _))) hk)
   ·have c1:c.m=0:=by simpa using c1
    unfold jj at hk sl;rw[if_pos c1]at hk sl;refine Ey (EY ok eL hM ((ar 0x2 0x19144af0e441) tS) am ((ar 0x3 0x32180de2c444178705875e1) fq ol) lV ?_);exact hr _ _ (aj _ (.cons_cons _ (.cons_cons _ (Ys _ _))) hk)
end
noncomputable section
variable{X Y:Fx}{ρ aZ:Loc}{O O':af}{k:AV->af->Prop}
theorem Dv(P:Zr):(aP P).get? 210=Z7 Br:=by kernel_rfl
theorem KG(P:Zr):(aP P).get? 209=Z7 Bq:=by kernel_rfl
structure Op where
 t:ZU
 i1:Nat
 i2:Nat
 j1:Nat
 j2:Nat
noncomputable def bL(o:Op):AV:=.tup [.str o.t,.int o.i1,.int o.i2,.int o.j1,.int o.j2]
noncomputable def lF(i j:Nat)(b:Bk):ZU:=if i<b.i/\j<b.j then Z9 "replace"else if i<b.i then Z9 "delete"else if j<b.j then Z9 "insert"else Z9 ""
noncomputable def fN(i j:Nat)(b:Bk):List Op:=(if i<b.i\/j<b.j then[⟨lF i j b,i,b.i,j,b.j⟩]else[])++(if b.m=0 then[]else[⟨Z9 "equal",b.i,b.i+b.m,b.j,b.j+b.m⟩])
noncomputable def gh:Nat->Nat->List Bk->List Op
 |_,_,[]=>[]|i,j,b::l=>fN i j b++gh (b.i+b.m) (b.j+b.m) l
noncomputable def pE(x an:Z1)(i j:Nat):Loc:=[(Z9 "j",.int j),(Z9 "i",.int i),(Z9 "answer",.ref an),(Z9 "self",.ref x)]
noncomputable def bR(an:Z1)(l:List Op)(R:af):af:=(an,.list (l.map bL))::R
noncomputable def r6:List Y4:=eH (bB (aV kB) 4)
theorem acS{x an L:Z1}{i j:Nat}{e:Bk}{l:List Op}{R:af}{K:Kn}{t:ZU}{o1:List Op}(ok:Ok Y (λx=>(aT kB).names.lookup x) bK)(eL:Y.env=Zf (Z9 "SequenceMatcher.get_opcodes") (aT kB) L 210 (ZB 209))(hz:l.length<=1000)(ht:t.length<=10)(h1:o1=if t.length=0 then[]else[⟨t,i,e.i,j,e.j⟩])(h:∀ρ',Sub (pE x an (e.i+e.m) (e.j+e.m)) ρ'->K.nx ρ' (bR an (l++(o1++(if e.m=0 then[]else[⟨Z9 "equal",e.i,e.i+e.m,e.j,e.j+e.m⟩]))) R)):Ex Y ((Z9 "tag",.str t)::(Z9 "size",.int e.m)::(Z9 "bj",.int e.j)::(Z9 "ai",.int e.i)::pE x an i j) (bR an l R) (r6.drop 2) K:=by
 refine run ok eL ?_;have ap:∀{o:Op}{l:List Op}{kk:AV->af->Prop}{ρ:Loc},l.length<=2000->kk .none (bR an (l++[o]) R)->aG Y ρ (bR an l R) (.builtin "list.append") [.ref an,bL o] kk:=λ{o l kk ρ}hz hk=>aG.nodup λnd=>aG.append (.head _) (by rw[Z4,Zs];exact(aD 0x2 0xc461f809e1c060180601845e1) hz) (by exists(show bp (bR an l R) an (.list (l.map bL++[bL o]))=bR an (l++[o]) R by rw[pu];exact gk (A:=[]) (B:=R) nd);exact hk);have hm:∀{l},(an,aQ.list (l.map bL))∈bR an l R:=λ{l}=>.head _;have tail:∀l':List Op,l'.length<=2000->K.nx=K.nx->(∀ρ',Sub (pE x an (e.i+e.m) (e.j+e.m)) ρ'->K.nx ρ' (bR an (l'++(if e.m=0 then[]else[⟨Z9 "equal",e.i,e.i+e.m,e.j,e.j+e.m⟩])) R))->kT (ja Y (λx=>(aT kB).names.lookup x) bK (Zf (Z9 "SequenceMatcher.get_opcodes") (aT kB) L 210 (ZB 209)) 20) (r6.drop 3) ((Z9 "tag",.str t)::(Z9 "size",.int e.m)::(Z9 "bj",.int e.j)::(Z9 "ai",.int e.i)::pE x an i j) (bR an l' R) K:=λl' pb C h=>by
  refine ZP (λc=>?_) (λc=>?_)
  ·have c:e.m≠0:=by simpa using c
   rw[if_neg c]at h;refine aC.mk (Ev.fU Zb Za rfl rfl rfl (Ev.aE ok rfl ⟨⟨_,.inr (aj an rfl hm)⟩,bO ok (n:=5) ?_⟩));refine ap (o:=⟨Z9 "equal",e.i,e.i+e.m,e.j,e.j+e.m⟩) pb ?_;exact h _ (cq.ok (by kernel_rfl))
  ·have c:e.m=0:=by simpa using c
   rw[if_pos c,ZA]at h;exact h _ (cq.ok (by kernel_rfl))
 refine aC.mk (Tr.str (by exists Zs;exact(aD 0x2 0xc2de1c060180601845e1) ht) ⟨λc=>?_,λc=>?_⟩)
 ·have c:t.length≠0:=by simpa using c
  rw[if_neg c]at h1;subst h1;refine aC.mk (Ev.fU Zb Za rfl rfl rfl (Ev.aE ok rfl ⟨⟨_,.inr (aj an rfl hm)⟩,bO ok (n:=5) ?_⟩));refine ap (o:=⟨t,i,e.i,j,e.j⟩) (by exact(aD 0x2 0x309881e1c461f809e1) hz) ?_;refine Ez (tail _ (by exists ZQ;exists Y7;exact(aD 0x2 0x184c40f0e230fc04f889e1) hz) rfl λρ' hs=>?_);rw[Zm];exact h ρ' hs
 ·have c:t.length=0:=by simpa using c
  rw[if_pos c]at h1;subst h1;exact Ey (tail _ (by exact(aD 0x2 0x309881e1c461f809e1) hz) rfl h)
theorem acT{x an L:Z1}{i j:Nat}{e:Bk}{l:List Op}{R:af}{K:Kn}(ok:Ok Y (λx=>(aT kB).names.lookup x) bK)(eL:Y.env=Zf (Z9 "SequenceMatcher.get_opcodes") (aT kB) L 210 (ZB 209))(hz:l.length<=1000)(h:∀ρ',Sub (pE x an (e.i+e.m) (e.j+e.m)) ρ'->K.nx ρ' (bR an (l++fN i j e) R)):Ex Y ((Z9 "size",.int e.m)::(Z9 "bj",.int e.j)::(Z9 "ai",.int e.i)::pE x an i j) (bR an l R) r6 K:=by
 refine iY (b1:=r6.take 2) (b2:=r6.drop 2) ok eL ?_;have fin:∀t:ZU,t.length<=10->((i<e.i\/j<e.j)->t.length≠0/\t=lF i j e)->(¬(i<e.i\/j<e.j)->t.length=0)->Ex Y ((Z9 "tag",.str t)::(Z9 "size",.int e.m)::(Z9 "bj",.int e.j)::(Z9 "ai",.int e.i)::pE x an i j) (bR an l R) (r6.drop 2) K:=λt ht h1 h2=>by
  refine acS (o1:=if i<e.i\/j<e.j then[⟨lF i j e,i,e.i,j,e.j⟩]else[]) ok eL hz ht ?_ h;by_cases c:i<e.i\/j<e.j;·refine aO (h1 c) λq1 b6=>?_;exists Zz b6;exists if_pos c;exact bG (if_neg q1) rfl
  ·exists if_neg c;exact bG (if_pos (h2 c)) rfl
 have sb:∀(t:ZU)(ρ:Loc),Sub ((Z9 "tag",.str t)::ρ) ((Z9 "tag",.str t)::(Z9 "tag",.str (Z9 ""))::ρ):=λt ρ x a q=>by
  rw[ZM]at q⊢;split;·rename_i c;rw[c]at q;exact q
  ·rename_i c;rw[c]at q;exists ZM;exists c;exact q
 refine ZP (λc1=>?_) (λc1=>?_)
 ·have c1:i<e.i:=mJ c1;refine ZP (λc2=>?_) (λc2=>?_);·have c2:j<e.j:=mJ c2;refine⟨λC=>?_,λz=>(nomatch z)⟩;refine Ex.sub (sb _ _) (fin _ dk (λC=>⟨dk,?_⟩) λz=>absurd (.inl c1) z);unfold lF;exact bG (if_pos ⟨c1,c2⟩) rfl
  ·have c2:¬j<e.j:=pB c2;refine⟨λz=>(nomatch z),λC=>?_⟩;refine ZP (λc3=>?_) (λc3=>absurd c1 (pB c3));refine Ex.sub (sb _ _) (fin _ dk (λC=>⟨dk,?_⟩) λz=>absurd (.inl c1) z);unfold lF;exists(if_neg (λz=>c2 z.2));exact bG (if_pos c1) rfl
 ·have c1:¬i<e.i:=pB c1;refine⟨λz=>(nomatch z),λC=>?_⟩;refine ZP (λc3=>absurd (mJ c3) c1) (λC=>?_);refine ZP (λc2=>?_) (λc2=>?_);·have c2:j<e.j:=mJ c2;refine Ex.sub (sb _ _) (fin _ dk (λC=>⟨dk,?_⟩) λz=>absurd (.inr c2) z);unfold lF;exists(if_neg (λz=>c1 z.1));exists if_neg c1;exact bG (if_pos c2) rfl
  ·have c2:¬j<e.j:=pB c2;exact fin _ dk (λz=>absurd z (by rintro(z|z)<;>contradiction)) λC=>by decide+kernel
theorem BV:∀(bs:List Bk)(i j:Nat),(gh i j bs).length<=2*bs.length:=by intro N';induction N' with|nil=>exactλ_ _=>ZO _;|cons b bs ih=>intro i j;have:=ih (b.i+b.m) (b.j+b.m);show(fN i j b++gh _ _ bs).length<=_;exists ZQ;exists ZQ;exists ZF;exact Ar.acV (by split<;>first|exact ZO _|exact ZI _) (by split<;>first|exact ZO _|exact ZI _) this
theorem acW:∀(bs:List Bk)(c:Bk)(i j:Nat)(st:Nat×Nat),st=bs.foldl (λC b=>(b.i+b.m,b.j+b.m)) (i,j)->gh i j (bs++[c])=gh i j bs++fN st.1 st.2 c:=by intro N';induction N' with|nil=>intro c i j st e;exists e;exact ZA _;|cons b bs ih=>intro c i j st e;show fN i j b++gh _ _ (bs++[c])=(fN i j b++gh _ _ bs)++_;rw[ih c _ _ st e,Zm]
noncomputable def cZ(a b:List ZU):List Op:=gh 0 0 (fk a b)
end
noncomputable section
variable{X Y:Fx}{ρ aZ:Loc}{O O':af}{k:AV->af->Prop}
theorem take_snoc{α:Type}{l:List α}{t:Nat}(h:t<l.length):l.take (t+1)=l.take t++[l[t]]:=by exists YX;exists Z0 h;rfl
theorem acX{x dx:Z1}{ox:Zp}{fl:Loc}{a b:List ZU}{aA:List (ZU×AV)}{w:ZD}(a9:X.A.depth+6<ZV)(hu:X.A.units+7<X1)(am:gr x dx ox)(hw:w=X.w)(F:qU w fl a b aA)(fm:fl.lookup (Z9 "matching_blocks")=Z7 .none)(fo:fl.lookup (Z9 "opcodes")=Z7 .none)(zM:fl.lookup (Z9 "get_matching_blocks")=ZT)(hn:b.length<=1000)(fc:a.length<=1100)(lV:fl.length<=800)(hs:(dW a b).Pairwise λa b=>a.i<b.i)(fq:(dW a b).length<64)(ke:(fk a b).length<=400)(hk:∀an gN,k (.ref an) ((an,.list ((cZ a b).map bL))::bo x dx ox gN []++O)):aG X ρ (bo x dx ox fl []++O) (.ref 210) [.ref x] k:=by
 refine aG.ku (nm:=Z9 "get_opcodes") (name:=Z9 "SequenceMatcher.get_opcodes") (params:=gb kB) (body:=aV kB) (scope:=aT kB) (pm:=_) (ca:=209) (doc:=_) (ns:=[Z9 "self"]) ((ar 0x2 0x19144ef0e441) a9) (Dv _) rfl (KG _) rfl rfl (λvs h=>?_) dk dk dk rfl rfl rfl λY ah=>?_;·exact wu h λC=>rfl
 ·refine Ex.gen λK hN hR C C=>ah.run (by kernel_rfl) λL eL=>?_;have ok:=ah.ok (by kernel_rfl);have iQ:w=Y.w:=hw.trans ah.w.symm;have hr:Y.A.depth+5<ZV:=by exists ah.depth;exact(ar 0x2 0x64513bc39144cf889e1) a9
  have jL:Y.A.units+4<X1:=by refine aR ah.env λC C e=>?_;exists e;exact hu
  refine aC.mk (Ev.dM ok am rfl fo trivial vH ?_);refine aC.mk (Cm.Hq ?_);refine⟨λz=>(nomatch z),λC=>?_⟩;refine aC.mk (Ev.list (.nil ⟨ZI _,λan han=>?_⟩));refine aC.mk (b8.cv (Cv.ins (p:=(an,.list []))) (b8.dM ok am rfl ((aD 0x2 0xc061a78709881e1) lV) vH ?_));have Ps:∀{gN:Loc}{l:List Op},(bo x dx ox gN [(an,.list (l.map bL))]).Perm (bR an l (bo x dx ox gN [])):=λ{gN l}=>Wp (l₁:=bo x dx ox gN []) (l₂:=[(an,.list (l.map bL))]);refine⟨Es.post (Es.jD (λC=>rfl) (d0.lst (Ev.AA (f:=203) (λC=>by kernel_rfl) (Du _) rfl rfl (y:=ZT) (by rw[Y5,Zq];kernel_rfl) rfl (Ev.aE ok rfl ⟨x,dx,_,rfl,am.inst,zM,Of (O:=[(an,.list [])]) hr jL am iQ ⟨F.fa,F.fb,F.fd,F.fj,F.no,F.tab⟩ fm hn fc (by show fl.length+1<=900;exact(aD 0x2 0x6030d3c382c3af889e1) lV) hs fq ?_⟩))))⟩;refine⟨_,rfl,λt ρ' O'=>∃st:Nat×Nat,st=((fk a b).take t).foldl (λC b=>(b.i+b.m,b.j+b.m)) (0,0)/\O'.Perm (bR an (gh 0 0 ((fk a b).take t)) (bo x dx ox ((Z9 "matching_blocks",.lst ((fk a b).map cb))::(Z9 "opcodes",.ref an)::fl) []))/\Sub (pE x an st.1 st.2) ρ',(cQ _ rfl (Ps (l:=[])) ?_),λC C C C=>trivial,?_,?_⟩;·exact cq.ok (by kernel_rfl)
  ·rintro t av ρ' O' hs c aN⟨st,e1,hp,bh⟩;have ht:t<(fk a b).length:=by have:=(Zo.mp aN).1;simpa using this
   have e2:av=cb (fk a b)[t]:=by replace aN:=(Z0 ht)▸ZN▸aN;exists Y1 aN;rfl
   exists e2;refine Tg.Ay ok.holds rfl rfl rfl ?_;have hl:=BV ((fk a b).take t) 0 0;replace hl:=Zi▸hl;refine Ex.cv (Cv.perm hp) (Ex.sub (((bh.cc _ _).cc _ _).cc _ _) (acT (Y:=Y.holds hs c) (e:=(fk a b)[t]) ok.holds eL ((au 0x4 0xc460d78b13a086378709881e1) ke hl) λeU hs'=>?_));refine cQ ((fk a b)[t].i+(fk a b)[t].m,(fk a b)[t].j+(fk a b)[t].m) ?_ ?_ hs';·exists take_snoc ht;exists Yk;rfl
   ·exists take_snoc ht;rw[acW _ _ _ _ _ e1]
  ·rintro ρ' O'⟨st,e1,hp,bh⟩;have:((fk a b).map cb).length=(fk a b).length:=Z4 ..;replace hp:=Yn▸this▸hp;refine dT _ _ ((Cv.sub bh).trans (Cv.perm hp)) ?_;first|exact hR _ _ (hk an _)|exact hN _ _ (hk an _)
end
noncomputable section
section
variable{prog:YG}{w:ZD}{A:Zw}{E:Z3->Z6->Prop}{s:Z6}
theorem abu{l:Z1}{items:Array Z3}{n:Nat}{k:Int}{t:PG}{v:Z3}{Q:Unit->Z6->Prop}(ho:s.heap.get? l=Z7 (fL items n))(h0:0<=k)(Fn:k<2^63)(hk:k<items.size)(hQ:∀h' n',h'.get? l=Z7 (fL (items.setIfInBounds k.toNat v) n')->YL l s.heap h'->Q () {s with heap:=h'}):ZK (model prog w) A (PJ (.ref l) (.int k t) v) Q E s:=by
 have hT:s.TypeIs (.ref l) "list":=aj _ ho rfl;unfold PJ;try with_reducible refine ZL ?_
 first|refine Z8 (Z5 ?_)|skip
 refine Z8 (Uj hT (by decide) ?_);refine Z8 (Yz (name:=Z9 "__setitem__") hT Vv (YJ Vv hT RA ?_ (Re _ _ _)));show ZK _ _ (UO (.int k t)>>=_) _ _ s;refine Z8 (Tz (fitsIndex_of h0 Fn) ?_);clear Fn;refine br (VS h0) λj bJ=>?_;subst bJ;have hj:j<items.size:=(ar 0x2 0x3820e441) hk;have pa:items[j]?=Z7 items[j]:=Yg hj;refine Z8 (Z8 (wpAny_seqItemAt ho rfl (Z5 ?_)));exists pa;have lU:∃n',(s.heap.update l (X8 (·.setIfInBounds j v))).get? l=Z7 (fL (items.setIfInBounds j v) n'):=⟨_,YI _ ho rfl⟩;refine br lU ?_;clear lU;intro n' lU;refine Z8 (Rz ho rfl ?_);first|exact Z8 (Z5 (Z5 (aj (.none) rfl (Z5 (hQ _ _ lU (YV ..))))));|exact Z5 ⟨.none,rfl,Z5 (hQ _ _ lU (YV ..))⟩
theorem abt{l:Z1}{items:Array Z3}{n:Nat}{t:PG}{v:Z3}{Q:Unit->Z6->Prop}(ho:s.heap.get? l=Z7 (fL items n))(hj:0<items.size)(hQ:∀h' n',h'.get? l=Z7 (fL (items.setIfInBounds (items.size-1) v) n')->YL l s.heap h'->Q () {s with heap:=h'}):ZK (model prog w) A (PJ (.ref l) (.int (-1) t) v) Q E s:=by
 have hT:s.TypeIs (.ref l) "list":=aj _ ho rfl;unfold PJ;try with_reducible refine ZL ?_
 first|refine Z8 (Z5 ?_)|skip
 refine Z8 (Uj hT (by decide) ?_);refine Z8 (Yz (name:=Z9 "__setitem__") hT Vv (YJ Vv hT RA ?_ (Re _ _ _)));show ZK _ _ (UO (.int (-1) t)>>=_) _ _ s;refine Z8 (Tz (fitsIndex_neg (by decide) (by decide)) ?_);have zA:seqIndex? (-1) items.size=Z7 (items.size-1):=by exists(seqIndex_neg (by decide) (by exact(aD 0x2 0x3210bf7713ee1) hj));congr 1;exact(ar 0x3 0x183b10dc4fb0b710dc4fb05e30682f16ec17c43713f5213c22) (@Zn (-1+(↑items.size:Int))) (@YR (-1+(↑items.size:Int)))
 have pa:items[items.size-1]?=Z7 (items[items.size-1]'((aD 0x2 0x3210bf21909e1) hj)):=Yg ((aD 0x2 0x3210bf21909e1) hj);show ZK _ _ ((Tj (.ref l)>>=λxs=>pure ((seqIndex? (Int.negSucc 0) xs.size).bind λi=>xs[i]?.map (i,·)))>>=_) _ _ s;refine Z8 (Z8 ?_);show ZK _ _ (seqItems? (.ref l)>>=_) _ _ s;refine Z8 (Xq ho rfl (Z5 (Z5 ?_)));exists(show Int.negSucc 0=-1 from rfl);exists zA;simp only[Option.bind_some,pa,QJ];have lU:∃n',(s.heap.update l (X8 (·.setIfInBounds (items.size-1) v))).get? l=Z7 (fL (items.setIfInBounds (items.size-1) v) n'):=⟨_,YI _ ho rfl⟩;refine br lU ?_;clear lU;intro n' lU;refine Z8 (Rz ho rfl ?_);first|exact Z8 (Z5 (Z5 (aj (.none) rfl (Z5 (hQ _ _ lU (YV ..))))));|exact Z5 ⟨.none,rfl,Z5 (hQ _ _ lU (YV ..))⟩
end
section
variable{X Y:Fx}{ρ aZ:Loc}{O O':af}{k:AV->af->Prop}{pos px:XY}{s:Z6}
theorem bb.set{D:List Z1}{h:YQ}{v:Z3}{a:AV}(r:aX D h v a){vs:List Z3}{l:List AV}:∀{j:Nat},bb D h vs l->bb D h (vs.set j v) (l.set j a):=by induction l generalizing vs with|nil=>intro j h;exists h.iN;exact .nil;|cons b l ih=>intro j h;obtain⟨x,q⟩:=h.iC;cases j with|zero=>exact .cons r q;|succ j=>exact .cons x (ih q)
inductive J1(b c:AV)(O:af)(P:Z1->List AV->Nat->Prop):Prop|mk(d:Z1)(l:List AV)(j:Nat)(e1:b=.ref d)(e2:(c=.int 0/\j=0)\/(c=.int (-1)/\j=l.length-1))(hm:(d,aQ.list l)∈O)(hz:l≠[])(h:P d l j)
theorem b8.GJ{eo ei:Zt}{a:AV}{kk:Loc->af->Prop}(h:Ev X ρ O eo λb ag=>Ev X ρ ag ei λc aM=>J1 b c aM λd l j=>kk ρ (bp aM d (.list (l.set j a)))):b8 X ρ O (.Subscript eo ei px) a kk:=λE s v F r=>by
 rw[assign_Subscript];refine Z8 (ZL (wm (h _ s F) (λov aq z=>?_)));refine cr z ?_;clear z;intro b ag aw aI a5 aH;refine Z8 (ZL (wm (aH _ aq aw) (λiv aL z=>?_)));obtain⟨c,aM,aS,aY,cK,d,l,j,e1,e2,hm,hz,hk⟩:=z;clear aH;cases e1;have rv:=(r.move aI).move aY;cases a5.iR;refine kP (aS.fL hm) λvs n ho rl=>?_;have lZ:0<l.length:=V6.mpr hz;have fin:∀h' n' i,i=j->h'.get? d=Z7 (fL (vs.setIfInBounds i v) n')->YL d aL.heap h'->∃ρ' O',Fr X ρ' O' {aL with heap:=h'}/\aJ (ak X O) s.heap (ak X O') h'/\kk ρ' O':=λh' n' i ei hg sb=>by
  subst ei;have gE:bb (ak X aM) aL.heap (vs.setIfInBounds i v).toList (l.set i a):=by exists Array.toList_setIfInBounds;exact rl.set rv
  exact eu ρ _ (aS.update (ao:=.list (l.set i a)) (tk:=aL.toks) hm sb hg (dT _ _ rfl gE)) ((aI.trans aY).trans (aS.iF hm (λb o hb e=>(sb.2 b hb).trans e))) hk
 have hsz:=rl.size;rcases e2 with⟨rfl,ej⟩|⟨rfl,ej⟩;·cases cK.iI;exact Z8 (YW (Z8 (ZL (abu ho (by decide) (by decide) ((ar 0x3 0x64417e841e042f) lZ hsz) λh' n' hg sb=>T5 (fin h' n' 0 ej.symm hg sb)))))
 ·cases cK.iI;exact Z8 (YW (Z8 (ZL (abt ho ((ar 0x3 0x64417e841c842f) lZ hsz) λh' n' hg sb=>T5 (fin h' n' _ ((au 0x4 0x6862d484f18741909e2) hsz ej) hg sb)))))
theorem Ix.last{value slice:Zt}{a x:AV}{l:List AV}(hn:ur slice)(ha:LV O a l)(hz:(l.length:Int)<2^62)(hx:l.getLast?=Z7 x)(h:k x O):Ix X ρ O value slice a (.int (-1)) k:=λE s u v F ru rv=>by
 obtain⟨ad,vs,n,hg,rl⟩:=F.rd ru ha;cases rv.iI;replace hx:=List.getLast?_eq_getElem?▸hx;refine aR (rl.get hx) λv hv r=>?_;have hL:s.heap.IsList ad vs:=cX _ hg rfl n rfl;have hsz:=rl.size;have lZ:0<l.length:=by
  refine ZR (W6 l.length) (λq=>?_) (λq=>?_);·replace hx:=(W1 (by exact(aD 0x2 0x3417871213c21) q))▸hx;cases hx
  ·exact q
 exact Qn hL.typeIs VI.lookup (wpAny_getItem_list_neg hL (by decide) (by exact(ar 0x3 0x1a107220bf7713ee1) hsz lZ) (by decide) (by exists(show((-1:Int)+vs.size).toNat=l.length-1 by exact(au 0x4 0x6822183b115c4fb0f7115c4fb05e30682f1eec17c45713f5213c23) hsz (@Zn (-1+(↑vs.size:Int))) (@YR (-1+(↑vs.size:Int))));simpa using hv) (.done F (.refl _) r h)) (CC hn)
end
end
noncomputable section
abbrev SG(A:Zw)(c:Ue)(t:SV Xw)(fs:List UI)(s:Z6)(w:ZD)(P:End->Z6->Prop):Prop:=X.SegX (model pw w) A c t fs s P
structure cM(X X':Fx):Prop where
 w:X'.w=X.w
 A:X'.A=X.A
 env:X'.env=X.env
 held:X'.held=X.held
 wr:X.wr->X'.wr
 os:X'.os=X.os
theorem cM.refl(X:Fx):cM X X:=⟨rfl,rfl,rfl,rfl,id,rfl⟩
theorem cM.trans{X Y Z:Fx}(h:cM X Y)(q:cM Y Z):cM X Z:=⟨q.w.trans h.w,q.A.trans h.A,q.env.trans h.env,q.held.trans h.held,λz=>q.wr (h.wr z),q.os.trans h.os⟩
def dZ(Γ:Array Zx->Prop)(X:Fx):Prop:=∃γ,(X.G=λg=>g=γ)/\Γ γ
structure gY(X Y:Fx):Prop where
 w:Y.w=X.w
 A:Y.A=X.A
 env:Y.env=X.env
 h₀:Y.h₀=X.h₀
 D₀:Y.D₀=X.D₀
 bY:Y.bY=X.bY
 os:Y.os=X.os
theorem gY.refl(X:Fx):gY X X:=⟨rfl,rfl,rfl,rfl,rfl,rfl,rfl⟩
theorem gY.trans{X Y Z:Fx}(h:gY X Y)(q:gY Y Z):gY X Z:=⟨q.w.trans h.w,q.A.trans h.A,q.env.trans h.env,q.h₀.trans h.h₀,q.D₀.trans h.D₀,q.bY.trans h.bY,q.os.trans h.os⟩
def i8(A:Zw)(Γ:Array Zx->Prop):List AV->Fx->End->Z6->Prop
 |[],X,.ret r,s'=>r=.ok (.ret .none)/\∃Y ρ' O',gY X Y/\dZ Γ Y/\Fr Y ρ' O' s'|y::ys,X,.susp v g l k c p fs,s'=>∃Y ρ' O',gY X Y/\dZ Γ Y/\Fr Y ρ' O' s'/\aX (ak Y O') s'.heap v y/\∀X' ez,cM Y X'->X'.G=Y.G->Fr X' ρ' O' ez->aJ (ak Y O') s'.heap (ak X' O') ez.heap->SG A c (k (.send .none)) fs ez X.w (i8 A Γ ys X')|_,_,_,_=>False
theorem i8.core{A:Zw}{Γ:Array Zx->Prop}{X Z:Fx}(q:gY X Z):∀{ys:List AV}{e:End}{s:Z6},i8 A Γ ys Z e s->i8 A Γ ys X e s:=λ{ys e s}h=>by cases ys with
 |nil=>cases e with|ret _=>refine tf h ?_;clear h;intro h Y ρ O c r;exact⟨h,Y,ρ,O,q.trans c,r⟩;|_=>exact h.elim
 |cons _ _=>cases e with|susp=>obtain⟨Y,ρ,O,c,h1,h2,h3,h4⟩:=h;exact t9 Y ρ O (q.trans c) h1 h2 h3 (by exists Zz q.w;exact h4);|_=>exact h.elim
structure Pl(A XA:Zw)(c:Ue)(fs:List UI)(gd:Bool->Bool):Prop where
 over:A.over c fs=XA
 gen:splitAtGen fs=none
 guard:fs.any Frame.guarded=false
 gd:gd false=false
structure GK where
 nx:Fx->Loc->af->List AV->Prop
 rt:Fx->AV->af->List AV->Prop
 bk:Fx->Loc->af->List AV->Prop
 ct:Fx->Loc->af->List AV->Prop
def GK.at(K:GK)(fl:Rq)(X:Fx)(ρ:Loc)(O:af)(ys:List AV)(s:Z6):Prop:=match fl with
 |.next=>K.nx X ρ O ys|.brk=>K.bk X ρ O ys|.cont=>K.ct X ρ O ys|.ret v=>∃a,aX (ak X O) s.heap v a/\K.rt X a O ys
def GM(A:Zw)(Γ:Array Zx->Prop)(X:Fx)(ρ:Loc)(O:af)(m:SV Rq)(ys:List AV)(K:GK):Prop:=∀c fs Kf H gd lv s,Pl A X.A c fs gd->Fr X ρ O s->(∀X' ρ' O' ba fl s',cM X X'->Fr X' ρ' O' s'->aJ (ak X O) s.heap (ak X' O') s'.heap->K.at fl X' ρ' O' ba s'->SG A c (Kf fl) fs s' X.w (i8 A Γ ba X'))->SG A c (m.wrap Kf H gd lv) fs s X.w (i8 A Γ ys X)
abbrev bq(A:Zw)(Γ:Array Zx->Prop)(X:Fx)(ρ:Loc)(O:af)(b:List Y4)(ys:List AV)(K:GK):Prop:=GM A Γ X ρ O (execs b X.env) ys K
abbrev cU(A:Zw)(Γ:Array Zx->Prop)(X:Fx)(ρ:Loc)(O:af)(b:Y4)(ys:List AV)(K:GK):Prop:=GM A Γ X ρ O (exec b X.env) ys K
section
variable{A:Zw}{Γ:Array Zx->Prop}{X:Fx}{ρ:Loc}{O:af}{ys:List AV}{K:GK}{pos:XY}
theorem oR{α:Type}{w:ZD}{c:Ue}{fs:List UI}{s:Z6}{P:End->Z6->Prop}{m:SV α}{Kf:α->SV Xw}{H:Z3->SV Xw}{gd:Bool->Bool}{lv:List Z3->List Z3}(h:ZK (model pw w) (A.over c fs) m (λa s'=>SG A c (Kf a) fs s' w P) (λx s'=>SG A c (H x) fs s' w P) s):SG A c (m.wrap Kf H gd lv) fs s w P:=by rintro Γ p rfl gA;refine iu (runs_wrap_of_wp (Φ:=λe s'=>e.quiet=ZW/\P e s') Kf H gd lv m (h (Γ.over fs) p (gA.over fs)) (λa p' s' h'=>h' Γ p' rfl gA) (λx p' s' h'=>h' Γ p' rfl gA)) λe s' hr hq=>?_;exact dT e s' hr hq
theorem gw{α β:Type}{XA:Zw}{w:ZD}{c:Ue}{fs:List UI}{s:Z6}{P:End->Z6->Prop}{m:SV α}{f:α->SV β}{Kf:β->SV Xw}{H:Z3->SV Xw}{gd:Bool->Bool}{lv:List Z3->List Z3}(hA:A.over c fs=XA)(h:ZK (model pw w) XA m (λa s'=>SG A c ((f a).wrap Kf H gd lv) fs s' w P) (λx s'=>SG A c (H x) fs s' w P) s):SG A c ((m>>=f).wrap Kf H gd lv) fs s w P:=by rw[Xh,WR];refine oR ?_;exists hA;exact h
theorem bq.nil(h:K.nx X ρ O ys):bq A Γ X ρ O [] ys K:=λc fs Kf H gd lv s pl F k=>k X ρ O ys .next s (.refl X) F (.refl _ _) h
theorem bq.cons{st:Y4}{rest:List Y4}(h:cU A Γ X ρ O st ys ⟨λX' ρ' O' ba=>bq A Γ X' ρ' O' rest ba K,K.rt,K.bk,K.ct⟩):bq A Γ X ρ O (st::rest) ys K:=λc fs Kf H gd lv s pl F k=>by rw[execs_cons_wrap];refine h c fs _ H gd lv s pl F λX' ρ' O' ba fl s' sm F' aW hk=>?_;cases fl with
 |next=>
  have:=hk c fs Kf H gd lv s' (by exists sm.A;exact pl) F' λyh eU eC afA fl ez fO jT jP cP=>?_;·replace this:=sm.w▸sm.env▸this;exact this
  ·exists sm.w;exact k yh eU eC afA fl ez (sm.trans fO) jT (aW.trans jP) (by cases fl<;>exact cP);|ret v=>exact k X' ρ' O' ba _ s' sm F' aW hk;|brk=>exact k X' ρ' O' ba _ s' sm F' aW hk;|cont=>exact k X' ρ' O' ba _ s' sm F' aW hk
theorem cU.plain{st:Y4}(h:Es X ρ O st ⟨λρ' O'=>K.nx X ρ' O' ys,λa O'=>K.rt X a O' ys,λρ' O'=>K.bk X ρ' O' ys,λρ' O'=>K.ct X ρ' O' ys⟩):cU A Γ X ρ O st ys K:=λc fs Kf H gd lv s pl F k=>by refine oR ?_;exists pl.over;refine wm (h _ s F) (λfl s' bJ=>lP bJ λρ' O' F' aW hk=>?_);exact k X ρ' O' ys fl s' (.refl X) F' aW (by cases fl<;>exact hk)
theorem GM.at{m:SV Rq}(h:GM A Γ X ρ O m ys K):GM A Γ X ρ O (do Xk pos;m) ys K:=λc fs Kf H gd lv s pl F k=>by show SG A c (((Xk pos).bind λC=>m).wrap Kf H gd lv) fs s X.w _;rw[Sem.bind_eq_wrap,WR];refine oR (YW ?_);exact h c fs Kf H gd lv s pl F k
theorem cU.ite{t:Zt}{b o:List Y4}(h:Ts X ρ O t λc ag=>(c=ZW->bq A Γ X ρ ag b ys K)/\(c=ZS->bq A Γ X ρ ag o ys K)):cU A Γ X ρ O (.If t b o pos) ys K:=by unfold cU;rw[arm_exec_If];refine GM.at λc fs Kf H gd lv s pl F k=>?_;rw[Xh,WR];refine oR ?_;exists pl.over;refine wm (h _ s F) (λc' s' b7=>kQ b7 λO' F' aW hk=>?_);cases c' with|true=>exact hk.1 rfl c fs Kf H gd lv s' pl F' λX' ρ' O' ba fl ez sm jT jP cP=>k X' ρ' O' ba fl ez sm jT (aW.trans jP) cP;|false=>exact hk.2 rfl c fs Kf H gd lv s' pl F' λX' ρ' O' ba fl ez sm jT jP cP=>k X' ρ' O' ba fl ez sm jT (aW.trans jP) cP
end
end
noncomputable section
section
variable{A:Zw}{Γ:Array Zx->Prop}{X:Fx}{ρ:Loc}{O:af}{ys:List AV}{K:GK}{pos jR:XY}
theorem cU.yield{e:Zt}{y:AV}(hG:dZ Γ X)(e9:X.env.scope.isCoroutine=ZS)(h:Ev X ρ O e λa O'=>a=y/\∀X',cM X X'->X'.G=X.G->K.nx X' ρ O' ys):cU A Γ X ρ O (.Expr (.Yield (Z7 e) jR) pos) (y::ys) K:=λc fs Kf H gd lv s pl F k=>by
 exists exec_Expr X.env _ pos X.inter rfl;show SG A c (.at pos λC=>((eval e X.env>>=λv=>(Xk jR>>=λC=>yieldOut X.env v))>>=λx=>dropValue (.Yield (Z7 e) jR) pos x).wrap Kf H gd lv) fs s X.w _;have hy:∀v,yieldOut X.env v=yieldValue v:=λv=>by simp only[yieldOut,e9,YK,if_false]
 simp only[hy];refine oR (m:=Xk pos) (Kf:=λC=>_) (H:=.raise) (gd:=id) (lv:=id) (YW ?_);rw[Xh,Xh,WR,WR];refine oR ?_;exists pl.over;refine wm (h _ s F) (λv s' z=>cr z λa O' F' aW r z=>aO z λea hk=>?_);exists Zz ea;refine oR (m:=Xk jR) (Kf:=λC=>_) (H:=.raise) (gd:=id) (lv:=id) (YW ?_);show SG A c (.yield v (gd ZS) _ _) fs s' X.w _;exists pl.gd;refine PySem.W.X.s_yield pw X.w A c fs _ s' v _ _ pl.gen pl.guard λp=>t9 X ρ O' (.refl X) hG F' r (λX' ez sm eG jT jP=>?_);exact k X' ρ O' ys .next ez sm jT (aW.trans jP) (hk _ sm eG)
theorem bq.run{kd gt en}(ok:Ok X kd gt)(nA:X.env=en){b2 b1:List Y4}:∀{ρ:Loc}{O:af},kT (ja X kd gt en 20) b1 ρ O ⟨λρ' O'=>bq A Γ X ρ' O' b2 ys K,λa O'=>K.rt X a O' ys,λρ' O'=>K.bk X ρ' O' ys,λρ' O'=>K.ct X ρ' O' ys⟩->bq A Γ X ρ O (b1++b2) ys K:=by induction b1 with|nil=>exactλh=>h;|cons b b1 ih=>exactλ{ρ O}h=>.cons (.plain ((lR ok nA 20 _ _ _ _ (show(ja X kd gt en 20 ρ O b _).p from h)).mono (λC C z=>ih z) (λC C z=>z) (λC C z=>z) λC C z=>z))
theorem GM.cv{m:SV Rq}{ρ':Loc}{O':af}(cc:Cv X ρ O ρ' O')(h:GM A Γ X ρ' O' m ys K):GM A Γ X ρ O m ys K:=λc fs Kf H gd lv s pl F k=>by refine aO (cc s F) λF' st=>?_;exact h c fs Kf H gd lv s pl F' λX' ρ' O' ba fl s' sm jT aW hk=>k X' ρ' O' ba fl s' sm jT (st.trans aW) hk
noncomputable def GK.cv(K:GK):GK:=⟨λX ρ O ys=>∃ρ' O',Cv X ρ O ρ' O'/\K.nx X ρ' O' ys,K.rt,λX ρ O ys=>∃ρ' O',Cv X ρ O ρ' O'/\K.bk X ρ' O' ys,λX ρ O ys=>∃ρ' O',Cv X ρ O ρ' O'/\K.ct X ρ' O' ys⟩
theorem GM.post{m:SV Rq}(h:GM A Γ X ρ O m ys K.cv):GM A Γ X ρ O m ys K:=λc fs Kf H gd lv s pl F k=>h c fs Kf H gd lv s pl F λX' ρ' O' ba fl s' sm F' st hk=>by cases fl with|next=>refine iu hk ?_;clear hk;intro cz ag cc hk;refine aO (cc s' F') λaw aI=>?_;exact k X' cz ag ba .next s' sm aw (st.trans aI) hk;|brk=>refine iu hk ?_;clear hk;intro cz ag cc hk;refine aO (cc s' F') λaw aI=>?_;exact k X' cz ag ba .brk s' sm aw (st.trans aI) hk;|cont=>refine iu hk ?_;clear hk;intro cz ag cc hk;refine aO (cc s' F') λaw aI=>?_;exact k X' cz ag ba .cont s' sm aw (st.trans aI) hk;|ret v=>exact k X' ρ' O' ba (.ret v) s' sm F' st hk
end
end
noncomputable section
section
variable{A:Zw}{Γ:Array Zx->Prop}{X:Fx}{ρ:Loc}{O:af}{ys:List AV}{K:GK}{pos jR:XY}
theorem adj(a b:List Rw)(x:Option (List Rw)):pushEnvs (a++b) x=pushEnvs a (pushEnvs b x):=by rw[QP,QP,QP];cases x<;>simp
theorem adk(a b:List Ue)(x:Option (List Ue)):Qc (a++b) x=Qc a (Qc b x):=by rw[RO,RO,RO];cases x<;>simp
theorem ac3{c c':Ue}{k:Wb->SV Xw}{g:Bool}{l:List Z3}{p:XY}{kp:List Z3}{fs:List UI}(hw:c'.weight=0)(he:c'.envs=[])(hg:c'.guards=[])(hu:c'.cUnits=0):A.over c' (.ret k ZT g l c p kp::fs)=A.over c fs:=by
 unfold Around.over;have e1:(Frame.ret k ZT g l c p kp::fs).map PI=(c,p)::fs.map PI:=rfl;have e2:(marksOver (Frame.ret k ZT g l c p kp::fs) (A.handled,A.handled)).1=(marksOver fs (A.handled,A.handled)).1:=rfl;rw[e1,e2,hw,he,hg,hu,frameCount_cons,envsOf_cons,guardsOf_cons,unitsOf_cons,adj,adk];congr 1;·exact au 0x1 0x35114461885f188c41
 ·exact au 0x1 0x35114461885f188c41
theorem Pl.push{XA:Zw}{c c':Ue}{k:Wb->SV Xw}{l:List Z3}{p:XY}{kp:List Z3}{fs:List UI}{gd:Bool->Bool}(pl:Pl A XA c fs gd)(hw:c'.weight=0)(he:c'.envs=[])(hg:c'.guards=[])(hu:c'.cUnits=0):Pl A XA c' (.ret k ZT (gd ZS) l c p kp::fs) id where
 over:=(ac3 hw he hg hu).trans pl.over;gen:=by show(splitAtGen fs).map _=ZT;exists pl.gen;rfl
 guard:=by rw[YF,pl.guard,RP];exact pl.gd
 gd:=rfl
theorem n8{mo X':Fx}{hs:List (Z1×Zp)}{c:gK mo (hs.map (·.1))}(sm:cM (mo.holds hs c) X'):∃bx c',X'=bx.holds hs c'/\cM mo bx:=by have hh:X'.held=hs++mo.held:=sm.held;have hw:X'.w=mo.w:=sm.w;have hA:X'.A=mo.A:=sm.A;have he:X'.env=mo.env:=sm.env;have k8:mo.wr->X'.wr:=sm.wr;have ho:X'.os=mo.os:=sm.os;obtain⟨w,A,env,h₀,D₀,bY,held,G,os,fn,glob,bn,zz,above,mq,mH,h9,apart,ni,kK,old,hnl,hnc,hab⟩:=X';dsimp only at hh hw hA he ho;subst hh hw hA he ho;exact⟨⟨_,_,_,h₀,D₀,bY,mo.held,G,_,fn,glob,bn,zz,above,mq,mH,h9,apart,ni,kK,old,λq hq=>hnl q (Zl _ hq),λq hq=>hnc q (Zl _ hq),λq hq=>hab q (Zl _ hq)⟩,⟨λa ha=>by refine dn ha λq hq=>?_;exact hnl q (Zk _ hq),λa ha=>by refine dn ha λq hq=>?_;exact hnc q (Zk _ hq),λa ha=>by refine dn ha λq hq=>?_;exact hab q (Zk _ hq),c.nh,c.nb,c.nd⟩,rfl,⟨rfl,rfl,rfl,rfl,k8,rfl⟩⟩
theorem y7{w:ZD}{c cu:Ue}{k:Wb->SV Xw}{g:Bool}{l:List Z3}{xD:XY}{kp:List Z3}{fs:List UI}{s:Z6}{P:End->Z6->Prop}(f:Rq)(h:SG A cu (k (.ok f)) fs s w P):SG A c (.pure (.done f)) (.ret k ZT g l cu xD kp::fs) s w P:=PySem.W.X.s_pop pw w A c fs P s (.ok f) _ rfl k ZT g l cu xD kp h
theorem E5{w:ZD}{cu:Ue}{k:Wb->SV Xw}{g:Bool}{l:List Z3}{xD:XY}{kp:List Z3}{fs:List UI}{s:Z6}{P:End->Z6->Prop}{env:Rw}{c:Ue}(h:SG A cu (k (.ok .next)) fs s w P):SG A c (.pure (.again (.block [] env))) (.ret k ZT g l cu xD kp::fs) s w P:=by refine Uh pw w A c _ P s (.block [] env) rfl ?_;exact y7 .next h
theorem Os{tg:Zt}{body:List Y4}{it:Z3}{l:List AV}{b9:List Z1}{be:YQ}{IS:Nat->List (Z1×Zp)->Prop}{c:Ue}{fs:List UI}{k:Wb->SV Xw}{gd:Bool->Bool}{lv:List Z3}{p:XY}(pl:Pl A X.A c fs gd)(Inv:Nat->Fx->Loc->af->List AV->Prop)(W:∀X',cM X X'->pR X' b9 be tg it l (λC=>True) IS)(step:∀i av X' ρ' O' ba hs cc,cM X X'->l[i]?=Z7 av->Inv i X' ρ' O' ba->Tg (X'.holds hs cc) ρ' O' tg av λeU=>bq A Γ (X'.holds hs cc) eU O' body ba ⟨λZ cz ag gX=>∀bx cu,Z=Fx.holds bx hs cu->Inv (i+1) bx cz ag gX,λZ a ag gX=>∀bx cu,Z=Fx.holds bx hs cu->K.rt bx a ag gX,λZ cz ag gX=>∀bx cu,Z=Fx.holds bx hs cu->K.nx bx cz ag gX,λZ cz ag gX=>∀bx cu,Z=Fx.holds bx hs cu->Inv (i+1) bx cz ag gX⟩)(fin:∀X' ρ' O' ba,Inv l.length X' ρ' O' ba->K.nx X' ρ' O' ba)(uh:∀X' ρ' O' ba fl s',cM X X'->Fr X' ρ' O' s'->aJ b9 be (ak X' O') s'.heap->K.at fl X' ρ' O' ba s'->SG A c (k (.ok fl)) fs s' X.w (i8 A Γ ba X')):∀(m i:Nat)X' ρ' O' ba hs s,l.length-i=m->i<=l.length->cM X X'->Fr X' ρ' (bf hs++O') s->IS i hs->aJ b9 be (ak X' (bf hs++O')) s.heap->Inv i X' ρ' O' ba->SG A (.forLoop tg it body [] X.env) (denote table (.forLoop tg it body [] X.env)) (.ret k ZT (gd ZS) lv c p []::fs) s X.w (i8 A Γ ba X'):=by intro m;induction m with
 |zero=>intro i X' ρ' O' ba hs s hm hi sm F st sb pg;have qj:i=l.length:=(ar 0x2 0xd05f208b020e841) hm hi;subst qj;have lz:=pl.push (c':=.forLoop tg it body [] X.env) (k:=k) (l:=lv) (p:=p) (kp:=[]) rfl rfl rfl rfl;show SG A _ ((PH tg it body [] X.env).onRaise (λx=>do Se x X.env;U2 x)) _ s X.w _;rw[WO];refine gw rfl (YW ?_);refine gw lz.over ?_;refine T0 ?_;have d:=(W X' sm).done hs ρ' O' s (λr aq=>r=ZT/\Fr X' ρ' O' aq/\aJ (ak X' (bf hs++O')) s.heap (ak X' O') aq.heap) (λC C=>False) st trivial F sb λs' F' aW=>bM rfl F' aW;rw[sm.w,sm.A]at d;refine X5 d (λr aq b6=>f8 b6 λe aw aI=>?_) λC C z=>z.elim;subst e;exact E5 (uh X' ρ' O' ba .next aq sm aw (sb.trans aI) (fin _ _ _ _ pg));|succ m ih=>
  intro i X' ρ' O' ba hs s hm hi sm F st sb pg;have bC:i<l.length:=(au 0x43 0x6a2278a411e461) hm;have lz:=pl.push (c':=.forLoop tg it body [] X.env) (k:=k) (l:=lv) (p:=p) (kp:=[]) rfl rfl rfl rfl;show SG A _ ((PH tg it body [] X.env).onRaise (λx=>do Se x X.env;U2 x)) _ s X.w _;rw[WO];refine gw rfl (YW ?_);refine gw lz.over ?_;refine T0 ?_;have d:=λQ E hQ=>(W X' sm).item i (l[i]'bC) hs ρ' O' s Q E (Z0 bC) st trivial F sb hQ;rw[sm.w,sm.A]at d;refine d _ _ λv aq go=>?_;refine gw lz.over ?_;refine go _ _ λbU dJ kD gJ sk rv=>?_;refine gw lz.over ?_;have cc:=gJ.we;have ta:=step i (l[i]'bC) X' ρ' O' ba bU cc sm (Z0 bC) pg (λC C=>False) dJ v (gJ.toHolds cc) (rv.move o0);rw[show(X'.holds bU cc).w=X.w from sm.w,show(X'.holds bU cc).A=X.A from sm.A,show(X'.holds bU cc).env=X.env from sm.env]at ta;refine X5 ta (λC ig bJ=>dE bJ λu5 fR kE nG=>?_) λC C x=>x.elim;rw[Xh,WR];have BW:Pl A (X'.holds bU cc).A (.forLoop tg it body [] X.env) (.ret k ZT (gd ZS) lv c p []::fs) id:=by exists(show(X'.holds bU cc).A=X.A from sm.A);exact lz
  have core:gY X' (X'.holds bU cc):=⟨rfl,rfl,rfl,rfl,rfl,rfl,rfl⟩;have rO:=nG (.forLoop tg it body [] X.env) (.ret k ZT (gd ZS) lv c p []::fs);rw[show(X'.holds bU cc).env=X.env from sm.env,show(X'.holds bU cc).w=X.w from sm.w]at rO;refine Yy (rO _ _ _ _ ig BW fR λZ jt fA n9 fl fP pF jv jp hk=>?_) λe s h=>h.core core;obtain⟨bx,cu,rfl,uL⟩:=n8 pF;have mX:Fr bx jt (bf bU++fA) fP:=jv.pD;have uJ:=sm.trans uL;have sa:aJ b9 be (ak bx (bf bU++fA)) fP.heap:=((((sb.trans sk).trans o0).trans kE).trans jp).trans qQ;have s0:gY (bx.holds bU cu) bx:=⟨rfl,rfl,rfl,rfl,rfl,rfl,rfl⟩;have sub:fA.Sublist (bf bU++fA):=We _ _;have again:Inv (i+1) bx jt fA n9->SG A (.forLoop tg it body [] X.env) (.pure (.again (.forLoop tg it body [] X.env))) (.ret k ZT (gd ZS) lv c p []::fs) fP X.w (i8 A Γ n9 (bx.holds bU cu)):=λaap=>Uh pw X.w A _ _ _ fP (.forLoop tg it body [] X.env) rfl (Yy (ih (i+1) bx jt fA n9 bU fP ((au 0x43 0xd444f14861d0a5113c61) hm) ((ar 0x2 0x1910702889e1) bC) uJ mX kD sa aap) λe s h=>h.core s0);cases fl with|next=>exact again (hk bx cu rfl);|cont=>exact again (hk bx cu rfl);|brk=>exact y7 .next (Yy (uh bx jt fA n9 .next fP uJ (mX.drop sub) (sa.trans (mX.j3 sub)) (hk bx cu rfl)) λe s h=>h.core s0);|ret v=>refine aR hk ?_;clear hk;intro a r q;exact y7 (.ret v) (Yy (uh bx jt fA n9 (.ret v) fP uJ (mX.drop sub) (sa.trans (mX.j3 sub)) (aj a (r.move (qQ.trans (mX.j3 sub))) (q bx cu rfl))) λe s h=>h.core s0)
end
end
noncomputable section
section
variable{A:Zw}{Γ:Array Zx->Prop}{X:Fx}{ρ:Loc}{O:af}{ys:List AV}{K:GK}{pos jR:XY}
theorem aeL{b9:List Z1}{be:YQ}{tg:Zt}{it ad:Z1}{vs:Array Z3}{n:Nat}{l:List AV}(hd:ad∉b9)(hg:be.get? ad=Z7 ⟨.type "list",ZT,.seq vs n,#[]⟩)(rl:bb b9 be vs.toList l):pR X b9 be tg (.ref it) l (λC=>True) (λi hs=>∃o,hs=[(it,o)]/\o.cls=.type "list_iterator"/\o.data=.fields #[.ref ad,.int i 0]):=by
 refine xN (λi o=>o.cls=.type "list_iterator"/\o.data=.fields #[.ref ad,.int i 0]) (λi o h=>eu _ _ h.1 h.2 (by decide)) (λi av o D s Q E aN ho hb st hQ=>?_) (λo D s Q E ho hb st hQ=>?_);·refine aR (rl.get aN) λv hv rv=>?_;have hl:s.heap.IsList ad vs:=cX _ ((st _ _ hd hg).2) rfl n rfl;refine Tk (cQ o ho hb.1 hb.2) hl (x:=v) (by simpa using hv) λh' jd hs'=>?_;refine dE jd ?_;clear jd;intro o' e1 e2 e3;exact hQ v h' s.toks o' (rv.move st) e1 ⟨e2,e3⟩ λb o hb e=>hs'.extBut b o hb e
 ·have hl:s.heap.IsList ad vs:=cX _ ((st _ _ hd hg).2) rfl n rfl;exact S5 X.hh (cQ o ho hb.1 hb.2) hl (by have:=rl.size;simp[this]) λh' ny=>hQ h' s.toks λb o hb e=>ny b o hb e
def J0(A:Zw)(Γ:Array Zx->Prop)(X:Fx)(tg:Zt)(body:List Y4)(K:GK)(l:List AV)(Inv:Nat->Fx->Loc->af->List AV->Prop):Prop:=∀i av X' ρ' O' ba hs cc,cM X X'->l[i]?=Z7 av->Inv i X' ρ' O' ba->Tg (X'.holds hs cc) ρ' O' tg av λeU=>bq A Γ (X'.holds hs cc) eU O' body ba ⟨λZ cz ag gX=>∀bx cu,Z=Fx.holds bx hs cu->Inv (i+1) bx cz ag gX,λZ a ag gX=>∀bx cu,Z=Fx.holds bx hs cu->K.rt bx a ag gX,λZ cz ag gX=>∀bx cu,Z=Fx.holds bx hs cu->K.nx bx cz ag gX,λZ cz ag gX=>∀bx cu,Z=Fx.holds bx hs cu->Inv (i+1) bx cz ag gX⟩
inductive JW(A:Zw)(Γ:Array Zx->Prop)(X:Fx)(ρ:Loc)(tg:Zt)(body:List Y4)(ys:List AV)(K:GK)(a:AV)(ag:af):Prop|mk(l:List AV)(e:a=.lst l)(Inv:Nat->Fx->Loc->af->List AV->Prop)(h0:Inv 0 X ρ ag ys)(step:J0 A Γ X tg body K l Inv)(fin:∀X' ρ' O' ba,Inv l.length X' ρ' O' ba->K.nx X' ρ' O' ba)
theorem cU.forL{tg bX:Zt}{body:List Y4}(hf:∀x,XV bX X.env x=pure x)(h:Ev X ρ O bX (JW A Γ X ρ tg body ys K)):cU A Γ X ρ O (.For tg bX body [] pos) ys K:=by unfold cU;rw[arm_exec_For];refine GM.at λc fs Kf H gd lv s pl F k=>?_;refine gw pl.over ?_;refine wm (h _ s F) (λx aq z=>?_);obtain⟨a,ag,aw,aI,a5,l,e,Inv,h0,step,fin⟩:=z;cases e;rw[hf];refine gw rfl (Z5 ?_);refine gw rfl (YW ?_);refine gw rfl (ZL ?_);exists pl.over;cases a5.iL with|@mk ad vs n hd hg rl=>
 refine VH (cX _ hg rfl n rfl) ?_;refine aO (aw.wd (h':=aq.heap) (o:=gB ad 0) (tk:=aq.toks) rfl) λaS aY=>?_;have g2:=aY _ _ hd hg;refine QV pw X.w A c fs _ _ (.forLoop tg (.ref aq.heap.objs.size) body [] X.env) ZT (gd ZS) (lv []) _ λp=>?_;exact Os (A:=A) (Γ:=Γ) (X:=X) (K:=K) (IS:=λi hs=>∃o,hs=[(aq.heap.objs.size,o)]/\o.cls=.type "list_iterator"/\o.data=.fields #[.ref ad,.int i 0]) pl Inv (λX' C=>aeL g2.1 g2.2 (rl.move aY)) step fin (λX' ρ' O' ba fl s' sm F' aW hk=>k X' ρ' O' ba fl s' sm F' ((aI.trans aY).trans aW) hk) l.length 0 X ρ ag ys [(aq.heap.objs.size,gB ad 0)] _ rfl (ZI _) (.refl X) aS (cQ _ rfl rfl rfl) (.refl _ _) h0
end
end
noncomputable section
noncomputable def dd:List Z1->List Z1
 |[]=>[]|a::l=>if a∈dd l then dd l else a::dd l
theorem abX{a:Z1}:∀{l:List Z1},a∈dd l↔a∈l:=by intro N';induction N' with|nil=>exact Iff.rfl;|cons b l ih=>
  have ih:=ih;show a∈(ite _ _ _:List Z1)↔_;split
  ·rename_i h;rw[ih,ZZ];refine⟨.inr,?_⟩;rintro(rfl|q);·exact ih.mp h
   ·exact q
  ·rw[ZZ,ZZ,ih]
theorem Hm:∀l:List Z1,(dd l).Nodup:=by intro N';induction N' with|nil=>exact Yd;|cons b l ih=>
  show(ite _ _ _:List Z1).Nodup;split;·exact ih
  ·rename_i h;exact ZG.mpr ⟨h,ih⟩
noncomputable def ic(X:Fx)(O:af):List Z1:=dd (O.map (·.1)++(X.held.map (·.1)++X.env.locals::X.env.cells.map (·.2)))
theorem qz{X:Fx}{O:af}{a:Z1}:a∈ic X O↔a∈O.map (·.1)\/a=X.env.locals\/(∃n,(n,a)∈X.env.cells)\/∃o,(a,o)∈X.held:=by
 unfold ic;rw[abX,ZE,ZE,ZZ,ZY,ZY,ZY];constructor
 ·rintro(h|⟨q,hq,rfl⟩|h|⟨q,hq,rfl⟩);·exact .inl h
  ·exact .inr (.inr (.inr ⟨q.2,hq⟩))
  ·exact .inr (.inl h)
  ·exact .inr (.inr (.inl ⟨q.1,hq⟩))
 ·rintro(h|h|⟨n,h⟩|⟨o,h⟩);·exact .inl h
  ·exact .inr (.inr (.inl h))
  ·exact .inr (.inr (.inr (aj _ h rfl)))
  ·exact .inr (.inl (aj _ h rfl))
theorem ri{X:Fx}{O:af}{a:Z1}:a∈ak X O↔a∈ic X O\/a∈X.D₀:=by
 rw[bg,qz];constructor
 ·rintro(h|h|h|h|h);·exact .inl (.inl h)
  ·exact .inl (.inr (.inl h))
  ·exact .inl (.inr (.inr (.inl h)))
  ·exact .inr h
  ·exact .inl (.inr (.inr (.inr h)))
 ·rintro((h|h|h|h)|h);·exact .inl h
  ·exact .inr (.inl h)
  ·exact .inr (.inr (.inl h))
  ·exact .inr (.inr (.inr (.inr h)))
  ·exact .inr (.inr (.inr (.inl h)))
theorem aJ.left{D b9 D':List Z1}{h h':YQ}(x:aJ D h D' h')(e:∀a,a∈b9↔a∈D):aJ b9 h D' h':=λa o ha g=>x a o (λq=>ha ((e a).mpr q)) g
theorem aJ.right{D b9 D':List Z1}{h h':YQ}(x:aJ D h D' h')(e:∀a,a∈b9↔a∈D'):aJ D h b9 h':=λa o ha g=>⟨λq=>(x a o ha g).1 ((e a).mp q),(x a o ha g).2⟩
noncomputable def ly(X:Fx)(O:af)(h:YQ):List (Z1×Zp):=(ic X O).map λa=>(a,(h.get? a).getD default)
theorem nW{X:Fx}{O:af}{h:YQ}:(ly X O h).map (·.1)=ic X O:=by unfold ly;exists XW;exact Vf _
structure qV(w:ZD)(os:YZ)(hs:List (Z1×Zp))(cL D:List Z1)(h:YQ)(γ:Array Zx)(s:Z6):Prop where
 base:Keeps (aP w.params) s.heap
 own:∀q∈hs,s.heap.get? q.1=some q.2
 yF:∀q∈hs,q.1∉cL
 ex:∀d∈cL,∃o,s.heap.get? d=some o
 st:aJ D h (hs.map (·.1)++cL) s.heap
 gens:s.gens=γ
 os:s.os=os
structure og(hs:List (Z1×Zp))(s:Z6)(hs':List (Z1×Zp))(s':Z6):Prop where
 keep:∀b o,b∉hs.map (·.1)->s.heap.get? b=some o->s'.heap.get? b=some o
 own:∀q∈hs',s'.heap.get? q.1=some q.2
 new:∀a∈hs'.map (·.1),a∈hs.map (·.1)\/s.heap.get? a=none
 nd:(hs'.map (·.1)).Nodup
 os:s'.os=s.os
def lJ(A:Zw)(w:ZD)(gs:Zx)(s:Z6)(P:End->Z6->Prop):Prop:=match gs with
 |.fresh c=>SG A c (denote table c) [] s w P|.suspended k _ c _ fs _=>SG A c (k (.send .none)) fs s w P|_=>False
def iG(A:Zw)(Γ:Array Zx->Prop)(w:ZD)(os:YZ):List AV->Zx->List (Z1×Zp)->List Z1->YQ->Array Zx->Prop
 |[],gs,hs,D,h,γ=>∀cL s,qV w os hs cL D h γ s->lJ A w gs s λe s'=>match e with
  |.ret r=>r=.ok (.ret .none)/\og hs s [] s'/\Γ s'.gens|_=>False
 |y::ys,gs,hs,D,h,γ=>∀cL s,qV w os hs cL D h γ s->lJ A w gs s λe s'=>match e with
 |.susp v g l k c p fs=>∃hs',og hs s hs' s'/\Γ s'.gens/\aX (hs'.map (·.1)++cL) s'.heap v y/\iG A Γ w os ys (Qb v g l k c p fs).genState hs' (hs'.map (·.1)++cL) s'.heap s'.gens|_=>False
section
variable{A:Zw}{Γ:Array Zx->Prop}{X:Fx}{ρ:Loc}{O:af}{ys:List AV}{K:GK}{pos jR:XY}{s:Z6}
theorem Fr.EF(F:Fr X ρ O s){a:Z1}(h:a∈ic X O):∃o,s.heap.get? a=Z7 o:=F.ex a (ri.mpr (.inl h))
theorem Fr.Iz(F:Fr X ρ O s):∀q∈ly X O s.heap,s.heap.get? q.1=Z7 q.2:=λq hq=>by refine dn hq λa ha=>?_;refine br (F.EF ha) λo ho=>?_;exists ho;rfl
theorem Fr.IA(F:Fr X ρ O s)(k8:X.wr){a:Z1}(h:a∈ic X O):X.h₀.get? a=ZT\/a∈X.bY:=by
 rcases qz.mp h with h|rfl|⟨n,h⟩|⟨o,h⟩;·refine dn h λp hp=>?_;exact(F.own p hp).a1
 ·exact X.above
 ·exact k8 n a h
 ·exact X.hab _ h
theorem Fr.ac5(F:Fr X ρ O s)(k8:X.wr){a:Z1}(h:a∈ic X O):(aP X.w.params).get? a=ZT:=by
 refine ZR (F.IA k8 h) (λq=>?_) (λq=>?_);·cases e:(aP X.w.params).get? a with|none=>rfl;|some o=>have:=X.mq _ _ e;replace this:=q▸this;cases this
 ·exact X.mH a q
theorem Fr.wake(F:Fr X ρ O s)(k8:X.wr){s':Z6}{cL:List Z1}(pre:qV X.w X.os (ly X O s.heap) cL (ak X O) s.heap s.gens s'):∃X',cM X X'/\X'.G=X.G/\X'.h₀=s'.heap/\X'.bY=ic X O/\X'.D₀=cL/\Fr X' ρ O s'/\aJ (ak X O) s.heap (ak X' O) s'.heap:=by
 have mC:∀a∈ic X O,∀o,s.heap.get? a=Z7 o->s'.heap.get? a=Z7 o:=λa ha o e=>by have:=pre.own (a,(s.heap.get? a).getD default) (ZY.mpr (aj a ha rfl));replace this:=e▸this;exact this
 have oL:X.env.locals∈ic X O:=qz.mpr (.inr (.inl rfl));have oC:∀n c,(n,c)∈X.env.cells->c∈ic X O:=λn c h=>qz.mpr (.inr (.inr (.inl ⟨n,h⟩)));have oH:∀q∈X.held,q.1∈ic X O:=λq h=>qz.mpr (.inr (.inr (.inr ⟨q.2,h⟩)));have oO:∀p∈O,p.1∈ic X O:=λp h=>qz.mpr (.inl (ZY.mpr (aj p h rfl)));let X':Fx:={X with
  h₀:=s'.heap
  D₀:=cL
  bY:=ic X O
  above:=.inr oL
  mq:=pre.base
  mH:=λa ha=>F.ac5 k8 ha
  h9:=λa ha hd=>pre.yF (a,_) (ZY.mpr (aj a ha rfl)) hd
  old:=pre.ex
  hab:=λq hq=>.inr (oH q hq)};have eD:∀a,a∈ak X' O↔a∈(ly X O s.heap).map (·.1)++cL:=λa=>by rw[nW,ZE];exact ri (X:=X')
 have st:aJ (ak X O) s.heap (ak X' O) s'.heap:=pre.st.right eD;refine⟨X',⟨rfl,rfl,rfl,rfl,λC n c h=>.inr (oC n c h),rfl⟩,rfl,rfl,rfl,rfl,?_,st⟩;refine iK F.vars λm cm hn hc hv=>?_;refine⟨λa o C e=>e,?_,pre.os,⟨m,cm,?_,λn c h=>?_,λx av e=>?_⟩,λq hq=>mC _ (oH q hq) _ (F.held q hq),λp hp=>?_,F.nd⟩;·exists pre.gens;exact F.gens
 ·refine rn hn ?_;clear hn;intro o es ep h1 h2;exact pf o es ep (mC _ oL o h1) h2
 ·refine aR (hc n c h) λo h1 h2=>?_;exact aj o (mC _ (oC n c h) o h1) h2
 ·refine aR (hv x av e) λv h1 r=>?_;exact aj v h1 (r.move st)
 ·refine fB (F.own p hp) λC a2 a3 a4 o h1 h2=>?_;exact⟨.inr (oO p hp),a2,a3,a4,o,mC _ (oO p hp) o h1,h2.move st⟩
end
end
noncomputable section
section
variable{A:Zw}{Γ:Array Zx->Prop}{X:Fx}{ρ:Loc}{O:af}{ys:List AV}{K:GK}{pos jR:XY}{s:Z6}
theorem lJ.mono{w:ZD}{gs:Zx}{P P':End->Z6->Prop}(g:lJ A w gs s P)(h:∀e s',P e s'->P' e s'):lJ A w gs s P':=by cases gs with|fresh c=>exact Yy g h;|suspended k l c p fs cl=>exact Yy g h;|running=>exact g;|finished=>exact g
theorem iG.D{w:ZD}{os:YZ}{gs:Zx}{hs:List (Z1×Zp)}{D b9:List Z1}{h:YQ}{γ:Array Zx}(e:∀a,a∈b9↔a∈D)(g:iG A Γ w os ys gs hs D h γ):iG A Γ w os ys gs hs b9 h γ:=by cases ys with|nil=>exactλcL s pre=>g cL s ⟨pre.base,pre.own,pre.yF,pre.ex,pre.st.left λa=>(e a).symm,pre.gens,pre.os⟩;|cons y ys=>exactλcL s pre=>g cL s ⟨pre.base,pre.own,pre.yF,pre.ex,pre.st.left λa=>(e a).symm,pre.gens,pre.os⟩
theorem gY.wr{X Y:Fx}(c:gY X Y)(h:X.wr):Y.wr:=λn a q=>by rw[c.env]at q;exists c.h₀;exists c.bY;exact h n a q
theorem iG.of{ys:List AV}:∀{X:Fx}{ρ:Loc}{O:af}{s:Z6}{gs:Zx},Fr X ρ O s->X.wr->(∀X' ez,cM X X'->X'.G=X.G->Fr X' ρ O ez->aJ (ak X O) s.heap (ak X' O) ez.heap->lJ A X.w gs ez (i8 A Γ ys X'))->iG A Γ X.w X.os ys gs (ly X O s.heap) (ak X O) s.heap s.gens:=by induction ys with
 |nil=>intro X ρ O s gs F k8 go cL ez pre;obtain⟨X',sm,eG,e1,e2,e3,F',st⟩:=F.wake k8 pre;refine(go X' ez sm eG F' st).mono λe s' h=>?_;cases e with|susp v g l k c p fs=>exact h.elim;|ret r=>obtain⟨hr,Y,ρ',O',co,bH,FY⟩:=h;refine aR bH λγ eY fD=>?_;have hg:Y.G s'.gens:=FY.gens;rw[eY]at hg;refine bM hr ⟨λb o hb e=>FY.keep b o (by exists co.bY;exists e2;rw[nW]at hb;exact hb) (by exists co.h₀;exists e1;exact e),λq hq=>(nomatch hq),λa ha=>(nomatch ha),Yd,?_⟩ (by exists(show s'.gens=γ from hg);exact fD);exists FY.os;exists co.os;exists sm.os;exact bG pre.os rfl
 |cons y ys ih=>intro X ρ O s gs F k8 go cL ez pre;obtain⟨X',sm,eG,e1,e2,e3,F',st⟩:=F.wake k8 pre;refine(go X' ez sm eG F' st).mono λe s' h=>?_;cases e with|ret r=>exact h.elim;|susp v g l k c p fs=>
   obtain⟨Y,ρ',O',co,bS,FY,r,next⟩:=h;refine aR bS λγ eY fD=>?_;have hg:Y.G s'.gens:=FY.gens;rw[eY]at hg;have wY:Y.wr:=co.wr (sm.wr k8);have eD:∀a,a∈(ly Y O' s'.heap).map (·.1)++cL↔a∈ak Y O':=λa=>by rw[nW,ZE,ri,co.D₀,e3]
   refine fe (ly Y O' s'.heap) ⟨λb o hb e=>FY.keep b o (by exists co.bY;exists e2;rw[nW]at hb;exact hb) (by exists co.h₀;exists e1;exact e),FY.Iz,λa ha=>?_,by exists nW;exact Hm _,?_⟩ (by exists(show s'.gens=γ from hg);exact fD) (r.less λa ha=>(eD a).mp ha) ?_;·rw[nW]at ha⊢;have:=FY.IA wY ha;rw[co.h₀,e1,co.bY,e2]at this;exact this.symm
   ·exists FY.os;exists co.os;exists sm.os;exact bG pre.os rfl
   ·have g:=ih (gs:=(Qb v g l k c p fs).genState) FY wY (λyh s3 Ck yI F3 pG=>by have:=next yh s3 Ck yI F3 pG;exists co.w;exact this);rw[co.w,co.os,sm.w,sm.os]at g;exact g.D eD
theorem lJ.quiet{w:ZD}{gs:Zx}{P:End->Z6->Prop}(g:lJ A w gs s P):lJ A w gs s λe s'=>e.quiet=ZW/\P e s':=by
 have q:∀{c t fs},SG A c t fs s w P->SG A c t fs s w λe s'=>e.quiet=ZW/\P e s':=λh Γ p hc gA=>by refine fG (h Γ p hc gA) λe s' hr hq hp=>?_;exact pd e s' hr hq hq hp
 cases gs with|fresh c=>exact q g;|suspended k l c p fs cl=>exact q g;|running=>exact g;|finished=>exact g
theorem aft{w:ZD}{B:Zw}{α:Type}{g:Nat}{gs:Zx}{l:List Z3}{k:GenResult->SV α}{Q:α->Z6->Prop}{E:Z3->Z6->Prop}(hg:s.gens[g]?=Z7 gs)(x:lJ B w gs (s.setGen g .running) λe aq=>ZK (model pw w) B (k e.result) Q E (aq.setGen g e.genState)):ZK (model pw w) B (.resume g (.send .none) l k) Q E s:=by cases gs with|fresh c=>exact Ry α pw w hg (.inl (k9 rfl rfl rfl rfl)) (λΓ=>Γ.In B) (λC h=>h) x;|suspended k₀ abG c p fs cl=>exact Ry α pw w hg (.inr ⟨k₀,abG,p,cl,rfl,rfl⟩) (λΓ=>Γ.In B) (λC h=>h) x;|running=>exact x.elim;|finished=>exact x.elim
def sT(B:Zw)(Γ:Array Zx->Prop)(w:ZD)(os:YZ)(hs:List (Z1×Zp))(cL:List Z1)(s:Z6):List AV->End->Z6->Prop
 |[],.ret r,aq=>r=.ok (.ret .none)/\og hs s [] aq/\Γ aq.gens|y::ys,.susp v g l k c p fs,aq=>∃hs',og hs s hs' aq/\Γ aq.gens/\aX (hs'.map (·.1)++cL) aq.heap v y/\iG B Γ w os ys (Qb v g l k c p fs).genState hs' (hs'.map (·.1)++cL) aq.heap aq.gens|_,_,_=>False
section
variable{w:ZD}{B:Zw}{hs:List (Z1×Zp)}{D cL:List Z1}{h:YQ}{γ:Array Zx}{os:YZ}{gs:Zx}{aq:Z6}
theorem iG.out(go:iG B Γ w os ys gs hs D h γ)(pre:qV w os hs cL D h γ s):lJ B w gs s (sT B Γ w os hs cL s ys):=by cases ys with|nil=>exact(go cL _ pre).mono λe s' h=>by cases e<;>exact h;|cons y ys=>exact(go cL _ pre).mono λe s' h=>by cases e<;>exact h
theorem sT.ret{r:Except Z3 Rq}(o:sT B Γ w os hs cL s ys (.ret r) aq):ys=[]/\r=.ok (.ret .none)/\og hs s [] aq/\Γ aq.gens:=by cases ys with|nil=>exact⟨rfl,o⟩;|cons y ys=>exact o.elim
theorem sT.susp{v g l k c p fs}(o:sT B Γ w os hs cL s ys (.susp v g l k c p fs) aq):∃y ba,ys=y::ba/\∃hs',og hs s hs' aq/\Γ aq.gens/\aX (hs'.map (·.1)++cL) aq.heap v y/\iG B Γ w os ba (Qb v g l k c p fs).genState hs' (hs'.map (·.1)++cL) aq.heap aq.gens:=by cases ys with|nil=>exact o.elim;|cons y ys=>exact dT y ys rfl o
set_option backward.match.sparseCases true in theorem afz{st:GenStatus}{α:Type}{j:PUnit->SV α}{Q:α->Z6->Prop}{E:Z3->Z6->Prop}(hl:s.heap.NoLimit)(a9:B.depth<ZV)(h:ZK (model pw w) B (j ⟨⟩) Q E s):ZK (model pw w) B (match st with|.fresh=>roomToWake>>=j|.suspended=>roomToWake>>=j|_=>pure ⟨⟩>>=j) Q E s:=by cases st<;>first|exact Z8 (wpAny_roomToWake hl a9 h)|exact h
end
theorem N9{w:ZD}{B:Zw}{am:Z1}{g:Nat}{gs:Zx}{hs:List (Z1×Zp)}{D cL:List Z1}{h:YQ}{γ:Array Zx}{os:YZ}{Q:Option Z3->Z6->Prop}{E:Z3->Z6->Prop}(hh:B.handled=ZT)(hl:s.heap.NoLimit)(a9:B.depth<ZV)(hg:s.heap.IsGen am g)(vX:s.gens[g]?=Z7 gs)(go:iG B.in1 Γ w os ys gs hs D h γ)(pre:qV w os hs cL D h γ (s.setGen g .running))(hY:∀y ba v aq cW hs',ys=y::ba->cW.bare=ZW->og hs (s.setGen g .running) hs' aq->Γ aq.gens->aX (hs'.map (·.1)++cL) aq.heap v y->iG B.in1 Γ w os ba cW hs' (hs'.map (·.1)++cL) aq.heap aq.gens->Q (Z7 v) (aq.setGen g cW))(hP:ys=[]->∀aq,og hs (s.setGen g .running) [] aq->Γ aq.gens->∀h',(∀b o,aq.heap.get? b=Z7 o->h'.get? b=Z7 o)->Q ZT {aq.setGen g .finished with heap:=h'}):ZK (model pw w) B (VU (.ref am)) Q E s:=by
 refine Z8 (Wq (Yz (name:=Z9 "__next__") hg.typeIs slot_gen_next (YJ slot_gen_next hg.typeIs entry_gen_next ?_ (args_gen_next _))));show ZK _ B.in1 (P8 (.ref am) (.send .none)) _ _ s;refine Z8 (ZL (wpAny_genNumber hg (Z8 (wpAny_genState vX ?_))));refine afz (B:=B.in1) hl a9 ?_;refine aft vX ((go.out pre).quiet.mono λe aq bT=>aO bT λhq h=>?_);cases e with|ret r=>refine kO h.ret λey b5 hp fD=>?_;subst b5;show ZK _ _ (newExc (.type "StopIteration") []>>=_) _ _ _;refine Z8 ?_;refine Z8 (XU ?_ (by size_fits));refine Z8 (m:=Uv _ _) (Zu (a:=Yr) (by first|rfl|(simp only[Uv];rfl)) ?_);refine XU ?_ (by size_fits);refine Z8 (Z8 (wpAny_handled ?_));exists(show B.in1.handled=ZT from hh);refine wpAny_throw ?_;refine Z8 (WL (T:="StopIteration") (b:=ZW) (aj _ (Zy _ rfl) rfl) Uu ?_);exact Z5 (hP ey aq hp fD _ λb o hb=>ZX _ (ZX _ hb));|susp v g' l k c p fs=>obtain⟨y,ba,ey,hs',hp,fD,r,nr⟩:=h.susp;exact Z5 (aj v rfl (Z5 (hY y ba v aq _ hs' ey (End.bare_of_quiet hq) hp fD r nr)))
end
end
noncomputable section
section
variable{A:Zw}{Γ:Array Zx->Prop}{X Y:Fx}{ρ:Loc}{O OL O':af}{ys:List AV}{K:GK}{pos jR:XY}{s:Z6}
noncomputable def j6(Γ:Array Zx->Prop):GK:=⟨λX' C C ba=>ba=[]/\dZ Γ X',λX' a C ba=>a=.none/\ba=[]/\dZ Γ X',λC C C C=>False,λC C C C=>False⟩
theorem Ou{body:List Y4}(hA:A.over (.func body X.env) []=X.A)(h:bq A Γ X ρ O body ys (j6 Γ))(F:Fr X ρ O s):SG A (.func body X.env) (denote table (.func body X.env)) [] s X.w (i8 A Γ ys X):=by refine oR (m:=point) (Kf:=λC=>_) (H:=.raise) (gd:=id) (lv:=λC=>[]) (wpAny_point ?_);rw[WO,Xh,WR];refine h _ _ _ _ _ _ s ⟨hA,rfl,rfl,rfl⟩ F λX' ρ' O' ba fl s' sm F' st hk=>?_;cases fl with
 |next=>refine aO hk ?_;clear hk;intro b6 gn;subst b6;exact QC pw X.w A _ _ s' (.ok (.ret .none)) _ rfl ⟨rfl,X',ρ',O',.refl X',gn,F'⟩;|ret v=>refine gM hk ?_;clear hk;intro a r bJ b7 gn;subst bJ;subst b7;cases r.iN;exact QC pw X.w A _ _ s' (.ok (.ret .none)) _ rfl ⟨rfl,X',ρ',O',.refl X',gn,F'⟩;|brk=>exact hk.elim;|cont=>exact hk.elim
structure jU(B:Zw)(X Y:Fx)(name:ZU)(scope:X7)(body:List Y4)(fa:Z1)(cd:Z3):Prop where
 w:Y.w=X.w
 env:∃L,Y.env=Zf name scope L fa cd
 A:Y.A=B.over (.func body Y.env) []wr:Y.wr
 os:Y.os=X.os
theorem jU.bd{B:Zw}{name:ZU}{scope:X7}{body:List Y4}{fa:Z1}{cd:Z3}(ah:jU B X Y name scope body fa cd){x:ZU}(h:scope.names.lookup x=Z7 .local\/scope.names.lookup x=Z7 .cell):Bd Y x:=by
 refine br ah.env λL e=>?_;refine ZR h (λh=>?_) (λh=>?_);·exact .inl (by exists e;exact h)
 ·refine .inr (bM (by exists e;exact h) ah.wr ?_);exists e;exact XR.mp (cellsFrom_some _ _ _ h)
theorem jU.glob{B:Zw}{name:ZU}{scope:X7}{body:List Y4}{fa:Z1}{cd:Z3}(ah:jU B X Y name scope body fa cd){x:ZU}(h:scope.names.lookup x=Z7 .globalImplicit):Y.env.kindOf x=Z7 .globalImplicit:=by refine br ah.env λL e=>?_;exists e;exact h
theorem jU.ok{B:Zw}{name:ZU}{scope:X7}{body:List Y4}{fa:Z1}{cd:Z3}(ah:jU B X Y name scope body fa cd)(hd:scope.names.lookup ("__debug__":ZU)=ZT):Ok Y (λx=>scope.names.lookup x) bK:=by
 refine⟨λx h=>ah.bd h,λx g hx hg=>?_,?_⟩;·have hm:=mem_of_lookup hg;exact⟨pN.ld (λP=>oS P _ hm) (ah.glob hx),(oS _ _ hm).pV⟩
 ·refine br ah.env λL e=>?_;exists e;exact hd
theorem jU.same{B:Zw}{name:ZU}{scope:X7}{body:List Y4}{fa:Z1}{cd:Z3}(ah:jU B X Y name scope body fa cd){Y':Fx}(sm:cM Y Y'):jU B X Y' name scope body fa cd:=⟨sm.w.trans ah.w,by exists sm.env;exact ah.env,by exists sm.A;exists sm.env;exact ah.A,sm.wr ah.wr,sm.os.trans ah.os⟩
noncomputable def nV(O:af)(h:YQ):List (Z1×Zp):=O.map λp=>(p.1,(h.get? p.1).getD default)
theorem Io{O:af}{h:YQ}:(nV O h).map (·.1)=O.map (·.1):=by unfold nV;exists XW;rfl
theorem Fr.tell(F:Fr X ρ (OL++O') s):Fr X ρ (bf (nV OL s.heap)++O') s/\aJ (ak X (OL++O')) s.heap (ak X (bf (nV OL s.heap)++O')) s.heap:=by
 have ek:(bf (nV OL s.heap)++O').map (·.1)=(OL++O').map (·.1):=by rw[ZJ,ZJ,lw,Io]
 have ed:∀a,a∈ak X (bf (nV OL s.heap)++O')↔a∈ak X (OL++O'):=λa=>by rw[bg,bg,ek]
 have st:aJ (ak X (OL++O')) s.heap (ak X (bf (nV OL s.heap)++O')) s.heap:=λa o h e=>⟨λq=>h ((ed a).mp q),e⟩;refine⟨F.move st (λa o C C e=>e) F.gens rfl (λo e=>e) (λC c C o e=>e) (λq C e=>e) (λp hp=>?_) (by exists ek;exact F.nd),st⟩;refine ZR (ZE.mp hp) (λhp=>?_) (λhp=>?_);·unfold bf nV at hp;replace hp:=XW▸hp;refine dn hp λq hq=>?_;refine fB (F.own q (Zk _ hq)) λa1 a2 a3 a4 o h1 h2=>?_;exact⟨a1,a2,a3,a4,o,h1,by show o=(s.heap.get? q.1).getD default;exists h1;rfl⟩
 ·refine fB (F.own p (Zl _ hp)) λa1 a2 a3 a4 o h1 h2=>?_;exact⟨a1,a2,a3,a4,o,h1,h2.move st⟩
end
end
noncomputable section
section
variable{A:Zw}{Γ:Array Zx->Prop}{X Y:Fx}{ρ:Loc}{O OL O':af}{ys:List AV}{K:GK}{pos jR:XY}{s:Z6}
noncomputable def Fx.sG(X:Fx)(G:Array Zx->Prop):Fx:={X with G:=G}
theorem Fr.sG{G:Array Zx->Prop}(F:Fr X ρ O s)(h:G s.gens):Fr (X.sG G) ρ O s:=⟨F.keep,h,F.os,(let⟨a,b,c,d,e⟩:=F.vars;⟨a,b,c,d,e⟩),F.held,λp hp=>let⟨a,b,c,d,e,f,g⟩:=F.own p hp;⟨a,b,c,d,e,f,g⟩,F.nd⟩
theorem Fr.y4{γ:Array Zx}{G:Array Zx->Prop}(F:Fr X ρ O s)(h:G γ):Fr (X.sG G) ρ O {s with gens:=γ}:=⟨F.keep,h,F.os,(let⟨a,b,c,d,e⟩:=F.vars;⟨a,b,c,d,e⟩),F.held,λp hp=>let⟨a,b,c,d,e,f,g⟩:=F.own p hp;⟨a,b,c,d,e,f,g⟩,F.nd⟩
structure xV(P:Zr)(fd:V4)(name:ZU)(scope:X7)(body:List Y4)(fa ca:Z1):Prop where
 at_:∃o,(aP P).get? fa=some o/\o.data=.func fd
 code:∃co fS ct,(aP P).get? ca=some co/\co.data=.fields fS/\fS[1]?=some (.str name ct)sc:fd.scope=scope
 globals:fd.globals=Xs
 closure:fd.closure=[]qual:fd.qualname=name
 cd:fd.code=.ref ca
 bi:fd.builtins=Vq
 body:fd.body=.stmts body
 gen:scope.isGenerator=true
 yz:scope.isCoroutine=false
 kind:scope.kind=.function
 cell:∀x∈scope.names,x.2≠.cell
 cells:∀n,XF n scope.names []=[]
noncomputable def iM(g:Nat)(nm qn:Z3):Zp:={cls:=.type "generator",data:=.fields #[.int g 0,nm,qn]}
theorem EW{B:Zw}{fa ca:Z1}{fd:V4}{name:ZU}{scope:X7}{body:List Y4}{l:List AV}{vs:List Z3}{ns:List ZU}{args:Args}{R:Wb->Z6->Prop}(hB:B.handled=ZT)(a9:X.A.depth<ZV)(D:xV X.w.params fd name scope body fa ca)(hl:∀x∈ns,scope.names.lookup x=Z7 .local)(gQ:ns.Nodup)(F:Fr X ρ (OL++O') s)(rel:bb (ak X (OL++O')) s.heap vs l)(hb:∀A(Q:List (ZU×Z3)->Z6->Prop)E,Q (ns.zip vs) s->ZK (model pw X.w) A (Ss fd args) Q E s)(j8:∀Y,jU B X Y name scope body fa (.ref ca)->dZ Γ Y->bq B Γ Y (ns.zip l) OL body ys (j6 Γ))(gA:∀env,Γ ((s.gens.push (.fresh (.func body env))).setIfInBounds s.gens.size .running))(hR:∀am hs nm qn env b9 be h' tk,h'.get? am=Z7 (iM s.gens.size nm qn)->(∀G:Array Zx->Prop,G (s.gens.push (.fresh (.func body env)))->Fr (X.sG G) ρ (bf ((am,iM s.gens.size nm qn)::hs)++O') {s with heap:=h',gens:=s.gens.push (.fresh (.func body env)),toks:=tk})->aJ (ak X (OL++O')) s.heap (ak X (bf ((am,iM s.gens.size nm qn)::hs)++O')) h'->aJ b9 be (ak X (bf ((am,iM s.gens.size nm qn)::hs)++O')) h'->iG B Γ X.w X.os ys (.fresh (.func body env)) hs b9 be ((s.gens.push (.fresh (.func body env))).setIfInBounds s.gens.size .running)->R (.ok (.ret (.ref am))) {s with heap:=h',gens:=s.gens.push (.fresh (.func body env)),toks:=tk}):Vk (model pw X.w) X.A (.call (.ref fa) args) R s:=by
 refine aR D.at_ λo ho hd=>?_;obtain⟨co,fS,ct,e9,ix,lT⟩:=D.code;refine codeAny_call_generator a9 (F.base _ _ ho) hd (by exists D.sc;exact D.yz) (by exists D.sc;exact D.gen) D.body (ua ca co fS ct D.cd (F.base _ _ e9) ix (by exists D.qual;exact lT)) ?_;refine hb _ _ _ ?_;refine Sv (by exists D.sc;exact D.cell) (λx hx=>by exists D.sc;exact hl x.1 (U7 hx).1) (λaH lY nF=>?_) (by exists D.sc;exact D.kind);have nd:((ns.zip vs).map (·.1)).Nodup:=CP gQ;rw[show(λx=>(ns.zip vs).reverse.lookup x)=λx=>(ns.zip vs).lookup x from funext λx=>abo nd x]at lY;have keep:∀b o,s.heap.get? b=Z7 o->aH.get? b=Z7 o:=λb o e=>nF.extBut b o (X6 (Zc e)) (ZX _ e);have eE:newEnv fd.scope s.heap.objs.size fd.globals fd.closure (fd.qualname++".<locals>.") (Z7 fa) fd.code ZT fd.builtins=Zf name scope s.heap.objs.size fa (.ref ca):=by exists D.sc;exists D.globals;exists D.closure;exists D.qual;exists D.cd;exists D.bi;unfold Zf;rw[D.cells];rfl
 exists eE;have hsz:s.heap.objs.size<aH.objs.size:=lY.lt;refine⟨(qD F.base).keeps keep,?_⟩;generalize fD:(s.gens.push (.fresh (.func body (Zf name scope s.heap.objs.size fa (.ref ca))))).setIfInBounds s.gens.size .running=γ;have oA:(Zf name scope s.heap.objs.size fa (.ref ca)).cells=[]:=D.cells _;let Z:Fx:={w:=X.w,A:=B.over (.func body (Zf name scope s.heap.objs.size fa (.ref ca))) [],env:=Zf name scope s.heap.objs.size fa (.ref ca),h₀:=s.heap,D₀:=ak X O',bY:=OL.map (·.1),held:=[],G:=λg=>g=γ,os:=X.os,fn:=D.kind,glob:=rfl,bn:=rfl,hh:=hB,above:=.inl (fY _),mq:=F.base,mH:=λa ha=>(F.bY ha).1,h9:=λa ha=>(F.bY ha).2,apart:=by exists oA;exact .nil,ni:=λn c hc=>by rw[oA]at hc;exact(nomatch hc),kK:=λn c c' hc=>by rw[oA]at hc;exact(nomatch hc),old:=λd hd=>F.ex d (fi.mpr (.inr hd)),hnl:=λq hq=>(nomatch hq),hnc:=λq hq=>(nomatch hq),hab:=λq hq=>nomatch hq};have wZ:Z.wr:=λn c hc=>by have hc:(n,c)∈(Zf name scope s.heap.objs.size fa (.ref ca)).cells:=hc;rw[oA]at hc;exact nomatch hc
 have CZ:jU B X Z name scope body fa (.ref ca):=⟨rfl,⟨_,rfl⟩,rfl,wZ,rfl⟩;have S0:aJ (ak X (OL++O')) s.heap (ak Z OL) aH:=λa o ha e=>by
  refine⟨λq=>?_,keep a o e⟩;have:=Zc e;refine jB q (λq=>?_) (λq=>?_) (λn q=>?_) (λq=>?_) λo' q=>?_;·exact ha (fi.mpr (.inl q))
  ·exact absurd q (X6 this)
  ·have q:(n,a)∈(Zf name scope s.heap.objs.size fa (.ref ca)).cells:=q;rw[oA]at q;exact nomatch q
  ·exact ha (fi.mpr (.inr q))
  ·cases q
 let aq:Z6:={s with heap:=aH,gens:=γ};have FZ:Fr Z (ns.zip l) OL aq:=by
  refine⟨λa o C e=>keep a o e,rfl,F.os,⟨_,λC=>ZT,lY,λn c hc=>?_,λx av e=>?_⟩,λq hq=>(nomatch hq),λp hp=>?_,(F.drop (List.sublist_append_left _ _)).nd⟩;·have hc:(n,c)∈(Zf name scope s.heap.objs.size fa (.ref ca)).cells:=hc;rw[oA]at hc;exact nomatch hc
  ·refine aR (CQ rel e) λv e1 r=>?_;exact aj v (.inl ⟨hl x (CO e),e1⟩) (r.move S0)
  ·refine fB (F.own p (Zk _ hp)) λb1 b2 b3 b4 o' cN z=>?_;have bC:=Zc cN;exact⟨.inr (ZY.mpr (aj p hp rfl)),X6 bC,⟨λn c hc=>by have hc:(n,c)∈(Zf name scope s.heap.objs.size fa (.ref ca)).cells:=hc;rw[oA]at hc;exact(nomatch hc),λq hq=>nomatch hq⟩,b4,o',keep _ _ cN,z.move S0⟩
 have nr:iG B Γ X.w X.os ys (.fresh (.func body (Zf name scope s.heap.objs.size fa (.ref ca)))) (ly Z OL aH) (ak Z OL) aH γ:=by refine iG.of (s:=aq) FZ wZ λX' ez sm eG F' st=>?_;have C':=CZ.same sm;have eX:X'.env=Zf name scope s.heap.objs.size fa (.ref ca):=sm.env;have:=Ou (ys:=ys) (by exact bG C'.A rfl) (j8 X' C' (aj γ eG (by exists Zz fD;exact gA _))) F';rw[eX,sm.w]at this;exact this
 have TI:s.heap.objs.size<aH.objs.size:=hsz;have nI:∀{o},aH.get? aH.objs.size≠Z7 o:=λ{o}e=>YT _ (Zc e);have nIs:s.heap.get? aH.objs.size=ZT:=X2 (XM TI);have kp:∀{ob:Zp}b o,aH.get? b=Z7 o->(aH.push ob).get? b=Z7 o:=λ{ob}b o e=>ZX _ e;refine aO F.tell λaw aI=>?_;have uD:=λ(ob:Zp)(hf:ob.isFreed=ZS)(tk:Nat)=>Fr.mQ (hs:=nV OL s.heap) (hs':=(aH.objs.size,ob)::ly Z OL aH) (s':={s with heap:=aH.push ob,toks:=tk}) aw (λb o C e=>kp b o (keep b o e)) (λq hq=>by
   rcases ZZ.mp hq with rfl|hq;·exact Zy _ hf
   ·exact kp _ _ (FZ.Iz q hq)) (λa ha=>by
   rcases ZZ.mp ha with rfl|ha;·exact .inr nIs
   ·have ha:a∈(ly Z OL aH).map (·.1):=ha;rw[nW]at ha;rcases qz.mp ha with q|rfl|⟨n,q⟩|⟨o,q⟩;·exact .inl (by exists Io;exact q)
    ·exact .inr (fY _)
    ·have q:(n,a)∈(Zf name scope s.heap.objs.size fa (.ref ca)).cells:=q;rw[oA]at q;exact nomatch q
    ·exact nomatch q) (by exists Z2;exists nW;refine ZG.mpr ⟨λq=>?_,Hm _⟩;refine br (FZ.EF q) λo ho=>?_;exact nI ho) F.gens rfl;refine hR aH.objs.size (ly Z OL aH) (.str fd.name (s.toks+(ns.zip vs).length)) (.str fd.qualname (s.toks+(ns.zip vs).length+1)) _ (ak Z OL) aH _ _ (Zy _ rfl) (λG hG=>(uD _ rfl _).1.y4 hG) (aI.trans (uD _ rfl 0).2) (λa o ha e=>⟨λq=>?_,kp a o e⟩) (by exists fD;exact nr);refine ZR (bg.mp q) (λq=>?_) (λq=>?_)
 ·rw[ZJ,lw,ZE,Z2,ZZ,nW]at q;rcases q with(rfl|q)|q;·exact nI e
  ·exact ha (ri.mpr (.inl q))
  ·exact ha (ri.mpr (.inr (bg.mpr (.inl q))))
 ·exact ha (ri.mpr (.inr (bg.mpr (.inr q))))
end
end
noncomputable section
section
variable{A:Zw}{Γ iZ:Array Zx->Prop}{X Y Z:Fx}{ρ:Loc}{O OL O':af}{ys:List AV}{K:GK}{pos jR:XY}{s:Z6}
def mj(B:Zw)(Γ:Array Zx->Prop)(Z:Fx)(O:af)(am:Z1)(g:Nat)(ys:List AV)(hs:List (Z1×Zp))(s:Z6):Prop:=∃gs jK nm qn D h,hs=(am,iM g nm qn)::jK/\s.gens[g]?=Z7 gs/\iG B Γ Z.w Z.os ys gs jK D h (s.gens.setIfInBounds g .running)/\aJ D h (ak Z (bf hs++O)) s.heap
theorem mj.move{B:Zw}{Z':Fx}{aM:af}{am:Z1}{g:Nat}{hs:List (Z1×Zp)}{s':Z6}(x:mj B Γ Z O am g ys hs s)(hw:Z'.w=Z.w)(ho:Z'.os=Z.os)(hg:s'.gens=s.gens)(st:aJ (ak Z (bf hs++O)) s.heap (ak Z' (bf hs++aM)) s'.heap):mj B Γ Z' aM am g ys hs s':=by obtain⟨gs,jK,nm,qn,D,h,e,e1,e2,e3⟩:=x;exact⟨gs,jK,nm,qn,D,h,e,by exists hg;exact e1,(by exists hg;exists hw;exists ho;exact e2),e3.trans st⟩
theorem aeb{γ:Array Zx}{g:Nat}{a b:Zx}(h:γ[g]?=Z7 b):(γ.setIfInBounds g a).setIfInBounds g b=γ:=by
 have bC:g<γ.size:=by
  refine ZR (XK g γ.size) (λq=>?_) (λq=>?_);·exact q
  ·replace h:=(XD q)▸h;cases h
 apply PV;·simp
 ·intro i h1 h2;by_cases e:i=g;·subst e;replace h:=(Yg bC)▸h;exists Y1 h;simp
  ·simp only[VO];exact Vo h2 (Xl e)
theorem vM{am:Z1}{g:Nat}{hs:List (Z1×Zp)}{Q:Option Z3->Z6->Prop}{E:Z3->Z6->Prop}(a9:Z.A.depth<ZV)(iy:∀γ,Γ γ->γ[g]?=Z7 .running)(F:Fr Z ρ (bf hs++O) s)(H:mj Z.A.in1 Γ Z O am g ys hs s)(hY:∀y ba v γ cW hs' s',ys=y::ba->cW.bare=ZW->Γ γ->s'.gens=γ.setIfInBounds g cW->(∀G:Array Zx->Prop,G s'.gens->Fr (Z.sG G) ρ (bf hs'++O) s')->aJ (ak Z (bf hs++O)) s.heap (ak Z (bf hs'++O)) s'.heap->aX (ak Z (bf hs'++O)) s'.heap v y->mj Z.A.in1 Γ Z O am g ba hs' s'->Q (Z7 v) s')(hP:ys=[]->∀γ s',Γ γ->s'.gens=γ.setIfInBounds g .finished->(∀G:Array Zx->Prop,G s'.gens->Fr (Z.sG G) ρ O s')->aJ (ak Z (bf hs++O)) s.heap (ak Z O) s'.heap->Q ZT s'):ZK (model pw Z.w) Z.A (VU (.ref am)) Q E s:=by
 obtain⟨gs,jK,nm,qn,D,h,cx,vX,go,stD⟩:=H;subst cx;have oI:s.heap.get? am=Z7 (iM g nm qn):=by exact F.ib (.head _)
 have Hn:((am::jK.map (·.1))++O.map (·.1)).Nodup:=by have:=F.nd;rwa[ZJ,lw]at this
 have eD:∀{hs':List (Z1×Zp)}a,a∈hs'.map (·.1)++ak Z ((am,.other (iM g nm qn))::O)↔a∈ak Z (bf ((am,iM g nm qn)::hs')++O):=λ{hs'}a=>by
  rw[ZE,bg,bg,ZJ,lw,Z2,Z2,ZE,ZZ,ZZ];constructor
  ·rintro(h|(h|h)|h);·exact .inl (.inl (.inr h))
   ·exact .inl (.inl (.inl h))
   ·exact .inl (.inr h)
   ·exact .inr h
  ·rintro(((h|h)|h)|h);·exact .inr (.inl (.inl h))
   ·exact .inl h
   ·exact .inr (.inl (.inr h))
   ·exact .inr (.inr h)
 have pre:qV Z.w Z.os jK (ak Z ((am,.other (iM g nm qn))::O)) D h (s.gens.setIfInBounds g .running) (s.setGen g .running):=by
  refine⟨F.base,λq hq=>?_,λq hq hd=>?_,λd hd=>F.ex d ((eD (hs':=jK) d).mp (Zl _ hd)),stD.right eD,rfl,F.os⟩;·exact F.ib (Zk _ (.tail _ (ZY.mpr (aj q hq rfl))))
  ·obtain⟨b1,b2,b3,C⟩:=F.own (q.1,.other q.2) (Zk _ (.tail _ (ZY.mpr (aj q hq rfl))));have hk:q.1∈jK.map (·.1):=ZY.mpr (aj q hq rfl);have pA:=YY.mp Hn;refine jB hd (λz=>?_) (λz=>?_) (λn z=>?_) (λz=>?_) λo z=>?_
   ·refine ZR (ZZ.mp z) (λz=>?_) (λz=>?_);·exact(ZG.mp pA.1).1 (by have z:q.1=am:=z;exists Zz z;exact hk)
    ·exact pA.2.2 _ (WS _ hk) _ z rfl
   ·exact b2 z
   ·exact b3.1 n _ z rfl
   ·refine ZR b1 (λy=>?_) (λy=>?_);·refine br (Z.old _ z) λo ho=>?_;have y:Z.h₀.get? q.1=ZT:=y;replace ho:=y▸ho;cases ho
    ·exact Z.h9 _ y z
   ·exact b3.2 _ z rfl
 have CX:am∉jK.map (·.1):=(ZG.mp (YY.mp Hn).1).1;refine N9 Z.hh (qD F.base) a9 (jM _ nm qn oI rfl rfl rfl) vX go pre (λy ba v aq cW hs' ey hb hp fD r nr=>?_) (λey aq hp fD h' hk=>?_)
 ·have kI:aq.heap.get? am=Z7 (iM g nm qn):=hp.keep _ _ CX oI;have I':am∉hs'.map (·.1):=λq=>by
   refine ZR (hp.new am q) (λz=>?_) (λz=>?_);·exact CX z
   ·have z:s.heap.get? am=ZT:=z;replace z:=oI▸z;cases z
  have uD:=Fr.mQ (hs:=(am,iM g nm qn)::jK) (hs':=(am,iM g nm qn)::hs') (s':={aq with gens:=s.gens}) F (λb o jG e=>hp.keep b o (λq=>jG (WS _ q)) e) (λq hq=>(ZZ.mp hq).elim (λe=>by exists e;exact kI) (hp.own q)) (λa ha=>by
    rcases ZZ.mp ha with rfl|ha;·exact .inl (.head _)
    ·exact(hp.new a ha).imp (WS _) id) (ZG.mpr ⟨I',hp.nd⟩) F.gens hp.os;refine hY y ba v aq.gens cW ((am,iM g nm qn)::hs') (aq.setGen g cW) ey hb fD rfl (λG hG=>uD.1.y4 (γ:=(aq.setGen g cW).gens) hG) uD.2 (r.less λa ha=>(eD a).mpr ha) ?_;refine⟨cW,hs',nm,qn,_,_,rfl,(setGen_self (gs:=.running) (iy _ fD)),?_,.refl _ _⟩;have e:(aq.setGen g cW).gens.setIfInBounds g .running=aq.gens:=aeb (iy _ fD);exists e;exact nr.D λa=>(eD a).symm
 ·have un:=Fr.n8 (hs:=(am,iM g nm qn)::jK) (s':={aq with gens:=s.gens,heap:=h'}) F (λb o jG e=>hk b o (hp.keep b o (λq=>jG (WS _ q)) e)) F.gens hp.os;exact hP ey aq.gens _ fD rfl (λG hG=>un.1.y4 (γ:=(aq.setGen g .finished).gens) hG) un.2
end
end
noncomputable section
section
variable{A:Zw}{Γ iZ:Array Zx->Prop}{X Y Z:Fx}{ρ:Loc}{O OL O':af}{ys:List AV}{K:GK}{k:AV->af->Prop}{pos jR:XY}{s:Z6}
theorem td{α:Type}{l:List α}{i:Nat}(h:i<l.length):l.drop i=l[i]::l.drop (i+1):=Yx h
theorem abe{am:Z1}{g:Nat}{hs:List (Z1×Zp)}{E:Z3->Z6->Prop}(a9:Z.A.depth<ZV)(iy:∀γ,Γ γ->γ[g]?=Z7 .running)(hG:∀γ cW,Γ γ->cW.bare=ZW->Z.G (γ.setIfInBounds g cW))(hz:ys.length<=Y8)(F:Fr Z ρ (bf hs++O) s)(H:mj Z.A.in1.in1.in1 Γ Z O am g ys hs s)(hk:k (.lst ys) O):ZK (model pw Z.w) Z.A (call (.type "list") [.ref am]) (dY Z ρ (bf hs++O) s k) E s:=by
 have oI:∃nm qn,s.heap.get? am=Z7 (iM g nm qn):=by obtain⟨gs,jK,nm,qn,D,h,bH,C⟩:=H;subst bH;exact kn nm qn (F.ib (.head _))
 refine j4 oI ?_;clear oI;intro nm qn oI;let Z':=Z.at Z.A.in1.in1 (show Z.A.in1.in1.handled=ZT from Z.hh);let S:=s.heap.objs.size;let J:Nat->Z6->Prop:=λi s'=>∃hs',Fr Z' ρ (bf hs'++((S,.list (ys.take i))::O)) s'/\mj Z'.A.in1 Γ Z' ((S,.list (ys.take i))::O) am g (ys.drop i) hs' s'/\aJ (ak Z (bf hs++O)) s.heap (ak Z' (bf hs'++((S,.list (ys.take i))::O))) s'.heap;let D:Z6->Prop:=λs'=>Fr Z' ρ ((S,.list ys)::O) s'/\aJ (ak Z (bf hs++O)) s.heap (ak Z' ((S,.list ys)::O)) s'.heap;have eG:Z'.sG Z'.G=Z':=rfl;refine DJ (T:="generator") (n:=ys.length) (J:=J) (D:=D) oI rfl (by decide) (by decide) PySem.F.gen_no_len PySem.F.gen_no_hint (λA E s' Q e q=>wpAny_pyIter_gen (g:=g) (jM _ nm qn e rfl rfl rfl) q) ⟨λi s' Q E hi hJ hQ=>?_,λs' Q E hJ hQ=>?_⟩ hz (λh' c cP hg=>?_) (λs' hD=>?_)
 ·refine dE hJ ?_;clear hJ;intro hs' F' H' aW;refine vM (Z:=Z') a9 iy F' H' (λy ba v γ cW bU aq ey hb fD eg hF aI rv H₁=>?_) (λe=>?_)
  ·replace ey:=(td hi)▸ey;injection ey with e1 e2;subst e1 e2;have aw:=hF Z'.G (by exists eg;exact hG γ cW fD hb);replace aw:=eG▸aw;refine kP (aw.fL (Zl _ (.head _))) λbI c g8 qJ=>?_;refine hQ v aq bI c g8 (by exists qJ.size;exists Zi;exact(ar 0x2 0xc883a0d041) hi) λh4 c4 qN g9=>⟨bU,?_⟩;have B7:bb (ak Z' (bf bU++((S,.list (ys.take i))::O))) aq.heap (bI.push v).toList (ys.take (i+1)):=by exists WU;exists YX;exists Z0 hi;exact qJ.append (.cons rv .nil)
   have hm:(S,aQ.list (ys.take i))∈bf bU++((S,.list (ys.take i))::O):=Zl _ (.head _);have jv:=aw.update (tk:=aq.toks) (ao:=.list (ys.take (i+1))) hm qN g9 (dT _ _ rfl B7);have jp:=aw.iF (ao:=.list (ys.take (i+1))) hm (λb o hb e=>(qN.2 b hb).trans e);have yJ:bp (bf bU++((S,.list (ys.take i))::O)) S (.list (ys.take (i+1)))=bf bU++((S,.list (ys.take (i+1)))::O):=gk aw.nd;rw[yJ]at jv jp;exact bM jv (H₁.move rfl rfl rfl jp) ((aW.trans aI).trans jp)
  ·replace e:=(td hi)▸e;cases e
 ·refine dE hJ ?_;clear hJ;intro hs' F' H' aW;rw[Yn]at F' H' aW;replace H':=Vn▸H';refine vM (Z:=Z') a9 iy F' H' (λy ba v γ cW bU aq ey=>(nomatch ey)) (λC γ aq fD eg hF aI=>hQ aq ⟨?_,aW.trans aI⟩);have aw:=hF Z'.G (by exists eg;exact hG γ _ fD rfl);replace aw:=eG▸aw;exact aw
 ·refine aO (Fr.EV (tk:=s.toks) (ao:=.list []) F cP (fY _) hg (dT _ _ rfl (.nil))) λF' aW=>?_;refine aO (Cv.perm (TW (a:=(S,aQ.list [])) (l₁:=bf hs) (l₂:=O)).symm _ F') λaS aY=>?_;exact cQ hs aS.at (H.move rfl rfl rfl (aW.trans aY)) (aW.trans aY)
 ·refine aO hD ?_;clear hD;intro F' aW;refine f8 F'.uv.JB λaS aY cK=>?_;exact⟨_,O,aS,aW.trans aY,cK,hk⟩
end
end
noncomputable section
section
variable{A:Zw}{Γ iZ:Array Zx->Prop}{X Y Z:Fx}{ρ:Loc}{O OL O':af}{ys:List AV}{K:GK}{pos jR:XY}{s:Z6}
def xX(A:Zw)(Γ:Array Zx->Prop)(X:Fx)(tg:Zt)(body:List Y4)(Inv:List AV->Fx->Loc->af->List AV->Prop):Prop:=∀y yi X' ρ' O' ba hs cc,cM X X'->dZ Γ X'->Inv (y::yi) X' ρ' O' ba->Tg (X'.holds hs cc) ρ' O' tg y λeU=>bq A Γ (X'.holds hs cc) eU O' body ba ⟨λZ cz ag gX=>Z.G=X'.G/\∀bx cu,Z=Fx.holds bx hs cu->Inv yi bx cz ag gX,λC C C C=>False,λC C C C=>False,λZ cz ag gX=>Z.G=X'.G/\∀bx cu,Z=Fx.holds bx hs cu->Inv yi bx cz ag gX⟩
theorem Ot{tg:Zt}{body:List Y4}{am:Z1}{g:Nat}{b9:List Z1}{be:YQ}{c:Ue}{fs:List UI}{k:Wb->SV Xw}{gd:Bool->Bool}{lv:List Z3}{p:XY}(pl:Pl A X.A c fs gd)(a9:X.A.depth<ZV)(z0:∀it v,Wv tg it v=pure ())(iy:∀γ,iZ γ->γ[g]?=Z7 .running)(gA:∀γ cW,iZ γ->cW.bare=ZW->Γ (γ.setIfInBounds g cW))(Inv:List AV->Fx->Loc->af->List AV->Prop)(oU:∀yi X ρ O ys G,Inv yi X ρ O ys->Inv yi (X.sG G) ρ O ys)(step:xX A Γ X tg body Inv)(fin:∀X' ρ' O' ba,dZ Γ X'->Inv [] X' ρ' O' ba->K.nx X' ρ' O' ba)(uh:∀X' ρ' O' ba fl s',cM X X'->Fr X' ρ' O' s'->aJ b9 be (ak X' O') s'.heap->K.at fl X' ρ' O' ba s'->SG A c (k (.ok fl)) fs s' X.w (i8 A Γ ba X')):∀(yi:List AV)X' ρ' O' ba hs s,cM X X'->Fr X' ρ' (bf hs++O') s->mj X.A.in1 iZ X' O' am g yi hs s->aJ b9 be (ak X' (bf hs++O')) s.heap->Inv yi X' ρ' O' ba->SG A (.forLoop tg (.ref am) body [] X.env) (denote table (.forLoop tg (.ref am) body [] X.env)) (.ret k ZT (gd ZS) lv c p []::fs) s X.w (i8 A Γ ba X'):=by intro yi;induction yi with
 |nil=>intro X' ρ' O' ba hs s sm F H sb pg;have lz:=pl.push (c':=.forLoop tg (.ref am) body [] X.env) (k:=k) (l:=lv) (p:=p) (kp:=[]) rfl rfl rfl rfl;show SG A _ ((PH tg (.ref am) body [] X.env).onRaise (λx=>do Se x X.env;U2 x)) _ s X.w _;rw[WO];refine gw rfl (YW ?_);refine gw lz.over ?_;refine T0 ?_;have d:=λQ E hP=>vM (Z:=X') (Γ:=iZ) (ys:=[]) (Q:=Q) (E:=E) (by exists sm.A;exact a9) iy F (by exists sm.A;exact H) (λy ba v γ cW hs' s' ey=>(nomatch ey)) hP;replace d:=sm.A▸sm.w▸d;refine d _ _ λC γ aq fD eg hF aI=>?_;have gn:dZ Γ (X'.sG λg=>g=aq.gens):=aj aq.gens rfl (by exists eg;exact gA γ _ fD rfl);have co:gY X' (X'.sG λg=>g=aq.gens):=⟨rfl,rfl,rfl,rfl,rfl,rfl,rfl⟩;have fO:cM X (X'.sG λg=>g=aq.gens):=⟨sm.w,sm.A,sm.env,sm.held,sm.wr,sm.os⟩;exact E5 (Yy (uh (X'.sG λg=>g=aq.gens) ρ' O' ba .next aq fO (hF _ rfl) (sb.trans aI) (fin _ _ _ _ gn (oU _ _ _ _ _ _ pg))) λe s h=>h.core co);|cons y yi ih=>
  intro X' ρ' O' ba hs s sm F H sb pg;have lz:=pl.push (c':=.forLoop tg (.ref am) body [] X.env) (k:=k) (l:=lv) (p:=p) (kp:=[]) rfl rfl rfl rfl;show SG A _ ((PH tg (.ref am) body [] X.env).onRaise (λx=>do Se x X.env;U2 x)) _ s X.w _;rw[WO];refine gw rfl (YW ?_);refine gw lz.over ?_;refine T0 ?_;have d:=λQ E hY=>vM (Z:=X') (Γ:=iZ) (ys:=y::yi) (Q:=Q) (E:=E) (by exists sm.A;exact a9) iy F (by exists sm.A;exact H) hY (λe=>(nomatch e));replace d:=sm.A▸sm.w▸d;refine d _ _ λy' yi' v γ cW bU dJ ey hb fD eg hF sk rv xY=>?_;injection ey with e1 e2;subst e1 e2;dsimp only;have gn:dZ Γ (X'.sG λg=>g=dJ.gens):=aj dJ.gens rfl (by exists eg;exact gA γ _ fD hb);have co:gY X' (X'.sG λg=>g=dJ.gens):=⟨rfl,rfl,rfl,rfl,rfl,rfl,rfl⟩;have fO:cM X (X'.sG λg=>g=dJ.gens):=⟨sm.w,sm.A,sm.env,sm.held,sm.wr,sm.os⟩;have gJ:=hF (λg=>g=dJ.gens) rfl;have aaq:=oU _ _ _ _ _ (λg=>g=dJ.gens) pg;rw[show ak X'=ak (X'.sG λg=>g=dJ.gens)from rfl]at sk rv;have sb:aJ b9 be (ak (X'.sG λg=>g=dJ.gens) (bf hs++O')) s.heap:=sb;have xY:mj X.A.in1 iZ (X'.sG λg=>g=dJ.gens) O' am g yi bU dJ:=xY.move rfl rfl rfl (.refl _ _);have eG:(X'.sG λg=>g=dJ.gens).G=λg=>g=dJ.gens:=rfl;refine Yy (P:=i8 A Γ ba (X'.sG λg=>g=dJ.gens)) ?_ λe s h=>h.core co;clear F H hF co pg sm gn;have gn:dZ Γ (X'.sG λg=>g=dJ.gens):=aj dJ.gens rfl (by exists eg;exact gA γ _ fD hb);generalize X'.sG (λg=>g=dJ.gens)=X' at*;have sm:=fO;rw[z0];refine gw rfl (Z5 ?_);refine gw lz.over ?_;have cc:=gJ.we;have ta:=step y yi X' ρ' O' ba bU cc sm gn aaq (λC C=>False) dJ v (gJ.toHolds cc) (rv.move o0);replace ta:=(show(X'.holds bU cc).env=X.env from sm.env)▸(show(X'.holds bU cc).A=X.A from sm.A)▸(show(X'.holds bU cc).w=X.w from sm.w)▸ta;refine X5 ta (λC ig bS=>dE bS λu5 fR kE nG=>?_) λC C x=>x.elim;rw[Xh,WR];have BW:Pl A (X'.holds bU cc).A (.forLoop tg (.ref am) body [] X.env) (.ret k ZT (gd ZS) lv c p []::fs) id:=by exists(show(X'.holds bU cc).A=X.A from sm.A);exact lz
  have core:gY X' (X'.holds bU cc):=⟨rfl,rfl,rfl,rfl,rfl,rfl,rfl⟩;have rO:=nG (.forLoop tg (.ref am) body [] X.env) (.ret k ZT (gd ZS) lv c p []::fs);replace rO:=(show(X'.holds bU cc).w=X.w from sm.w)▸(show(X'.holds bU cc).env=X.env from sm.env)▸rO;refine Yy (rO _ _ _ _ ig BW fR λZ jt fA n9 fl fP pF jv jp hk=>?_) λe s h=>h.core core;obtain⟨bx,cu,rfl,uL⟩:=n8 pF;have mX:Fr bx jt (bf bU++fA) fP:=jv.pD;have uJ:=sm.trans uL;have I1:aJ (ak X' (bf bU++O')) dJ.heap (ak bx (bf bU++fA)) fP.heap:=((o0.trans kE).trans jp).trans qQ;have sa:aJ b9 be (ak bx (bf bU++fA)) fP.heap:=(sb.trans sk).trans I1;have s0:gY (bx.holds bU cu) bx:=⟨rfl,rfl,rfl,rfl,rfl,rfl,rfl⟩;have again:(bx.holds bU cu).G=X'.G/\(∀yk Me,bx.holds bU cu=Fx.holds yk bU Me->Inv yi yk jt fA n9)->SG A (.forLoop tg (.ref am) body [] X.env) (.pure (.again (.forLoop tg (.ref am) body [] X.env))) (.ret k ZT (gd ZS) lv c p []::fs) fP X.w (i8 A Γ n9 (bx.holds bU cu)):=λb5=>aO b5 λq1 q2=>by
   have ME:fP.gens=dJ.gens:=by have z:bx.G fP.gens:=mX.gens;have q1:bx.G=X'.G:=q1;replace z:=eG▸q1▸z;exact z
   exact Uh pw X.w A _ _ _ fP (.forLoop tg (.ref am) body [] X.env) rfl (Yy (ih bx jt fA n9 bU fP uJ mX (xY.move uL.w uL.os ME I1) sa (q2 bx cu rfl)) λe s h=>h.core s0)
  cases fl with|next=>exact again hk;|cont=>exact again hk;|brk=>exact hk.elim;|ret v=>refine aR hk ?_;clear hk;intro a r q;exact q.elim
end
end
noncomputable section
section
variable{A:Zw}{Γ iZ:Array Zx->Prop}{X Y Z:Fx}{ρ:Loc}{O OL O':af}{ys:List AV}{K:GK}{pos jR:XY}{s:Z6}
inductive xW(A:Zw)(Γ:Array Zx->Prop)(X:Fx)(ρ:Loc)(O:af)(s:Z6)(tg:Zt)(body:List Y4)(K:GK)(ys:List AV)(x:Z3)(aq:Z6):Prop|mk(am g hs ag iZ yi Inv)(e:x=.ref am)(aw:Fr (X.sG λγ=>γ=aq.gens) ρ (bf hs++ag) aq)(aI:aJ (ak X O) s.heap (ak X (bf hs++ag)) aq.heap)(GH:mj X.A.in1 iZ X ag am g yi hs aq)(iy:∀γ,iZ γ->γ[g]?=some .running)(gA:∀γ cW,iZ γ->cW.bare=true->Γ (γ.setIfInBounds g cW))(oU:∀yi X ρ O ys G,Inv yi X ρ O ys->Inv yi (X.sG G) ρ O ys)(h0:Inv yi X ρ ag ys)(step:xX A Γ X tg body Inv)(fin:∀X' ρ' O' ba,dZ Γ X'->Inv [] X' ρ' O' ba->K.nx X' ρ' O' ba):xW A Γ X ρ O s tg body K ys x aq
theorem cU.NP{tg bX:Zt}{body:List Y4}(hf:∀x,XV bX X.env x=pure x)(a9:X.A.depth<ZV)(z0:∀it v,Wv tg it v=pure ())(h:∀E s,Fr X ρ O s->ZK (model pw X.w) X.A (eval bX X.env) (xW A Γ X ρ O s tg body K ys) E s):cU A Γ X ρ O (.For tg bX body [] pos) ys K:=by
 unfold cU;rw[arm_exec_For];refine GM.at λc fs Kf H gd lv s pl F k=>?_;refine gw pl.over ?_;refine wm (h _ s F) (λx aq q=>?_);obtain⟨am,g,hs,ag,iZ,yi,Inv,rfl,aw,aI,GH,iy,gA,oU,h0,step,fin⟩:=q;have oI:∃nm qn,aq.heap.get? am=Z7 (iM g nm qn):=by obtain⟨gs,jK,nm,qn,D,h,b6,C⟩:=GH;subst b6;exact kn nm qn (aw.ib (.head _))
 refine j4 oI ?_;clear oI;intro nm qn oI;rw[hf];refine gw rfl (Z5 ?_);refine gw rfl (YW ?_);refine gw rfl (ZL ?_);refine wpAny_pyIter_gen (g:=g) (jM _ nm qn oI rfl rfl rfl) ?_;refine QV pw X.w A c fs _ _ (.forLoop tg (.ref am) body [] X.env) ZT (gd ZS) (lv []) _ λp=>?_;have co:gY X (X.sG λγ=>γ=aq.gens):=⟨rfl,rfl,rfl,rfl,rfl,rfl,rfl⟩;exact Yy (Ot (A:=A) (Γ:=Γ) (iZ:=iZ) (X:=X) (K:=K) pl a9 z0 iy gA Inv oU step fin (λX' ρ' O' ba fl s' sm F' aW hk=>k X' ρ' O' ba fl s' sm F' (aI.trans aW) hk) yi (X.sG λγ=>γ=aq.gens) ρ ag ys hs aq ⟨rfl,rfl,rfl,rfl,λh=>h,rfl⟩ aw (GH.move rfl rfl rfl (.refl _ _)) (.refl _ _) (oU _ _ _ _ _ _ h0)) λe s h=>h.core co
end
end
noncomputable section
variable{X Y:Fx}{ρ aZ:Loc}{O O':af}{k:AV->af->Prop}
theorem Dw(P:Zr):(aP P).get? 218=Z7 us:=by kernel_rfl
theorem KH(P:Zr):(aP P).get? 217=Z7 Bt:=by kernel_rfl
noncomputable def eqT:ZU:=Z9 "equal"
noncomputable def cO(n:Nat)(o:Op):Op:=if o.t=eqT then⟨o.t,max o.i1 (o.i2-n),o.i2,max o.j1 (o.j2-n),o.j2⟩else o
noncomputable def dy(n:Nat)(o:Op):Op:=if o.t=eqT then⟨o.t,o.i1,min o.i2 (o.i1+n),o.j1,min o.j2 (o.j1+n)⟩else o
noncomputable def lH(n:Nat):List Op->List Op
 |[]=>[]|o::l=>cO n o::l
noncomputable def gH(n:Nat)(l:List Op):List Op:=match l.getLast? with
 |none=>l|some o=>l.set (l.length-1) (dy n o)
noncomputable def du(n:Nat):List Op->List Op->List (List Op)
 |g,[]=>if g=[]\/(g.length=1/\∀o∈g,o.t=eqT)then[]else[g]|g,c::cs=>if c.t=eqT/\2*n<c.i2-c.i1 then(g++[dy n c])::du n [cO n c] cs else du n (g++[c]) cs
theorem y6(n:Nat)(g:List Op)(c:Op)(cs:List Op):du n g (c::cs)=if c.t=eqT/\2*n<c.i2-c.i1 then(g++[dy n c])::du n [cO n c] cs else du n (g++[c]) cs:=rfl
noncomputable def dS(n:Nat)(l:List Op):List (List Op):=du n [] (gH n (lH n l))
noncomputable def kX(g:List Op):AV:=.lst (g.map bL)
theorem wz(a b n:Nat):max (a:Int) ((b:Int)-(n:Int))=((max a (b-n):Nat):Int):=by exact au 0x43 0xedab21845590c22
theorem wB(a b n:Nat):min (a:Int) ((b:Int)+(n:Int))=((min a (b+n):Nat):Int):=by exact au 0x2 0xeda911883488c41
noncomputable def nq(x cd:Z1)(n:Nat):Loc:=[(Z9 "codes",.ref cd),(Z9 "self",.ref x),(Z9 "n",.int n)]
noncomputable def iO:List Y4:=aV fV
theorem Ol{x cd L:Z1}{n:Nat}{l:List Op}{R:af}{K:Kn}(ok:Ok Y (λx=>(aT fV).names.lookup x) bK)(eL:Y.env=Zf (Z9 "SequenceMatcher.get_grouped_opcodes") (aT fV) L 218 (ZB 217))(hl:l≠[])(h:∀ρ',Sub (nq x cd n) ρ'->K.nx ρ' (bR cd (lH n l) R)):Es Y (nq x cd n) (bR cd l R) (bB iO 3) K:=by
 obtain⟨o,l,rfl⟩:∃o l',l=o::l':=by cases l with|nil=>exact absurd rfl hl|cons o l=>exact kn o l rfl
 refine Es.nodup λnd=>?_;refine lR ok eL 20 _ _ _ _ ?_;have hm:(cd,aQ.list ((o::l).map bL))∈bR cd (o::l) R:=.head _;have uS:∀{k:AV->af->Prop}{p1 p2 p3},k (bL o) (bR cd (o::l) R)->Ev Y (nq x cd n) (bR cd (o::l) R) (.Subscript (.Name (Z9 "codes") p1) (.Constant (.int 0) 0 p2) p3) k:=λhk=>Ev.sub (Ev.aE ok rfl (Ev.int (Ix.list trivial (.inr (aj cd rfl hm)) (by decide) (by decide) (x:=bL o) rfl hk)));refine⟨Ev.sub (uS (Ev.int (Ix.tup (j:=0) trivial (by decide) (by decide) rfl rfl ?_)))⟩;refine ZP (λc=>?_) (λc=>?_)
 ·have c:o.t=eqT:=eq_of_beq c;refine aC.mk (uS ?_);refine aC.mk (Mine.Internal.b8.GJ (Ev.aE ok rfl (Ev.int ⟨cd,(o::l).map bL,0,rfl,.inl ⟨rfl,rfl⟩,hm,by simp,?_⟩)));rw[wz,wz];have e1:lH n (o::l)=⟨o.t,max o.i1 (o.i2-n),o.i2,max o.j1 (o.j2-n),o.j2⟩::l:=by show cO n o::l=_;unfold cO;exact bG (if_pos c) rfl
  rw[e1]at h;exists(show bp (bR cd (o::l) R) cd (.list (((o::l).map bL).set 0 (AV.tup [AV.str o.t,AV.int ↑(max o.i1 (o.i2-n)),AV.int ↑o.i2,AV.int ↑(max o.j1 (o.j2-n)),AV.int ↑o.j2])))=bR cd (⟨o.t,max o.i1 (o.i2-n),o.i2,max o.j1 (o.j2-n),o.j2⟩::l) R from gk (A:=[]) (B:=R) nd);exact h _ (cq.ok (by kernel_rfl))
 ·have c:¬o.t=eqT:=λq=>by have:(o.t==Z9 "equal")=ZW:=beq_iff_eq.mpr q;exact absurd (this.symm.trans c) (by decide)
  have e:lH n (o::l)=o::l:=by show cO n o::l=_;unfold cO;exact bG (if_neg c) rfl
  rw[e]at h;exact h _ (Sub.refl _)
theorem CH(n:Nat)(l:List Op)(o:Op):gH n (l++[o])=l++[dy n o]:=by unfold gH;exists U9;dsimp only;rw[ZQ,Y7,WF,SY _ _ (ZO _),Ti];rfl
theorem Om{x cd L:Z1}{n:Nat}{l:List Op}{R:af}{K:Kn}(ok:Ok Y (λx=>(aT fV).names.lookup x) bK)(eL:Y.env=Zf (Z9 "SequenceMatcher.get_grouped_opcodes") (aT fV) L 218 (ZB 217))(hl:l≠[])(hz:l.length<=5000)(h:∀ρ',Sub (nq x cd n) ρ'->K.nx ρ' (bR cd (gH n l) R)):Es Y (nq x cd n) (bR cd l R) (bB iO 4) K:=by
 obtain⟨l,o,rfl⟩:∃l' o,l=l'++[o]:=kn l.dropLast (l.getLast hl) ((U1 hl).symm);rw[CH]at h;refine Es.nodup λnd=>?_;refine lR ok eL 20 _ _ _ _ ?_;have hm:(cd,aQ.list ((l++[o]).map bL))∈bR cd (l++[o]) R:=.head _;rw[ZQ,Y7]at hz;have neg:∀{ρ:Loc}{O:af}{k:AV->af->Prop}{p2 p3:XY},k (.int (-1)) O->Ev Y ρ O (.UnaryOp .USub (.Constant (.int 1) 0 p2) p3) k:=λhk=>Ev.un (Ev.int (Un.neg hk));have uS:∀{k:AV->af->Prop}{p1 p2 p3 p4},k (bL o) (bR cd (l++[o]) R)->Ev Y (nq x cd n) (bR cd (l++[o]) R) (.Subscript (.Name (Z9 "codes") p1) (.UnaryOp .USub (.Constant (.int 1) 0 p2) p4) p3) k:=λhk=>Ev.sub (Ev.aE ok rfl (neg (Ix.last trivial (.inr (aj cd rfl hm)) (by rw[Z4,ZQ,Y7];exact(aD 0x2 0x6130ec0af889e1e06018060180601806018060180601815f6889e1) hz) (x:=bL o) (by rw[ZJ];exact U9 ..) hk)));refine aC.mk (Ev.sub (uS (Ev.int (Ix.tup (j:=0) trivial (by decide) (by decide) rfl rfl ?_))));refine ZP (λc=>?_) (λc=>?_)
 ·have c:o.t=eqT:=eq_of_beq c;refine aC.mk (uS ?_);refine aC.mk (Mine.Internal.b8.GJ (Ev.aE ok rfl (neg ⟨cd,(l++[o]).map bL,_,rfl,.inr ⟨rfl,rfl⟩,hm,by simp,?_⟩)));rw[wB,wB];have e1:dy n o=⟨o.t,o.i1,min o.i2 (o.i1+n),o.j1,min o.j2 (o.j1+n)⟩:=by unfold dy;exact bG (if_pos c) rfl
  have e2:((l++[o]).map bL).set (((l++[o]).map bL).length-1) (bL ⟨o.t,o.i1,min o.i2 (o.i1+n),o.j1,min o.j2 (o.j1+n)⟩)=(l++[(⟨o.t,o.i1,min o.i2 (o.i1+n),o.j1,min o.j2 (o.j1+n)⟩:Op)]).map bL:=by rw[Z4,ZQ,Y7,WF,ZJ,ZJ,SY _ _ (by rw[Z4];exact ZO _),Z4,Ti];rfl
  rw[e1]at h;show Kn.nx _ _ (bp (bR cd (l++[o]) R) cd (.list (((l++[o]).map bL).set (((l++[o]).map bL).length-1) (bL ⟨o.t,o.i1,min o.i2 (o.i1+n),o.j1,min o.j2 (o.j1+n)⟩))));exists e2;exists(show bp (bR cd (l++[o]) R) cd (.list ((l++[(⟨o.t,o.i1,min o.i2 (o.i1+n),o.j1,min o.j2 (o.j1+n)⟩:Op)]).map bL))=bR cd (l++[⟨o.t,o.i1,min o.i2 (o.i1+n),o.j1,min o.j2 (o.j1+n)⟩]) R from gk (A:=[]) (B:=R) nd);exact h _ (cq.ok (by kernel_rfl))
 ·have c:¬o.t=eqT:=λq=>by have:(o.t==Z9 "equal")=ZW:=beq_iff_eq.mpr q;exact absurd (this.symm.trans c) (by decide)
  have e:dy n o=o:=by unfold dy;exact bG (if_neg c) rfl
  rw[e]at h;exact h _ (Sub.refl _)
end
noncomputable section
variable{A:Zw}{Γ:Array Zx->Prop}{X Y:Fx}{ρ aZ:Loc}{O O':af}{k:AV->af->Prop}
theorem Ok.same{kd gt}(ok:Ok X kd gt)(sm:cM X Y):Ok Y kd gt:=by
 refine⟨λx h=>?_,λx g h1 h2=>?_,?_⟩
 ·refine ZR (ok.loc x h) (λq=>?_) (λbJ=>f8 bJ λq1 q2 q3=>?_);·exact .inl (by exists sm.env;exact q)
  ·exact .inr (by exists sm.env;exact bM q1 (sm.wr q2) q3)
 ·refine aO (ok.glob x g h1 h2) λq1 q2=>?_;refine⟨?_,by exists sm.w;exact q2⟩;unfold Ld at q1⊢;exists sm.w;exists sm.A;exists sm.env;exact q1
 ·exists sm.env;exact ok.pW
noncomputable def jc(gp:Z1)(n:Nat)(ls:List Op):Loc:=[(Z9 "group",.ref gp),(Z9 "nn",.int (n+n)),(Z9 "codes",.lst (ls.map bL)),(Z9 "n",.int n)]
noncomputable def mw(c:Op)(ρ:Loc):Loc:=(Z9 "j2",.int c.j2)::(Z9 "j1",.int c.j1)::(Z9 "i2",.int c.i2)::(Z9 "i1",.int c.i1)::(Z9 "tag",.str c.t)::ρ
theorem E3{gp L:Z1}{n:Nat}{ls g:List Op}{c:Op}{R:af}{K:GK}{ys:List AV}{ρ:Loc}(ok:Ok Y (λx=>(aT fV).names.lookup x) bK)(eL:Y.env=Zf (Z9 "SequenceMatcher.get_grouped_opcodes") (aT fV) L 218 (ZB 217))(hz:g.length<=2000)(hs:Sub (mw c (jc gp n ls)) ρ)(h:∀ρ',Sub (jc gp n ls) ρ'->K.nx Y ρ' (bR gp (g++[c]) R) ys):bq A Γ Y ρ (bR gp g R) ((eH (bB iO 7)).drop 1) ys K:=by refine GM.cv (Cv.sub hs) (bq.run (b1:=(eH (bB iO 7)).drop 1) (b2:=[]) ok eL ?_);have hm:(gp,aQ.list (g.map bL))∈bR gp g R:=.head _;refine aC.mk (Ev.fU Zb Za rfl rfl rfl (Ev.aE ok rfl ⟨⟨_,.inr (aj gp rfl hm)⟩,bO ok (n:=5) ?_⟩));refine aG.nodup λnd=>aG.append hm (by rw[Z4,Zs];exact(aD 0x2 0xc461f809e1c060180601845e1) hz) ?_;show Kn.nx _ _ (bp (bR gp g R) gp (aQ.list (g.map bL++[bL c])));exists(show bp (bR gp g R) gp (.list (g.map bL++[bL c]))=bR gp (g++[c]) R by rw[pu];exact gk (A:=[]) (B:=R) nd);exact bq.nil (h _ (cq.ok (by kernel_rfl)))
noncomputable def y5:List Y4:=pK (bB (eH (bB iO 7)) 0)
theorem Oo{gp L:Z1}{n:Nat}{ls g cs:List Op}{c:Op}{R:af}{K:GK}(ok:Ok Y (λx=>(aT fV).names.lookup x) bK)(eL:Y.env=Zf (Z9 "SequenceMatcher.get_grouped_opcodes") (aT fV) L 218 (ZB 217))(gn:dZ Γ Y)(hz:g.length<=1500)(h:∀Z ρ' jb g',cM Y Z->Z.G=Y.G->Sub (jc jb n ls) ρ'->g'.length<=g.length+1->K.nx Z ρ' (bR jb g' R) ((du n g' cs).map kX)):bq A Γ Y (mw c (jc gp n ls)) (bR gp g R) (eH (bB iO 7)) ((du n g (c::cs)).map kX) K:=by
 have Jd:¬(c.t=eqT/\2*n<c.i2-c.i1)->bq A Γ Y (mw c (jc gp n ls)) (bR gp g R) ((eH (bB iO 7)).drop 1) ((du n g (c::cs)).map kX) K:=λq=>by exists(show du n g (c::cs)=du n (g++[c]) cs from if_neg q);exact E3 ok eL ((aD 0x2 0xc760f809e1c461f809e1) hz) (Sub.refl _) λρ' hs=>h Y ρ' gp (g++[c]) (.refl _) rfl hs (by exists ZQ;exact ZO _)
 refine bq.cons (cU.ite (d5 ok (n:=10) ?_));refine ZP (λc1=>?_) (λc1=>?_)
 ·have c1:c.t=eqT:=eq_of_beq c1;refine ZP (λc2=>?_) (λc2=>?_)
  ·have c2:2*n<c.i2-c.i1:=by have:=of_decide_eq_true c2;exact(au 0x3 0x724314421cc8629846f) this
   exists(show du n g (c::cs)=(g++[dy n c])::du n [cO n c] cs from if_pos ⟨c1,c2⟩);have e1:dy n c=⟨c.t,c.i1,min c.i2 (c.i1+n),c.j1,min c.j2 (c.j1+n)⟩:=by unfold dy;exact bG (if_pos c1) rfl
   have e2:cO n c=⟨c.t,max c.i1 (c.i2-n),c.i2,max c.j1 (c.j2-n),c.j2⟩:=by unfold cO;exact bG (if_pos c1) rfl
   refine⟨λC=>?_,λz=>(nomatch z)⟩;refine bq.run (b1:=y5.take 1) (b2:=y5.drop 1) ok eL ?_;have hm:(gp,aQ.list (g.map bL))∈bR gp g R:=.head _;refine aC.mk (Ev.fU Zb Za rfl rfl rfl (Ev.aE ok rfl ⟨⟨_,.inr (aj gp rfl hm)⟩,bO ok (n:=5) ?_⟩));refine aG.nodup λnd=>aG.append hm (by rw[Z4,Zs];exact(aD 0x2 0xc760f809e1c060180601845e1) hz) ?_;rw[wB,wB];show Kn.nx _ _ (bp (bR gp g R) gp (aQ.list (g.map bL++[bL ⟨c.t,c.i1,min c.i2 (c.i1+n),c.j1,min c.j2 (c.j1+n)⟩])));rw[show bp (bR gp g R) gp (.list (g.map bL++[bL ⟨c.t,c.i1,min c.i2 (c.i1+n),c.j1,min c.j2 (c.j1+n)⟩]))=bR gp (g++[dy n c]) R by rw[pu,e1];exact gk (A:=[]) (B:=R) nd];refine bq.cons (GM.cv (Cv.p9.trans (Cv.sub (ρ':=(Z9 "group",.lst ((g++[dy n c]).map bL))::mw c (jc gp n ls).tail) ?_)) (cU.yield gn (by exists eL;rfl) (Ev.aE ok rfl ⟨rfl,λX' sm eG=>?_⟩)));·unfold me mw jc;simp only[Z2,YS,sI,sF,sH,sJ,if_pos,List.tail_cons];exact cq.ok (by kernel_rfl)
   ·have gD:=ok.same sm;have f7:=sm.env.trans eL;refine bq.run (b1:=y5.drop 2) (b2:=[]) gD f7 ?_;refine aC.mk (Ev.list (.nil ⟨ZI _,λjb C=>?_⟩));(conv=>whnf);rw[wz,wz];refine bq.nil (E3 (gp:=jb) (ls:=ls) (n:=n) (g:=[]) (c:=cO n c) gD f7 (ZI _) ?_ λρ' hs=>h X' ρ' jb [cO n c] sm eG hs (by rw[Y7];exact aD 0x22 0x62227844f));exists e2;exact cq.ok (by kernel_rfl)
  ·have c2:¬2*n<c.i2-c.i1:=by have:=of_decide_eq_false c2;exact(au 0x43 0x1ee48618885ecc8619886f) this
   refine⟨λz=>(nomatch z),λC=>?_⟩;exact bq.nil (Jd λz=>c2 z.2)
 ·have c1:¬c.t=eqT:=λq=>by have:(c.t==Z9 "equal")=ZW:=beq_iff_eq.mpr q;exact absurd (this.symm.trans c1) (by decide)
  refine⟨λz=>(nomatch z),λC=>?_⟩;exact bq.nil (Jd λz=>c1 z.1)
end
noncomputable section
variable{A:Zw}{Γ:Array Zx->Prop}{X Y:Fx}{ρ aZ:Loc}{O O':af}{k:AV->af->Prop}
theorem cM.pD{hs:List (Z1×Zp)}{c c'}(h:cM (X.holds hs c) (Y.holds hs c')):cM X Y:=⟨h.w,h.A,h.env,List.append_cancel_left (show hs++Y.held=hs++X.held from h.held),h.wr,h.os⟩
theorem Oj{gp L:Z1}{n:Nat}{ls:List Op}{R:af}{K:GK}(ok:Ok Y (λx=>(aT fV).names.lookup x) bK)(eL:Y.env=Zf (Z9 "SequenceMatcher.get_grouped_opcodes") (aT fV) L 218 (ZB 217))(gn:dZ Γ Y)(hz:ls.length<=1500)(h:∀Z ρ' jb g',cM Y Z->Z.G=Y.G->Sub (jc jb n ls) ρ'->g'.length<=ls.length->K.nx Z ρ' (bR jb g' R) ((du n g' []).map kX)):cU A Γ Y (jc gp n ls) (bR gp [] R) (bB iO 7) ((du n [] ls).map kX) K:=by
 refine cU.forL (λC=>rfl) (Ev.aE ok rfl ⟨_,rfl,λi X' ρ' O' ba=>∃jb g',cM Y X'/\X'.G=Y.G/\Sub (jc jb n ls) ρ'/\O'=bR jb g' R/\g'.length<=i/\ba=(du n g' (ls.drop i)).map kX,(pe gp ([]) (.refl _) rfl (Sub.refl _) rfl (ZI _) rfl),?_,?_⟩)
 ·rintro i av X' ρ' O' ba hs cc sm aN⟨jb,g',fO,eG,bh,rfl,hl,rfl⟩;have hi:i<ls.length:=by have:=(Zo.mp aN).1;simpa using this
  have e2:av=bL ls[i]:=by replace aN:=(Z0 hi)▸ZN▸aN;exists Y1 aN;rfl
  exists e2;have gD:=(ok.same sm).holds (hs:=hs) (c:=cc);have f7:(X'.holds hs cc).env=_:=sm.env.trans eL;have oQ:dZ Γ (X'.holds hs cc):=by refine aR gn ?_;clear gn;intro γ q1 q2;exact aj γ (eG.trans q1) q2
  refine Tg.ex gD ?_;exists td hi;refine GM.cv (Cv.sub ((((((bh.cc _ _).cc _ _).cc _ _).cc _ _).cc _ _))) (Oo gD f7 oQ ((au 0x4 0x31d83e0278b030e443c760f809e1) hz hl hi) λZ eU Oh NY pF te hs' nB=>?_);rintro bx cu rfl;exact pe Oh NY (fO.trans pF.pD) ((show bx.G=X'.G from te).trans eG) hs' rfl ((au 0x3 0x6043c444f1871113c41) hl nB) rfl
 ·rintro X' ρ' O' ba⟨jb,g',fO,eG,bh,rfl,hl,rfl⟩;rw[Z4]at hl;rw[Z4,Vn];exact h X' ρ' jb g' fO eG bh hl
theorem On{gp L:Z1}{n:Nat}{ls g:List Op}{R:af}(ok:Ok Y (λx=>(aT fV).names.lookup x) bK)(eL:Y.env=Zf (Z9 "SequenceMatcher.get_grouped_opcodes") (aT fV) L 218 (ZB 217))(gn:dZ Γ Y)(hz:g.length<=1500):bq A Γ Y (jc gp n ls) (bR gp g R) [bB iO 8] ((du n g []).map kX) (j6 Γ):=by
 have hm:(gp,aQ.list (g.map bL))∈bR gp g R:=.head _;have dG:((g.map bL).length:Int)<2^63:=by rw[Z4];exact(aD 0x2 0xc760f809e1e06018060180601806018060180601825e1) hz
 have done:bq A Γ Y (jc gp n ls) (bR gp g R) [] [] ⟨λX' ρ' O' ba=>bq A Γ X' ρ' O' [] ba (j6 Γ),(j6 Γ).rt,(j6 Γ).bk,(j6 Γ).ct⟩:=bq.nil (bq.nil ⟨rfl,gn⟩);have yes:du n g []=[g]->bq A Γ Y (jc gp n ls) (bR gp g R) (pK (bB iO 8)) ((du n g []).map kX) ⟨λX' ρ' O' ba=>bq A Γ X' ρ' O' [] ba (j6 Γ),(j6 Γ).rt,(j6 Γ).bk,(j6 Γ).ct⟩:=λe=>by
  exists e;refine bq.cons (GM.cv (Cv.p9.trans (Cv.sub (ρ':=[(Z9 "group",.lst (g.map bL))]) ?_)) (cU.yield gn (by exists eL;rfl) (Ev.aE ok rfl ⟨rfl,λX' sm eG=>bq.nil (bq.nil ⟨rfl,?_⟩)⟩)));·unfold me jc;simp only[Z2,YS,sI,sF,sH,sJ,if_pos];exact cq.ok (by kernel_rfl)
  ·refine aR gn ?_;clear gn;intro γ q1 q2;exact aj γ (eG.trans q1) q2
 refine bq.cons (cU.ite (d5 ok (n:=12) ?_));refine aC.mk (Tr.list (.inr (aj gp rfl hm)) dG ⟨λc0=>?_,λc0=>?_⟩)
 ·have c0:g≠[]:=λe=>by clear yes done hm dG hz;subst e;cases c0
  refine aC.mk (aG.len (.inr (aj gp rfl hm)) dG ?_);rw[Z4];refine ZP (λc1=>?_) (λc1=>?_)
  ·have c1:g.length=1:=by have:=eq_of_beq (show((g.length:Int)==1)=ZW from c1);exact(aD 0x2 0xe89e1d09e1) this
   refine br (List.length_eq_one_iff.mp c1) λo e=>?_;refine aC.mk (Ev.sub (Ev.sub (Ev.aE ok rfl (Ev.int (Ix.list trivial (.inr (aj gp rfl hm)) (by decide) (by decide) (x:=bL o) (by exists e;rfl) (Ev.int (Ix.tup (j:=0) trivial (by decide) (by decide) rfl rfl ?_)))))));refine ZP (λc2=>?_) (λc2=>?_);·have c2:o.t=eqT:=eq_of_beq c2;refine ZP (λz=>(nomatch z)) (λC=>?_);exists(show du n g []=[]from if_pos (.inr ⟨c1,λo' h=>by replace h:=e▸h;refine bG (Zv.mp h) ?_;exact c2⟩));exact⟨λz=>(nomatch z),λC=>done⟩
   ·have c2:¬o.t=eqT:=λq=>by have:(o.t==Z9 "equal")=ZW:=beq_iff_eq.mpr q;exact absurd (this.symm.trans c2) (by decide)
    refine⟨λC=>?_,λz=>(nomatch z)⟩;refine ZP (λC=>yes (if_neg ?_)) (λz=>(nomatch z));rintro(z|⟨C,z⟩);·exact c0 z
    ·exact c2 (z o (e▸.head _))
  ·have c1:¬g.length=1:=λq=>by have:((g.length:Int)==1)=ZW:=beq_iff_eq.mpr ((aD 0x2 0xd09e1e89e1) q);exact absurd (this.symm.trans c1) (by decide)
   refine⟨λC=>?_,λz=>(nomatch z)⟩;refine ZP (λC=>yes (if_neg ?_)) (λz=>(nomatch z));rintro(z|⟨z,C⟩);·exact c0 z
   ·exact c1 z
 ·have c0:g=[]:=by clear yes done hm dG hz;cases g with|nil=>rfl;|cons o g=>cases c0
  exists(show du n g []=[]from by refine bG c0 ?_;rfl);exact⟨λz=>(nomatch z),λC=>done⟩
end
noncomputable section
variable{A B:Zw}{Γ:Array Zx->Prop}{X Y:Fx}{ρ aZ:Loc}{O O':af}{k:AV->af->Prop}
theorem ae8(n:Nat)(l:List Op):(lH n l).length=l.length:=by cases l<;>rfl
theorem ae9(n:Nat)(l:List Op):(gH n l).length=l.length:=by
 unfold gH;split;·rfl
 ·exact bG List.length_set rfl
theorem dZ.of(gn:dZ Γ X)(h:Y.G=X.G):dZ Γ Y:=by refine aR gn ?_;clear gn;intro γ q1 q2;exact aj γ (h.trans q1) q2
theorem Oi{x dx:Z1}{ox:Zp}{fl:Loc}{a b:List ZU}{aA:List (ZU×AV)}{w:ZD}{n:Nat}(ah:jU B X Y (Z9 "SequenceMatcher.get_grouped_opcodes") (aT fV) (aV fV) 218 (.ref 217))(gn:dZ Γ Y)(a9:B.depth+7<ZV)(hu:B.units+10<X1)(am:gr x dx ox)(hw:w=Y.w)(F:qU w fl a b aA)(fm:fl.lookup (Z9 "matching_blocks")=Z7 .none)(fo:fl.lookup (Z9 "opcodes")=Z7 .none)(zM:fl.lookup (Z9 "get_matching_blocks")=ZT)(Pw:fl.lookup (Z9 "get_opcodes")=ZT)(hn:b.length<=1000)(fc:a.length<=1100)(lV:fl.length<=800)(hs:(dW a b).Pairwise λa b=>a.i<b.i)(fq:(dW a b).length<64)(ke:(fk a b).length<=400)(hc:cZ a b≠[]):bq B Γ Y ([Z9 "self",Z9 "n"].zip [.ref x,.int n]) (bo x dx ox fl []) (aV fV) ((dS n (cZ a b)).map kX) (j6 Γ):=by
 have ok:=ah.ok (by kernel_rfl);refine br ah.env λL eL=>?_;have qe:(cZ a b).length<=800:=ZC (BV _ _ _) (RZ 2 ke);have hd:Y.A.depth+6<ZV:=by exists ah.A;exact a9
 have jL:Y.A.units+7<X1:=by exists ah.A;exact hu
 refine bq.run (b1:=iO.take 2) (b2:=iO.drop 2) ok eL ?_;refine aC.mk (Ev.AA (f:=210) (λC=>by kernel_rfl) (Dv _) rfl rfl (y:=ZT) (by rw[Y5,Zq];kernel_rfl) rfl (Ev.aE ok rfl ⟨x,dx,_,rfl,am.inst,Pw,acX (O:=[]) hd jL am hw F fm fo zM hn fc lV hs fq ke λan gN=>?_⟩));have hm:∀{R:af}{l:List Op},(an,aQ.list (l.map bL))∈bR an l R:=λ{R l}=>.head _;show bq B Γ Y ((Z9 "codes",.ref an)::[Z9 "self",Z9 "n"].zip [.ref x,.int n]) (bR an (cZ a b) (bo x dx ox gN [])) (iO.drop 2) _ _;generalize bo x dx ox gN []=R;generalize cZ a b=l at hc qe⊢;refine bq.cons (cU.ite (d5 ok (n:=6) ?_));refine aC.mk (Tr.list (.inr (aj an rfl hm)) (by rw[Z4];exact(aD 0x2 0x301869e1e06018060180601806018060180601825e1) qe) ?_);have ne:(!(l.map bL).isEmpty)=ZW:=by cases l with|nil=>exact absurd rfl hc|cons o l=>rfl
 exists ne;refine⟨λz=>(nomatch z),λC=>?_⟩;refine bq.nil ?_;refine GM.cv (Cv.sub (ρ':=nq x an n) (cq.ok (by kernel_rfl))) ?_;have h0:(lH n l).length=l.length:=ae8 n l;refine bq.cons (cU.plain (Es.post (Ol ok eL hc λρ' hs'=>dT _ _ (Cv.sub hs') ?_)));have c0:lH n l≠[]:=λe=>hc (List.eq_nil_of_length_eq_zero (by exists Zz h0;exists e;rfl));refine bq.cons (cU.plain (Es.post (Om ok eL c0 ((ar 0x3 0x180c34f16841c261d815e1) qe h0) λρ' hs'=>dT _ _ (Cv.sub hs') ?_)));have h1:(gH n (lH n l)).length=l.length:=(ae9 _ _).trans h0;unfold dS;generalize gH n (lH n l)=ls at h1⊢;refine bq.run (b1:=(iO.drop 5).take 2) (b2:=iO.drop 7) ok eL ?_;refine aC.mk (Ev.list (.nil ⟨ZI _,λgp Pe=>?_⟩));(conv=>whnf);have bF:gp≠an:=λe=>Pe (by exists e;exact .head _);show bq B Γ Y ((Z9 "group",.ref gp)::(Z9 "nn",.int (n+n))::nq x an n) ((gp,.list [])::bR an ls R) (iO.drop 7) _ _;refine GM.cv ((Cv.perm (Ux (an,.list (ls.map bL)) (gp,.list []) R)).trans (Cv.p9.trans (Cv.sub (ρ':=jc gp n ls) ?_))) ?_;·unfold me nq;simp only[Z2,YS,sI,sF,sH,sJ,if_neg bF,if_pos];exact cq.ok (by kernel_rfl)
 ·refine bq.cons (GM.post (Oj ok eL gn ((ar 0x3 0x180c34f16841c760f809e1) qe h1) λZ ρ' jb g' sm eG hs' nB=>dT _ _ (Cv.sub hs') ?_));exact On (ok.same sm) (sm.env.trans eL) (gn.of eG) ((au 0x4 0xc061a78b421e061c760f809e1) qe h1 nB)
end
noncomputable section
variable{A B:Zw}{Γ:Array Zx->Prop}{X Y:Fx}{ρ aZ:Loc}{O O':af}{k:AV->af->Prop}
theorem KK(P:Zr):(aP P).get? 253=Z7 Bv:=by kernel_rfl
theorem KJ(P:Zr):(aP P).get? 252=Z7 Ic:=by kernel_rfl
noncomputable def lB(i j:Int):ZU:=if j=1 then Z9 (toString (i+1))else Z9 (toString (if j≠0 then i+1 else i))++Z9 ","++Z9 (toString j)
theorem yy:(Z9 ",").length=1:=by decide
theorem xE{i j:Int}(hi:0<=i)(gc:i<10^6)(hj:0<=j)(gP:j<10^6):(lB i j).length<=30:=by
 have a1:=pI (n:=i+1) (by exact(fx 0x2 0x1b0b82fdc44f0b82f) hi) (by exact(fx 0x2 0x70309c230fbc2ee061581a12829f113c2e) gc);have a2:=pI (n:=i) (by exact(fx 0x2 0x361705fb0b82f) hi) (by exact(fx 0x2 0xe06138461f785dc0c2b03425053c2e) gc);have a3:=pI (n:=j) (by exact(fx 0x2 0x361705fb0b82f) hj) (by exact(fx 0x2 0xe06138461f785dc0c2b03425053c2e) gP);unfold lB;split;·exact(aD 0x2 0xc2de1c7de1) a1
 ·split<;>(rw[XT,XT,yy];exact Ar.Kg (by assumption) a3)
theorem Nq{X:Fx}{pos:XY}{es:List Zt}(h:es.any dH=ZS)(hl:es.length<29):((Xb pos (Yt es X.env)).all (λx=>!x.1)&&(Qj pos (Sr [] X.env)).all (λx=>x.1.isSome)&&decide (es.length+([]:List Rm).length+(if([]:List Rm).isEmpty then 0 else 1)<30))=ZW:=by
 have e1:(Xb pos (Yt es X.env)).all (λx=>!x.1)=ZW:=by exists Zz List.not_any_eq_all_not;exists lq h;rfl
 have e2:(Qj pos (Sr [] X.env)).all (λx=>x.1.isSome)=ZW:=rfl;exists e1;exists e2;simp only[Bool.and_self,RR,decide_eq_true_eq];exact(aD 0x2 0x33e7873f7c42f885e1) hl
theorem Ev.sr{e:Zt}{es:List Zt}{x:ZU}{x1:Nat}{p1 cD pos:XY}(hs:(e::es).any dH=ZS)(hl:(e::es).length<29)(lW:(cD.endLine==pos.line)=ZW)(h:cC X ρ O (e::es) λl aM=>aG X ρ aM (.builtin "str.format") (.str x::l) k):Ev X ρ O (.Call (.Attribute (.Constant (.str x) x1 p1) (Z9 "format") cD) (e::es) [] pos) k:=Ev.ael (name:=Z9 "format") (id:="str.format") PySem.F.slot_str_format_m PySem.F.type_str_format_m rfl (Nq hs hl) lW hs (Ev.str (aj x rfl h))
theorem ER{s e:Int}(a9:X.A.depth<ZV)(h0:0<=s)(o8:s<=e)(hz:e<=100000)(hk:k (.str (lB s (e-s))) O):aG X ρ O (.ref 253) [.int s,.int e] k:=by
 refine aG.ku (OL:=[]) (O':=O) (nm:=Z9 "_format_range_unified") (name:=Z9 "_format_range_unified") (params:=gb sC) (body:=aV sC) (scope:=aT sC) (pm:=_) (ca:=252) (doc:=_) (ns:=[Z9 "start",Z9 "stop"]) a9 (KK _) rfl (KJ _) rfl rfl (λvs h=>?_) dk dk dk rfl rfl rfl λY ah=>?_;·exact po h λC C=>rfl
 ·refine ah.run (by kernel_rfl) λL eL=>?_;have ok:=ah.ok (by kernel_rfl);refine ZP (λc=>?_) (λc=>?_);·have c:e-s=1:=eq_of_beq c;rw[lB,if_pos c]at hk;refine aC.mk (Ev.sr rfl (by decide) rfl (.cons rfl (Ev.aE ok rfl (.nil (NI (by exact(fx 0x2 0x1b0b82fdc44f0b82f) h0) (by exact(ia 0x3 0x6c30b405023c4ee89f20b84ee061581a12829f113c2e) hz c) ?_)))));exact hk
  ·have c:¬e-s=1:=λq=>by have:(e-s==1)=ZW:=beq_iff_eq.mpr q;exact absurd (this.symm.trans c) (by decide)
   rw[lB,if_neg c]at hk;refine ZP (λc2=>?_) (λc2=>?_)
   ·have c2:e-s=0:=by simpa using c2
    rw[if_neg (by exists c2;decide)]at hk;refine aC.mk (Ev.sr rfl (by decide) rfl (.cons rfl (Ev.aE ok rfl (.cons rfl (Ev.aE ok rfl (.nil (EQ (by exact(fx 0x2 0xd85c17ee427c44f0b82f) h0) (by exact(ia 0x3 0x36185a02811e27742f905c277030ac0d09414f909f113c2e) hz c2) (by exact(ia 0x2 0xe85f21382edc84e0b82f) c2) (by exact(ia 0x2 0xe85f21382ee061581a12829f21382e) c2) ?_)))))));rw[Int.add_sub_cancel];exact hk
   ·have c2:e-s≠0:=by simpa using c2
    rw[if_pos c2]at hk;refine aC.mk (Ev.sr rfl (by decide) rfl (.cons rfl (Ev.aE ok rfl (.cons rfl (Ev.aE ok rfl (.nil (EQ (by exact(fx 0x2 0x1b0b82fdc44f0b82f) h0) (by exact(ia 0x3 0xd89c176c30b405023c4ee061581a12829f113c2e) o8 hz) (by exact(ia 0x2 0x1b0b84edc84e0b82f) o8) (by exact(ia 0x3 0xd89c17ec30b405023c2ee061581a12829f21382e) h0 hz) ?_)))))));exact hk
end
noncomputable section
section
variable{w:ZD}{A:Zw}{E:Z3->Z6->Prop}{s:Z6}
theorem I2{D:Z1}{S:ZU->Bool}{n:Nat}{x:ZU}{t:PG}{Q:Bool->Z6->Prop}(hS:s.heap.SetOf (strKind pw w) D S n)(hb:n+1<TP)(h:∀h' tk b,YL D s.heap h'->h'.SetOf (strKind pw w) D (λy=>S y||decide (y=x)) (if S x then n else n+1)->Q b {s with heap:=h',toks:=tk}):ZK (model pw w) A (setAdd D (.str x t)) Q E s:=by refine ZL (Z8 ((strKind pw w).pyHash (ph _ _ _) ?_));exact wpAny_setAddHashed_of (s:={s with toks:=s.toks+1}) (ph _ _ _) rfl hS hb λh' nF oV=>h h' _ _ nF oV
theorem aeI{D:Z1}{S:ZU->Bool}{n:Nat}{Q:Unit->Z6->Prop}(hS:s.heap.SetOf (strKind pw w) D S n)(h:∀h',YL D s.heap h'->h'.SetOf (strKind pw w) D S n->Q () {s with heap:=h'}):ZK (model pw w) A (setUnled D) Q E s:=by
 obtain⟨o,es,ep,t,ho,qg,hd,tH,iP,hb,hf,hn⟩:=hS;refine Z8 (Xi ho hd hf ?_);refine Ui ho hd ?_ (fits_of_scanBound hb);have O9:({t with led:=ZS}:WJ).fits es.size=ZW:=by cases t;exact hf
 refine aO (SetOf_store (knd:=strKind pw w) ho qg hd tH iP hb O9) λC vS=>?_;rw[hn]at vS;exact h _ (YV ..) vS
end
variable{X Y:Fx}{ρ aZ:Loc}{O O':af}{kb:Bool->af->Prop}{pos px:XY}{s:Z6}
theorem Ts.F9{kd gt}(ok:Ok X kd gt){x t s1 s2:ZU}{c:Z1}{co:Zp}{vs:Array Z3}{i1 i2:Nat}{p1 p2 p3 q1 q2:XY}(hx:ρ.lookup x=Z7 (.str t))(OZ:X.env.code=.ref c)(hc:(aP X.w.params).get? c=Z7 co)(ix:co.data=.fields vs)(hm:Vl .In (.Set [.Constant (.str s1) i1 q1,.Constant (.str s2) i2 q2] 0 p2)=ZW)(h:kb (t==s1||t==s2) O):Ts X ρ O (.Compare (.Name x p1) [.In] [.Set [.Constant (.str s1) i1 q1,.Constant (.str s2) i2 q2] 0 p2] p3) kb:=λE s F=>by
 refine kdi_test hm (wm (Ev.aE ok hx (k:=λa ag=>a=.str t/\ag=O) ⟨rfl,rfl⟩ E s F) (λv aq z=>cr z λa ag aw aI a5 z=>aO z λea eO=>?_));subst ea eO;cases a5.iS;rename_i tv;rw[arm_eval_Set];refine Z8 (YW ?_);have fu:Frag.In [(c,co)] aq.heap:=λa o e=>by
  rw[ZM]at e;split at e;·rename_i q;cases e;exists beq_iff_eq.mp q;exact aw.base _ _ hc
  ·cases e
 have O0:kdsCode [(c,co)] X.env.code=ZW:=by exists OZ;unfold kdsCode;dsimp only;exists List.lookup_cons_self;obtain⟨cl,dc,da,sl⟩:=co;cases ix;rfl
 refine Z8 (kds_main fu O0 λb=>?_);refine kds_core (ts:=(evalEach [.Constant (.str s1) i1 q1,.Constant (.str s2) i2 q2] X.env).map λt=>do let v<-t;Xk p2;pure v) rfl rfl (by show 2<=30;decide) rfl λled=>?_;refine kds_all p2 _ _ _ ?_;have new:(aq.heap.push {cls:=.type "set",dict:=ZT,data:=.set #[] 0 (.fresh 0 0 led)}).SetOf (strKind pw X.w) aq.heap.objs.size (λC=>ZS) 0:=(Su led).setOf (Zy _ rfl) (by decide);have nD:∀b o,aq.heap.get? b=Z7 o->b≠aq.heap.objs.size:=λb o e=>X6 (Zc e);have DW:∀{x:ZU}{i:Nat}{q:XY}{Q:Z3->Z6->Prop}{h:YQ}{tk:Nat},(∀u sK,Q (.str x u) {aq with heap:=h,toks:=sK})->ZK (model pw X.w) X.A (eval (.Constant (.str x) i q) X.env) Q E {aq with heap:=h,toks:=tk}:=λhq C C C=>hq _ _;refine DW λu1 tk1=>?_;refine DW λu2 tk2=>?_;refine kds_fill_cons (I2 (w:=X.w) new (by decide) λh2 tk3 b3 uF vS=>?_);refine kds_fill_cons (I2 (w:=X.w) vS (by show _<_;split<;>decide) λh3 Jz b4 sb3 OF=>?_);refine kds_fill_nil rfl ?_;refine kdi_mark (aeI (w:=X.w) OF λh4 qN OG=>?_);have keep:∀b o,aq.heap.get? b=Z7 o->h4.get? b=Z7 o:=λb o e=>(qN.2 b (nD b o e)).trans ((sb3.2 b (nD b o e)).trans ((uF.2 b (nD b o e)).trans (ZX _ e)));have fin:Fr X ρ _ {aq with heap:=h4,toks:=Jz}:=aw.keeps keep;refine wpAny_inSet_of (s:={aq with heap:=h4,toks:=Jz}) (knd:=ZH pw X.w) (ph _ _ _) rfl OG ?_;refine VJ ⟨_,fin.grow (fX.tok _ _),aI.trans (aJ.of keep),?_⟩;have e:((ZS||decide (t=s1))||decide (t=s2))=(t==s1||t==s2):=by rw[U6];simp
 rw[<-e]at h;exact h
end
noncomputable section
variable{A B:Zw}{Γ:Array Zx->Prop}{X Y:Fx}{ρ aZ:Loc}{O O':af}{k:AV->af->Prop}{kb:Bool->af->Prop}{pos px:XY}
theorem KN(P:Zr):(aP P).get? 268=Z7 ut:=by kernel_rfl
theorem KL(P:Zr):(aP P).get? 267=Z7 Ie:=by kernel_rfl
theorem Ev.EZ{f:ZU}{fv:Z3}(hl:Ld X f fv)(h:k (.raw fv) O):Ev X ρ O (.Name f pos) k:=λE s F=>hl E s pos _ F.base (.done F (.refl _) (.raw _) h)
theorem aG.isStr{x:ZU}(h:k (.bool ZW) O):aG X ρ O (.builtin "isinstance") [.str x,.raw (.type "str")] k:=λE s vs F R=>by obtain⟨r1,r2⟩:=R.i2;cases r1;cases r2;exact IsiPair.str_str (.done F (.refl _) (.bool _) h)
theorem d0.tup{tg e:Zt}{k:List AV->af->(af->Prop)->Prop}(h:Ev X ρ O e λa ag=>∃l,a=.tup l/\k l ag λC=>True):d0 X ρ O tg e k:=λE s F=>by refine wm (h E s F) (λx aq z=>cr z λa ag aw aI a5 z=>aR z λl e aH=>?_);subst e;cases a5 with|@tup ad vs n l' hd hg rl=>
  refine wpAny_pyIter_tuple (cX _ hg rfl n rfl) ?_;refine aO (aw.wd (h':=aq.heap) (o:=lG ad 0) (tk:=aq.toks) rfl) λaS aY=>?_;have B8:=rl.move aY;refine⟨l,_,_,[(aq.heap.objs.size,lG ad 0)],ag,xN (λi o=>o=lG ad i) (λi o h=>by subst h;exact eu ("tuple_iterator") _ rfl rfl (by decide)) (λi av o D s Q E aN ho hb st hQ=>?_) (λo D s Q E ho hb st hQ=>?_),(aj _ rfl rfl),aS,aI.trans aY,aH⟩;·subst hb;refine aR (B8.get aN) λv hv rv=>?_;exact He ho (st _ _ (aY _ _ hd hg).1 (aY _ _ hd hg).2).2 rfl (x:=v) (by simpa using hv) λh' jd hs'=>hQ v h' s.toks _ (rv.move st) jd rfl λb o hb e=>hs'.extBut b o hb e
  ·subst hb;exact Hd X.hh ho (st _ _ (aY _ _ hd hg).1 (aY _ _ hd hg).2).2 rfl (by have:=rl.size;simp[this]) λh' ny=>hQ h' s.toks λb o hb e=>ny b o hb e
theorem L9{a b ss:List ZU}{K:Kn}(ok:Ok Y (λx=>(aT jQ).names.lookup x) bK)(eL:∃L,Y.env=Zf (Z9 "_check_types") (aT jQ) L 268 (ZB 267))(hS:Ld Y (Z9 "str") (.type "str"))(hI:Ld Y (Z9 "isinstance") (.builtin "isinstance"))(ha:a.length<=1100)(hb:b.length<=1000)(h:∀ρ',K.nx ρ' O):Ex Y [(Z9 "a",.lst (a.map .str)),(Z9 "b",.lst (b.map .str)),(Z9 "args",.tup (ss.map .str))] O (aV jQ) K:=by
 refine br eL ?_;clear eL;intro L eL;have one:∀{x:ZU}{xs:List ZU}{p1 p2 p3 p4 p5 p6:XY}{ρ:Loc}{kb:Bool->af->Prop},ρ.lookup x=Z7 (.lst (xs.map .str))->xs≠[]->kb ZW O->Ts Y ρ O (.Call (.Name (Z9 "isinstance") p1) [.Subscript (.Name x p2) (.Constant (.int 0) 0 p3) p4,.Name (Z9 "str") p5] [] p6) kb:=λ{x xs p1 p2 p3 p4 p5 p6 ρ kb}hx bF hk=>by
  obtain⟨y,xs,rfl⟩:∃y ys,xs=y::ys:=by cases xs with|nil=>exact absurd rfl bF|cons y ys=>exact kn y ys rfl
  refine Ts.plain ?_ rfl;refine Ev.vk rfl hI (.bi _) ?_;refine .cons rfl (Ev.sub (Ev.aE ok hx (Ev.int (Ix.list trivial .lst (by decide) (by decide) (x:=.str y) rfl ?_))));refine .cons rfl (Ev.EZ hS (.nil (aG.isStr ?_)));exact .bool hk
 refine iY (b1:=(aV jQ).take 1) (b2:=(aV jQ).drop 1) ok eL ?_;have rest:Ex Y [(Z9 "a",.lst (a.map .str)),(Z9 "b",.lst (b.map .str)),(Z9 "args",.tup (ss.map .str))] O ((aV jQ).drop 1) K:=by
  refine iY (b1:=((aV jQ).drop 1).take 1) (b2:=(aV jQ).drop 2) ok eL ?_;have rest:Ex Y [(Z9 "a",.lst (a.map .str)),(Z9 "b",.lst (b.map .str)),(Z9 "args",.tup (ss.map .str))] O ((aV jQ).drop 2) K:=by
   refine run ok eL ?_;refine aC.mk (Es.jD (λC=>rfl) (d0.tup (Ev.aE ok rfl (wj _ rfl (λi ρ' O'=>O'=O) rfl (λC C C C=>trivial) ?_ ?_))))
   ·rintro i av ρ' O' hs c aN rfl;obtain⟨x,C,rfl⟩:∃x,x∈ss/\av=.str x:=by have:=YN aN;refine aR (ZY.mp this) λx hx e=>?_;exact aj x hx e.symm
    refine Tg.ex ok.holds ?_;refine run ok.holds eL ?_;refine aC.mk (Ts.plain (Ev.vk rfl (λE s pos Q=>hI E s pos Q) (.bi _) (.cons rfl (Ev.aE ok.holds rfl (.cons rfl (Ev.EZ (λE s pos Q=>hS E s pos Q) (.nil (aG.isStr (.bool ?_)))))))) rfl);refine⟨λz=>(nomatch z),λC=>?_⟩;exact rfl
   ·rintro ρ' O' rfl;exact h ρ'
  refine aC.mk (Tr.list .lst (by rw[Z4];exact(aD 0x2 0x309881e1e06018060180601806018060180601825e1) hb) ⟨λc=>?_,λc=>?_⟩)
  ·have bF:b≠[]:=by rintro rfl;cases c
   refine aC.mk (one rfl bF ?_);exact ZP (λz=>(nomatch z)) (λC=>⟨λz=>(nomatch z),λC=>rest⟩)
  ·exact⟨λz=>(nomatch z),λC=>rest⟩
 refine aC.mk (Tr.list .lst (by rw[Z4];exact(aD 0x2 0xc3603809e1e06018060180601806018060180601825e1) ha) ⟨λc=>?_,λc=>?_⟩)
 ·have bF:a≠[]:=by rintro rfl;cases c
  refine aC.mk (one rfl bF ?_);exact ZP (λz=>(nomatch z)) (λC=>⟨λz=>(nomatch z),λC=>rest⟩)
 ·exact⟨λz=>(nomatch z),λC=>rest⟩
theorem Ma{a b:List ZU}{s1 s2 s3 s4 s5:ZU}(a9:X.A.depth<ZV)(ha:a.length<=1100)(hb:b.length<=1000)(hk:k .none O):aG X ρ O (.ref 268) [.lst (a.map .str),.lst (b.map .str),.str s1,.str s2,.str s3,.str s4,.str s5] k:=λE s vs F R=>by
 have dG:vs.length=7:=R.length;revert R;refine GB dG λv1 v2 v3 v4 v5 v6 v7 R=>?_;obtain⟨r1,R⟩:=R.iC;obtain⟨r2,R⟩:=R.iC;obtain⟨co,fS,ct,e9,ix,lT⟩:∃co fS ct,(aP X.w.params).get? 267=Z7 co/\co.data=.fields fS/\fS[1]?=Z7 (.str (Z9 "_check_types") ct):=wk _ _ _ (KL _) rfl rfl;refine XH (S6 (fd:=fdOf ut) (body:=aV jQ) a9 (F.base _ _ (KN _)) rfl rfl rfl rfl (ua 267 co fS ct rfl (F.base _ _ e9) ix lT) ?_);have eb:Ss (fdOf ut) ⟨[v1,v2,v3,v4,v5,v6,v7],[]⟩=newTuple [v3,v4,v5,v6,v7]>>=λt=>pure [(Z9 "a",v1),(Z9 "b",v2),(Z9 "args",t)]:=by kernel_rfl
 exists eb;refine Z8 (UG (Z5 ?_) (by exists Zs;exact XS rfl));generalize hT:s.heap.objs.size=T;generalize ho:({cls:=.type "tuple",data:=.seq [v3,v4,v5,v6,v7].toArray}:Zp)=o;have keep:∀b ob,s.heap.get? b=Z7 ob->(s.heap.push o).get? b=Z7 ob:=λb ob e=>ZX _ e;have aw:Fr X ρ ([]++O) {s with heap:=s.heap.push o}:=F.keeps keep;have nT:T∉ak X ([]++O):=λq=>by have:=F.lt T q;replace this:=hT▸this;exact YT _ this
 have rT:aX (ak X ([]++O)) (s.heap.push o) (.ref T) (.tup ([s1,s2,s3,s4,s5].map .str)):=.tup (n:=0) (vs:=[v3,v4,v5,v6,v7].toArray) nT (by exists Zz ho;exists Zz hT;exact Zy _ rfl) (R.keeps keep);refine Gv (OL:=[]) (O':=O) (k:=λa ag=>a=.none/\ag=O) (s:={s with heap:=s.heap.push o}) (fa:=268) (ca:=267) (name:=Z9 "_check_types") (body:=aV jQ) (scope:=aT jQ) (ns:=[Z9 "a",Z9 "b",Z9 "args"]) aw (.cons (r1.keeps keep) (.cons (r2.keeps keep) (.cons rT .nil))) (λkind j8=>?_) dk dk dk rfl λY ah=>?_;·refine Ur rfl kind λenv he s' x=>?_;subst he;refine⟨(qD aw.base).keeps x.toInCall.keep,codeAny_func ?_⟩;refine iu x.done λaH tk cy C=>?_;subst cy;refine X5 (j8 aH tk ⟨x.toInCall.ns,x.toInCall.keep,x.toInCall.fresh⟩ ⟨x.cell,x.apart,x.above⟩) (λfl s' z=>?_) (λC C z=>z.elim);obtain⟨a',ag,aS,aY,r,ea,eO⟩:=z;cases ea;exact⟨.none,_,aS,(aJ.of keep).trans aY,r,eO.symm▸hk⟩
 ·refine(L9 (ss:=[s1,s2,s3,s4,s5]) (ah.ok (by kernel_rfl)) (by refine aR ah.env λL e C=>?_;exact⟨L,e⟩) (Ld.b (ah.glob (by kernel_rfl)) (by kernel_rfl) (λC=>by kernel_rfl) (λC=>by kernel_rfl)) (Ld.b (ah.glob (by kernel_rfl)) (by kernel_rfl) (λC=>by kernel_rfl) (λC=>by kernel_rfl)) ha hb λρ'=>?_);exact⟨rfl,rfl⟩
end
noncomputable section
variable{A B:Zw}{Γ:Array Zx->Prop}{X Y:Fx}{ρ aZ:Loc}{O O':af}{k:AV->af->Prop}{kb:Bool->af->Prop}{pos px:XY}
theorem yp(P:Zr):(aP P).get? 260=Z7 Id:=by kernel_rfl
noncomputable def qL(sg:ZU)(x:ZU):AV:=.str (sg++x)
theorem aeD{a:AV}(hl:ρ.lookup (Z9 "line")=ZT):Sub ρ ((Z9 "line",a)::ρ):=λx v e=>by
 exists ZM;split;·rename_i q;replace e:=hl▸(beq_iff_eq.mp q)▸e;cases e
 ·exact e
theorem Ap{kd}{xs:List ZU}{sg:ZU}{rest:List AV}{bX:Zt}{K:GK}{i1:Nat}{p1 p2 p3 p4 p5 p6 p7:XY}(ok:Ok Y kd bK)(aad:ma kd (Z9 "line")=ZW)(e9:Y.env.scope.isCoroutine=ZS)(gn:dZ Γ Y)(hl:ρ.lookup (Z9 "line")=ZT)(hz:∀x∈xs,x.length<=100)(hsg:sg.length<=10)(hf:∀x,XV bX Y.env x=pure x)(Pj:Ev Y ρ O bX λa O'=>a=.lst (xs.map .str)/\O'=O)(h:∀Z ρ',cM Y Z->Z.G=Y.G->Sub ρ ρ'->K.nx Z ρ' O rest):cU A Γ Y ρ O (.For (.Name (Z9 "line") p1) bX [.Expr (.Yield (Z7 (.BinOp (.Constant (.str sg) i1 p2) .Add (.Name (Z9 "line") p3) p4)) p5) p6] [] p7) (xs.map (qL sg)++rest) K:=by
 refine cU.forL hf (Pj.mono λa O' e=>⟨_,e.1,λi X' ρ' eC ba=>cM Y X'/\X'.G=Y.G/\Sub ρ ρ'/\eC=O/\ba=(xs.drop i).map (qL sg)++rest,(l5 (.refl _) rfl (Sub.refl _) e.2 rfl),?_,?_⟩)
 ·rintro i av X' ρ' eC ba hs cc sm aN⟨fO,eG,bh,rfl,rfl⟩;have hi:i<xs.length:=by have:=(Zo.mp aN).1;simpa using this
  have e2:av=.str xs[i]:=by replace aN:=(Z0 hi)▸ZN▸aN;exists Y1 aN;rfl
  exists e2;have gD:=(ok.same sm).holds (hs:=hs) (c:=cc);refine Tg.name (uR gD aad) ?_;exists td hi;exists Z2;exists Xv;have MV:Sub ((Z9 "line",.str xs[i])::ρ) (gT ρ' (Z9 "line") (.str xs[i])):=λx v e=>by
   exists qw;rw[ZM]at e;split at e;·rename_i q;exists if_pos (beq_iff_eq.mp q);exact e
   ·rename_i q;exists(if_neg (by simpa using q));exact bh x v e
  refine bq.cons (GM.cv (Cv.sub MV) (cU.yield (gn.of eG) (by show X'.env.scope.isCoroutine=ZS;exists sm.env;exact e9) (Ev.bin (Ev.str (Ev.aE gD rfl (Bn.cat (by have:=hz xs[i] (Tx hi);exists Zs;exact(ar 0x3 0xc2de1c160478b0180601806117c441) hsg this) ⟨rfl,λyk aem MD=>bq.nil ?_⟩))))));rintro bx cu rfl;exact l5 (sm.trans aem.pD) ((show bx.G=X'.G from MD).trans eG) (Sub.trans (aeD hl) (Sub.refl _)) rfl rfl
 ·rintro X' ρ' eC ba⟨fO,eG,bh,rfl,rfl⟩;rw[Z4,Vn,YS,XB];exact h X' ρ' fO eG bh
end
noncomputable section
variable{A B:Zw}{Γ:Array Zx->Prop}{X Y:Fx}{ρ σ aZ:Loc}{O O':af}{k:AV->af->Prop}{kb:Bool->af->Prop}{pos px:XY}
noncomputable def jn:ZU:=Z9 "replace"
noncomputable def oz:ZU:=Z9 "delete"
noncomputable def mF:ZU:=Z9 "insert"
noncomputable def lC(a b:List ZU)(o:Op):List AV:=if o.t=eqT then((a.drop o.i1).take (o.i2-o.i1)).map (qL (Z9 " "))else(if o.t=jn\/o.t=oz then((a.drop o.i1).take (o.i2-o.i1)).map (qL (Z9 "-"))else[])++(if o.t=jn\/o.t=mF then((b.drop o.j1).take (o.j2-o.j1)).map (qL (Z9 "+"))else[])
structure vf(a b:List ZU)(σ:Loc):Prop where
 a:σ.lookup (Z9 "a")=some (.lst (a.map .str))b:σ.lookup (Z9 "b")=some (.lst (b.map .str))line:σ.lookup (Z9 "line")=none
 tag:σ.lookup (Z9 "tag")=none
 i1:σ.lookup (Z9 "i1")=none
 i2:σ.lookup (Z9 "i2")=none
 j1:σ.lookup (Z9 "j1")=none
 j2:σ.lookup (Z9 "j2")=none
theorem uT{n:ZU}{v:AV}{τ:Loc}(hs:Sub σ τ)(hn:σ.lookup n=ZT):Sub σ ((n,v)::τ):=λx w e=>by
 exists ZM;split;·rename_i q;replace e:=hn▸(beq_iff_eq.mp q)▸e;cases e
 ·exact hs x w e
theorem CB{a b:List ZU}{o:Op}(U:vf a b σ):Sub σ (mw o σ):=uT (uT (uT (uT (uT (Sub.refl _) U.tag) U.i1) U.i2) U.j1) U.j2
theorem Cg{kd gt}(ok:Ok Y kd gt){x y z:ZU}{xs:List ZU}{i j:Nat}{p1 p2 p3 p4 p5:XY}(hx:ρ.lookup x=Z7 (.lst (xs.map .str)))(hy:ρ.lookup y=Z7 (.int i))(hz:ρ.lookup z=Z7 (.int j))(hl:xs.length<=1100):Ev Y ρ O (.Subscript (.Name x p1) (.Slice (Z7 (.Name y p2)) (Z7 (.Name z p3)) ZT p4) p5) λa O'=>a=.lst (((xs.drop i).take (j-i)).map .str)/\O'=O:=by refine Ev.slice (Ev.aE ok hx (Ev.aE ok hy (aj _ rfl (Ev.aE ok hz (aj _ rfl ⟨_,.lst,by decide,by rw[Z4,Zs];exact(aD 0x2 0xc3603809e1c060180601845e1) hl,?_,rfl⟩)))));rw[pick_from _ _ _ (YD i) (YD j),Y6,Y6,TZ,TY]
noncomputable def JG:List Y4:=eH (bB (eH (bB (aV fE) 3)) 5)
theorem JJ{a b:List ZU}{o:Op}{L:Z1}{rest:List AV}{K:GK}(ok:Ok Y (λx=>(aT fE).names.lookup x) bK)(eL:Y.env=Zf (Z9 "unified_diff") (aT fE) L 261 (ZB 260))(gn:dZ Γ Y)(U:vf a b σ)(hb:b.length<=1000)(gR:∀x∈b,x.length<=100)(hs:Sub (mw o σ) ρ)(h:∀Z ρ',cM Y Z->Z.G=Y.G->Sub σ ρ'->K.nx Z ρ' O rest):bq A Γ Y ρ O (JG.drop 2) ((if o.t=jn\/o.t=mF then((b.drop o.j1).take (o.j2-o.j1)).map (qL (Z9 "+"))else[])++rest) K:=by
 have e9:Y.env.scope.isCoroutine=ZS:=by exists eL;rfl
 have db:∀i n,∀x∈(b.drop i).take n,x.length<=100:=λi n x hx=>gR x (Yi (Yh hx));refine GM.cv (Cv.sub hs) (bq.cons (cU.ite (Ts.F9 ok rfl (c:=260) (by exists eL;rfl) (yp _) rfl rfl ⟨λc=>?_,λc=>?_⟩)))
 ·have c:o.t=jn\/o.t=mF:=by rw[Wy,beq_iff_eq,beq_iff_eq]at c;exact c
  exists if_pos c;refine bq.cons (Ap ok rfl e9 gn (show(mw o σ).lookup (Z9 "line")=ZT from U.line) (db _ _) dk (λC=>rfl) (Cg ok U.b rfl rfl ((aD 0x2 0x309881e1c3603809e1) hb)) λZ ρ' sm eG hs'=>?_);exact bq.nil (bq.nil (h Z ρ' sm eG ((CB U).trans hs')))
 ·have c:¬(o.t=jn\/o.t=mF):=λq=>by
   have:(o.t==Z9 "replace"||o.t==Z9 "insert")=ZW:=by rw[Wy,beq_iff_eq,beq_iff_eq];exact q
   exact absurd (this.symm.trans c) (by decide)
  exists if_neg c;exact bq.nil (bq.nil (h Y _ (.refl _) rfl (CB U)))
theorem afm{a b:List ZU}{o:Op}{L:Z1}{rest:List AV}{K:GK}(ok:Ok Y (λx=>(aT fE).names.lookup x) bK)(eL:Y.env=Zf (Z9 "unified_diff") (aT fE) L 261 (ZB 260))(gn:dZ Γ Y)(U:vf a b σ)(ha:a.length<=1100)(hb:b.length<=1000)(jg:∀x∈a,x.length<=100)(gR:∀x∈b,x.length<=100)(h:∀Z ρ',cM Y Z->Z.G=Y.G->Sub σ ρ'->K.nx Z ρ' O rest/\K.ct Z ρ' O rest):bq A Γ Y (mw o σ) O JG (lC a b o++rest) K:=by
 have e9:Y.env.scope.isCoroutine=ZS:=by exists eL;rfl
 have mz:(mw o σ).lookup (Z9 "line")=ZT:=U.line;have da:∀i n,∀x∈(a.drop i).take n,x.length<=100:=λi n x hx=>jg x (Yi (Yh hx));have db:∀i n,∀x∈(b.drop i).take n,x.length<=100:=λi n x hx=>gR x (Yi (Yh hx));unfold lC;refine bq.cons (cU.ite (d5 ok (n:=6) ?_));refine ZP (λc=>?_) (λc=>?_);·have c:o.t=eqT:=eq_of_beq c;exists if_pos c;refine bq.cons (Ap ok rfl e9 gn mz (da _ _) dk (λC=>rfl) (Cg ok U.a rfl rfl ha) λZ ρ' sm eG hs=>?_);exact bq.cons (cU.plain (Es.cont (h Z ρ' sm eG ((CB U).trans hs)).2))
 ·have c:¬o.t=eqT:=λq=>by have:(o.t==Z9 "equal")=ZW:=beq_iff_eq.mpr q;exact absurd (this.symm.trans c) (by decide)
  rw[if_neg c,Zm];refine bq.nil ?_;refine bq.cons (cU.ite (Ts.F9 ok rfl (c:=260) (by exists eL;rfl) (yp _) rfl rfl ⟨λc=>?_,λc=>?_⟩))
  ·have c:o.t=jn\/o.t=oz:=by rw[Wy,beq_iff_eq,beq_iff_eq]at c;exact c
   exists if_pos c;refine bq.cons (Ap ok rfl e9 gn mz (da _ _) dk (λC=>rfl) (Cg ok U.a rfl rfl ha) λZ ρ' sm eG hs=>?_);exact bq.nil (JJ (ok.same sm) (sm.env.trans eL) (gn.of eG) U hb gR hs λZ' eU fO pY hs'=>(h Z' eU (sm.trans fO) (pY.trans eG) hs').1)
  ·have c:¬(o.t=jn\/o.t=oz):=λq=>by
    have:(o.t==Z9 "replace"||o.t==Z9 "delete")=ZW:=by rw[Wy,beq_iff_eq,beq_iff_eq];exact q
    exact absurd (this.symm.trans c) (by decide)
   exists if_neg c;exact bq.nil (JJ ok eL gn U hb gR (Sub.refl _) λZ' eU fO pY hs'=>(h Z' eU fO pY hs').1)
end
noncomputable section
variable{A B:Zw}{Γ:Array Zx->Prop}{X Y:Fx}{ρ σ aZ:Loc}{O O':af}{k:AV->af->Prop}{kb:Bool->af->Prop}{pos px:XY}
noncomputable def qS(a b:List ZU)(n:Nat)(st:Bool):Loc:=[(Z9 "started",.bool st),(Z9 "lineterm",.str (Z9 "\n")),(Z9 "n",.int n),(Z9 "tofiledate",.str (Z9 "")),(Z9 "fromfiledate",.str (Z9 "")),(Z9 "tofile",.str (Z9 "")),(Z9 "fromfile",.str (Z9 "")),(Z9 "b",.lst (b.map .str)),(Z9 "a",.lst (a.map .str))]
noncomputable def tG(f l:Op):AV:=.str (Z9 "@@ -"++lB f.i1 (l.i2-f.i1)++Z9 " +"++lB f.j1 (l.j2-f.j1)++Z9 " @@"++Z9 "\n")
structure jV(g:List Op)(f l:Op):Prop where
 hf:g.head?=some f
 hl:g.getLast?=some l
 i:f.i1<=l.i2
 j:f.j1<=l.j2
 iz:l.i2<=2000
 jz:l.j2<=2000
 len:g.length<=5000
noncomputable def km(a b:List ZU)(g:List Op):List AV:=(match g.head?,g.getLast? with
 |some f,Z7 l=>[tG f l]|_,_=>[])++g.flatMap (lC a b)
theorem aae{a b:List ZU}{g:List Op}{f l:Op}(G:jV g f l):km a b g=tG f l::g.flatMap (lC a b):=by unfold km;exists G.hf;exists G.hl;rfl
noncomputable def H1:AV:=.str (Z9 "--- \n")
noncomputable def H2:AV:=.str (Z9 "+++ \n")
noncomputable def gL(a b:List ZU)(gs:List (List Op)):List AV:=if gs=[]then[]else H1::H2::gs.flatMap (km a b)
noncomputable def sM:List Y4:=eH (bB (aV fE) 3)
theorem afk{a b:List ZU}{g:List Op}{L:Z1}{rest:List AV}{K:GK}(ok:Ok Y (λx=>(aT fE).names.lookup x) bK)(eL:Y.env=Zf (Z9 "unified_diff") (aT fE) L 261 (ZB 260))(gn:dZ Γ Y)(U:vf a b σ)(ha:a.length<=1100)(hb:b.length<=1000)(jg:∀x∈a,x.length<=100)(gR:∀x∈b,x.length<=100)(hg:σ.lookup (Z9 "group")=Z7 (.lst (g.map bL)))(h:∀Z ρ',cM Y Z->Z.G=Y.G->Sub σ ρ'->K.nx Z ρ' O rest):cU A Γ Y σ O (bB sM 5) (g.flatMap (lC a b)++rest) K:=by
 refine cU.forL (λC=>rfl) (Ev.aE ok hg ⟨_,rfl,λi X' ρ' eC ba=>cM Y X'/\X'.G=Y.G/\Sub σ ρ'/\eC=O/\ba=(g.drop i).flatMap (lC a b)++rest,(l5 (.refl _) rfl (Sub.refl _) rfl rfl),?_,?_⟩)
 ·rintro i av X' ρ' eC ba hs cc sm aN⟨fO,eG,bh,rfl,rfl⟩;have hi:i<g.length:=by have:=(Zo.mp aN).1;simpa using this
  have e2:av=bL g[i]:=by replace aN:=(Z0 hi)▸ZN▸aN;exists Y1 aN;rfl
  exists e2;have gD:=(ok.same sm).holds (hs:=hs) (c:=cc);have f7:(X'.holds hs cc).env=_:=sm.env.trans eL;refine Tg.ex gD ?_;rw[td hi,Zd,Zm];refine GM.cv (Cv.sub ((((((bh.cc _ _).cc _ _).cc _ _).cc _ _).cc _ _))) (afm gD f7 (gn.of eG) U ha hb jg gR λZ eU pF te hs'=>?_);have fin:∀bx cu,Z=Fx.holds bx hs cu->cM Y bx/\bx.G=Y.G/\Sub σ eU/\eC=eC/\(g.drop (i+1)).flatMap (lC a b)++rest=(g.drop (i+1)).flatMap (lC a b)++rest:=by rintro bx cu rfl;exact l5 (fO.trans pF.pD) ((show bx.G=X'.G from te).trans eG) hs' rfl rfl
  exact⟨fin,fin⟩
 ·rintro X' ρ' eC ba⟨fO,eG,bh,rfl,rfl⟩;rw[Z4,Vn,W7,XB];exact h X' ρ' fO eG bh
end
noncomputable section
variable{A B:Zw}{Γ:Array Zx->Prop}{X Y:Fx}{ρ σ aZ:Loc}{O O':af}{k:AV->af->Prop}{kb:Bool->af->Prop}{pos px:XY}
theorem JI{a b:List ZU}{n:Nat}{g:List Op}{f l:Op}{L:Z1}{rest:List AV}{K:GK}(ok:Ok Y (λx=>(aT fE).names.lookup x) bK)(eL:Y.env=Zf (Z9 "unified_diff") (aT fE) L 261 (ZB 260))(gn:dZ Γ Y)(hd:Y.A.depth<ZV)(ha:a.length<=1100)(hb:b.length<=1000)(jg:∀x∈a,x.length<=100)(gR:∀x∈b,x.length<=100)(G:jV g f l)(h:∀Z ρ',cM Y Z->Z.G=Y.G->Sub (qS a b n ZW) ρ'->K.nx Z ρ' O rest):bq A Γ Y ((Z9 "group",.lst (g.map bL))::qS a b n ZW) O (sM.drop 1) (km a b g++rest) K:=by
 have e9:Y.env.scope.isCoroutine=ZS:=by exists eL;rfl
 obtain⟨g1,g2,g3,g4,g5,g6,g7⟩:=G;have e1:km a b g=tG f l::g.flatMap (lC a b):=aae ⟨g1,g2,g3,g4,g5,g6,g7⟩;exists e1;exists Xv;have h0:(g.map bL)[(0:Int).toNat]?=Z7 (bL f):=by exists ZN;exists(show g[(0:Int).toNat]?=g.head? from List.head?_eq_getElem?.symm);exists g1;rfl
 have h1:(g.map bL).getLast?=Z7 (bL l):=by exists List.getLast?_map;exists g2;rfl
 have r1:=xE (i:=f.i1) (j:=l.i2-f.i1) (aD 0x22 0xd842f) ((ar 0x3 0x181071187e0278b8184e1187de1) g3 g5) ((ar 0x2 0x1808b721042f) g3) ((ar 0x43 0xc461f809e1e06138461f7c841) g5);have r2:=xE (i:=f.j1) (j:=l.j2-f.j1) (aD 0x22 0xd842f) ((ar 0x3 0x181071187e0278b8184e1187de1) g4 g6) ((ar 0x2 0x1808b721042f) g4) ((ar 0x43 0xc461f809e1e06138461f7c841) g6);refine bq.run (b1:=(sM.drop 1).take 3) (b2:=sM.drop 4) ok eL ?_;refine aC.mk (Ev.sub (Ev.aE ok rfl (Ev.int (Ix.list trivial .lst (by decide) (by decide) h0 ?_))));refine aC.mk (Ev.sub (Ev.aE ok rfl (Ev.un (Ev.int (Un.neg (Ix.last trivial .lst (by rw[Z4];exact(aD 0x2 0xc261d815e1e06018060180601806018060180601815e1) g7) h1 ?_))))));refine aC.mk (Ev.sub (Ev.aE ok rfl (Ev.int (Ix.tup (j:=1) trivial (by decide) (by decide) rfl rfl ?_))));refine aC.mk (Ev.sub (Ev.aE ok rfl (Ev.int (Ix.tup (j:=2) trivial (by decide) (by decide) rfl rfl ?_))));refine aC.mk (ER hd (aD 0x22 0xd842f) ((ar 0x2 0x3020ec41) g3) ((aD 0x2 0x31187e027876185a02811e1) g5) ?_);refine aC.mk (Ev.sub (Ev.aE ok rfl (Ev.int (Ix.tup (j:=3) trivial (by decide) (by decide) rfl rfl ?_))));refine aC.mk (Ev.sub (Ev.aE ok rfl (Ev.int (Ix.tup (j:=4) trivial (by decide) (by decide) rfl rfl ?_))));refine aC.mk (ER hd (aD 0x22 0xd842f) ((ar 0x2 0x3020ec41) g4) ((aD 0x2 0x31187e027876185a02811e1) g6) ?_);refine bq.cons (cU.yield gn e9 (Ev.sr rfl (by decide) rfl (.cons rfl (Ev.aE ok rfl (.cons rfl (Ev.aE ok rfl (.cons rfl (Ev.aE ok rfl (.nil (NL ((aD 0x2 0x31f78709881e1) r1) ((aD 0x2 0x31f78709881e1) r2) ⟨rfl,λZ sm eG=>?_⟩))))))))));have gD:=ok.same sm;refine bq.cons (afk gD (sm.env.trans eL) (gn.of eG) ⟨rfl,rfl,rfl,rfl,rfl,rfl,rfl,rfl⟩ ha hb jg gR rfl λZ' ρ' fO pY hs=>bq.nil (h Z' ρ' (sm.trans fO) (pY.trans eG) (Sub.trans ?_ hs)));exact cq.ok (by kernel_rfl)
end
noncomputable section
variable{A B:Zw}{Γ:Array Zx->Prop}{X Y:Fx}{ρ σ aZ:Loc}{O O':af}{k:AV->af->Prop}{kb:Bool->af->Prop}{pos px:XY}
noncomputable def JH:List Y4:=pK (bB sM 0)
theorem afl{a b:List ZU}{n:Nat}{st:Bool}{g:List Op}{f l:Op}{L:Z1}{rest:List AV}{K:GK}(ok:Ok Y (λx=>(aT fE).names.lookup x) bK)(eL:Y.env=Zf (Z9 "unified_diff") (aT fE) L 261 (ZB 260))(gn:dZ Γ Y)(hd:Y.A.depth<ZV)(ha:a.length<=1100)(hb:b.length<=1000)(jg:∀x∈a,x.length<=100)(gR:∀x∈b,x.length<=100)(G:jV g f l)(h:∀Z ρ',cM Y Z->Z.G=Y.G->Sub (qS a b n ZW) ρ'->K.nx Z ρ' O rest):bq A Γ Y ((Z9 "group",.lst (g.map bL))::qS a b n st) O sM ((if st then[]else[H1,H2])++(km a b g++rest)) K:=by
 have e9:Y.env.scope.isCoroutine=ZS:=by exists eL;rfl
 refine bq.cons (cU.ite (d5 ok (n:=5) ?_));cases st with|true=>refine ZP (λz=>(nomatch z)) (λC=>?_);exact bq.nil (JI ok eL gn hd ha hb jg gR G h);|false=>
  refine ZP (λC=>?_) (λz=>(nomatch z));refine bq.run (b1:=JH.take 3) (b2:=JH.drop 3) ok eL ?_;refine aC.mk (oF ok (n:=5) ?_);refine aC.mk (Tr.str dk ⟨λc=>absurd c (by decide),λC=>?_⟩);refine aC.mk (oF ok (n:=5) ?_);refine aC.mk (Tr.str dk ⟨λc=>absurd c (by decide),λC=>?_⟩);refine bq.cons (cU.yield gn e9 (Ev.sr rfl (by decide) rfl (.cons rfl (Ev.aE ok rfl (.cons rfl (Ev.aE ok rfl (.cons rfl (Ev.aE ok rfl (.nil (NJ ⟨rfl,λZ sm eG=>?_⟩))))))))));have gD:=ok.same sm;have OY:Z.env.scope.isCoroutine=ZS:=by exists sm.env;exact e9
  refine bq.cons (cU.yield (gn.of eG) OY (Ev.sr rfl (by decide) rfl (.cons rfl (Ev.aE gD rfl (.cons rfl (Ev.aE gD rfl (.cons rfl (Ev.aE gD rfl (.nil (NK ⟨rfl,λZ' fO pY=>bq.nil ?_⟩))))))))));have xI:=sm.trans fO;have Ef:=pY.trans eG;refine GM.cv (Cv.sub (ρ':=(Z9 "group",.lst (g.map bL))::qS a b n ZW) ?_) (JI (ok.same xI) (xI.env.trans eL) (gn.of Ef) (by exists xI.A;exact hd) ha hb jg gR G λW ρ' Ck yI hs=>h W ρ' (xI.trans Ck) (yI.trans Ef) hs);exact cq.ok (by kernel_rfl)
end
noncomputable section
variable{A B:Zw}{Γ:Array Zx->Prop}{X Y:Fx}{ρ σ aZ:Loc}{O O':af}{k:AV->af->Prop}{kb:Bool->af->Prop}{pos px cD:XY}{s:Z6}
theorem N7(P:Zr):xV P (fdOf us) (Z9 "SequenceMatcher.get_grouped_opcodes") (aT fV) (aV fV) 218 217 where
 at_:=aj _ (Dw P) rfl;code:=wk _ _ _ (KH P) rfl rfl;sc:=rfl;globals:=rfl;closure:=rfl;qual:=rfl;cd:=rfl;bi:=rfl;body:=rfl;gen:=by kernel_rfl
 yz:=by kernel_rfl
 kind:=rfl;cell:=dk;cells:=λn=>by rfl
end
noncomputable section
variable{A B:Zw}{Γ:Array Zx->Prop}{X Y:Fx}{ρ σ aZ:Loc}{O O':af}{k:AV->af->Prop}{kb:Bool->af->Prop}{pos px cD:XY}{s:Z6}
structure J7(X:Fx)(O:af)(a b:List ZU)(n:Nat)(ad:Z1)(l:List AV)(aM:af)(x dx:Z1)(ox:Zp)(w:ZD)(aA:List (ZU×AV))(pop:Z1):Prop where
 am:gr x dx ox
 hw:w=X.w
 tab:jS b aA
 rD:ad=x
 hl:l=[.int n]hO:aM=bo x dx ox (uI w a b aA pop) []++O
noncomputable def NQ:Y4->Zt
 |.For _ e _ _ _=>e|_=>default
theorem afj{a b:List ZU}{n:Nat}{tg:Zt}{body:List Y4}{K:GK}{ys:List AV}{O:af}{L:Z1}(ok:Ok Y (λx=>(aT fE).names.lookup x) bK)(eL:Y.env=Zf (Z9 "unified_diff") (aT fE) L 261 (ZB 260))(oQ:dZ Γ Y)(hd:Y.A.depth+7<ZV)(hu:Y.A.units+11<X1)(ha:a.length<=1100)(hb:b.length<=1000)(hs:(dW a b).Pairwise λa b=>a.i<b.i)(fq:(dW a b).length<64)(ke:(fk a b).length<=400)(hc:cZ a b≠[])(h1:ρ.lookup (Z9 "a")=Z7 (.lst (a.map .str)))(h2:ρ.lookup (Z9 "b")=Z7 (.lst (b.map .str)))(h3:ρ.lookup (Z9 "n")=Z7 (.int n))(gA:∀γ cW,Γ γ->cW.bare=ZW->Γ (γ.push cW))(Inv:List AV->Fx->Loc->af->List AV->Prop)(oU:∀yi X ρ O ys G,Inv yi X ρ O ys->Inv yi (X.sG G) ρ O ys)(i0:Inv ((dS n (cZ a b)).map kX) Y ρ O ys)(step:xX A Γ Y tg body Inv)(fin:∀X' ρ' O' ba,dZ Γ X'->Inv [] X' ρ' O' ba->K.nx X' ρ' O' ba){E:Z3->Z6->Prop}(F:Fr Y ρ O s):ZK (model pw Y.w) Y.A (eval (NQ (bB (aV fE) 3)) Y.env) (xW A Γ Y ρ O s tg body K ys) E s:=by
 refine G8 (f:=218) (P:=λad l aM=>∃x dx ox w aA pop,J7 Y O a b n ad l aM x dx ox w aA pop) (λC=>by kernel_rfl) (Dw _) rfl rfl (y:=ZT) (by rw[Y5,Zq];kernel_rfl) rfl rfl F ?_ ?_;·have hl:=ok.glob (Z9 "SequenceMatcher") (.val (.ref 242)) (by kernel_rfl) (by kernel_rfl);refine Ev.vk rfl hl.1 hl.2 (.cons rfl (Ev.none (.cons rfl (Ev.aE ok h1 (.cons rfl (Ev.aE ok h2 (.nil (aek (by exact(ar 0x2 0xc8a2878722899e1) hd) hb λx dx ox w aA pop am hw hB=>?_))))))));refine⟨x,dx,_,rfl,⟨(fe ox (.head _) am.cls am.Hj am.pX),am.ne,.tail _ (.head _)⟩,by kernel_rfl,.cons rfl (Ev.aE ok h3 (.nil ⟨x,dx,ox,w,aA,pop,am,hw,hB,rfl,rfl,rfl⟩))⟩
 ·rintro ad l aM aL vs⟨x,dx,ox,w,aA,pop,am,hw,hB,rfl,rfl,rfl⟩aS aY yb;refine XH (EW (B:=Y.A.in1) (OL:=bo ad dx ox (uI w a b aA pop) []) (O':=O) (l:=[.ref ad,.int n]) (vs:=.ref ad::vs) (ns:=[Z9 "self",Z9 "n"]) (ys:=(dS n (cZ a b)).map kX) (Γ:=λγ=>∃env,γ=(aL.gens.push (.fresh (.func (aV fV) env))).setIfInBounds aL.gens.size .running) Y.hh (by exact(ar 0x2 0x191450f0e441) hd) (N7 Y.w.params) dk dk aS (.cons (.ref _) yb) ?_ (λZ ah gn=>?_) (λenv=>⟨env,rfl⟩) ?_)
  ·rcases vs with _|⟨v,C|⟨v',vs⟩⟩;·cases yb
   ·have tL:∀a o,(aP Y.w.params).get? a=Z7 o->aL.heap.get? a=Z7 o:=λa o e=>aS.base a o e;exactλA Q E q=>V8 (fd:=fdOf us) (args:=⟨[.ref ad,v],[]⟩) (T:=211) (o:=Bs) rfl (tL _ _ (by kernel_rfl)) rfl rfl rfl _ _ _ _ q
   ·obtain⟨r⟩:=yb.i1
  ·exact Oi ah gn (by show Y.A.depth+7<_;exact hd) (by show Y.A.units+1+10<_;exact(ar 0x2 0x645163c391456f889e1) hu) am (hw.trans ah.w.symm) ⟨rfl,rfl,rfl,rfl,by kernel_rfl,hB⟩ rfl rfl (by kernel_rfl) (by kernel_rfl) hb ha (XS rfl) hs fq ke hc
  ·intro am hs nm qn env b9 be h' tk hI hF gG Cd nr;have hsz:∀{x y:Zx},((aL.gens.push x).setIfInBounds aL.gens.size y)[aL.gens.size]?=Z7 y:=λ{x y}=>by exists Xg;simp
   have E7:Y.G aL.gens:=aS.gens;refine aR oQ ?_;clear oQ;intro γ Ng Ov;rw[Ng]at E7;have aag:Γ aL.gens:=by exists(show aL.gens=γ from E7);exact Ov
   refine⟨am,aL.gens.size,_,O,_,_,Inv,rfl,hF _ rfl,(aY.trans gG),⟨_,hs,nm,qn,b9,be,rfl,?_,nr,Cd⟩,?_,?_,oU,i0,step,fin⟩;·simp
   ·rintro C⟨env,rfl⟩;exact hsz
   ·rintro C cW⟨env,rfl⟩jG;have e:(((aL.gens.push (GenState.fresh (.func (aV fV) env))).setIfInBounds aL.gens.size .running).setIfInBounds aL.gens.size cW)=aL.gens.push cW:=by
     rw[VO];apply PV;·simp
     ·intro i h1 h2;simp only[QD]at h2;by_cases q:i=aL.gens.size;·subst q;simp
      ·exists(Vo (by simpa using h2) (Xl q));have:i<aL.gens.size:=by exact(ar 0x2 0x19889e20fb420e441) h2 q
       simp[Array.getElem_push_lt,this]
    exists e;exact gA _ _ aag jG
end
noncomputable section
variable{A B:Zw}{Γ:Array Zx->Prop}{X Y:Fx}{ρ σ aZ:Loc}{O O':af}{k:AV->af->Prop}{kb:Bool->af->Prop}{pos px cD:XY}{s:Z6}
def afh(a b:List ZU)(n:Nat)(O:af)(yi:List AV)(X:Fx)(ρ:Loc)(O':af)(ys:List AV):Prop:=∃st gs,yi=gs.map kX/\(∀g∈gs,∃f l,jV g f l)/\Sub (qS a b n st) ρ/\O'=O/\ys=if st then gs.flatMap (km a b)else gL a b gs
noncomputable def CM:List ZU:=[Z9 "a",Z9 "b",Z9 "fromfile",Z9 "tofile",Z9 "fromfiledate",Z9 "tofiledate",Z9 "n",Z9 "lineterm"]
noncomputable def uX(a b:List ZU)(n:Nat):List AV:=[.lst (a.map .str),.lst (b.map .str),.str (Z9 ""),.str (Z9 ""),.str (Z9 ""),.str (Z9 ""),.int n,.str (Z9 "\n")]
theorem afi{a b:List ZU}{n:Nat}(ah:jU B X Y (Z9 "unified_diff") (aT fE) (aV fE) 261 (.ref 260))(gn:dZ Γ Y)(gA:∀γ cW,Γ γ->cW.bare=ZW->Γ (γ.push cW))(a9:B.depth+8<ZV)(hu:B.units+14<X1)(ha:a.length<=1100)(hb:b.length<=1000)(jg:∀x∈a,x.length<=100)(gR:∀x∈b,x.length<=100)(hs:(dW a b).Pairwise λa b=>a.i<b.i)(fq:(dW a b).length<64)(ke:(fk a b).length<=400)(hc:cZ a b≠[])(rH:∀g∈dS n (cZ a b),∃f l,jV g f l):bq B Γ Y (CM.zip (uX a b n)) [] (aV fE) (gL a b (dS n (cZ a b))) (j6 Γ):=by
 have ok:=ah.ok (by kernel_rfl);refine br ah.env λL eL=>?_;have hd:Y.A.depth+7<ZV:=by exists ah.A;exact a9
 have jL:Y.A.units+11<X1:=by exists ah.A;exact hu
 refine bq.run (b1:=(aV fE).take 3) (b2:=(aV fE).drop 3) ok eL ?_;refine aC.mk (Ma (by exact(ar 0x2 0x191450f0e441) hd) ha hb ?_);refine GM.cv (Cv.sub (ρ':=qS a b n ZS) (cq.ok (by kernel_rfl))) ?_;refine bq.cons (cU.NP (λC=>rfl) (by exact(ar 0x2 0x191450f0e441) hd) (λC C=>rfl) λE s F=>afj ok eL gn hd jL ha hb hs fq ke hc rfl rfl rfl gA (afh a b n []) (λyi X ρ O ys G h=>h) (qt ZS _ rfl rH (Sub.refl _) rfl rfl) ?_ ?_ F);·rintro y yi X' ρ' O' ba hs cc sm oQ⟨st,gs,e,hg,bh,rfl,rfl⟩;cases gs with|nil=>cases e;|cons g gs=>
   injection e with e1 e2;subst e1 e2;refine j4 (hg g (.head _)) λf l G=>?_;have gD:=(ok.same sm).holds (hs:=hs) (c:=cc);have f7:(X'.holds hs cc).env=_:=sm.env.trans eL;refine Tg.ex gD ?_;(conv=>whnf);have ey:(if st=ZW then(g::gs).flatMap (km a b)else gL a b (g::gs))=(if st then[]else[H1,H2])++(km a b g++gs.flatMap (km a b)):=by
    cases st;·rfl
    ·rfl
   exists ey;refine GM.cv (Cv.sub (bh.cc _ _)) (afl gD f7 oQ (by show X'.A.depth<_;exists sm.A;exact(ar 0x2 0x191450f0e441) hd) ha hb jg gR G λZ eU pF te hs'=>⟨te,?_⟩);rintro bx cu rfl;exact qt ZW gs rfl (λg' h'=>hg g' (.tail _ h')) hs' rfl rfl
 ·rintro X' ρ' O' ba oQ⟨st,gs,e,hg,bh,rfl,rfl⟩;cases gs with|cons g gs=>cases e;|nil=>refine bq.nil ⟨?_,oQ⟩;cases st<;>rfl
end
noncomputable section
variable{X Y:Fx}{ρ aZ:Loc}{O O':af}{k:AV->af->Prop}
theorem KT(P:Zr):(aP P).get? 285=Z7 By:=by kernel_rfl
theorem KS(P:Zr):(aP P).get? 284=Z7 Ii:=by kernel_rfl
theorem KV(P:Zr):(aP P).get? 292=Z7 Bz:=by kernel_rfl
theorem KU(P:Zr):(aP P).get? 291=Z7 Ij:=by kernel_rfl
theorem IO{i j:Int}(a9:X.A.depth<ZV)(hi:0<=i)(gc:i<10^6)(hj:0<=j)(gP:j<10^6)(hk:k (.str (lB i j)) O):aG X ρ O (.ref 285) [.int i,.int j] k:=by
 refine aG.def (name:=Z9 "_law_range") (params:=gb uN) (body:=aV uN) (scope:=aT uN) (pm:=_) (ca:=284) (doc:=_) (ns:=[Z9 "start",Z9 "size"]) a9 (KT _) rfl (KS _) rfl rfl (λvs h=>?_) dk dk dk rfl rfl rfl λY ah=>?_;·exact po h λC C=>rfl
 ·have a1:=pI (n:=i+1) (by exact(fx 0x2 0x1b0b82fdc44f0b82f) hi) (by exact(fx 0x2 0x70309c230fbc2ee061581a12829f113c2e) gc);have a2:=pI (n:=i) (by exact(fx 0x2 0x361705fb0b82f) hi) (by exact(fx 0x2 0xe06138461f785dc0c2b03425053c2e) gc);have a3:=pI (n:=j) (by exact(fx 0x2 0x361705fb0b82f) hj) (by exact(fx 0x2 0xe06138461f785dc0c2b03425053c2e) gP);have l1:=sv (n:=i+1) (by exact(fx 0x2 0x1b0b82fdc44f0b82f) hi) (by exact(fx 0x2 0x70309c230fbc2ee061581a12829f113c2e) gc);have l2:=sv (n:=i) (by exact(fx 0x2 0x361705fb0b82f) hi) (by exact(fx 0x2 0xe06138461f785dc0c2b03425053c2e) gc);have l3:=sv (n:=j) (by exact(fx 0x2 0x361705fb0b82f) hj) (by exact(fx 0x2 0xe06138461f785dc0c2b03425053c2e) gP);refine ah.run (by kernel_rfl) λL eL=>?_;have ok:=ah.ok (by kernel_rfl);refine ZP (λc=>?_) (λc=>?_);·have e:j=1:=eq_of_beq c;rw[lB,if_pos e]at hk;exact aC.mk (aG.str l1 (aj _ (.inl rfl) hk))
  ·have e:¬j=1:=λq=>by have:(j==1)=ZW:=beq_iff_eq.mpr q;exact absurd (this.symm.trans c) (by decide)
   rw[lB,if_neg e]at hk;have lx:(Z9 (toString (if j≠0 then i+1 else i))).length<=10:=by split<;>assumption
   refine aC.mk (Ev.to (.int (if j≠0 then i+1 else i)) (oF ok (n:=5) ?_) ?_)
   ·refine ZP (λc=>?_) (λc=>?_)
    ·have c:j≠0:=by simpa using c
     exact ZP (by exact bG (if_pos c) rfl) rfl
    ·have c:¬j≠0:=by simpa using c
     exact ZP (by exact bG (if_neg c) rfl) rfl
   ·refine aC.mk (aG.str ?_ ?_);·split<;>assumption
    refine aC.mk (Bn.cat (by exists yy;exists Zs;exact(aD 0x2 0x616f0e0300c0300c22f889e1) lx) ?_);refine aC.mk (aG.str l3 ?_);refine aC.mk (Bn.cat (by rw[XT,yy,Zs];exact(ar 0x3 0x185bc585bc380c0300c0308be22889e1) a3 lx) ?_);exact aj _ (.inl rfl) hk
noncomputable def cY(rows:List (ZU×ZU)):List AV:=rows.map λr=>.tup [.str r.1,.str r.2]
noncomputable def e8:Int->List (ZU×ZU)->List Int
 |_,[]=>[]|bu,r::rs=>(if r.1==Z9 " "then bu+1 else 0)::e8 (if r.1==Z9 " "then bu+1 else 0) rs
noncomputable def kW:Int->List (ZU×ZU)->Int
 |bu,[]=>bu|bu,r::rs=>kW (if r.1==Z9 " "then bu+1 else 0) rs
theorem EM(r:ZU×ZU):∀(rs:List (ZU×ZU))(bu:Int),e8 bu (rs++[r])=e8 bu rs++[if r.1==Z9 " "then kW bu rs+1 else 0]:=by intro N';induction N' with|nil=>exactλbu=>rfl;|cons q rs ih=>exactλbu=>congrArg (_::·) (ih _)
theorem vI(r:ZU×ZU):∀(rs:List (ZU×ZU))(bu:Int),kW bu (rs++[r])=if r.1==Z9 " "then kW bu rs+1 else 0:=by intro N';induction N' with|nil=>exactλbu=>rfl;|cons q rs ih=>exactλbu=>ih _
theorem adC{rows:List (ZU×ZU)}{i:Nat}{av:AV}(h:(cY rows)[i]?=Z7 av):∃r,rows[i]?=Z7 r/\av=.tup [.str r.1,.str r.2]:=by unfold cY at h;replace h:=ZN▸h;cases e:rows[i]? with|none=>replace h:=e▸h;cases h;|some r=>replace h:=e▸h;cases h;exact aj r rfl rfl
theorem vJ:∀(rs:List (ZU×ZU))(bu:Int),(e8 bu rs).length=rs.length:=by intro N';induction N' with|nil=>exactλ_=>rfl;|cons _ rs ih=>exactλ_=>congrArg (·+1) (ih _)
noncomputable def EN(r:Z1)(n:Int)(rows:List (ZU×ZU)):af:=[(r,.list ((e8 (n+1) rows).map .int))]
noncomputable def No(r:Z1)(bu:Int):Loc:=[(Z9 "far",.int bu),(Z9 "told",.ref r)]
theorem EO{rows:List (ZU×ZU)}{n:Int}(a9:X.A.depth<ZV)(hz:rows.length<=Y8)(hk:k (.lst ((e8 (n+1) rows).map .int)) O):aG X ρ O (.ref 292) [.lst (cY rows),.int n] k:=by
 refine aG.def (name:=Z9 "_law_far") (params:=gb uO) (body:=aV uO) (scope:=aT uO) (pm:=_) (ca:=291) (doc:=_) (ns:=[Z9 "rows",Z9 "n"]) a9 (KV _) rfl (KU _) rfl rfl (λvs h=>?_) dk dk dk rfl rfl rfl λY ah=>?_;·exact po h λC C=>rfl
 ·have ok:=ah.ok (by kernel_rfl);refine ah.run (by kernel_rfl) λL eL=>?_;refine aC.mk (Ev.list (.nil ⟨ZI _,λr C=>?_⟩));refine aC.mk (Es.down (Es.jD (λC=>rfl) (d0.lst (Ev.aE ok rfl (wj _ rfl (λi ρ' O'=>O'=EN r n (rows.take i)/\Sub (No r (kW (n+1) (rows.take i))) ρ') ⟨rfl,cq.ok (by kernel_rfl)⟩ (λC C C C=>trivial) ?_ ?_)))))
  ·rintro i av ρ' O' hs c aN⟨rfl,bh⟩;refine aR (adC aN) λrw hr bH=>?_;exists bH;have et:rows.take (i+1)=rows.take i++[rw]:=by exists YX;exists hr;rfl
   have uw:=ok.holds (hs:=hs) (c:=c);have hl:(rows.take i).length<=Y8:=by exists Zi;exact(au 0x3 0xc0c581d041) hz
   refine Tg.ex uw ?_;refine Ex.sub (Sub.cc (Sub.cc bh _ _) _ _) ?_;dsimp only;exists et;generalize rows.take i=rs at hl⊢;refine run uw eL ?_;refine aC.mk (Ev.to (.int (kW (n+1) (rs++[rw]))) (oF uw (n:=5) ?_) ?_)
   ·rw[vI];refine ZP (λq=>?_) (λq=>?_);·have q:(rw.1==Z9 " ")=ZW:=q;exists if_pos q;exact⟨rfl,rfl⟩
    ·have q:(rw.1==Z9 " ")=ZS:=q;exists(if_neg (by refine bG q ?_;decide));exact⟨rfl,rfl⟩
   ·refine aC.mk (Ev.fU Zb Za rfl rfl rfl (Ev.aE uw rfl ⟨⟨_,.inr (aj r rfl (.head _))⟩,Ev.aE uw rfl (aG.append (.head _) (by rw[Z4,vJ];exact hl) ?_)⟩));refine ZP ?_ (cq.ok (by kernel_rfl));unfold EN;simp only[bp,Z2,YS,if_true];rw[EM,vI,ZJ];rfl
  ·rintro ρ' O'⟨rfl,bh⟩;have:rows.take (cY rows).length=rows:=by simp[cY]
   rw[this]at bh⊢;refine aj _ bh ?_;exact aj _ (.inr (aj _ (.inr (aj r rfl (.head _))) rfl)) hk
end
noncomputable section
variable{X Y Z:Fx}{ρ aZ:Loc}{O O':af}{k:AV->af->Prop}{pos px:XY}
theorem mh.holds{sc:X7}{cl:List (ZU×Z1)}{hs:List (Z1×Zp)}{c:gK X (hs.map (·.1))}(h:mh X sc cl ρ aZ):mh (X.holds hs c) sc cl ρ aZ:=⟨h.yw,h.sub,h.apart,h.cell,h.kind,h.names,h.vars⟩
theorem ads{env:Rw}{x:ZU}:∀{names:List (ZU×Yj)},names.lookup x=ZT->(names.map λ(n,k)=>if(k==XE&&env.scope.kind==.function&&env.kindOf n==Z7 .cell)then(n,Vj)else(n,k)).lookup x=ZT:=by intro N';induction N' with|nil=>exactλh=>rfl;|cons ij r ih=>
  obtain⟨n,k⟩:=ij;intro h;exists Z2;rw[ZM]at h;have e:∀q:ZU×Yj,q.1=n->YA x (q::TH (λ(n,k)=>if(k==XE&&env.scope.kind==.function&&env.kindOf n==Z7 .cell)then(n,Vj)else(n,k)) r)=ZT:=by
   rintro⟨n',k'⟩rfl;exists ZM;split;·rename_i z;replace h:=z▸h;cases h
   ·rename_i z;replace h:=z▸h;exact ih h
  refine e _ ?_;dsimp only;split<;>rfl
theorem jw.ok{sc:X7}{cl:List (ZU×Z1)}(K:jw X Y sc cl)(hc:∀y∈sc.names,y.2≠.cell)(hd:sc.names.lookup ("__debug__":ZU)=ZT):Ok Y (λx=>sc.names.lookup x) bK:=by
 refine⟨λx h=>?_,λx g hx hg=>?_,?_⟩
 ·refine ZR h (λh=>?_) (λh=>?_);·exact K.bd h
  ·exact absurd rfl (hc _ (mem_of_lookup h))
 ·have hm:=mem_of_lookup hg;exact⟨pN.ld (λP=>oS P _ hm) (K.glob hx),(oS _ _ hm).pV⟩
 ·refine rm K ?_;clear K;intro C C L e;exists e;exact ads hd
theorem Ev.lc{kd gt}(ok:Ok X kd gt){cF cf:Zt}{bP:List Zt}{sc:X7}{cl:List (ZU×Z1)}{x:ZU}{l:List AV}(g:AV->Option AV)(ah:mh X sc cl ρ aZ)(hs:∀y,XV (.Name x px) X.env y=pure y)(hd:sc.names.lookup ("__debug__":ZU)=ZT)(hx:ρ.lookup x=Z7 (.lst l))(hz:l.length<=Y8)(h:∀Y,jw X Y sc cl->Ok Y (λx=>sc.names.lookup x) bK->∀av∈l,∀Oc:af,Tg Y aZ Oc cf av λρ'=>lL Y ρ' Oc bP λb O'=>O'=Oc/\(b=ZW->Ev Y ρ' Oc cF λr eC=>eC=Oc/\g av=Z7 r)/\(b=ZS->g av=ZT))(hk:k (.lst (l.filterMap g)) O):Ev X ρ O (.ListComp cF [⟨cf,.Name x px,bP,0⟩] sc pos) k:=Ev.l6 g ah hs (It.lst (Ev.aE ok hx (fe l rfl hz (λY K i av Oc aN=>h Y K (K.ok ah.cell hd) av (YN aN) Oc) hk)))
end
noncomputable section
variable{X Y Z:Fx}{ρ aZ:Loc}{O O':af}{k:AV->af->Prop}{pos px:XY}
structure DS where
 told:List ZU
 bt:List (ZU×ZU)old:Int
 new:Int
noncomputable def jH(old acQ new aci:Int):ZU:=Z9 "@@ -"++lB old acQ++Z9 " +"++lB new aci++Z9 " @@\n"
noncomputable def cnt(c:String)(h:List (ZU×ZU)):Nat:=(h.filter λr=>r.1 !=Z9 c).length
noncomputable def dK(st:DS):DS:=⟨if st.bt=[]then st.told else st.told++[jH st.old (cnt "+" st.bt) st.new (cnt "-" st.bt)]++st.bt.map λr=>r.1++r.2,[],st.old+cnt "+" st.bt+1,st.new+cnt "-" st.bt+1⟩
noncomputable def kM(rows:List (ZU×ZU))(n:Int)(back sW:List Int)(st:DS)(k:Nat):DS:=if k<rows.length/\min (back.getD k 0) (sW.getD k 0)<=n then{st with bt:=st.bt++[rows.getD k (Z9 "",Z9 "")]}else dK st
noncomputable def f6(rows:List (ZU×ZU))(n:Int)(i:Nat):DS:=(Zh i).foldl (kM rows n (e8 (n+1) rows) (e8 (n+1) rows.reverse).reverse) ⟨[],[],0,0⟩
theorem D2(rows:List (ZU×ZU))(n:Int)(i:Nat):f6 rows n (i+1)=kM rows n (e8 (n+1) rows) (e8 (n+1) rows.reverse).reverse (f6 rows n i) i:=by unfold f6;exists Wx;exists Yk;rfl
noncomputable def gu(rows:List (ZU×ZU))(n:Int):List ZU:=if(f6 rows (min n rows.length) (rows.length+1)).told=[]then[]else[Z9 "--- \n",Z9 "+++ \n"]++(f6 rows (min n rows.length) (rows.length+1)).told
theorem KX(P:Zr):(aP P).get? 297=Z7 BA:=by kernel_rfl
theorem KW(P:Zr):(aP P).get? 296=Z7 Ik:=by kernel_rfl
theorem ow(c:String)(h:List (ZU×ZU)):cnt c h<=h.length:=Wn _ _
structure u7(rows:List (ZU×ZU))(i:Nat)(D:DS):Prop where
 Iu:0<=D.old
 af4:0<=D.new
 old:D.old+D.bt.length<=i
 new:D.new+D.bt.length<=i
 told:D.told.length+2*D.bt.length<=2*i
 rows:∀r∈D.bt,r∈rows
theorem DZ{o:Int}{c:Nat}(h:0<=o):0<=o+(c:Int)+1:=SQ (SQ h (YD c)) (by decide)
theorem D0{o:Int}{c l i:Nat}(h:o+(l:Int)<=i)(e:c<=l):o+(c:Int)+1+((0:Nat):Int)<=((i+1:Nat):Int):=Int.le_trans (Rv (WG _)) (Int.add_le_add_right (Int.le_trans (Int.add_le_add_left (Tu.mpr e) o) h) 1)
theorem yC(rows:List (ZU×ZU))(n:Int):∀i,u7 rows i (f6 rows n i):=by intro N';induction N' with|zero=>exact⟨by simp[f6],by simp[f6],by simp[f6],by simp[f6],by simp[f6],by simp[f6]⟩;|succ i ih=>
  obtain⟨h1,h2,h3,h4,h5,h6⟩:=ih;rw[D2];generalize f6 rows n i=st at*;unfold kM;split
  ·rename_i hc;refine⟨h1,h2,?_,?_,?_,λr hr=>?_⟩;·simp only[ZQ,Y7];exact(pn 0x2 0xd8e2113b76889e38da227844e) h3
   ·simp only[ZQ,Y7];exact(pn 0x2 0xd8e2113b76889e38da227844e) h4
   ·simp only[ZQ,Y7];exact(au 0x2 0xc4c637c6621bc389c44f18df19c44f10de1) h5
   refine ZR (ZE.mp hr) (λq=>?_) (λq=>?_);·exact h6 r q
   ·rw[Zv]at q;exists q;exists Zj;exists Z0 hc.1;exact Tx _
  ·have e1:=ow "+" st.bt;have e2:=ow "-" st.bt;unfold dK;refine⟨DZ h1,DZ h2,D0 h3 e1,D0 h4 e2,?_,λr hr=>nomatch hr⟩;simp only[Ww];split;·exact(au 0x43 0x62631be3310de1c4e2278c6f885e1) h5
   ·rename_i bF;have:0<st.bt.length:=V6.mpr bF;simp only[ZQ,Y7,Z4];exact(au 0x43 0xc4c637c6621bc389c44f18df10be22889e1) h5
noncomputable def tr(c:String):AV->Option AV
 |.tup [.str a,.str b]=>if a !=Z9 c then Z7 (.str b)else ZT|_=>ZT
noncomputable def ES:AV->Option AV
 |.tup [.str a,.str b]=>Z7 (.str (a++b))|_=>ZT
theorem vL(c:String)(h:List (ZU×ZU)):((cY h).filterMap (tr c)).length=cnt c h:=by induction h with|nil=>rfl;|cons r h ih=>have e0:tr c (.tup [.str r.1,.str r.2])=if r.1 !=Z9 c then Z7 (.str r.2)else ZT:=rfl;show(Ql (tr c) (.tup [.str r.1,.str r.2]::cY h)).length=(List.filter (λr=>r.1 !=Z9 c) (r::h)).length;exists YO;exists Yb;exists e0;cases q:(r.1 !=Z9 c)with|true=>exact congrArg (·+1) ih;|false=>exact ih
theorem NZ(h:List (ZU×ZU)):(cY h).filterMap ES=(h.map λr=>r.1++r.2).map .str:=by induction h with|nil=>rfl;|cons r h ih=>exact congrArg (AV.str (r.1++r.2)::·) ih
noncomputable def tc(rows:List (ZU×ZU))(n:Int)(t:Z1):Loc:=[(Z9 "told",.ref t),(Z9 "ahead",.lst ((e8 (n+1) rows.reverse).reverse.map .int)),(Z9 "back",.lst ((e8 (n+1) rows).map .int)),(Z9 "n",.int n),(Z9 "rows",.lst (cY rows))]
noncomputable def jA(rows:List (ZU×ZU))(n:Int)(t h:Z1)(D:DS):Loc:=(Z9 "new",.int D.new)::(Z9 "old",.int D.old)::(Z9 "hunk",.ref h)::tc rows n t
noncomputable def D5(rows:List (ZU×ZU))(n:Int)(t:Z1)(D:DS):Loc:=(Z9 "new",.int D.new)::(Z9 "old",.int D.old)::(Z9 "hunk",.lst (cY D.bt))::tc rows n t
noncomputable def vx(rows:List (ZU×ZU))(n:Int)(t:Z1)(D:DS):Loc:=(Z9 "news",.int (cnt "-" D.bt))::(Z9 "olds",.int (cnt "+" D.bt))::D5 rows n t D
noncomputable def kN(t h:Z1)(D:DS):af:=[(h,.list (cY D.bt)),(t,.list (D.told.map .str))]
noncomputable def rh:List Y4:=eH (bB (aV jo) 6)
theorem Callee.depth{name:ZU}{scope:X7}{fa:Z1}{cd:Z3}(ah:Callee X Y name scope fa cd):Y.A.depth=X.A.depth+1/\Y.A.units=X.A.units+3:=by refine aR ah.env λL C e=>?_;exists e;exact⟨rfl,rfl⟩
theorem se(h:List (ZU×ZU)):(cY h).length=h.length:=by simp[cY]
theorem Ml{rows:List (ZU×ZU)}{n:Int}{t:Z1}{D:DS}{T:List ZU}{K:Kn}{L:Z1}(ok:Ok Y (λx=>(aT jo).names.lookup x) bK)(eL:Y.env=Zf (Z9 "_law_diff") (aT jo) L 297 (ZB 296))(h:∀ρ' h',h'≠t->Sub (jA rows n t h' ⟨T,[],D.old+cnt "+" D.bt+1,D.new+cnt "-" D.bt+1⟩) ρ'->K.nx ρ' (kN t h' ⟨T,[],D.old+cnt "+" D.bt+1,D.new+cnt "-" D.bt+1⟩)):Ex Y (vx rows n t D) [(t,.list (T.map .str))] (rh.drop 4) K:=by
 refine run ok eL ?_;refine aC.mk (Ev.list (.nil ⟨ZI _,λh' zz=>?_⟩));have bF:h'≠t:=by simpa using zz
 exact h _ h' bF (cq.ok (by kernel_rfl))
end
noncomputable section
variable{X Y Z:Fx}{ρ aZ:Loc}{O O':af}{k:AV->af->Prop}{pos px:XY}
noncomputable def uV(D:DS):List ZU:=if D.bt=[]then D.told else D.told++[jH D.old (cnt "+" D.bt) D.new (cnt "-" D.bt)]++D.bt.map λr=>r.1++r.2
theorem Mn{rows:List (ZU×ZU)}{n:Int}{i:Nat}{t:Z1}{D:DS}{K:Kn}{hs:List (Z1×Zp)}{c:gK Y (hs.map (·.1))}(ah:Callee X Y (Z9 "_law_diff") (aT jo) 297 (.ref 296))(a9:X.A.depth+1<ZV)(hu:X.A.units+3<X1)(hr:∀r∈rows,r.1.length+r.2.length<=1000)(m7:u7 rows i D)(hi:i<=10^5)(h:K.nx (vx rows n t D) [(t,.list ((uV D).map .str))]):Es (Y.holds hs c) (vx rows n t D) [(t,.list (D.told.map .str))] (bB rh 3) K:=by
 obtain⟨v1,v2,v3,v4,v5,v6⟩:=m7;have ok:=(ah.ok (by kernel_rfl)).holds (hs:=hs) (c:=c);have room:(Y.holds hs c).A.depth<ZV:=by show Y.A.depth<_;exists ah.depth.1;exact a9
 have uY:(Y.holds hs c).A.units<X1:=by show Y.A.units<_;exists ah.depth.2;exact hu
 have c5:=ow "+" D.bt;have c6:=ow "-" D.bt;have sl:(10^6:Nat)<=Y8:=by exists Zs;decide
 refine Es.ite (d5 ok (n:=6) ?_);refine aC.mk (Ev.ll (.nil ⟨ZI _,?_⟩));refine aC.mk (Cm.AD uY .lst .lst ⟨λz=>?_,λz=>?_⟩)
 ·have bF:D.bt≠[]:=by rintro e;rw[e]at z;simp[cY]at z
  refine aR ah.env λL f7 C=>?_;have eL:(Y.holds hs c).env=_:=f7;have r1:=xE (i:=D.old) (j:=cnt "+" D.bt) v1 ((pn 0x64 0x6030b405023c3b0c462770309c230fbc4e) hi v3) (aD 0x22 0xd842f) ((aU 0x65 0x30185a02811e2c4c437c6641bc782078184e1187de1) hi v5 c5);have r2:=xE (i:=D.new) (j:=cnt "-" D.bt) v2 ((pn 0x64 0x6030b405023c3b0c462770309c230fbc4e) hi v4) (aD 0x22 0xd842f) ((aU 0x65 0x30185a02811e2c4c437c6641bc782078184e1187de1) hi v5 c6);have q1:(Z9 "@@ -").length=4:=by decide
  have q2:(Z9 " +").length=2:=by decide
  have q3:(Z9 " @@\n").length=4:=by decide
  unfold uV at h;rw[if_neg bF]at h;refine run ok eL ?_;refine aC.mk (Ev.fU Zb Za rfl rfl rfl (Ev.aE ok rfl ⟨⟨_,.inr ⟨t,rfl,.head _⟩⟩,bO ok (n:=9) ?_⟩));refine aC.mk (IO room v1 ((pn 0x64 0x6030b405023c3b0c462770309c230fbc4e) hi v3) (aD 0x22 0xd842f) ((aU 0x65 0x30185a02811e2c4c437c6641bc782078184e1187de1) hi v5 c5) ?_);refine aC.mk (Bn.cat (by exists q1;exact(ar 0x3 0xc08309c230fbf1f78702884af) sl r1) ?_);refine aC.mk (Bn.cat (by rw[XT,q1,q2];exact(ar 0x3 0x604184e1187df8fbc381446f884af) sl r1) ?_);refine aC.mk (IO room v2 ((pn 0x64 0x6030b405023c3b0c462770309c230fbc4e) hi v4) (aD 0x22 0xd842f) ((aU 0x65 0x30185a02811e2c4c437c6641bc782078184e1187de1) hi v5 c6) ?_);refine aC.mk (Bn.cat (by rw[XT,XT,q1,q2];exact(au 0x4 0x18186138461f7e3ef0e3ef160711446f884af) sl r1 r2) ?_);refine aC.mk (Bn.cat (by rw[XT,XT,XT,q1,q2,q3];exact(au 0x4 0xc0c309c230fbf1f7871f78b03895f11446f884af) sl r1 r2) ?_);refine aG.append (.head _) (by rw[Z4];exact(aU 0x85 0x30185a02811e3c4c637c6641bc38106138461f7e041) hi v5 sl) ?_;have eP:∀x:ZU,bp [(t,aQ.list (TH AV.str D.told))] t (.list (TH AV.str D.told++[AV.str x]))=[(t,aQ.list ((D.told++[x]).map .str))]:=λx=>by simp[bp]
  rw[eP];refine aC.mk (Ev.fU YE Yq rfl rfl rfl (Ev.aE ok rfl ⟨⟨_,.inr ⟨t,rfl,.head _⟩⟩,?_⟩));refine Ev.lc ok ES (jY (aZ:=[]) ah dk rfl dk dk (λC h=>nomatch h)).holds (λC=>rfl) (by kernel_rfl) rfl (by rw[se];exact(aU 0x85 0x30185a02811e3c4c637c6611bc98106138461f7e041) hi v5 sl) (λY' KY bN av aN Oc=>?_) ?_;·refine dn aN λr ST=>?_;have:=hr r (v6 r ST);refine Tg.ex bN ?_;refine⟨rfl,λC=>bO bN (n:=5) ?_,λz=>nomatch z⟩;exact aC.mk (Bn.cat ((au 0x3 0x604184e1187df84c40f88c3814461) sl this) ⟨rfl,rfl⟩)
  rw[NZ];refine aG.extend (.head _) .lst (by simp;exact(aU 0x45 0x6030b405023c989906f8cc43787030c2708c3efc0e22889e1) hi v5 sl) ?_;have eQ:∀x y:List ZU,bp [(t,aQ.list (TH AV.str x))] t (.list (TH AV.str x++TH AV.str y))=[(t,aQ.list ((x++y).map .str))]:=λx y=>by simp[bp]
  rw[eQ];exact h
 ·have bF:D.bt=[]:=by cases e:D.bt with|nil=>rfl;|cons a l=>rw[e]at z;simp[cY]at z
  unfold uV at h;rw[if_pos bF]at h;exact Ex.nil h
end
noncomputable section
variable{X Y Z:Fx}{ρ aZ:Loc}{O O':af}{k:AV->af->Prop}{pos px:XY}
theorem I8{c:String}{l:List (ZU×ZU)}{av:AV}(h:av∈cY l):∃a b,av=.tup [.str a,.str b]:=by refine dn h λr hr=>?_;exact kn _ _ rfl
theorem Mm{rows:List (ZU×ZU)}{n:Int}{i:Nat}{t hk:Z1}{D:DS}{K:Kn}{hs:List (Z1×Zp)}{c:gK Y (hs.map (·.1))}(ah:Callee X Y (Z9 "_law_diff") (aT jo) 297 (.ref 296))(a9:X.A.depth+1<ZV)(hu:X.A.units+3<X1)(hr:∀r∈rows,r.1.length+r.2.length<=1000)(m7:u7 rows i D)(hi:i<=10^5)(bF:hk≠t)(h:∀ρ' h',h'≠t->Sub (jA rows n t h' (dK D)) ρ'->K.nx ρ' (kN t h' (dK D))):Ex (Y.holds hs c) (jA rows n t hk D) (kN t hk D) (rh.drop 1) K:=by
 have ok:=(ah.ok (by kernel_rfl)).holds (hs:=hs) (c:=c);refine aR ah.env λL f7 C=>?_;have eL:(Y.holds hs c).env=_:=f7;have c5:=ow "+" D.bt;have c6:=ow "-" D.bt;have v3:=m7.old;have v1:=m7.Iu;have sl:(10^6:Nat)<=Y8:=by exists Zs;decide
 refine Ex.cv (Cv.p9.trans (Cv.sub (ρ':=D5 rows n t D) ?_)) ?_;·unfold me jA tc;simp only[Z2,YS,sI,sF,sH,sJ,if_neg bF.symm,if_pos];exact cq.ok (by kernel_rfl)
 refine iY (b1:=(rh.drop 1).take 2) (b2:=rh.drop 3) ok eL ?_;refine aC.mk (Ev.lc ok (tr "+") (jY (aZ:=[]) ah dk rfl dk dk (λC h=>nomatch h)).holds (λC=>rfl) (by kernel_rfl) rfl (by rw[se];exact(uk 0x5 0x30185a02811e4d922113b62705f8186138461f7e061) hi v3 v1 sl) (λY' KY bN av aN Oc=>?_) ?_)
 ·refine j4 (I8 (c:="+") aN) λa b b5=>?_;exists b5;refine Tg.ex bN ?_;refine d5 bN (n:=6) ?_;refine bM rfl (λz=>bO bN (n:=5) ?_) (λz=>?_);·have z:(a !=Z9 "+")=ZW:=z;exact⟨rfl,if_pos z⟩
  ·have z:(a !=Z9 "+")=ZS:=z;exact if_neg (by exists z;decide)
 refine ZP (by rw[vL];exact(uk 0x5 0xc061680a0478f040ec71209db1382fe06018060180601806018060180601825e1) hi c5 v3 v1) ?_;refine aC.mk (Ev.lc ok (tr "-") (jY (aZ:=[]) ah dk rfl dk dk (λC h=>nomatch h)).holds (λC=>rfl) (by kernel_rfl) rfl (by rw[se];exact(uk 0x5 0x30185a02811e4d922113b62705f8186138461f7e061) hi v3 v1 sl) (λY' KY bN av aN Oc=>?_) ?_)
 ·refine j4 (I8 (c:="-") aN) λa b b6=>?_;exists b6;refine Tg.ex bN ?_;refine d5 bN (n:=6) ?_;refine bM rfl (λz=>bO bN (n:=5) ?_) (λz=>?_);·have z:(a !=Z9 "-")=ZW:=z;exact⟨rfl,if_pos z⟩
  ·have z:(a !=Z9 "-")=ZS:=z;exact if_neg (by exists z;decide)
 refine ZP (by rw[vL];exact(uk 0x5 0xc061680a0478f040ec71209db1382fe06018060180601806018060180601825e1) hi c6 v3 v1) ?_;rw[vL,vL];exact Ex.cons (Es.cut (λpM eW=>pM=vx rows n t D/\eW=[(t,.list ((uV D).map .str))]) (Mn ah a9 hu hr m7 hi ⟨rfl,rfl⟩) (λpM eW bJ=>aO bJ λe1 e2=>by subst e1 e2;exact Ml (T:=uV D) ok eL h))
end
noncomputable section
variable{X Y Z:Fx}{ρ aZ:Loc}{O O':af}{k:AV->af->Prop}{pos px:XY}
theorem Mo{rows:List (ZU×ZU)}{n:Int}{i:Nat}{t hk:Z1}{D:DS}{K:Kn}{hs:List (Z1×Zp)}{c:gK Y (hs.map (·.1))}(ah:Callee X Y (Z9 "_law_diff") (aT jo) 297 (.ref 296))(a9:X.A.depth+1<ZV)(hu:X.A.units+3<X1)(hz:rows.length<10^5)(hr:∀r∈rows,r.1.length+r.2.length<=1000)(m7:u7 rows i D)(hi:i<=rows.length)(bF:hk≠t)(h:∀ρ' h',h'≠t->Sub (jA rows n t h' (kM rows n (e8 (n+1) rows) (e8 (n+1) rows.reverse).reverse D i)) ρ'->K.nx ρ' (kN t h' (kM rows n (e8 (n+1) rows) (e8 (n+1) rows.reverse).reverse D i))/\K.ct ρ' (kN t h' (kM rows n (e8 (n+1) rows) (e8 (n+1) rows.reverse).reverse D i))):Ex (Y.holds hs c) ((Z9 "k",.int i)::jA rows n t hk D) (kN t hk D) rh K:=by
 have ok:=(ah.ok (by kernel_rfl)).holds (hs:=hs) (c:=c);refine aR ah.env λL f7 C=>?_;have eL:(Y.holds hs c).env=_:=f7;have lr:(cY rows).length=rows.length:=se rows;have lb:(e8 (n+1) rows).length=rows.length:=vJ _ _;have la:(e8 (n+1) rows.reverse).reverse.length=rows.length:=by exists V5;rw[vJ,V5]
 have sl:(10^6:Nat)<=Y8:=by exists Zs;decide
 have v3:=m7.old;have v1:=m7.Iu;have kR:Sub (jA rows n t hk D) ((Z9 "k",.int i)::jA rows n t hk D):=cq.ok (by kernel_rfl);unfold kM at h;generalize hb:e8 (n+1) rows=back at lb h;generalize ha:(e8 (n+1) rows.reverse).reverse=sW at la h;have eB:jA rows n t hk D=(Z9 "new",.int D.new)::(Z9 "old",.int D.old)::(Z9 "hunk",.ref hk)::(Z9 "told",.ref t)::(Z9 "ahead",.lst (sW.map .int))::(Z9 "back",.lst (back.map .int))::(Z9 "n",.int n)::(Z9 "rows",.lst (cY rows))::[]:=by unfold jA tc;exists ha;exact bG hb rfl
 refine Ex.cons (Es.ite (Ts.to (decide (i<rows.length/\min (back.getD i 0) (sW.getD i 0)<=n)) (d5 ok (n:=7) ?_) ⟨λq=>?_,λq=>?_⟩))
 ·exists eB;refine ZP (by exists lr;exact(aD 0x2 0x32185a02811e1e06018060180601806018060180601825e1) hz) ?_;refine ZP (λq=>?_) (λq=>?_)
  ·have q:i<rows.length:=by have q:=of_decide_eq_true q;replace q:=lr▸q;exact(ar 0x2 0x3820e441) q
   refine aC.mk (Ev.sub (Ev.aE ok rfl (Ev.aE ok rfl (Ix.list (x:=.int (back.getD i 0)) trivial .lst (aD 0x22 0xd842f) ((ar 0x3 0x190c2d01408f16441e06018060180601806018060180601825e1) hz q) ?_ ?_))));·rw[Y6,ZN,Zj,Z0 (by exact(au 0x3 0x1a18b230e441) lb q)];rfl
   refine aC.mk (Ev.sub (Ev.aE ok rfl (Ev.aE ok rfl (Ix.list (x:=.int (sW.getD i 0)) trivial .lst (aD 0x22 0xd842f) ((ar 0x3 0x190c2d01408f16441e06018060180601806018060180601825e1) hz q) ?_ ?_))));·rw[Y6,ZN,Zj,Z0 (by exact(au 0x3 0x1a18b230e441) la q)];rfl
   refine ZP (λz=>?_) (λz=>?_);·have z:=of_decide_eq_true z;exact⟨(decide_eq_true ⟨q,z⟩).symm,rfl⟩
   ·have z:=of_decide_eq_false z;exact⟨(decide_eq_false λw=>z w.2).symm,rfl⟩
  ·have q:¬i<rows.length:=by have q:=of_decide_eq_false q;replace q:=lr▸q;exact(ar 0x2 0xf7041f6441) q
   exact⟨(decide_eq_false λw=>q w.1).symm,rfl⟩
 ·have q:=of_decide_eq_true q;replace h:=(if_pos q)▸h;refine run ok eL ?_;rw[eB]at kR⊢;refine aC.mk (Ev.fU Zb Za rfl rfl rfl (Ev.aE ok rfl ⟨⟨_,.inr (aj hk rfl (.head _))⟩,Ev.sub (Ev.aE ok rfl (Ev.aE ok rfl (Ix.list (x:=.tup [.str (rows.getD i (Z9 "",Z9 "")).1,.str (rows.getD i (Z9 "",Z9 "")).2]) trivial .lst (aD 0x22 0xd842f) (by exact Ar.bA 0x4 0x32185a02811e3fecaea11c176462e06018060180601806018060180601825e2 [0,_,_,0,0] [_,0,0,_,_] (by kernel_rfl) hz q) ?_ ?_)))⟩));·rw[Y6,cY,ZN,Zj,Z0 q.1];rfl
  refine aG.append (.head _) (by rw[se];exact Ar.bA 0x7 0x32185a02811e5c10309c230fbf668886ed8dc17ff68750ee0bb2536082 [0,_,0,_,_,_,0,0] [_,0,_,0,0,0,_,_] (by kernel_rfl) hz sl v3 v1 q) ?_;(conv=>whnf);have eO:bp (kN t hk D) hk (.list (cY D.bt++[AV.tup [.str (rows.getD i (Z9 "",Z9 "")).1,.str (rows.getD i (Z9 "",Z9 "")).2]]))=kN t hk {D with bt:=D.bt++[rows.getD i (Z9 "",Z9 "")]}:=by unfold kN;simp[bp,bF.symm,cY]
  exists eO;refine(h _ hk bF ?_).2;exact jW.ok (by unfold jA tc;exists ha;exists hb;exact⟨aj _ rfl rfl,aj _ rfl rfl,aj _ rfl rfl,aj _ rfl rfl,aj _ rfl rfl,aj _ rfl rfl,aj _ rfl rfl,aj _ rfl rfl,trivial⟩)
 ·have q:=of_decide_eq_false q;replace h:=(if_neg q)▸h;refine Ex.nil ?_;exact Ex.sub kR (Mm ah a9 hu hr m7 ((ar 0x3 0x6430b405023c581070185a02811e1) hz hi) bF λρ' h' wa hs'=>(h ρ' h' wa hs').1)
end
noncomputable section
variable{X Y Z:Fx}{ρ aZ:Loc}{O O':af}{k:AV->af->Prop}{pos px:XY}
theorem Ev.rev{e:Zt}{p1 p2 p3:XY}{z:Nat}(h:Ev X ρ O e λa ag=>∃l,a=.lst l/\l.length<=Y8/\k (.lst l.reverse) ag):Ev X ρ O (.Subscript e (.Slice ZT ZT (Z7 (.UnaryOp .USub (.Constant (.int 1) z p1) p2)) p3) pos) k:=Ev.slice (h.mono λa ag bH=>dE bH λl e hz hk=>by exists e;exact Ev.un (.int (.neg ⟨_,rfl,l,.lst,by decide,hz,by rw[adb];exact hk⟩)))
theorem Mq{rows:List (ZU×ZU)}{n:Int}(ah:Callee X Y (Z9 "_law_diff") (aT jo) 297 (.ref 296))(a9:X.A.depth+1<ZV)(hu:X.A.units+3<X1)(hz:rows.length<10^5)(hn:0<=n)(hr:∀r∈rows,r.1.length+r.2.length<=1000)(hk:k (.lst ((gu rows n).map .str)) O):Ex Y [(Z9 "rows",.lst (cY rows)),(Z9 "n",.int n)] [] (aV jo) ⟨λC C=>k .none O,λa O'=>∃r,vc O' a r/\k r O,λC C=>False,λC C=>False⟩:=by
 have ok:=ah.ok (by kernel_rfl);refine aR ah.env λL eL C=>?_;have lr:(cY rows).length=rows.length:=se rows;have sl:(10^6:Nat)<=Y8:=by exists Zs;decide
 have room:Y.A.depth<ZV:=by exists ah.depth.1;exact a9
 have uY:Y.A.units<X1:=by exists ah.depth.2;exact hu
 refine iY (b1:=(aV jo).take 6) (b2:=(aV jo).drop 6) ok eL ?_;refine ZP (by exists lr;exact(aD 0x2 0x32185a02811e1e06018060180601806018060180601825e1) hz) ?_;exists lr;generalize nE:min n (rows.length:Int)=n';refine⟨EO room ((ar 0x3 0x6430b405023c38106138461f7e041) hz sl) ?_⟩;refine aC.mk (Ev.rev (bO ok (n:=8) ?_));refine aC.mk (Ev.rev (Ev.aE ok rfl (cQ _ rfl ((au 0x4 0x32185a02811e3d0c38106138461f7e041) hz lr sl) ?_)));exists(show(cY rows).reverse=cY rows.reverse by simp[cY]);refine aC.mk (EO room (by exists V5;exact(ar 0x3 0x6430b405023c38106138461f7e041) hz sl) ?_);refine cQ _ rfl (by rw[Z4,vJ,V5];exact(ar 0x3 0x6430b405023c38106138461f7e041) hz sl) ?_;exists Zz Q3;refine aC.mk (Ev.list (.nil ⟨ZI _,λt C=>?_⟩));refine aC.mk (Ev.list (.nil ⟨ZI _,λh hh=>?_⟩));have vZ:h≠t:=by simpa using hh
 refine Ex.sub (ρ':=jA rows n' t h (f6 rows n' 0)) (cq.ok (by kernel_rfl)) ?_;refine Ex.cons (Es.down (Es.jD (λC=>rfl) (d0.uB rfl (ok.ld (by kernel_rfl) (by kernel_rfl)) (.cons rfl (bO ok (n:=8) ?_)))));refine ZP (by exists lr;exact(aD 0x2 0x32185a02811e1e06018060180601806018060180601825e1) hz) ?_;exists lr;refine cC.nil (fe _ rfl (aD 0x22 0xdc44f0dc300c0300c0300c0300c0300c0300c0af) ((aD 0x2 0x190c2d01408f0f0300c0300c0300c0300c0300c0300c0af889e1) hz) ?_);exists(show((rows.length:Int)+1).toNat=rows.length+1 by exact(ar 0x43 0xc1d889e2b077113c560bf5113c41) (@Zn ((↑rows.length:Int)+1)));refine⟨λi ρ' O'=>∃h,h≠t/\O'=kN t h (f6 rows n' i)/\Sub (jA rows n' t h (f6 rows n' i)) ρ',(cQ h vZ rfl (Sub.refl _)),λC C C C=>trivial,?_,?_⟩;·rintro i av ρ' O' hs c aN⟨h,vZ,rfl,bh⟩;refine aO (qK aN) λhi bS=>?_;exists bS;rw[XN];refine Tg.ex ok.holds ?_;refine Ex.sub (bh.cc _ _) (Mo ah a9 hu hz hr (yC rows n' i) ((ar 0x2 0x19889e20e041) hi) vZ λρ' h' wa hs'=>?_);rw[<-D2]at hs'⊢;exact⟨(cQ h' wa rfl hs'),(cQ h' wa rfl hs')⟩
 ·rintro ρ' O'⟨h,vZ,rfl,bh⟩;rw[show(dO 0 (rows.length+1)).length=rows.length+1 by simp[dO]]at*;refine aj _ bh ?_;have dF:gu rows n=if(f6 rows n' (rows.length+1)).told=[]then[]else[Z9 "--- \n",Z9 "+++ \n"]++(f6 rows n' (rows.length+1)).told:=by rw[gu,nE]
  obtain⟨v1,v2,v3,v4,v5,v6⟩:=yC rows n' (rows.length+1);generalize f6 rows n' (rows.length+1)=D at dF v5⊢;have hm:(t,aQ.list (D.told.map .str))∈kN t h D:=.tail _ (.head _);generalize kN t h D=R at hm⊢;refine run ok eL ?_;refine aC.mk (oF ok (n:=8) ?_);refine aC.mk (Ev.ll (.nil ⟨ZI _,?_⟩));refine aC.mk (Cm.AD uY (.inr (aj t rfl hm)) .lst ⟨λz=>?_,λz=>?_⟩)
  ·have bF:D.told≠[]:=by rintro e;replace z:=e▸z;simp at z
   replace hk:=(if_neg bF)▸dF▸hk;refine aC.mk (Ev.ll (ED ok (ρ:=jA rows n' t h D) 5 ?_));refine ZP (by decide) ?_;refine aC.mk (Bn.wn .lst (.inr (aj t rfl hm)) (by simp;exact(aU 0x85 0xc861680a0478f020c2708c3efc4e2278c6f8cc83787028846f) hz sl v5) (aj _ (.inl rfl) ?_));replace hk:=ZJ▸hk;exact hk
  ·have bF:D.told=[]:=by cases e:D.told with|nil=>rfl;|cons a l=>replace z:=e▸z;simp at z
   replace hk:=(if_pos bF)▸dF▸hk;exact aC.mk (Ev.ll (.nil (qs (ZI _) _ (.inl rfl) hk)))
theorem D8{rows:List (ZU×ZU)}{n:Int}(a9:X.A.depth+1<ZV)(hu:X.A.units+3<X1)(hz:rows.length<10^5)(hn:0<=n)(hr:∀r∈rows,r.1.length+r.2.length<=1000)(hk:k (.lst ((gu rows n).map .str)) O):aG X ρ O (.ref 297) [.lst (cY rows),.int n] k:=by refine aG.def (name:=Z9 "_law_diff") (params:=gb jo) (body:=aV jo) (scope:=aT jo) (pm:=_) (ca:=296) (doc:=_) (ns:=[Z9 "rows",Z9 "n"]) ((ar 0x2 0x191444f0e441) a9) (KX _) rfl (KW _) rfl rfl (λvs h=>?_) dk dk dk rfl rfl rfl λY ah=>Mq ah a9 hu hz hn hr hk;exact po h λC C=>rfl
end
noncomputable section
variable{X Y Z:Fx}{ρ aZ:Loc}{O O':af}{k:AV->af->Prop}{pos px:XY}
theorem KP(P:Zr):(aP P).get? 273=Z7 Bw:=by kernel_rfl
theorem KO(P:Zr):(aP P).get? 272=Z7 Ig:=by kernel_rfl
noncomputable def cT(l:List ZU):AV:=.lst (l.map .str)
theorem adZ(l:List ZU)(i j:Int)(hi:0<=i)(hj:0<=j):qG (l.map .str) (Z7 i) (Z7 j) ZT=(seg l i.toNat j.toNat).map .str:=by exists pick_run _ i j hi hj;exists TY;exact bG TZ rfl
noncomputable def yZ(a:List ZU)(S:ZU->Bool):AV->Option AV
 |.int p=>if S (a.getD p.toNat XZ)then Z7 (.int p)else ZT|_=>ZT
noncomputable def yX(S:ZU->Bool):AV->Option AV
 |.str x=>if S x then ZT else Z7 (.str x)|_=>ZT
theorem N1(S:ZU->Bool)(l:List ZU):((l.map AV.str).filterMap (yX S)).isEmpty=l.all S:=by induction l with|nil=>rfl;|cons x l ih=>exists Z2;exists YO;exists Ug;have e0:yX S (.str x)=if S x then ZT else Z7 (.str x):=rfl;exists e0;cases S x with|true=>exact ih;|false=>rfl
theorem N3(a:List ZU)(S:ZU->Bool)(ae V:Nat):(dO ae (V-ae)).filterMap (yZ a S)=(qI a S ae V).map λ(p:Nat)=>AV.int (p:Int):=by unfold dO qI;generalize Zh (V-ae)=r;induction r with|nil=>rfl;|cons t r ih=>
  exists Z2;exists YO;exists Z2;exists Yb;exists ih;have e:((ae:Int)+(t:Int)).toNat=ae+t:=by exact(au 0xc44 0x183b118ac1dc462b05fa88c41) (@Zn ((↑ae:Int)+(↑t:Int)))
  have e0:yZ a S (AV.int ((ae:Int)+(t:Int)))=if S (a.getD (ae+t) XZ)then Z7 (.int ((ae:Int)+(t:Int)))else ZT:=by exists Zz e;rfl
  exists e0;cases S (a.getD (ae+t) XZ)<;>rfl
noncomputable def oN(P:Nat->Bool):AV->Option AV
 |.int t=>if P t.toNat then Z7 (.int t)else ZT|_=>ZT
theorem EU(P:Nat->Bool)(n:Nat):(dO 0 n).filterMap (oN P)=(((Zh n).filter P).map λ(t:Nat)=>(t:Int)).map .int:=by unfold dO;induction Zh n with|nil=>rfl;|cons t r ih=>
  exists Z2;exists YO;exists Yb;exists ih;simp only[oN,XN,Y6];by_cases h:P t=ZW;·simp only[h,if_true,Z2]
  ·simp only[h,if_false];rfl
noncomputable def yY(i j:Nat):AV->Option AV
 |.int t=>Z7 (.tup [.int ((i:Int)+t),.int ((j:Int)+t)])|_=>ZT
theorem N2(i j n:Nat):(dO 0 n).filterMap (yY i j)=((Zh n).map λt=>(i+t,j+t)).map λ(p:Nat×Nat)=>AV.tup [.int p.1,.int p.2]:=by unfold dO;induction Zh n with|nil=>rfl;|cons t r ih=>rw[Z2,YO,Z2,Z2,<-ih];simp only[yY,XN];congr 1
theorem Aj{a b:List ZU}{S:ZU->Bool}:∀(d ae V aa I:Nat),V<=a.length->I<=b.length->ae<=V->aa<=I->(fK a b S d ae V aa I).length<=V-ae:=by intro N';induction N' with|zero=>exactλ_ _ _ _ _ _ _ _=>ZI _;|succ d ih=>
  intro ae V aa I ha hb h1 h2;have bi:=DF (S:=S) ha hb h1 h2;show(if(bc a b S ae V aa I).i=(bc a b S ae V aa I).p then[]else fK a b S d ae (bc a b S ae V aa I).i aa (bc a b S ae V aa I).j++((Zh ((bc a b S ae V aa I).p-(bc a b S ae V aa I).i)).map λt=>((bc a b S ae V aa I).i+t,(bc a b S ae V aa I).j+t))++fK a b S d (bc a b S ae V aa I).p V (bc a b S ae V aa I).q I).length<=_;split;·exact ZI _
  ·rw[ZQ,ZQ,Z4,Xj];have l1:=ih ae (bc a b S ae V aa I).i aa (bc a b S ae V aa I).j (by exact(uj 0x7 0x1808bfffffffc20ba918f22a309460a4c08f839b061e026) ha bi) (by exact(uj 0x8 0x1808bfffffffc24fa910b23a7024e0e6c20b8293041e027) hb bi) (by exact(pk 0x2 0x3fffffffc1cda9087231f083e0c5c107818b020e041) bi) (by exact(pk 0x2 0x3fffffffc1c5a910b211f083e041c18b8293041e041) bi);have l2:=ih (bc a b S ae V aa I).p V (bc a b S ae V aa I).q I (by exact(ar 0x2 0x3020e041) ha) (by exact(ar 0x2 0x3020e041) hb) (by exact(pk 0x2 0x3fffffffc1cda9105231f083e0c5c0458113041e022) bi) (by exact(pk 0x2 0x3fffffffc091a910b240b0116107c18b8293041e022) bi);exact Ar.aeG l1 l2 bi.1 bi.2.1 bi.2.2.1
theorem EH{a b:List ZU}{S:ZU->Bool}{V I p q:Nat}{st aW:dC}(h:¬aW.m<gF a b S V I p q)(hs:aW=st\/(st.m<aW.m/\aW.m<=gF a b S V I p q/\aW.i=p/\aW.j=q)):aW=m9 a b S V I p st q:=by
 unfold m9;rcases hs with rfl|⟨h1,h2,h3,h4⟩;·exact bG (if_neg h) rfl
 ·exists(if_pos (by exact(au 0x3 0x19187021e441) h1 h2));obtain⟨m,i,j⟩:=aW;simp only at*;exists h3;exists h4;congr 1;exact(ar 0x2 0x3d9107020e841) h h2
theorem La{a b:List ZU}{S:ZU->Bool}{V aa I:Nat}{ps:List Nat}{i p:Nat}{st:dC}(h:ps[i]?=Z7 p):pT a b S V aa I (ps.take (i+1)) st=m8 a b S V aa I p (I-aa) (pT a b S V aa I (ps.take i) st):=by unfold pT;exists YX;exists h;exists Yk;rfl
noncomputable def mG(w:ZD)(a b:List ZU)(S:ZU->Bool)(ae V aa I:Nat)(st:dC):Loc:=[(Z9 "j",.int st.j),(Z9 "i",.int st.i),(Z9 "most",.int st.m),(Z9 "bhi",.int I),(Z9 "blo",.int aa),(Z9 "ahi",.int V),(Z9 "alo",.int ae),(Z9 "rare",eM w S),(Z9 "b",cT b),(Z9 "a",cT a)]
noncomputable def Gm:List Y4:=eH (bB (aV eR) 1)
noncomputable def An:List Y4:=eH (bB Gm 0)
theorem Ev.seg{e:Zt}{lo hi:Zt}{p3:XY}{l:List ZU}{i j:Nat}(hl:l.length<=Y8)(h:Ev X ρ O e λa ag=>a=cT l/\Ev X ρ ag lo λx aM=>x=.int i/\Ev X ρ aM hi λy eW=>y=.int j/\k (cT (seg l i j)) eW):Ev X ρ O (.Subscript e (.Slice (Z7 lo) (Z7 hi) ZT p3) pos) k:=Ev.slice (h.mono λa ag b7=>aO b7 λe1 z=>z.mono λx aM cy=>aO cy λe2 z=>⟨i,e2,z.mono λy eW cx=>aO cx λe3 z=>⟨j,e3,by exists e1;refine⟨_,.lst,by decide,by rw[Z4];exact hl,?_⟩;rw[adZ _ _ _ (YD i) (YD j),Y6,Y6];exact z⟩⟩)
end
noncomputable section
variable{X Y Z:Fx}{ρ aZ:Loc}{O O':af}{k:AV->af->Prop}{pos px:XY}
noncomputable def whT:Y4->Zt
 |.While t _ _ _=>t|_=>default
noncomputable def nM(w:ZD)(a b:List ZU)(S:ZU->Bool)(ae V aa I p q:Nat)(st:dC):Loc:=(Z9 "q",.int q)::(Z9 "p",.int p)::mG w a b S ae V aa I st
theorem aaR{w:ZD}{a b:List ZU}{S:ZU->Bool}{ae V aa I p q:Nat}{st:dC}(h:jW (nM w a b S ae V aa I p q st) ρ):Sub (nM w a b S ae V aa I p q st) ρ:=h.ok
theorem aaX{w:ZD}{a b:List ZU}{S:ZU->Bool}{ae V aa I p q L:Nat}{st:dC}{kb:Bool->af->Prop}(ok:Ok Z (λx=>(aT eR).names.lookup x) bK)(uZ:Z.A.units<X1)(ha:a.length<10^5)(hb:b.length<10^5)(h2:V<=a.length)(h4:I<=b.length)(h:kb (decide (p+st.m<V/\q+st.m<I/\seg a p (p+st.m+1)=seg b q (q+st.m+1))) O):Ts Z (nM w a b S ae V aa I p q st) O (whT (bB An 0)) kb:=by
 have sl:(10^6:Nat)<=Y8:=by exists Zs;decide
 refine Ts.to _ (d5 ok (n:=9) ?_) h;refine ZP (λz1=>?_) (λz1=>?_)
 ·have z1:p+st.m<V:=by have:=of_decide_eq_true z1;exact(au 0x2 0x383888391c441) this
  refine ZP (λz2=>?_) (λz2=>?_)
  ·have z2:q+st.m<I:=by have:=of_decide_eq_true z2;exact(au 0x2 0x383888391c441) this
   refine aC.mk (Ev.seg (i:=p) (j:=p+st.m+1) (l:=a) ((ar 0x3 0x6430b405023c38106138461f7e041) ha sl) (Ev.aE ok rfl ⟨rfl,Ev.aE ok rfl ⟨rfl,bO ok (n:=6) ?_⟩⟩));refine ZP (congrArg AV.int (ar 0x1 0x3b6889f1106227c441)) ?_;refine aC.mk (Ev.seg (i:=q) (j:=q+st.m+1) (l:=b) ((ar 0x3 0x6430b405023c38106138461f7e041) hb sl) (Ev.aE ok rfl ⟨rfl,Ev.aE ok rfl ⟨rfl,bO ok (n:=6) ?_⟩⟩));refine ZP (congrArg AV.int (ar 0x1 0x3b6889f1106227c441)) ?_;refine aC.mk (Cm.vA uZ .lst .lst ?_);refine⟨λy=>?_,λy=>?_⟩;·exact⟨(decide_eq_true (bM z1 z2 (eq_of_beq y))).symm,rfl⟩
   ·exact⟨(decide_eq_false λw=>(by rw[beq_eq_false_iff_ne]at y;exact y w.2.2)).symm,rfl⟩
  ·have z2:¬q+st.m<I:=by have:=of_decide_eq_false z2;exact(au 0x2 0xf7071107d91c441) this
   exact⟨(decide_eq_false λw=>z2 w.2.1).symm,rfl⟩
 ·have z1:¬p+st.m<V:=by have:=of_decide_eq_false z1;exact(au 0x2 0xf7071107d91c441) this
  exact⟨(decide_eq_false λw=>z1 w.1).symm,rfl⟩
theorem aaY{w:ZD}{a b:List ZU}{S:ZU->Bool}{ae V aa I p q L:Nat}{st:dC}{K:Kn}{hs hs':List (Z1×Zp)}{c:gK Y (hs.map (·.1))}{c':gK (Y.holds hs c) (hs'.map (·.1))}(ah:Callee X Y (Z9 "_law_kept") (aT eR) 273 (.ref 272))(hw:Y.w=w)(uY:Y.A.units<X1)(ha:a.length<10^5)(hb:b.length<10^5)(h2:V<=a.length)(hm:p+st.m<V)(h:((seg a p (p+st.m+1)).all S=ZS->K.bk (nM w a b S ae V aa I p q st) O)/\((seg a p (p+st.m+1)).all S=ZW->∀ρ',Sub (nM w a b S ae V aa I p q ⟨st.m+1,p,q⟩) ρ'->K.nx ρ' O)):Ex ((Y.holds hs c).holds hs' c') (nM w a b S ae V aa I p q st) O (eH (bB An 0)) K:=by
 have sl:(10^6:Nat)<=Y8:=by exists Zs;decide
 have ok:=((ah.ok (by kernel_rfl)).holds (hs:=hs) (c:=c)).holds (hs:=hs') (c:=c');have uZ:((Y.holds hs c).holds hs' c').A.units<X1:=uY;refine aR ah.env λL f7 C=>?_;have eL:((Y.holds hs c).holds hs' c').env=_:=f7;refine run ok eL ?_;refine aC.mk (Ev.l6 (yX S) (jY (aZ:=[(Z9 "rare",eM w S)]) ah dk rfl dk dk ?_).holds.holds (λC=>rfl) (It.lst (Ev.seg (i:=p) (j:=p+st.m+1) (l:=a) ((ar 0x3 0x6430b405023c38106138461f7e041) ha sl) (Ev.aE ok rfl ⟨rfl,Ev.aE ok rfl ⟨rfl,bO ok (n:=6) ?_⟩⟩))));·intro p hp;simp only[ZZ,YU,or_false]at hp;exists hp;exact⟨rfl,by show YA (Z9 "rare") _=_;exact dk⟩
 refine wi (congrArg AV.int (by exact ar 0x1 0x3b6889f1106227c441)) _ rfl (by rw[Z4,l8 _ _ _ (by exact(aU 0x3 0xc089924461c0a227c461) h2 hm)];exact(bQ 0x46 0x32185a02811e4c10b92c422c0c309c230fbf0390a227c422) ha h2 hm sl) (λY' KY t av Oc aN=>?_) ?_
 ·refine dn (YN aN) λx C=>?_;have bN:=KY.ok dk (by kernel_rfl);refine Tg.ex bN ?_;refine d5 bN (n:=6) ?_;refine aC.mk (Cm.ack (KY.1.trans hw).symm (bM rfl (λy=>bO bN (n:=5) ?_) (λy=>?_)))
  ·refine ZP rfl ?_;have:S x=ZS:=by simpa using y
   exact if_neg (by exists this;exact Ze)
  ·have:S x=ZW:=by simpa using y
   exact if_pos this
 refine aC.mk (Ev.ll (.nil ⟨ZI _,?_⟩));refine aC.mk (Cm.AD uZ .lst .lst ?_);rw[N1];refine⟨λy=>?_,λy=>?_⟩;·exact h.1 (by simpa using y)
 ·exact h.2 (by simpa using y) _ (aaR ⟨(aj _ rfl rfl),(aj _ rfl rfl),(aj _ rfl rfl),(aj _ rfl rfl),(aj _ rfl rfl),(aj _ rfl rfl),(aj _ rfl rfl),(aj _ rfl rfl),(aj _ rfl rfl),(aj _ rfl rfl),(aj _ rfl rfl),(aj _ rfl rfl),trivial⟩)
end
noncomputable section
variable{X Y Z:Fx}{ρ aZ:Loc}{O O':af}{k:AV->af->Prop}{pos px:XY}
theorem aaZ{w:ZD}{a b:List ZU}{S:ZU->Bool}{ae V aa I p q:Nat}{st:dC}{K:Kn}{hs hs':List (Z1×Zp)}{c:gK Y (hs.map (·.1))}{c':gK (Y.holds hs c) (hs'.map (·.1))}(ah:Callee X Y (Z9 "_law_kept") (aT eR) 273 (.ref 272))(hw:Y.w=w)(uY:Y.A.units<X1)(ha:a.length<10^5)(hb:b.length<10^5)(h2:V<=a.length)(h4:I<=b.length)(h:∀ρ',Sub (nM w a b S ae V aa I p q (m9 a b S V I p st q)) ρ'->K.nx ρ' O):Es ((Y.holds hs c).holds hs' c') (nM w a b S ae V aa I p q st) O (bB An 0) K:=by
 have ok:=((ah.ok (by kernel_rfl)).holds (hs:=hs) (c:=c)).holds (hs:=hs') (c:=c');refine Es.down (Es.sN (λaW=>nM w a b S ae V aa I p q aW) (λC=>O) (λaW=>gF a b S V I p q-aW.m) (λaW=>aW=st\/(st.m<aW.m/\aW.m<=gF a b S V I p q/\aW.i=p/\aW.j=q)) st (.inl rfl) ?_);intro aW zX;refine aaX (L:=0) ok uY ha hb h2 h4 ⟨λz=>?_,λz=>?_⟩
 ·have z:=of_decide_eq_true z;refine Ex.down (aaY (L:=0) ah hw uY ha hb h2 z.1 ⟨λy=>?_,λy ρ' hs'=>?_⟩)
  ·have:¬aW.m<gF a b S V I p q:=λv=>by have:=((At h2 h4).mp v).2;replace y:=this▸y;cases y
   exists EH this zX;exact F5 _ (Sub.refl _) _ (Sub.refl _) (h _ (Sub.refl _))
  ·have bC:aW.m<gF a b S V I p q:=(At h2 h4).mpr ⟨z,y⟩;refine wj _ hs' ⟨aW.m+1,p,q⟩ (by show gF a b S V I p q-(aW.m+1)<_;exact(ar 0x2 0x1908b321065113c41) bC) (.inr (k9 ?_ bC rfl rfl)) rfl rfl;rcases zX with rfl|⟨w1,C⟩;·exact Wh _
   ·exact VL w1
 ·have z:=of_decide_eq_false z;have:¬aW.m<gF a b S V I p q:=λv=>z ((At h2 h4).mp v).1;exists EH this zX;exact aj _ (Sub.refl _) (h _ (Sub.refl _))
theorem aaW{w:ZD}{a b:List ZU}{S:ZU->Bool}{ae V aa I p:Nat}{lE:dC}{K:Kn}{hs:List (Z1×Zp)}{c:gK Y (hs.map (·.1))}(ah:Callee X Y (Z9 "_law_kept") (aT eR) 273 (.ref 272))(hw:Y.w=w)(uY:Y.A.units<X1)(ha:a.length<10^5)(hb:b.length<10^5)(h2:V<=a.length)(h3:aa<=I)(h4:I<=b.length)(h:∀ρ',Sub (mG w a b S ae V aa I (m8 a b S V aa I p (I-aa) lE)) ρ'->K.nx ρ' O):Es (Y.holds hs c) ((Z9 "p",.int p)::mG w a b S ae V aa I lE) O (bB Gm 0) K:=by
 have ok:=(ah.ok (by kernel_rfl)).holds (hs:=hs) (c:=c);refine Es.jD (λC=>rfl) (d0.uC rfl (ok.ld (by kernel_rfl) (by kernel_rfl)) (.cons rfl (Ev.aE ok rfl (.cons rfl (Ev.aE ok rfl (cC.nil (pe aa I rfl (aD 0x22 0x1b0dc300c0300c0300c0300c0300c0300c0af) ((au 0x4 0xc861680a0478b030e043e06018060180601806018060180601815e1) hb h3 h4) (aD 0x22 0x1b0dc300c0300c0300c0300c0300c0300c0af) ((ar 0x3 0x190c2d01408f16041e06018060180601806018060180601815e1) hb h4) ?_)))))));exists(show((I:Int)-aa).toNat=I-aa by exact(au 0x3 0x3076430d85b90c360bc60d05e2dd82f90c3a90c22) (@Zn ((↑I:Int)-(↑aa:Int))) (@YR ((↑I:Int)-(↑aa:Int))));refine fe (λt ρ' O'=>O'=O/\Sub ((Z9 "p",.int p)::mG w a b S ae V aa I (m8 a b S V aa I p t lE)) ρ') ⟨rfl,Sub.refl _⟩ (λC C C C=>trivial) ?_ ?_;·rintro t av ρ' O' hs' c' aN⟨rfl,bh⟩;refine aO (qK aN) λht b5=>?_;exists b5;exists(show((aa:Int)+(t:Int))=((aa+t:Nat):Int)by exact ar 0x1 0xeda220c441);refine Tg.ex ok.holds ?_;refine Ex.sub (bh.cc _ _) (Ex.cons (aaZ ah hw uY ha hb h2 h4 λeU jf=>Ex.nil ⟨rfl,?_⟩));rw[yt];refine Sub.trans ?_ jf;exact cq.ok (by kernel_rfl)
 ·rintro ρ' O'⟨rfl,bh⟩;replace bh:=sd▸bh;exact h _ (Sub.trans (cq.ok (by kernel_rfl)) bh)
end
noncomputable section
variable{X Y Z:Fx}{ρ aZ:Loc}{O O':af}{k:AV->af->Prop}{pos px:XY}
noncomputable def Dl:Y4->Zt
 |.Assign _ e _=>e|_=>default
theorem aaV{w:ZD}{a b:List ZU}{S:ZU->Bool}{ae V aa I:Nat}{K:Kn}(ah:Callee X Y (Z9 "_law_kept") (aT eR) 273 (.ref 272))(hw:Y.w=w)(uY:Y.A.units<X1)(ha:a.length<10^5)(hb:b.length<10^5)(h1:ae<=V)(h2:V<=a.length)(h3:aa<=I)(h4:I<=b.length)(h:∀ρ',Sub (mG w a b S ae V aa I (i9 a b S ae V aa I)) ρ'->K.nx ρ' O):Es Y (mG w a b S ae V aa I ⟨0,ae,aa⟩) O (bB (aV eR) 1) K:=by
 have ok:=ah.ok (by kernel_rfl);have sl:(10^6:Nat)<=Y8:=by exists Zs;decide
 refine Es.jD (λC=>rfl) (d0.lst (Ev.l6 (yZ a S) (jY (aZ:=[(Z9 "a",cT a),(Z9 "rare",eM w S)]) ah dk rfl dk dk ?_) (λC=>rfl) (It.uC rfl (ok.ld (by kernel_rfl) (by kernel_rfl)) (.cons rfl (Ev.aE ok rfl (.cons rfl (Ev.aE ok rfl (cC.nil ⟨ae,V,rfl,aD 0x22 0x1b0dc300c0300c0300c0300c0300c0300c0af,(au 0x4 0xc861680a0478b030e043e06018060180601806018060180601815e1) ha h1 h2,aD 0x22 0x1b0dc300c0300c0300c0300c0300c0300c0af,(ar 0x3 0x190c2d01408f16041e06018060180601806018060180601815e1) ha h2,?_⟩))))))))
 ·intro p hp;simp only[ZZ,YU,or_false]at hp;rcases hp with rfl|rfl;·exact⟨rfl,by show YA (Z9 "a") _=_;exact dk⟩
  ·exact⟨rfl,by show YA (Z9 "rare") _=_;exact dk⟩
 exists(show((V:Int)-ae).toNat=V-ae by exact(au 0x3 0x3076430d85b90c360bc60d05e2dd82f90c3a90c22) (@Zn ((↑V:Int)-(↑ae:Int))) (@YR ((↑V:Int)-(↑ae:Int))));refine bM (by exists sd;exact(aU 0x45 0xc861680a04793040e06184e1187df81c841) ha h2 sl) (λY' KY i av Oc aN=>?_) ?_
 ·refine aO (qK aN) λhi b6=>?_;exists b6;have bN:=KY.ok dk (by kernel_rfl);have e:((ae:Int)+(i:Int)).toNat=ae+i:=(au 0xc44 0x183b118ac1dc462b05fa88c41) (@Zn ((↑ae:Int)+(↑i:Int)));refine Tg.ex bN ?_;refine d5 bN (n:=6) ?_;refine aC.mk (Ev.sub (Ev.aE bN rfl (Ev.aE bN rfl (Ix.list (x:=.str (a.getD (ae+i) XZ)) trivial .lst (ar 0x823 0x3711042f) ((aU 0x45 0xc861680a0478f032664120b818060180601806018060180601806097c441) ha h2 hi) ?_ ?_))));·exists e;exists ZN;exists Zj;exists Z0 ((aU 0x44 0x1819332090591c441) h2 hi);rfl
  refine aC.mk (Cm.inS (KY.1.trans hw).symm (bM rfl (λz=>bO bN (n:=5) ?_) (λz=>?_)));·refine ZP rfl ?_;exact if_pos (by exists e;exact z)
  ·exact if_neg (by exists e;exists z;exact Ze)
 rw[N3];refine wj _ rfl (λi ρ' O'=>O'=O/\Sub (mG w a b S ae V aa I (pT a b S V aa I ((qI a S ae V).take i) ⟨0,ae,aa⟩)) ρ') ⟨rfl,Sub.refl _⟩ (λC C C C=>trivial) ?_ ?_;·rintro i av ρ' O' hs c aN⟨rfl,bh⟩;replace aN:=ZN▸aN;cases hp:(qI a S ae V)[i]? with|none=>replace aN:=hp▸aN;cases aN;|some p=>replace aN:=hp▸aN;cases aN;refine Tg.ex ok.holds ?_;refine Ex.sub (bh.cc _ _) (Ex.cons (aaW ah hw uY ha hb h2 h3 h4 λeU jf=>Ex.nil ⟨rfl,?_⟩));exists La hp;exact jf
 ·rintro ρ' O'⟨rfl,bh⟩;rw[Z4,Yn]at bh;exact h _ bh
theorem aaS{w:ZD}{a b:List ZU}{S:ZU->Bool}{ae V aa I back:Nat}{st:dC}(ah:Callee X Y (Z9 "_law_kept") (aT eR) 273 (.ref 272))(uY:Y.A.units<X1)(ha:a.length<10^5)(hb:b.length<10^5)(h1:st.i<=a.length)(h2:st.j<=b.length)(ai:ae<=st.i)(bj:aa<=st.j)(rE:mx (λt=>seg a (st.i-t) st.i==seg b (st.j-t) st.j) (min (st.i-ae) (st.j-aa))=back)(hk:k (.int back) O):Ev Y (mG w a b S ae V aa I st) O (Dl (bB (aV eR) 2)) k:=by
 have ok:=ah.ok (by kernel_rfl);have sl:(10^6:Nat)<=Y8:=by exists Zs;decide
 have OC:(λt=>seg a (st.i-t) st.i==seg b (st.j-t) st.j) 0=ZW:=by simp[seg]
 refine bO ok (n:=9) ?_;refine aC.mk (Ev.l6 (oN λt=>seg a (st.i-t) st.i==seg b (st.j-t) st.j) (jY (aZ:=[(Z9 "a",cT a),(Z9 "i",.int st.i),(Z9 "b",cT b),(Z9 "j",.int st.j)]) ah dk rfl dk dk ?_) (λC=>rfl) (It.uB rfl (ok.ld (by kernel_rfl) (by kernel_rfl)) (.cons rfl (bO ok (n:=8) ?_))))
 ·intro p hp;simp only[ZZ,YU,or_false]at hp;rcases hp with rfl|rfl|rfl|rfl;·exact⟨rfl,by show YA (Z9 "a") _=_;exact dk⟩
  ·exact⟨rfl,by show YA (Z9 "i") _=_;exact dk⟩
  ·exact⟨rfl,by show YA (Z9 "b") _=_;exact dk⟩
  ·exact⟨rfl,by show YA (Z9 "j") _=_;exact dk⟩
 refine cC.nil ⟨_,rfl,(aU 0x3 0xc04781137113e9220a430dc300c0300c0300c0300c0300c0300c0af) ai bj,(bQ 0x65 0x32185a02811e4c105c0c0300c0300c0300c0300c0300c0302be227d243148a1) hb h2,?_⟩;exists(show(min ((st.i:Int)-ae) ((st.j:Int)-aa)+1).toNat=min (st.i-ae) (st.j-aa)+1 from Ar.DM ai bj);refine bM (by exists sd;exact(gC 0x66 0x6430b405023cb828b040c2708c3efc12227d243148c1) hb h2 sl) (λY' KY t av Oc aN=>?_) ?_
 ·refine aO (qK aN) λht bJ=>?_;exists bJ;rw[XN];have bN:=KY.ok dk (by kernel_rfl);have uK:Y'.A.units<X1:=by exists KY.2.1;exact uY
  refine Tg.ex bN ?_;refine d5 bN (n:=6) ?_;refine aC.mk (Ev.seg (i:=st.i-t) (j:=st.i) (l:=a) ((ar 0x3 0x6430b405023c38106138461f7e041) ha sl) (Ev.aE bN rfl ⟨rfl,bO bN (n:=6) ?_⟩));refine ZP (congrArg AV.int ((bQ 0x885 0xcc44fa482590883eda4324864) ht)) (Ev.aE bN rfl ⟨rfl,?_⟩);refine aC.mk (Ev.seg (i:=st.j-t) (j:=st.j) (l:=b) ((ar 0x3 0x6430b405023c38106138461f7e041) hb sl) (Ev.aE bN rfl ⟨rfl,bO bN (n:=6) ?_⟩));refine ZP (congrArg AV.int ((bQ 0x885 0xcc44fa4844904a3eda4324864) ht)) (Ev.aE bN rfl ⟨rfl,?_⟩);refine aC.mk (Cm.vA uK .lst .lst (bM rfl (λy=>bO bN (n:=5) ?_) (λy=>?_)));·refine ZP rfl ?_;simp only[oN,Y6];exact bG (if_pos y) rfl
  ·simp only[oN,Y6];exact bG (if_neg (by exists y;decide)) rfl
 rw[EU];refine aC.mk (aG.G0 (m:=(back:Int)) .lst ?_ ?_ hk);·exists Zz rE;exact ZY.mpr (aj _ (X0.mpr ⟨X4.mpr (Rd (mO _ _)),wC (λt=>seg a (st.i-t) st.i==seg b (st.j-t) st.j) OC _⟩) rfl)
 ·intro y hy;refine dn hy λt ht=>?_;refine aO (X0.mp ht) λzY zZ=>?_;have:=ul (λt=>seg a (st.i-t) st.i==seg b (st.j-t) st.j) _ t (VM (X4.mp zY)) zZ;replace this:=rE▸this;exact_mod_cast this
end
noncomputable section
variable{X Y Z:Fx}{ρ aZ:Loc}{O O':af}{k:AV->af->Prop}{pos px:XY}
noncomputable def Go(w:ZD)(a b:List ZU)(S:ZU->Bool)(ae V aa I back p q:Nat)(st:dC):Loc:=(Z9 "q",.int q)::(Z9 "p",.int p)::(Z9 "back",.int back)::mG w a b S ae V aa I st
theorem aaU{w:ZD}{a b:List ZU}{S:ZU->Bool}{ae V aa I back on p q:Nat}{st:dC}(ah:Callee X Y (Z9 "_law_kept") (aT eR) 273 (.ref 272))(uY:Y.A.units<X1)(ha:a.length<10^5)(hb:b.length<10^5)(h1:V<=a.length)(h2:I<=b.length)(ai:p<=V)(bj:q<=I)(rK:mx (λt=>seg a p (p+t)==seg b q (q+t)) (min (V-p) (I-q))=on)(hk:k (.int on) O):Ev Y (Go w a b S ae V aa I back p q st) O (Dl (bB (aV eR) 4)) k:=by
 have ok:=ah.ok (by kernel_rfl);have sl:(10^6:Nat)<=Y8:=by exists Zs;decide
 have OD:(λt=>seg a p (p+t)==seg b q (q+t)) 0=ZW:=by simp[seg]
 refine bO ok (n:=9) ?_;refine aC.mk (Ev.l6 (oN λt=>seg a p (p+t)==seg b q (q+t)) (jY (aZ:=[(Z9 "a",cT a),(Z9 "p",.int p),(Z9 "b",cT b),(Z9 "q",.int q)]) ah dk rfl dk dk ?_) (λC=>rfl) (It.uB rfl (ok.ld (by kernel_rfl) (by kernel_rfl)) (.cons rfl (bO ok (n:=8) ?_))))
 ·intro p hp;simp only[ZZ,YU,or_false]at hp;rcases hp with rfl|rfl|rfl|rfl;·exact⟨rfl,by show YA (Z9 "a") _=_;exact dk⟩
  ·exact⟨rfl,by show YA (Z9 "p") _=_;exact dk⟩
  ·exact⟨rfl,by show YA (Z9 "b") _=_;exact dk⟩
  ·exact⟨rfl,by show YA (Z9 "q") _=_;exact dk⟩
 refine cC.nil ⟨_,rfl,(aU 0x3 0xc04781137113e9220a430dc300c0300c0300c0300c0300c0300c0af) ai bj,(bQ 0x65 0x32185a02811e4c105c0c0300c0300c0300c0300c0300c0302be227d243148a1) hb h2,?_⟩;exists(show(min ((V:Int)-p) ((I:Int)-q)+1).toNat=min (V-p) (I-q)+1 from Ar.DM ai bj);refine bM (by exists sd;exact(gC 0x66 0x6430b405023cb828b040c2708c3efc12227d243148c1) hb h2 sl) (λY' KY t av Oc aN=>?_) ?_
 ·refine aO (qK aN) λht cx=>?_;exists cx;rw[XN];have bN:=KY.ok dk (by kernel_rfl);have uK:Y'.A.units<X1:=by exists KY.2.1;exact uY
  refine Tg.ex bN ?_;refine d5 bN (n:=6) ?_;refine aC.mk (Ev.seg (i:=p) (j:=p+t) (l:=a) ((ar 0x3 0x6430b405023c38106138461f7e041) ha sl) (Ev.aE bN rfl ⟨rfl,Ev.aE bN rfl ⟨rfl,bO bN (n:=6) ?_⟩⟩));refine ZP (congrArg AV.int (ar 0x1 0xeda220c441)) ?_;refine aC.mk (Ev.seg (i:=q) (j:=q+t) (l:=b) ((ar 0x3 0x6430b405023c38106138461f7e041) hb sl) (Ev.aE bN rfl ⟨rfl,Ev.aE bN rfl ⟨rfl,bO bN (n:=6) ?_⟩⟩));refine ZP (congrArg AV.int (ar 0x1 0xeda220c441)) ?_;refine aC.mk (Cm.vA uK .lst .lst (bM rfl (λy=>bO bN (n:=5) ?_) (λy=>?_)));·refine ZP rfl ?_;simp only[oN,Y6];exact bG (if_pos y) rfl
  ·simp only[oN,Y6];exact bG (if_neg (by exists y;decide)) rfl
 rw[EU];refine aC.mk (aG.G0 (m:=(on:Int)) .lst ?_ ?_ hk);·exists Zz rK;exact ZY.mpr (aj _ (X0.mpr ⟨X4.mpr (Rd (mO _ _)),wC (λt=>seg a p (p+t)==seg b q (q+t)) OD _⟩) rfl)
 ·intro y hy;refine dn hy λt ht=>?_;refine aO (X0.mp ht) λzY zZ=>?_;have:=ul (λt=>seg a p (p+t)==seg b q (q+t)) _ t (VM (X4.mp zY)) zZ;rw[rK]at this;exact_mod_cast this
noncomputable def Gn(w:ZD)(a b:List ZU)(S:ZU->Bool)(ae V aa I i j p q:Nat):Loc:=[(Z9 "q",.int q),(Z9 "p",.int p),(Z9 "j",.int j),(Z9 "i",.int i),(Z9 "bhi",.int I),(Z9 "blo",.int aa),(Z9 "ahi",.int V),(Z9 "alo",.int ae),(Z9 "rare",eM w S),(Z9 "b",cT b),(Z9 "a",cT a)]
noncomputable def qF(l:List (Nat×Nat)):AV:=.lst (l.map λp=>.tup [.int p.1,.int p.2])
theorem aaT{w:ZD}{a b:List ZU}{S:ZU->Bool}{ae V aa I i j p q:Nat}{l1 l2:List (Nat×Nat)}{K:Kn}(ah:Callee X Y (Z9 "_law_kept") (aT eR) 273 (.ref 272))(ha:a.length<10^5)(v9:l1.length<=10^5)(zH:l2.length<=10^5)(Pi:i<=p)(hp:p<=a.length)(c1:∀{ρ:Loc}{k:AV->af->Prop},k (qF l1) O->aG Y ρ O (.ref 273) [cT a,cT b,eM w S,.int ae,.int i,.int aa,.int j] k)(c2:∀{ρ:Loc}{k:AV->af->Prop},k (qF l2) O->aG Y ρ O (.ref 273) [cT a,cT b,eM w S,.int p,.int V,.int q,.int I] k)(hk:i=p->K.rt (.lst []) O)(tK:i≠p->K.rt (qF (l1++((Zh (p-i)).map λt=>(i+t,j+t))++l2)) O):Ex Y (Gn w a b S ae V aa I i j p q) O ((aV eR).drop 6) K:=by
 have ok:=ah.ok (by kernel_rfl);refine aR ah.env λL eL C=>?_;have sl:(10^6:Nat)<=Y8:=by exists Zs;decide
 refine run ok eL ?_;refine ZP (λy=>?_) (λy=>?_)
 ·have y:i=p:=by exact_mod_cast eq_of_beq y
  exact aC.mk (Ev.ll (.nil ⟨ZI _,hk y⟩))
 ·have y:i≠p:=λz=>by have:((i:Int)==(p:Int))=ZW:=beq_iff_eq.mpr ((ar 0x2 0x3420f441) z);exact absurd (this.symm.trans y) (by decide)
  refine aC.mk (c1 ?_);refine aC.mk (Ev.l6 (yY i j) (jY (aZ:=[(Z9 "i",.int i),(Z9 "j",.int j)]) ah dk rfl dk dk ?_) (λC=>rfl) (It.uB rfl (ok.ld (by kernel_rfl) (by kernel_rfl)) (.cons rfl (bO ok (n:=8) ?_))))
  ·intro p hp;simp only[ZZ,YU,or_false]at hp;rcases hp with rfl|rfl;·exact⟨rfl,by show YA (Z9 "i") _=_;exact dk⟩
   ·exact⟨rfl,by show YA (Z9 "j") _=_;exact dk⟩
  refine cC.nil ⟨_,rfl,(ar 0x2 0x30116e420dc300c0300c0300c0300c0300c0300c0af) Pi,(au 0x44 0x6430b405023c78187818060180601806018060180601806057c841) ha hp,?_⟩;exists(show((p:Int)-(i:Int)).toNat=p-i by exact(au 0x3 0x3076430d85b90c360bc60d05e2dd82f90c3a90c22) (@Zn ((↑p:Int)-(↑i:Int))) (@YR ((↑p:Int)-(↑i:Int))));refine bM (by exists sd;exact(aU 0x45 0xc861680a04793040e06184e1187df81c841) ha hp sl) (λY' KY t av Oc aN=>?_) ?_;·refine aO (qK aN) λht bS=>?_;exists bS;rw[XN];have bN:=KY.ok dk (by kernel_rfl);refine Tg.ex bN ?_;refine bM rfl (λC=>bO bN (n:=6) ?_) (λz=>nomatch z);exact ZP rfl rfl
  rw[N2];refine aC.mk (Bn.wn .lst .lst (by simp;exact(bQ 0x66 0xc861680a047970185a02811e2c1438206138461f7e09190c22) ha v9 hp sl) ?_);refine aC.mk (c2 ?_);refine aC.mk (Bn.wn .lst .lst (by simp;exact(gC 0x67 0xc861680a0479b0185a02811e2c061680a04793060e0a184e1187df82c49190c22) ha v9 zH hp sl) ?_);have:=tK y;unfold qF at this;rw[ZJ,ZJ]at this;exact this
end
noncomputable section
variable{X Y Z:Fx}{ρ aZ:Loc}{O O':af}{k:AV->af->Prop}{pos px:XY}
theorem aax{w:ZD}{a b:List ZU}{S:ZU->Bool}(d:Nat)(ha:a.length<10^5)(hb:b.length<10^5)(ih:∀{X:Fx}{ρ:Loc}{O:af}{k:AV->af->Prop}{ae V aa I:Nat},X.w=w->gm a b S d ae V aa I->X.A.depth+d<ZV->X.A.units+3*d<X1->ae<=V->V<=a.length->aa<=I->I<=b.length->k (qF (fK a b S d ae V aa I)) O->aG X ρ O (.ref 273) [cT a,cT b,eM w S,.int ae,.int V,.int aa,.int I] k){ae V aa I:Nat}(hw:X.w=w)(hd:gm a b S (d+1) ae V aa I)(a9:X.A.depth+(d+1)<ZV)(hu:X.A.units+3*(d+1)<X1)(h1:ae<=V)(h2:V<=a.length)(h3:aa<=I)(h4:I<=b.length)(hk:k (qF (fK a b S (d+1) ae V aa I)) O)(ah:Callee X Y (Z9 "_law_kept") (aT eR) 273 (.ref 272)):Ex Y [(Z9 "a",cT a),(Z9 "b",cT b),(Z9 "rare",eM w S),(Z9 "alo",.int ae),(Z9 "ahi",.int V),(Z9 "blo",.int aa),(Z9 "bhi",.int I)] [] (aV eR) ⟨λC C=>k .none O,λa O'=>∃r,vc O' a r/\k r O,λC C=>False,λC C=>False⟩:=by
 have ok:=ah.ok (by kernel_rfl);refine aR ah.env λL eL C=>?_;have uY:Y.A.units<X1:=by exists ah.depth.2;exact(au 0x43 0x191c67113c4478723891e1) hu
 have z5:Y.w=w:=ah.w.trans hw;have bin:=vi (S:=S) h2 h4 h1 h3;obtain⟨b1,b2,b3,b4⟩:=bin;have zF:fK a b S (d+1) ae V aa I=(if(bc a b S ae V aa I).i=(bc a b S ae V aa I).p then[]else fK a b S d ae (bc a b S ae V aa I).i aa (bc a b S ae V aa I).j++((Zh ((bc a b S ae V aa I).p-(bc a b S ae V aa I).i)).map λt=>((bc a b S ae V aa I).i+t,(bc a b S ae V aa I).j+t))++fK a b S d (bc a b S ae V aa I).p V (bc a b S ae V aa I).q I):=rfl;have zr:(bc a b S ae V aa I).i=(bc a b S ae V aa I).p\/(gm a b S d ae (bc a b S ae V aa I).i aa (bc a b S ae V aa I).j/\gm a b S d (bc a b S ae V aa I).p V (bc a b S ae V aa I).q I):=hd;refine iY (b1:=(aV eR).take 1) (b2:=(aV eR).drop 1) ok eL ?_;refine Ex.sub (ρ':=mG w a b S ae V aa I ⟨0,ae,aa⟩) (cq.ok (by kernel_rfl)) ?_;refine Ex.cons (aaV ah z5 uY ha hb h1 h2 h3 h4 λρ' bh=>Ex.sub bh ?_);obtain⟨st,jJ⟩:∃st,i9 a b S ae V aa I=st:=⟨_,rfl⟩;obtain⟨back,rE⟩:∃back,mx (λt=>seg a (st.i-t) st.i==seg b (st.j-t) st.j) (min (st.i-ae) (st.j-aa))=back:=⟨_,rfl⟩;obtain⟨on,rK⟩:∃on,mx (λt=>seg a (st.i+st.m) (st.i+st.m+t)==seg b (st.j+st.m) (st.j+st.m+t)) (min (V-(st.i+st.m)) (I-(st.j+st.m)))=on:=⟨_,rfl⟩;have Fi:bc a b S ae V aa I=⟨st.i-back,st.j-back,st.i+st.m+on,st.j+st.m+on⟩:=by subst jJ;subst rE;subst rK;rfl
 rw[Fi]at zF zr;simp only at zF zr;rw[jJ]at b1 b2 b3 b4⊢;clear Fi jJ;have q1:back<=min (st.i-ae) (st.j-aa):=rE▸mO _ _;have q2:on<=min (V-(st.i+st.m)) (I-(st.j+st.m)):=rK▸mO _ _;rw[zF]at hk;have eb:(aV eR).drop 2=(aV eR).drop 2:=rfl;refine Ex.cons (Es.assign (ok.loc _ (.inl (by kernel_rfl))) rfl (aaS ah uY ha hb ((aU 0x64 0x6044c12230e041) h2 b2) ((aU 0x64 0x6044c12230e041) h4 b4) b1 b3 rE ?_));refine Ex.sub (Sub.cons (Sub.refl _) _ _) ?_;refine iY (b1:=((aV eR).drop 3).take 1) (b2:=(aV eR).drop 4) ok eL ?_;refine Ex.sub (ρ':=Go w a b S ae V aa I back (st.i+st.m) (st.j+st.m) st) (jW.ok ⟨(aj _ rfl (congrArg AV.int (ar 0x1 0xeda220c441))),(aj _ rfl (congrArg AV.int (ar 0x1 0xeda220c441))),(aj _ rfl rfl),(aj _ rfl rfl),(aj _ rfl rfl),(aj _ rfl rfl),(aj _ rfl rfl),(aj _ rfl rfl),(aj _ rfl rfl),(aj _ rfl rfl),(aj _ rfl rfl),(aj _ rfl rfl),(aj _ rfl rfl),trivial⟩) ?_;refine Ex.cons (Es.assign (ok.loc _ (.inl (by kernel_rfl))) rfl (aaU ah uY ha hb h2 h4 b2 b4 rK ?_));refine Ex.sub (Sub.cons (Sub.refl _) _ _) ?_;refine iY (b1:=((aV eR).drop 5).take 1) (b2:=(aV eR).drop 6) ok eL ?_;refine Ex.sub (ρ':=Gn w a b S ae V aa I (st.i-back) (st.j-back) (st.i+st.m+on) (st.j+st.m+on)) (jW.ok ⟨aj _ rfl (congrArg AV.int (au 0x1 0x1db447110623b4441)),aj _ rfl (congrArg AV.int (au 0x1 0x1db447110623b4441)),aj _ rfl (congrArg AV.int ((bQ 0x885 0x18a484491423eda4324864) q1)),aj _ rfl (congrArg AV.int ((bQ 0x885 0x18a48a190883eda4324864) q1)),aj _ rfl rfl,aj _ rfl rfl,aj _ rfl rfl,aj _ rfl rfl,aj _ rfl rfl,aj _ rfl rfl,aj _ rfl rfl,trivial⟩) ?_;have l1:(fK a b S d ae (st.i-back) aa (st.j-back)).length<=a.length:=ZC (Aj d ae _ aa _ ((bQ 0x29046 0x1819304894381c841) h2 b2) ((bQ 0x29046 0x1819304894381c841) h4 b4) ((bQ 0x5 0x18193149143220c5890864) b1 q1) ((bQ 0x5 0x1819314910722845890864) b3 q1)) ((gC 0x628867 0x6085c16260e09214861) h2 b2);have l2:(fK a b S d (st.i+st.m+on) V (st.j+st.m+on) I).length<=a.length:=ZC (Aj d _ V _ I ((ar 0x2 0x3020e041) h2) ((ar 0x2 0x3020e041) h4) ((gC 0x4 0x182c483c5251204d289065160b114483) b2 q2) ((gC 0x4 0x182c483c525120cb289026160b114483) b4 q2)) ((bQ 0x229066 0xc083814a2589061) h2);by_cases e:st.i-back=st.i+st.m+on
 ·rw[if_pos e]at hk;refine run ok eL ?_;refine ZP (λy=>?_) (λy=>?_);·exact aC.mk (Ev.ll (.nil (qs (ZI _) _ (.inl rfl) hk)))
  ·exfalso;have:(((st.i-back:Nat):Int)==((st.i+st.m+on:Nat):Int))=ZW:=beq_iff_eq.mpr ((aU 0x3 0xd449108a43176d124422b4862) e);exact absurd (this.symm.trans y) (by decide)
 ·refine aO (zr.resolve_left e) λMw Mx=>?_;rw[if_neg e]at hk;exact aaT ah ha ((ar 0x3 0x6430b405023c581070185a02811e1) ha l1) ((ar 0x3 0x6430b405023c581070185a02811e1) ha l2) (aU 0x418825 0x18892230c841) (ZC (Ar.v0 b2 (ZC q2 (Tc _ _))) h2) (λhk=>ih z5 Mw (by exists ah.depth.1;exact(au 0x2 0xc8e3113c41c8e22889e1) a9) (by exists ah.depth.2;exact(au 0x2 0x3238ce227888f0e4719888f891e1) hu) (Ar.wv b1 (ZC q1 (Tc _ _))) ((bQ 0x29046 0x1819304894381c841) h2 b2) (Ar.wv b3 (ZC q1 (Q9 _ _))) ((bQ 0x29046 0x1819304894381c841) h4 b4) hk) (λhk=>ih z5 Mx (by exists ah.depth.1;exact(au 0x2 0xc8e3113c41c8e22889e1) a9) (by exists ah.depth.2;exact(au 0x2 0x3238ce227888f0e4719888f891e1) hu) (Ar.v0 b2 (ZC q2 (Tc _ _))) ((ar 0x2 0x3020e041) h2) ((gC 0x4 0x182c483c525120cb289026160b114483) b4 q2) ((ar 0x2 0x3020e041) h4) hk) (λz=>absurd z e) λC=>aj _ (.inl rfl) hk
theorem aay{w:ZD}{a b:List ZU}{S:ZU->Bool}(ha:a.length<10^5)(hb:b.length<10^5):∀(d:Nat)(X:Fx)(ρ:Loc)(O:af)(k:AV->af->Prop)(ae V aa I:Nat),X.w=w->gm a b S d ae V aa I->X.A.depth+d<ZV->X.A.units+3*d<X1->ae<=V->V<=a.length->aa<=I->I<=b.length->k (qF (fK a b S d ae V aa I)) O->aG X ρ O (.ref 273) [cT a,cT b,eM w S,.int ae,.int V,.int aa,.int I] k:=by intro N';induction N' with|zero=>exactλ_ _ _ _ _ _ _ _ _ h _ _ _ _ _ _ _=>h.elim;|succ d ih=>intro X ρ O k ae V aa I hw hd a9 hu h1 h2 h3 h4 hk;refine aG.def (name:=Z9 "_law_kept") (params:=gb eR) (body:=aV eR) (scope:=aT eR) (pm:=_) (ca:=272) (doc:=_) (ns:=[Z9 "a",Z9 "b",Z9 "rare",Z9 "alo",Z9 "ahi",Z9 "blo",Z9 "bhi"]) ((au 0x43 0x6471889e20e461) a9) (KP _) rfl (KO _) rfl rfl (λvs h=>?_) dk dk dk rfl rfl rfl λY ah=>aax d ha hb (λ{X ρ O k ae V aa I}=>ih X ρ O k ae V aa I) hw hd a9 hu h1 h2 h3 h4 hk ah;exact GB h λC C C C C C C=>rfl
end
noncomputable section
variable{X Y Z:Fx}{ρ aZ:Loc}{O O':af}{k:AV->af->Prop}{pos px:XY}
theorem KR(P:Zr):(aP P).get? 278=Z7 Bx:=by kernel_rfl
theorem KQ(P:Zr):(aP P).get? 277=Z7 Ih:=by kernel_rfl
theorem aey{D:List Z1}{h:YQ}{vs:List Z3}{ns:List ZU}(r:bb D h vs (ns.map .str)):StrsAre vs ns:=by induction ns generalizing vs with|nil=>cases r.iN;exact .nil;|cons n ns ih=>obtain⟨x,q⟩:=r.iC;cases x.iS;exact .cons _ _ (ih q)
theorem L6(k:ZU):∀ys:List ZU,Rx (.str k) (ys.map PyData.str)=(ys.count k:Int):=by intro N';induction N' with|nil=>exact rfl;|cons y ys ih=>
  rw[Z2,Rx,ih,QB];have e:QA (.str y) (.str k)=(y==k):=by simp[QA]
  exists e;by_cases h:(y==k)=ZW;·simp only[h,if_true];push_cast;exact aD 0x1 0x1d889e18844f
  ·simp only[h,if_false];simp
theorem aG.count{a:AV}{xs:List ZU}{x:ZU}(ha:LV O a (xs.map .str))(h:k (.int (xs.count x)) O):aG X ρ O (.builtin "list.count") [a,.str x] k:=λE s vs F R=>by obtain⟨r1,r2⟩:=R.i2;cases r2;obtain⟨ad,vs,n,hg,rl⟩:=F.rd r1 ha;refine count_list_strs (vs:=vs.toList) (cX _ hg rfl n (by simp)) (aey rl) (.done F (.tok _ _) (.int _ _) ?_);rw[L6];exact h
noncomputable def qH(b:List ZU)(x:ZU):Bool:=decide (b.length<200)||decide (100*((b.count x:Int)-1)<=b.length)
noncomputable def vK(b:List ZU):AV->Option AV
 |.str x=>if qH b x then Z7 (.str x)else ZT|_=>ZT
noncomputable def fg(b:List ZU):ZU->Bool:=mM ((b.map AV.str).filterMap (vK b))
structure RS where
 rows:List (ZU×ZU)i:Nat
 j:Nat
noncomputable def iW(a b:List ZU)(st:RS)(p:Nat×Nat):RS:=⟨st.rows++(seg a st.i p.1).map (λl=>(Z9 "-",l))++(seg b st.j p.2).map (λl=>(Z9 "+",l))++(seg a p.1 (p.1+1)).map (λl=>(Z9 " ",l)),p.1+1,p.2+1⟩
noncomputable def kA(a b:List ZU)(ps:List (Nat×Nat)):RS:=ps.foldl (iW a b) ⟨[],0,0⟩
theorem IL(a b:List ZU)(ps:List (Nat×Nat))(t:Nat)(p:Nat×Nat)(h:ps[t]?=Z7 p):kA a b (ps.take (t+1))=iW a b (kA a b (ps.take t)) p:=by unfold kA;exists YX;exists h;exists Yk;rfl
theorem so(l:List ZU)(i j:Nat):(seg l i j).length<=l.length:=by unfold seg;exists Xy;exists Zi;exact au 0x464 0x60720d062
theorem adn(a b:List ZU)(ps:List (Nat×Nat)):∀t,(kA a b (ps.take t)).rows.length<=t*(2*a.length+b.length):=by intro N';induction N' with|zero=>simp[kA];|succ t ih=>have ih:=ih;cases h:ps[t]? with
 |none=>
   have:ps.take (t+1)=ps.take t:=by exists YX;exists h;simp
   rw[this,Nat.add_mul];exact(aU 0xc44 0xc10388ce239886f13c81) ih;|some p=>exists IL a b ps t p h;simp only[iW,ZQ,Z4];have:=so a (kA a b (ps.take t)).i p.1;have:=so b (kA a b (ps.take t)).j p.2;have:=so a p.1 (p.1+1);rw[Nat.add_mul];exact(lh 0x5 0x60a1c185838f062623389e661bc4f2c4911c441) ih ‹_› ‹_› this
noncomputable def rB(c:String):AV->Option AV
 |.str x=>Z7 (.tup [.str (Z9 c),.str x])|_=>ZT
theorem y0(c:String)(l:List ZU):(l.map AV.str).filterMap (rB c)=cY (l.map λx=>(Z9 c,x)):=by induction l with|nil=>rfl;|cons x l ih=>exists Z2;exists YO;exists ih;rfl
noncomputable def ac9(p:Nat×Nat):AV:=.tup [.int p.1,.int p.2]
noncomputable def Ca(r:Z1)(a b:List ZU)(st:RS):Loc:=[(Z9 "j",.int st.j),(Z9 "i",.int st.i),(Z9 "rows",.ref r),(Z9 "b",cT b),(Z9 "a",cT a)]
noncomputable def sf(r:Z1)(rows:List (ZU×ZU)):af:=[(r,.list (cY rows))]
noncomputable def rwB:List Y4:=eH (bB (aV l9) 3)
theorem Cc(r:Z1)(x y:List (ZU×ZU)):bp (sf r x) r (.list (cY x++cY y))=sf r (x++y):=by simp[bp,sf,cY]
theorem Cb{sc:X7}{cl:List (ZU×Z1)}{c:String}{l:List ZU}{p1 p2 p3 p4:XY}{z1 z2:Nat}(KY:jw X Y sc cl)(hc:∀y∈sc.names,y.2≠.cell)(hd:sc.names.lookup ("__debug__":ZU)=ZT)(hl:sc.names.lookup (Z9 "line")=Z7 .local){i:Nat}{av:AV}{Oc:af}(aN:(l.map AV.str)[i]?=Z7 av):Tg Y [] Oc (.Name (Z9 "line") p1) av λρ'=>lL Y ρ' Oc [] λb O'=>O'=Oc/\(b=ZW->Ev Y ρ' Oc (.Tuple [.Constant (.str (Z9 c)) z1 p2,.Name (Z9 "line") p3] z2 p4) λr eC=>eC=Oc/\rB c av=Z7 r)/\(b=ZS->rB c av=ZT):=by have bN:=KY.ok hc hd;refine dn (YN aN) λx C=>?_;refine Tg.down (Tg.name (KY.bd hl) (fe _ ((Sub.refl []).cons _ _) rfl (λC=>?_) (λz=>nomatch z)));exact Ev.tuple (.cons rfl (.str (.cons rfl (Ev.aE bN rfl (.nil (bM (by exists Zs;exact XS rfl) rfl rfl))))))
theorem adT{r:Z1}{a b:List ZU}{st:RS}{p:Nat×Nat}{K:Kn}{hs:List (Z1×Zp)}{c:gK Y (hs.map (·.1))}(ah:Callee X Y (Z9 "_law_rows") (aT l9) 278 (.ref 277))(ha:a.length<=2000)(hb:b.length<=2000)(hz:st.rows.length+6000<=Y8)(h:∀ρ',Sub (Ca r a b (iW a b st p)) ρ'->K.nx ρ' (sf r (iW a b st p).rows)):Ex (Y.holds hs c) ((Z9 "q",.int p.2)::(Z9 "p",.int p.1)::Ca r a b st) (sf r st.rows) rwB K:=by have ok:=(ah.ok (by kernel_rfl)).holds (hs:=hs) (c:=c);refine aR ah.env λL f7 C=>?_;have eL:(Y.holds hs c).env=_:=f7;have s1:=so a st.i p.1;have s2:=so b st.j p.2;have s3:=so a p.1 (p.1+1);refine run ok eL ?_;refine aC.mk (Ev.fU YE Yq rfl rfl rfl (Ev.aE ok rfl ⟨⟨_,.inr (aj r rfl (.head _))⟩,?_⟩));refine Ev.l6 (rB "-") (jY (aZ:=[]) ah dk rfl dk dk (λC h=>nomatch h)).holds (λC=>rfl) (It.lst (Ev.seg (i:=st.i) (j:=p.1) (l:=a) (by exact(au 0x64 0x188c3f013c3814630e40cf1e041) ha hz) (Ev.aE ok rfl ⟨rfl,Ev.aE ok rfl ⟨rfl,Ev.aE ok rfl (wi rfl _ rfl (by rw[Z4];exact(aU 0x85 0xc461f809e3c0a3187206793030e041) ha hz s1) (λY' KY i av Oc aN=>Cb KY dk (by kernel_rfl) (by kernel_rfl) aN) ?_)⟩⟩)));rw[y0];refine aG.extend (.head _) .lst (by simp only[cY,Z4];exact(aU 0x4 0x31187e0278f048c61c819e1c0c5824441) ha hz s1) ?_;rw[Cc];refine aC.mk (Ev.fU YE Yq rfl rfl rfl (Ev.aE ok rfl ⟨⟨_,.inr (aj r rfl (.head _))⟩,?_⟩));refine Ev.l6 (rB "+") (jY (aZ:=[]) ah dk rfl dk dk (λC h=>nomatch h)).holds (λC=>rfl) (It.lst (Ev.seg (i:=st.j) (j:=p.2) (l:=b) (by exact(au 0x64 0x188c3f013c3814630e40cf1e041) hb hz) (Ev.aE ok rfl ⟨rfl,Ev.aE ok rfl ⟨rfl,Ev.aE ok rfl (wi rfl _ rfl (by rw[Z4];exact(aU 0x85 0xc461f809e3c0a3187206793030e041) hb hz s2) (λY' KY i av Oc aN=>Cb KY dk (by kernel_rfl) (by kernel_rfl) aN) ?_)⟩⟩)));rw[y0];refine aG.extend (.head _) .lst (by simp only[cY,Z4,ZQ];exact(gC 0x6 0x6230fc04f26230fc04f2e0d18c39033c3820b051e0d11c441) ha hb hz s1 s2) ?_;rw[Cc];refine aC.mk (Ev.fU YE Yq rfl rfl rfl (Ev.aE ok rfl ⟨⟨_,.inr (aj r rfl (.head _))⟩,?_⟩));refine Ev.l6 (rB " ") (jY (aZ:=[]) ah dk rfl dk dk (λC h=>nomatch h)).holds (λC=>rfl) (It.lst (Ev.seg (i:=p.1) (j:=p.1+1) (l:=a) (by exact(au 0x64 0x188c3f013c3814630e40cf1e041) ha hz) (Ev.aE ok rfl ⟨rfl,Ev.aE ok rfl ⟨rfl,bO ok (n:=5) ?_⟩⟩)));refine wi (congrArg AV.int (by exact aD 0x1 0x3b6889e1889e1)) _ rfl (by rw[Z4];exact(aU 0x85 0xc461f809e3c0a3187206793030e041) ha hz s3) (λY' KY i av Oc aN=>Cb KY dk (by kernel_rfl) (by kernel_rfl) aN) ?_;rw[y0];refine aG.extend (.head _) .lst (by simp only[cY,Z4,ZQ];exact(lh 0x7 0xc461f809e5c461f809e6c1e318720678705160c3c14983c4911c441) ha hb hz s1 s2 s3) ?_;rw[Cc];exact h _ (jW.ok (wh (aj _ rfl (congrArg AV.int (by unfold iW;push_cast;rfl))) (aj _ rfl (congrArg AV.int (by unfold iW;push_cast;rfl))) (aj _ rfl rfl) (aj _ rfl rfl) (aj _ rfl rfl) trivial))
end
noncomputable section
section
variable{a b:List ZU}{S S':ZU->Bool}{ae V aa I:Nat}
theorem xG(l:List ZU)(i:Nat):seg l i i=[]:=by unfold seg;simp
theorem I5{i j i' j' t:Nat}(h:seg a i i'=seg b j j')(h1:i+t<i')(h2:j+t<j'):a[i+t]?=b[j+t]?:=by
 have e:(seg a i i')[t]?=(seg b j j')[t]?:=by exact bG h rfl
 rw[mT,mT,if_pos h1,if_pos h2]at e;exact e
theorem I6{i j n:Nat}(h:∀t,t<n->a[i+t]?=b[j+t]?):seg a i (i+n)=seg b j (j+n):=by
 apply VN;intro t;rw[mT,mT];by_cases q:t<n;·exists(if_pos (by exact(au 0x2 0x3230e62314422) q));exists(if_pos (by exact(au 0x2 0x3230e62314422) q));exact h t q
 ·exists(if_neg (by exact(au 0x2 0xf6461f662314422) q));exact bG (if_neg (by exact(au 0x2 0xf6461f662314422) q)) rfl
structure xP(a b:List ZU)(ae V aa I:Nat)(k:CS):Prop where
 i0:ae<=k.i
 ip:k.i<=k.p
 p1:k.p<=V
 j0:aa<=k.j
 q1:k.q<=I
 jq:k.q=k.j+(k.p-k.i)eq:∀t,t<k.p-k.i->a[k.i+t]?=b[k.j+t]?
 back:ae<k.i->aa<k.j->a[k.i-1]?≠b[k.j-1]?
 on:k.p<V->k.q<I->a[k.p]?≠b[k.q]?
theorem ab1{si sj m bk on:Nat}(i0:ae<=si)(i1:si+m<=V)(j0:aa<=sj)(j1:sj+m<=I)(em:∀t,t<m->a[si+t]?=b[sj+t]?)(b1:bk<=si-ae)(b2:bk<=sj-aa)(eb:seg a (si-bk) si=seg b (sj-bk) sj)(o1:on<=V-(si+m))(o2:on<=I-(sj+m))(eo:seg a (si+m) (si+m+on)=seg b (sj+m) (sj+m+on))(hb:bk+1<=si-ae->bk+1<=sj-aa->seg a (si-(bk+1)) si≠seg b (sj-(bk+1)) sj)(ho:on+1<=V-(si+m)->on+1<=I-(sj+m)->seg a (si+m) (si+m+(on+1))≠seg b (sj+m) (sj+m+(on+1))):xP a b ae V aa I ⟨si-bk,sj-bk,si+m+on,sj+m+on⟩:=by
 have Eo:∀t,t<bk->a[si-bk+t]?=b[sj-bk+t]?:=λt ht=>I5 eb ((aU 0x885 0x624208f232643124861) b1 ht) ((aU 0x885 0x624208f232643124861) b2 ht);have Ep:∀t,t<on->a[si+m+t]?=b[sj+m+t]?:=λt ht=>I5 eo (by exact(aU 0x2 0x3240e62488c510c462) ht) (by exact(aU 0x2 0x3240e62488c510c462) ht);refine⟨by dsimp only;exact(au 0x3 0x18107120887890c41) i0 b1,by dsimp only;exact aU 0x418825 0x18892230c841,by dsimp only;exact(aU 0x2 0x609110712888241e0911c441) i1 o1,by dsimp only;exact(au 0x3 0x18107120887890c41) j0 b2,by dsimp only;exact(aU 0x2 0x609110712888241e0911c441) j1 o2,Ar.aes (Ar.pj b1) (Ar.pj b2),?_,?_,?_⟩
 ·intro t ht;refine ZR (XK t bk) (λq=>?_) (λq=>?_);·exact Eo t q
  refine ZR (XK t (bk+m)) (λq'=>?_) (λq'=>?_);·have:=em (t-bk) (by exact(au 0x2 0x1808b31188391c841) q q');exists Ar.sh (Ar.pj b1) q;exists Ar.sh (Ar.pj b2) q;exact this
  ·have:=Ep (t-bk-m) (by exact(bQ 0x8a6 0x66522922188883c0e222e432148a3) ht q');exists Ar.Jc (Ar.pj b1) q';exists Ar.Jc (Ar.pj b2) q';exact this
 ·intro h1 h2 e;refine hb (by exact(au 0x64 0x1990443c4862889e1) h1) (by exact(au 0x64 0x1990443c4862889e1) h2) ?_;have:=I6 (a:=a) (b:=b) (i:=si-(bk+1)) (j:=sj-(bk+1)) (n:=bk+1) λt ht=>by cases t with|zero=>exists(show si-(bk+1)+0=si-bk-1 by exact ar 0x2 0xd484f908310be5113c41);exists(show sj-(bk+1)+0=sj-bk-1 by exact ar 0x2 0xd484f908310be5113c41);exact e;|succ t=>exists(show si-(bk+1)+(t+1)=si-bk+t by exact(aU 0x23 0x3321883a89243146227925113c62) h1);exists(show sj-(bk+1)+(t+1)=sj-bk+t by exact(aU 0x23 0x3321883a89243146227925113c62) h2);exact Eo t ((ar 0x2 0xcc44f1444f0e441) ht)
  rwa[show si-(bk+1)+(bk+1)=si by exact(au 0x43 0x3321845a0c62278e5113c61) h1,show sj-(bk+1)+(bk+1)=sj by exact(au 0x43 0x3321845a0c62278e5113c61) h2]at this
 ·intro h1 h2 e;refine ho ((aU 0x3 0x191443120f1289062889e1) h1) ((aU 0x3 0x191443120f1289062889e1) h2) ?_;refine I6 (n:=on+1) λt ht=>?_;refine ZR (XK t on) (λq=>?_) (λq=>?_);·exact Ep t q
  ·have:t=on:=(ar 0x2 0xcc44f1070116841) ht q;exists this;exact e
theorem rc(ha:V<=a.length)(hb:I<=b.length)(h1:ae<=V)(h2:aa<=I):xP a b ae V aa I (bc a b S ae V aa I):=by
 obtain⟨i0,i1,j0,j1⟩:=vi (S:=S) ha hb h1 h2;have ok:=(vj (S:=S) (aa:=aa) ha hb h1).ok;unfold bc;generalize i9 a b S ae V aa I=st at*;obtain⟨m,si,sj⟩:=st;dsimp only at*;have em:∀t,t<m->a[si+t]?=b[sj+t]?:=λt ht=>((ok ((ar 0x43 0x6422c842f) ht)).eq t ht).1;clear ok;let P:=λt=>seg a (si-t) si==seg b (sj-t) sj;let Q:=λt=>seg a (si+m) (si+m+t)==seg b (sj+m) (sj+m+t);have p0:P 0=ZW:=by show(seg a (si-0) si==seg b (sj-0) sj)=ZW;rw[Rs,Rs,xG,xG];rfl
 have q0:Q 0=ZW:=by show(seg a (si+m) (si+m+0)==seg b (sj+m) (sj+m+0))=ZW;rw[VF,VF,xG,xG];rfl
 have b1:=mO P (min (si-ae) (sj-aa));have b2:=wC P p0 (min (si-ae) (sj-aa));have b3:=ul P (min (si-ae) (sj-aa)) (mx P (min (si-ae) (sj-aa))+1);have o1:=mO Q (min (V-(si+m)) (I-(sj+m)));have o2:=wC Q q0 (min (V-(si+m)) (I-(sj+m)));have o3:=ul Q (min (V-(si+m)) (I-(sj+m))) (mx Q (min (V-(si+m)) (I-(sj+m)))+1);show xP a b ae V aa I ⟨si-mx P (min (si-ae) (sj-aa)),sj-mx P (min (si-ae) (sj-aa)),si+m+mx Q (min (V-(si+m)) (I-(sj+m))),sj+m+mx Q (min (V-(si+m)) (I-(sj+m)))⟩;refine ab1 i0 i1 j0 j1 em ((bQ 0x4 0x3149143220c5891062) b1) ((bQ 0x4 0x314910722845891062) b1) (eq_of_beq b2) ((gC 0x4 0xc525129832894831625129062) o1) ((gC 0x4 0xc525129072894c11625129062) o1) (eq_of_beq o2) (λx y e=>?_) (λx y e=>?_);·have:=b3 (by exact(aU 0x3 0x607113c382444f0ea8418b02889e1) x y (Wm (min (si-ae) (sj-aa)))) (beq_iff_eq.mpr e);exact((aD 0x1 0x7b01889e1) this).elim
 ·have:=o3 (by exact(aU 0x3 0x607113c382444f0ea8418b02889e1) x y (Wm (min (V-(si+m)) (I-(sj+m))))) (beq_iff_eq.mpr e);exact((aD 0x1 0x7b01889e1) this).elim
theorem Lm:CR a b (λae V aa I=>⟨(bc a b S ae V aa I).i,(bc a b S ae V aa I).j,(bc a b S ae V aa I).p-(bc a b S ae V aa I).i⟩)where
 win:=λae V aa I h1 h2 h3 h4=>by obtain⟨x1,x2,x3,x4,x5,x6,C⟩:=rc (S:=S) h3 h4 h1 h2;exact(pk 0x7 0x18287072e047c107832351914e447fffc1a3229c9820f028c8a72e0a1) x1 x2 x3 x4 x5 x6
 eq:=λae V aa I h1 h2 h3 h4=>(rc (S:=S) h3 h4 h1 h2).eq;back:=λae V aa I h1 h2 h3 h4=>(rc (S:=S) h3 h4 h1 h2).back;on:=λae V aa I h1 h2 h3 h4=>by
  have F:=rc (S:=S) h3 h4 h1 h2;have e1:(bc a b S ae V aa I).i+((bc a b S ae V aa I).p-(bc a b S ae V aa I).i)=(bc a b S ae V aa I).p:=by have:=F.ip;exact(ar 0x2 0x3020e85190441) this
  have e2:=F.jq;exists e1;exists Zz e2;exact F.on
theorem IY(hb:I<=b.length)(h:∀x∈b,S x=S' x){p q m:Nat}(r:Run a b S ae V aa I p q m):Run a b S' ae V aa I p q m:=⟨r.p0,r.p1,r.q0,r.q1,λt ht=>by
  refine aO (r.eq t ht) λe s=>?_;refine⟨e,?_⟩;have hq:q+t<b.length:=by have:=r.q1;exact(bQ 0x4 0xc0c9928b04894391c441) hb ht this
  have e2:a[q+t-q+p]?=Z7 b[q+t]:=by exists(show q+t-q+p=p+t by exact au 0x22 0x6a211c47214422);exists e;exact bG (Z0 hq) rfl
  rw[show q+t-q+p=p+t by exact au 0x22 0x6a211c47214422]at e2;rw[vN e2]at s⊢;exists Zz (h _ (Tx hq));exact s⟩
theorem Lp(ha:V<=a.length)(hb:I<=b.length)(h1:ae<=V)(h:∀x∈b,S x=S' x):bc a b S ae V aa I=bc a b S' ae V aa I:=by
 have e:i9 a b S ae V aa I=i9 a b S' ae V aa I:=(vj (S:=S) (aa:=aa) ha hb h1).uniq ((vj (S:=S') (aa:=aa) ha hb h1).mono λp q m hm=>⟨IY hb λx hx=>(h x hx).symm,IY hb h⟩);unfold bc;exact bG e rfl
end
theorem aah(e:ZU):∀(b:List ZU),(cH b b.length e).length=b.count e:=by intro b;unfold cH;rw[Z4,<-List.countP_eq_length_filter];induction b with|nil=>rfl;|cons x b ih=>exists ZF;exists VG;exists List.countP_cons;exists List.countP_map;exists QB;exists Zz ih;congr 1;simp
theorem adq{b:List ZU}{x:ZU}(hx:x∈b):fg b x=!dh b x:=by
 have h1:fg b x=qH b x:=by
  unfold fg mM;rw[U6,List.contains_iff_mem,WB];constructor
  ·rintro⟨v,hv,e⟩;refine aR (WB.mp hv) λw hw e2=>?_;refine aR (ZY.mp hw) λy hy bT=>?_;subst bT;unfold vK at e2;dsimp only at e2;split at e2;·cases e2;cases e;assumption
   ·cases e2
  ·intro q;exact aj (.str x) (WB.mpr (aj (.str x) (ZY.mpr (aj x hx rfl)) (by unfold vK;dsimp only;exact bG (if_pos q) rfl))) rfl
 exists h1;unfold qH dh;rw[aah];have:0<b.count x:=List.count_pos_iff.mpr hx;rw[U6];simp only[Wy,decide_eq_true_eq,Rk,Bool.and_eq_false_iff,decide_eq_false_iff_not];exact Ar.adh this
end
noncomputable section
variable{X Y Z:Fx}{ρ aZ:Loc}{O O':af}{k:AV->af->Prop}{pos px:XY}
theorem adE{a b:List ZU}{d:Nat}(ah:Callee X Y (Z9 "_law_rows") (aT l9) 278 (.ref 277))(a9:X.A.depth+1+d<ZV)(hu:X.A.units+3+3*d<X1)(ha:a.length<=2000)(hb:b.length<=2000)(hd:gm a b (fg b) d 0 a.length 0 b.length)(hk:k (.lst (cY (kA a b (fK a b (fg b) d 0 a.length 0 b.length++[(a.length,b.length)])).rows)) O):Ex Y [(Z9 "a",cT a),(Z9 "b",cT b)] [] (aV l9) ⟨λC C=>k .none O,λa O'=>∃r,vc O' a r/\k r O,λC C=>False,λC C=>False⟩:=by
 have ok:=ah.ok (by kernel_rfl);refine aR ah.env λL eL C=>?_;have sl:(13*10^6:Nat)<=Y8:=by exists Zs;decide
 refine Ex.cons (Es.aec (ok.loc _ (.inl (by kernel_rfl))) (vK b) (jY (aZ:=[(Z9 "b",cT b)]) ah dk rfl dk dk ?_) ?_ (λC=>rfl) (It.lst ?_));·intro p hp;simp only[ZZ,YU,or_false]at hp;exists hp;exact⟨rfl,by show YA (Z9 "b") _=_;exact dk⟩
 ·exists eL;kernel_rfl
 refine Ev.aE ok rfl (fe _ rfl (by rw[Z4];exact(aD 0x2 0xc461f809e1c061e811e1) hb) (λY' KY i av Oc aN=>?_) ?_)
 ·refine dn (YN aN) λx C=>?_;have bN:=KY.ok dk (by kernel_rfl);refine Tg.ex bN ?_;refine Ts.to (qH b x) (d5 bN (n:=8) ?_) (bM rfl (λz=>bO bN (n:=5) ?_) (λz=>?_))
  ·refine ZP (by rw[Z4];exact(aD 0x2 0xc461f809e1e06018060180601806018060180601825e1) hb) ?_;rw[Z4];refine⟨λz=>?_,λz=>⟨?_,rfl⟩⟩
   ·have z:=of_decide_eq_false z;refine aC.mk (Ev.fU PySem.F.slot_list_count PySem.F.type_list_count rfl rfl rfl (Ev.aE bN rfl ⟨⟨_,.inl rfl⟩,Ev.aE bN rfl (aG.count .lst ?_)⟩));have c1:=List.count_le_length (l:=b) (a:=x);refine⟨Bn.mul (IntMulOk.of_left (by decide)) ?_⟩;refine ZP (by rw[Z4];exact(aD 0x2 0xc461f809e1e06018060180601806018060180601825e1) hb) ?_;rw[Z4];refine⟨λy=>⟨?_,rfl⟩,λy=>⟨?_,rfl⟩⟩;·rw[qH];have y:decide (100*((b.count x:Int)-1)<=(b.length:Int))=ZS:=y;exists y;rw[RP,decide_eq_false (by exact(aD 0x2 0x3dc4c0ef0fb2981de1) z)];rfl
    ·rw[qH];have y:decide (100*((b.count x:Int)-1)<=(b.length:Int))=ZW:=y;exists y;rw[PM]
   ·have z:=of_decide_eq_true z;rw[qH,decide_eq_true (by exact(aD 0x2 0xe26077872981de1) z:b.length<200),Bool.true_or]
  ·exact t8 rfl (if_pos z) _ rfl
  ·exact if_neg (by exists z;exact Ze)
 refine Ex.sub (Sub.cons (Sub.refl _) _ _) ?_;refine iY (b1:=((aV l9).drop 1).take 2) (b2:=(aV l9).drop 3) ok eL ?_;refine aC.mk (Ev.list (.nil ⟨ZI _,λr C=>?_⟩));generalize hK:fK a b (fg b) d 0 a.length 0 b.length=ks at hk;have lk:ks.length<=a.length:=by exists Zz hK;exact ZC (Aj d 0 _ 0 _ (ZO _) (ZO _) (ZI _) (ZI _)) (aD 0x22 0x301905e1)
 have Gu:(ks++[(a.length,b.length)]).length<=2001:=by simp;exact(ar 0x3 0x6230fc04f16041c461f809e1) ha lk
 have bound:∀t,t<=2001->t*(2*a.length+b.length)<=2001*6000:=λt ht=>Nat.mul_le_mul ht ((ar 0x3 0x188c3f013c388c3f013c588c39033e229846f) ha hb);refine Ex.cons (Es.down (Es.jD (λC=>rfl) (d0.lst (bO ok (n:=9) ?_))));refine ZP (by rw[Z4];exact(aD 0x2 0xc461f809e1e06018060180601806018060180601825e1) ha) ?_;refine ZP (by rw[Z4];exact(aD 0x2 0xc461f809e1e06018060180601806018060180601825e1) hb) ?_;rw[Z4,Z4];refine⟨aay (w:=Y.w) (S:=fg b) ((aD 0x2 0x31187e027872185a02811e1) ha) ((aD 0x2 0x31187e027872185a02811e1) hb) d _ _ _ _ 0 a.length 0 b.length rfl hd (by exists ah.depth.1;exact(au 0x2 0xc8e22889e1c8e22889e1) a9) (by exists ah.depth.2;exact(au 0x2 0x3238cc447c48f0e4719888f891e1) hu) (ZI _) (ZO _) (ZI _) (ZO _) ?_⟩;exists hK;refine aC.mk (Ev.ll (ED ok 7 ?_));refine ZP (by rw[Z4];exact(aD 0x2 0xc461f809e1e06018060180601806018060180601825e1) ha) ?_;refine ZP (by rw[Z4];exact(aD 0x2 0xc461f809e1e06018060180601806018060180601825e1) hb) ?_;rw[Z4,Z4];refine⟨ZC (show 1<=13*10^6 by decide) sl,?_⟩;refine aC.mk (Bn.wn .lst .lst (by simp;exact(au 0x4 0x188c3f013c781060b8620d835f818702889e1) ha sl lk) (aj _ rfl ?_));have f7:ks.map (λp=>AV.tup [.int p.1,.int p.2])++[AV.tup [.int a.length,.int b.length]]=(ks++[(a.length,b.length)]).map ac9:=by exists ZJ;rfl
 exists f7;clear f7;generalize o4:ks++[(a.length,b.length)]=ps at hk Gu⊢;refine fe (λt ρ' O'=>O'=sf r (kA a b (ps.take t)).rows/\Sub (Ca r a b (kA a b (ps.take t))) ρ') ⟨rfl,cq.ok (by kernel_rfl)⟩ (λC C C C=>trivial) ?_ ?_;·rintro t av ρ' O' hs c aN⟨rfl,bh⟩;replace aN:=ZN▸aN;cases hx:ps[t]? with|none=>replace aN:=hx▸aN;cases aN;|some p=>replace aN:=hx▸aN;cases aN;have ht:t<ps.length:=(Zo.mp hx).1;have rl:=adn a b ps t;have Lb:=bound t ((ar 0x3 0x6250fc04f16441c4a1f809e1) Gu ht);refine Tg.ex ok.holds ?_;refine Ex.sub ((bh.cc _ _).cc _ _) (adT ah ha hb ((au 0x4 0x181060b8620d835f8187118520d83e0c78f028c61c819e1) sl rl Lb) λeU jf=>?_);rw[<-IL a b ps t p hx]at jf⊢;exact⟨rfl,jf⟩
 ·rintro ρ' O'⟨rfl,bh⟩;rw[Z4,Yn]at*;refine aj _ bh (run ok eL ?_);exact aj _ (.inr (aj _ (.inr (aj r rfl (.head _))) rfl)) hk
theorem adG{a b:List ZU}{d:Nat}(a9:X.A.depth+1+d<ZV)(hu:X.A.units+3+3*d<X1)(ha:a.length<=2000)(hb:b.length<=2000)(hd:gm a b (fg b) d 0 a.length 0 b.length)(hk:k (.lst (cY (kA a b (fK a b (fg b) d 0 a.length 0 b.length++[(a.length,b.length)])).rows)) O):aG X ρ O (.ref 278) [cT a,cT b] k:=by refine aG.def (name:=Z9 "_law_rows") (params:=gb l9) (body:=aV l9) (scope:=aT l9) (pm:=_) (ca:=277) (doc:=_) (ns:=[Z9 "a",Z9 "b"]) ((au 0x43 0x64711444f0e461) a9) (KR _) rfl (KQ _) rfl rfl (λvs h=>?_) dk dk dk rfl rfl rfl λY ah=>adE ah a9 hu ha hb hd hk;exact po h λC C=>rfl
end
noncomputable section
variable{X Y Z:Fx}{ρ aZ:Loc}{O O':af}{k:AV->af->Prop}{pos px:XY}{s:Z6}
theorem N8(P:Zr):xV P (fdOf l7) (Z9 "unified_diff") (aT fE) (aV fE) 261 260 where
 at_:=aj l7 (by kernel_rfl) rfl;code:=wk _ _ _ (yp P) rfl rfl;sc:=rfl;globals:=rfl;closure:=rfl;qual:=rfl;cd:=rfl;bi:=rfl;body:=rfl;gen:=by kernel_rfl
 yz:=by kernel_rfl
 kind:=rfl;cell:=dk;cells:=λn=>by rfl
def kF(g:Nat)(γ:Array Zx):Prop:=γ[g]?=Z7 .running/\∀i x,γ[i]?=Z7 x->i≠g->x.bare=ZW
theorem kF.lt{g:Nat}{γ:Array Zx}(h:kF g γ):g<γ.size:=by
 refine ZR (XK g γ.size) (λq=>?_) (λq=>?_);·exact q
 ·have:=h.1;replace this:=(XD q)▸this;cases this
theorem kF.push{g:Nat}{γ:Array Zx}{x:Zx}(h:kF g γ)(hx:x.bare=ZW):kF g (γ.push x):=by
 have hl:=h.lt;refine⟨?_,λi y hy hi=>?_⟩;·exists UX;exists if_neg (X6 hl);exact h.1
 ·replace hy:=UX▸hy;split at hy;·cases hy;exact hx
  ·exact h.2 i y hy hi
theorem kF.made{γ:Array Zx}{x:Zx}(h:Vu γ):kF γ.size ((γ.push x).setIfInBounds γ.size .running):=by
 refine⟨?_,λi y hy hi=>?_⟩;·exists Xg;simp
 ·rw[Xg,if_neg (Xl hi),UX,if_neg hi]at hy;exact h y (S7 hy)
theorem kF.all{g:Nat}{γ:Array Zx}{x:Zx}(h:kF g γ)(hx:x.bare=ZW):Vu (γ.setIfInBounds g x):=λy hy=>by
 refine br (Array.mem_iff_getElem?.mp hy) λi hi=>?_;replace hi:=Xg▸hi;split at hi
 ·split at hi;·cases hi;exact hx
  ·cases hi
 ·rename_i q;exact h.2 i y hi (Xl q)
theorem JL{a b:List ZU}{n:Nat}{vs:List Z3}{ps:List Z3}{kw:List (ZU×Z3)}{E:Z3->Z6->Prop}(hG:Y.G=Vu)(F:Fr Y ρ O s)(R:bb (ak Y O) s.heap vs (uX a b n))(hb:∀A(Q:List (ZU×Z3)->Z6->Prop)E,Q (CM.zip vs) s->ZK (model pw Y.w) A (Ss (fdOf l7) ⟨ps,kw⟩) Q E s)(a9:Y.A.depth+8<ZV)(hu:Y.A.units+17<X1)(ha:a.length<=1100)(jG:b.length<=1000)(jg:∀x∈a,x.length<=100)(gR:∀x∈b,x.length<=100)(hs:(dW a b).Pairwise λa b=>a.i<b.i)(fq:(dW a b).length<64)(ke:(fk a b).length<=400)(hc:cZ a b≠[])(rH:∀g∈dS n (cZ a b),∃f l,jV g f l)(hz:(gL a b (dS n (cZ a b))).length<=Y8)(hk:k (.lst (gL a b (dS n (cZ a b)))) O):ZK (model pw Y.w) Y.A (call (.ref 261) ps kw) (λv aq=>ZK (model pw Y.w) Y.A (call (.type "list") [v]) (dY Y ρ O s k) E aq) E s:=by
 have Fs:Vu s.gens:=by have:=F.gens;replace this:=hG▸this;exact this
 refine XH (EW (B:=Y.A.in1.in1.in1) (OL:=[]) (O':=O) (l:=uX a b n) (vs:=vs) (ns:=CM) (ys:=gL a b (dS n (cZ a b))) (Γ:=kF s.gens.size) Y.hh ((ar 0x2 0x191452f0e441) a9) (N8 Y.w.params) dk dk F R hb (λZ ah gn=>?_) (λenv=>kF.made Fs) ?_);·exact afi ah gn (λγ cW h hb=>h.push hb) (by show Y.A.depth+8<_;exact a9) (by show Y.A.units+1+1+1+14<_;exact(ar 0x2 0x191464f0e4517be227c44f889e1) hu) ha jG jg gR hs fq ke hc rH
 ·intro am hs' nm qn env b9 be h' tk hI hF gG Cd nr;have aw:=hF Vu (Fs.push rfl);have eY:Y.sG Vu=Y:=by exists Zz hG;rfl
  replace aw:=eY▸aw;refine wm (abe (Z:=Y) (Γ:=kF s.gens.size) (g:=s.gens.size) ((ar 0x2 0x191452f0e441) a9) (λγ h=>h.1) (λγ cW h hb=>by exists hG;exact h.all hb) hz aw ⟨_,hs',nm,qn,b9,be,rfl,?_,nr,Cd⟩ hk) (λv aL x=>?_);·simp
  ·refine cr x ?_;clear x;intro a' ag F' aW r' cP;exact⟨a',ag,F',aJ.trans gG aW,r',cP⟩
end
noncomputable section
variable{X Y Z:Fx}{ρ aZ:Loc}{O O':af}{k:AV->af->Prop}{pos px p1 p2 p3 p4 p5 p6 p7:XY}{s:Z6}
structure m6(a b:List ZU)(n:Nat):Prop where
 ha:a.length<=1100
 hb:b.length<=1000
 jg:∀x∈a,x.length<=100
 gR:∀x∈b,x.length<=100
 hs:(dW a b).Pairwise λa b=>a.i<b.i
 fq:(dW a b).length<64
 ke:(fk a b).length<=400
 hc:cZ a b≠[]rH:∀g∈dS n (cZ a b),∃f l,jV g f l
 hz:(gL a b (dS n (cZ a b))).length<=Y8
theorem Dy(P:Zr):(aP P).get? 254=Z7 wT:=by kernel_rfl
theorem Ev.udl{kd gt}(ok:Ok Y kd gt){a b:List ZU}{x y:ZU}(h1:ρ.lookup x=Z7 (cT a))(h2:ρ.lookup y=Z7 (cT b))(hL:Ld Y (Z9 "list") (.type "list"))(hU:Ld Y (Z9 "unified_diff") (.ref 261))(hG:Y.G=Vu)(a9:Y.A.depth+8<ZV)(hu:Y.A.units+17<X1)(U:m6 a b 3)(hk:k (.lst (gL a b (dS 3 (cZ a b)))) O):Ev Y ρ O (.Call (.Name (Z9 "list") p1) [.Call (.Name (Z9 "unified_diff") p2) [.Name x p3,.Name y p4] [] p5] [] p6) k:=λE s F=>by refine Yv (hL E s p1 _ F.base (callWith_type1 ?_ rfl rfl));show ZK _ _ (spliced ((ZS,eval (.Call (.Name (Z9 "unified_diff") p2) [.Name x p3,.Name y p4] [] p5) Y.env)::[])) _ _ _;refine VV (X5 (Q:=λv aq=>ZK (model pw Y.w) Y.A (call (.type "list") [v]) (dY Y ρ O s k) E aq) ?_ (λv aq z=>VK z) λC C x=>x);have tI:cC Y ρ O [.Name x p3,.Name y p4] λl ag=>l=[cT a,cT b]/\ag=O:=.cons rfl (Ev.aE ok h1 (.cons rfl (Ev.aE ok h2 (.nil ⟨rfl,rfl⟩))));refine Yv (hU E s p2 _ F.base (callWith_def (o:=l7) (fd:=fdOf l7) rfl (wm (tI _ s p5 F) (λvs aq z=>j5 z λl ag aw aI a5 z=>aO z λe1 e2=>⟨aw.base _ _ (by kernel_rfl),?_⟩)) rfl));have e2:=e2.symm;subst e1 e2;obtain@⟨v1,v2,ra,rb⟩:=a5.i2;have R:bb (ak Y O) aq.heap [v1,v2,.str (Z9 "") 603,.str (Z9 "") 604,.str (Z9 "") 605,.str (Z9 "") 606,.int 3 607,.str (Z9 "\n") 608] (uX a b 3):=.cons ra (.cons rb (.cons (.str _ _) (.cons (.str _ _) (.cons (.str _ _) (.cons (.str _ _) (.cons (.int _ _) (.cons (.str _ _) .nil)))))));refine wm (JL (n:=3) (k:=k) (ps:=[v1,v2]) (kw:=[]) hG aw R (λA Q E q=>V8 (fd:=fdOf l7) (args:=⟨[v1,v2],[]⟩) (T:=254) (o:=wT) rfl (aw.base _ _ (Dy _)) rfl rfl rfl _ _ _ _ q) a9 hu U.ha U.hb U.jg U.gR U.hs U.fq U.ke U.hc U.rH U.hz hk) (λv aL z=>wm z (λv cR z=>?_));refine cr z ?_;clear z;intro a' O F' aW r' cP;exact⟨a',O,F',aJ.trans aI aW,r',cP⟩
end
noncomputable section
variable{X Y Z:Fx}{ρ aZ:Loc}{O O':af}{k:AV->af->Prop}{pos px p1 p2 p3 p4 p5 p6 p7 p8:XY}{s:Z6}
theorem Ev.udn{kd gt}(ok:Ok Y kd gt){a b:List ZU}{n:Nat}{x y z:ZU}(h1:ρ.lookup x=Z7 (cT a))(h2:ρ.lookup y=Z7 (cT b))(h3:ρ.lookup z=Z7 (.int n))(hL:Ld Y (Z9 "list") (.type "list"))(hU:Ld Y (Z9 "unified_diff") (.ref 261))(hG:Y.G=Vu)(a9:Y.A.depth+8<ZV)(hu:Y.A.units+17<X1)(U:m6 a b n)(hk:k (.lst (gL a b (dS n (cZ a b)))) O):Ev Y ρ O (.Call (.Name (Z9 "list") p1) [.Call (.Name (Z9 "unified_diff") p2) [.Name x p3,.Name y p4] [⟨Z7 (Z9 "n"),.Name z p7,p8⟩] p5] [] p6) k:=λE s F=>by refine Yv (hL E s p1 _ F.base (callWith_type1 ?_ rfl rfl));show ZK _ _ (spliced ((ZS,eval (.Call (.Name (Z9 "unified_diff") p2) [.Name x p3,.Name y p4] [⟨Z7 (Z9 "n"),.Name z p7,p8⟩] p5) Y.env)::[])) _ _ _;refine VV (X5 (Q:=λv aq=>ZK (model pw Y.w) Y.A (call (.type "list") [v]) (dY Y ρ O s k) E aq) ?_ (λv aq z=>VK z) λC C x=>x);have tI:cC Y ρ O [.Name x p3,.Name y p4] λl ag=>l=[cT a,cT b]/\ag=O:=.cons rfl (Ev.aE ok h1 (.cons rfl (Ev.aE ok h2 (.nil ⟨rfl,rfl⟩))));have nA:Ev Y ρ O (.Name z p7) λc ag=>c=.int n/\ag=O:=Ev.aE ok h3 ⟨rfl,rfl⟩;refine wpAny_Call_Name_kw (hU E s p2 _ F.base (callWith_def_kw (o:=l7) (fd:=fdOf l7) rfl ?_));show ZK _ _ (evalArgs (.ref 261) ZW ((ZS,eval (.Name x p3) Y.env)::Xb p5 (Yt [.Name y p4] Y.env)) [(Z7 (Z9 "n"),do let v<-eval (.Name z p7) Y.env;Xk p5;pure v)]) _ _ _;refine evalArgs_kw rfl (wm (tI _ s p5 F) (λvs aq z=>j5 z λl ag aw aI a5 z=>aO z λe1 e2=>?_));have e2:=e2.symm;subst e1 e2;refine wpAny_evalAll_cons (Z8 (wm (nA _ aq aw) (λvn aL z=>cr z λc aM aS aY cK z=>aO z λe1 e2=>Z8 (YW (Z5 (wpAny_evalAll_nil ⟨aS.base _ _ (by kernel_rfl),?_⟩))))));have e2:=e2.symm;subst e1 e2;have a5:=a5.move aY;obtain@⟨v1,v2,ra,rb⟩:=a5.i2;have R:bb (ak Y O) aL.heap [v1,v2,.str (Z9 "") 603,.str (Z9 "") 604,.str (Z9 "") 605,.str (Z9 "") 606,vn,.str (Z9 "\n") 608] (uX a b n):=.cons ra (.cons rb (.cons (.str _ _) (.cons (.str _ _) (.cons (.str _ _) (.cons (.str _ _) (.cons cK (.cons (.str _ _) .nil)))))));refine wm (JL (n:=n) (k:=k) (ps:=[v1,v2]) (kw:=[(Z9 "n",vn)]) hG aS R (λA Q E q=>V8 (fd:=fdOf l7) (args:=⟨[v1,v2],[(Z9 "n",vn)]⟩) (T:=254) (o:=wT) rfl (aS.base _ _ (Dy _)) rfl rfl rfl _ _ _ _ q) a9 hu U.ha U.hb U.jg U.gR U.hs U.fq U.ke U.hc U.rH U.hz hk) (λv aL z=>wm z (λv cR z=>?_));refine cr z ?_;clear z;intro a' ag F' aW r' cP;exact⟨a',ag,F',aJ.trans (aJ.trans aI aY) aW,r',cP⟩
end
noncomputable section
variable{X Y Z:Fx}{ρ aZ:Loc}{O O':af}{k:AV->af->Prop}{pos px:XY}{s:Z6}
theorem aG.divmod{a b:Int}(hb:b≠0)(hp:∀s,Fr X ρ O s->Yu a b=ZS\/WH (model pw X.w) X.A s)(h:k (.tup [.int (a.fdiv b),.int (a.fmod b)]) O):aG X ρ O (.builtin "divmod") [.int a,.int b] k:=λE s vs F R=>by obtain⟨r1,r2⟩:=R.i2;cases r1;cases r2;refine divmod_int hb ?_ (hp s F);have keep:∀c ob,s.heap.get? c=Z7 ob->(s.heap.push {cls:=.type "tuple",data:=.seq #[.int (a.fdiv b) s.toks,.int (a.fmod b) (s.toks+1)]}).get? c=Z7 ob:=λc ob e=>ZX _ e;exact⟨.tup [.int (a.fdiv b),.int (a.fmod b)],O,F.keeps keep,aJ.of keep,.tup (n:=0) F.fresh (Zy _ rfl) (.cons (.int _ _) (.cons (.int _ _) .nil)),h⟩
theorem Ev.or{cw eF:Zt}(h:Ev X ρ O cw λa ag=>Tr X ρ ag a λc aM=>(c=ZW->k a aM)/\(c=ZS->Ev X ρ aM eF k)):Ev X ρ O (.BoolOp .Or [cw,eF] pos) k:=λE s F=>by refine BoolOp_or (wm (h _ s F) (λv aq bJ=>cr bJ λa ag aw aI a5 aH=>?_));refine wm (aH _ aq v aw a5) (λc aL b7=>kQ b7 λaM aS aY be=>?_);cases c with|true=>exact⟨a,aM,aS,aI.trans aY,a5.move aY,be.1 rfl⟩;|false=>exact BoolOp_one (wm (be.2 rfl _ aL aS) (λv cR x=>.from (aI.trans aY) x))
end
noncomputable section
variable{X Y Z:Fx}{ρ aZ:Loc}{O O':af}{k:AV->af->Prop}{pos px:XY}{s:Z6}
noncomputable def mL(way:Int):Int:=if way<12 then 1112064 else if way<24 then 3 else 5
noncomputable def kt(c:Int):ZU:=if c=2 then Z9 ""else⟨#[(if c<55296 then c else c+2048).toNat]⟩
noncomputable def pq(way x:Int):Int:=((x.fdiv 3).fdiv 6).fmod (mL way)
noncomputable def rV(x:Int):Nat:=((x.fdiv 3).fmod 6).toNat
noncomputable def pt(way x:Int):List ZU:=YC (rV x+1) (kt (pq way x))
noncomputable def rU(x:Int):Int:=x.fmod 3
noncomputable def mK(way:Int)(xs:List Int):List ZU:=xs.flatMap λx=>if rU x≠2 then pt way x else[]
noncomputable def lm(way:Int)(xs:List Int):List ZU:=xs.flatMap λx=>if rU x≠1 then pt way x else[]
noncomputable def iE(f g:Z1)(n way:Int)(script:List Int):Loc:=[(Z9 "second",.ref g),(Z9 "first",.ref f),(Z9 "way",.int way),(Z9 "n",.int n),(Z9 "script",.lst (script.map .int))]
noncomputable def gf(f g:Z1)(a b:List ZU):af:=[(f,.list (a.map .str)),(g,.list (b.map .str))]
noncomputable def rS:List Y4:=eH (bB (aV bV) 2)
theorem GT{f g:Z1}(gz:f≠g)(a b c:List ZU):bp (gf f g a b) f (.list (a.map .str++c.map .str))=gf f g (a++c) b:=by simp[bp,gf,gz.symm]
theorem GU{f g:Z1}(gz:f≠g)(a b c:List ZU):bp (gf f g a b) g (.list (b.map .str++c.map .str))=gf f g a (b++c):=by simp[bp,gf,gz]
theorem abD{f g L:Z1}{n way x code kind:Int}{size:Nat}{script:List Int}{a b:List ZU}{K:Kn}(ok:Ok Y (λx=>(aT bV).names.lookup x) bK)(eL:Y.env=Zf (Z9 "law") (aT bV) L 302 (ZB 301))(gz:f≠g)(ha:a.length<=10^5)(hb:b.length<=10^5)(hs:size<6)(hc:0<=code)(gO:code<1112064)(h:∀ρ',Sub (iE f g n way script) ρ'->K.nx ρ' (gf f g (a++if kind≠2 then YC (size+1) (kt code)else[]) (b++if kind≠1 then YC (size+1) (kt code)else[]))):Ex Y ((Z9 "code",.int code)::(Z9 "size",.int size)::(Z9 "kind",.int kind)::iE f g n way script) (gf f g a b) (rS.drop 3) K:=by
 have sl:(10^6:Nat)<=Y8:=by exists Zs;decide
 refine iY (b1:=(rS.drop 3).take 1) (b2:=rS.drop 4) ok eL ?_;refine aC.mk (Ev.ll (.cons rfl (Ev.to (.str (kt code)) (oF ok (n:=8) ?_) (.nil ⟨ZC (show 1<=10^6 by decide) sl,?_⟩))))
 ·refine ZP (λc=>?_) (λc=>?_);·have c:code=2:=eq_of_beq c;exact ZP (by rw[kt,if_pos c]) rfl
  ·have c:¬code=2:=λq=>by have:(code==2)=ZW:=beq_iff_eq.mpr q;exact absurd (this.symm.trans c) (by decide)
   refine aC.mk (Ev.to (.int (if code<55296 then code else code+2048)) (oF ok (n:=8) ?_) ?_)
   ·refine ZP (λq=>?_) (λq=>?_);·have q:=of_decide_eq_true q;exact⟨by exact bG (if_pos q) rfl,rfl⟩
    ·have q:=of_decide_eq_false q;exact⟨by exact bG (if_neg q) rfl,rfl⟩
   ·refine aC.mk (aG.chr (Ar.LP (by assumption)) (Ar.LN (by assumption)) ⟨by rw[kt,if_neg c],rfl⟩)
 refine aC.mk (Bn.abj .lst (by exact aD 0x22 0xdc44f0dc300c0300c0300c0300c0300c0300c12f) (by exact(aD 0x2 0x64ef0f0300c0300c0300c0300c0300c0300c12f889e1) hs) (by exists(show((size:Int)+1).toNat=size+1 by exact(ar 0x43 0xc1d889e2b077113c560bf5113c41) (@Zn ((↑size:Int)+1)));simp;exact(aD 0x2 0xc9de1c822088220841e1) hs) (by simp) ?_);exists(show((size:Int)+1).toNat=size+1 by exact(ar 0x43 0xc1d889e2b077113c560bf5113c41) (@Zn ((↑size:Int)+1)));exists(show(YC (size+1) [AV.str (kt code)]).flatten=(YC (size+1) (kt code)).map .str by refine bG List.map_replicate ?_;exact bG List.flatten_replicate_singleton rfl);have hl:(YC (size+1) (kt code)).length<=6:=by exists SW;exact(aD 0x2 0x64ef0e0ef889e1) hs
 generalize YC (size+1) (kt code)=ls at h hl⊢;refine Ex.cons (Es.cut (λpM eW=>pM=(Z9 "lines",.lst (ls.map .str))::(Z9 "code",.int code)::(Z9 "size",.int size)::(Z9 "kind",.int kind)::iE f g n way script/\eW=gf f g (a++if kind≠2 then ls else[]) b) (Es.ite (d5 ok (n:=6) ?_)) ?_)
 ·refine ZP (λc=>?_) (λc=>?_)
  ·have c:kind≠2:=by simpa using c
   exists if_pos c;refine run ok eL ?_;refine aC.mk (Ev.fU YE Yq rfl rfl rfl (Ev.aE ok rfl ⟨⟨_,.inr (aj f rfl (.head _))⟩,Ev.aE ok rfl (aG.extend (.head _) .lst (by rw[Z4,Z4];exact(au 0x4 0x180c2d01408f0e06184e1187df83bc581c441) ha sl hl) ?_)⟩));rw[GT gz];exact⟨rfl,rfl⟩
  ·have c:¬kind≠2:=by simpa using c
   exists if_neg c;rw[ZA];exact Ex.nil ⟨rfl,rfl⟩
 ·rintro pM eW⟨rfl,rfl⟩;generalize(a++if kind≠2 then ls else[])=a2 at h⊢;refine Ex.cons (Es.ite (d5 ok (n:=6) ?_));refine ZP (λc=>?_) (λc=>?_)
  ·have c:kind≠1:=by simpa using c
   rw[if_pos c]at h;refine run ok eL ?_;refine aC.mk (Ev.fU YE Yq rfl rfl rfl (Ev.aE ok rfl ⟨⟨_,.inr (aj g rfl (.tail _ (.head _)))⟩,Ev.aE ok rfl (aG.extend (.tail _ (.head _)) .lst (by rw[Z4,Z4];exact(au 0x4 0x180c2d01408f0e06184e1187df83bc581c441) hb sl hl) ?_)⟩));rw[GU gz];refine Ex.nil ?_;refine h _ ?_;exact cq.ok (by kernel_rfl)
  ·have c:¬kind≠1:=by simpa using c
   rw[if_neg c,ZA]at h;refine Ex.nil (Ex.nil ?_);refine h _ ?_;exact cq.ok (by kernel_rfl)
theorem abF{f g L:Z1}{n way x:Int}{script:List Int}{a b:List ZU}{K:Kn}(ok:Ok Y (λx=>(aT bV).names.lookup x) bK)(eL:Y.env=Zf (Z9 "law") (aT bV) L 302 (ZB 301))(hp:∀u v s ρ O,Fr Y ρ O s->Yu u v=ZS\/WH (model pw Y.w) Y.A s)(hw:0<=way)(iQ:way<36)(gz:f≠g)(ha:a.length<=10^5)(hb:b.length<=10^5)(h:∀ρ',Sub (iE f g n way script) ρ'->K.nx ρ' (gf f g (a++if rU x≠2 then pt way x else[]) (b++if rU x≠1 then pt way x else[]))):Ex Y ((Z9 "x",.int x)::iE f g n way script) (gf f g a b) rS K:=by
 refine iY (b1:=rS.take 3) (b2:=rS.drop 3) ok eL ?_;refine aC.mk (aG.divmod (by decide) (λs F=>hp _ _ s _ _ F) ?_);refine aC.mk (aG.divmod (by decide) (λs F=>hp _ _ s _ _ F) ?_);refine aC.mk (Ev.sub (Ev.ll (.cons rfl (.int (.cons rfl (.int (.cons rfl (.int (.nil ⟨by decide,?_⟩)))))))));have hd:way.fdiv 12=way/12:=W2 way (by decide);have hm:mL way≠0:=by unfold mL;split;decide;split<;>decide
 refine Ev.bin (Ev.aE ok rfl (Ev.int (Bn.fdiv (by decide) (Vz ((aD 0x2 0x3075afb076d7d82fc86018060180601809e1) (@WW (12)))) ?_)));refine Ix.list (x:=.int (mL way)) trivial .lst (by exists hd;exact Ar.bA 0x4 0x362705fd13a2374c2e6bf8d78ddb0b82f [0,0,0] [_,_,way%12] (by kernel_rfl) hw (WZ (way) 12) (Ye (way) (by decide:(0:Int)<12))) (by exists hd;exact Ar.bA 0x4 0x1c2c04f13ba27446e985cd7ec6eb05fc0c0300c0300c0300c0300c0300c0304bc2e [0,0,0] [_,_,way%12] (by kernel_rfl) iQ (WZ (way) 12) (Xf (way) (by decide:(12:Int)≠0))) ?_ ?_
 ·exists hd;unfold mL;by_cases c1:way<12;·exists if_pos c1;exists(show(way/12).toNat=0 by exact Ar.bA 0x5 0x38d78ddd1ba2474c4e6bf647582f18341787760bc4ed05e1 [_,0,0,0] [0,_,_,way%12] (by kernel_rfl) c1 (WZ (way) 12) (Xf (way) (by decide:(12:Int)≠0)) (@YR (way/12)));rfl
  ·exists if_neg c1;by_cases c2:way<24;·exists if_pos c2;exists(show(way/12).toNat=1 by exact Ar.bA 0x5 0x3dc6bc6ee65e37746e891d3139afe35e476c8eb05e30744eb07627582fd09e1 [_,0,0,0] [0,_,_,way%12] (by kernel_rfl) c1 c2 (WZ (way) 12) (Ye (way) (by decide:(0:Int)<12)) (Xf (way) (by decide:(12:Int)≠0)) (@Zn (way/12)));rfl
   ·exists if_neg c2;exists(show(way/12).toNat=2 by exact Ar.bA 0x5 0xe160278ddee65e37746e891d3139afe35e476c8eb05e30744eb07627582fd0de1 [_,0,0,0] [0,_,_,way%12] (by kernel_rfl) iQ c2 (WZ (way) 12) (Ye (way) (by decide:(0:Int)<12)) (Xf (way) (by decide:(12:Int)≠0)) (@Zn (way/12)));rfl
 refine⟨Bn.mod hm ?_⟩;have hsz:((x.fdiv 3).fmod 6)=(rV x:Int)/\rV x<6:=by unfold rV;exists(Yl _ (by decide));exact(jN 0x3 0x1c3bc4ed89d60bc60e89d60ec4eb05ffc9de1e844e) (Ye (x.fdiv 3) (by decide:(0:Int)<6)) (Xf (x.fdiv 3) (by decide:(6:Int)≠0)) (@Zn (x.fdiv 3%6))
 have c0:0<=pq way x:=by unfold pq;exists(Yl _ (by unfold mL;split;decide;split<;>decide));exact Xf _ hm
 have c1:pq way x<1112064:=by
  have lZ:0<mL way:=by unfold mL;split;decide;split<;>decide
  have oX:mL way<=1112064:=by unfold mL;split;decide;split<;>decide
  unfold pq;exists Yl _ ((fx 0x2 0x381705fb0b82f) lZ);exact Int.lt_of_lt_of_le (Ye _ lZ) oX
 refine Ex.sub (ρ':=(Z9 "code",.int (pq way x))::(Z9 "size",.int (rV x))::(Z9 "kind",.int (rU x))::iE f g n way script) (jW.ok ⟨aj _ rfl rfl,aj _ rfl (congrArg AV.int hsz.1),aj _ rfl rfl,aj _ rfl rfl,aj _ rfl rfl,aj _ rfl rfl,aj _ rfl rfl,aj _ rfl rfl,trivial⟩) (abD (x:=x) (code:=pq way x) (kind:=rU x) ok eL gz ha hb hsz.2 c0 c1 h)
end
noncomputable section
variable{X Y Z:Fx}{ρ aZ:Loc}{O O':af}{k:AV->af->Prop}{pos px:XY}{s:Z6}
noncomputable def iU(script:List Int):Int:=match script with|[]=>0|x::_=>((x.natAbs:Int)).fdiv 36
noncomputable def ew(script:List Int):Int:=match script with|[]=>0|x::_=>((x.natAbs:Int)).fmod 36
theorem abx(script:List Int):0<=ew script/\ew script<36:=by
 unfold ew;split;·exact⟨by decide,by decide⟩
 ·exists(Yl _ (by decide));exact⟨Xf _ (by decide),Ye _ (by decide)⟩
theorem abC{L:Z1}{script:List Int}{K:Kn}(ok:Ok Y (λx=>(aT bV).names.lookup x) bK)(eL:Y.env=Zf (Z9 "law") (aT bV) L 302 (ZB 301))(hp:∀u v s ρ O,Fr Y ρ O s->Yu u v=ZS\/WH (model pw Y.w) Y.A s)(hz:script.length<=63)(h:∀f g,f≠g->Ex Y (iE f g (iU script) (ew script) script) (gf f g [] []) ((aV bV).drop 2) K):Ex Y [(Z9 "script",.lst (script.map .int))] [] (aV bV) K:=by
 refine iY (b1:=(aV bV).take 1) (b2:=(aV bV).drop 1) ok eL ?_;refine aC.mk (Ev.to (.tup [.int (iU script),.int (ew script)]) (oF ok (n:=8) ?_) ?_)
 ·refine aC.mk (Tr.list .lst (by rw[Z4];exact(aD 0x2 0x320809e1e06018060180601806018060180601825e1) hz) ⟨λc=>?_,λc=>?_⟩);·cases script with|nil=>cases c;|cons x xs=>
    refine aC.mk (Ev.sub (Ev.aE ok rfl (Ev.int (Ix.list trivial .lst (by decide) (by decide) (x:=.int x) rfl ?_))));refine aC.mk (aG.abs ?_);rw[show(if x<0 then-x else x)=(x.natAbs:Int)by
     split;·exact Ar.Kc ‹_›
     ·exact Ar.Kd ‹_›];refine aC.mk (aG.divmod (by decide) (λs F=>hp _ _ s _ _ F) ?_);exact⟨rfl,rfl⟩
  ·cases script with|cons x xs=>cases c;|nil=>exact⟨rfl,rfl⟩
 refine iY (b1:=((aV bV).drop 1).take 1) (b2:=(aV bV).drop 2) ok eL ?_;refine aC.mk (Ev.list (.nil ⟨ZI _,λf hf=>?_⟩));refine aC.mk (Ev.list (.nil ⟨ZI _,λg hg=>?_⟩));have gz:f≠g:=λe=>hg (by exists Zz e;exact .head _);refine Ex.cv ((Cv.perm (Ux (f,aQ.list []) (g,.list []) [])).trans (Cv.sub (jW.ok (ρ':=iE f g (iU script) (ew script) script) (wh (aj _ rfl rfl) (aj _ rfl rfl) (aj _ rfl rfl) (aj _ rfl rfl) (aj _ rfl rfl) trivial)))) (h f g gz)
end
noncomputable section
variable{X Y Z:Fx}{ρ aZ:Loc}{O O':af}{k:AV->af->Prop}{pos px:XY}{s:Z6}
noncomputable def fM(script:List Int):List Int:=if(script.drop 1).take 62=[]then script else(script.drop 1).take 62
theorem GS(script:List Int)(h:script.length<=63):(fM script).length<=63:=by
 unfold fM;split;·exact h
 ·exists Zi;exact aD 0x2 0x641013e81fc04f
theorem GQ(way x:Int):(pt way x).length<=6:=by unfold pt rV;exists SW;exists(Yl _ (by decide));exact Ar.bA 0x3 0x1c3bc2e183a17585b0bac178c1a0bc5bb05e1760ef889e2 [0,_] [_,0] (by kernel_rfl) (Ye (x.fdiv 3) (by decide:(0:Int)<6)) (@Zn (x.fdiv 3%6)) (@YR (x.fdiv 3%6))
theorem Aw(way:Int):∀xs:List Int,(mK way xs).length<=6*xs.length:=by intro N';induction N' with|nil=>simp[mK];|cons x xs ih=>
  have ih:=ih;have:=GQ way x;unfold mK at ih⊢;exists Zd;exists ZQ;exists ZF;split;·exact(au 0x3 0x1898cef160ef0e27113c677c441) ih this
  ·exists Ww;exact(ar 0x2 0x31311de1c4e22788ef8842f) ih
theorem Ax(way:Int):∀xs:List Int,(lm way xs).length<=6*xs.length:=by intro N';induction N' with|nil=>simp[lm];|cons x xs ih=>
  have ih:=ih;have:=GQ way x;unfold lm at ih⊢;exists Zd;exists ZQ;exists ZF;split;·exact(au 0x3 0x1898cef160ef0e27113c677c441) ih this
  ·exists Ww;exact(ar 0x2 0x31311de1c4e22788ef8842f) ih
theorem abE{f g L:Z1}{n way:Int}{script:List Int}{K:Kn}(ok:Ok Y (λx=>(aT bV).names.lookup x) bK)(eL:Y.env=Zf (Z9 "law") (aT bV) L 302 (ZB 301))(hp:∀u v s ρ O,Fr Y ρ O s->Yu u v=ZS\/WH (model pw Y.w) Y.A s)(hw:0<=way)(iQ:way<36)(gz:f≠g)(hz:script.length<=63)(h:∀ρ',Sub (iE f g n way script) ρ'->K.nx ρ' (gf f g (mK way (fM script)) (lm way (fM script)))):Es Y (iE f g n way script) (gf f g [] []) (bB (aV bV) 2) K:=by
 have sl:(10^6:Nat)<=Y8:=by exists Zs;decide
 have hx:=GS script hz;refine Es.jD (λC=>rfl) (d0.lst (Ev.to (.lst ((fM script).map .int)) (Ev.or (Ev.slice (Ev.aE ok rfl (Ev.int (aj 1 rfl (Ev.int ⟨63,rfl,_,.lst,by decide,by rw[Z4];exact(ar 0x3 0x641013c38106138461f7e041) hz sl,?_⟩)))))) (aj _ rfl ?_)))
 ·exists(pick_from _ _ _ (by decide) (by decide));exists(show((63:Int).toNat-(1:Int).toNat)=62 from rfl);exists(show(1:Int).toNat=1 from rfl);exists Zz TY;exists Zz TZ;refine Tr.list .lst (by rw[Z4,Zi];exact aD 0x2 0x3818060180601806018060180601806097da81fc04f) ⟨λc=>?_,λc=>Ev.aE ok rfl ?_⟩
  ·have:(script.drop 1).take 62≠[]:=λe=>by replace c:=e▸c;cases c
   exact⟨by unfold fM;exact bG (if_neg this) rfl,rfl⟩
  ·have:(script.drop 1).take 62=[]:=by cases e:(script.drop 1).take 62 with|nil=>rfl;|cons y ys=>replace c:=e▸c;cases c
   exact⟨by unfold fM;exact bG (if_pos this) rfl,rfl⟩
 ·generalize fM script=xs at h hx⊢;refine fe (λi ρ' O'=>O'=gf f g (mK way (xs.take i)) (lm way (xs.take i))/\Sub (iE f g n way script) ρ') ⟨rfl,Sub.refl _⟩ (λC C C C=>trivial) ?_ ?_;·rintro i av ρ' O' hs c aN⟨rfl,bh⟩;replace aN:=ZN▸aN;cases jI:xs[i]? with|none=>replace aN:=jI▸aN;cases aN;|some x=>
   replace aN:=jI▸aN;cases aN;have l1:=Aw way (xs.take i);have l2:=Ax way (xs.take i);rw[Zi]at l1 l2;have et:xs.take (i+1)=xs.take i++[x]:=by exists YX;exists jI;rfl
   refine Tg.ex ok.holds ?_;refine Ex.sub (bh.cc _ _) (abF ok.holds eL (λu v s ρ O F=>hp u v s ρ _ F.pD) hw iQ gz ((au 0x4 0xc820278b13a08677870185a02811e1) hx l1) ((au 0x4 0xc820278b13a08677870185a02811e1) hx l2) λeU jf=>⟨?_,jf⟩);exists et;simp only[mK,lm,Xe,Zd,W7,ZA]
  ·rintro ρ' O'⟨rfl,bh⟩;rw[Z4,Yn];exact h _ bh
end
noncomputable section
variable{X Y Z:Fx}{ρ aZ:Loc}{O O':af}{k:AV->af->Prop}{pos px:XY}{s:Z6}
noncomputable def kr(way:Int):Nat:=([200,199,300,299,700,699]:List Nat).getD (way/2%6).toNat 0
noncomputable def ET:AV->Option AV
 |.int k=>Z7 (.str (Z9 (toString (100+k))))|_=>ZT
noncomputable def nN(m c:Nat):List ZU:=(Zh (c-m)).map λ(t:Nat)=>Z9 (toString ((100:Int)+((m:Int)+(t:Int))))
theorem N0(m c:Nat):(dO m (c-m)).filterMap ET=(nN m c).map .str:=by unfold dO nN;induction Zh (c-m)with|nil=>rfl;|cons t r ih=>rw[Z2,YO,Z2,Z2,<-ih];rfl
theorem Av(way:Int):kr way<=700:=by unfold kr;generalize(way/2%6).toNat=i;rcases i with _|_|_|_|_|_|i<;>simp
theorem abB{f g L:Z1}{n way:Int}{script:List Int}{a b:List ZU}{K:Kn}(ah:Callee X Y (Z9 "law") (aT bV) 302 (.ref 301))(hw:0<=way)(iQ:way<36)(ha:a.length<=10^4)(hb:b.length<=10^4)(h:∀ρ',Sub ((Z9 "fill",.lst ((nN b.length (kr way)).map .str))::iE f g n way script) ρ'->K.nx ρ' (gf f g a b)):Es Y (iE f g n way script) (gf f g a b) (bB (aV bV) 3) K:=by
 have ok:=ah.ok (by kernel_rfl);refine aR ah.env λL eL C=>?_;have sl:(10^6:Nat)<=Y8:=by exists Zs;decide
 have hc:=Av way;refine Es.l6 (ok.loc _ (.inl (by kernel_rfl))) ET (jY (aZ:=[]) ah dk rfl dk dk (λC h=>nomatch h)) (by exists eL;kernel_rfl) (λC=>rfl) (It.uC rfl (ok.ld (by kernel_rfl) (by kernel_rfl)) ?_);have hd:way.fdiv 2=way/2:=W2 way (by decide);have hm:(way/2).fmod 6=way/2%6:=Yl _ (by decide);refine .cons rfl (bO ok (n:=8) ?_);refine aC.mk (aG.len (.inr (aj g rfl (.tail _ (.head _)))) (by rw[Z4];exact(aD 0x2 0xc4619829e1e06018060180601806018060180601825e1) hb) ?_);rw[Z4];refine cC.cons rfl (Ev.sub (Ev.ll (.cons rfl (.int (.cons rfl (.int (.cons rfl (.int (.cons rfl (.int (.cons rfl (.int (.cons rfl (.int (.nil ⟨ZC (show 6<=10^6 by decide) sl,?_⟩)))))))))))))));refine Ev.bin (Ev.bin (Ev.aE ok rfl (Ev.int (Bn.fdiv (by decide) (Vz ((aD 0x2 0x30746fb07637d82fc86018060180601809e1) (@WW (2)))) (Ev.int (Bn.mod (by decide) ?_))))));exists hd;exists hm;refine Ix.list (x:=.int (kr way)) trivial .lst ((fx 0x2 0x6c2eb05fb0b82f) (Xf (way/2) (by decide:(6:Int)≠0))) ((fx 0x2 0x387785dc0c0300c0300c0300c0300c0300c0304bc2e) (Ye (way/2) (by decide:(0:Int)<6))) ?_ (cC.nil ⟨_,_,rfl,aD 0x22 0x1b0dc300c0300c0300c0300c0300c0300c0af,(aD 0x2 0xc4619829e1e06018060180601806018060180601815e1) hb,aD 0x22 0x1b0dc300c0300c0300c0300c0300c0300c0af,(aD 0x2 0x31d859e1e06018060180601806018060180601815e1) hc,?_⟩)
 ·unfold kr;have:(way/2%6).toNat<6:=by exact Ar.bA 0x3 0x387785c30742eb0b617582f1834178b760bc2ec9de2 [0,_] [_,0] (by kernel_rfl) (Ye (way/2) (by decide:(0:Int)<6)) (@Zn (way/2%6)) (@YR (way/2%6))
  generalize(way/2%6).toNat=i at this⊢;rcases i with _|_|_|_|_|_|i<;>first|rfl|exact((aD 0x22 0x7b277c44f889f113e227c44f889e1) this).elim
 exists(show((kr way:Int)-(b.length:Int)).toNat=kr way-b.length by exact(au 0x3 0x3076430d85b90c360bc60d05e2dd82f90c3a90c22) (@Zn ((↑(kr way):Int)-(↑b.length:Int))) (@YR ((↑(kr way):Int)-(↑b.length:Int))));refine bM (by exists sd;exact(au 0x44 0x18186138461f7e3b0b3c381c841) sl hc) (λY' KY t av Oc aN=>?_) ?_;·refine aO (qK aN) λht bH=>?_;exists bH;have bN:=KY.ok dk (by kernel_rfl);refine Tg.ex bN ?_;refine bM rfl (λC=>bO bN (n:=6) ?_) (λz=>nomatch z);refine aC.mk (aG.str (sv (ar 0x823 0x6e31104b023c2f) ((au 0x44 0x31d859e3cc82317030ac0d09414f8c4412c08f) hc ht)) (bM rfl rfl trivial))
 rw[N0];exact h _ (Sub.cons (Sub.refl _) _ _)
end
noncomputable section
variable{X Y Z:Fx}{ρ aZ:Loc}{O O':af}{k:AV->af->Prop}{pos px:XY}{s:Z6}
theorem abA{f g L:Z1}{n way:Int}{script:List Int}{a b fl:List ZU}{K:Kn}(ok:Ok Y (λx=>(aT bV).names.lookup x) bK)(eL:Y.env=Zf (Z9 "law") (aT bV) L 302 (ZB 301))(hw:0<=way)(gz:f≠g)(ha:a.length<=10^4)(hb:b.length<=10^4)(hl:fl.length<=1000)(h:Ex Y ((Z9 "fill",.lst (fl.map .str))::iE f g n way script) (gf f g (a++if way%2=1 then fl else[]) (b++fl)) ((aV bV).drop 6) K):Ex Y ((Z9 "fill",.lst (fl.map .str))::iE f g n way script) (gf f g a b) ((aV bV).drop 4) K:=by
 have sl:(10^6:Nat)<=Y8:=by exists Zs;decide
 have hm:way.fmod 2=way%2:=Yl _ (by decide);refine iY (b1:=((aV bV).drop 4).take 1) (b2:=(aV bV).drop 5) ok eL ?_;refine aC.mk (Ev.fU YE Yq rfl rfl rfl (Ev.aE ok rfl ⟨⟨_,.inr (aj g rfl (.tail _ (.head _)))⟩,Ev.aE ok rfl (aG.extend (.tail _ (.head _)) .lst (by rw[Z4,Z4];exact(au 0x4 0x188c33053c384c40f1606184e1187df81c441) hb hl sl) ?_)⟩));rw[GU gz];refine Ex.cons (Es.cut (λpM eW=>pM=(Z9 "fill",.lst (fl.map .str))::iE f g n way script/\eW=gf f g (a++if way%2=1 then fl else[]) (b++fl)) (Es.ite (d5 ok (n:=6) ?_)) ?_)
 ·refine aC.mk (Bn.mod (by decide) ?_);exists hm;refine ZP (λc=>?_) (λc=>?_);·have c:way%2=1:=eq_of_beq c;exists if_pos c;refine run ok eL ?_;refine aC.mk (Ev.fU YE Yq rfl rfl rfl (Ev.aE ok rfl ⟨⟨_,.inr (aj f rfl (.head _))⟩,Ev.aE ok rfl (aG.extend (.head _) .lst (by rw[Z4,Z4];exact(au 0x4 0x188c33053c384c40f1606184e1187df81c441) ha hl sl) ?_)⟩));rw[GT gz];exact⟨rfl,rfl⟩
  ·have c:¬way%2=1:=λq=>by have:(way%2==1)=ZW:=beq_iff_eq.mpr q;exact absurd (this.symm.trans c) (by decide)
   rw[if_neg c,ZA];exact Ex.nil ⟨rfl,rfl⟩
 ·rintro pM eW⟨rfl,rfl⟩;exact h
end
noncomputable section
variable{X Y Z:Fx}{ρ aZ:Loc}{O O':af}{k:AV->af->Prop}{pos px:XY}{s:Z6}
noncomputable def GR(n way:Int)(a b:List ZU):Loc:=[(Z9 "n",.int n),(Z9 "second",cT b),(Z9 "first",cT a)]
noncomputable def dX(a b:List ZU)(d:Nat):List (ZU×ZU):=(kA a b (fK a b (fg b) d 0 a.length 0 b.length++[(a.length,b.length)])).rows
theorem abz{L:Z1}{n:Nat}{way:Int}{d:Nat}{a b:List ZU}{K:Kn}(ok:Ok Y (λx=>(aT bV).names.lookup x) bK)(eL:Y.env=Zf (Z9 "law") (aT bV) L 302 (ZB 301))(hG:Y.G=Vu)(hd:gm a b (fg b) d 0 a.length 0 b.length)(zU:Y.A.depth+1+d<ZV)(mD:Y.A.depth+8<ZV)(qp:Y.A.units+3+3*d<X1)(mE:Y.A.units+17<X1)(U3:m6 a b 3)(Un:m6 a b n)(hz:(dX a b d).length<10^5)(o6:∀r∈dX a b d,r.1.length+r.2.length<=1000)(e3:gL a b (dS 3 (cZ a b))=(gu (dX a b d) 3).map .str)(en:gL a b (dS n (cZ a b))=(gu (dX a b d) n).map .str)(h:K.rt (.bool ZW) O):Ex Y (GR n way a b) O ((aV bV).drop 6) K:=by
 have uY:Y.A.units<X1:=(ar 0x2 0x191464f0e441) mE;refine iY (b1:=((aV bV).drop 6).take 1) (b2:=(aV bV).drop 7) ok eL ?_;refine aC.mk (adG zU qp (ZC U3.ha (by decide)) (ZC U3.hb (by decide)) hd ?_);have hL:=ok.ld (x:=Z9 "list") (v:=.type "list") (by kernel_rfl) (by kernel_rfl);have hU:=ok.ld (x:=Z9 "unified_diff") (v:=.ref 261) (by kernel_rfl) (by kernel_rfl);refine Ex.cons (Es.ite (Ts.cmp rfl (Ev.udl ok rfl rfl hL hU hG mD mE U3 (bO ok (n:=6) ?_))));refine aC.mk (D8 ((ar 0x2 0xc8a2978722889e1) mD) ((ar 0x2 0xc8a3278722891e1) mE) hz (by decide) o6 ?_);exists e3;refine Cm.nel uY .lst .lst ⟨λc=>?_,λc=>?_⟩
 ·exfalso;have:(gu (dX a b d) 3 !=gu (dX a b d) 3)=ZS:=by simp
  exact absurd (this.symm.trans c) (by decide)
 refine Ex.nil (Ex.cons (Es.ret (Ev.cmp rfl (Ev.udn ok rfl rfl rfl hL hU hG mD mE Un (bO ok (n:=6) ?_)))));refine aC.mk (D8 ((ar 0x2 0xc8a2978722889e1) mD) ((ar 0x2 0xc8a3278722891e1) mE) hz (aD 0x22 0xd842f) o6 ?_);exists en;refine Cm.vA uY .lst .lst ?_;have ee:(gu (dX a b d) n==gu (dX a b d) n)=ZW:=beq_self_eq_true _;show K.rt (.bool (gu (dX a b d) n==gu (dX a b d) n)) O;exists ee;exact h
end
noncomputable section
variable{X Y Z:Fx}{ρ aZ:Loc}{O O':af}{k:AV->af->Prop}{pos px:XY}{s:Z6}
noncomputable def qy(script:List Int):List ZU:=nN (lm (ew script) (fM script)).length (kr (ew script))
noncomputable def eK(script:List Int):List ZU:=mK (ew script) (fM script)++if ew script%2=1 then qy script else[]
noncomputable def dU(script:List Int):List ZU:=lm (ew script) (fM script)++qy script
theorem GP(m c:Nat):(nN m c).length=c-m:=by unfold nN;rw[Z4,Xj]
theorem aa1{script:List Int}{d:Nat}{K:Kn}(ah:Callee X Y (Z9 "law") (aT bV) 302 (.ref 301))(hp:∀u v s ρ O,Fr Y ρ O s->Yu u v=ZS\/WH (model pw Y.w) Y.A s)(hsz:script.length<=63)(hG:Y.G=Vu)(hd:gm (eK script) (dU script) (fg (dU script)) d 0 (eK script).length 0 (dU script).length)(zU:Y.A.depth+1+d<ZV)(mD:Y.A.depth+8<ZV)(qp:Y.A.units+3+3*d<X1)(mE:Y.A.units+17<X1)(U3:m6 (eK script) (dU script) 3)(Un:m6 (eK script) (dU script) (iU script).toNat)(hz:(dX (eK script) (dU script) d).length<10^5)(o6:∀r∈dX (eK script) (dU script) d,r.1.length+r.2.length<=1000)(e3:gL (eK script) (dU script) (dS 3 (cZ (eK script) (dU script)))=(gu (dX (eK script) (dU script) d) 3).map .str)(en:gL (eK script) (dU script) (dS (iU script).toNat (cZ (eK script) (dU script)))=(gu (dX (eK script) (dU script) d) ((iU script).toNat:Int)).map .str)(h:K.rt (.bool ZW) []):Ex Y [(Z9 "script",.lst (script.map .int))] [] (aV bV) K:=by
 have ok:=ah.ok (by kernel_rfl);refine aR ah.env λL eL C=>?_;refine aO (abx script) λw0 w1=>?_;have hx:=GS script hsz;have l1:=Aw (ew script) (fM script);have l2:=Ax (ew script) (fM script);have hn:iU script=((iU script).toNat:Int):=by
  have:0<=iU script:=by
   unfold iU;split;·decide
   ·exists(W2 _ (by decide));exact Int.ediv_nonneg (YD _) (by decide)
  exact(jN 0x3 0x362705e30744eb07627582fe844e) this (@Zn (iU script))
 have lV:(qy script).length<=1000:=by unfold qy;rw[GP];have:=Av (ew script);exact(ar 0x43 0x31d859e1c26207c841) this
 refine abC ok eL hp hsz λf g gz=>?_;refine Ex.cons (abE ok eL hp w0 w1 gz hsz λρ' bh=>Ex.sub bh ?_);refine Ex.cons (abB (L:=L) ah w0 w1 ((ar 0x3 0xc820278b1311de1c4619829e1) hx l1) ((ar 0x3 0xc820278b1311de1c4619829e1) hx l2) λρ' bh=>Ex.sub bh ?_);refine abA ok eL w0 gz ((ar 0x3 0xc820278b1311de1c4619829e1) hx l1) ((ar 0x3 0xc820278b1311de1c4619829e1) hx l2) lV ?_;show Ex Y _ (gf f g (eK script) (dU script)) _ _;refine Ex.cv (Cv.p9.trans (Cv.p9.trans (Cv.sub (ρ':=GR (iU script).toNat (ew script) (eK script) (dU script)) ?_))) (abz (way:=ew script) ok eL hG hd zU mD qp mE U3 Un hz o6 e3 en h);unfold me iE;simp only[Z2,YS,sI,sF,sH,sJ,if_neg gz,if_neg gz.symm,if_pos];exact jW.ok (k9 (aj _ rfl (congrArg AV.int hn)) (aj _ rfl rfl) (aj _ rfl rfl) trivial)
end
noncomputable section
variable{X Y Z:Fx}{ρ aZ:Loc}{O O':af}{k:AV->af->Prop}{pos px:XY}{s:Z6}
theorem acq{w:ZD}{h:YQ}(K:Keeps (aP w.params) h):h.NoSeer:=by have x:(aP w.params).NoSeer:=⟨(cQ (λC=>ZT) (jM _ _ _ (by kernel_rfl:(aP w.params).get? Qp=Z7 (Vh w.params)) rfl (λe he=>(by cases he;contradiction)) (λC=>rfl)) rfl rfl),(aj _ (.of_isNs (by kernel_rfl)) (by kernel_rfl)),(aj _ (.of_isNs (by kernel_rfl)) (Heap.of_bltView (by kernel_rfl) (JN w default))),(t9 _ 4 (TV w.params) (.of_isNs (by kernel_rfl)) (by kernel_rfl) (by kernel_rfl) rfl rfl)⟩;exact x.keeps K
theorem K1(P:Zr):(aP P).get? 302=Z7 Im:=by kernel_rfl
theorem K0(P:Zr):(aP P).get? 301=Z7 Il:=by kernel_rfl
noncomputable def ac1(Y:Fx):Fx:={Y with A:=callerA,hh:=rfl}
def xS(w:ZD):Prop:=∀(s:Z6)(L:Z1)(vs:List Z3)(ns:List Int),Keeps (aP w.params) s.heap->s.gens=#[]->s.heap.get? L=Z7 {cls:=.type "list",data:=.seq vs.toArray}->PQ vs ns->ns.length<=63->ZK (model pw w) callerA (call (.ref 302) [.ref L]) (λv s'=>v=.bool ZW/\Keeps s.heap s'.heap/\s'.os=s.os/\Vu s'.gens) (λC C=>False) s
theorem aar{h:YQ}{L:Z1}{sY Ko:Array Z3}(hL:h.IsList L sY)(e:h.get? L=Z7 {cls:=.type "list",data:=.seq Ko}):h.get? L=Z7 {cls:=.type "list",data:=.seq sY}:=by obtain⟨o,ho,C,n,hd⟩:=hL;have:=Y1 (e.symm.trans ho);have h2:=congrArg Obj.data this;rw[hd]at h2;exists e;exact bG ((Data.seq.inj h2).1) rfl
theorem afs{P:Zr}{h:YQ}{L:Z1}{sY:Array Z3}{ys:List WData}(w:Well P h (.ref L) (.list ys))(hL:h.IsList L sY):h.get? L=Z7 {cls:=.type "list",data:=.seq sY}:=by cases w with|list hg hw=>exact aar hL hg
theorem afu(H:∀w,xS w):WalkO q loose (XL q []) (λw h=>∀a o,(aP w.params).get? a=Z7 o->h.get? a=Z7 o) YH.row.toRowW D1 [] λf vs=>PySem.call f vs:=by
 intro w af6 aq mg mb G Y fa o pm cd doc dV kV ho hd ix hD Fz hg args afp as SC Pq tS hwl zI;have Pa:ZB fa=.ref 302:=Y1 (Fz.symm.trans (aa2 Y G.T.g));exists Pa;have key:∃L l ns,afp=[ZB L]/\aq.heap.get? L=Z7 {cls:=.type "list",data:=.seq l.toArray}/\PQ l ns/\ns.length<=63:=by clear Fz hD ix ho Y hd G;wrow_args SC Pq tS hwl zI;rename_i hL _ w1 _ hI _ hc _;exact jM _ _ _ rfl (afs w1 hL) hI (by exact(aD 0x2 0x3dc0dc1013f20809e1) hc)
 refine oD key ?_;clear key;intro L l ns bS Pc hI hc;exists bS;refine X5 (H w aq _ _ _ Y hg Pc hI hc) ?_ ?_;·rintro v s'⟨rfl,hk,SB,hb⟩;exact k9 (.inl (t9 _ _ _ rfl (raisesW_false (λC h=>nomatch h)) (.bool ZW) (postW_of rfl rfl dk) (λC=>⟨Yd,λC h=>nomatch h⟩))) (.of_keep hk) SB hb
 ·intro e s' h;exact h.elim
theorem acP(H:∀w,xS w):YH.Holds:=head (d:=D1) (kwd:=[]) (by kernel_rfl) (by kernel_rfl) (by kernel_rfl) (afu H)
theorem aao{D:List Z1}{h:YQ}{vs:List Z3}{ns:List Int}(x:PQ vs ns):bb D h vs (ns.map .int):=by induction x with|nil=>exact .nil;|cons n t _ ih=>exact .cons (.int n t) ih
def Db(script:List Int):Prop:=∃d,d<=500/\gm (eK script) (dU script) (fg (dU script)) d 0 (eK script).length 0 (dU script).length/\m6 (eK script) (dU script) 3/\m6 (eK script) (dU script) (iU script).toNat/\(dX (eK script) (dU script) d).length<10^5/\(∀r∈dX (eK script) (dU script) d,r.1.length+r.2.length<=1000)/\gL (eK script) (dU script) (dS 3 (cZ (eK script) (dU script)))=(gu (dX (eK script) (dU script) d) 3).map .str/\gL (eK script) (dU script) (dS (iU script).toNat (cZ (eK script) (dU script)))=(gu (dX (eK script) (dU script) d) ((iU script).toNat:Int)).map .str
theorem LG(hP:∀script:List Int,script.length<=63->Db script)(w:ZD):xS w:=by
 intro s L vs ns kh hg hL hI hn;obtain⟨d,Fk,hd,U3,Un,hz,o6,e3,en⟩:=hP ns hn;have qo:(aT bV).names.lookup (Z9 "script")=Z7 .local:=dk;have zG:∀x∈[(Z9 "script",ZB L)],(aT bV).names.lookup x.1=Z7 .local\/((aT bV).names.lookup x.1=Z7 .cell/\((XF (s.heap.objs.size+1) (aT bV).names []).lookup x.1).isSome=ZW):=λx hx=>by rcases Zv.mp hx with rfl;exact .inl qo
 have lX:((aT bV).names.map (·.1)).Nodup:=dk;refine XH (call_cells_ret (binds:=[(Z9 "script",ZB L)]) (name:=Z9 "law") (params:=gb bV) (body:=aV bV) (scope:=aT bV) (cd:=.ref 301) dk (kh _ _ (K1 w.params)) rfl (qD kh) (ua 301 _ _ _ rfl (kh _ _ (K0 w.params)) rfl rfl) rfl zG (λaH tk FL CL=>?_) rfl rfl rfl);have hsz:s.heap.objs.size<aH.objs.size:=FL.ns.lt;let Y:Fx:={w:=w,A:=callerA.deeper (Zf (Z9 "law") (aT bV) s.heap.objs.size 302 (.ref 301)),env:=Zf (Z9 "law") (aT bV) s.heap.objs.size 302 (.ref 301),h₀:=s.heap,D₀:=[],bY:=[],held:=[],G:=Vu,os:=s.os,fn:=rfl,glob:=rfl,bn:=rfl,hh:=rfl,above:=.inl (fY _),mq:=kh,mH:=λa ha=>(nomatch ha),h9:=λa ha=>(nomatch ha),apart:=CL.apart,ni:=λn c hc=>Wg (CL.above n c hc),kK:=CN (yv _ _ _ lX Yd λC C q=>nomatch q),old:=λa ha=>(nomatch ha),hnl:=λq hq=>(nomatch hq),hnc:=λq hq=>(nomatch hq),hab:=λq hq=>nomatch hq};have CY:Callee (ac1 Y) Y (Z9 "law") (aT bV) 302 (.ref 301):=⟨rfl,(aj _ rfl rfl),λn c hc=>.inl (X2 (XM (CL.above n c hc))),rfl⟩;have OB:L∉ak Y []:=λq=>by
  have:=Zc hL;refine jB q (λq=>?_) (λq=>?_) (λn q=>?_) (λq=>?_) λo' q=>?_;·cases q
  ·exact absurd q (X6 this)
  ·exact absurd (CL.above n L q) (UE.mpr (XM this))
  ·cases q
  ·cases q
 have FY:Fr Y [(Z9 "script",.lst (ns.map .int))] [] {s with heap:=aH,toks:=tk}:=by
  refine⟨λa o C e=>FL.keep a o e,?_,rfl,⟨_,Qk (Zf (Z9 "law") (aT bV) s.heap.objs.size 302 (.ref 301)).kindOf [(Z9 "script",ZB L)] λC=>ZT,FL.ns,λn c hc=>?_,λx av e=>?_⟩,λq hq=>(nomatch hq),λp hp=>(nomatch hp),Yd⟩;·exists hg;exactλg hg=>nomatch hg
  ·have hu:=Y.kK n;cases fZ:(XF (s.heap.objs.size+1) (aT bV).names []).lookup n with
 |none=>rw[Xm]at fZ;have z:=fZ _ hc;simp at z;|some c'=>have:c'=c:=hu c c' hc (mem_of_lookup fZ);subst this;exact CL.cell n c' fZ
  ·by_cases q:x=Z9 "script";·subst q;rw[ZM,beq_self_eq_true]at e;cases e;refine aj (.ref L) (.inl ⟨qo,yu (kd:=Y.env.kindOf) qo (by simp) (by rw[ZM,beq_self_eq_true])⟩) (.lst OB (FL.keep _ _ hL) (aao hI))
   ·rw[ZM,beq_false_of_ne q]at e;cases e
 have qp:Y.A.depth=302:=rfl;have hp:∀u v s' ρ O,Fr Y ρ O s'->Yu u v=ZS\/WH (model pw Y.w) Y.A s':=λu v s' ρ O F=>.inr (PC (qD F.base) (by exists qp;exact dk) (SeerAt.of (env:=Y.env) (l:=[]) (acq F.base) rfl rfl rfl rfl rfl rfl));have mE:Y.A.units=7:=rfl;have FQ:ZV=1000:=rfl;have FR:X1=9900:=rfl;have B:=aa1 (K:=⟨λC C=>False,λa O'=>a=.bool ZW/\O'=[],λC C=>False,λC C=>False⟩) CY hp hn rfl hd (by exact(au 0x4 0x315841e2d3e0a78749881e3c8e22889e1) Fk qp FQ) (by exact(ar 0x3 0x34f829e1d262078b228a5e1) qp FQ) (by exact(au 0x4 0x18ac20f1690f0e9b0b414f1e4719888f891e1) Fk mE FR) (by exact(ar 0x3 0x3487874d85a0a78b228c9e1) mE FR) U3 Un hz o6 e3 en ⟨rfl,rfl⟩;refine wm (B (λC C=>False) _ FY) (λfl s' x=>?_);refine lP x ?_;clear x;intro ρ' ag aw aI x;have kp:Keeps s.heap s'.heap:=λa o e=>aw.keep a o (λq=>nomatch q) e;cases fl with
 |next=>exact x.elim;|ret v=>refine dE x ?_;clear x;intro a r bT b5;subst bT;subst b5;cases r;exact k9 rfl kp aw.os aw.gens;|brk=>exact x.elim;|cont=>exact x.elim
end
noncomputable section
section
variable{a b:List ZU}{ae V aa I:Nat}
noncomputable def r7(k:Bk):List (Nat×Nat):=(Zh k.m).map λt=>(k.i+t,k.j+t)
theorem Eh{S:ZU->Bool}{d:Nat}(ha:V<=a.length)(hb:I<=b.length)(h1:ae<=V)(h2:aa<=I)(h:ae=V\/aa=I):gm a b S (d+1) ae V aa I/\fK a b S (d+1) ae V aa I=[]:=by
 have F:=rc (S:=S) ha hb h1 h2;have e:(bc a b S ae V aa I).i=(bc a b S ae V aa I).p:=by have:=F.i0;have:=F.ip;have:=F.p1;have:=F.j0;have:=F.q1;have:=F.jq;exact(pk 0x7 0x206883d08383070736047c147822351918e5468e6) h ‹_› ‹_› ‹_› ‹_› ‹_› this
 exact⟨.inl e,if_pos e⟩
theorem ac0:∀(e ae V aa I:Nat),V<=a.length->I<=b.length->ae<=V->aa<=I->V-ae<e->∀d,(jl (dq a b) e ae V aa I).length+1<=d->gm a b (fg b) d ae V aa I/\fK a b (fg b) d ae V aa I=(jl (dq a b) e ae V aa I).flatMap r7:=by intro ik;induction ik with
 |zero=>intro _;intro _;intro _;intro _;intro _;intro _;intro _;intro _;intro h;intro _;intro _;exact absurd h (WX _);|succ e ih=>intro ae;intro V;intro aa;intro I;intro ha;intro hb;intro h1;intro h2;intro he;intro lK;cases lK with
 |zero=>intro h;exact((aD 0x22 0xf602f889e1) h).elim;|succ d=>
   intro hd;have F:=rc (S:=fg b) ha hb h1 h2;have ek:dq a b ae V aa I=⟨(bc a b (fg b) ae V aa I).i,(bc a b (fg b) ae V aa I).j,(bc a b (fg b) ae V aa I).p-(bc a b (fg b) ae V aa I).i⟩:=by unfold dq;exact bG (Zz (Lp (S:=fg b) ha hb h1 λx hx=>adq hx)) rfl
   rw[acZ]at hd⊢;rw[ek]at hd⊢;rw[JU,aaw];dsimp only at hd⊢;clear ek;generalize bc a b (fg b) ae V aa I=k at*;obtain⟨ki,kj,kp,kq⟩:=k;obtain⟨i0,ip,p1,j0,q1,jq,C,C,C⟩:=F;dsimp only at*;by_cases hm:kp-ki=0;·exists if_pos hm;exists(if_pos (by exact(ar 0x2 0xc083a0be4116841) ip hm));exact⟨.inl ((ar 0x2 0xc083a0be4116841) ip hm),rfl⟩
   rw[if_neg hm]at hd⊢;exists(if_neg (by exact(ar 0x2 0x7b417c822f6841) hm));have ep:ki+(kp-ki)=kp:=(ar 0x2 0x3da0be411685190441) hm;have eq:kj+(kp-ki)=kq:=(aU 0x3 0x35190c412689190c41) jq;rw[ep,eq]at hd⊢;have hl:gm a b (fg b) d ae ki aa kj/\fK a b (fg b) d ae ki aa kj=(if ae<ki/\aa<kj then jl (dq a b) e ae ki aa kj else[]).flatMap r7:=by
    replace hd:=ZF▸ZQ▸hd;by_cases c:ae<ki/\aa<kj;·rw[if_pos c]at hd⊢;exact ih ae ki aa kj ((aU 0x4 0xc0878193448c8240e041) ha p1 ep) ((gC 0x5 0xc087819b51910a136041) hb q1 jq) ((ar 0x2 0x3020e041) i0) ((ar 0x2 0x3020e041) j0) ((lh 0x5 0x1820b3113c32113042fb417c865fe4c7c8c590c843) h1 he p1 hm c) d ((au 0x43 0xc444f1c44f8c44f10703889e1) hd)
    ·exists if_neg c;obtain⟨d,rfl⟩:∃n,d=n+1:=⟨d-1,(au 0xc44 0x6222786227c62278c5a889f213c21) hd⟩;exact Eh ((aU 0x4 0xc0878193448c8240e041) ha p1 ep) ((gC 0x5 0xc087819b51910a136041) hb q1 jq) ((ar 0x2 0x3020e041) i0) ((ar 0x2 0x3020e041) j0) ((aU 0x3 0x3030e082f7f24164611034416861) i0 j0 c)
   have hr:gm a b (fg b) d kp V kq I/\fK a b (fg b) d kp V kq I=(if kp<V/\kq<I then jl (dq a b) e kp V kq I else[]).flatMap r7:=by
    replace hd:=ZF▸ZQ▸hd;by_cases c:kp<V/\kq<I;·rw[if_pos c]at hd⊢;exact ih kp V kq I ((ar 0x2 0x3020e041) ha) ((ar 0x2 0x3020e041) hb) ((ar 0x2 0x3020e041) p1) ((ar 0x2 0x3020e041) q1) ((lh 0x6 0x33113c3218b061fb417c8c5fe4e4c88b90c8a2) he i0 hm c) d ((au 0x43 0xc444f1c44f8c44f08b03889e1) hd)
    ·exists if_neg c;obtain⟨d,rfl⟩:∃n,d=n+1:=⟨d-1,(au 0xc44 0x6222786227c62278c5a889f213c21) hd⟩;exact Eh ((ar 0x2 0x3020e041) ha) ((ar 0x2 0x3020e041) hb) (by exact(ar 0x2 0x3020e041) p1) (by exact(ar 0x2 0x3020e041) q1) (by exact(aU 0x3 0x3030e082f7f24164611034416861) p1 q1 c)
   refine⟨.inr ⟨hl.1,hr.1⟩,?_⟩;exists hl.2;rw[hr.2,Xe,Zd,Zm];rfl
end
section
variable{a b:List ZU}
theorem ab4:∀(l:List Bk)(c:Bk)(o:List Bk),Ch (Gp a b) (c::l)->(∀k∈c::l,Mt a b k)->jj (l.foldl gS (o,c)).2 (l.foldl gS (o,c)).1=o++c::l:=by intro ik;induction ik with
 |nil=>intro c;intro o;intro _;intro h;have:=(h c (.head _)).m;show jj c o=_;unfold jj;exact bG (if_neg (by exact(aD 0x2 0x19085fed05e1) this)) rfl;|cons d l ih=>
  intro c;intro o;intro hc;intro h;have mc:=h c (.head _);have md:=h d (.tail _ (.head _));have g:Gp a b c d:=hc.1;have no:¬(c.i+c.m=d.i/\c.j+c.m=d.j):=by
   rintro⟨e1,e2⟩;refine ZR g.ne (λne=>?_) (λne=>?_);·exact ne (by exists e1;exists e2;exact md.eq 0 md.m)
   ·have:=mc.eq (c.m-1) (by have:=mc.m;exact(aD 0x2 0x3210bf21909e1) this);have hm:=mc.m;exact ne (by exists Zz e1;exists Zz e2;exists(show c.i+c.m-1=c.i+(c.m-1)by exact(ar 0x23 0x19105fa8c84f106427c441) hm);exists(show c.j+c.m-1=c.j+(c.m-1)by exact(ar 0x23 0x19105fa8c84f106427c441) hm);exact this)
  have e:gS (o,c) d=(o++[c],d):=by have:=mc.m;unfold gS jj;dsimp only;exists if_neg no;exact bG (if_neg (by exact(aD 0x2 0x19085fed05e1) this)) rfl
  exists Wt;rw[e,ih d _ hc.2 λk hk=>h k (.tail _ hk),Zm];rfl
theorem ab5{l:List Bk}(hc:Ch (Gp a b) l)(h:∀k∈l,Mt a b k):qC l=l:=by unfold qC;cases l with|nil=>rfl;|cons c l=>
  have e:gS ([],⟨0,0,0⟩) c=([],c):=by
   unfold gS jj;dsimp only;split;·rename_i q;refine aO q ?_;clear q;intro q1 q2;obtain⟨ci,cj,cm⟩:=c;dsimp only at q1 q2⊢;subst q1 q2;simp
   ·rfl
  exists Wt;exists e;exists ab4 l c [] hc h;rfl
noncomputable def bD(a b:List ZU)(o:Op):List (ZU×ZU):=if o.t=eqT then(seg a o.i1 o.i2).map (Z9 " ",·)else(if o.t=jn\/o.t=oz then(seg a o.i1 o.i2).map (Z9 "-",·)else[])++(if o.t=jn\/o.t=mF then(seg b o.j1 o.j2).map (Z9 "+",·)else[])
theorem adD(o:Op):lC a b o=(bD a b o).map λr=>.str (r.1++r.2):=by
 have e:∀(l:List ZU)(i j:Nat)(s:String),((l.drop i).take (j-i)).map (qL (Z9 s))=((seg l i j).map (Z9 s,·)).map λr=>AV.str (r.1++r.2):=λl i j s=>by exists XW;unfold seg;exists UD;rfl
 unfold lC bD;split;·exact e _ _ _ _
 ·exists ZJ;congr 1
  ·split;·exact e _ _ _ _
   ·rfl
  ·split;·exact e _ _ _ _
   ·rfl
theorem mU{l:List ZU}{i j:Nat}(h:j<=i):seg l i j=[]:=by unfold seg;rw[U8,Zi];exact(au 0x3 0xc0c381d041) h
noncomputable def lN(a b:List ZU)(i i' j j':Nat):List (ZU×ZU):=(seg a i i').map (Z9 "-",·)++(seg b j j').map (Z9 "+",·)
theorem Jw:jn≠eqT/\oz≠eqT/\mF≠eqT/\oz≠jn/\mF≠jn/\oz≠mF:=dk
theorem ux(i j:Nat)(k:Bk):(fN i j k).flatMap (bD a b)=lN a b i k.i j k.j++(seg a k.i (k.i+k.m)).map (Z9 " ",·):=by
 obtain⟨t1,t2,t3,t4,t5,t6⟩:=Jw;exists Xe;congr 1
 ·unfold lN;by_cases c:i<k.i\/j<k.j
  ·exists if_pos c;rw[Zd,W7,ZA];unfold bD lF;dsimp only;by_cases c1:i<k.i/\j<k.j;·exists if_pos c1;exists(if_neg (show¬Z9 "replace"=eqT from t1));exists if_pos (.inl rfl);exact bG (if_pos (.inl rfl)) rfl
   ·exists if_neg c1;by_cases c2:i<k.i;·exists if_pos c2;exists(if_neg (show¬Z9 "delete"=eqT from t2));exists if_pos (.inr rfl);exists(if_neg (show¬(Z9 "delete"=jn\/Z9 "delete"=mF)fromλh=>h.elim t4 t6));exists(mU (l:=b) (show k.j<=j by exact(aU 0x3 0x3dfc847920b2416061) c1 c2));rfl
    ·exists if_neg c2;exists(if_pos (show j<k.j by exact(aU 0x3 0x8191872417b2416461) c c2));exists(if_neg (show¬Z9 "insert"=eqT from t3));exists(if_neg (show¬(Z9 "insert"=jn\/Z9 "insert"=oz)fromλh=>h.elim t5 λe=>t6 e.symm));exists(if_pos (show Z9 "insert"=jn\/Z9 "insert"=mF from .inr rfl));exists(mU (l:=a) (show k.i<=i by exact(ar 0x2 0x7b2116041) c2));rfl
  ·exists if_neg c;exists(mU (l:=a) (show k.i<=i by exact(aU 0x2 0xf081920f2116041) c));exists(mU (l:=b) (show k.j<=j by exact(aU 0x2 0xf081908b241e041) c));rfl
 ·by_cases c:k.m=0;·exists if_pos c;rw[c,VF,mU (l:=a) (ZO _)];rfl
  ·exists if_neg c;rw[Zd,W7,ZA];unfold bD;dsimp only;exact bG (if_pos (show Z9 "equal"=eqT from rfl)) rfl
theorem adY(l:List ZU){i n:Nat}(h:i<=n):seg l i n++seg l n (n+1)=seg l i (n+1):=by
 have z:PY n (PX n l)=[]:=U8.mpr (by exists Zi;exact ar 0x2 0x180d041);unfold seg;exists YX;rw[TF,TF,z,XB];by_cases q:n<l.length;·exists Zi;rw[V3 (by exact(ar 0x2 0x3220e041) q),show i-n=0 by exact(ar 0x2 0x18107417c841) h,Ti]
 ·have e:l[n]?=ZT:=W1 ((ar 0x2 0x7b2116041) q);exists e;simp only[Option.toList_none,List.drop_nil,ZA]
theorem ado(i j:Nat):∀(m:Nat)(st:RS),0<m->(((Zh m).map λt=>(i+t,j+t)).foldl (iW a b) st)=⟨st.rows++lN a b st.i i st.j j++(seg a i (i+m)).map (Z9 " ",·),i+m,j+m⟩:=λm st h=>by cases m with|zero=>cases h;|succ m=>clear h;induction m with
 |zero=>show iW a b st (i+0,j+0)=_;unfold iW lN;simp only[VF,Zm];|succ m ih=>exists Wx;exists ZJ;exists Yk;exists ih;show iW a b _ (i+(m+1),j+(m+1))=_;unfold iW;dsimp only;exists mU (l:=a) (ZO _);exists mU (l:=b) (ZO _);exists Zz (Ws i (m+1) 1);exists Zz (Ws i m 1);exists Zz (Ws j (m+1) 1);exists(Zz (adY a (show i<=i+m+1 by exact ar 0x22 0xc444f88442)));simp only[YS,ZA,ZJ,Zm,Ws]
theorem adH:∀(l:List Bk)(st:RS),(∀k∈l,0<k.m)->((l.flatMap r7++[(a.length,b.length)]).foldl (iW a b) st).rows=st.rows++(gh st.i st.j (l++[⟨a.length,b.length,0⟩])).flatMap (bD a b):=by intro N';induction N' with|nil=>intro st _;show(iW a b st (a.length,b.length)).rows=_;have e:gh st.i st.j ([]++[⟨a.length,b.length,0⟩])=fN st.i st.j ⟨a.length,b.length,0⟩:=ZA _;exists e;rw[ux];unfold iW lN;dsimp only;exists(show seg a a.length (a.length+1)=[]from U8.mpr (by refine bG Zi ?_;exact aD 0x1 0xc0681889e1));exists(show seg a a.length (a.length+0)=[]from mU (ZO _));simp only[YS,ZA,Zm];|cons k l ih=>intro st h;exists Zd;rw[Zm,Yk,show r7 k=(Zh k.m).map λt=>(k.i+t,k.j+t)from rfl,ado k.i k.j k.m st (h k (.head _)),ih _ λk' hk=>h k' (.tail _ hk)];show _=_++(fN st.i st.j k++gh (k.i+k.m) (k.j+k.m) (l++[⟨a.length,b.length,0⟩])).flatMap (bD a b);exists Xe;rw[ux];simp only[Zm]
end
end
noncomputable section
abbrev cV:=ZU×ZU
noncomputable def sp(r:cV):Bool:=r.1==Z9 " "
noncomputable def aF(n:Int):List cV->Int
 |[]=>n+1|r::rs=>if sp r then aF n rs+1 else 0
theorem Kb(n:Int):∀rows,aF n rows=kW (n+1) rows.reverse:=by intro N';induction N' with|nil=>exact rfl;|cons r rs ih=>rw[Xn,vI,<-ih];rfl
noncomputable def q9(n:Int):List cV->List Int
 |[]=>[]|r::rs=>aF n (r::rs)::q9 n rs
theorem Ki(n:Int):∀rows,(e8 (n+1) rows.reverse).reverse=q9 n rows:=by intro N';induction N' with|nil=>exact rfl;|cons r rs ih=>rw[Xn,EM,U0,ih,<-Kb n rs];rfl
theorem Kh(n:Int)(r:cV)(rs:List cV):∀pre:List cV,(q9 n (pre++r::rs)).getD pre.length 0=aF n (r::rs):=by intro N';induction N' with|nil=>exact rfl;|cons p pre ih=>have:=ih;show(aF n (p::(pre++r::rs))::q9 n (pre++r::rs)).getD (pre.length+1) 0=_;exists RY;exact this
theorem Nn(r:cV)(rs:List cV):∀(pre:List cV)(bu:Int),(e8 bu (pre++r::rs)).getD pre.length 0=if sp r then kW bu pre+1 else 0:=by intro N';induction N' with|nil=>exactλbu=>rfl;|cons p pre ih=>intro bu;have:=ih (if p.1==Z9 " "then bu+1 else 0);show((if p.1==Z9 " "then bu+1 else 0)::e8 (if p.1==Z9 " "then bu+1 else 0) (pre++r::rs)).getD (pre.length+1) 0=_;exists RY;exists this;rfl
noncomputable def dp(n:Int):Int->DS->List cV->DS
 |_,st,[]=>dK st|bu,st,r::rs=>if min (if sp r then bu+1 else 0) (aF n (r::rs))<=n then dp n (if sp r then bu+1 else 0) {st with bt:=st.bt++[r]} rs else dp n (if sp r then bu+1 else 0) (dK st) rs
theorem uE(n bu:Int)(st:DS)(r:cV)(rs:List cV):dp n bu st (r::rs)=if min (if sp r then bu+1 else 0) (aF n (r::rs))<=n then dp n (if sp r then bu+1 else 0) {st with bt:=st.bt++[r]} rs else dp n (if sp r then bu+1 else 0) (dK st) rs:=rfl
theorem adJ(n:Int):∀(uU pre:List cV)(st:DS),(QU pre.length (uU.length+1)).foldl (kM (pre++uU) n (e8 (n+1) (pre++uU)) (q9 n (pre++uU))) st=dp n (kW (n+1) pre) st uU:=by intro N';induction N' with
 |nil=>intro pre st;show kM _ n _ _ st pre.length=dK st;unfold kM;rw[ZA,if_neg (λh=>absurd h.1 (YT _))];|cons r rs ih=>
  intro pre st;exists ZF;exists Q8;exists Wt;have e:pre++r::rs=(pre++[r])++rs:=by simp
  have ih:=ih (pre++[r]) (kM (pre++r::rs) n (e8 (n+1) (pre++r::rs)) (q9 n (pre++r::rs)) st pre.length);rw[<-e,ZQ,Y7]at ih;rw[ih,vI];unfold kM;rw[Nn,Kh];have hl:pre.length<(pre++r::rs).length:=by exists ZQ;exists ZF;exact ar 0x22 0xcc62278442
  have hg:(pre++r::rs).getD pre.length (Z9 "",Z9 "")=r:=by rw[Zj,Wi (ZO _),Ti];rfl
  exists hg;show dp n (if sp r then kW (n+1) pre+1 else 0) _ rs=dp n (kW (n+1) pre) st (r::rs);rw[uE];generalize(if sp r=ZW then kW (n+1) pre+1 else 0)=F;by_cases c:min F (aF n (r::rs))<=n;·exists if_pos ⟨hl,c⟩;exact bG (if_pos c) rfl
  ·exists(if_neg λh=>c h.2);exact bG (if_neg c) rfl
theorem Mg(rows:List cV)(n:Int):f6 rows n (rows.length+1)=dp n (n+1) ⟨[],[],0,0⟩ rows:=by unfold f6;rw[Ki,List.range_eq_range'];exact adJ n rows [] _
section
variable{n:Int}
theorem vg{rs:List cV}:∀{xs:List cV},(∀x∈xs,sp x=ZW)->aF n (xs++rs)=aF n rs+xs.length:=by intro N';induction N' with|nil=>intro _;simp;|cons x xs ih=>intro h;have:=ih λy hy=>h y (.tail _ hy);show(if sp x then aF n (xs++rs)+1 else 0)=_;exists if_pos (h x (.head _));exists this;exists ZF;exact jN 0x1 0xec6d113c227444f8844e
theorem Ah{rs:List cV}:∀{xs:List cV}{bu:Int}{st:DS},(∀x∈xs,sp x=ZW)->bu+xs.length<=n->dp n bu st (xs++rs)=dp n (bu+xs.length) {st with bt:=st.bt++xs} rs:=by intro N';induction N' with|nil=>intro bu st _ _;simp;|cons x xs ih=>intro bu st h hn;have hx:=h x (.head _);replace hn:=ZF▸hn;rw[Xv,uE];exists if_pos hx;exists(if_pos (by exact Ar.bA 0x24 0x364746d113c2276c8ea0dd113c4e [_,0,0,0] [0,_,_,_] (by kernel_rfl) hn));exists(ih (λy hy=>h y (.tail _ hy)) ((wt 0x2 0x1b1ba36889e113b637443113c4e) hn));exists ZF;rw[Zm];congr 1;exact jN 0x1 0xec6d113c227443113c4e
theorem Ag{rs:List cV}:∀{xs:List cV}{bu:Int}{st:DS},(∀x∈xs,sp x=ZW)->aF n rs+xs.length<=n->dp n bu st (xs++rs)=dp n (bu+xs.length) {st with bt:=st.bt++xs} rs:=by intro N';induction N' with|nil=>intro bu st _ _;simp;|cons x xs ih=>intro bu st h hn;have hx:=h x (.head _);have ha:aF n (x::(xs++rs))=_:=vg (rs:=rs) (xs:=x::xs) h;rw[Xv,uE];exists ha;exists if_pos hx;exists(if_pos (by exact Ar.bA 0x3 0xd91d108ddb23a9108dd113c4e [_,0,0,0] [0,_,_,_] (by kernel_rfl) hn));rw[ZF]at hn⊢;exists(ih (λy hy=>h y (.tail _ hy)) ((wt 0x2 0x363746d113c2276c6e8844e) hn));rw[Zm];congr 1;exact jN 0x1 0xec6d113c227443113c4e
noncomputable def kL:Nat->DS->DS
 |0,st=>st|k+1,st=>kL k (dK st)
theorem s8(told:List ZU):∀(k:Nat)(old new:Int),kL k ⟨told,[],old,new⟩=⟨told,[],old+k,new+k⟩:=by intro N';induction N' with|zero=>intro old new;show(⟨told,[],old,new⟩:DS)=⟨told,[],old+((0:Nat):Int),new+((0:Nat):Int)⟩;rw[show((0:Nat):Int)=0 from rfl,WG,WG];|succ k ih=>
  intro old new;show kL k (dK ⟨told,[],old,new⟩)=_;have:dK ⟨told,[],old,new⟩=⟨told,[],old+1,new+1⟩:=by unfold dK cnt;simp
  rw[this,ih];congr 1<;>exact jN 0x1 0xec6d113c227443113c4e
theorem vy{rs:List cV}:∀{xs:List cV}{bu:Int}{st:DS},(∀x∈xs,sp x=ZW)->n<=bu->(xs≠[]->n<=aF n rs)->dp n bu st (xs++rs)=dp n (bu+xs.length) (kL xs.length st) rs:=by intro N';induction N' with|nil=>intro bu st _ _ _;show dp n bu st rs=dp n (bu+((0:Nat):Int)) st rs;rw[show bu+((0:Nat):Int)=bu from WG _];|cons x xs ih=>intro bu st h h1 h2;have hx:=h x (.head _);have h2:=h2 (by simp);have ha:aF n (x::(xs++rs))=_:=vg (rs:=rs) (xs:=x::xs) h;rw[Xv,uE];exists ha;exists if_pos hx;exists(if_neg (by rw[ZF];exact Ar.bA 0x24 0xd89c476c6e23bdb23a91b444f08dd113c4e [_,0,0,0] [0,_,_,_] (by kernel_rfl) h1 h2));exists(ih (λy hy=>h y (.tail _ hy)) ((ia 0x2 0x1b1382edc44f1382e) h1) λC=>h2);exists ZF;congr 1;exact jN 0x1 0xec6d113c227443113c4e
theorem Dg{rs:List cV}:∀{xs:List cV},xs≠[]->(∀x∈xs,sp x=ZS)->aF n (xs++rs)=0:=by intro N';induction N' with|nil=>exactλh _=>absurd rfl h;|cons x xs ih=>intro _ h;show(if sp x then aF n (xs++rs)+1 else 0)=0;exact bG (if_neg (by exists h x (.head _);decide)) rfl
theorem IX(hn:0<=n){x:cV}{rs:List cV}{bu:Int}{st:DS}(h:sp x=ZS):dp n bu st (x::rs)=dp n 0 {st with bt:=st.bt++[x]} rs:=by have e:(if sp x=ZW then bu+1 else 0)=0:=if_neg (by exists h;decide);rw[uE,e,if_pos (by exact(ia 0x3 0x1b1382fd89d40b82f) hn)]
theorem uf{rs:List cV}(hn:0<=n):∀{xs:List cV}{bu:Int}{st:DS},xs≠[]->(∀x∈xs,sp x=ZS)->dp n bu st (xs++rs)=dp n 0 {st with bt:=st.bt++xs} rs
 |[],bu,st,h,_=>absurd rfl h|[x],bu,st,_,h=>IX hn (h x (.head _))|x::y::xs,bu,st,_,h=>by exists Xv;exists IX hn (h x (.head _));exists(uf hn (by simp) λz hz=>h z (.tail _ hz));rw[Zm];rfl
theorem M0{xs rs:List cV}{st:DS}{N:Nat}(h:∀x∈xs,sp x=ZW)(ha:aF N rs=0)(hl:xs.length<=2*N):∃bu,dp N 0 st (xs++rs)=dp N bu {st with bt:=st.bt++xs} rs:=by
 have e:xs++rs=xs.take N++(xs.drop N++rs):=by rw[<-Zm,Yp]
 have h1:∀x∈xs.take N,sp x=ZW:=λx hx=>h x (Yh hx);have h2:∀x∈xs.drop N,sp x=ZW:=λx hx=>h x (Yi hx);have l1:(xs.take N).length<=N:=by exists Zi;exact ar 0x2 0x180d041
 have l2:(xs.drop N).length<=N:=by exists Xy;exact(ar 0x43 0x62621bc3814841) hl
 exists e;exists Ah h1 ((ar 0x2 0x18107628842f) l1);exists Ag h2 ((pn 0x3 0x3a1789d8187638844e) ha l2);rw[Zm,Yp];exact⟨_,rfl⟩
theorem MZ{xs rs:List cV}{st:DS}{N:Nat}(h:∀x∈xs,sp x=ZW)(ha:aF N rs=0)(hl:2*N<xs.length):∃bu,dp N 0 st (xs++rs)=dp N bu {kL (xs.length-2*N) {st with bt:=st.bt++xs.take N}with bt:=xs.drop (xs.length-N)} rs:=by
 have e:xs++rs=xs.take N++((xs.drop N).take (xs.length-2*N)++(xs.drop (xs.length-N)++rs)):=by
  rw[<-Zm,<-Zm];congr 1;rw[Zm];have:xs.drop (xs.length-N)=(xs.drop N).drop (xs.length-2*N):=by exists Qa;congr 1;exact(ar 0x43 0x3219886fd465310de114841) hl
  rw[this,Yp,Yp]
 have h1:∀x∈xs.take N,sp x=ZW:=λx hx=>h x (Yh hx);have h2:∀x∈(xs.drop N).take (xs.length-2*N),sp x=ZW:=λx hx=>h x (Yi (Yh hx));have h3:∀x∈xs.drop (xs.length-N),sp x=ZW:=λx hx=>h x (Yi hx);have l1:(xs.take N).length=N:=by exists Zi;exact(ar 0x43 0x645308dfa0d041) hl
 have l2:((xs.drop N).take (xs.length-2*N)).length=xs.length-2*N:=by exists Zi;exists Xy;exact ar 0x43 0x1a94c43786921065310de1
 have l3:(xs.drop (xs.length-N)).length=N:=by exists Xy;exact(ar 0x43 0x190cc437e85290821) hl
 have a3:=vg (n:=(N:Int)) (rs:=rs) h3;exists e;exists Ah h1 ((ar 0x2 0x1a107628842f) l1);exists(vy h2 ((ar 0x2 0x1a08b71105e1) l1) (λC=>by exact Ar.bA 0x4 0x742f1bb41276241b84ed89c1 [_,0,0,_] [0,_,_,0] (by kernel_rfl) ha l3 a3));exists l2;exists Ag h3 ((pn 0x3 0x3a1789da187638844e) ha l3);have hh:∀(k:Nat)(st:DS),0<k->(kL k st).bt=[]:=λk st hk=>by cases k with|zero=>exact(Ar.bA 0x1 0x3d90bc2f [] [] (by kernel_rfl) hk).elim;|succ k=>show(kL k (dK st)).bt=[];have:dK st=⟨(dK st).told,[],(dK st).old,(dK st).new⟩:=rfl;rw[this,s8]
 exists hh _ _ ((ar 0x2 0x643310df994c437842f) hl);exact⟨_,rfl⟩
theorem MY{xs:List cV}{st:DS}{N:Nat}(h:∀x∈xs,sp x=ZW):(dp N 0 st xs).told=(dK {st with bt:=st.bt++xs.take N}).told:=by
 have e:xs=xs.take N++(xs.drop N++[]):=by rw[ZA,Yp]
 have h1:∀x∈xs.take N,sp x=ZW:=λx hx=>h x (Yh hx);have h2:∀x∈xs.drop N,sp x=ZW:=λx hx=>h x (Yi hx);have l1:(xs.take N).length=min N xs.length:=by exact bG Zi rfl
 have l2:(xs.drop N).length=xs.length-N:=by exact bG Xy rfl
 have an:aF (N:Int) []=N+1:=rfl;have s:dp N 0 st xs=dp N 0 st (xs.take N++(xs.drop N++[])):=by exact bG (Zz e) rfl
 exists s;exists(Ah h1 (by exact(au 0x3 0x6a83107628842f) l1));by_cases q:xs.drop N=[];·exists q;rfl
 ·have:0<(xs.drop N).length:=V6.mpr q;exists(vy h2 (by exact(aU 0x4 0xd50820ea4220f230bf71085e2) l1 l2 this) (λC=>by exact(jN 0x2 0x76227844ed89c1) an));show(dK (kL _ _)).told=_;have fl:∀(k:Nat)(st:DS),(dK (kL (k+1) st)).told=(dK st).told:=λk st=>by show(dK (kL k (dK st))).told=_;have:dK st=⟨(dK st).told,[],(dK st).old,(dK st).new⟩:=rfl;rw[this,s8];rfl
  obtain⟨k,hk⟩:∃k,(xs.drop N).length=k+1:=⟨(xs.drop N).length-1,(aD 0x2 0x19085fa889f213c21) this⟩;rw[hk,fl]
theorem MX{xs rs:List cV}{N:Nat}(h:∀x∈xs,sp x=ZW)(ha:aF N rs=0):∃bu,dp N (N+1) ⟨[],[],0,0⟩ (xs++rs)=dp N bu ⟨[],xs.drop (xs.length-N),(xs.length-N:Nat),(xs.length-N:Nat)⟩ rs:=by
 have e:xs++rs=xs.take (xs.length-N)++(xs.drop (xs.length-N)++rs):=by rw[<-Zm,Yp]
 have h1:∀x∈xs.take (xs.length-N),sp x=ZW:=λx hx=>h x (Yh hx);have h2:∀x∈xs.drop (xs.length-N),sp x=ZW:=λx hx=>h x (Yi hx);have l1:(xs.take (xs.length-N)).length=xs.length-N:=by exists Zi;exact ar 0x823 0x1a908340c841
 have l2:(xs.drop (xs.length-N)).length=min N xs.length:=by exists Xy;exact ar 0x823 0x1aa045290821
 have a2:=vg (n:=(N:Int)) (rs:=rs) h2;rw[e,vy h1 (by exact aD 0x1 0x37113c21) (λq=>by have:0<(xs.take (xs.length-N)).length:=V6.mpr q;exact Ar.bA 0x6 0x3a178dda91482d5085376261b82ec882fd85c5 [0,_,0,_,_,_] [_,0,_,0,0,0] (by kernel_rfl) ha l1 l2 a2 this),l1,s8,Ag h2 (by exact(uk 0x4 0xe85e276a84187638844e) ha l2)];rw[XB,XN];exact⟨_,rfl⟩
theorem MW{xs:List cV}{N:Nat}(h:∀x∈xs,sp x=ZW):(dp N (N+1) ⟨[],[],0,0⟩ xs).told=[]:=by
 have s:dp N (N+1) ⟨[],[],0,0⟩ xs=dp N (N+1) ⟨[],[],0,0⟩ (xs++[]):=by rw[ZA]
 have an:aF (N:Int) []=N+1:=rfl;rw[s,vy h (by exact aD 0x1 0x37113c21) (λC=>by exact(jN 0x2 0x76227844ed89c1) an),s8];rfl
end
end
noncomputable section
section
variable{a b:List ZU}{R:Nat}
noncomputable def k7(a b:List ZU)(g:List Op):List ZU:=(match g.head?,g.getLast? with
 |some f,Z7 l=>[jH f.i1 (l.i2-f.i1) f.j1 (l.j2-f.j1)]|_,_=>[])++(g.flatMap (bD a b)).map λr=>r.1++r.2
structure OpK(a b:List ZU)(i j:Nat)(o:Op):Prop where
 i1:o.i1=i
 j1:o.j1=j
 i2:o.i1<=o.i2
 j2:o.j1<=o.j2
 iz:o.i2<=2000
 jz:o.j2<=2000
 cp:cnt "+" (bD a b o)=o.i2-o.i1
 cm:cnt "-" (bD a b o)=o.j2-o.j1
structure gI(a b:List ZU)(R i j:Nat)(e:Op):Prop where
 t:e.t=eqT
 i1:e.i1=i
 j1:e.j1=j
 i2:e.i1<=e.i2
 j2:e.j2=e.j1+(e.i2-e.i1)al:e.i2<=a.length
 iz:e.i2<=2000
 jz:e.j2<=2000
 r:e.i2-e.i1<=R
structure xT(a b:List ZU)(i j:Nat)(c:Op):Prop extends OpK a b i j c where
 t:c.t≠eqT
 ne:bD a b c≠[]sp:∀x∈bD a b c,sp x=false
theorem ou(s:String)(x y:List cV):cnt s (x++y)=cnt s x+cnt s y:=by unfold cnt;rw[Xx,ZQ]
theorem DR{s:String}{xs:List cV}(hs:(Z9 " "!=Z9 s)=ZW)(h:∀x∈xs,sp x=ZW):cnt s xs=xs.length:=by unfold cnt;rw[UY.mpr];intro x hx;have:=eq_of_beq (h x hx);exists this;exact hs
theorem gI.rows{i j:Nat}{e:Op}(E:gI a b R i j e):bD a b e=(seg a e.i1 e.i2).map (Z9 " ",·):=by unfold bD;exact bG (if_pos E.t) rfl
theorem gI.qP{i j:Nat}{e:Op}(E:gI a b R i j e):∀x∈bD a b e,Mine.Internal.sp x=ZW:=by exists E.rows;intro x hx;refine dn hx λy C=>?_;exact beq_self_eq_true _
theorem gI.len{i j:Nat}{e:Op}(E:gI a b R i j e):(bD a b e).length=e.i2-e.i1:=by rw[E.rows,Z4,l8 _ _ _ E.al]
theorem aer:(Z9 " "!=Z9 "+")=ZW:=dk
theorem aeq:(Z9 " "!=Z9 "-")=ZW:=dk
theorem gI.op{i j:Nat}{e:Op}(E:gI a b R i j e):OpK a b i j e:=⟨E.i1,E.j1,E.i2,by have:=E.j2;exact(aU 0x3 0x351910411e061) this,E.iz,E.jz,by exists DR aer E.qP;exact bG E.len rfl,by exists DR aeq E.qP;exists E.len;have:=E.j2;exact(aU 0x3 0x35190c2416a4414861) this⟩
theorem gI.head{i j n:Nat}{e:Op}(E:gI a b R i j e):gI a b R (e.i2-min n (e.i2-e.i1)) (e.j2-min n (e.i2-e.i1)) (cO n e)/\bD a b (cO n e)=(bD a b e).drop ((e.i2-e.i1)-n)/\(cO n e).i2=e.i2/\(cO n e).j2=e.j2/\(cO n e).i2-(cO n e).i1<=n:=by
 have hE:=E;obtain⟨t,i1,j1,i2,j2,al,iz,jz,r⟩:=hE;have h:cO n e=⟨e.t,max e.i1 (e.i2-n),e.i2,max e.j1 (e.j2-n),e.j2⟩:=if_pos t;have K:gI a b R (e.i2-min n (e.i2-e.i1)) (e.j2-min n (e.i2-e.i1)) (cO n e):=by exists h;exact⟨t,Ar.Az i2,Ar.G4 j2,by dsimp only;exact(au 0xc44 0x3020e05590c41) i2,Ar.abT i2 j2,al,iz,jz,by dsimp only;exact(aU 0x5 0x303910581cab208882) r⟩
 refine l5 K ?_ (by exact bG h rfl) (by exact bG h rfl) (by exists h;dsimp only;exact au 0x44 0x1814ab210461);exists K.rows;exists E.rows;exists Zz TY;exists h;dsimp only;unfold seg;exists Qa;congr 2;exact au 0xc44 0x1a8c8721045590c22
theorem gI.last{i j n:Nat}{e:Op}(E:gI a b R i j e):gI a b R i j (dy n e)/\bD a b (dy n e)=(bD a b e).take n/\(dy n e).i2=i+min n (e.i2-e.i1)/\(dy n e).j2=j+min n (e.i2-e.i1)/\(dy n e).i2-(dy n e).i1<=n:=by
 have hE:=E;obtain⟨t,i1,j1,i2,j2,al,iz,jz,r⟩:=hE;have h:dy n e=⟨e.t,e.i1,min e.i2 (e.i1+n),e.j1,min e.j2 (e.j1+n)⟩:=if_pos t;have K:gI a b R i j (dy n e):=by exists h;exact⟨t,i1,j1,by dsimp only;exact(au 0x43 0x3030e29110461) i2,by dsimp only;exact(bQ 0x24 0x3519146416a322d22128c9488482) j2,by dsimp only;exact(aU 0x3 0x3040e09488c41) al,by dsimp only;exact(au 0x3 0xc461f809e1c461f809f488c41) iz,by dsimp only;exact(au 0x3 0xc461f809e1c461f809f488c41) jz,by dsimp only;exact(aU 0x4 0x303910581c89488482) r⟩
 refine l5 K ?_ (by exists h;dsimp only;exact(aU 0x4 0x6883c087a8d2431049488462) i1 i2) (by exists h;exact Ar.abZ j1 j2) (by exists h;dsimp only;exact au 0x43 0x181487488861);exists K.rows;exists E.rows;exists Zz TZ;exists h;dsimp only;unfold seg;exists UD;exists UD;exists Qv;congr 2;exact au 0x43 0x1aa48611487488861
structure Gr(a b:List ZU)(g:List Op)(st:DS)(i j:Nat)(f l:Op):Prop where
 hf:g.head?=some f
 hl:g.getLast?=some l
 li:l.i2=i
 lj:l.j2=j
 bt:st.bt=g.flatMap (bD a b)old:st.old=f.i1
 new:st.new=f.j1
 ci:f.i1+cnt "+" st.bt=i
 cj:f.j1+cnt "-" st.bt=j
 iz:i<=2000
 jz:j<=2000
theorem Gr.add{g:List Op}{st:DS}{i j:Nat}{f l o:Op}(G:Gr a b g st i j f l)(K:OpK a b i j o):Gr a b (g++[o]) {st with bt:=st.bt++bD a b o} o.i2 o.j2 f o where
 hf:=by have:=G.hf;cases g with|nil=>cases this|cons x g=>exact this
 hl:=U9 ..;li:=rfl;lj:=rfl;bt:=by exists Xe;exists G.bt;simp
 old:=G.old;new:=G.new;ci:=by dsimp only;rw[ou,K.cp];have:=G.ci;have:=K.i1;have:=K.i2;exact Ar.bA 0x4 0xd1624168a3c047a0c63218482 [_,_,_,_,i] [] (by kernel_rfl) ‹_› ‹_› this
 cj:=by dsimp only;rw[ou,K.cm];have:=G.cj;have:=K.j1;have:=K.j2;exact Ar.bA 0x4 0xd1624168a3c047a0c63218482 [_,_,_,_,j] [] (by kernel_rfl) ‹_› ‹_› this
 iz:=K.iz;jz:=K.jz
theorem Gr.flush{g:List Op}{st:DS}{i j:Nat}{f l:Op}(G:Gr a b g st i j f l)(h:st.bt≠[]):dK st=⟨st.told++k7 a b g,[],i+1,j+1⟩:=by
 have ci:=G.ci;have cj:=G.cj;have e1:((cnt "+" st.bt:Nat):Int)=(l.i2:Int)-f.i1:=by have:=G.li;exact(aU 0x3 0x1a24423d105d90c41) ci this
 have e2:((cnt "-" st.bt:Nat):Int)=(l.j2:Int)-f.j1:=by have:=G.lj;exact(aU 0x3 0x1a24423d105d90c41) cj this
 unfold dK;exists if_neg h;exists G.old;exists G.new;exists e1;exists e2;have li:=G.li;have lj:=G.lj;have e3:k7 a b g=[jH f.i1 (l.i2-f.i1) f.j1 (l.j2-f.j1)]++st.bt.map λr=>r.1++r.2:=by unfold k7;exists G.hf;exists G.hl;exact bG G.bt rfl
 rw[e3,Zm];congr 1;·rw[<-li];exact Ar.fl
 ·exists Zz lj;exact Ar.fl
theorem Gr.ok{g:List Op}{st:DS}{i j:Nat}{f l:Op}(G:Gr a b g st i j f l)(hz:g.length<=5000):jV g f l:=⟨G.hf,G.hl,by have:=G.ci;have:=G.li;exact Ar.bA 0x64 0x68911874416041 [_,_,cnt "+" st.bt,_] [] (by kernel_rfl) ‹_› this,by have:=G.cj;have:=G.lj;exact Ar.bA 0x64 0x68911874416041 [_,_,cnt "-" st.bt,_] [] (by kernel_rfl) ‹_› this,by have:=G.li;have:=G.iz;exact(ar 0x3 0x6841c461f809e2c461f809e1) ‹_› this,by have:=G.lj;have:=G.jz;exact(ar 0x3 0x6841c461f809e2c461f809e1) ‹_› this,hz⟩
class inductive Tl(a b:List ZU)(R:Nat):Nat->Nat->List Op->Prop where|nil{i j}:Tl a b R i j []|last{i j e}:gI a b R i j e->Tl a b R i j [e]|cons{i j e c l}:gI a b R i j e->xT a b e.i2 e.j2 c->Tl a b R c.i2 c.j2 l->Tl a b R i j (e::c::l)
theorem CG(n:Nat)(x y:Op)(l:List Op):gH n (x::y::l)=x::gH n (y::l):=by have h:y::l=(y::l).dropLast++[(y::l).getLast (by simp)]:=(U1 (by simp)).symm;rw[h,CH,<-Xv,CH];rfl
theorem CF(n:Nat){c:Op}(h:c.t≠eqT)(l:List Op):gH n (c::l)=c::gH n l:=by cases l with|nil=>show[c].set 0 (dy n c)=[c];unfold dy;exists if_neg h;rfl;|cons y l=>exact CG n c y l
theorem vQ{n:Nat}{g l:List Op}{e:Op}(h:e.i2-e.i1<=2*n):du n g (e::l)=du n (g++[e]) l:=by rw[y6,if_neg (λz=>absurd z.2 (UE.mpr h))]
theorem vP{n:Nat}{g l:List Op}{c:Op}(h:c.t≠eqT):du n g (c::l)=du n (g++[c]) l:=by rw[y6,if_neg λq=>h q.1]
theorem Oq{n:Nat}{g l:List Op}{e:Op}(h:e.t=eqT)(h2:2*n<e.i2-e.i1):du n g (e::l)=(g++[dy n e])::du n [cO n e] l:=by rw[y6,if_pos ⟨h,h2⟩]
theorem E4{n:Nat}{g:List Op}(h:∃c∈g,c.t≠eqT):du n g []=[g]:=by
 refine aR h ?_;clear h;intro c hc ht;show(ite _ _ _:List (List Op))=_;rw[if_neg];rintro(rfl|⟨C,q⟩);·cases hc
 ·exact ht (q c hc)
theorem JA{n N:Nat}(hN:N=min n R){i j:Nat}{l:List Op}(T:Tl a b R i j l):∀{g:List Op}{st:DS}{f o:Op},Gr a b g st i j f o->st.bt≠[]->(∃c∈g,c.t≠eqT)->g.length+l.length<=4000->(dp N 0 st (l.flatMap (bD a b))).told=st.told++(du n g (gH n l)).flatMap (k7 a b)/\∀g'∈du n g (gH n l),∃f l',jV g' f l':=by induction T with
 |nil=>
  intro g st f o G bF hc hz;have e:du n g (gH n [])=[g]:=E4 hc;exists e;refine⟨?_,λg' fC=>?_⟩;·show(dK st).told=_;exists G.flush bF;simp
  ·exists Zv.mp fC;exact kn _ _ (G.ok (by simp at hz;exact(aD 0x2 0xc061e811e1c261d815e1) hz));|@last i j e E=>
  intro g st f o G bF hc hz;refine oB (E.last (n:=n)) λK hr hi hj hn=>?_;have G':=G.add K.op;have e1:du n g (gH n [e])=[g++[dy n e]]:=by show du n g [dy n e]=_;exists vQ ((au 0x3 0x1814861c4c437c861) hn);refine aR hc ?_;clear hc;intro c hc ht;exact E4 (aj c (Zk _ hc) ht)
  exists e1;have hx:(bD a b e).take N=(bD a b e).take n:=by
   have:=E.len;have:=E.r;by_cases q:n<=R;·exists hN;exact bG (V3 q) rfl
   ·exists Vy ((gC 0x6 0x3542907a91841c164617b0526061) hN ‹_› this q);exact bG (Vy ((bQ 0x5 0x1a91441c124517b041e061) ‹_› this q)) rfl
  refine⟨?_,λg' fC=>?_⟩;·rw[Zd,W7,ZA,MY E.qP,hx,<-hr,G'.flush (by simp[bF])];simp
  ·exists Zv.mp fC;exact kn _ _ (G'.ok (by simp at hz⊢;exact(aD 0x2 0xc821d811e1c221d815e1) hz));|@cons i j e c l E ah T ih=>
  intro g st f o G bF hc hz;have a0:aF (N:Int) (bD a b c++l.flatMap (bD a b))=0:=Dg ah.ne ah.sp;have nn:(0:Int)<=(N:Int):=aD 0x22 0xd842f;have len:=E.len;have er:=E.r;rw[CG,CF n ah.t,Zd,Zd];replace hz:=ZF▸ZF▸hz;by_cases q:2*n<e.i2-e.i1
  ·have nR:N=n:=(bQ 0x5 0x1aa1062c12450e6450cc637e862) hN er q;subst nR;exists Oq E.t q;exists vP ah.t;refine br (MZ (st:=st) E.qP a0 (by exists len;exact q)) λbu iy=>?_;exists iy;exists uf nn ah.ne ah.sp;refine oB (E.last (n:=N)) λK hr hi hj hn=>?_;refine oB (E.head (n:=N)) λK2 mD oW rI oZ=>?_;have G1:=G.add K.op;replace G1:=hr▸G1;obtain⟨k,hk⟩:∃k,(bD a b e).length-2*N=k+1:=⟨(bD a b e).length-2*N-1,by exact(aU 0x4 0xd48811e6440cc437ea227c84f94c4378e5310de3) len q⟩;have d1:kL ((bD a b e).length-2*N) {st with bt:=st.bt++(bD a b e).take N}=⟨st.told++k7 a b (g++[dy N e]),[],(dy N e).i2+1+k,(dy N e).j2+1+k⟩:=by exists hk;show kL k (dK _)=_;rw[G1.flush (by simp[bF]),s8]
   exists d1;dsimp only;have G2:Gr a b [cO N e] ⟨st.told++k7 a b (g++[dy N e]),(bD a b e).drop ((bD a b e).length-N),(dy N e).i2+1+k,(dy N e).j2+1+k⟩ (cO N e).i2 (cO N e).j2 (cO N e) (cO N e):=by
    have op:=K2.op;have i1:=E.i1;have i2:=E.i2;have j1:=E.j1;have j2:=E.j2;refine⟨rfl,rfl,rfl,rfl,?_,?_,?_,?_,?_,op.iz,op.jz⟩;·show(bD a b e).drop ((bD a b e).length-N)=bD a b (cO N e)++[];rw[mD,len,ZA]
    ·dsimp only;exists K2.i1;exists hi;exact Ar.DX i1 len q hk
    ·dsimp only;exists K2.j1;exists hj;exact Ar.Mc j1 j2 len q hk
    ·dsimp only;exists len;exists Zz mD;exists op.cp;have:=op.i2;exact(ar 0x2 0x3020e85190441) this
    ·dsimp only;exists len;exists Zz mD;exists op.cm;have:=op.j2;exact(ar 0x2 0x3020e85190441) this
   rw[<-oW,<-rI]at ah;have G3:=G2.add ah.toOpK;refine aO (ih G3 (by simp[ah.ne]) (aj c (by simp) ah.t) (by simp;exact(ar 0x43 0x6030f408f8c44f889e116030f408f8846f) hz)) λr1 r2=>?_;refine⟨?_,λg' fC=>?_⟩;·rw[Zd,<-Zm];exact r1
   ·rcases ZZ.mp fC with rfl|fC;·exact kn _ _ (G1.ok (by simp;exact(ar 0x43 0xc061e811f1889f113c41c221d815e1) hz))
    ·exact r2 g' fC
  ·exists vQ ((au 0x3 0x1ecc8619886fc4c437c861) q);exists vP ah.t;refine br (M0 (st:=st) E.qP a0 (Ar.aee hN len er q)) λbu iy=>?_;exists iy;exists uf nn ah.ne ah.sp;have G1:=(G.add E.op).add ah.toOpK;refine ih G1 (by simp[ah.ne]) (aj c (by simp) ah.t) (by simp;exact(ar 0x2 0x180c3d023e3113e22788380c3d023e2288de1) hz)
end
end
noncomputable section
section
variable{a b:List ZU}{R:Nat}
theorem rg(s c:String)(l:List ZU):cnt c (l.map (Z9 s,·))=if Z9 s=Z9 c then 0 else l.length:=by
 unfold cnt;split;·rename_i h;rw[VA.mpr];rfl;intro x hx;refine dn hx λy C=>?_;exists h;simp
 ·rename_i h;rw[UY.mpr,Z4];intro x hx;refine dn hx λy C=>?_;exact bne_iff_ne.mpr h
theorem signs:Z9 "-"≠Z9 "+"/\Z9 " "≠Z9 "+"/\Z9 " "≠Z9 "-":=dk
theorem yx(i i' j j':Nat)(h1:i'<=a.length)(h2:j'<=b.length):cnt "+" (lN a b i i' j j')=i'-i/\cnt "-" (lN a b i i' j j')=j'-j:=by obtain⟨s1,s2,s3⟩:=signs;unfold lN;rw[ou,ou,rg,rg,rg,rg,if_neg s1,if_pos rfl,if_pos rfl,if_neg s1.symm,l8 _ _ _ h1,l8 _ _ _ h2];exact⟨rfl,UW _⟩
theorem vp(i j:Nat)(k:Bk)(h:i<k.i\/j<k.j):bD a b ⟨lF i j k,i,k.i,j,k.j⟩=lN a b i k.i j k.j:=by have:=ux (a:=a) (b:=b) i j ⟨k.i,k.j,0⟩;unfold fN at this;dsimp only at this;rw[if_pos h,if_pos rfl,VF,mU (l:=a) (ZO _)]at this;simp only[ZA,YS,Zd,W7]at this;exact this
theorem vo{i j:Nat}{k:Bk}(h:i<k.i\/j<k.j)(hi:i<=k.i)(hj:j<=k.j)(al:k.i<=a.length)(bl:k.j<=b.length)(az:a.length<=2000)(bz:b.length<=2000):xT a b i j ⟨lF i j k,i,k.i,j,k.j⟩:=by
 obtain⟨t1,t2,t3,t4,t5,t6⟩:=Jw;refine aO (yx (a:=a) (b:=b) i k.i j k.j al bl) λc1 c2=>?_;refine⟨⟨rfl,rfl,hi,hj,by dsimp only;exact(ar 0x3 0x6041c461f809e2c461f809e1) al az,by dsimp only;exact(ar 0x3 0x6041c461f809e2c461f809e1) bl bz,?_,?_⟩,?_,?_,?_⟩;·exists vp i j k h;exact bG c1 rfl
 ·exists vp i j k h;exact bG c2 rfl
 ·unfold lF;dsimp only;split;·exact t1
  ·split;·exact t2
   ·exists if_pos ((aU 0x3 0x8191872417b2416461) h ‹_›);exact t3
 ·exists vp i j k h;intro e;rw[e]at c1 c2;unfold cnt at c1 c2;simp at c1 c2;exact(aU 0x3 0x206482c8c3a904617fb521102f) h c1 c2
 ·exists vp i j k h;intro x hx;refine ZR (ZE.mp hx) (λhx=>?_) (λhx=>?_);·refine dn hx λy C=>?_;exact beq_false_of_ne signs.2.2.symm
  ·refine dn hx λy C=>?_;exact beq_false_of_ne signs.2.1.symm
noncomputable def f9(a b:List ZU):Bk:=⟨a.length,b.length,0⟩
noncomputable def lQ(k:Bk):Op:=⟨Z9 "equal",k.i,k.i+k.m,k.j,k.j+k.m⟩
theorem En{k:Bk}(M:Mt a b k)(az:a.length<=2000)(bz:b.length<=2000)(hR:a.length<=R):gI a b R k.i k.j (lQ k):=by have:=M.i;have:=M.j;exact⟨rfl,rfl,rfl,by unfold lQ;dsimp only;exact ar 0x22 0x1888442,by unfold lQ;dsimp only;exact au 0x22 0x6a321c42314422,M.i,by unfold lQ;dsimp only;exact(au 0x3 0x6230fc04f160511871187e027c461) az ‹_›,by unfold lQ;dsimp only;exact(au 0x3 0x6230fc04f160511871187e027c461) bz this,by unfold lQ;dsimp only;exact(aU 0x1045 0x6064c12211607214422) hR ‹_›⟩
theorem E1{c d:Bk}(g:Gp a b c d)(mc:Mt a b c)(md:Mt a b d):c.i+c.m<d.i\/c.j+c.m<d.j:=by
 refine ZR (XK (c.i+c.m) d.i) (λq=>?_) (λq=>?_);·exact .inl q
 refine ZR (XK (c.j+c.m) d.j) (λq'=>?_) (λq'=>?_);·exact .inr q'
 exfalso;have e1:c.i+c.m=d.i:=by have:=g.i;exact(au 0x2 0x622208f038883a1c441) q this
 have e2:c.j+c.m=d.j:=by have:=g.j;exact(au 0x2 0x622208f038883a1c441) q' this
 refine ZR g.ne (λne=>?_) (λne=>?_);·exact ne (by exists e1;exists e2;exact md.eq 0 md.m)
 ·have:=mc.eq (c.m-1) (by have:=mc.m;exact(aD 0x2 0x3210bf21909e1) this);have hm:=mc.m;exact ne (by exists Zz e1;exists Zz e2;exists(show c.i+c.m-1=c.i+(c.m-1)by exact(ar 0x23 0x19105fa8c84f106427c441) hm);exists(show c.j+c.m-1=c.j+(c.m-1)by exact(ar 0x23 0x19105fa8c84f106427c441) hm);exact this)
theorem Iy{i j:Nat}{k:Bk}(h:i<k.i\/j<k.j)(hm:k.m≠0):fN i j k=[⟨lF i j k,i,k.i,j,k.j⟩,lQ k]:=by unfold fN;exists if_pos h;exists if_neg hm;rfl
theorem Iw{i j:Nat}:fN i j (f9 a b)=if i<a.length\/j<b.length then[⟨lF i j (f9 a b),i,a.length,j,b.length⟩]else[]:=by unfold fN f9;dsimp only;rw[if_pos rfl,ZA]
theorem aeU(az:a.length<=2000)(bz:b.length<=2000)(hR:a.length<=R):∀(l:List Bk)(k:Bk),Ch (Gp a b) (k::l)->(∀x∈k::l,Mt a b x)->Tl a b R k.i k.j (lQ k::gh (k.i+k.m) (k.j+k.m) (l++[f9 a b])):=by intro N';induction N' with
 |nil=>
  intro k _ h;have M:=h k (.head _);have E:=En M az bz hR;show Tl a b R k.i k.j (lQ k::(fN (k.i+k.m) (k.j+k.m) (f9 a b)++[]));rw[ZA,Iw];split;·rename_i q;exact .cons E (vo (k:=f9 a b) q M.i M.j (ZO _) (ZO _) az bz) .nil
  ·exact .last E;|cons d l ih=>intro k hc h;have M:=h k (.head _);have Md:=h d (.tail _ (.head _));have E:=En M az bz hR;have g:Gp a b k d:=hc.1;have ih:=ih d hc.2 λx hx=>h x (.tail _ hx);show Tl a b R k.i k.j (lQ k::(fN (k.i+k.m) (k.j+k.m) d++gh (d.i+d.m) (d.j+d.m) (l++[f9 a b])));exists(Iy (E1 g M Md) (by have:=Md.m;exact(aD 0x2 0x19085fed05e1) this));exact .cons E (vo (E1 g M Md) g.i g.j (by have:=Md.i;exact(au 0x43 0xc0e220e061) this) (by have:=Md.j;exact(au 0x43 0xc0e220e061) this) az bz) ih
def q7(a b:List ZU)(R:Nat)(ops:List Op):Prop:=(∃c l,ops=c::l/\xT a b 0 0 c/\Tl a b R c.i2 c.j2 l)\/(Tl a b R 0 0 ops/\ops≠[])
theorem afw(az:a.length<=2000)(bz:b.length<=2000)(hb:0<b.length)(hR:a.length<=R){l:List Bk}(hc:Ch (Gp a b) l)(h:∀x∈l,Mt a b x):q7 a b R (gh 0 0 (l++[f9 a b])):=by cases l with
 |nil=>show q7 a b R (fN 0 0 (f9 a b)++[]);rw[ZA,Iw,if_pos (.inr hb)];exact .inl (eu _ ([]) rfl (vo (k:=f9 a b) (.inr hb) (ZI _) (ZI _) (ZO _) (ZO _) az bz) (.nil));|cons k l=>
  have T:=aeU az bz hR l k hc h;have M:=h k (.head _);have m0:k.m≠0:=by have:=M.m;exact(aD 0x2 0x19085fed05e1) this
  show q7 a b R (fN 0 0 k++gh (k.i+k.m) (k.j+k.m) (l++[f9 a b]));by_cases q:0<k.i\/0<k.j;·exists Iy q m0;exact .inl (eu _ _ rfl (vo q (ZI _) (ZI _) (by have:=M.i;exact(au 0x43 0xc0e220e061) this) (by have:=M.j;exact(au 0x43 0xc0e220e061) this) az bz) T)
  ·have e:fN 0 0 k=[lQ k]:=by unfold fN;exists if_neg q;exists if_neg m0;rfl
   exists e;have e1:k.i=0:=(ar 0x22 0x7840c882fc842fd05e1) q;have e2:k.j=0:=(ar 0x22 0x7840c842fc882fd05e1) q;rw[e1,e2]at T;exact .inr ⟨by exists e1;exists e2;exact T,by simp⟩
theorem adF:∀(l:List Bk)(i j:Nat),Ch (Gp a b) l->(∀x∈l,Mt a b x)->(∀k,l.head?=Z7 k->i<=k.i/\j<=k.j)->i<=a.length->j<=b.length->cnt "+" ((gh i j (l++[f9 a b])).flatMap (bD a b))+i=a.length/\cnt "-" ((gh i j (l++[f9 a b])).flatMap (bD a b))+j=b.length:=by intro N';induction N' with|nil=>intro i j _ _ _ hi hj;show cnt "+" ((fN i j (f9 a b)++[]).flatMap (bD a b))+i=a.length/\cnt "-" ((fN i j (f9 a b)++[]).flatMap (bD a b))+j=b.length;rw[ZA,ux];have e:seg a (f9 a b).i ((f9 a b).i+(f9 a b).m)=[]:=mU (ZO _);refine aO (yx (a:=a) (b:=b) i a.length j b.length (ZO _) (ZO _)) λc1 c2=>?_;rw[e,YS,ZA];show cnt "+" (lN a b i a.length j b.length)+i=_/\cnt "-" (lN a b i a.length j b.length)+j=_;exists c1;exists c2;exact(aU 0x3 0x1808f0227f4289244168311c861) hi hj;|cons k l ih=>
  intro i j hc h hk hi hj;have M:=h k (.head _);refine aO (hk k rfl) λk1 k2=>?_;have hl:∀d,l.head?=Z7 d->k.i+k.m<=d.i/\k.j+k.m<=d.j:=λd hd=>by cases l with|nil=>cases hd;|cons d' l=>cases hd;exact⟨hc.1.i,hc.1.j⟩
  refine aO (ih (k.i+k.m) (k.j+k.m) hc.2 (λx hx=>h x (.tail _ hx)) hl M.i M.j) λr1 r2=>?_;show cnt "+" ((fN i j k++gh (k.i+k.m) (k.j+k.m) (l++[f9 a b])).flatMap (bD a b))+i=a.length/\cnt "-" ((fN i j k++gh (k.i+k.m) (k.j+k.m) (l++[f9 a b])).flatMap (bD a b))+j=b.length;refine aO (yx (a:=a) (b:=b) i k.i j k.j (by have:=M.i;exact(au 0x43 0xc0e220e061) this) (by have:=M.j;exact(aU 0xc44 0x3448c46116081) r2)) λc1 c2=>?_;rw[Xe,ux,ou,ou,ou,ou,c1,c2,rg,rg,if_neg signs.2.1,if_neg signs.2.2,l8 _ _ _ M.i];exact(uj 0xa6 0x6061c105a3c62519b498c4a447f4988a288c87128e42268f10c4d190e251c823) k1 k2 r1 r2
theorem aa7:∀l:List cV,l.length<=cnt "+" l+cnt "-" l:=by intro N';induction N' with|nil=>exact ZI _;|cons r l ih=>
  have ih:=ih;have e:∀c,cnt c (r::l)=(if(r.1 !=Z9 c)=ZW then 1 else 0)+cnt c l:=λc=>by unfold cnt;exists Yb;split<;>simp<;>exact aD 0x1 0x1a8844f889e1
  rw[e,e,ZF];by_cases q:(r.1 !=Z9 "+")=ZW;·exists if_pos q;exact(aU 0x43 0x31120c388c48288c4f889e1) ih
  ·have q:r.1=Z9 "+":=by simpa using q
   have:(r.1 !=Z9 "-")=ZW:=by exists q;exact bne_iff_ne.mpr signs.1.symm
   exists if_pos this;exact(aU 0x43 0x31120c388c4827c462889e1) ih
theorem adI{o:Op}(ha:∀x∈a,x.length<=100)(hb:∀x∈b,x.length<=100):∀r∈bD a b o,r.1.length+r.2.length<=1000:=by
 have s1:(Z9 " ").length<=1/\(Z9 "-").length<=1/\(Z9 "+").length<=1:=dk;have sg:∀(l:List ZU)i j,∀x∈seg l i j,x∈l:=λl i j x hx=>Yh (Yi hx);have mp:∀(s:ZU)(l:List ZU)i j,s.length<=1->(∀x∈l,x.length<=100)->∀r∈(seg l i j).map (s,·),r.1.length+r.2.length<=1000:=λs l i j hs hl r hr=>by refine dn hr λx hx=>?_;have:=hl x (sg _ _ _ _ hx);exact(ar 0x3 0x30278705811e2c26207c441) hs this
 intro r hr;unfold bD at hr;split at hr;·exact mp _ _ _ _ s1.1 ha r hr
 ·refine ZR (ZE.mp hr) (λhr=>?_) (λhr=>?_)
  ·split at hr;·exact mp _ _ _ _ s1.2.1 ha r hr
   ·cases hr
  ·split at hr;·exact mp _ _ _ _ s1.2.2 hb r hr
   ·cases hr
end
end
noncomputable section
section
variable{a b:List ZU}{R:Nat}
theorem Gr.one{i j:Nat}{c:Op}{st:DS}(K:OpK a b i j c)(h:st.bt=bD a b c)(ho:st.old=i)(hn:st.new=j):Gr a b [c] st c.i2 c.j2 c c where
 hf:=rfl;hl:=rfl;li:=rfl;lj:=rfl;bt:=by exists h;simp
 old:=by exists ho;exact bG K.i1 rfl
 new:=by exists hn;exact bG K.j1 rfl
 ci:=by exists h;exists K.cp;have:=K.i2;exact(ar 0x2 0x3020e85190441) this
 cj:=by exists h;exists K.cm;have:=K.j2;exact(ar 0x2 0x3020e85190441) this
 iz:=K.iz;jz:=K.jz
set_option tactic.hygienic true in theorem adR{n N:Nat}(hN:N=min n R){ops:List Op}(W:q7 a b R ops)(hz:ops.length<=3000):(dp N (N+1) ⟨[],[],0,0⟩ (ops.flatMap (bD a b))).told=(dS n ops).flatMap (k7 a b)/\∀g'∈dS n ops,∃f l',jV g' f l':=by
 have nn:(0:Int)<=(N:Int):=by exact aD 0x22 0xd842f
 unfold dS;rcases W with⟨c,l,rfl,ah,T⟩|⟨T,bF⟩
 ·have e:lH n (c::l)=c::l:=by show cO n c::l=_;unfold cO;exact bG (if_neg ah.t) rfl
  rw[e,CF n ah.t,vP ah.t,XB,Zd,uf nn ah.ne ah.sp];have:=JA hN T (g:=[c]) (st:=⟨[],[]++bD a b c,0,0⟩) (Gr.one ah.toOpK rfl rfl rfl) (by simpa using ah.ne) (aj c (.head _) ah.t) (by rw[ZF]at hz⊢;simp;exact(aD 0x2 0x31987a037c44f0e030f408f8844f) hz);exact this
 ·cases T with|nil=>exact absurd rfl bF;|last E=>
   rename_i e;refine oB (E.head (n:=n)) λK C C C hn=>?_;refine oB (K.last (n:=n)) λK2 C C C oZ=>?_;have e1:gH n (lH n [e])=[dy n (cO n e)]:=rfl;have e2:du n [] [dy n (cO n e)]=[]:=by exists(vQ (by exact(au 0x3 0x1814861c4c437c861) oZ));show ite _ _ _=_;exact bG (if_pos (.inr ⟨rfl,λo ho=>by exists Zv.mp ho;exact K2.t⟩)) rfl
   rw[e1,e2,Zd,W7,ZA,MW E.qP];exact⟨rfl,λg hg=>nomatch hg⟩;|cons E ah T=>
   rename_i e c l;refine oB (E.head (n:=n)) λK hr hi hj hn=>?_;have e1:gH n (lH n (e::c::l))=cO n e::c::gH n l:=by show gH n (cO n e::c::l)=_;rw[CG,CF n ah.t]
   have a0:aF (N:Int) (bD a b c++l.flatMap (bD a b))=0:=Dg ah.ne ah.sp;refine br (MX E.qP a0) λbu iy=>?_;exists e1;exists(vQ (by exact(au 0x3 0x1814861c4c437c861) hn));exists vP ah.t;exists Zd;exists Zd;exists iy;exists uf nn ah.ne ah.sp;have len:=E.len;have er:=E.r;have i1:=E.i1;have i2:=E.i2;have j1:=E.j1;have j2:=E.j2;have M2:(bD a b e).drop ((bD a b e).length-N)=bD a b (cO n e):=by exists hr;exists len;congr 1;exact Ar.aeZ hN er
   have k1:=K.i1;have k2:=K.j1;have G1:Gr a b [cO n e] ⟨[],(bD a b e).drop ((bD a b e).length-N),((bD a b e).length-N:Nat),((bD a b e).length-N:Nat)⟩ (cO n e).i2 (cO n e).j2 (cO n e) (cO n e):=Gr.one K.op M2 (congrArg (λx:Nat=>(x:Int)) (Ar.JC hN len er i1)) (congrArg (λx:Nat=>(x:Int)) (Ar.ae0 hN len er j1 j2));rw[<-hi,<-hj]at ah;have:=JA hN T (G1.add ah.toOpK) (by simp[ah.ne]) (aj c (by simp) ah.t) (by simp at hz⊢;exact(aD 0x2 0x62f0f406f0e030f408f8846f) hz);exact this
theorem aaf{g:List Op}{f l:Op}(G:jV g f l):km a b g=(k7 a b g).map .str:=by
 have e1:tG f l=.str (jH f.i1 (l.i2-f.i1) f.j1 (l.j2-f.j1)):=by unfold tG jH;have e:Z9 " @@\n"=Z9 " @@"++Z9 "\n":=dk;exists e;simp only[PySem.Str.append_assoc]
 have e2:g.flatMap (lC a b)=((g.flatMap (bD a b)).map λr=>r.1++r.2).map .str:=by exists XW;exists Tw;congr 1;funext o;rw[adD];rfl
 unfold km k7;exists G.hf;exists G.hl;dsimp only;exists e1;exists e2;exists ZJ;rfl
theorem Mr{n:Nat}{ops:List Op}{rows:List cV}(Ty:rows=ops.flatMap (bD a b))(W:q7 a b rows.length ops)(hz:ops.length<=3000):gL a b (dS n ops)=(gu rows n).map .str/\∀g'∈dS n ops,∃f l',jV g' f l':=by
 refine aO (adR (n:=n) rfl W hz) λr1 r2=>?_;refine⟨?_,r2⟩;unfold gu;have em:min (n:Int) (rows.length:Int)=((min n rows.length:Nat):Int):=by exact ar 0x2 0xeda820d041
 rw[em,Mg];rw[<-Ty]at r1;rw[r1];unfold gL;by_cases q:dS n ops=[];·exists if_pos q;exists q;rfl
 ·have hq:(dS n ops).flatMap (k7 a b)≠[]:=by cases hg:dS n ops with|nil=>exact absurd hg q;|cons g gs=>refine j4 (r2 g (by exists hg;exact .head _)) λf l' G=>?_;exists Zd;unfold k7;exists G.hf;exists G.hl;exact List.cons_ne_nil _ _
  exists if_neg q;exists if_neg hq;exists ZJ;exists Tw;show H1::H2::_=H1::H2::_;congr 2;have go:∀gs:List (List Op),(∀g'∈gs,∃f l',jV g' f l')->gs.flatMap (km a b)=gs.flatMap λg=>(k7 a b g).map .str:=by intro gs;induction gs with|nil=>intro C;rfl;|cons g gs ih=>intro h;refine j4 (h g (.head _)) λf l' G=>?_;exists Zd;exists Zd;exists aaf G;exact bG (ih λx hx=>h x (.tail _ hx)) rfl
  exact go _ r2
end
structure ye(a b:List ZU):Prop where
 az:a.length<=1100
 bz:b.length<=1000
 b0:0<b.length
 as:∀x∈a,x.length<=100
 bs:∀x∈b,x.length<=100
 fp:Fp a b
 ra:rk (a.map bW)<=63
 rb:rk (b.map bW)<=63
section
variable{a b:List ZU}
theorem Ch.pair{l:List Bk}(hc:Ch (Gp a b) l)(h:∀x∈l,Mt a b x):l.Pairwise λx y=>x.i<y.i:=by
 have go:∀(l:List Bk)(k:Bk),Ch (Gp a b) (k::l)->(∀x∈k::l,Mt a b x)->∀y∈l,k.i<y.i:=by intro l;induction l with|nil=>intro k C C y hy;cases hy;|cons d l ih=>
   intro k hc h y hy;have g:Gp a b k d:=hc.1;have:=g.i;have:=(h k (.head _)).m;rcases ZZ.mp hy with rfl|hy;·exact(au 0x3 0xc882fc0e220e461) ‹_› this
   ·have:=ih d hc.2 (λx hx=>h x (.tail _ hx)) y hy;exact Ar.bA 0x64 0x60911872226441 [_,_,k.m,_] [] (by kernel_rfl) ‹_› this
 induction l with|nil=>exact .nil;|cons k l ih=>exact .cons (go l k hc h) (ih hc.2 λx hx=>h x (.tail _ hx))
theorem q8r{R c1 c2 x y:Nat}(l:R<=c1+c2)(e1:c1+0=x)(e2:c2+0=y)(ax:x<=1100)(ay:y<=1000):R<=2100:=ZC l (ZC (Nat.add_le_add (ZC (UU e1) ax) (ZC (UU e2) ay)) (XS rfl:1100+1000<=2100))
theorem q8t{R t h:Nat}(l:R<=2100)(q:t+2*h<=2*(R+1)):2+t<=2^24:=ZC (RX (ZC (W8 _ _) q) 2) (ZC (RX (RZ 2 (Nat.add_le_add_right l 1)) 2) (XS rfl:2+2*(2100+1)<=2^24))
theorem ye.plain(T:ye a b)(n:Nat):m6 a b n/\gm a b (fg b) 64 0 a.length 0 b.length/\(dX a b 64).length<10^5/\(∀r∈dX a b 64,r.1.length+r.2.length<=1000)/\gL a b (dS n (cZ a b))=(gu (dX a b 64) n).map .str:=by
 have az:=T.az;have bz:=T.bz;refine aO (acY (Lm (a:=a) (b:=b) (S:=λx=>!dh b x)) (a.length+1) 0 a.length 0 b.length (ZI _) (ZI _) (ZO _) (ZO _)) λo1 o2=>?_;have mt:∀k∈dW a b,Mt a b k:=λk hk=>(o1 k hk).1;have ch:Ch (Gp a b) (dW a b):=o2;clear o1 o2;have yU:=Np T.fp ch mt T.ra T.rb;have hm:qC (dW a b)=dW a b:=ab5 ch mt;have ek:=ac0 (a:=a) (b:=b) (a.length+1) 0 a.length 0 b.length (ZO _) (ZO _) (ZI _) (ZI _) (by exact aD 0x22 0x19889e1905e1) 64 yU;have ec:cZ a b=gh 0 0 (dW a b++[f9 a b]):=by unfold cZ fk;exists hm;rfl
 have er:dX a b 64=(cZ a b).flatMap (bD a b):=by unfold dX kA;exists ek.2;exists ec;show(Qo (iW a b) ⟨[],0,0⟩ ((dW a b).flatMap r7++[(a.length,b.length)])).rows=_;exists(adH (dW a b) _ λk hk=>(mt k hk).m);rfl
 have cn:=adF (dW a b) 0 0 ch mt (λk C=>⟨ZI _,ZI _⟩) (ZI _) (ZI _);rw[<-ec,<-er]at cn;have lc:=aa7 (dX a b 64);have rl:=q8r lc cn.1 cn.2 az bz;have zg:a.length<=(dX a b 64).length:=by exact Ar.Mb (z:=0) (ow _ _) cn.1
 have W:q7 a b (dX a b 64).length (cZ a b):=by exists ec;exact afw (by exact(aD 0x2 0xc3603809e1c461f809e1) az) (by exact(aD 0x2 0x309881e1c461f809e1) bz) T.b0 zg ch mt
 have gl:(fk a b).length<=65:=by unfold fk;exists hm;exists ZQ;exists Y7;exact(aD 0x2 0x64301bc381406f889e1) yU
 have cl:(cZ a b).length<=3000:=by exact Ar.aeH (BV (fk a b) 0 0) gl
 refine aO (Mr (n:=n) er W cl) λd1 d2=>?_;have c0:cZ a b≠[]:=by
  intro e;replace er:=e▸er;have:(dX a b 64).length=0:=by exists er;rfl
  exact Ar.ge1 (ow _ _) cn.2 this T.b0
 have dz:(gL a b (dS n (cZ a b))).length<=Y8:=by
  rw[d1,Z4,Zs];unfold gu;have t:=(yC (dX a b 64) (min n (dX a b 64).length) ((dX a b 64).length+1)).told;split;·simp
  ·exists ZQ;exact q8t rl t
 refine l5 ⟨az,bz,T.as,T.bs,ch.pair mt,yU,ZC gl dk,c0,d2,dz⟩ ek.1 (RM rl dk) (λr hr=>?_) d1;replace hr:=er▸hr;refine aR (Xz.mp hr) λo C ho=>?_;exact adI T.as T.bs r ho
end
end
noncomputable section
noncomputable def fs(k:Nat):ZU:=Z9 (toString ((100:Int)+(k:Int)))
noncomputable def D4(x:ZU):Nat:=x.cps.toList.foldl (λn c=>10*n+(c-48)) 0
theorem NX:((Zh 700).all λk=>(fs k).length==3&&D4 (fs k)==100+k)=ZW:=dk
theorem yW{k:Nat}(h:k<700):(fs k).length=3/\D4 (fs k)=100+k:=by have:=W9.mp NX k (X4.mpr h);rw[Yo,beq_iff_eq,beq_iff_eq]at this;exact this
theorem yV{m c t:Nat}{u:ZU}(h:(nN m c)[t]?=Z7 u):t<c-m/\u=fs (m+t):=by
 unfold nN at h;rw[ZN]at h;by_cases q:t<c-m;·rw[WQ q]at h;cases h;refine⟨q,?_⟩;unfold fs;rw[Int.natCast_add]
 ·rw[W1 (by exists Xj;exact(au 0x3 0x7b321845814861) q)]at h;cases h
structure sS(fl:List ZU):Prop where
 len:∀x∈fl,x.length=3
 inj:∀(i j:Nat)(u:ZU),fl[i]?=some u->fl[j]?=some u->i=j
theorem Nr{m c:Nat}(hc:c<=700):sS (nN m c)where
 len:=λx hx=>by obtain⟨t,ht⟩:=SP hx;refine aO (yV ht) λh1 bS=>?_;exists bS;exact(yW ((au 0x44 0x63b0b3c7990462cf6167c441) hc h1)).1
 inj:=λi j u h1 h2=>by refine aO (yV h1) λa1 e1=>?_;refine aO (yV h2) λa2 e2=>?_;have d1:=(yW (k:=m+i) ((au 0x44 0x63b0b3c7990462cf6167c441) hc a1)).2;have d2:=(yW (k:=m+j) ((au 0x44 0x63b0b3c7990462cf6167c441) hc a2)).2;rw[<-e1]at d1;rw[<-e2]at d2;exact(aU 0x3 0x6a31090b023c7a8c4442c08f1e841) d1 d2
section
variable{f g fl:List ZU}
theorem pL(hf:∀x∈f,x.length≠3){x:Nat}{u:ZU}(h:(f++fl)[x]?=Z7 u)(hu:u.length=3):f.length<=x/\fl[x-f.length]?=Z7 u:=by
 refine ZR (XK x f.length) (λq=>?_) (λq=>?_);·rw[List.getElem?_append_left q]at h;exact absurd hu (hf u (YN h))
 ·rw[Wi q]at h;exact⟨q,h⟩
theorem AF(K:sS fl){x:Nat}{u:ZU}(h:(f++fl)[x]?=Z7 u)(hu:u.length≠3):x<f.length:=by
 refine ZR (XK x f.length) (λq=>?_) (λq=>?_);·exact q
 ·rw[Wi q]at h;exact absurd (K.len u (YN h)) hu
theorem vq{v w:ZU}(h:bW v=bW w):v=w\/(v.length=3/\w.length=3):=by
 have s3:(Z9 "100").length=3:=dk;unfold bW at h;by_cases q1:v.length=3<;>by_cases q2:w.length=3;·exact .inr ⟨q1,q2⟩
 ·rw[if_pos q1,if_neg q2]at h;exact absurd (by exists Zz h;exact s3) q2
 ·rw[if_neg q1,if_pos q2]at h;exact absurd (by exists h;exact s3) q1
 ·rw[if_neg q1,if_neg q2]at h;exact .inl h
theorem mv{l:List ZU}{x:Nat}(h:x<l.length):∃u,l[x]?=Z7 u:=⟨_,Z0 h⟩
theorem vr{a b:List ZU}{x y:Nat}{v w:ZU}(hv:a[x]?=Z7 v)(hw:b[y]?=Z7 w)(h:(a.map bW)[x]?=(b.map bW)[y]?):bW v=bW w:=by rw[ZN,ZN,hv,hw]at h;exact Y1 h
theorem NR(K:sS fl)(hf:∀x∈f,x.length≠3)(hg:∀x∈g,x.length≠3):Fp (f++fl) (g++fl)where
 fwd:=λx y hx hy e h=>by
  refine br (mv hx) λv hv=>?_;refine br (mv hy) λw hw=>?_;rcases vq (vr hv hw h)with rfl|⟨v3,w3⟩;·exists hv;exact bG hw rfl
  ·refine aO (pL hf hv v3) λv1 v2=>?_;refine aO (pL hg hw w3) λw1 w2=>?_;refine br (mv (show x<(f++fl).length by exact(ar 0x2 0x191444f0e441) hx)) λu hu=>?_;have jL:=hu;rw[e]at jL;have key:x+1-f.length=y+1-g.length:=by
    by_cases u3:u.length=3;·refine aO (pL hf hu u3) λu1 u2=>?_;refine aO (pL hg jL u3) λJF CK=>?_;have:=K.inj _ _ _ u2 CK;exact(aU 0x3 0x3011e044d488290c3a9122278a43889e1) u1 JF this
    ·have:=AF K hu u3;have:=AF K jL u3;exact(aU 0x3 0x6461c905a9122278a43889e1) ‹_› this
   exists hv;exists hw;exists Zz v2;exists Zz w2;exact bG key rfl
 bwd:=λx y hx hy e h=>by
  refine br (mv (show x<(f++fl).length by exact(ar 0x2 0x191444f0e441) hx)) λv hv=>?_;refine br (mv (show y<(g++fl).length by exact(ar 0x2 0x191444f0e441) hy)) λw hw=>?_;rcases vq (vr hv hw h)with rfl|⟨v3,w3⟩;·exists hv;exact bG hw rfl
  ·refine aO (pL hf hv v3) λv1 v2=>?_;refine aO (pL hg hw w3) λw1 w2=>?_;refine br (mv hx) λu hu=>?_;have jL:=hu;rw[e]at jL;have key:x-f.length=y-g.length:=by
    by_cases u3:u.length=3;·refine aO (pL hf hu u3) λu1 u2=>?_;refine aO (pL hg jL u3) λJF CK=>?_;have:=K.inj _ _ _ u2 CK;exact(aU 0x3 0xd489113c521c44f0ea4414861) this
    ·have:=AF K hu u3;exact(aU 0x3 0xc08791c44f16a440c862) v1 this
   exists hv;exists hw;exists Zz v2;exists Zz w2;exact bG key rfl
theorem NS(hf:∀x∈f,x.length≠3):Fp f g where
 fwd:=λx y hx hy e h=>by
  refine br (mv hx) λv hv=>?_;refine br (mv hy) λw hw=>?_;rcases vq (vr hv hw h)with rfl|⟨v3,w3⟩;·exists hv;exact bG hw rfl
  ·exact absurd v3 (hf v (YN hv))
 bwd:=λx y hx hy e h=>by
  refine br (mv (show x<f.length by exact(ar 0x2 0x191444f0e441) hx)) λv hv=>?_;refine br (mv (show y<g.length by exact(ar 0x2 0x191444f0e441) hy)) λw hw=>?_;rcases vq (vr hv hw h)with rfl|⟨v3,w3⟩;·exists hv;exact bG hw rfl
  ·exact absurd v3 (hf v (YN hv))
end
theorem abw(c:Int):(kt c).length<=1:=by
 unfold kt;split;·decide+kernel
 ·exact ZO 1
theorem Gw{way:Int}{xs:List Int}{P:Int->Prop}[DecidablePred P]:∀x∈(xs.flatMap λx=>if P x then pt way x else[]),x.length<=1:=λx hx=>by
 refine aR (Xz.mp hx) λy C hy=>?_;split at hy;·exists TX hy;exact abw _
 ·cases hy
theorem Gx{way:Int}{xs:List Int}{P:Int->Prop}[DecidablePred P]:rk ((xs.flatMap λx=>if P x then pt way x else[]).map bW)<=xs.length:=by
 exists Tw;refine adz _ (λx=>?_) xs;split;·refine IT (bW (kt (pq way x))) _ λy hy=>?_;refine dn hy λz hz=>?_;exact bG (TX hz) rfl
 ·exact ZI _
theorem Nu{fl:List ZU}(K:sS fl):rk (fl.map bW)<=1:=by refine IT (Z9 "100") _ λy hy=>?_;refine dn hy λz hz=>?_;unfold bW;exact bG (if_pos (K.len z hz)) rfl
theorem abv(way:Int):0<kr way:=by
 have h:(way/2%6).toNat<6:=by exact Ar.bA 0x3 0x387785c30742eb0b617582f1834178b760bc2ec9de2 [0,_] [_,0] (by kernel_rfl) (Ye (way/2) (by decide:(0:Int)<6)) (@Zn (way/2%6)) (@YR (way/2%6))
 unfold kr;generalize(way/2%6).toNat=i at h;revert i;decide
theorem aby(script:List Int):(fM script).length<=62:=by
 unfold fM;split;·rename_i h;have:=congrArg List.length h;rw[Zi,Xy]at this;simp at this;exact(aD 0x2 0x1a0be427871f809e1) this
 ·exists Zi;exact aD 0x2 0x63f013e81fc04f
theorem afc(script:List Int):ye (eK script) (dU script):=by
 have hx:=aby script;have l1:=Aw (ew script) (fM script);have l2:=Ax (ew script) (fM script);have c1:=Av (ew script);have c2:=abv (ew script);have K:sS (qy script):=Nr c1;have lf:(qy script).length=kr (ew script)-(lm (ew script) (fM script)).length:=GP _ _;have m1:∀x∈mK (ew script) (fM script),x.length<=1:=Gw;have m2:∀x∈lm (ew script) (fM script),x.length<=1:=Gw;have r1:rk ((mK (ew script) (fM script)).map bW)<=62:=ZC Gx hx;have r2:rk ((lm (ew script) (fM script)).map bW)<=62:=ZC Gx hx;have rf:=Nu K;unfold eK dU;generalize mK (ew script) (fM script)=f at*;generalize lm (ew script) (fM script)=g at*;generalize qy script=fl at*;have n1:∀x∈f,x.length≠3:=λx h=>by have:=m1 x h;exact(aD 0x2 0x1813c3ed11e1) this
 have n2:∀x∈g,x.length≠3:=λx h=>by have:=m2 x h;exact(aD 0x2 0x1813c3ed11e1) this
 have b3:∀x∈g++fl,x.length<=100:=λx h=>by
  refine ZR (ZE.mp h) (λh=>?_) (λh=>?_);·have:=m2 x h;exact(aD 0x2 0x30278705811e1) this
  ·have:=K.len x h;exact(aD 0x2 0x34478705811e1) this
 have rb:rk ((g++fl).map bW)<=63:=by exists ZJ;have:=B6 (g.map bW) (fl.map bW);exact(au 0x4 0x18fc04f1604f1e22310720809e1) r2 rf this
 by_cases q:ew script%2=1
 ·exists if_pos q;refine⟨by exists ZQ;exact(bQ 0xa6 0x18fc04f263b0b3c78990ef0ea4518b0d80e027c441) hx c1 l1 lf,by exists ZQ;exact(aU 0x5 0x63f013c98ec2cf1e2643bc5a90861c26207c422) hx c1 l2 lf,by exists ZQ;exact(au 0x4 0x64617ea4118b311042f) c2 lf,λx h=>?_,b3,NR K n1 n2,?_,rb⟩
  ·refine ZR (ZE.mp h) (λh=>?_) (λh=>?_);·have:=m1 x h;exact(aD 0x2 0x30278705811e1) this
   ·have:=K.len x h;exact(aD 0x2 0x34478705811e1) this
  ·exists ZJ;have:=B6 (f.map bW) (fl.map bW);exact(au 0x4 0x18fc04f1604f1e22310720809e1) r1 rf this
 ·rw[if_neg q,ZA];exact⟨(ar 0x3 0xc7e0278b1311de1c3603809e1) hx l1,by rw[ZQ];exact(aU 0x5 0x63f013c98ec2cf1e2643bc5a90861c26207c422) hx c1 l2 lf,by rw[ZQ];exact(au 0x4 0x64617ea4118b311042f) c2 lf,λx h=>by have:=m1 x h;exact(aD 0x2 0x30278705811e1) this,b3,NS n1,(aD 0x2 0xc7e0278720809e1) r1,rb⟩
theorem plain(script:List Int):Db script:=by have T:=afc script;refine oB (T.plain 3) λU3 hd hz o6 e3=>?_;refine oB (T.plain (iU script).toNat) λUn C C C en=>?_;exact⟨64,by decide,hd,U3,Un,hz,o6,e3,en⟩
theorem holds:YH.Holds:=acP λw=>LG (λscript C=>plain script) w
end
end Mine.Internal
theorem PySem.Challenge.cw_mt0001_02_holds : PySem.Challenge.rw_mt0001_02.Holds :=
  Mine.Internal.holds
