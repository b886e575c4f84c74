import PyProof.Rows.All
import Wide.All
import OpenK.AllK
import Wide.FinOn
import KE.KSortAsk
import KE.KSuperObj
import KE.KSetIn
import Lean
import PySem.Challenge.RW_mt0001_01
set_option backward.match.sparseCases false
set_option bootstrap.genMatcherCode false
set_option genCtorIdx false
set_option tactic.hygienic false
set_option genInjectivity false
set_option linter.all false
set_option genSizeOf false
set_option linter.unusedVariables false
set_option Elab.async false
set_option linter.unusedSimpArgs false
set_option linter.unusedSectionVars false
set_option genSizeOf false
set_option compiler.extract_closed false
set_option maxHeartbeats 0
set_option maxRecDepth 100000
open PySem.Str renaming ofString->Z9,empty->ZP,length_append->Za,append_assoc->Y2,cps_append->YS,join->WJ
open PySem renaming wpAny_bind->Z8,wpAny_pure->Z5,recursionLimit->ZU,Value->ZN,Shared->ZL,wpAny->ZE,Str->ZD,strKind->Zz,wpAny_holding->Zy,sizeLine_eq->Zx,Addr->Zw,sizeLine->Zo,builtinLookup_eq_fast->Zl,Obj->Ze,wpAny_of_eq->Zd,typeLookup_type->Y0,Stmt->YR,wpAny_standAt->YO,Around->YM,GenState->YD,wpAny_call_entry->YC,wpAny_Call_NameR->Yu,wpAny_callSpecial?_slot->Yp,Params->Ym,World->Yg,starEach->Yd,foldedSetIterable->Yb,Expr->X7,typeLookup->X6,rawInt->XX,wpAny_mono->XT,NameKind->XH,OsState->XG,Builtin->XF,wpAny_newObj_type->XC,wpAny_call->Xs,Heap->Xq,wpAny_askSetting->Xp,cLine->Xo,sliceBounds->Xn,cellsFrom->Xm,isSubtype_type->Xh,mainGlobals->Xd,intKind->W7,wpAny_seqItems->W5,DictEntry->W4,standAt->W1,wpAny_setState_of->W0,backTo->WR,wpAny_rule->WM,codeAny_call_builtin->WC,Program->Wx,entryFor_of_tree->Wr,wpAny_isInstance->Wq,checkBuiltinCall->Wp,nsFind->Wi,assignEach->Wh,letOwnedTupleGo->V9,isSubtype->V6,wpAny_attempt->V5,attributeBase->VN,codeAny_of_tree->VF,wpAny_specialOf->VC,codeAny_builtin->VB,builtinsNs->Vw,pyNext->Vu,sysModules->Vt,Scope->Vs,builtinKind->Vp,Pos->Vk,wpAny_truthy_bool->Ve,slot_list_getitem->Vd,wpAny_pyIter_list->Vc,letTemporaryGo->Va,slot_list_setitem->U5,treeTable->UV,call_meets->UU,Fin->UT,behindInMarks->UP,codeAny->UO,callWith->UJ,entryFor->UI,wpAny_field->UG,wpAny_updateSeq->UC,theTreesLotGoes->UB,Result->Uu,assign->Uq,valueAt->Uo,wpAny_typeOf->Um,FuncData->Uj,Operator->Ui,wpAny_newTuple->Ug,typeOf->Uc,checkBoundCall->T8,relayAll->T5,firstArgMember->T1,isSubtype_stop->T0,callEnvC->TX,wpAny_newFunctionEnv_cells->TW,wpAny_sequenceKey->TK,wpAny_storeSet_of->TJ,assignInOrder->TD,wpAny_comprehension_free->TA,swappedStores->Tx,wpAny_release->Tw,plainId_quiet->Tv,wpAny_onRaise->Tp,SetTable->To,swapsWith->Tj,scanBound->Ti,wpAny_Call_method_lateS->Td,codeAny_call_builtin_at->Tb,wpAny_eqBool_int->S9,wpAny_listSubscript_int->S5,Arguments->SU,wpAny_load->SK,argsOk->SJ,typeIs_str->SI,wpAny_pyNext_list_item->SD,wpAny_execs_nil->Sr,codeAny_call_function->Sj,wpAny_pyNext_list_end->Si,Code->Sc,wpAny_loadName_local->R4,wpAny_AugAssign_Name->R0,wpAny_newFunctionEnv->RX,bindArgs->RU,keywordEach->RS,wpAny_loadPart->RQ,wpAny_tryCatch->RO,noteFrame->RC,getAttr->RB,getMethod->RA,pickOrder->Rz,wpAny_loadName_cell->Rw,wpAny_setEntries_of->Rs,Frame->Rm,wpAny_newList->Rk,pushGuards_eq->Rj,Env->Ri,pyIter->Rf,wpAny_pyIter_range->Rc,codeAny_call_cells->Rb,entry_list_setitem->Q7,wpAny_setSeqItemAt->Q6,compEnvC->QT,Keyword->QP,call_meetsIn->QO,wpAny_pyIter_slot->QL,args_list_setitem->QK,numAt->Qm,wpAny_letGo->Qi,pushEnvs_eq->Qh,sub_set_self->P5,StrKeys->PY,sliceRange->PP,bindC->PO,backToKw->PN,isInstance->PK,pushGuards->PH,Sem->PA,Slot->Pw,isTrue->Pk,IsPart->Pj,layNew->Pe,setNext->Pd,splitId->Pc,setItem->Pa,forTurn->O8,Tok->O6,CmpOp->O5
open Option renaming some->Z7,none->Z4,toList_some->Ys,isSome_iff_exists->Xz,map_eq_some_iff->WQ,isSome_none->T9,map_some->P8
open List renaming length_map->Z6,map_cons->Z3,getElem?_eq_getElem->Z2,mem_cons->Z1,mem_map->Z0,length_append->ZV,mem_append->ZS,getElem?_map->ZQ,length_cons->ZO,mem_singleton->ZM,append_nil->ZH,lookup_cons->ZG,map_append->ZF,nodup_cons->ZC,getD_eq_getElem?_getD->ZB,append_assoc->ZA,getElem?_eq_some_iff->Zv,replicate->Zt,mem_append_right->Zq,not_mem_nil->Zn,mem_append_left->Zk,flatMap_cons->Zh,length_take->Zf,take_add_one->Zc,getElem?_append_right->Y9,length_singleton->Y5,map_nil->Y4,range->YY,mem_of_getElem?->YV,foldl_append->YU,nodup_append->YT,take_length->YQ,length_drop->YJ,filterMap_cons->YI,map_map->YE,any_cons->YB,take_append_drop->Yz,cons_ne_nil->Yv,map_congr_left->Yo,drop_eq_getElem_cons->Yk,getElem?_append_left->Yj,all_eq_true->Yi,foldl_cons->Yh,sublist_cons_self->Yc,mem_of_mem_drop->X3,mem_of_mem_take->X2,filter_append->X0,nodup_nil->XY,mem_flatMap->XW,filter_cons->XV,flatMap_nil->XU,mem_range->XR,filter_eq_nil_iff->XJ,cons_append->XI,replicate_succ->XD,mem_filter->Xv,pairwise_cons->Xr,length_range->Xi,toArray->Xf,length_replicate->Xa,reverse_cons->W3,lookup_eq_none_iff->W2,nil_append->WY,count_cons->WW,getElem?_range->WV,flatMap_append->WT,take_of_length_le->WP,perm_append_comm->WI,pairwise_iff_getElem->WF,mem_cons_of_mem->WA,getLast?_concat->Wz,filter_eq_self->Wv,getLast?_eq_some_getLast->Wm,length_pos_of_mem->Wf,drop_eq_nil_of_le->We,append_eq_nil_iff->Wb,getElem?_eq_none->V3,length_filter_le->V2,map_id->VZ,sublist_append_right->VU,length_pos_iff->VP,length_reverse->VO,map_drop->VM,eq_of_mem_replicate->VJ,range_succ->VH,length_nil->VG,forIn_cons->VE,getElem?_drop->VA,getElem?_take->Vz,lookup->Vr,range_succ_eq_map->Vb,size_toArray->U7,flatten_replicate_singleton->U3,filterMap_append->U0,any_eq_true->UX,getElem_map->US,drop_length->UQ,map_take->UM,eq_nil_of_length_eq_zero->UF,of_mem_zip->UE,dropLast_concat_getLast->UA,reverse_append->Uz,filter_sublist->Uy,map_eq_nil_iff->Uw,zip_cons_cons->Uh,drop_take->Ub,drop_drop->Ua,length_eraseIdx_of_lt->T2,map->TY,count_pos_iff->TV,getElem?_eq_none_iff->TU,getLast?_eq_getElem?->TQ,flatten_cons->TN,ext_getElem?->TM,range'->TL,pairwise_map->TH,count_append->TF,length_filterMap_le->TB,perm_middle->Tm,mem_reverse->Th,getElem_mem->S4,map_flatMap->SY,getElem?_replicate->SV,lookup_isSome_iff->SM,singleton_append->Sn,set_append_right->Sg,filterMap->RV,range_eq_range'->RJ,dropLast_concat->RI,count_replicate->RG,getElem?_of_mem->RF,getElem_of_mem->Ru,take_succ_cons->Rt,getD_cons_succ->Rp,findIdx?_cons->Rg,mem_filterMap->Rd,map_replicate->Q4,getLast?_map->QJ,any_eq_false->QG,ext_getElem->Qy,map_reverse->Qx,take->Qw,isEmpty_nil->Qu,drop_append->Qt,range'_succ->Qq,length->Qg,find?_cons->P6,forIn_nil->PI,take_take->PF,drop->Pq
open Nat renaming zero_le->ZZ,le_trans->ZY,le_refl->ZR,le_add_right->Zp,lt_irrefl->YH,lt_of_le_of_lt->Yx,div_add_mod->Yt,le_of_ble_eq_true->Yq,le_of_lt->Ye,ne_of_lt->X8,le_succ_of_le->X5,pos_of_ne_zero->XZ,min_eq_left->XO,not_lt_zero->XN,le_of_not_lt->XM,add_assoc->XB,lt_or_eq_of_le->Xu,lt_or_ge->Xj,beq->Xc,zero_add->W8,add_le_add_left->WU,lt_of_le_of_ne->WO,lt_of_lt_of_le->WK,add_zero->WD,lt_of_succ_lt->WB,succ_le_succ->Ws,le_succ->Wn,add_sub_cancel->Wk,ne_of_gt->Wg,sub_self->Wc,ble->V1,add_sub_cancel'->VT,eq_zero_or_pos->Vy,lt_succ_of_lt->Vh,le_of_eq->Vg,lt_of_succ_lt_succ->U9,lt_trichotomy->U8,eq_of_beq_eq_true->U1,lt_succ_self->UW,succ_pos->Us,mod_lt->Uf,not_lt->Ud,lt_add_of_pos_right->SW,sub_le->SP,add_comm->SN,max_eq_left->Sv,le_add_left->Su,lt_succ_iff->Ss,le_max_left->Sq,sub_eq_zero_of_le->Sp,add_le_add_right->RT,le_sub_one_of_lt->RK,add_right_comm->Rh,le_total->Q1,sub_zero->QW,le_of_lt_succ->QV,le_of_succ_le->QU,lt_trans->QR,max_eq_right->QD,le_max_right->Qp,le_of_not_le->Qo,one_pos->Qj,le_antisymm->PZ,le_min->PW
open Bool renaming false->ZX,true->ZW,false_ne_true->Y6,or_eq_false_iff->YL,and_eq_true->YK,false_eq_true->YF,not_eq_true->XK,or_eq_true->VI,true_and->Tu,and_true->Tt,and_eq_true_iff->R8,not_false->R7,noConfusion->QF,eq_iff_iff->Qa,and_false->PM,false_and->PJ,not_true->Pt,or_false->Pr
open PySem.Heap renaming get?_push_of_some->ZT,get?_push_size->Zu,lt_size->Zg,SameBut->YG,get?_update_self->YA,get?_none_of_le->X4,dictOf_iff->VD,get?_update_other->U6,ExtBut->RZ,size_push->PS,MadeObj->Pf
open And renaming intro->ZK
open Eq renaming symm->ZJ,refl->SO,trans->PV
open Or renaming elim->ZI
open Option.some renaming inj->Zs
open PySem.Value renaming ref->Zr,type->Zb,none->X9,builtin->Xx,bool->Wj,isStrOf_shape->Ux,int->Ta,str->QB,isStrOf->Py
open Int renaming toNat_natCast->Zm,toNat_of_nonneg->YZ,natCast_nonneg->Yy,fmod_eq_emod_of_nonneg->XQ,toNat_of_nonpos->XE,zero_add->Xw,emod_lt_of_pos->W9,ofNat_lt->WS,add_zero->Wl,emod_nonneg->V7,fdiv_eq_ediv_of_nonneg->VX,lt_trans->VW,eq_ofNat_of_zero_le->Vq,ofNat_le->Vi,mul_ediv_add_emod->UY,mul_add->TP,zero_mul->SS,le_of_lt->SQ,neg_mul->Sb,one_mul->Sa,add_nonneg->R9,natAbs_of_nonneg->R5,mul_assoc->Rn,le_of_eq->QZ,le_trans->QI,min_eq_right->QE,max_eq_right->QC,min_eq_left->Qe,max_eq_left->Qd,mul_nonneg->PX,add_assoc->Pz
open PySem.F renaming slot_list_append->Zj,type_list_append->Zi,slot_list_extend->Xy,slot_str_split->Xe,type_list_extend->W6,called_set->Wd,plain_extend_loop->VQ,args_str_split_2->VK,plainAttrs_dict->Vn,entry_str_split->Vm,type_str_split->U2,slot_dict_get->UZ,slot_dict_setdefault->UD,slot_dict_delitem->TS,plainAttrs_list->Tf,slot_dict_items->Tc,entry_dict_get->SH,slot_str_index->Sx,type_str_index->Sw,slot_int_rmul->So,type_dict_get->Sm,slot_set_iter->Sl,slot_list_pop->Sh,slot_str_join->Se,type_str_join->Sd,entry_extend_loop->Rq,slot_set_add->QN,plain_set_new->P4
open PyProof.Rows renaming envOfC->Y8,slot_tupleiter_next->Ww,AllBare->U4,assign_Name->TC,oneType'->S8,setObjOf_fresh->RW,entry_tupleiter_next->RL,pairsOf->Rx,lt_int->Rv,args_tupleiter_next->Rr,seqObj->Q9,tail_any->QS,MethodCall_->Ql,Fr->P7,Subscript_->PQ,BoolOp_one->PE,IntsAre->Pg
open Array renaming mk->Y7,length_toList->YX,toList_append->YW,getElem?_eq_getElem->X1,getElem?_eq_none->Xg,getElem?_setIfInBounds->WX,getElem?_toList->WH,toList_push->WE,setIfInBounds_setIfInBounds->Vl,getElem_setIfInBounds_ne->UR,getElem?_push->Uv,getD_eq_getD_getElem?->Ul,getD->TZ,toList_inj->S7,mem_of_getElem?->Sk,mem_toList_iff->R6,any->RE,toList_map->Qs,size_push->P1,isEmpty->Px,ext->Po
open PySem.W.Looks renaming of_peek->Y1,here->Yr,of_pure->Ps
open PySem.Heap.SameBut renaming update->YN
open PySem.Challenge renaming rw_mt0001_01->Yw,pw_mt0001_01->Qb
open PySem.W.X.SegX renaming mono->Yn
open Classical renaming byContradiction->Yl,epsilon_spec->Vj,epsilon->Q3,not_not->QY,em->QX
open PySem.Obj renaming mapSeq->XS,data_mapDictKeys->RR,putSet->PL
open PySem.Builtin.Str renaming occurrences->Xl,strKind->Ro
open PySem.NameKind renaming free->Xk,cell->UN
open Ne renaming symm->Xb
open PySem.Sem renaming bind_eq_wrap'->WZ,wrap_wrap->Wy,onRaise_eq_wrap->Wu
open PySem.Calls renaming Name_function_global->WN,spliced_cons->Vv,spliced_nil->Vf,evalArgs_plain->UK,loadGlobal_builtin->TE,loadGlobal_global->Tk,docDef->Ph
open PySem.SetTable renaming grown->WL,below->RN,orStandIn->Ra
open PySem.Manifest renaming toldItsClass->WG,signature?->VS,varargsMethods->Vo
open Prod renaming snd->Wt,fst->Wa
open PySem.Builtin.Tuple renaming tupleItemsOf->Wo,tupleCompareSizes->Ry
open ForInStep renaming yield->V8
open PySem.Txt renaming slice->V4,split->VV,join->VL,contains->Sy
open PySem.Builtin.ObjectAttr renaming copiedAttributeGuard->V0,byTheClass->Qk,inDict->PD,find->Pp
open PySem.Around renaming under_plainId->VY
open PySem.BindsTo renaming of_defaults->VR
open PySem.W.Fast renaming tw4202317264376624991->Vx
open PySem.W renaming boot_o_0->UL,SharedT->Ur,boot_heap->RD,piece_app->QA,segRun_of->Qz,piecesOf->PU,segRunT->Pn,kas_rev->Pb
open PySem.Bind renaming lastOf->UH,checkArgs->RP
open Nat.succ renaming inj->Ut
open PySem.Builtin.List renaming listSubscript?->Uk,listSameRef->Tq,listUpdate->S6,listItems->Sz
open PySem.SeqAt.RcNeAt renaming lists_lengths->Ue,lists->Re
open PySem.Builtin.Frozenset renaming oneOther->T7
open PySem.Code renaming quiet_builtin->T6,builtin->SE
open List.Perm renaming swap->T4,trans->Qc
open PySem.Builtin.SmallTypes renaming nextOf->TR
open PySem.W.X renaming s_again->TG,wake_any->Q5,s_call->Qr,s_end->P0
open PySem.Shared renaming TypeIs->Tz
open PySem.Builtin.Range renaming rangeSize->Te
open PyProof renaming noPylong_small->SF
open PySem.StrLaws renaming glued_eq_join->Sf,sliceText->QH
open LT renaming lt->RY
open PySem.Fin renaming done->RM
open Function renaming comp->Rl
open PyProof.Rows.SortSt renaming mk'->Q8
open PySem.W.KPc renaming good_add->QQ,good_mono->Pu,Good->O3,turn->O2
open PySem.pickOrder renaming go->QM
open PySem.Builtin.ObjectAttr.Found renaming value->Qv
open PySem.IntMulOk renaming of_left->Qn
open PySem.SeqAt renaming eq_listAt->P9
open PySem.MeetsSeq renaming list_pop_last->P2
open PySem.End renaming susp->PG
open PySem.Builtin.Generator renaming genWake->PC
open PySem.Frame renaming where_->O9
open PySem.Spec renaming countIn->O7
open PySem.IsRange renaming new->O4
open PySem.CmpOp renaming Lt->O1
open PySem.Heap.IsSliceOf renaming new->O0
open PySem.PyData renaming str->OZ
-- Shortened by a program from readable texts. The local macros below only shorten: a lemma is written def and a definition abbrev (turned back into theorem and noncomputable def, without source positions); show is refine, exists X rewrites by X, ext A B puts closed (epsilon) terms for the variables, <-X is by refine X, the sign of omission is by kernel_rfl.
section
local macro_rules (kind:=Lean.Parser.Command.declaration)|s=>let d:=s[1];let k (x:Lean.Name):=d.isOfKind x;match s.getHeadInfo with|.original ..=>return (if k ``Lean.Parser.Command.abbrev then (s.setArg 0 (s[0].setArg 4 (.node .none `null #[.node .none ``Lean.Parser.Command.noncomputable #[d[0]]]))).setArg 1 (d.setKind ``Lean.Parser.Command.definition) else if k ``Lean.Parser.Command.definition then s.setArg 1 ((d.setArg 2 (d[2].setArg 1 d[2][1][0])).setKind ``Lean.Parser.Command.theorem) else s).setHeadInfo .none|_=>Lean.Macro.throwUnsupported
namespace Mine.Internal
def aE{P Q:Prop}{G:Prop}(h:P/\Q)(k:P->Q->G):G:=by obtain⟨p,q⟩:=h;exact k p q
def aS{A}{P:A->Prop}{G:Prop}(h:∃a,P a)(k:∀a,P a->G):G:=by obtain⟨a,p⟩:=h;exact k a p
def dt{P Q R:Prop}{G:Prop}(h:P/\Q/\R)(k:P->Q->R->G):G:=by obtain⟨p,q,r⟩:=h;exact k p q r
def Ia{A}{P:Prop}{Q:A->Prop}{G:Prop}(h:P/\∃a,Q a)(k:P->∀a,Q a->G):G:=by obtain⟨p,a,q⟩:=h;exact k p a q
def aq{A}{P Q:A->Prop}{G:Prop}(h:∃a,P a/\Q a)(k:∀a,P a->Q a->G):G:=by obtain⟨a,p,q⟩:=h;exact k a p q
def fK{A B}{P:A->B->Prop}{G:Prop}(h:∃a,∃b,P a b)(k:∀a,∀b,P a b->G):G:=by obtain⟨a,b,p⟩:=h;exact k a b p
def gM{P Q R S:Prop}{G:Prop}(h:P/\Q/\R/\S)(k:P->Q->R->S->G):G:=by obtain⟨p,q,r,s⟩:=h;exact k p q r s
def m2{A}{P Q:Prop}{R:A->Prop}{G:Prop}(h:P/\Q/\∃a,R a)(k:P->Q->∀a,R a->G):G:=by obtain⟨p,q,a,r⟩:=h;exact k p q a r
def bV{A}{P Q R:A->Prop}{G:Prop}(h:∃a,P a/\Q a/\R a)(k:∀a,P a->Q a->R a->G):G:=by obtain⟨a,p,q,r⟩:=h;exact k a p q r
def ec{A B}{P Q:A->B->Prop}{G:Prop}(h:∃a,∃b,P a b/\Q a b)(k:∀a,∀b,P a b->Q a b->G):G:=by obtain⟨a,b,p,q⟩:=h;exact k a b p q
def Ig{A B C}{P:A->B->C->Prop}{G:Prop}(h:∃a,∃b,∃c,P a b c)(k:∀a,∀b,∀c,P a b c->G):G:=by obtain⟨a,b,c,p⟩:=h;exact k a b c p
def mZ{P Q R S T:Prop}{G:Prop}(h:P/\Q/\R/\S/\T)(k:P->Q->R->S->T->G):G:=by obtain⟨p,q,r,s,t⟩:=h;exact k p q r s t
def dI{A}{P Q R S:A->Prop}{G:Prop}(h:∃a,P a/\Q a/\R a/\S a)(k:∀a,P a->Q a->R a->S a->G):G:=by obtain⟨a,p,q,r,s⟩:=h;exact k a p q r s
def Id{A B}{P:A->Prop}{Q R:A->B->Prop}{G:Prop}(h:∃a,P a/\∃b,Q a b/\R a b)(k:∀a,P a->∀b,Q a b->R a b->G):G:=by obtain⟨a,p,b,q,r⟩:=h;exact k a p b q r
def cR{A B}{P Q R:A->B->Prop}{G:Prop}(h:∃a,∃b,P a b/\Q a b/\R a b)(k:∀a,∀b,P a b->Q a b->R a b->G):G:=by obtain⟨a,b,p,q,r⟩:=h;exact k a b p q r
def m3{A B C}{P Q:A->B->C->Prop}{G:Prop}(h:∃a,∃b,∃c,P a b c/\Q a b c)(k:∀a,∀b,∀c,P a b c->Q a b c->G):G:=by obtain⟨a,b,c,p,q⟩:=h;exact k a b c p q
def uh{P Q R S T U:Prop}{G:Prop}(h:P/\Q/\R/\S/\T/\U)(k:P->Q->R->S->T->U->G):G:=by obtain⟨p,q,r,s,t,u⟩:=h;exact k p q r s t u
def Ib{A B}{P:Prop}{Q R S:A->B->Prop}{G:Prop}(h:P/\∃a,∃b,Q a b/\R a b/\S a b)(k:P->∀a,∀b,Q a b->R a b->S a b->G):G:=by obtain⟨p,a,b,q,r,s⟩:=h;exact k p a b q r s
def pc{A B C}{P:Prop}{Q R:A->B->C->Prop}{G:Prop}(h:P/\∃a,∃b,∃c,Q a b c/\R a b c)(k:P->∀a,∀b,∀c,Q a b c->R a b c->G):G:=by obtain⟨p,a,b,c,q,r⟩:=h;exact k p a b c q r
def q8{A}{P Q R S T:A->Prop}{G:Prop}(h:∃a,P a/\Q a/\R a/\S a/\T a)(k:∀a,P a->Q a->R a->S a->T a->G):G:=by obtain⟨a,p,q,r,s,t⟩:=h;exact k a p q r s t
def Ic{A B}{P Q:A->Prop}{R S:A->B->Prop}{G:Prop}(h:∃a,P a/\Q a/\∃b,R a b/\S a b)(k:∀a,P a->Q a->∀b,R a b->S a b->G):G:=by obtain⟨a,p,q,b,r,s⟩:=h;exact k a p q b r s
def pd{A B}{P Q R S:A->B->Prop}{G:Prop}(h:∃a,∃b,P a b/\Q a b/\R a b/\S a b)(k:∀a,∀b,P a b->Q a b->R a b->S a b->G):G:=by obtain⟨a,b,p,q,r,s⟩:=h;exact k a b p q r s
def yK{A B}{P:Prop}{Q R S T:A->B->Prop}{G:Prop}(h:P/\∃a,∃b,Q a b/\R a b/\S a b/\T a b)(k:P->∀a,∀b,Q a b->R a b->S a b->T a b->G):G:=by obtain⟨p,a,b,q,r,s,t⟩:=h;exact k p a b q r s t
def Ie{A B C}{P Q:A->B->Prop}{R S:A->B->C->Prop}{G:Prop}(h:∃a,∃b,P a b/\Q a b/\∃c,R a b c/\S a b c)(k:∀a,∀b,P a b->Q a b->∀c,R a b c->S a b c->G):G:=by obtain⟨a,b,p,q,c,r,s⟩:=h;exact k a b p q c r s
def m6{A B C}{P Q R S:A->B->C->Prop}{G:Prop}(h:∃a,∃b,∃c,P a b c/\Q a b c/\R a b c/\S a b c)(k:∀a,∀b,∀c,P a b c->Q a b c->R a b c->S a b c->G):G:=by obtain⟨a,b,c,p,q,r,s⟩:=h;exact k a b c p q r s
def br{P Q R:Prop}(p:P)(q:Q)(r:R):P/\Q/\R:=⟨p,q,r⟩
def ae{A}{P Q:A->Prop}(a)(p:P a)(q:Q a):∃a,P a/\Q a:=⟨a,p,q⟩
def gh{A B}{P:A->B->Prop}(a)(b)(p:P a b):∃a,∃b,P a b:=⟨a,b,p⟩
def lW{P Q R S:Prop}(p:P)(q:Q)(r:R)(s:S):P/\Q/\R/\S:=⟨p,q,r,s⟩
def rN{A}{P Q:Prop}{R:A->Prop}(p:P)(q:Q)(a)(r:R a):P/\Q/\∃a,R a:=⟨p,q,a,r⟩
def nt{A}{P:Prop}{Q R:A->Prop}(p:P)(a)(q:Q a)(r:R a):P/\∃a,Q a/\R a:=⟨p,a,q,r⟩
def bl{A}{P Q R:A->Prop}(a)(p:P a)(q:Q a)(r:R a):∃a,P a/\Q a/\R a:=⟨a,p,q,r⟩
def b7{A B}{P Q:A->B->Prop}(a)(b)(p:P a b)(q:Q a b):∃a,∃b,P a b/\Q a b:=⟨a,b,p,q⟩
def At{A B C}{P:A->B->C->Prop}(a)(b)(c)(p:P a b c):∃a,∃b,∃c,P a b c:=⟨a,b,c,p⟩
def jJ{P Q R S T:Prop}(p:P)(q:Q)(r:R)(s:S)(t:T):P/\Q/\R/\S/\T:=⟨p,q,r,s,t⟩
def db{A}{P Q R S:A->Prop}(a)(p:P a)(q:Q a)(r:R a)(s:S a):∃a,P a/\Q a/\R a/\S a:=⟨a,p,q,r,s⟩
def bf{A B}{P Q:A->Prop}{R:A->B->Prop}(a)(p:P a)(q:Q a)(b)(r:R a b):∃a,P a/\Q a/\∃b,R a b:=⟨a,p,q,b,r⟩
def Lr{A B}{P:A->Prop}{Q R:A->B->Prop}(a)(p:P a)(b)(q:Q a b)(r:R a b):∃a,P a/\∃b,Q a b/\R a b:=⟨a,p,b,q,r⟩
def bX{A B}{P Q R:A->B->Prop}(a)(b)(p:P a b)(q:Q a b)(r:R a b):∃a,∃b,P a b/\Q a b/\R a b:=⟨a,b,p,q,r⟩
def kN{A B C}{P Q:A->B->C->Prop}(a)(b)(c)(p:P a b c)(q:Q a b c):∃a,∃b,∃c,P a b c/\Q a b c:=⟨a,b,c,p,q⟩
def Aq{P Q R S T U:Prop}(p:P)(q:Q)(r:R)(s:S)(t:T)(u:U):P/\Q/\R/\S/\T/\U:=⟨p,q,r,s,t,u⟩
def As{A B}{P:Prop}{Q R S:A->B->Prop}(p:P)(a)(b)(q:Q a b)(r:R a b)(s:S a b):P/\∃a,∃b,Q a b/\R a b/\S a b:=⟨p,a,b,q,r,s⟩
def uX{A}{P Q R S T:A->Prop}(a)(p:P a)(q:Q a)(r:R a)(s:S a)(t:T a):∃a,P a/\Q a/\R a/\S a/\T a:=⟨a,p,q,r,s,t⟩
def kM{A B}{P Q R S:A->B->Prop}(a)(b)(p:P a b)(q:Q a b)(r:R a b)(s:S a b):∃a,∃b,P a b/\Q a b/\R a b/\S a b:=⟨a,b,p,q,r,s⟩
def rO{A B C}{P Q R:A->B->C->Prop}(a)(b)(c)(p:P a b c)(q:Q a b c)(r:R a b c):∃a,∃b,∃c,P a b c/\Q a b c/\R a b c:=⟨a,b,c,p,q,r⟩
def nw{A B}{P:A->Prop}{Q R S T:A->B->Prop}(a)(p:P a)(b)(q:Q a b)(r:R a b)(s:S a b)(t:T a b):∃a,P a/\∃b,Q a b/\R a b/\S a b/\T a b:=⟨a,p,b,q,r,s,t⟩
def uY{A B C}{P:A->Prop}{Q R S:A->B->C->Prop}(a)(p:P a)(b)(c)(q:Q a b c)(r:R a b c)(s:S a b c):∃a,P a/\∃b,∃c,Q a b c/\R a b c/\S a b c:=⟨a,p,b,c,q,r,s⟩
def lX{A B}{P Q R S T:A->B->Prop}(a)(b)(p:P a b)(q:Q a b)(r:R a b)(s:S a b)(t:T a b):∃a,∃b,P a b/\Q a b/\R a b/\S a b/\T a b:=⟨a,b,p,q,r,s,t⟩
def gi{A B C}{P Q R S:A->B->C->Prop}(a)(b)(c)(p:P a b c)(q:Q a b c)(r:R a b c)(s:S a b c):∃a,∃b,∃c,P a b c/\Q a b c/\R a b c/\S a b c:=⟨a,b,c,p,q,r,s⟩
def lY{A B}{P Q R S T U:A->B->Prop}(a)(b)(p:P a b)(q:Q a b)(r:R a b)(s:S a b)(t:T a b)(u:U a b):∃a,∃b,P a b/\Q a b/\R a b/\S a b/\T a b/\U a b:=⟨a,b,p,q,r,s,t,u⟩
def rP{A B C}{P Q R S T:A->B->C->Prop}(a)(b)(c)(p:P a b c)(q:Q a b c)(r:R a b c)(s:S a b c)(t:T a b c):∃a,∃b,∃c,P a b c/\Q a b c/\R a b c/\S a b c/\T a b c:=⟨a,b,c,p,q,r,s,t⟩
def pD{A B C D}{P Q R S:A->B->C->D->Prop}(a)(b)(c)(d)(p:P a b c d)(q:Q a b c d)(r:R a b c d)(s:S a b c d):∃a,∃b,∃c,∃d,P a b c d/\Q a b c d/\R a b c d/\S a b c d:=⟨a,b,c,d,p,q,r,s⟩
def nM{A}{a:A}{G:Prop}(h:a∈([]:List A)):G:=(Zn h).elim
def nT{G:Prop}(h:ZW=ZX):G:=QF h
def nF{G:Prop}(h:ZX=ZW):G:=QF h
def nO{A}{a:A}{G:Prop}(h:Z4=Z7 a):G:=(Option.some_ne_none a h.symm).elim
def nL{A}{a:A}{l:List A}{G:Prop}(h:[]=a::l):G:=(Yv a l h.symm).elim
def nK{A}{a:A}{l:List A}{G:Prop}(h:a::l=[]):G:=(Yv a l h).elim
def gk:(4000:Nat)<=9223372036854775808:=by decide
def gl:(4000:Nat)<=1000000:=by decide
def gj:(4000:Nat)<=100000:=by decide
def pF:(9000+4000:Nat)<=100000:=by decide
def rQ:(9000+1000:Nat)<=10000:=by decide
def rR:(10000+4000:Nat)<=100000:=by decide
def u3:(9000+4000:Nat)<=9223372036854775808:=by decide
def u0:(4000:Nat)<=4611686018427387904:=by decide
def k9:(4000:Nat)<=9000:=by decide
def mI{A}{a:A}{l:List A}(i:Nat)(h:l[i]?=Z7 a):a∈l:=YV h
def dk{p:Prop}[Decidable p](h:decide p=ZW:=by kernel_rfl):p:=of_decide_eq_true h
open PySem in def wm{M A b}{t:PA b}{Q c:b->ZL->Prop}{E:ZN->ZL->Prop}{s:ZL}(h:ZE M A t Q E s)(q:∀a s,Q a s->c a s):ZE M A t c E s:=XT h q λ_ _ x=>x
@[elab_as_elim]def cu{A B}{f:A->B}{l:List A}{b:B}{G:B->Prop}(h:b∈l.map f)(k:∀a,a∈l->G (f a)):G b:=by obtain⟨a,p,q⟩:=Z0.mp h;exact q▸k a p
section
@[irreducible]abbrev uk{A}(n:Nonempty A)(P:A->Prop):A:=@Q3 A n λa=>¬P a
def al1{A}(n:Nonempty A)(P:A->Prop)(h:P (uk n P)):∀a,P a:=λa=>Yl λm=>by unfold uk at h;exact@Vj A (λa=>¬P a) ⟨a,m⟩ h
def bv{A B:Type}(a:Nonempty A)(b:Nonempty B):Nonempty (A×B):=by cases a with|intro a=>cases b with|intro b=>exact⟨(a,b)⟩
variable{A B C D E F G H I J K L M N:Type}(a:Nonempty A)(b:Nonempty B)(c:Nonempty C)(d:Nonempty D)(e:Nonempty E)(f:Nonempty F)(g:Nonempty G)(h:Nonempty H)(i:Nonempty I)(j:Nonempty J)(k:Nonempty K)(l:Nonempty L)(m:Nonempty M)(n:Nonempty N)
abbrev yS(P:A->B->Prop):A×B:=uk (bv a b) λt=>P t.1 t.2
def al2(P:A->B->Prop):type_of%(by have k:(λt:A×B=>P t.1 t.2) (yS a b P)->∀a b,P a b:=(λo y z=>al1 (bv a b) (λt=>P t.1 t.2) o (y,z));dsimp only at k;unfold Wa Wt at k;exact k):=λo y z=>al1 (bv a b) (λt=>P t.1 t.2) o (y,z)
abbrev yT(P:A->B->C->Prop):A×B×C:=yS a (bv b c) λd t=>P d t.1 t.2
def al3(P:A->B->C->Prop):type_of%(by have k:(λt:A×B×C=>P t.1 t.2.1 t.2.2) (yT a b c P)->∀a b c,P a b c:=(λo d y z=>al2 a (bv b c) (λd t=>P d t.1 t.2) o d (y,z));dsimp only at k;unfold Wa Wt at k;exact k):=λo d y z=>al2 a (bv b c) (λd t=>P d t.1 t.2) o d (y,z)
abbrev yU(P:A->B->C->D->Prop):A×B×C×D:=yT a b (bv c d) λe f t=>P e f t.1 t.2
def al4(P:A->B->C->D->Prop):type_of%(by have k:(λt:A×B×C×D=>P t.1 t.2.1 t.2.2.1 t.2.2.2) (yU a b c d P)->∀a b c d,P a b c d:=(λo e f y z=>al3 a b (bv c d) (λe f t=>P e f t.1 t.2) o e f (y,z));dsimp only at k;unfold Wa Wt at k;exact k):=λo e f y z=>al3 a b (bv c d) (λe f t=>P e f t.1 t.2) o e f (y,z)
abbrev yV(P:A->B->C->D->E->Prop):A×B×C×D×E:=yU a b c (bv d e) λf g h t=>P f g h t.1 t.2
def al5(P:A->B->C->D->E->Prop):type_of%(by have k:(λt:A×B×C×D×E=>P t.1 t.2.1 t.2.2.1 t.2.2.2.1 t.2.2.2.2) (yV a b c d e P)->∀a b c d e,P a b c d e:=(λo f g h y z=>al4 a b c (bv d e) (λf g h t=>P f g h t.1 t.2) o f g h (y,z));dsimp only at k;unfold Wa Wt at k;exact k):=λo f g h y z=>al4 a b c (bv d e) (λf g h t=>P f g h t.1 t.2) o f g h (y,z)
abbrev yW(P:A->B->C->D->E->F->Prop):A×B×C×D×E×F:=yV a b c d (bv e f) λg h i j t=>P g h i j t.1 t.2
def al6(P:A->B->C->D->E->F->Prop):type_of%(by have k:(λt:A×B×C×D×E×F=>P t.1 t.2.1 t.2.2.1 t.2.2.2.1 t.2.2.2.2.1 t.2.2.2.2.2) (yW a b c d e f P)->∀a b c d e f,P a b c d e f:=(λo g h i j y z=>al5 a b c d (bv e f) (λg h i j t=>P g h i j t.1 t.2) o g h i j (y,z));dsimp only at k;unfold Wa Wt at k;exact k):=λo g h i j y z=>al5 a b c d (bv e f) (λg h i j t=>P g h i j t.1 t.2) o g h i j (y,z)
abbrev yX(P:A->B->C->D->E->F->G->Prop):A×B×C×D×E×F×G:=yW a b c d e (bv f g) λh i j k l t=>P h i j k l t.1 t.2
def al7(P:A->B->C->D->E->F->G->Prop):type_of%(by have k:(λt:A×B×C×D×E×F×G=>P t.1 t.2.1 t.2.2.1 t.2.2.2.1 t.2.2.2.2.1 t.2.2.2.2.2.1 t.2.2.2.2.2.2) (yX a b c d e f g P)->∀a b c d e f g,P a b c d e f g:=(λo h i j l m y z=>al6 a b c d e (bv f g) (λh i j l m t=>P h i j l m t.1 t.2) o h i j l m (y,z));dsimp only at k;unfold Wa Wt at k;exact k):=λo h i j l m y z=>al6 a b c d e (bv f g) (λh i j l m t=>P h i j l m t.1 t.2) o h i j l m (y,z)
abbrev yY(P:A->B->C->D->E->F->G->H->Prop):A×B×C×D×E×F×G×H:=yX a b c d e f (bv g h) λi j k l m n t=>P i j k l m n t.1 t.2
def al8(P:A->B->C->D->E->F->G->H->Prop):type_of%(by have k:(λt:A×B×C×D×E×F×G×H=>P t.1 t.2.1 t.2.2.1 t.2.2.2.1 t.2.2.2.2.1 t.2.2.2.2.2.1 t.2.2.2.2.2.2.1 t.2.2.2.2.2.2.2) (yY a b c d e f g h P)->∀a b c d e f g h,P a b c d e f g h:=(λo i j l m n p y z=>al7 a b c d e f (bv g h) (λi j l m n p t=>P i j l m n p t.1 t.2) o i j l m n p (y,z));dsimp only at k;unfold Wa Wt at k;exact k):=λo i j l m n p y z=>al7 a b c d e f (bv g h) (λi j l m n p t=>P i j l m n p t.1 t.2) o i j l m n p (y,z)
abbrev yZ(P:A->B->C->D->E->F->G->H->I->Prop):A×B×C×D×E×F×G×H×I:=yY a b c d e f g (bv h i) λj k l m n o p t=>P j k l m n o p t.1 t.2
def al9(P:A->B->C->D->E->F->G->H->I->Prop):type_of%(by have k:(λt:A×B×C×D×E×F×G×H×I=>P t.1 t.2.1 t.2.2.1 t.2.2.2.1 t.2.2.2.2.1 t.2.2.2.2.2.1 t.2.2.2.2.2.2.1 t.2.2.2.2.2.2.2.1 t.2.2.2.2.2.2.2.2) (yZ a b c d e f g h i P)->∀a b c d e f g h i,P a b c d e f g h i:=(λo j l m n p r s y z=>al8 a b c d e f g (bv h i) (λj l m n p r s t=>P j l m n p r s t.1 t.2) o j l m n p r s (y,z));dsimp only at k;unfold Wa Wt at k;exact k):=λo j l m n p r s y z=>al8 a b c d e f g (bv h i) (λj l m n p r s t=>P j l m n p r s t.1 t.2) o j l m n p r s (y,z)
abbrev yO(P:A->B->C->D->E->F->G->H->I->J->Prop):A×B×C×D×E×F×G×H×I×J:=yZ a b c d e f g h (bv i j) λk l m n o p r s t=>P k l m n o p r s t.1 t.2
def al10(P:A->B->C->D->E->F->G->H->I->J->Prop):type_of%(by have k:(λt:A×B×C×D×E×F×G×H×I×J=>P t.1 t.2.1 t.2.2.1 t.2.2.2.1 t.2.2.2.2.1 t.2.2.2.2.2.1 t.2.2.2.2.2.2.1 t.2.2.2.2.2.2.2.1 t.2.2.2.2.2.2.2.2.1 t.2.2.2.2.2.2.2.2.2) (yO a b c d e f g h i j P)->∀a b c d e f g h i j,P a b c d e f g h i j:=(λo l m n p r s u v y z=>al9 a b c d e f g h (bv i j) (λl m n p r s u v t=>P l m n p r s u v t.1 t.2) o l m n p r s u v (y,z));dsimp only at k;unfold Wa Wt at k;exact k):=λo l m n p r s u v y z=>al9 a b c d e f g h (bv i j) (λl m n p r s u v t=>P l m n p r s u v t.1 t.2) o l m n p r s u v (y,z)
abbrev yP(P:A->B->C->D->E->F->G->H->I->J->K->Prop):A×B×C×D×E×F×G×H×I×J×K:=yO a b c d e f g h i (bv j k) λl m n o p r s u v t=>P l m n o p r s u v t.1 t.2
def al11(P:A->B->C->D->E->F->G->H->I->J->K->Prop):type_of%(by have k:(λt:A×B×C×D×E×F×G×H×I×J×K=>P t.1 t.2.1 t.2.2.1 t.2.2.2.1 t.2.2.2.2.1 t.2.2.2.2.2.1 t.2.2.2.2.2.2.1 t.2.2.2.2.2.2.2.1 t.2.2.2.2.2.2.2.2.1 t.2.2.2.2.2.2.2.2.2.1 t.2.2.2.2.2.2.2.2.2.2) (yP a b c d e f g h i j k P)->∀a b c d e f g h i j k,P a b c d e f g h i j k:=(λo l m n p r s u v w y z=>al10 a b c d e f g h i (bv j k) (λl m n p r s u v w t=>P l m n p r s u v w t.1 t.2) o l m n p r s u v w (y,z));dsimp only at k;unfold Wa Wt at k;exact k):=λo l m n p r s u v w y z=>al10 a b c d e f g h i (bv j k) (λl m n p r s u v w t=>P l m n p r s u v w t.1 t.2) o l m n p r s u v w (y,z)
abbrev yQ(P:A->B->C->D->E->F->G->H->I->J->K->L->Prop):A×B×C×D×E×F×G×H×I×J×K×L:=yP a b c d e f g h i j (bv k l) λm n o p r s u v w x t=>P m n o p r s u v w x t.1 t.2
def al12(P:A->B->C->D->E->F->G->H->I->J->K->L->Prop):type_of%(by have k:(λt:A×B×C×D×E×F×G×H×I×J×K×L=>P t.1 t.2.1 t.2.2.1 t.2.2.2.1 t.2.2.2.2.1 t.2.2.2.2.2.1 t.2.2.2.2.2.2.1 t.2.2.2.2.2.2.2.1 t.2.2.2.2.2.2.2.2.1 t.2.2.2.2.2.2.2.2.2.1 t.2.2.2.2.2.2.2.2.2.2.1 t.2.2.2.2.2.2.2.2.2.2.2) (yQ a b c d e f g h i j k l P)->∀a b c d e f g h i j k l,P a b c d e f g h i j k l:=(λo m n p r s u v w x M y z=>al11 a b c d e f g h i j (bv k l) (λm n p r s u v w x M t=>P m n p r s u v w x M t.1 t.2) o m n p r s u v w x M (y,z));dsimp only at k;unfold Wa Wt at k;exact k):=λo m n p r s u v w x M y z=>al11 a b c d e f g h i j (bv k l) (λm n p r s u v w x M t=>P m n p r s u v w x M t.1 t.2) o m n p r s u v w x M (y,z)
abbrev yR(P:A->B->C->D->E->F->G->H->I->J->K->L->M->Prop):A×B×C×D×E×F×G×H×I×J×K×L×M:=yQ a b c d e f g h i j k (bv l m) λo p r s u v w x y z n t=>P o p r s u v w x y z n t.1 t.2
def al13(P:A->B->C->D->E->F->G->H->I->J->K->L->M->Prop):type_of%(by have k:(λt:A×B×C×D×E×F×G×H×I×J×K×L×M=>P t.1 t.2.1 t.2.2.1 t.2.2.2.1 t.2.2.2.2.1 t.2.2.2.2.2.1 t.2.2.2.2.2.2.1 t.2.2.2.2.2.2.2.1 t.2.2.2.2.2.2.2.2.1 t.2.2.2.2.2.2.2.2.2.1 t.2.2.2.2.2.2.2.2.2.2.1 t.2.2.2.2.2.2.2.2.2.2.2.1 t.2.2.2.2.2.2.2.2.2.2.2.2) (yR a b c d e f g h i j k l m P)->∀a b c d e f g h i j k l m,P a b c d e f g h i j k l m:=(λo p r s u v w x N O Q n y z=>al12 a b c d e f g h i j k (bv l m) (λp r s u v w x N O Q n t=>P p r s u v w x N O Q n t.1 t.2) o p r s u v w x N O Q n (y,z));dsimp only at k;unfold Wa Wt at k;exact k):=λo p r s u v w x N O Q n y z=>al12 a b c d e f g h i j k (bv l m) (λp r s u v w x N O Q n t=>P p r s u v w x N O Q n t.1 t.2) o p r s u v w x N O Q n (y,z)
abbrev Ir(P:A->B->C->D->E->F->G->H->I->J->K->L->M->N->Prop):A×B×C×D×E×F×G×H×I×J×K×L×M×N:=yR a b c d e f g h i j k l (bv m n) λr s u v w x y z O Q o p t=>P r s u v w x y z O Q o p t.1 t.2
def al14(P:A->B->C->D->E->F->G->H->I->J->K->L->M->N->Prop):type_of%(by have k:(λt:A×B×C×D×E×F×G×H×I×J×K×L×M×N=>P t.1 t.2.1 t.2.2.1 t.2.2.2.1 t.2.2.2.2.1 t.2.2.2.2.2.1 t.2.2.2.2.2.2.1 t.2.2.2.2.2.2.2.1 t.2.2.2.2.2.2.2.2.1 t.2.2.2.2.2.2.2.2.2.1 t.2.2.2.2.2.2.2.2.2.2.1 t.2.2.2.2.2.2.2.2.2.2.2.1 t.2.2.2.2.2.2.2.2.2.2.2.2.1 t.2.2.2.2.2.2.2.2.2.2.2.2.2) (Ir a b c d e f g h i j k l m n P)->∀a b c d e f g h i j k l m n,P a b c d e f g h i j k l m n:=(λo s u v w x O Q R S U p r y z=>al13 a b c d e f g h i j k l (bv m n) (λs u v w x O Q R S U p r t=>P s u v w x O Q R S U p r t.1 t.2) o s u v w x O Q R S U p r (y,z));dsimp only at k;unfold Wa Wt at k;exact k):=λo s u v w x O Q R S U p r y z=>al13 a b c d e f g h i j k l (bv m n) (λs u v w x O Q R S U p r t=>P s u v w x O Q R S U p r t.1 t.2) o s u v w x O Q R S U p r (y,z)
def nLi{A:Type}:Nonempty (List A):=⟨[]⟩
def nAy{A:Type}:Nonempty (Array A):=⟨#[]⟩
def nOt{A:Type}:Nonempty (Option A):=⟨Z4⟩
def nPi{A B:Type}(b:Nonempty B):Nonempty (A->B):=by cases b with|intro b=>exact⟨λu=>b⟩
@[irreducible]abbrev q9(P:(a:Type)->DecidableEq a->Prop):(a:Type)×DecidableEq a:=@Q3 ((a:Type)×DecidableEq a) ⟨⟨Nat,inferInstance⟩⟩ λt=>¬P t.1 t.2
def xR(P:(a:Type)->DecidableEq a->Prop):type_of%(by have k:P (q9 P).1 (q9 P).2->∀a i,P a i:=(λh a i=>Yl λm=>by unfold q9 at h;exact@Vj ((a:Type)×DecidableEq a) (λt=>¬P t.1 t.2) ⟨⟨a,i⟩,m⟩ h);unfold Sigma.fst Sigma.snd at k;exact k):=λh a i=>Yl λm=>by unfold q9 at h;exact@Vj ((a:Type)×DecidableEq a) (λt=>¬P t.1 t.2) ⟨⟨a,i⟩,m⟩ h
def nN:Nonempty Nat:=⟨0⟩
def nI:Nonempty Int:=⟨0⟩
def nB:Nonempty Bool:=⟨ZW⟩
def nSt:Nonempty String:=⟨""⟩
def nS:Nonempty ZD:=⟨default⟩
def nPo:Nonempty Vk:=⟨default⟩
def nEx:Nonempty X7:=⟨default⟩
def nSh:Nonempty ZL:=⟨{}⟩
def nAr:Nonempty YM:=⟨{}⟩
def nOb:Nonempty Ze:=⟨default⟩
def NK:Nonempty Ym:=⟨⟨default,default,default,default,default,default,default,.refcount,.text,default,default,default,default,default,default,default,default,default,default,default,default,default,default,default,default⟩⟩
def nW:Nonempty Yg:=by cases NK with|intro p=>exact⟨⟨λu v=>0,p⟩⟩
def nV:Nonempty ZN:=⟨default⟩
def nGs:Nonempty YD:=⟨.running⟩
def nTk:Nonempty O6:=⟨default⟩
def nHe:Nonempty Xq:=⟨default⟩
def nSm:Nonempty YR:=⟨default⟩
def nSc:Nonempty Vs:=⟨default⟩
def nNk:Nonempty XH:=⟨default⟩
def nPg:Nonempty Wx:=⟨default⟩
def nSe:Nonempty To:=⟨default⟩
def nEn:Nonempty Ri:=⟨default⟩
def nFd:Nonempty Uj:=⟨default⟩
def nCo:Nonempty Sc:=⟨default⟩
def nRe:Nonempty Uu:=⟨default⟩
def nOp:Nonempty Ui:=⟨default⟩
def nOs:Nonempty XG:=⟨default⟩
def nCm:Nonempty O5:=⟨default⟩
def nAg:Nonempty SU:=⟨default⟩
def nBu:Nonempty XF:=⟨default⟩
def nAs:Nonempty PySem.Args:=⟨default⟩
def nP:Nonempty Prop:=⟨True⟩
end
end Mine.Internal
local macro_rules |`(tactic|injections $xs*)=>do let ys:Lean.TSyntaxArray `ident:=.mk xs.raw;let us:=Array.replicate ys.size (←`(_));let ns:=Array.replicate ys.size (←`(?_));let f:=Lean.mkIdent (.str `Mine.Internal s!"al{ys.size}");let z:=Lean.mkIdent `Mine.Internal.nFx;`(tactic|((try revert $ys*);refine@$f $us* $ns* ?P ((?f:∀$ys*,?P $ys*) $us*);all_goals first|intro $ys*|exact $z|(constructor;repeat' first|exact default|constructor|intro u)))
universe u
@[elab_as_elim]def Mine.Internal.aW{α:Sort u}{a b:α}{p:α->Prop}(h:a=b)(q:p b):p a:=h▸q
local macro_rules (kind:=Lean.Parser.Tactic.«tacticExists_,,»)|s=>return .node .none ``Lean.Parser.Tactic.paren #[.atom .none "",.node .none ``Lean.Parser.Tactic.tacticSeq #[.node .none ``Lean.Parser.Tactic.tacticSeq1Indented #[Lean.Syntax.mkSep (s[1].getSepArgs.map λe=>.node .none ``Lean.Parser.Tactic.refine #[.atom .none "",Lean.Syntax.mkApp (Lean.mkIdent `Mine.Internal.aW) #[⟨e⟩,⟨.node .none ``Lean.Parser.Term.syntheticHole #[.atom .none "",.node .none ``Lean.Parser.Term.hole #[.atom .none ""]]⟩]]) (.atom .none "")]],.atom .none ""]
local macro_rules (kind:=Lean.Parser.Term.omission)|s=>return .node .none ``Lean.Parser.Term.byTactic #[s,.node .none ``Lean.Parser.Tactic.tacticSeq #[.node .none ``Lean.Parser.Tactic.tacticSeq1Indented #[.node .none `null #[.node .none `tacticKernel_rfl #[s]]]]]
local macro_rules (kind:=Lean.Elab.Tactic.Ext.ext)|s=>return .node .none ``Lean.Parser.Tactic.paren #[s[0],.node .none ``Lean.Parser.Tactic.tacticSeq #[.node .none ``Lean.Parser.Tactic.tacticSeq1Indented #[.node .none `null #[.node .none ``Lean.Parser.Tactic.injections #[s[0],.node .none `null (s[1].getArgs.map (·[0][0]))],s[0],.node .none ``Lean.Parser.Tactic.intros #[s[0],.node .none `null #[]]]]],s[0]]
local macro_rules (kind:=Lean.Parser.Term.nestedAction)|s=>return .node .none ``Lean.Parser.Term.byTactic #[s[0],.node .none ``Lean.Parser.Tactic.tacticSeq #[.node .none ``Lean.Parser.Tactic.tacticSeq1Indented #[.node .none `null #[.node .none ``Lean.Parser.Tactic.refine #[s[0],s[1][0]]]]]]
local macro_rules (kind:=Lean.Parser.Tactic.show)|s=>return s.setKind ``Lean.Parser.Tactic.refine
namespace Mine.Internal.Ar
inductive T where|v(j:Nat)|w(j:Nat)|n(q:Nat)|a(x y:T)|s(x y:T)|m(q:Nat)(x:T)|lo(x y:T)|hi(x y:T)|c(x:T)|g(x:T)
inductive P where|l(x y:T)|t(x y:T)|e(x y:T)|zl(x y:T)|zt(x y:T)|ze(x y:T)|no(p:P)|an(p q:P)|or(p q:P)|im(p q:P)
abbrev wL:Unit:=(λa=>()) @PySem.execs
abbrev me{a:Type}(d:a)(l:List a):Nat->a:=(λ(_:Unit)=>@List.rec a (λb=>Nat->a) (λb=>d) (λx b c j=>Nat.rec x (λj b=>c j) j) l) wL
abbrev T.N(N:List Nat)(t:T):Nat:=(λ(_:Unit)=>@T.rec (λa=>Nat) (λj=>me 0 N j) (λa=>0) (λq=>q) (λa a x y=>x+y) (λa a x y=>x-y) (λq a x=>q*x) (λa a x y=>min x y) (λa a x y=>max x y) (λa a=>0) (λa a=>0) t) wL
abbrev T.Z(N:List Nat)(Z:List Int)(t:T):Int:=(λ(_:Unit)=>@T.rec (λa=>Int) (λj=>((me 0 N j:Nat):Int)) (λj=>me 0 Z j) (λq=>((q:Nat):Int)) (λa a x y=>x+y) (λa a x y=>x-y) (λq a x=>((q:Nat):Int)*x) (λa a x y=>min x y) (λa a x y=>max x y) (λx a=>((x.N N:Nat):Int)) (λa x=>-x) t) wL
abbrev P.den(N:List Nat)(Z:List Int):P->Prop
 |.l x y=>x.N N<=y.N N|.t x y=>x.N N<y.N N|.e x y=>x.N N=y.N N|.zl x y=>x.Z N Z<=y.Z N Z|.zt x y=>x.Z N Z<y.Z N Z|.ze x y=>x.Z N Z=y.Z N Z|.no p=>¬p.den N Z|.an p q=>p.den N Z/\q.den N Z|.or p q=>p.den N Z\/q.den N Z|.im p q=>p.den N Z->q.den N Z
abbrev uW(N:List Nat)(Z:List Int):List P->P->Prop
 |[],g=>g.den N Z|p::a,g=>p.den N Z->uW N Z a g
structure L where
 c:Int
 l:List Int
abbrev mQ:List Int->List Int->List Int
 |[],m=>m|l,[]=>l|x::l,y::m=>(x+y)::mQ l m
abbrev L.add(p q:L):L:=⟨p.c+q.c,mQ p.l q.l⟩
abbrev L.mul(k:Int)(p:L):L:=⟨k*p.c,p.l.map (k*·)⟩
abbrev L.sub(p q:L):L:=p.add<|q.mul (-1)
abbrev iO:Nat->List Int
 |0=>[1]|n+1=>0::iO n
abbrev L.off(k:Int)(p:L):L:=⟨p.c+k,p.l⟩
@[reducible]abbrev Cs:=List<|List L×L
abbrev jC(x y:Cs)(f:L->L->Cs):Cs:=x.flatMap λp=>y.flatMap λq=>(f p.2 q.2).map λr=>(p.1++(q.1++r.1),r.2)
abbrev d8:T->Cs
 |.v j=>[([],⟨0,iO (2*j)⟩)]|.n q=>[([],⟨q,[]⟩)]|.a x y=>jC (d8 x) (d8 y) λp q=>[([],p.add q)]|.s x y=>jC (d8 x) (d8 y) λp q=>[([p.sub q],p.sub q),([(q.sub p).off (-1)],⟨0,[]⟩)]|.m q x=>(d8 x).map λp=>(p.1,p.2.mul q)|.lo x y=>jC (d8 x) (d8 y) λp q=>[([q.sub p],p),([(p.sub q).off (-1)],q)]|.hi x y=>jC (d8 x) (d8 y) λp q=>[([q.sub p],q),([(p.sub q).off (-1)],p)]|_=>[([],⟨0,[]⟩)]
abbrev d9:T->Cs
 |.v j=>[([],⟨0,iO (2*j)⟩)]|.w j=>[([],⟨0,iO (2*j+1)⟩)]|.n q=>[([],⟨q,[]⟩)]|.a x y=>jC (d9 x) (d9 y) λp q=>[([],p.add q)]|.s x y=>jC (d9 x) (d9 y) λp q=>[([],p.sub q)]|.m q x=>(d9 x).map λp=>(p.1,p.2.mul q)|.lo x y=>jC (d9 x) (d9 y) λp q=>[([q.sub p],p),([(p.sub q).off (-1)],q)]|.hi x y=>jC (d9 x) (d9 y) λp q=>[([q.sub p],q),([(p.sub q).off (-1)],p)]|.c x=>d8 x|.g x=>(d9 x).map λp=>(p.1,p.2.mul (-1))
@[reducible]abbrev Dn:=List<|List L
abbrev rel(x y:Cs)(f:L->L->Dn):Dn:=x.flatMap λp=>y.flatMap λq=>(f p.2 q.2).map λr=>p.1++(q.1++r)
abbrev pJ(p q:L):Dn:=[[q.sub p]]
abbrev nC(p q:L):Dn:=[[(q.sub p).off (-1)]]
abbrev ul(p q:L):Dn:=[[q.sub p,p.sub q]]
abbrev vA(p q:L):Dn:=[[(q.sub p).off (-1)],[(p.sub q).off (-1)]]
abbrev lJ(x y:Dn):Dn:=x.flatMap λp=>y.map λq=>p++q
abbrev dS:Bool->P->Dn
 |b,.l x y=>rel (d8 x) (d8 y) λp q=>if b then pJ p q else nC q p|b,.t x y=>rel (d8 x) (d8 y) λp q=>if b then nC p q else pJ q p|b,.e x y=>rel (d8 x) (d8 y) λp q=>if b then ul p q else vA p q|b,.zl x y=>rel (d9 x) (d9 y) λp q=>if b then pJ p q else nC q p|b,.zt x y=>rel (d9 x) (d9 y) λp q=>if b then nC p q else pJ q p|b,.ze x y=>rel (d9 x) (d9 y) λp q=>if b then ul p q else vA p q|b,.no p=>dS (!b) p|true,.an p q=>lJ (dS ZW p) (dS ZW q)|false,.an p q=>dS ZX p++dS ZX q|true,.or p q=>dS ZW p++dS ZW q|false,.or p q=>lJ (dS ZX p) (dS ZX q)|true,.im p q=>dS ZX p++dS ZW q|false,.im p q=>lJ (dS ZW p) (dS ZX q)
abbrev hd(p:L):Int:=p.l.headD 0
abbrev tl(p:L):L:=⟨p.c,p.l.tail⟩
abbrev out(a:List L):List L:=(a.filter λp=>hd p==0).map tl++(a.filter λp=>decide<|0<hd p).flatMap λp=>(a.filter λq=>decide<|hd q<0).map λq=>((tl p).mul (-hd q)).add<|(tl q).mul<|hd p
abbrev bad(a:List L):Bool:=a.any λp=>decide (p.c<0)&&p.l.all (·==0)
abbrev fm:Nat->List L->Bool
 |0,a=>bad a|n+1,a=>bad a||fm n (out a)
abbrev Hn(r:Nat)(a:List Nat)(b:List P)(g:P):Bool:=(b.foldl (λd p=>lJ d<|dS ZW p)<|dS ZX g).all λc=>fm (2*r)<|a.map (λi=>⟨0,iO<|2*i⟩)++c
abbrev bT(a:Nat->Int):Nat->List Int->Int
 |_,[]=>0|j,c::l=>c*a j+bT a (j+1) l
abbrev L.ev(a:Nat->Int)(p:L):Int:=p.c+bT a 0 p.l
abbrev env(N:List Nat)(Z:List Int)(j:Nat):Int:=if j%2=0 then((me 0 N (j/2):Nat):Int)else me 0 Z (j/2)
def yG{a:Nat->Int}:∀(j:Nat)(l m:List Int),bT a j (mQ l m)=bT a j l+bT a j m:=by intro j;intro b;induction b generalizing j with
 |nil=>intro m;show(Xw _).symm;|cons x l d=>intro c;cases c with
 |nil=>show(Wl _).symm;|cons y m=>show(?_:(x+y)*a j+bT a (j+1) (mQ l m)=_);rw[d (j+1) m,Int.add_mul];show(?_:_=(x*a j+bT a (j+1) l)+(y*a j+bT a (j+1) m));ac_rfl
def yH{a:Nat->Int}(k:Int):∀(j:Nat)(l:List Int),bT a j (l.map (k*·))=k*bT a j l:=by intro j;intro b;induction b generalizing j with
 |nil=>show(Int.mul_zero k).symm;|cons x l c=>show(?_:k*x*a j+bT a (j+1) (l.map (k*·))=k*(x*a j+bT a (j+1) l));rw[c (j+1),TP,Rn]
def um{a:Nat->Int}(p q:L):(p.add q).ev a=p.ev a+q.ev a:=by show(?_:p.c+q.c+bT a 0 (mQ p.l q.l)=(p.c+bT a 0 p.l)+(q.c+bT a 0 q.l));rw[yG];ac_rfl
def rc{a:Nat->Int}(k:Int)(p:L):(p.mul k).ev a=k*p.ev a:=by show(?_:k*p.c+bT a 0 (p.l.map (k*·))=k*(p.c+bT a 0 p.l));rw[yH,TP]
def re{a:Nat->Int}(p q:L):(p.sub q).ev a=p.ev a-q.ev a:=by unfold L.sub;rw[um,rc,Sb,Sa];rfl
def IC{a:Nat->Int}(k:Int)(p:L):(p.off k).ev a=p.ev a+k:=by show(?_:p.c+k+bT a 0 p.l=p.c+bT a 0 p.l+k);ac_rfl
def HY{a:Nat->Int}:∀(n j:Nat),bT a j (iO n)=a (j+n):=by intro b;induction b with|zero=>intro j;show(?_:1*a j+0=a j);rw[Sa,Wl];|succ n c=>intro j;show(?_:0*a j+bT a (j+1) (iO n)=_);rw[c (j+1),SS,Xw,Rh];rfl
def rf{a:Nat->Int}(n:Nat):(⟨0,iO n⟩:L).ev a=a n:=by show(?_:0+bT a 0 (iO n)=_);rw[HY,Xw,W8]
def m9{a:Nat->Int}(k:Int):(⟨k,[]⟩:L).ev a=k:=Wl k
def uj{N:List Nat}{Z:List Int}(i:Nat):env N Z (2*i)=((me 0 N i:Nat):Int):=by unfold env;exists if_pos<|Nat.mul_mod_right 2 i;show aW (Nat.mul_div_right i<|by decide) rfl
def Iq{N:List Nat}{Z:List Int}(i:Nat):env N Z (2*i+1)=me 0 Z i:=by unfold env;rw[if_neg (by rw[Nat.mul_add_mod];decide),Nat.mul_add_div (by decide)];rfl
abbrev All(a:Nat->Int)(g:List L):Prop:=∀p∈g,0<=p.ev a
def All.nil{a:Nat->Int}:All a []:=λb h=>nM h
def All.app{a:Nat->Int}{g h:List L}(x:All a g)(y:All a h):All a (g++h):=λp b=>(ZS.mp b).elim (x p)<|y p
def All.one{a:Nat->Int}{p:L}(h:0<=p.ev a):All a [p]:=λq b=>by rw[ZM.mp b];show h
abbrev cQ(a:Nat->Int)(c:Cs)(x:Int):Prop:=∃p∈c,All a p.1/\p.2.ev a=x
abbrev dR(a:Nat->Int)(d:Dn):Prop:=∃g∈d,All a g
def cQ.one{a:Nat->Int}{p:L}{x:Int}(h:p.ev a=x):cQ a [([],p)] x:=⟨_,.head _,All.nil,h⟩
def cQ.map{a:Nat->Int}{c:Cs}{x z:Int}{f:L->L}(h:cQ a c x)(b:∀p,p.ev a=x->(f p).ev a=z):cQ a (c.map λp=>(p.1,f p.2)) z:=let⟨p,d,e,g⟩:=h;⟨_,Z0.mpr ⟨p,d,rfl⟩,e,b _ g⟩
def cQ.bind{a:Nat->Int}{c d:Cs}{x y z:Int}{f:L->L->Cs}(h:cQ a c x)(b:cQ a d y)(e:∀p q,p.ev a=x->q.ev a=y->cQ a (f p q) z):cQ a (jC c d f) z:=let⟨p,g,i,j⟩:=h;let⟨q,k,l,m⟩:=b;let⟨r,n,o,s⟩:=e _ _ j m;⟨_,XW.mpr ⟨p,g,XW.mpr ⟨q,k,Z0.mpr ⟨r,n,rfl⟩⟩⟩,i.app<|l.app o,s⟩
def cQ.rel{a:Nat->Int}{c d:Cs}{x y:Int}{f:L->L->Dn}(h:cQ a c x)(b:cQ a d y)(e:∀p q,p.ev a=x->q.ev a=y->dR a (f p q)):dR a (rel c d f):=let⟨p,g,i,j⟩:=h;let⟨q,k,l,m⟩:=b;let⟨r,n,o⟩:=e _ _ j m;⟨_,XW.mpr ⟨p,g,XW.mpr ⟨q,k,Z0.mpr ⟨r,n,rfl⟩⟩⟩,i.app<|l.app o⟩
def rV{a:Nat->Int}{p q:L}{x y:Int}(b:p.ev a=x)(c:q.ev a=y)(h:x<=y):0<=(q.sub p).ev a:=by rw[re,b,c];show Int.sub_nonneg_of_le h
def r3{a:Nat->Int}{p q:L}{x y:Int}(b:p.ev a=x)(c:q.ev a=y)(h:x<y):0<=((q.sub p).off (-1)).ev a:=by rw[IC,re,b,c];show Int.le_sub_one_of_lt<|Int.sub_pos_of_lt h
def wP{a:Nat->Int}{p q r s:L}{x y z:Int}(b:p.ev a=x)(c:q.ev a=y)(d:x<=y->r.ev a=z)(e:y<x->s.ev a=z):cQ a [([q.sub p],r),([(p.sub q).off (-1)],s)] z:=by
 show ZI (Int.lt_or_le y x) (λh=>?_) λh=>?_;.show⟨_,.tail _<|.head _,All.one<|r3 c b h,e h⟩
 .show⟨_,.head _,All.one<|rV b c h,d h⟩
def acL{a:Nat->Int}{x y:Nat}{p q:L}(b:p.ev a=(x:Int))(c:q.ev a=(y:Int)):cQ a [([p.sub q],p.sub q),([(q.sub p).off (-1)],⟨0,[]⟩)] ((x-y:Nat):Int):=wP c b (λh=>by rw[re,b,c,Int.ofNat_sub (Vi.mp h)]) λh=>by rw[m9,Sp (Ye<|WS.mp h)];rfl
def Nu(x y:Nat):((min x y:Nat):Int)=min (x:Int) (y:Int):=by show ZI (Q1 x y) (λh=>?_) (λh=>?_)<;>simp[XO,Nat.min_eq_right,Qe,QE,h]
def Nn(x y:Nat):((max x y:Nat):Int)=max (x:Int) (y:Int):=by show ZI (Q1 x y) (λh=>?_) (λh=>?_)<;>simp[Sv,QD,Qd,QC,h]
def AT{a:Nat->Int}{x y:Int}{p q:L}(b:p.ev a=x)(c:q.ev a=y):cQ a [([q.sub p],p),([(p.sub q).off (-1)],q)] (min x y):=wP b c (λh=>by exists b;show aW (Qe h) rfl) λh=>by exists c;show aW (QE<|SQ h) rfl
def z9{a:Nat->Int}{x y:Int}{p q:L}(b:p.ev a=x)(c:q.ev a=y):cQ a [([q.sub p],q),([(p.sub q).off (-1)],p)] (max x y):=wP b c (λh=>by exists c;show aW (QC h) rfl) λh=>by exists b;show aW (Qd<|SQ h) rfl
def f8{N:List Nat}{Z:List Int}(t:T):cQ (env N Z) (d8 t) ((t.N N:Nat):Int):=by induction t with|v j=>show .one (by rw[rf,uj];rfl);|w f=>show .one<|m9 0;|n q=>show .one<|m9 _;|a x y a b=>show a.bind b λp q d e=>.one (by rw[um,d,e];rfl);|s x y a b=>show a.bind b λp q d e=>acL d e;|m c x a=>show a.map λp d=>by rw[rc,d];rfl;|lo x y a b=>show a.bind b λp q d e=>by show(?_:cQ _ _ ((min (x.N N) (y.N N):Nat):Int));rw[Nu];show AT d e;|hi x y a b=>show a.bind b λp q d e=>by show(?_:cQ _ _ ((max (x.N N) (y.N N):Nat):Int));rw[Nn];show z9 d e;|c f=>show .one<|m9 0;|g f=>show .one<|m9 0
def gI{N:List Nat}{Z:List Int}(t:T):cQ (env N Z) (d9 t) (t.Z N Z):=by induction t with|v j=>show .one (by rw[rf,uj];rfl);|w j=>show .one (by rw[rf,Iq];rfl);|n q=>show .one<|m9 _;|a x y a b=>show a.bind b λp q d e=>.one (by rw[um,d,e];rfl);|s x y a b=>show a.bind b λp q d e=>.one (by rw[re,d,e];rfl);|m c x a=>show a.map λp d=>by rw[rc,d];rfl;|lo x y a b=>show a.bind b λp q d e=>AT d e;|hi x y a b=>show a.bind b λp q d e=>z9 d e;|c x a=>show f8 x;|g x a=>show a.map λp d=>by rw[rc,d,Sb,Sa];rfl
def dR.and{a:Nat->Int}{x y:Dn}(h:dR a x)(b:dR a y):dR a (lJ x y):=let⟨p,c,d⟩:=h;let⟨q,e,f⟩:=b;⟨_,XW.mpr ⟨p,c,Z0.mpr ⟨q,e,rfl⟩⟩,d.app f⟩
def dR.l{a:Nat->Int}{x y:Dn}(h:dR a x):dR a (x++y):=let⟨p,b,c⟩:=h;⟨p,Zk _ b,c⟩
def dR.r{a:Nat->Int}{x y:Dn}(h:dR a y):dR a (x++y):=let⟨p,b,c⟩:=h;⟨p,Zq _ b,c⟩
def rU{a:Nat->Int}{p q:L}{x y:Int}(b:p.ev a=x)(c:q.ev a=y)(h:x<=y):dR a (pJ p q):=⟨_,.head _,All.one<|rV b c h⟩
def rZ{a:Nat->Int}{p q:L}{x y:Int}(b:p.ev a=x)(c:q.ev a=y)(h:x<y):dR a (nC p q):=⟨_,.head _,All.one<|r3 b c h⟩
def y1{a:Nat->Int}{p q:L}{x y:Int}(c:p.ev a=x)(d:q.ev a=y)(h:x=y):dR a (ul p q):=⟨_,.head _,λr b=>(Z1.mp b).elim (λe=>e▸rV c d (QZ h)) λb=>ZM.mp b▸rV d c (QZ h.symm)⟩
def By{a:Nat->Int}{p q:L}{x y:Int}(b:p.ev a=x)(c:q.ev a=y)(h:x≠y):dR a (vA p q):=(Int.lt_or_gt_of_ne h).elim (λh=>⟨_,.head _,All.one<|r3 b c h⟩) λh=>⟨_,.tail _<|.head _,All.one<|r3 c b h⟩
abbrev pol(b:Bool)(p:Prop):Prop:=match b with|true=>p|false=>¬p
def iW{C:Bool->Prop}(f:C ZX)(t:C ZW)(b:Bool):C b:=Bool.rec f t b
def yF{N:List Nat}{Z:List Int}(p:P):∀b:Bool,pol b (p.den N Z)->dR (env N Z) (dS b p):=by induction p with|l x y=>show iW (λh=>(f8 x).rel (f8 y) λp q a c=>rZ c a<|WS.mpr<|Nat.lt_of_not_le h) λh=>(f8 x).rel (f8 y) λp q a c=>rU a c<|Vi.mpr h;|t x y=>show iW (λh=>(f8 x).rel (f8 y) λp q a c=>rU c a<|Vi.mpr<|XM h) λh=>(f8 x).rel (f8 y) λp q a c=>rZ a c<|WS.mpr h;|e x y=>show iW (λh=>(f8 x).rel (f8 y) λp q a c=>By a c λe=>h<|Int.ofNat_inj.mp e) λh=>(f8 x).rel (f8 y) λp q a c=>y1 a c<|congrArg _ h;|zl x y=>show iW (λh=>(gI x).rel (gI y) λp q a c=>rZ c a<|Int.lt_of_not_ge h) λh=>(gI x).rel (gI y) λp q a c=>rU a c h;|zt x y=>show iW (λh=>(gI x).rel (gI y) λp q a c=>rU c a<|Int.le_of_not_gt h) λh=>(gI x).rel (gI y) λp q a c=>rZ a c h;|ze x y=>show iW (λh=>(gI x).rel (gI y) λp q a c=>By a c h) λh=>(gI x).rel (gI y) λp q a c=>y1 a c h;|no p d=>show iW (λh=>d ZW<|QY.mp h) λh=>d ZX h;|an p q d f=>show iW (λh=>(QX<|p.den N Z).elim (λx=>(f ZX λy=>h ⟨x,y⟩).r) λx=>(d ZX x).l) λh=>(d ZW h.1).and<|f ZW h.2;|or p q d f=>show iW (λh=>(d ZX λx=>h<|.inl x).and<|f ZX λx=>h<|.inr x) λh=>h.elim (λx=>(d ZW x).l) λx=>(f ZW x).r;|im p q d f=>show iW (λh=>(QX<|p.den N Z).elim (λx=>(d ZW x).and<|f ZX λy=>h λg=>y) λx=>absurd (λy=>absurd y x) h) λh=>(QX<|p.den N Z).elim (λx=>(f ZW<|h x).r) λx=>(d ZX x).l
abbrev jD(a:Nat->Int)(j:Nat)(p:L):Int:=p.c+bT a j p.l
abbrev oQ(a:Nat->Int)(j:Nat)(g:List L):Prop:=∀p∈g,0<=jD a j p
def y6{a:Nat->Int}(j:Nat)(p:L):jD a j p=hd p*a j+jD a (j+1) (tl p):=by obtain⟨c,l⟩:=p;cases l with|nil=>show(?_:c+0=0*a j+(c+0));rw[SS,Xw];|cons x l=>show(?_:c+(x*a j+bT a (j+1) l)=x*a j+(c+bT a (j+1) l));ac_rfl
def ID{a:Nat->Int}(j:Nat)(p q:L):jD a j (p.add q)=jD a j p+jD a j q:=by show(?_:p.c+q.c+bT a j (mQ p.l q.l)=(p.c+bT a j p.l)+(q.c+bT a j q.l));rw[yG];ac_rfl
def y5{a:Nat->Int}(j:Nat)(k:Int)(p:L):jD a j (p.mul k)=k*jD a j p:=by show(?_:k*p.c+bT a j (p.l.map (k*·))=k*(p.c+bT a j p.l));rw[yH,TP]
def adr{a b r x y:Int}(c:0<a)(d:b<0)(f:0<=a*r+x)(g:0<=b*r+y):0<=-b*x+a*y:=by
 have h:=PX (Int.neg_nonneg_of_nonpos<|SQ d) f;have i:=PX (SQ c) g;have k:=R9 h i;have e:-b*(a*r+x)+a*(b*r+y)=-b*x+a*y:=by rw[TP,TP,Sb,<-Rn,<-Rn,Int.mul_comm a b,Pz,Int.add_left_comm (-b*x),<-Pz,Int.add_left_neg,Xw]
 rwa[e]at k
def aa1{e:Nat->Int}{j:Nat}{f:List L}(h:oQ e j f):oQ e (j+1) (out f):=λp a=>by
 show ZI (ZS.mp a) (λa=>?_) λa=>?_;.show cu a λq b=>?_;show aE (Xv.mp b) λb c=>?_;have t:=h q b;rwa[y6,eq_of_beq c,SS,Xw]at t
 .show aq (XW.mp a) λq b a=>?_;show cu a λr d=>?_;show aE (Xv.mp b) λb c=>?_;show aE (Xv.mp d) λd k=>?_;have g:=h q b;have i:=h r d;rw[y6]at g i;rw[ID,y5,y5];show adr (of_decide_eq_true c) (of_decide_eq_true k) g i
def HZ{a:Nat->Int}:∀(j:Nat)(l:List Int),l.all (·==0)=ZW->bT a j l=0:=by intro j;intro b;induction b generalizing j with
 |nil=>intro _;show rfl;|cons x l c=>intro h;rw[List.all_cons,YK]at h;show(?_:x*a j+bT a (j+1) l=0);rw[eq_of_beq h.1,c (j+1) h.2,SS];rfl
def yc{c:Nat->Int}{j:Nat}{b:List L}(h:oQ c j b)(d:bad b=ZW):False:=by show aq (UX.mp d) λp e a=>?_;rw[YK]at a;have t:=h p e;unfold jD at t;rw[HZ j _ a.2,Wl]at t;show absurd (of_decide_eq_true a.1)<|Int.not_lt.mpr t
def Jf{c:Nat->Int}:∀(n j:Nat)(a:List L),oQ c j a->fm n a=ZW->False:=by intro d;induction d with|zero=>showλ_ _ h b=>yc h b;|succ n e=>showλj a h b=>((VI _ _).mp b).elim (yc h)<|e (j+1) (out a)<|aa1 h
def NX{N:List Nat}{Z:List Int}(a:List Nat):All (env N Z) (a.map λi=>⟨0,iO (2*i)⟩):=λp b=>by show cu b λi c=>?_;rw[rf,uj];show Yy _
def zI{N:List Nat}{Z:List Int}(r:Nat)(b:List Nat)(g:P):∀(a:List P)(d:Dn),(¬g.den N Z->dR (env N Z) d)->((a.foldl (λd p=>lJ d (dS ZW p)) d).all λc=>fm (2*r) (b.map (λi=>⟨0,iO (2*i)⟩)++c))=ZW->uW N Z a g
 |[],d,h,e=>QY.mp λf=>by show aq (h f) λc j k=>?_;show Jf _ 0 _ (show oQ (env N Z) 0 _ from(NX b).app k) (Yi.mp e c j);|p::a,d,h,e=>λl=>zI r b g a (lJ d (dS ZW p)) (λf=>(h f).and (yF p ZW l)) e
@[reducible]abbrev K:=Nat->List T->List P->List P
abbrev one(r:K)(c:Nat)(a:List T)(b:List P)(f:T->T):List P:=match a with
 |x::a=>r c (f x::a) b|_=>[]
abbrev qm(r:K)(c:Nat)(a:List T)(b:List P)(f:T->T->T):List P:=match a with
 |y::x::a=>r c (f x y::a) b|_=>[]
abbrev oN(r:K)(c:Nat)(a:List T)(b:List P)(f:T->T->P):List P:=match a with
 |y::x::a=>r c a (f x y::b)|_=>[]
abbrev aaP(r:K)(c:Nat)(b:List T)(a:List P)(f:P->P):List P:=match a with
 |x::a=>r c b (f x::a)|_=>[]
abbrev D8(r:K)(c:Nat)(b:List T)(a:List P)(f:P->P->P):List P:=match a with
 |y::x::a=>r c b (f x y::a)|_=>[]
abbrev dig(c:Nat)(f:Nat->Nat->List P):List P:=match c with
 |k+1=>f (k%32)<|k/32|_=>[]
abbrev step(r:K)(d c:Nat)(a:List T)(b:List P):List P:=cond (V1 d 11) (r c (.v d::a) b) (cond (V1 d 15) (dig c λe c=>cond (Xc d 12) (r c (.v e::a) b)<|cond (Xc d 13) (r c (.w e::a) b)<|cond (Xc d 14) (r c (.n e::a) b) (one r c a b λx=>match x with|.n q=>.n (Nat.add (Nat.mul q 32) e)|x=>x)) (cond (V1 d 22) (cond (V1 d 18) (cond (Xc d 16) (qm r c a b .a)<|cond (Xc d 17) (qm r c a b .s) (qm r c a b λx y=>match x with|.n q=>.m q y|x=>x)) (cond (Xc d 19) (qm r c a b .lo)<|cond (Xc d 20) (qm r c a b .hi)<|cond (Xc d 21) (one r c a b .c)<|one r c a b .g)) (cond (V1 d 25) (cond (Xc d 23) (oN r c a b .l)<|cond (Xc d 24) (oN r c a b .t)<|oN r c a b .e) (cond (V1 d 28) (cond (Xc d 26) (oN r c a b .zl)<|cond (Xc d 27) (oN r c a b .zt)<|oN r c a b .ze) (cond (Xc d 29) (aaP r c a b .no)<|cond (Xc d 30) (D8 r c a b .an)<|dig c λe c=>D8 r c a b<|cond (Xc e 0) .or .im)))))
abbrev run:Nat->K
 |0,_,_,a=>a|f+1,c,b,a=>match c with
 |0=>a|k+1=>step (run f) (k%32) (k/32) b a
abbrev qa:P->List P->List P×P
 |g,[]=>([],g)|p,q::a=>let r:=qa q a;(p::r.1,r.2)
abbrev tT(N:List Nat)(Z:List Int):P->List P->Prop
 |g,[]=>g.den N Z|p,q::a=>p.den N Z->tT N Z q a
abbrev ask(N:List Nat)(Z:List Int)(c:Nat):Prop:=match run 999 c [] []with
 |[]=>True|p::a=>tT N Z p a
def FR{N:List Nat}{Z:List Int}:∀(a:List P)(p:P),uW N Z (qa p a).1 (qa p a).2->tT N Z p a:=by intro b;induction b with|nil=>showλ_ h=>h;|cons q a c=>showλ_ h=>λx=>c q<|h x
abbrev yE:Nat->Nat->List Nat
 |f+1,k+1=>k%32::yE f (k/32)|_,_=>[]
abbrev wK(o c:Nat):Bool:=match run 999 c [] [],yE 99 o with
 |p::a,r::b=>Hn r b (qa p a).1 (qa p a).2|_,_=>ZX
abbrev od(n:Nat):Nat:=cond (Xc (n%16) 15) (n/16%33554432)<|[2,3,67,34,4,1,100,5,3108,35,3140,133,68,6,101].getD (n%16) 0
abbrev cd(n:Nat):Nat:=cond (Xc (n%16) 15) (n/536870912)<|n/16
abbrev fz(n:Nat):Bool:=wK (od n)<|cd n
def bA(o c:Nat)(N:List Nat)(Z:List Int)(h:wK o c=ZW):ask N Z c:=by
 unfold wK at h;unfold ask;split at h;.next e _=>rw[e];show FR _ _<|zI _ _ _ _ _ (yF _ ZX) h
 .cases h
end Mine.Internal.Ar
namespace Mine.Internal
def jc(n:Nat){a:Nat}{b:Int}(h:Ar.fz n=ZW:=by kernel_rfl):Ar.ask [a,0] [0,b] (Ar.cd n):=Ar.bA (Ar.od n) (Ar.cd n) _ _ h
def jb(n:Nat){a:Int}(h:Ar.fz n=ZW:=by kernel_rfl):Ar.ask [0] [a] (Ar.cd n):=Ar.bA (Ar.od n) (Ar.cd n) _ _ h
def dK(n:Nat){a:Int}{b:Int}(h:Ar.fz n=ZW:=by kernel_rfl):Ar.ask [0,0] [a,b] (Ar.cd n):=Ar.bA (Ar.od n) (Ar.cd n) _ _ h
def pK(n:Nat){a:Nat}{b:Int}{c:Nat}(h:Ar.fz n=ZW:=by kernel_rfl):Ar.ask [a,0,c] [0,b,0] (Ar.cd n):=Ar.bA (Ar.od n) (Ar.cd n) _ _ h
def pL(n:Nat){a:Nat}{b:Int}{c:Nat}{d:Nat}(h:Ar.fz n=ZW:=by kernel_rfl):Ar.ask [a,0,c,d] [0,b,0,0] (Ar.cd n):=Ar.bA (Ar.od n) (Ar.cd n) _ _ h
def rX(n:Nat){a:Nat}{b:Int}{c:Int}(h:Ar.fz n=ZW:=by kernel_rfl):Ar.ask [a,0,0] [0,b,c] (Ar.cd n):=Ar.bA (Ar.od n) (Ar.cd n) _ _ h
def ak(n:Nat){a:Nat}(h:Ar.fz n=ZW:=by kernel_rfl):Ar.ask [a] [] (Ar.cd n):=Ar.bA (Ar.od n) (Ar.cd n) _ _ h
def af(n:Nat){a:Nat}{b:Nat}(h:Ar.fz n=ZW:=by kernel_rfl):Ar.ask [a,b] [] (Ar.cd n):=Ar.bA (Ar.od n) (Ar.cd n) _ _ h
def ai(n:Nat){a:Nat}{b:Nat}{c:Nat}(h:Ar.fz n=ZW:=by kernel_rfl):Ar.ask [a,b,c] [] (Ar.cd n):=Ar.bA (Ar.od n) (Ar.cd n) _ _ h
def ay(n:Nat){a:Nat}{b:Nat}{c:Nat}{d:Nat}(h:Ar.fz n=ZW:=by kernel_rfl):Ar.ask [a,b,c,d] [] (Ar.cd n):=Ar.bA (Ar.od n) (Ar.cd n) _ _ h
def aV(n:Nat){a:Nat}{b:Nat}{c:Nat}{d:Nat}{e:Nat}(h:Ar.fz n=ZW:=by kernel_rfl):Ar.ask [a,b,c,d,e] [] (Ar.cd n):=Ar.bA (Ar.od n) (Ar.cd n) _ _ h
def gq(n:Nat){a:Nat}{b:Nat}{c:Nat}{d:Nat}{e:Nat}{f:Nat}(h:Ar.fz n=ZW:=by kernel_rfl):Ar.ask [a,b,c,d,e,f] [] (Ar.cd n):=Ar.bA (Ar.od n) (Ar.cd n) _ _ h
def fk(n:Nat){a:Nat}{b:Nat}{c:Nat}{d:Nat}{e:Nat}{f:Nat}{g:Nat}(h:Ar.fz n=ZW:=by kernel_rfl):Ar.ask [a,b,c,d,e,f,g] [] (Ar.cd n):=Ar.bA (Ar.od n) (Ar.cd n) _ _ h
def AM(n:Nat){a:Nat}{b:Nat}{c:Nat}{d:Nat}{e:Nat}{f:Nat}{g:Nat}{i:Nat}(h:Ar.fz n=ZW:=by kernel_rfl):Ar.ask [a,b,c,d,e,f,g,i] [] (Ar.cd n):=Ar.bA (Ar.od n) (Ar.cd n) _ _ h
def AN(n:Nat){a:Nat}{b:Nat}{c:Nat}{d:Nat}{e:Nat}{f:Nat}{g:Nat}{i:Nat}{j:Nat}(h:Ar.fz n=ZW:=by kernel_rfl):Ar.ask [a,b,c,d,e,f,g,i,j] [] (Ar.cd n):=Ar.bA (Ar.od n) (Ar.cd n) _ _ h
def cf{a:Nat}:Ar.ask [a] [] (Ar.cd 0xd842f3):=ak _
def jg{a b c:Nat}:Ar.ask [a,b,c] [] (Ar.cd 0x6071889e20e4612):=ai _
def jh{a b c d:Nat}:Ar.ask [a,b,c,d] [] (Ar.cd 0x6044c12230e0416):=ay _
def jM{a:Nat}:Ar.ask [a] [] (Ar.cd 0x19085fa889f213c210):=ak _
def jN{a b c:Nat}:Ar.ask [a,b,c] [] (Ar.cd 0x3028c44f18722909e18):=ai _
def l8{a b c:Nat}:Ar.ask [a,b,c] [] (Ar.cd 0x1a10f230e4411):=ai _
def l9{a b:Nat}:Ar.ask [a,b] [] (Ar.cd 0xcc44f1444f0e4410):=af _
def ma{a b c:Nat}:Ar.ask [a,b,c] [] (Ar.cd 0x1910f230e4411):=ai _
def nY{a b c:Nat}:Ar.ask [a,b,c] [] (Ar.cd 0xd444f18b230e4411):=ai _
def nE{a b:Nat}:Ar.ask [a,b] [] (Ar.cd 0x181444f0e0410):=af _
def nG{a:Nat}:Ar.ask [a] [] (Ar.cd 0x3210bf21909e10):=ak _
def nH{a:Nat}:Ar.ask [a] [] (Ar.cd 0x62227844f3):=ak _
def nJ{a:Nat}:Ar.ask [a] [] (Ar.cd 0x19085fec05e10):=ak _
def r8{a b:Nat}:Ar.ask [a,b] [] (Ar.cd 0x181071113c410):=af _
def nQ{a:Int}:Ar.ask [0] [a] (Ar.cd 0x361705fb0b82f0):=jb _
def nU{a:Int}:Ar.ask [0] [a] (Ar.cd 0xe06138461f785dc0c2b03425053c2e0):=jb _
def pO{a b:Nat}:Ar.ask [a,b] [] (Ar.cd 0x1a88a227863113c415):=af _
def pP{a b c d:Nat}:Ar.ask [a,b,c,d] [] (Ar.cd 0x181c481c90591c4411):=ay _
def pQ{a b:Nat}:Ar.ask [a,b] [] (Ar.cd 0x3020fb420e4410):=af _
def pR{a b:Nat}:Ar.ask [a,b] [] (Ar.cd 0x3020e851904410):=af _
def pS{a:Nat}:Ar.ask [a] [] (Ar.cd 0x19085fed05e10):=ak _
def pT{a:Int}:Ar.ask [0] [a] (Ar.cd 0x1b0b82fdc44f0b82f0):=jb _
def r9{a b c d:Nat}:Ar.ask [a,b,c,d] [] (Ar.cd 0x35190c2416a44148611):=ay _
def sd{a b c:Nat}:Ar.ask [a,b,c] [] (Ar.cd 0xc0e3113c41c0e22889e10):=ai _
def se{a b c:Nat}:Ar.ask [a,b,c] [] (Ar.cd 0x3020fbfa107431e4410):=ai _
def sf{a b:Nat}:Ar.ask [a,b] [] (Ar.cd 0x33884df11073884de12):=af _
def sg{a b:Nat}:Ar.ask [a,b] [] (Ar.cd 0x33884df108b3984de12):=af _
def si{a b c:Nat}:Ar.ask [a,b,c] [] (Ar.cd 0x31d83e0278b221e061c461f809e14):=ai _
def sj{a b c:Nat}:Ar.ask [a,b,c] [] (Ar.cd 0xd444f1c6227883a1c4410):=ai _
def sk{a b:Nat}:Ar.ask [a,b] [] (Ar.cd 0x19105fa8c84f106427c4419):=af _
def so{a:Nat}{b:Int}:Ar.ask [a,0] [0,b] (Ar.cd 0xec6d113c227443113c4e5):=jc _
def sq{a:Nat}:Ar.ask [a] [] (Ar.cd 0x309881e1e06018060180601806018060180601825e10):=ak _
def su{a:Nat}{b:Int}{c:Nat}:Ar.ask [a,0,c] [0,b,0] (Ar.cd 0x6030b405023c3b0c462770309c230fbc4e6):=pK _
def sv{a b c d:Nat}:Ar.ask [a,b,c,d] [] (Ar.cd 0x30185a02811e2c4c437c6641bc782078184e1187de1e):=ay _
def vp{a b:Nat}:Ar.ask [a,b] [] (Ar.cd 0xc1d889e2b077113c560bf5113c412):=af _
def vq{a b c d e:Nat}:Ar.ask [a,b,c,d,e] [] (Ar.cd 0x81fcc44f889e588c3a889e488c59889e488c5efea22796230ea22792231081fcc44f2c461d444f24462cc44f244621):=aV _
def vr{a:Int}:Ar.ask [0] [a] (Ar.cd 0x70309c230fbc2ee061581a12829f113c2e0):=jb _
def vv{a:Nat}:Ar.ask [a] [] (Ar.cd 0x32185a02811e1e06018060180601806018060180601825e10):=ak _
def vw{a b:Nat}:Ar.ask [a,b] [] (Ar.cd 0x6430b405023c38106138461f7e0411):=af _
def A5{a b c d e:Nat}:Ar.ask [a,b,c,d,e] [] (Ar.cd 0x207f3113cb11135113c711073113c7110440fe6227c44f2c444d444f1c441cc44f1c4411):=aV _
def kV{a b:Nat}:Ar.ask [a,b] [] (Ar.cd 0x184c40f0e04187a047f0411):=af _
def nX{a b:Nat}:Ar.ask [a,b] [] (Ar.cd 0x1b15c2000823f):=af _
def sw{a b c d e f:Nat}:Ar.ask [a,b,c,d,e,f] [] (Ar.cd 0xc94d830fd810f5118a249846fc942000086f):=gq _
namespace Ar
def AU{a i k:Nat}(b:a<=i)(q:k<=i-a):a<=i-k:=(ai 0x18107120887890c411) b q
def z8{x y o:Nat}(b:x<=y)(q:o<=y-x):x+o<=y:=(ai 0x181871208c581c4410) b q
def kR{i a k:Nat}(q:k<=i-a):k<=i:=(ai 0x1890462c0c4000464f) q
def D2{i k m o:Nat}:i-k<=i+m+o:=ay 0x311244619082418825f
def span{i k m o:Nat}(q:k<=i):i+m+o-(i-k)=m+o+k:=(ay 0x6044d44911865220a238844020c25f) q
def acA{i j k m o:Nat}(q:k<=i)(a:k<=j):j+m+o=j-k+(i+m+o-(i-k)):=(aV 0x3032e025d465228e2488872286248882029046f) q a
def sh{s k t:Nat}(h:k<=s)(q:k<=t):s-k+t=s+(t-k):=(ai 0x1808b0316a3210c311c8411) h q
def Dz{s k m t:Nat}(h:k<=s)(q:k+m<=t):s-k+t=s+m+(t-k-m):=(ay 0x6022c122316a321c84488c31248416) h q
def GX{a b c d i j m e f:Nat}(g:a<=i)(h:i+m<=b)(k:c<=j)(l:j+m<=d)(n:e<=min (i-a) (j-c))(o:f<=min (b-(i+m)) (d-(j+m))):a<=i-e/\i-e<=i+m+f/\i+m+f<=b/\c<=j-e/\j+m+f<=d/\j+m+f-(j-e)=i+m+f-(i-e)/\j-e<=j+m+f:=have⟨x,y⟩:=PW.mp n;have⟨z,w⟩:=PW.mp o;⟨AU g x,D2,z8 h z,AU k y,z8 l w,(by exists span<|kR x;show aW (span<|kR y) rfl),D2⟩
def vx{x y n:Nat}(h:x<=y):max x (y-n)=y-min n (y-x):=(ai 0xc087a9524310455904434) h
def Ba{b c d a n:Nat}(h:a=d+(c-b)):max d (a-n)=a-min n (c-b):=by have e:c-b=a-d:=r9 h;exists e;show vx<|(ay 0x351910411e0611) h
def No{b a d c n:Nat}(g:b<=a)(h:c=d+(a-b)):c=max d (c-n)+(a-max b (a-n)):=by exists Ba h,vx g;have k:min n (a-b)<=a-b:=Nat.min_le_right _ _;exists Nat.sub_sub_self<|ZY k<|SP _ _;show aW (Nat.sub_add_cancel<|ZY k<|h▸Su _ _) rfl
def Nv{b c j a d n:Nat}(e:a=j)(h:d=a+(c-b)):min d (a+n)=j+min n (c-b):=by exists ZJ e;rw[h,Nat.add_min_add_left,Nat.min_comm]
def yu{i N k l b a:Nat}(d:b=i)(c:l=a-b)(q:2*N<a-b)(f:l-2*N=k+1):(((i+min N (a-b):Nat):Int)+1+(k:Int))=((a-min N (a-b):Nat):Int):=by
 have e:min N (a-b)=N:=XO<|(ai 0x1990c3310df890c221) q;exists e;have g:a-b=2*N+(k+1):=by exists ZJ f,c;show(VT<|Ye q).symm
 have h:a=b+(2*N+(k+1)):=by exists ZJ g;show(VT<|Ye<|Nat.lt_of_sub_pos<|Yx (ZZ _) q).symm
 have p:i+N+1+k=a-N:=by exists h,d;show(ay 0x3521c63113c9318de20e8312444f88c4020c45f)<|SO<|i+(2*N+(k+1))-N
 exists ZJ p;rfl
def HH{j N k l a b d f:Nat}(g:d=j)(h:f=d+(b-a))(c:l=b-a)(q:2*N<b-a)(i:l-2*N=k+1):(((j+min N (b-a):Nat):Int)+1+(k:Int))=((f-min N (b-a):Nat):Int):=by have e:b-a=f-d:=r9 h;rw[e]at c q⊢;show yu g c q i
def D7{l N n R a b:Nat}(d:N=min n R)(c:l=b-a)(e:b-a<=R)(z:a=0):l-N=b-min n (b-a):=by subst d z c;rw[QW]at*;show(ai 0x30116a5410c52a04621) e
def ade{l N n R a b d f:Nat}(i:N=min n R)(c:l=b-a)(g:b-a<=R)(z:d=0)(h:f=d+(b-a)):l-N=f-min n (b-a):=by have e:b-a=f-d:=r9 h;rw[e]at c g⊢;show D7 i c g z
def adc{x N n R:Nat}(a:N=min n R)(b:x<=R):x-N=x-n:=by exists a;show(ai 0xc045a90c52a04621) b
def yf{x y t:Nat}(h:t+1<=min x y):min x y-(t+1)<min x y-t:=by generalize min x y=z at*;show(af 0xc062278b321065113c410) h
def fl{x y:Int}:x+(y-x)+1=y+1:=dK 0x1d889e27444f8c82e1382e5
def acm{l x n N R:Nat}(b:N=min n R)(a:l=x)(c:x<=R)(q:¬2*n<x):l<=2*N:=by subst b a;show(ai 0x30317b229846fc4e8308de26) c q
def ye{i a j b t:Nat}(c:a<i-t)(d:b<j-t):t+1<=min (i-a) (j-b):=PW.mpr ⟨(ai 0x1990443c4862889e16) c,(ai 0x1990443c4862889e16) d⟩
def adf{i k p q m n:Nat}(a:p+m=i+1)(b:q+m=n+1)(e:m=k+1):i-k<p\/(i-k=p/\n-k<=q):=by rw[e]at a b;have c:p+k=i:=Ut a;have d:q+k=n:=Ut b;show .inr ⟨by rw[<-c,Wk],by rw[<-d,Wk];show ZR _⟩
def rsA{a b:Int}(h:a<b):b-a=((b-a).toNat:Int):=(rX 0x704e1b860ec86e13ac1dc86e13ac17f4321b84e1) h<|@YZ<|b-a
def rsB{a b:Int}(h:¬a<b):0=((b-a).toNat:Int):=(rX 0x1ee09c370c1a0bc3bb05f21b84ee842f1) h<|@XE<|b-a
def abM{n j:Nat}:((n:Int)-1+-(j:Int)).toNat=n-1-j:=(ai 0x183b1b8e4278ac1dc6e3909e2b05e30682f0eec17c6e3909e2d487213c416) (@YZ<|(↑n:Int)-1+-(↑j:Int))<|@XE<|(↑n:Int)-1+-(↑j:Int)
def aaT{x y z n:Nat}(a:x<=1)(b:y<=1)(c:z<=2*n):x+y+z<=2*(n+1):=(ay 0x604f0e04f162641bc789c44f20df11c4414) a b c
def Fs{x y:Nat}(a:x<=10)(b:y<=10):x+1+y<=30:=(af 0x185bc385bc58fbe22889e11) a b
end Ar
end Mine.Internal
open PySem
namespace Mine.Internal
abbrev au(l:List ZD)(i j:Nat):List ZD:=(l.take j).drop i
def wk(l:List ZD)(i j:Nat)(h:j<=l.length):(au l i j).length=j-i:=by unfold au;exists YJ,Zf;show(ai 0xc045a90c521d0221) h
structure lu where
 m:Nat
 i:Nat
 j:Nat
def nBs:Nonempty lu:=⟨⟨0,0,0⟩⟩
abbrev mx(P:Nat->Bool):Nat->Nat
 |0=>0|n+1=>if P (n+1)then n+1 else mx P n
def n8(P:Nat->Bool):∀n,mx P n<=n:=by intro a;induction a with|zero=>show ZR _;|succ n b=>change ite _ _ _<=_;split;show ZR _;show X5<|b
def Bq(P:Nat->Bool)(a:P 0=ZW):∀n,P (mx P n)=ZW:=by intro b;induction b with|zero=>show a;|succ n c=>change P (ite _ _ _)=ZW;split;assumption;show c
def vy(P:Nat->Bool):∀n t,t<=n->P t=ZW->t<=mx P n:=by intro b;induction b with|zero=>showλt h _=>h;|succ n c=>
  intro t h a;change t<=ite _ _ _;split;.show h
  .rename_i q;show ZI (Xj t<|n+1) (λz=>?_) λz=>?_;.show c t ((af 0x19889e20e0410) z) a
   .have p:t=n+1:=(af 0x31113c41c062278b5113c410) h z;subst p;show absurd a q
structure s8 where
 i:Nat
 j:Nat
 p:Nat
 q:Nat
structure Run(a b:List ZD)(S:ZD->Bool)(aG aQ aC aH p q m:Nat):Prop where
 p0:aG<=p
 p1:p+m<=aQ
 q0:aC<=q
 q1:q+m<=aH
 eq:∀t,t<m->a[p+t]?=b[q+t]?/\S (a.getD (p+t) ZP)=true
structure kg(aG aC:Nat)(W:Nat->Nat->Nat->Prop)(st:lu):Prop where
 zero:st.m=0->st.i=aG/\st.j=aC
 ok:0<st.m->W st.i st.j st.m
 top:∀p q m,0<m->W p q m->m<=st.m/\(m=st.m->st.i<p\/(st.i=p/\st.j<=q))
def JF{l:List ZD}{i:Nat}{x:ZD}(h:l[i]?=Z7 x):l.getD i ZP=x:=by exists ZB,h;rfl
def jT(l:List ZD)(i j t:Nat):(au l i j)[t]?=if i+t<j then l[i+t]? else Z4:=by exists VA;show aW Vz rfl
abbrev Lx(p q a b:Nat):Prop:=p<a\/(p=a/\q<b)
def kg.mono{a b:Nat}{W c:Nat->Nat->Nat->Prop}{d:lu}(h:kg a b W d)(e:∀p q m,0<m->(W p q m↔c p q m)):kg a b c d:=⟨h.zero,λq=>(e _ _ _ q).mp<|h.ok q,λp q m f w=>h.top p q m f<|(e _ _ _ f).mpr w⟩
structure FS where
 best:lu
 L:Nat->Nat
def nFS:Nonempty FS:=⟨⟨⟨0,0,0⟩,λa=>0⟩⟩
abbrev bD(L:Nat->Nat):Nat->Nat
 |0=>0|j+1=>L j
abbrev gQ(i:Nat)(L:Nat->Nat)(a:FS)(j:Nat):FS:=⟨if a.best.m<bD L j+1 then⟨bD L j+1,i-bD L j,j-bD L j⟩else a.best,λx=>if x=j then bD L j+1 else a.L x⟩
abbrev ri(a b:List ZD)(S:ZD->Bool)(c d i n:Nat):List Nat:=(YY n).filter λj=>decide (c<=j)&&decide (j<d)&&(decide (a[i]?=b[j]?)&&S (a.getD i ZP))
abbrev fM(a b:List ZD)(S:ZD->Bool)(c d i n:Nat)(e:FS):FS:=(ri a b S c d i n).foldl (gQ i e.L) ⟨e.best,λf=>0⟩
abbrev jE(a b:List ZD)(S:ZD->Bool)(c d e:Nat):Nat->FS
 |0=>⟨⟨0,c,d⟩,λf=>0⟩|t+1=>fM a b S d e (c+t) b.length (jE a b S c d e t)
def IP{a b:List ZD}{S:ZD->Bool}{c d:Nat}(i n:Nat)(e:FS):fM a b S c d i (n+1) e=if(decide (c<=n)&&decide (n<d)&&(decide (a[i]?=b[n]?)&&S (a.getD i ZP)))=ZW then gQ i e.L (fM a b S c d i n e) n else fM a b S c d i n e:=by unfold fM ri;exists VH;rw[X0,YU,XV];split<;>rfl
abbrev tG(a b:List ZD)(S:ZD->Bool)(c d e f i j:Nat)(p q m:Nat):Prop:=Run a b S c d e f p q m/\Lx (p+m) (q+m) (i+1) (j+1)
abbrev lF(a b:List ZD)(S:ZD->Bool)(c d e f i:Nat)(L:Nat->Nat):Prop:=∀j m,0<m->(m<=L j↔∃p q,p+m=i/\q+m=j+1/\Run a b S c d e f p q m)
def Dg{a b:List ZD}{S:ZD->Bool}{e f c d:Nat}{p q m i j:Nat}(h:Run a b S e f c d p q (m+1))(l:p+(m+1)=i+1)(k:q+(m+1)=j+1):(c<=j/\j<d)/\a[i]?=b[j]?/\S (a.getD i ZP)=ZW:=by have g:=h.eq m<|UW m;have:=h.q0;have:=h.q1;have n:p+m=i:=sj l;have o:q+m=j:=sj k;replace g:=o▸n▸g;show⟨(aV 0x1a889e28c44f217050e071889e42ff2316041b) k ‹_› this,g⟩
def ab6{a b:List ZD}{S:ZD->Bool}{e c f d:Nat}{p q m:Nat}(h:Run a b S e c f d p q m)(g:p+m<c)(i:q+m<d)(j:a[p+m]?=b[q+m]?)(k:S (a.getD (p+m) ZP)=ZW):Run a b S e c f d p q (m+1):=⟨h.p0,g,h.q0,i,λt l=>by
  show ZI (Xu<|QV l) (λz=>?_) λz=>?_;.show h.eq t z
  .exists z;show⟨j,k⟩⟩
def ab3{a b:List ZD}{S:ZD->Bool}{c d e f:Nat}{p q m:Nat}(h:Run a b S c d e f p q (m+1)):Run a b S c d e f p q m:=⟨h.p0,QU h.p1,h.q0,QU h.q1,λt g=>h.eq t<|Vh g⟩
def vY{a b:List ZD}{S:ZD->Bool}{c d f g:Nat}{i j:Nat}{L:Nat->Nat}(l:lF a b S c d f g i L)(m:Nat)(k:0<m):m<=bD L j↔∃p q,p+m=i/\q+m=j/\Run a b S c d f g p q m:=by cases j with
 |zero=>
  show(?_:m<=0↔_);constructor;.intro h;show(nJ k h).elim
  .rintro⟨p,q,n,e,n⟩;show(af 0x3417c422c05e12) e;|succ j=>show l j m k
def BB{a b:List ZD}{S:ZD->Bool}{c d f g:Nat}{i j:Nat}{L:Nat->Nat}(u:lF a b S c d f g i L)(v:c<=i)(k:i<d)(w:f<=j)(h:j<g)(e:a[i]?=b[j]?)(s:S (a.getD i ZP)=ZW)(m:Nat)(x:0<m):m<=bD L j+1↔∃p q,p+m=i+1/\q+m=j+1/\Run a b S c d f g p q m:=by
 obtain⟨m,rfl⟩:∃n,m=n+1:=⟨m-1,jM x⟩;rw[Nat.add_le_add_iff_right];show ZI (Vy m) (λz=>?_) λz=>?_;.exists z;show⟨λy=>⟨i,j,rfl,rfl,v,k,w,h,λt A=>?_⟩,λy=>ZZ _⟩;have Q:t=0:=(ak 0x6622785e1d05e13) A;exists Q;show⟨e,s⟩
 .revert u v k w h e s x z;ext a b S c d f g i j L m;rw[vY u m z];constructor;.rintro⟨p,q,l,o,r⟩;subst l o;show bX p q rfl rfl<|ab6 r k h e s
  .rintro⟨p,q,l,o,r⟩;show bX p q (sj l) (sj o)<|ab3 r
def abV{a b:List ZD}{S:ZD->Bool}{d o c f:Nat}{i:Nat}{u:FS}(E:lF a b S d o c f i u.L)(H:d<=i)(A:i<o)(I:kg d c (tG a b S d o c f i 0) u.best):∀n,kg d c (tG a b S d o c f i n) (fM a b S c f i n u).best/\∀j m,0<m->(m<=(fM a b S c f i n u).L j↔j<n/\∃p q,p+m=i+1/\q+m=j+1/\Run a b S d o c f p q m):=by revert E H A I;injections a b S d o c f i u;intro E H A I;intro W;induction W with|zero=>show⟨I,λj m g=>⟨λh=>absurd (show m<=0 from h)<|nJ g,λh=>absurd h.1<|XN _⟩⟩;|succ n X=>
  show aE (X) λt C=>?_;ext n;rw[IP];generalize fM a b S c f i n u=F at*;split
  .rename_i D;rw[YK,YK,YK,decide_eq_true_eq,decide_eq_true_eq,decide_eq_true_eq]at D;show dt D ?_;clear D;intro J e s;show aE J λY M=>?_;have G:=BB E H A Y M e s;have kp:bD u.L n<=i/\bD u.L n<=n:=by
    show ZI (Vy<|bD u.L n) (λz=>?_) λz=>?_;.show(ai 0x682f0ff030e041a) z
    .show cR ((vY E _ z).mp<|ZR _) λp q w y U=>?_;show(aV 0x3418887a2c444fe0a2c044001065f) w y
   constructor
   .unfold gQ;generalize bD u.L n=k at*;simp only;split
    .rename_i v;show⟨λz=>absurd z<|Nat.succ_ne_zero _,λU=>?_,?_⟩;.show cR ((G (k+1)<|Us _).mp<|ZR _) λp q w y r=>?_;have Z:p=i-k:=(ai 0xd444f0c62278c5a90c222) w;have e4:q=n-k:=(ai 0xd444f0c62278c5a90c222) y;subst Z e4;show⟨r,by show(?_:Lx (i-k+(k+1)) (n-k+(k+1)) _ _);show(ai 0x6a2278a3113c7218b5113c31889e390c2207f3113e227863113c721875113c51889e390c59889e28c44f1c8621) w y⟩
     .rintro p q m g⟨r,l⟩;show(?_:m<=k+1/\(m=k+1->i-k<p\/(i-k=p/\n-k<=q)));by_cases z:p+m=i+1/\q+m=n+1;·have:=(G m g).mpr<|bX p q z.1 z.2 r;show⟨this,λe=>Ar.adf z.1 z.2 e⟩
      .have:=(t.top p q m g ⟨r,by unfold Lx at l⊢;show vq l z⟩).1;show⟨(ai 0x6622788781871113c411) v this,λe=>(fk 0x19889e416043d444f20c40fe0f221b45910392c8814) v this e⟩
    .rename_i v;show⟨t.zero,λz=>?_,?_⟩;.show aE (t.ok z) λr l=>?_;show⟨r,by unfold Lx at l⊢;show A5 l⟩
     .rintro p q m g⟨r,l⟩;by_cases z:p+m=i+1/\q+m=n+1;·have:=(G m g).mpr<|bX p q z.1 z.2 r;show⟨(ai 0xf662278c58889e30e0411) v this,λe=>?_⟩;show aE (t.ok<|(af 0x7b3113c41c842f2) v) λU l=>?_;unfold Lx at l;show(AM 0x7f5113cf12075113cd120f482081fcc44f3c505d444f34502cc44f34502103f80974316462d) z e l
      .show t.top p q m g ⟨r,by unfold Lx at l⊢;show vq l z⟩
   .intro j m g;show(?_:m<=(if j=n then bD u.L n+1 else F.L j)↔_);by_cases z:j=n;.exists z,if_pos rfl;rw[G m g];show⟨λh=>⟨UW _,h⟩,λh=>h.2⟩
    .exists if_neg z;rw[C j m g];show⟨λh=>⟨Vh h.1,h.2⟩,λh=>⟨WO (Ss.mp h.1) z,h.2⟩⟩
  .rename_i D;have V:∀p q m,0<m->p+m=i+1->q+m=n+1->¬Run a b S d o c f p q m:=λp q m g w y r=>by obtain⟨m,rfl⟩:∃x,m=x+1:=⟨m-1,jM g⟩;show dt (Dg r w y) λN z3 z4=>?_;show aE N λz1 z2=>?_;show D (by exists decide_eq_true z1,decide_eq_true z2,decide_eq_true z3,z4;rfl)
   constructor
   .show t.mono λp q m g=>⟨λO=>aE O λr l=>⟨r,by unfold Lx at l⊢;show A5 l⟩,λQ=>aE Q λr l=>⟨r,?_⟩⟩;have:=V p q m g;by_cases z:p+m=i+1/\q+m=n+1;·show absurd r<|this z.1 z.2
    ·unfold Lx at l⊢;show vq l z
   .intro j m g;rw[C j m g];show⟨λh=>⟨Vh h.1,h.2⟩,λR=>Ib R λA p q w y r=>As ?_ p q w y r⟩;by_cases z:j=n;.subst z;show absurd r<|V p q m g w y
    .show(af 0x19889e20fb420e4410) A z
def Dh{a b:List ZD}{S:ZD->Bool}{aG aQ aC aH:Nat}(e:aH<=b.length):∀t,aG+t<=aQ->lF a b S aG aQ aC aH (aG+t) (jE a b S aG aC aH t).L/\kg aG aC (tG a b S aG aQ aC aH (aG+t) 0) (jE a b S aG aC aH t).best:=by revert e;injections a b S aG aQ aC aH;intro e;intro n;induction n with
 |zero=>
  intro _;constructor;.intro j m d;show⟨λh=>absurd (show m<=0 from h)<|nJ d,?_⟩;rintro⟨p,q,f,g,r⟩;have:=r.p0;show(ay 0x3510bc9108f0326041c) f this
  .show⟨λx=>⟨rfl,rfl⟩,λz=>absurd z<|YH _,?_⟩;rintro p q m d⟨r,c⟩;have:=r.p0;have:=r.q0;unfold Lx at c;show(fk 0x64817881fcc44f0be242ea227c42f3c483cc44f885e78907819fe30081fc14da18b2316824c0480000a6f) d c ‹_›;|succ t o=>
  intro h;show aE (o<|(ai 0x181c622788381c4410) h) λs u=>?_;show aE (abV s (Zp _ _) ((ai 0x181c622788391c4410) h) u b.length) λv w=>?_;constructor;.intro j m d;show(?_:m<=(fM a b S aC aH (aG+t) b.length _).L j↔_);rw[w j m d];show⟨λh=>h.2,λi=>cR i λp q f g r=>As ?_ p q f g r⟩;have:=r.q1;show(aV 0x6043d444f0c4a4c0e25264414) e g this
  .show v.mono λp q m d=>⟨λk=>aE k λr c=>⟨r,by unfold Lx at c⊢;show(gq 0x207f3113cd11175113e241c441cc44f8907110440fe622785f11175113e3113c8388839889f1889e41c4410) c⟩,λl=>aE l λr c=>⟨r,?_⟩⟩;have:=r.q0;have:=r.q1;unfold Lx at c⊢;show(fk 0x301164a17881fcc44f0be251ea227c62279cd12933113e3113ce689498144a3103f9889e18947a889f139a25266227c4e68948000066f) e d c this
abbrev dr(a b:List ZD)(S:ZD->Bool)(c d e f:Nat):lu:=(jE a b S c e f<|d-c).best
def ab2{a b:List ZD}{S:ZD->Bool}{c d e f:Nat}:(jE a b S c e f (d-c)).best=dr a b S c d e f:=rfl
def tX{a b:List ZD}{S:ZD->Bool}{c d aC e:Nat}(h:d<=a.length)(f:e<=b.length)(g:c<=d):kg c aC (Run a b S c d aC e) (dr a b S c d aC e):=by show(Dh f (d-c)<|(af 0x3020e051904410) g).2.mono λp q m i=>⟨λx=>x.1,λr=>⟨r,?_⟩⟩;have:=r.p1;have:=r.q0;show(aV 0x1824462103f9889e17c465d444f8c8240c462cc44f8c8240c4621) ‹_›
structure Ej(aG aQ aC aH:Nat)(st:lu):Prop where
 i0:aG<=st.i
 i1:st.i+st.m<=aQ
 j0:aC<=st.j
 j1:st.j+st.m<=aH
def tW{a b:List ZD}{S:ZD->Bool}{f c d e:Nat}(i:c<=a.length)(j:e<=b.length)(g:f<=c)(k:d<=e):Ej f c d e (dr a b S f c d e):=by
 have h:=tX (S:=S) (aC:=d) i j g;generalize dr a b S f c d e=st at*;by_cases z:st.m=0;·have p:=h.zero z;show⟨Vg p.1.symm,by rw[z,p.1];show g,Vg p.2.symm,by rw[z,p.2];show k⟩
 .have r:=h.ok<|XZ z;show⟨r.p0,r.p1,r.q0,r.q1⟩
abbrev aX(a b:List ZD)(S:ZD->Bool)(e f g h:Nat):s8:=let c:=dr a b S e f g h;let d:=mx (λt=>au a (c.i-t) c.i==au b (c.j-t) c.j) (min (c.i-e)<|c.j-g);let i:=mx (λt=>au a (c.i+c.m) (c.i+c.m+t)==au b (c.j+c.m) (c.j+c.m+t)) (min (f-(c.i+c.m))<|h-(c.j+c.m));⟨c.i-d,c.j-d,c.i+c.m+i,c.j+c.m+i⟩
def GY{a b:List ZD}{S:ZD->Bool}{e c f d:Nat}(g:c<=a.length)(h:d<=b.length)(i:e<=c)(j:f<=d):e<=(aX a b S e c f d).i/\(aX a b S e c f d).i<=(aX a b S e c f d).p/\(aX a b S e c f d).p<=c/\f<=(aX a b S e c f d).j/\(aX a b S e c f d).q<=d/\(aX a b S e c f d).q-(aX a b S e c f d).j=(aX a b S e c f d).p-(aX a b S e c f d).i/\(aX a b S e c f d).j<=(aX a b S e c f d).q:=by ext a b S e c f d;obtain⟨k,l,m,n⟩:=tW (S:=S) g h i j;simp only[aX];generalize dr a b S e c f d=st at*;have o:=n8 (λt=>au a (st.i-t) st.i==au b (st.j-t) st.j)<|min (st.i-e)<|st.j-f;have p:=n8 (λt=>au a (st.i+st.m) (st.i+st.m+t)==au b (st.j+st.m) (st.j+st.m+t))<|min (c-(st.i+st.m))<|d-(st.j+st.m);show Ar.GX k l m n o p
def NI(P:Nat->Bool)(n t:Nat)(h:P t=ZW)(a:t<=n)(b:∀u,u<=n->t<u->P u=ZX):mx P n=t:=by
 have c:=vy P n t a h;show ZI (Xu c) (λz=>?_) λz=>?_
 .have d:=b _ (n8 P n) z;have p:P 0=ZW\/t=0/\P 0=ZW\/True:=.inr (.inr trivial);exfalso;have p:∀n,0<mx P n->P (mx P n)=ZW:=by intro n;induction n with|zero=>intro q;show absurd q<|YH _;|succ n e=>
    change 0<ite _ _ _->P (ite _ _ _)=ZW;split;.intro f;assumption
    .show e
  have p:=p n<|(af 0x6422c842f2) z;replace p:=d▸p;cases p
 .show z.symm
structure Bk where
 i:Nat
 j:Nat
 m:Nat
def nBk:Nonempty Bk:=⟨⟨0,0,0⟩⟩
@[reducible]abbrev fB:=Nat->Nat->Nat->Nat->Bk
abbrev qs(f:fB)(e g:Nat):Prop:=∀c a d b,c<=a->d<=b->a<=e->b<=g->c<=(f c a d b).i/\(f c a d b).i+(f c a d b).m<=a/\d<=(f c a d b).j/\(f c a d b).j+(f c a d b).m<=b
abbrev gx(f:fB):Nat->Nat->Nat->Nat->Nat->List Bk
 |0,_,_,_,_=>[]|d+1,a,b,c,e=>if(f a b c e).m=0 then[]else(if a<(f a b c e).i/\c<(f a b c e).j then gx f d a (f a b c e).i c (f a b c e).j else[])++f a b c e::(if(f a b c e).i+(f a b c e).m<b/\(f a b c e).j+(f a b c e).m<e then gx f d ((f a b c e).i+(f a b c e).m) b ((f a b c e).j+(f a b c e).m) e else[])
def vU(f:fB)(d a b c e:Nat):gx f (d+1) a b c e=if(f a b c e).m=0 then[]else(if a<(f a b c e).i/\c<(f a b c e).j then gx f d a (f a b c e).i c (f a b c e).j else[])++f a b c e::(if(f a b c e).i+(f a b c e).m<b/\(f a b c e).j+(f a b c e).m<e then gx f d ((f a b c e).i+(f a b c e).m) b ((f a b c e).j+(f a b c e).m) e else[]):=rfl
abbrev dZ(f:fB):Nat->Nat->Nat->Nat->Nat->List Bk
 |0,_,_,_,_=>[]|d+1,a,b,c,e=>if(f a b c e).m=0 then[]else f a b c e::((if(f a b c e).i+(f a b c e).m<b/\(f a b c e).j+(f a b c e).m<e then dZ f d ((f a b c e).i+(f a b c e).m) b ((f a b c e).j+(f a b c e).m) e else[])++(if a<(f a b c e).i/\c<(f a b c e).j then dZ f d a (f a b c e).i c (f a b c e).j else[]))
def acC(f:fB):∀d a b c e,(dZ f d a b c e).Perm (gx f d a b c e):=by intro h;induction h with|zero=>showλ_ _ _ _=>.refl _;|succ d g=>
  intro a b c e;change List.Perm (ite _ _ _) (ite _ _ _);split;.show .refl _
  .have i:=g a (f a b c e).i c (f a b c e).j;have j:=g ((f a b c e).i+(f a b c e).m) b ((f a b c e).j+(f a b c e).m) e;show Qc (.cons _ ?_) Tm.symm;show Qc WI ?_;show List.Perm.append ?_ ?_
   .split;.show i
    .show .refl _
   .split;.show j
    .show .refl _
def DT{f:fB}{p r:Nat}(v:qs f p r):∀d e b a g c,b<=a->g<=c->a<=p->c<=r->a-b<d->a-b<e->dZ f d b a g c=dZ f e b a g c:=by intro k;induction k with
 |zero=>intro _;intro _;intro _;intro _;intro _;intro _;intro _;intro _;intro _;intro h;intro _;show absurd h<|XN _;|succ d s=>intro l;cases l with
 |zero=>intro _;intro _;intro _;intro _;intro _;intro _;intro _;intro _;intro _;intro h;show absurd h<|XN _;|succ e=>
   intro b;intro a;intro g;intro c;intro w;intro x;intro m;intro n;intro hd;intro t;show gM (v b a g c w x m n) λo i y u=>?_;change(ite _ _ _:List Bk)=ite _ _ _;split;.rfl
   .rename_i j;congr 2
    ·split;.show s e _ _ _ _ i u m n (<-(fk 0x662278e4616026f682f2ff2789499144a1c8e5128440000a6f) hd o j ‹_›) (<-(fk 0x662278e4616026f682f2ff2789499144a1c8e5128440000a6f) t o j ‹_›)
     .rfl
    .split;.show s e _ _ _ _ o y (jh m i) (jh n u) (<-(fk 0x662278e42360d1287da0bcbfc9c9908b2390820000a6f) hd i j ‹_›) (<-(fk 0x662278e42360d1287da0bcbfc9c9908b2390820000a6f) t i j ‹_›)
     .rfl
abbrev qB(f:fB)(q:List (Nat×Nat×Nat×Nat)):List Bk:=q.reverse.flatMap λx=>dZ f (x.2.1-x.1+1) x.1 x.2.1 x.2.2.1 x.2.2.2
abbrev qM(q:List (Nat×Nat×Nat×Nat)):Nat:=(q.map λx=>2*(x.2.1-x.1)+1).sum
def v0(f:fB)(q:List (Nat×Nat×Nat×Nat))(a b c d:Nat):qB f (q++[(a,b,c,d)])=dZ f (b-a+1) a b c d++qB f q:=by unfold qB;exists Uz;rfl
def CX(q:List (Nat×Nat×Nat×Nat))(a b c d:Nat):qM (q++[(a,b,c,d)])=qM q+(2*(b-a)+1):=by unfold qM;exists ZF,List.sum_append;simp
structure w6(a b:List ZD)(f:fB):Prop where
 win:qs f a.length b.length
 eq:∀aG aQ aC aH,aG<=aQ->aC<=aH->aQ<=a.length->aH<=b.length->∀t,t<(f aG aQ aC aH).m->a[(f aG aQ aC aH).i+t]?=b[(f aG aQ aC aH).j+t]?
 back:∀aG aQ aC aH,aG<=aQ->aC<=aH->aQ<=a.length->aH<=b.length->aG<(f aG aQ aC aH).i->aC<(f aG aQ aC aH).j->a[(f aG aQ aC aH).i-1]?≠b[(f aG aQ aC aH).j-1]?
 on:∀aG aQ aC aH,aG<=aQ->aC<=aH->aQ<=a.length->aH<=b.length->(f aG aQ aC aH).i+(f aG aQ aC aH).m<aQ->(f aG aQ aC aH).j+(f aG aQ aC aH).m<aH->a[(f aG aQ aC aH).i+(f aG aQ aC aH).m]?≠b[(f aG aQ aC aH).j+(f aG aQ aC aH).m]?
structure Mt(a b:List ZD)(k:Bk):Prop where
 m:0<k.m
 i:k.i+k.m<=a.length
 j:k.j+k.m<=b.length
 eq:∀t,t<k.m->a[k.i+t]?=b[k.j+t]?
structure Gp(a b:List ZD)(c d:Bk):Prop where
 i:c.i+c.m<=d.i
 j:c.j+c.m<=d.j
 ne:a[c.i+c.m]?≠b[c.j+c.m]?\/a[d.i-1]?≠b[d.j-1]?
abbrev Ch{a:Type}(R:a->a->Prop):List a->Prop
 |[]=>True|x::l=>(match l with|[]=>True|y::_=>R x y)/\Ch R l
def Ch.app{a:Type}{R:a->a->Prop}{k:a}{r:List a}(c:Ch R r)(d:∀y∈r,R k y){l:List a}:Ch R l->(∀x∈l,R x k)->Ch R (l++k::r):=by have e:Ch R (k::r):=⟨by cases r with|nil=>trivial|cons y r=>show d y<|.head _,c⟩;clear c d;induction l with|nil=>showλ_ _=>e;|cons x l g=>cases l with|nil=>showλ_ b=>⟨b x<|.head _,e⟩;|cons y l=>showλf b=>⟨f.1,g f.2 λz h=>b z<|.tail _ h⟩
def aaW{a b:List ZD}{f:fB}(F:w6 a b f):∀d h e i g,h<=e->i<=g->e<=a.length->g<=b.length->(∀k∈gx f d h e i g,Mt a b k/\h<=k.i/\k.i+k.m<=e/\i<=k.j/\k.j+k.m<=g)/\Ch (Gp a b) (gx f d h e i g):=by intro M;revert F;injections a b f M;intro F;induction M with|zero=>showλ_ _ _ _ _ _ _ _=>⟨λk u=>(nM u),trivial⟩;|succ d A=>
  intro h e i g w x s t;revert A w x s t;injections d h e i g;intro A w x s t;change(∀k∈(ite _ _ _:List Bk),_)/\Ch (Gp a b) (ite _ _ _);show gM (F.win _ _ _ _ w x s t) λC y D z=>?_;have Q:=F.eq _ _ _ _ w x s t;have S:=F.back _ _ _ _ w x s t;have U:=F.on _ _ _ _ w x s t;generalize f h e i g=k at*;by_cases E:k.m=0;·exists if_pos E;show⟨λk u=>(nM u),trivial⟩
  exists if_neg E;have L:∀{l},l=(if h<k.i/\i<k.j then gx f d h k.i i k.j else[])->(∀c∈l,Mt a b c/\h<=c.i/\c.i+c.m<=k.i/\i<=c.j/\c.j+c.m<=k.j/\h<k.i/\i<k.j)/\Ch (Gp a b) l:=by
   rintro l rfl;split;.rename_i j;show aE (A h k.i i k.j C D (jh s y)<|jh t z) λG H=>?_;show⟨λc v=>let⟨m,n,o,p,r⟩:=G c v;(Aq m n o p r j),H⟩
   .show⟨λk u=>(nM u),trivial⟩
  have R:∀{l},l=(if k.i+k.m<e/\k.j+k.m<g then gx f d (k.i+k.m) e (k.j+k.m) g else[])->(∀c∈l,Mt a b c/\k.i+k.m<=c.i/\c.i+c.m<=e/\k.j+k.m<=c.j/\c.j+c.m<=g/\k.i+k.m<e/\k.j+k.m<g)/\Ch (Gp a b) l:=by
   rintro l rfl;split;.rename_i j;show aE (A (k.i+k.m) e (k.j+k.m) g y z s t) λG H=>?_;show⟨λc v=>let⟨m,n,o,p,r⟩:=G c v;(Aq m n o p r j),H⟩
   .show⟨λk u=>(nM u),trivial⟩
  show aE (L rfl) λN V=>?_;show aE (R rfl) λO W=>?_;clear L R;have X:Mt a b k:=⟨XZ E,(ay 0x181130488c38144611) s y,(ay 0x181130488c38144611) t z,Q⟩;constructor
  .intro c j;show ZI (ZS.mp j) (λj=>?_) λj=>?_;.show uh (N c j) λm n o p r Y=>?_;show jJ m n ((aV 0x60511970589038144816) y o) p<|(aV 0x60511970589038144816) z r
   .rcases Z1.mp j with rfl|j;.show jJ X C y D z
    .show uh (O c j) λm n o p r Y=>?_;show jJ m ((ay 0x6081c0a23260416) C n) o ((ay 0x6081c0a23260416) D p) r
  .show Ch.app W (λc j=>?_) V λc j=>?_;.obtain⟨m,n,o,p,r,I,J⟩:=O c j;show⟨n,p,.inl<|U I J⟩
   .obtain⟨m,n,o,p,r,I,J⟩:=N c j;show⟨o,r,.inr<|S I J⟩
section
variable{β:Type}[DecidableEq β]
abbrev nb(g:Nat->β):Nat->Nat
 |0=>0|x+1=>nb g x+if g x=g (x+1)then 0 else 1
def Bu(g:Nat->β)(x:Nat):nb g (x+1)=nb g x+if g x=g (x+1)then 0 else 1:=rfl
def jQ{g:Nat->β}{x:Nat}:∀{y},x<=y->nb g x<=nb g y:=by intro a;induction a with
 |zero=>intro h;have p:x=0:=<-(ak 0xc05e1d05e13) h;exists p;show ZR _;|succ y b=>
  intro h;by_cases e:x=y+1;·exists e;show ZR _
  .have p:=b (show x<=y by show(af 0xc444f107da889e20e0410) h e);exists Bu _ _;show(ai 0xc0c38888612) p
def sB{g:Nat->β}{x:Nat}:∀{y},x<=y->nb g y=nb g x->g y=g x:=by intro a;induction a with
 |zero=>intro h _;have p:x=0:=<-(ak 0xc05e1d05e13) h;exists p;rfl;|succ y b=>
  intro h e;by_cases z:x=y+1;·exists z;rfl
  .have c:=jQ (g:=g) (show x<=y by show(af 0xc444f107da889e20e0410) h z);rw[Bu]at e;by_cases q:g y=g (y+1);.rw[if_pos q]at e;exists ZJ q;show b (show x<=y by show(af 0xc444f107da889e20e0410) h z) e
   .rw[if_neg q]at e;show((af 0x342889e1f60220) e c).elim
def Bs{g:Nat->β}{x y:Nat}(e:g x=g y)(n:nb g y<=nb g x+1){t:Nat}(a:x<=t)(b:t<=y):g t=g x:=by
 by_cases q:g t=g x;.show q
 .have c:=jQ (g:=g) a;have d:=jQ (g:=g) b;by_cases z:nb g t=nb g x;.show sB a z
  .show absurd (sB b<|show nb g y=nb g t by show(ai 0x622278c3810f0117b43168411) n c d z) λw=>q<|w.symm.trans e.symm
def JA{g h:Nat->β}{p i q j:Nat}(d:p<=i)(e:q<=j)(f:g p=h q)(l:g (i+1)=h (j+1))(b:g (p+1)≠h (q+1)\/g i≠h j):nb g p+nb h q+2<=nb g (i+1)+nb h (j+1):=by
 have m:=jQ (g:=g) (show p<=i+1 by show r8 d);have n:=jQ (g:=h) (show q<=j+1 by show r8 e);show ZI (Xj (nb g (i+1)+nb h (j+1))<|nb g p+nb h q+2) (λk=>?_) λs=>?_
 .exfalso;have a:g p=g (i+1)/\h q=h (j+1):=by
   by_cases z:nb g (i+1)=nb g p;.have c:=sB (show p<=i+1 by show r8 d) z;show⟨c.symm,by exists ZJ f,ZJ l;show aW c rfl⟩
   .have c:=sB (g:=h) (show q<=j+1 by show r8 e)<|(ay 0x6082c047988df118a2127b42268611) m n k z;show⟨by exists f,l;show aW c rfl,c.symm⟩
  have o:=λ{t}=>Bs (t:=t) a.1<|(ay 0x6082cc46f888712071113c611) n k;have r:=λ{t}=>Bs (t:=t) a.2<|(ay 0x6082cc46f88c510931113c611) m k;show ZI b (λb=>?_) λb=>?_;.show b (by exists o (ak 0x31113c215)<|(af 0xc0838889e2889e10) d,r (ak 0x31113c215)<|(af 0xc0838889e2889e10) e;show aW f rfl)
  .show b (by exists o ((af 0x3020e0410) d)<|ak 0x31113c215,r ((af 0x3020e0410) e)<|ak 0x31113c215;show aW f rfl)
 .show s
abbrev rk:List β->Nat
 |[]=>0|x::l=>(match l with|[]=>1|y::_=>if x=y then 0 else 1)+rk l
def abT(x y:β)(l:List β):rk (x::y::l)=(if x=y then 0 else 1)+rk (y::l):=rfl
def abQ(x:β)(l:List β):rk (x::l)<=rk l+1:=by cases l with|nil=>show ZR _;|cons y l=>
  exists abT _ _ _;split;.exists W8 _;show Wn _
  .exists SN _ _;show ZR _
def abP:∀(l r:List β),rk (l++r)<=rk l+rk r:=by intro a;induction a with
 |nil=>intro r;show Vg (W8 _).symm;|cons x b c=>cases b with|nil=>intro r;have p:=abQ x r;show(?_:rk (x::r)<=1+0+rk r);show(af 0x62227883888a21789e10) p;|cons y l=>intro r;have p:=c r;show(ay 0x31120c3889223144220) p
def abR(x:β):∀(l:List β),(∀y∈l,y=x)->rk l<=1:=by intro a;induction a with
 |nil=>intro _;show ZZ _;|cons y b c=>cases b with
 |nil=>intro _;show ZR _;|cons z l=>intro h;have p:=c λw d=>h w<|.tail _ d;show(?_:(if y=z then 0 else 1)+rk (z::l)<=1);rw[h y (.head _),h z<|.tail _<|.head _,if_pos rfl]at*;show(ak 0x604f0e04f8842f0) p
def abS{a:Type}(f:a->List β)(h:∀x,rk (f x)<=1):∀(l:List a),rk (l.flatMap f)<=l.length:=by intro b;induction b with|nil=>show ZR _;|cons x l c=>exists Zh,ZO;have:=abP (f x)<|l.flatMap f;have:=c;have:=h x;show(ay 0x31120c381130278f1113c414) ‹_› ‹_› this
def Bt(l:List β):∀(x:Nat),x+1<=l.length->nb (λt=>l[t]?) x+1<=rk l:=by
 have z:∀l:List β,1<=l.length->1<=rk l:=λl h=>by cases l with|nil=>simp at h;|cons y l=>clear h;induction l generalizing y with|nil=>show ZR _;|cons z l a=>have p:=a z;show(?_:1<=_+rk (z::l));show(af 0x30213f111044f9) p
 induction l with|nil=>intro x h;cases h;|cons y l a=>intro x h;cases x with|zero=>show z _ h;|succ x=>
   have sh:∀x,nb (λt=>(y::l)[t]?) (x+1)=(if(y::l)[0]?=(y::l)[1]? then 0 else 1)+nb (λt=>l[t]?) x:=by intro x;induction x with|zero=>show SN 0 _;|succ x b=>show PV (congrArg (·+ite ((y::l)[x+1]?=(y::l)[x+2]?) 0 1) b) ?_;show XB _ _ _
   rw[sh];have p:=a x (by simpa using h);cases l with|nil=>simp at h;|cons z l=>simp only[List.getElem?_cons_zero,List.getElem?_cons_succ,Option.some.injEq];show(ai 0xc0e227871118a227c4220) p
end
def Jz{a b:List ZD}{c d:Bk}(r:Mt a b c)(s:Mt a b d)(g:Gp a b c d):nb (λt=>a[t]?) (c.i+c.m-1)+nb (λt=>b[t]?) (c.j+c.m-1)+2<=nb (λt=>a[t]?) d.i+nb (λt=>b[t]?) d.j:=by ext a b c d;obtain⟨u,E,F,v⟩:=r;obtain⟨w,G,H,x⟩:=s;obtain⟨m,o,y⟩:=g;obtain⟨z,A,e⟩:=c;obtain⟨f,k,l⟩:=d;dsimp only at*;obtain⟨e,rfl⟩:∃n,e=n+1:=⟨e-1,jM u⟩;obtain⟨l,rfl⟩:∃n,l=n+1:=⟨l-1,jM w⟩;obtain⟨f,rfl⟩:∃n,f=n+1:=⟨f-1,(ai 0x180c6227887a889f213c21a) m⟩;obtain⟨k,rfl⟩:∃n,k=n+1:=⟨k-1,(ai 0x180c6227887a889f213c21a) o⟩;have C:=v e<|ak 0x33113c215;have D:=x 0<|ak 0x66227842f3;show JA (g:=λt=>a[t]?) (h:=λt=>b[t]?) (p:=z+e) (q:=A+e) (i:=f) (j:=k) ((ai 0xc444f1c622788381c4410) m) ((ai 0xc444f1c622788381c4410) o) C D y
def JB{a b:List ZD}:∀(l:List Bk)(c:Bk),Ch (Gp a b) (c::l)->(∀k∈c::l,Mt a b k)->2*l.length+nb (λt=>a[t]?) (c.i+c.m-1)+nb (λt=>b[t]?) (c.j+c.m-1)<=nb (λt=>a[t]?) (a.length-1)+nb (λt=>b[t]?) (b.length-1):=by intro o;induction o with|nil=>intro c _ h;have m:=h c<|.head _;have e:=jQ (g:=λt=>a[t]?) (show c.i+c.m-1<=a.length-1 by have u:=m.i;show(ai 0xc0a230e24278a427c4611) u);have f:=jQ (g:=λt=>b[t]?) (show c.j+c.m-1<=b.length-1 by have u:=m.j;show(ai 0xc0a230e24278a427c4611) u);exists VG;show(ay 0xc0c3820b1120e228842f1) e f;|cons d l i=>intro c n h;have p:=h c<|.head _;have j:=h d<|.tail _<|.head _;have i:=i d n.2 λk r=>h k<|.tail _ r;have g:=Jz p j n.1;have e:=jQ (g:=λt=>a[t]?) (show d.i<=d.i+d.m-1 by have u:=j.m;show(af 0xc882fc484f888211) u);have f:=jQ (g:=λt=>b[t]?) (show d.j<=d.j+d.m-1 by have u:=j.m;show(af 0xc882fc484f888211) u);exists ZO;show(AN 0x6227344911cc237e2294446f894581a3044e227344b114e227846f7) i g e f
def IW{a b:List ZD}{l:List Bk}(d:Ch (Gp a b) l)(h:∀k∈l,Mt a b k)(e:rk a<=63)(f:rk b<=63):l.length<64:=by cases l with|nil=>decide;|cons c l=>have m:=h c<|.head _;have:=JB l c d h;have g:=Bt a (a.length-1) (by have:=m.i;have:=m.m;show(ai 0x30188c59185f80c44f909e1c) ‹_› this);have i:=Bt b (b.length-1) (by have:=m.j;have:=m.m;show(ai 0x30188c59185f80c44f909e1c) ‹_› this);exists ZO;show(fk 0x320809e2c820278f1139a25892611bf02889e6c0e2279f2180df113c2001488f) e f this g i
end Mine.Internal
open Mine.Internal
open PySem PySem.W PyProof.Rows
set_option maxHeartbeats 0
namespace Mine
abbrev pw:Wx:=Qb
abbrev body:List YR:=pw.main.body
abbrev aA:YR->List YR
 |.FunctionDef _ _ b _ _ _ _ _ _ _=>b|.ClassDef _ _ _ b _ _ _ _ _ _ _=>b|_=>[]
abbrev NT:SU:=⟨[],[],Z4,[],[],Z4,[]⟩
abbrev cY:YR->SU
 |.FunctionDef _ a _ _ _ _ _ _ _ _=>a|_=>NT
abbrev aw:YR->Vs
 |.FunctionDef _ _ _ _ _ _ s _ _ _=>s|_=>⟨.function,[],ZX,ZX,[]⟩
abbrev cZ(a:YR):ZD:=match docOf (aA a)with
 |some s=>s|none=>⟨Y7 []⟩
abbrev l0:Life:={}
abbrev drawn:Drawn:={}
abbrev de(P:Ym)(y:String)(t:O6)(v:ZN):W4:=⟨PyData.keyHash P<|Z9 y,.str (Z9 y) t,v⟩
abbrev uD:List Ze->List Ze
 |x::_::r=>x::uD r|r=>r
abbrev lR:Nat->List Ze->BT
 |n+1,x::r=>.node x (lR n (uD r)) (lR n (uD r.tail))|_,_=>.nil
abbrev ah(x:String)(n:O6):ZN:=.str (Z9 x) n
abbrev bo(l:List ZN):Ze:=⟨.type "tuple",Z4,.seq (Y7 l) 0,Y7 []⟩
abbrev i8(l:List ZN):Ze:=⟨.none,Z4,.fields<|Y7 l,Y7 []⟩
abbrev cM(t:String)(l:List ZN):Ze:=⟨.type t,Z4,.fields<|Y7 l,Y7 []⟩
abbrev gf(l:List W4)(n:Nat):Ze:=⟨.type "dict",Z4,.dict (Y7 l) n,Y7 []⟩
abbrev JY(n q:String)(t L a k f r u:Nat)(l:List ZN):Ze:=cM "code"<|[ah n t,ah q<|t+1,ah "/claim/cut.py"<|t+2,.int L 0,.int a 0,.int k 0,.int 0 0,.int f 0,.ref r,.bool ZW,.int 181 0,.ref (r+1)]++l++[.int u 0,.int L 0,ah "/claim/cut.py" (u+1)]
abbrev cz(n q:String)(t L a k f r u:Nat):Ze:=JY n q t L a k f r u [.none,.ref<|r+2,.ref<|r+3,.ref (r+4)]
abbrev bI(n q:String)(a:YR):Ze:=⟨.none,Z4,.func ⟨.ofString n,.ofString q,cY a,.stmts<|aA a,aw a,0,[],.none,.none,.none,.none,Z4,.none,.none,0⟩,Y7 []⟩
abbrev bQ(n q:String)(a:YR)(d c:ZN)(m:String)(t r:Nat):Ze:=⟨.type "function",Z4,.func ⟨.ofString n,.ofString q,cY a,.stmts<|aA a,aw a,3,[],d,.none,c,ah m t,Z4,.ref r,.none,0⟩,Y7 []⟩
abbrev bx(s:List YR)(i:Nat):YR:=s.getD i<|.Pass default
abbrev jU:YR:=bx body 0
abbrev s4:YR:=bx body 2
abbrev DI:YR:=bx (aA s4) 0
abbrev DJ:YR:=bx (aA s4) 1
abbrev DK:YR:=bx (aA s4) 2
abbrev DL:YR:=bx (aA s4) 3
abbrev lh:YR:=bx body 3
abbrev oB:YR:=bx (aA lh) 4
abbrev jV:YR:=bx (aA lh) 5
abbrev qe:YR:=bx (aA lh) 6
abbrev wz:YR:=bx (aA lh) 8
abbrev DM:YR:=bx (aA lh) 9
abbrev wy:YR:=bx (aA lh) 10
abbrev wA:YR:=bx body 4
abbrev dN:YR:=bx body 5
abbrev oD:YR:=bx (aA dN) 1
abbrev oE:YR:=bx (aA dN) 2
abbrev oF:YR:=bx (aA dN) 3
abbrev oG:YR:=bx (aA dN) 4
abbrev dO:YR:=bx (aA dN) 5
abbrev cC:YR:=bx (aA dN) 6
abbrev cD:YR:=bx (aA dN) 7
abbrev gz:YR:=bx (aA dN) 8
abbrev c5:YR:=bx (aA dN) 9
abbrev wB:YR:=bx (aA dN) 10
abbrev DN:YR:=bx (aA dN) 11
abbrev DO:YR:=bx (aA dN) 12
abbrev oH:YR:=bx body 6
abbrev cP:YR:=bx body 7
abbrev fS:YR:=bx body 8
abbrev qb:YR:=bx body 10
abbrev gy:YR:=bx body 11
abbrev qc:YR:=bx body 12
abbrev qd:YR:=bx body 13
abbrev fy:YR:=bx body 14
abbrev mn:YR:=bx body 15
abbrev eV:YR:=bx body 16
abbrev bh:YR:=bx body 17
abbrev aR:Ze:=bo []
abbrev bC:Ze:=i8 []
abbrev Ov:Ze:=cM "code" [ah "<module>" 182,ah "<module>" 183,ah "/claim/cut.py" 184,.int 1 0,.int 0 0,.int 0 0,.int 0 0,.int 0 0,.ref 11,Wj ZX,.int 181 0,.ref 12,.none,.none,.none,.none,.int 185 0,.int 1 0,ah "/claim/cut.py" 186]
abbrev OB:Ze:=⟨Zb "frame",Z4,.plain,Y7 [Z7 (.ref 13),Z7<|.ref 3,Z7<|.ref 3,Z4,Z7<|ah "__main__" 164,Z4,Z7 (.ref 0)]⟩
abbrev nk(P:Ym)(x z:Ze):List Ze:=[UL P,boot_o_1 P,boot_o_2 P,x,boot_o_4 P,boot_o_5 P,boot_o_6 P,boot_o_7 P,boot_o_8 P,boot_o_9 P,boot_o_10 P,aR,z,Ov,OB]
abbrev adk(P:Ym):BT:=lR 12<|nk P (boot_o_3 P) bC
abbrev SA(w:Yg)(a:XG):Ur:=⟨adk w.params,15,l0,Y7 [],drawn,187,a⟩
abbrev CP:Vk:=⟨0,0,0,0⟩
abbrev KB(P:Ym):Xq:=⟨Y7<|nk P (boot_o_3 P) bC,l0⟩
abbrev zQ(P:Ym)(x:W4)(l:List W4):List W4:=[x,de P "__doc__" 166 .none,de P "__package__" 167 .none,de P "__loader__" 168<|.builtin "__main__.__loader__#opaque",de P "__spec__" 169 .none,de P "__annotations__" 170<|.ref 6,de P "__builtins__" 171<|.ref 4,de P "__file__" 173<|ah "/claim/cut.py" 172,de P "__cached__" 174 .none,de P "_wall" 193<|.ref 21,de P "_tuplegetter" 252 (.ref 60)]++l
abbrev uF(P:Ym):W4:=de P "__name__" 165<|ah "cpy313.difflib" 194
abbrev aaH(P:Ym):Ze:=gf (zQ P (uF P) []) 11
abbrev Oq:Ze:=i8 [.int 1 0,.int 0 0,.ref 20,.int 5 0,.int 0 0,.ref 27]
abbrev OP:Ze:=bo [ah "k" 190]
abbrev OW:Ze:=bI "_wall" "_wall" jU
abbrev Pv:Ze:=cz "_wall" "_wall" 187 1 1 0 3 15 191
abbrev ST:Ze:=bQ "_wall" "_wall" jU .none .none "__main__" 164 20
abbrev vG:Ze:=cM "builtin_function_or_method" [.builtin "type.__prepare__",Zb "type"]
abbrev o24(P:Ym):Ze:=gf [de P "__module__" 203 (ah "cpy313.difflib" 194),de P "__qualname__" 205<|ah "_tuplegetter" 204,de P "__firstlineno__" 207<|.int 5 206,de P "__init__" 216<|.ref 35,de P "__get__" 225<|.ref 43,de P "__set__" 234<|.ref 50,de P "__delete__" 242<|.ref 57,de P "__static_attributes__" 245 (.ref 58)] 8
abbrev o26:Ze:=i8 [.int 7 0,.int 4 0,.ref 34,.int 11 0,.int 4 0,.ref 42,.int 18 0,.int 4 0,.ref 49,.int 21 0,.int 4 0,.ref 56]
abbrev o27:Ze:=cM "code" [ah "_tuplegetter" 198,ah "_tuplegetter" 199,ah "/claim/cut.py" 200,.int 5 0,.int 0 0,.int 0 0,.int 0 0,.int 0 0,.ref 25,Wj ZX,.int 181 0,.ref 26,.none,.none,.none,.none,.int 201 0,.int 5 0,ah "/claim/cut.py" 202]
abbrev o28:Ze:=⟨Zb "frame",Z4,.plain,Y7 [Z7 (.ref 27),Z7<|.ref 3,Z7<|.ref 24,Z4,Z7<|ah "cpy313.difflib" 194,Z4,Z7 (.ref 0)]⟩
abbrev o31:Ze:=bo [ah "self" 211,ah "index" 212,ah "doc" 213]
abbrev o33:Ze:=bI "__init__" "_tuplegetter.__init__" DI
abbrev o34:Ze:=cz "__init__" "_tuplegetter.__init__" 208 7 3 0 3 29 214
abbrev o35:Ze:=bQ "__init__" "_tuplegetter.__init__" DI .none .none "cpy313.difflib" 194 34
abbrev o36:Ze:=bo [.none]
abbrev o39:Ze:=bo [ah "self" 220,ah "obj" 221,ah "objtype" 222]
abbrev o41:Ze:=bI "__get__" "_tuplegetter.__get__" DJ
abbrev o42:Ze:=cz "__get__" "_tuplegetter.__get__" 217 11 3 0 3 37 223
abbrev o43:Ze:=bQ "__get__" "_tuplegetter.__get__" DJ (.ref 36) .none "cpy313.difflib" 194 42
abbrev o46:Ze:=bo [ah "self" 229,ah "obj" 230,ah "value" 231]
abbrev o48:Ze:=bI "__set__" "_tuplegetter.__set__" DK
abbrev o49:Ze:=cz "__set__" "_tuplegetter.__set__" 226 18 3 0 3 44 232
abbrev o50:Ze:=bQ "__set__" "_tuplegetter.__set__" DK .none .none "cpy313.difflib" 194 49
abbrev o53:Ze:=bo [ah "self" 238,ah "obj" 239]
abbrev o55:Ze:=bI "__delete__" "_tuplegetter.__delete__" DL
abbrev o56:Ze:=cz "__delete__" "_tuplegetter.__delete__" 235 21 2 0 3 51 240
abbrev o57:Ze:=bQ "__delete__" "_tuplegetter.__delete__" DL .none .none "cpy313.difflib" 194 56
abbrev o58:Ze:=bo [ah "__doc__" 243,ah "index" 244]
abbrev o59(P:Ym):Ze:=gf [de P "__module__" 203 (ah "cpy313.difflib" 194),de P "__firstlineno__" 207<|.int 5 206,de P "__init__" 216<|.ref 35,de P "__get__" 225<|.ref 43,de P "__set__" 234<|.ref 50,de P "__delete__" 242<|.ref 57,de P "__static_attributes__" 245<|.ref 58,de P "__dict__" 247<|.ref 61,de P "__weakref__" 249<|.ref 62,de P "__doc__" 250 .none] 4
abbrev o60:Ze:=⟨Zb "type",Z4,.cls {name:=(Z9 "_tuplegetter"),bases:=[Zb "object"],mro:=[.ref 60,Zb "object"],ns:=59,qualname:=(Z9 "_tuplegetter"),hasDict:=ZW,slotNames:=[],subclasses:=[],abstract:=ZX,collection:=Z4,hasDel:=ZX},Y7 [Z4,Z4,Z7<|ah "_tuplegetter" 196,Z7<|ah "_tuplegetter" 204,Z7<|.builtin "object.__new__",Z7 (Wj ZW)]⟩
abbrev o61:Ze:=cM "getset_descriptor" [ah "__dict__" 246,.ref 60,.builtin "function.__dict__",.builtin "function.__dict__#set"]
abbrev o62:Ze:=cM "getset_descriptor" [ah "__weakref__" 248,.ref 60,.builtin "ExceptionGroup.__weakref__",.none]
abbrev o63:Ze:=cM "super" [.ref 60,.ref 60,.ref 60]
abbrev o64:Ze:=cM "builtin_function_or_method" [.builtin "object.__init_subclass__",.ref 60]
abbrev rD(P:Ym):List Ze:=[aR,bC,OP,aR,OW,Pv,ST,aR,vG,o24 P,aR,o26,o27,o28,aR,bC,o31,aR,o33,o34,o35,o36,aR,bC,o39,aR,o41,o42,o43,aR,bC,o46,aR,o48,o49,o50,aR,bC,o53,aR,o55,o56,o57,o58,o59 P,o60,o61,o62,o63,o64]
abbrev adg(P:Ym):BT:=lR 12<|nk P (aaH P) Oq++rD P
abbrev S0(w:Yg)(a:XG):Ur:=⟨adg w.params,65,l0,Y7 [],drawn,253,a⟩
abbrev CN:Vk:=⟨5,0,22,54⟩
abbrev zR(P:Ym)(x:W4)(l:List W4):List W4:=zQ P x (de P "Match" 380 (.ref 135)::l)
abbrev aaI(P:Ym):Ze:=gf (zR P (uF P) []) 12
abbrev Os:Ze:=i8 [.int 1 0,.int 0 0,.ref 20,.int 5 0,.int 0 0,.ref 27,.int 23 0,.int 0 0,.ref 71]
abbrev o65:Ze:=bo [Zb "tuple"]
abbrev o67(P:Ym):Ze:=gf [de P "__module__" 260 (ah "cpy313.difflib" 194),de P "__qualname__" 262<|ah "Match" 261,de P "__firstlineno__" 264<|.int 23 263,de P "__doc__" 266<|ah "Match(a, b, size)" 265,de P "__slots__" 268<|.ref 73,de P "_fields" 272<|.ref 74,de P "_field_defaults" 273<|.ref 75,de P "__new__" 284<|.ref 82,de P "_make" 306<|.ref 91,de P "_replace" 317<|.ref 100,de P "__replace__" 318<|.ref 100,de P "__repr__" 326<|.ref 107,de P "_asdict" 333<|.ref 114,de P "__getnewargs__" 341<|.ref 121,de P "__match_args__" 345<|.ref 122,de P "a" 355<|.ref 124,de P "b" 365<|.ref 127,de P "size" 375<|.ref 130,de P "__static_attributes__" 376<|.ref 132,de P "__classcell__" 377 (.ref 68)] 20
abbrev o68:Ze:=⟨Zb "cell",Z4,.cell<|Z7<|.ref 135,Y7 []⟩
abbrev o70:Ze:=i8 [.int 29 0,.int 4 0,.ref 81,.int 34 0,.int 4 0,.ref 88,.int 41 0,.int 4 0,.ref 99,.int 52 0,.int 4 0,.ref 106,.int 56 0,.int 4 0,.ref 113,.int 59 0,.int 4 0,.ref 120]
abbrev o71:Ze:=cM "code" [ah "Match" 255,ah "Match" 256,ah "/claim/cut.py" 257,.int 23 0,.int 0 0,.int 0 0,.int 0 0,.int 0 0,.ref 69,Wj ZX,.int 181 0,.ref 70,.none,.none,.none,.none,.int 258 0,.int 23 0,ah "/claim/cut.py" 259]
abbrev o72:Ze:=⟨Zb "frame",Z4,.plain,Y7 [Z7 (.ref 71),Z7<|.ref 3,Z7<|.ref 67,Z4,Z7<|ah "cpy313.difflib" 194,Z4,Z7 (.ref 0)]⟩
abbrev o74:Ze:=bo [ah "a" 269,ah "b" 270,ah "size" 271]
abbrev Co:Ze:=gf [] 0
abbrev o78:Ze:=bo [ah "_cls" 277,ah "a" 278,ah "b" 279,ah "size" 280]
abbrev o80:Ze:=bI "__new__" "Match.__new__" oB
abbrev Cp:Ze:=cz "__new__" "Match.__new__" 274 29 4 0 3 76 281
abbrev vP:Ze:=bQ "__new__" "Match.__new__" oB .none (.str (cZ oB) 283) "cpy313.difflib" 194 81
abbrev o85:Ze:=bo [ah "cls" 288,ah "iterable" 289,ah "result" 290]
abbrev o87:Ze:=bI "_make" "Match._make" jV
abbrev Cq:Ze:=cz "_make" "Match._make" 285 33 2 0 3 83 291
abbrev sK:Ze:=⟨Zb "function",Z4,Data.func ⟨Z9 "_make",Z9 "Match._make",cY jV,.stmts<|aA jV,aw jV,3,[],.none,.none,QB (cZ jV) 293,ah "cpy313.difflib" 194,Z7 92,.ref 88,.none,0⟩,Y7 []⟩
abbrev o90(P:Ym):Ze:=gf [de P "__module__" 295 (ah "cpy313.difflib" 194),de P "__name__" 298<|ah "_make" 297,de P "__qualname__" 301<|ah "Match._make" 300,de P "__doc__" 303<|QB (cZ jV) 293,de P "__annotations__" 305 (.ref 92)] 5
abbrev Ct:Ze:=⟨Zb "classmethod",Z7 90,Data.fields<|Y7 [.ref 89,Wj ZX],Y7 []⟩
abbrev o93:Ze:=bo [.ref 68]
abbrev o94:Ze:=bo [ah "__class__" 310]
abbrev o96:Ze:=bo [ah "self" 311,ah "kwds" 312,ah "result" 313]
abbrev o98:Ze:=bI "_replace" "Match._replace" qe
abbrev o99:Ze:=cz "_replace" "Match._replace" 307 41 1 1 11 94 314
abbrev N2:Ze:=⟨Zb "function",Z4,Data.func ⟨Z9 "_replace",Z9 "Match._replace",cY qe,.stmts<|aA qe,aw qe,3,[((Z9 "__class__"),68)],.none,.none,QB (cZ qe) 316,ah "cpy313.difflib" 194,Z4,.ref 99,.ref 93,0⟩,Y7 []⟩
abbrev N3:Ze:=bo [ah "self" 322]
abbrev N4:Ze:=bI "__repr__" "Match.__repr__" wz
abbrev N5:Ze:=cz "__repr__" "Match.__repr__" 319 52 1 0 3 101 323
abbrev N6:Ze:=bQ "__repr__" "Match.__repr__" wz .none (.str (cZ wz) 325) "cpy313.difflib" 194 106
abbrev N7:Ze:=bo [ah "self" 330]
abbrev N8:Ze:=bI "_asdict" "Match._asdict" DM
abbrev N9:Ze:=cz "_asdict" "Match._asdict" 327 56 1 0 3 108 331
abbrev Oa:Ze:=bQ "_asdict" "Match._asdict" DM .none .none "cpy313.difflib" 194 113
abbrev Ob:Ze:=bo [ah "self" 337]
abbrev Od:Ze:=bI "__getnewargs__" "Match.__getnewargs__" wy
abbrev Oe:Ze:=cz "__getnewargs__" "Match.__getnewargs__" 334 59 1 0 3 115 338
abbrev Of:Ze:=bQ "__getnewargs__" "Match.__getnewargs__" wy .none (.str (cZ wy) 340) "cpy313.difflib" 194 120
abbrev Og:Ze:=bo [ah "a" 342,ah "b" 343,ah "size" 344]
abbrev Oh(P:Ym):Ze:=gf [de P "index" 352 (.int 0 346),de P "__doc__" 354 (ah "Alias for field number 0" 347)] 2
abbrev Oi:Ze:=⟨.ref 60,Z7 123,.plain,Y7 []⟩
abbrev Oj(P:Ym):Ze:=⟨Zb "frame",Z4,.dict (Y7 [de P "self" 348 (.ref 124),de P "index" 349<|.int 0 346,de P "doc" 350 (ah "Alias for field number 0" 347)]) 3,Y7 []⟩
abbrev Ol(P:Ym):Ze:=gf [de P "index" 362 (.int 1 356),de P "__doc__" 364 (ah "Alias for field number 1" 357)] 2
abbrev Om:Ze:=⟨.ref 60,Z7 126,.plain,Y7 []⟩
abbrev On(P:Ym):Ze:=⟨Zb "frame",Z4,.dict (Y7 [de P "self" 358 (.ref 127),de P "index" 359<|.int 1 356,de P "doc" 360 (ah "Alias for field number 1" 357)]) 3,Y7 []⟩
abbrev Oo(P:Ym):Ze:=gf [de P "index" 372 (.int 2 366),de P "__doc__" 374 (ah "Alias for field number 2" 367)] 2
abbrev Ow:Ze:=⟨.ref 60,Z7 129,.plain,Y7 []⟩
abbrev Ox(P:Ym):Ze:=⟨Zb "frame",Z4,.dict (Y7 [de P "self" 368 (.ref 130),de P "index" 369<|.int 2 366,de P "doc" 370 (ah "Alias for field number 2" 367)]) 3,Y7 []⟩
abbrev Oy:Ze:=⟨Zb "list",Z4,Data.seq (Y7 []) 0,Y7 []⟩
abbrev BH(P:Ym):Ze:=gf [de P "__module__" 260 (ah "cpy313.difflib" 194),de P "__firstlineno__" 264<|.int 23 263,de P "__doc__" 266<|ah "Match(a, b, size)" 265,de P "__slots__" 268<|.ref 73,de P "_fields" 272<|.ref 74,de P "_field_defaults" 273<|.ref 75,de P "__new__" 284<|.ref 136,de P "_make" 306<|.ref 91,de P "_replace" 317<|.ref 100,de P "__replace__" 318<|.ref 100,de P "__repr__" 326<|.ref 107,de P "_asdict" 333<|.ref 114,de P "__getnewargs__" 341<|.ref 121,de P "__match_args__" 345<|.ref 122,de P "a" 355<|.ref 124,de P "b" 365<|.ref 127,de P "size" 375<|.ref 130,de P "__static_attributes__" 376 (.ref 132)] 2
abbrev BI:Ze:=⟨Zb "type",Z4,.cls {name:=(Z9 "Match"),bases:=[Zb "tuple"],mro:=[.ref 135,Zb "tuple",Zb "object"],ns:=134,qualname:=(Z9 "Match"),hasDict:=ZX,slotNames:=[],subclasses:=[],abstract:=ZX,collection:=Z4,hasDel:=ZX},Y7 [Z7 (.ref 65),Z4,Z7<|ah "Match" 253,Z7<|ah "Match" 261,Z7 .none,Z7 (Wj ZX)]⟩
abbrev BJ:Ze:=cM "staticmethod" [.ref 82]
abbrev Oz:Ze:=cM "super" [.ref 135,.ref 135,.ref 135]
abbrev OA:Ze:=cM "builtin_function_or_method" [.builtin "object.__init_subclass__",.ref 135]
abbrev uG(P:Ym):List Ze:=[o65,vG,o67 P,o68,aR,o70,o71,o72,aR,o74,Co,aR,bC,o78,aR,o80,Cp,vP,aR,bC,o85,aR,o87,Cq,sK,o90 P,Ct,Co,o93,o94,bC,o96,aR,o98,o99,N2,aR,bC,N3,aR,N4,N5,N6,aR,bC,N7,aR,N8,N9,Oa,aR,bC,Ob,aR,Od,Oe,Of,Og,Oh P,Oi,Oj P,Ol P,Om,On P,Oo P,Ow,Ox P,aR,Oy,BH P,BI,BJ,Oz,OA]
abbrev adh(P:Ym):BT:=lR 12<|nk P (aaI P) Os++(rD P++uG P)
abbrev S1(w:Yg)(a:XG):Ur:=⟨adh w.params,139,l0,Y7 [],drawn,381,a⟩
abbrev sP:Vk:=⟨23,0,65,54⟩
abbrev zS(P:Ym)(x:W4)(l:List W4):List W4:=zR P x (de P "_calculate_ratio" 388 (.ref 145)::de P "SequenceMatcher" 591 (.ref 242)::l)
abbrev aaJ(P:Ym):Ze:=gf (zS P (uF P) []) 14
abbrev Ot:Ze:=i8 [.int 1 0,.int 0 0,.ref 20,.int 5 0,.int 0 0,.ref 27,.int 23 0,.int 0 0,.ref 71,.int 66 0,.int 0 0,.ref 144,.int 70 0,.int 0 0,.ref 151]
abbrev OC:Ze:=bo [ah "matches" 384,ah "length" 385]
abbrev OD:Ze:=bI "_calculate_ratio" "_calculate_ratio" wA
abbrev OE:Ze:=cz "_calculate_ratio" "_calculate_ratio" 381 66 2 0 3 139 386
abbrev OF:Ze:=bQ "_calculate_ratio" "_calculate_ratio" wA .none .none "cpy313.difflib" 194 144
abbrev BK(d:ZD)(P:Ym):Ze:=⟨.type "dict",Z4,.dict (Y7 [de P "__module__" 396 (ah "cpy313.difflib" 194),de P "__qualname__" 398<|ah "SequenceMatcher" 397,de P "__firstlineno__" 400<|.int 70 399,de P "__doc__" 402<|.str d 401,de P "__init__" 417<|.ref 160,de P "set_seqs" 427<|.ref 167,de P "set_seq1" 436<|.ref 174,de P "set_seq2" 445<|.ref 181,de P "_SequenceMatcher__chain_b" 463<|.ref 188,de P "find_longest_match" 491<|.ref 196,de P "get_matching_blocks" 518<|.ref 203,de P "get_opcodes" 533<|.ref 210,de P "get_grouped_opcodes" 551<|.ref 218,de P "ratio" 560<|.ref 225,de P "quick_ratio" 567<|.ref 232,de P "real_quick_ratio" 574<|.ref 239,de P "__static_attributes__" 585 (.ref 240)]) 17,Y7 []⟩
abbrev OG(P:Ym):Ze:=BK (cZ dN) P
abbrev OH:Ze:=i8 [.int 145 0,.int 4 0,.ref 159,.int 173 0,.int 4 0,.ref 166,.int 184 0,.int 4 0,.ref 173,.int 209 0,.int 4 0,.ref 180,.int 236 0,.int 4 0,.ref 187,.int 260 0,.int 4 0,.ref 195,.int 335 0,.int 4 0,.ref 202,.int 383 0,.int 4 0,.ref 209,.int 430 0,.int 4 0,.ref 217,.int 475 0,.int 4 0,.ref 224,.int 499 0,.int 4 0,.ref 231,.int 502 0,.int 4 0,.ref 238]
abbrev OI:Ze:=cM "code" [ah "SequenceMatcher" 391,ah "SequenceMatcher" 392,ah "/claim/cut.py" 393,.int 70 0,.int 0 0,.int 0 0,.int 0 0,.int 0 0,.ref 149,Wj ZX,.int 181 0,.ref 150,.none,.none,.none,.none,.int 394 0,.int 70 0,ah "/claim/cut.py" 395]
abbrev OJ:Ze:=⟨Zb "frame",Z4,.plain,Y7 [Z7 (.ref 151),Z7<|.ref 3,Z7<|.ref 148,Z4,Z7<|ah "cpy313.difflib" 194,Z4,Z7 (.ref 0)]⟩
abbrev BL:Ze:=bo [.none,ah "" 404,ah "" 405,Wj ZW]
abbrev OK:Ze:=bo [ah "self" 409,ah "isjunk" 410,ah "a" 411,ah "b" 412,ah "autojunk" 413]
abbrev OM:Ze:=bI "__init__" "SequenceMatcher.__init__" oD
abbrev BM:Ze:=cz "__init__" "SequenceMatcher.__init__" 406 145 5 0 3 154 414
abbrev BN:Ze:=bQ "__init__" "SequenceMatcher.__init__" oD (.ref 153) (.str (cZ oD) 416) "cpy313.difflib" 194 159
abbrev ON:Ze:=bo [ah "self" 421,ah "a" 422,ah "b" 423]
abbrev OO:Ze:=bI "set_seqs" "SequenceMatcher.set_seqs" oE
abbrev BO:Ze:=cz "set_seqs" "SequenceMatcher.set_seqs" 418 173 3 0 3 161 424
abbrev BP:Ze:=bQ "set_seqs" "SequenceMatcher.set_seqs" oE .none (.str (cZ oE) 426) "cpy313.difflib" 194 166
abbrev OQ:Ze:=bo [ah "self" 431,ah "a" 432]
abbrev OR:Ze:=bI "set_seq1" "SequenceMatcher.set_seq1" oF
abbrev BQ:Ze:=cz "set_seq1" "SequenceMatcher.set_seq1" 428 184 2 0 3 168 433
abbrev BR:Ze:=bQ "set_seq1" "SequenceMatcher.set_seq1" oF .none (.str (cZ oF) 435) "cpy313.difflib" 194 173
abbrev OS:Ze:=bo [ah "self" 440,ah "b" 441]
abbrev OT:Ze:=bI "set_seq2" "SequenceMatcher.set_seq2" oG
abbrev BS:Ze:=cz "set_seq2" "SequenceMatcher.set_seq2" 437 209 2 0 3 175 442
abbrev BU:Ze:=bQ "set_seq2" "SequenceMatcher.set_seq2" oG .none (.str (cZ oG) 444) "cpy313.difflib" 194 180
abbrev OU:Ze:=bo [ah "self" 449,ah "b" 450,ah "b2j" 451,ah "i" 452,ah "elt" 453,ah "indices" 454,ah "junk" 455,ah "isjunk" 456,ah "popular" 457,ah "n" 458,ah "ntest" 459,ah "idxs" 460]
abbrev OV:Ze:=bI "__chain_b" "SequenceMatcher.__chain_b" dO
abbrev BV:Ze:=cz "__chain_b" "SequenceMatcher.__chain_b" 446 236 1 0 3 182 461
abbrev BW:Ze:=bQ "__chain_b" "SequenceMatcher.__chain_b" dO .none .none "cpy313.difflib" 194 187
abbrev BX:Ze:=bo [.int 0 464,.none,.int 0 465,.none]
abbrev OX:Ze:=bo [ah "self" 469,ah "alo" 470,ah "ahi" 471,ah "blo" 472,ah "bhi" 473,ah "a" 474,ah "b" 475,ah "b2j" 476,ah "isbjunk" 477,ah "besti" 478,ah "bestj" 479,ah "bestsize" 480,ah "j2len" 481,ah "nothing" 482,ah "i" 483,ah "j2lenget" 484,ah "newj2len" 485,ah "j" 486,ah "k" 487]
abbrev OY:Ze:=bI "find_longest_match" "SequenceMatcher.find_longest_match" cC
abbrev BY:Ze:=cz "find_longest_match" "SequenceMatcher.find_longest_match" 466 260 5 0 3 190 488
abbrev BZ:Ze:=bQ "find_longest_match" "SequenceMatcher.find_longest_match" cC (.ref 189) (.str (cZ cC) 490) "cpy313.difflib" 194 195
abbrev Pi:Ze:=bo [ah "self" 495,ah "la" 496,ah "lb" 497,ah "queue" 498,ah "matching_blocks" 499,ah "alo" 500,ah "ahi" 501,ah "blo" 502,ah "bhi" 503,ah "i" 504,ah "j" 505,ah "k" 506,ah "x" 507,ah "i1" 508,ah "j1" 509,ah "k1" 510,ah "non_adjacent" 511,ah "i2" 512,ah "j2" 513,ah "k2" 514]
abbrev P3:Ze:=bI "get_matching_blocks" "SequenceMatcher.get_matching_blocks" cD
abbrev B0:Ze:=cz "get_matching_blocks" "SequenceMatcher.get_matching_blocks" 492 335 1 0 3 197 515
abbrev B1:Ze:=bQ "get_matching_blocks" "SequenceMatcher.get_matching_blocks" cD .none (.str (cZ cD) 517) "cpy313.difflib" 194 202
abbrev SB:Ze:=bo [ah "self" 522,ah "i" 523,ah "j" 524,ah "answer" 525,ah "ai" 526,ah "bj" 527,ah "size" 528,ah "tag" 529]
abbrev SL:Ze:=bI "get_opcodes" "SequenceMatcher.get_opcodes" gz
abbrev B2:Ze:=cz "get_opcodes" "SequenceMatcher.get_opcodes" 519 383 1 0 3 204 530
abbrev B3:Ze:=bQ "get_opcodes" "SequenceMatcher.get_opcodes" gz .none (.str (cZ gz) 532) "cpy313.difflib" 194 209
abbrev B4:Ze:=bo [.int 3 534]
abbrev SZ:Ze:=bo [ah "self" 538,ah "n" 539,ah "codes" 540,ah "tag" 541,ah "i1" 542,ah "i2" 543,ah "j1" 544,ah "j2" 545,ah "nn" 546,ah "group" 547]
abbrev Ty:Ze:=bI "get_grouped_opcodes" "SequenceMatcher.get_grouped_opcodes" c5
abbrev B5:Ze:=cz "get_grouped_opcodes" "SequenceMatcher.get_grouped_opcodes" 535 430 2 0 35 212 548
abbrev sI:Ze:=bQ "get_grouped_opcodes" "SequenceMatcher.get_grouped_opcodes" c5 (.ref 211) (.str (cZ c5) 550) "cpy313.difflib" 194 217
abbrev TT:Ze:=bo [ah "self" 555,ah "matches" 556]
abbrev aaa:Ze:=bI "ratio" "SequenceMatcher.ratio" wB
abbrev aab:Ze:=cz "ratio" "SequenceMatcher.ratio" 552 475 1 0 3 219 557
abbrev aac:Ze:=bQ "ratio" "SequenceMatcher.ratio" wB .none (.str (cZ wB) 559) "cpy313.difflib" 194 224
abbrev aad:Ze:=bo [ah "self" 564]
abbrev aae:Ze:=bI "quick_ratio" "SequenceMatcher.quick_ratio" DN
abbrev aaf:Ze:=cz "quick_ratio" "SequenceMatcher.quick_ratio" 561 499 1 0 3 226 565
abbrev aag:Ze:=bQ "quick_ratio" "SequenceMatcher.quick_ratio" DN .none .none "cpy313.difflib" 194 231
abbrev aah:Ze:=bo [ah "self" 571]
abbrev aai:Ze:=bI "real_quick_ratio" "SequenceMatcher.real_quick_ratio" DO
abbrev aaj:Ze:=cz "real_quick_ratio" "SequenceMatcher.real_quick_ratio" 568 502 1 0 3 233 572
abbrev aak:Ze:=bQ "real_quick_ratio" "SequenceMatcher.real_quick_ratio" DO .none .none "cpy313.difflib" 194 238
abbrev aal:Ze:=bo [ah "a" 575,ah "autojunk" 576,ah "b" 577,ah "b2j" 578,ah "bjunk" 579,ah "bpopular" 580,ah "fullbcount" 581,ah "isjunk" 582,ah "matching_blocks" 583,ah "opcodes" 584]
abbrev B6(d:ZD)(P:Ym):Ze:=⟨.type "dict",Z4,.dict (Y7 [de P "__module__" 396 (ah "cpy313.difflib" 194),de P "__firstlineno__" 400<|.int 70 399,de P "__doc__" 402<|.str d 401,de P "__init__" 417<|.ref 160,de P "set_seqs" 427<|.ref 167,de P "set_seq1" 436<|.ref 174,de P "set_seq2" 445<|.ref 181,de P "_SequenceMatcher__chain_b" 463<|.ref 188,de P "find_longest_match" 491<|.ref 196,de P "get_matching_blocks" 518<|.ref 203,de P "get_opcodes" 533<|.ref 210,de P "get_grouped_opcodes" 551<|.ref 218,de P "ratio" 560<|.ref 225,de P "quick_ratio" 567<|.ref 232,de P "real_quick_ratio" 574<|.ref 239,de P "__static_attributes__" 585<|.ref 240,de P "__dict__" 587<|.ref 243,de P "__weakref__" 589 (.ref 244)]) 3,Y7 []⟩
abbrev gw(P:Ym):Ze:=B6 (cZ dN) P
abbrev B7:Ze:=⟨Zb "type",Z4,.cls {name:=(Z9 "SequenceMatcher"),bases:=[Zb "object"],mro:=[.ref 242,Zb "object"],ns:=241,qualname:=(Z9 "SequenceMatcher"),hasDict:=ZW,slotNames:=[],subclasses:=[],abstract:=ZX,collection:=Z4,hasDel:=ZX},Y7 [Z4,Z4,Z7<|ah "SequenceMatcher" 389,Z7<|ah "SequenceMatcher" 397,Z7<|.builtin "object.__new__",Z7 (Wj ZW)]⟩
abbrev aam:Ze:=cM "getset_descriptor" [ah "__dict__" 586,.ref 242,.builtin "function.__dict__",.builtin "function.__dict__#set"]
abbrev aan:Ze:=cM "getset_descriptor" [ah "__weakref__" 588,.ref 242,.builtin "ExceptionGroup.__weakref__",.none]
abbrev aao:Ze:=cM "super" [.ref 242,.ref 242,.ref 242]
abbrev aap:Ze:=cM "builtin_function_or_method" [.builtin "object.__init_subclass__",.ref 242]
abbrev lS(P:Ym)(x y:Ze):List Ze:=[aR,bC,OC,aR,OD,OE,OF,aR,vG,x,aR,OH,OI,OJ,BL,aR,bC,OK,aR,OM,BM,BN,aR,bC,ON,aR,OO,BO,BP,aR,bC,OQ,aR,OR,BQ,BR,aR,bC,OS,aR,OT,BS,BU,aR,bC,OU,aR,OV,BV,BW,BX,aR,bC,OX,aR,OY,BY,BZ,aR,bC,Pi,aR,P3,B0,B1,aR,bC,SB,aR,SL,B2,B3,B4,aR,bC,SZ,aR,Ty,B5,sI,aR,bC,TT,aR,aaa,aab,aac,aR,bC,aad,aR,aae,aaf,aag,aR,bC,aah,aR,aai,aaj,aak,aal,y,B7,aam,aan,aao,aap]
abbrev adi(d:ZD)(P:Ym):BT:=lR 12<|nk P (aaJ P) Ot++(rD P++(uG P++lS P (BK d P) (B6 d P)))
abbrev xK(d:ZD)(w:Yg)(a:XG):Ur:=⟨adi d w.params,247,l0,Y7 [],drawn,592,a⟩
abbrev S2(w:Yg)(a:XG):Ur:=xK (cZ dN) w a
abbrev sQ:Vk:=⟨70,0,503,16⟩
abbrev eM(P:Ym):Ze:=gf (zS P (de P "__name__" 165<|ah "law_mt0001_01" 648) [de P "_format_range_unified" 602 (.ref 253),de P "unified_diff" 637<|.ref 261,de P "_check_types" 647<|.ref 268,de P "_law_line" 659<|.ref 275,de P "_law_read" 665<|.ref 280,de P "_law_range" 673<|.ref 287,de P "_law_far" 685<|.ref 294,de P "_law_diff" 691<|.ref 299,de P "_law_longest" 697<|.ref 304,de P "_law_apart" 703<|.ref 309,de P "law" 709 (.ref 314)]) 25
abbrev Ou:Ze:=i8 [.int 1 0,.int 0 0,.ref 20,.int 5 0,.int 0 0,.ref 27,.int 23 0,.int 0 0,.ref 71,.int 66 0,.int 0 0,.ref 144,.int 70 0,.int 0 0,.ref 151,.int 504 0,.int 0 0,.ref 252,.int 513 0,.int 0 0,.ref 260,.int 576 0,.int 0 0,.ref 267,.int 585 0,.int 0 0,.ref 274,.int 592 0,.int 0 0,.ref 279,.int 607 0,.int 0 0,.ref 286,.int 611 0,.int 0 0,.ref 293,.int 618 0,.int 0 0,.ref 298,.int 636 0,.int 0 0,.ref 303,.int 643 0,.int 0 0,.ref 308,.int 659 0,.int 0 0,.ref 313]
abbrev aaq:Ze:=bo [ah "start" 595,ah "stop" 596,ah "beginning" 597,ah "length" 598]
abbrev aar:Ze:=bI "_format_range_unified" "_format_range_unified" oH
abbrev B8:Ze:=cz "_format_range_unified" "_format_range_unified" 592 504 2 0 3 247 599
abbrev vH:Ze:=bQ "_format_range_unified" "_format_range_unified" oH .none (.str (cZ oH) 601) "cpy313.difflib" 194 252
abbrev sJ:Ze:=bo [ah "" 603,ah "" 604,ah "" 605,ah "" 606,.int 3 607,ah "\n" 608]
abbrev aas:Ze:=bo [ah "a" 612,ah "b" 613,ah "fromfile" 614,ah "tofile" 615,ah "fromfiledate" 616,ah "tofiledate" 617,ah "n" 618,ah "lineterm" 619,ah "started" 620,ah "group" 621,ah "fromdate" 622,ah "todate" 623,ah "first" 624,ah "last" 625,ah "file1_range" 626,ah "file2_range" 627,ah "tag" 628,ah "i1" 629,ah "i2" 630,ah "j1" 631,ah "j2" 632,ah "line" 633]
abbrev aat:Ze:=bI "unified_diff" "unified_diff" cP
abbrev B9:Ze:=cz "unified_diff" "unified_diff" 609 513 8 0 35 255 634
abbrev iK:Ze:=bQ "unified_diff" "unified_diff" cP (.ref 254) (.str (cZ cP) 636) "cpy313.difflib" 194 260
abbrev aau:Ze:=bo [ah "a" 641,ah "b" 642,ah "args" 643,ah "arg" 644]
abbrev aav:Ze:=bI "_check_types" "_check_types" fS
abbrev Ca:Ze:=cz "_check_types" "_check_types" 638 576 2 0 7 262 645
abbrev pV:Ze:=bQ "_check_types" "_check_types" fS .none .none "cpy313.difflib" 194 267
abbrev aaw:Ze:=bo [ah "z" 653,ah "signs" 654,ah "sign" 655,ah "code" 656]
abbrev aax:Ze:=bI "_law_line" "_law_line" qb
abbrev Cb:Ze:=cM "code" [ah "_law_line" 650,ah "_law_line" 651,ah "/claim/cut.py" 652,.int 585 0,.int 1 0,.int 0 0,.int 0 0,.int 3 0,.ref 269,.bool ZW,.int 181 0,.ref 270,.none,.ref 271,.ref 272,.ref 273,.int 657 0,.int 585 0,ah "/claim/cut.py" 658]
abbrev vI:Ze:=bQ "_law_line" "_law_line" qb .none .none "law_mt0001_01" 648 274
abbrev aay:Ze:=bI "_law_read" "_law_read" gy
abbrev Cc:Ze:=cM "code" [ah "_law_read" 660,ah "_law_read" 661,ah "/claim/cut.py" 662,.int 592 0,.int 2 0,.int 0 0,.int 0 0,.int 3 0,.ref 276,.bool ZW,.int 181 0,.ref 277,.none,.none,.none,.ref 278,.int 663 0,.int 592 0,ah "/claim/cut.py" 664]
abbrev vJ:Ze:=bQ "_law_read" "_law_read" gy .none .none "law_mt0001_01" 648 279
abbrev aaz:Ze:=bo [ah "start" 669,ah "size" 670]
abbrev aaA:Ze:=bI "_law_range" "_law_range" qc
abbrev Cd:Ze:=cM "code" [ah "_law_range" 666,ah "_law_range" 667,ah "/claim/cut.py" 668,.int 607 0,.int 2 0,.int 0 0,.int 0 0,.int 3 0,.ref 281,.bool ZW,.int 181 0,.ref 282,.none,.ref 283,.ref 284,.ref 285,.int 671 0,.int 607 0,ah "/claim/cut.py" 672]
abbrev vK:Ze:=bQ "_law_range" "_law_range" qc .none .none "law_mt0001_01" 648 286
abbrev aaB:Ze:=bo [ah "rows" 677,ah "n" 678,ah "told" 679,ah "far" 680,ah "sign" 681,ah "line" 682]
abbrev aaC:Ze:=bI "_law_far" "_law_far" qd
abbrev Ce:Ze:=cM "code" [ah "_law_far" 674,ah "_law_far" 675,ah "/claim/cut.py" 676,.int 611 0,.int 2 0,.int 0 0,.int 0 0,.int 3 0,.ref 288,.bool ZW,.int 181 0,.ref 289,.none,.ref 290,.ref 291,.ref 292,.int 683 0,.int 611 0,ah "/claim/cut.py" 684]
abbrev vL:Ze:=bQ "_law_far" "_law_far" qd .none .none "law_mt0001_01" 648 293
abbrev aaD:Ze:=bI "_law_diff" "_law_diff" fy
abbrev Cf:Ze:=cM "code" [ah "_law_diff" 686,ah "_law_diff" 687,ah "/claim/cut.py" 688,.int 618 0,.int 2 0,.int 0 0,.int 0 0,.int 3 0,.ref 295,.bool ZW,.int 181 0,.ref 296,.none,.none,.none,.ref 297,.int 689 0,.int 618 0,ah "/claim/cut.py" 690]
abbrev vM:Ze:=bQ "_law_diff" "_law_diff" fy .none .none "law_mt0001_01" 648 298
abbrev aaE:Ze:=bI "_law_longest" "_law_longest" mn
abbrev Cg:Ze:=cM "code" [ah "_law_longest" 692,ah "_law_longest" 693,ah "/claim/cut.py" 694,.int 636 0,.int 3 0,.int 0 0,.int 0 0,.int 3 0,.ref 300,.bool ZW,.int 181 0,.ref 301,.none,.none,.none,.ref 302,.int 695 0,.int 636 0,ah "/claim/cut.py" 696]
abbrev vN:Ze:=bQ "_law_longest" "_law_longest" mn .none .none "law_mt0001_01" 648 303
abbrev aaF:Ze:=bI "_law_apart" "_law_apart" eV
abbrev Ci:Ze:=cM "code" [ah "_law_apart" 698,ah "_law_apart" 699,ah "/claim/cut.py" 700,.int 643 0,.int 3 0,.int 0 0,.int 0 0,.int 3 0,.ref 305,.bool ZW,.int 181 0,.ref 306,.none,.none,.none,.ref 307,.int 701 0,.int 643 0,ah "/claim/cut.py" 702]
abbrev vO:Ze:=bQ "_law_apart" "_law_apart" eV .none .none "law_mt0001_01" 648 308
abbrev aaG:Ze:=bI "law" "law" bh
abbrev Cj:Ze:=cM "code" [ah "law" 704,ah "law" 705,ah "/claim/cut.py" 706,.int 659 0,.int 1 0,.int 0 0,.int 0 0,.int 3 0,.ref 310,.bool ZW,.int 181 0,.ref 311,.none,.none,.none,.ref 312,.int 707 0,.int 659 0,ah "/claim/cut.py" 708]
abbrev Ck:Ze:=bQ "law" "law" bh .none .none "law_mt0001_01" 648 313
abbrev zO(P:Ym):List Ze:=nk P (eM P) Ou++(rD P++(uG P++(lS P (OG P) (gw P)++[aR,bC,aaq,aR,aar,B8,vH,sJ,aR,bC,aas,aR,aat,B9,iK,aR,bC,aau,aR,aav,Ca,pV,aR,bC,aaw,aR,aax,Cb,vI,aR,bC,aay,Cc,vJ,aR,bC,aaz,aR,aaA,Cd,vK,aR,bC,aaB,aR,aaC,Ce,vL,aR,bC,aaD,Cf,vM,aR,bC,aaE,Cg,vN,aR,bC,aaF,Ci,vO,aR,bC,aaG,Cj,Ck])))
abbrev adj(P:Ym):BT:=lR 12<|zO P
abbrev S3(w:Yg)(a:XG):Ur:=⟨adj w.params,315,l0,Y7 [],drawn,710,a⟩
abbrev CO:Vk:=⟨659,0,682,29⟩
abbrev ar(P:Ym):Xq:=⟨Y7<|zO P,l0⟩
abbrev env:Ri:={scope:=pw.main.scope,locals:=mainNs,globals:=mainNs,cells:=[],code:=.ref 13,frame:=Z7 14}
abbrev bE:List YR:=behindTheImports pw
abbrev cE:Sc:=.body bE env
abbrev zP:Vk:=⟨0,0,0,0⟩
abbrev B:List Rm:=[topFrame zP]
abbrev tP(c:Array Nat)(p:Nat->Bool)(a b:Nat):Bool:=match Xc a 0 with
 |true=>match Xc b c.size with
  |true=>R.anyR c.toList p|false=>RE c p a b
 |false=>RE c p a b
def anyC:@RE Nat=tP:=by funext c p a b;unfold tP;cases h:Xc a 0 with|false=>rfl;|true=>cases d:Xc b c.size with|false=>rfl;|true=>have e:=U1 h;have f:=U1 d;subst e f;show(?_:c.any p=_);rw[<-Array.any_toList,R.anyR_eq]
abbrev tb(b:XF)(a:String):Option XF:=match Xc (PySem.W.Fast.tw13482112738370960269 a) 29827186395103491166823348853 with
 |true=>Z7 b|false=>PySem.W.Fast.tw14364793385576792824 a
def ac7:entriesT.find 29827186395103491166823348853=Z7 XF.«type.__new__»:=⋯
def ac0:UV=tb XF.«type.__new__»:=by funext id;unfold tb;rw[<-PySem.W.Fast.te13482112738370960269,<-PySem.W.Fast.te14364793385576792824];cases h:Xc (PySem.code id) 29827186395103491166823348853 with|false=>rfl;|true=>have e:=U1 h;show(?_:entriesT.find (PySem.code id)=_);rw[e,ac7]
abbrev DX:List YR:=body.take 3
abbrev DY:List YR:=(body.drop 3).take 1
abbrev s5:List YR:=(body.drop 4).take 2
abbrev D0:List YR:=body.drop 6
abbrev kk(p:Wx)(w:Yg)(n:Nat)(S:Ur)(a:List YR)(b:Ri)(c:Sc)(d:Vk)(B:List Rm):Option (Flow×Ur×Sc×Vk):=Pn UV p w 11 (Z7<|.ref 6) 1 n S<|PU a b c d B
def mkk:(λ(_ _:type_of%kk)=>ZW) kk kk=ZW:=by k_qdec
abbrev kp(p:Wx)(w:Yg)(s a:ZL)(c:Sc)(z:Vk)(B:List Rm):Option (ZL×Thread)×Option (ZL×Thread):=(topGo UV p w 11 (Z7<|.ref 6) 12 s<|topStub p,Z7 (a,⟨denote UV c,c,z,B⟩))
def mkp:(λ(_ _:type_of%kp)=>ZW) kp kp=ZW:=by k_qdec
abbrev kl(p:Wx)(w:Yg)(s:ZL)(b:List YR)(a:Ri)(c:Sc)(z:Vk)(B:List Rm):Option (Flow×ZL×Sc×Vk):=segRun UV p w 11 (Z7<|.ref 6) 1 1 s<|blockOf b a c z B
def mkl:(λ(_ _:type_of%kl)=>ZW) kl kl=ZW:=by k_qdec
abbrev kf(p:Wx)(w:Yg)(s:ZL)(c:Sc)(z:Vk)(B:List Rm):Option ZL:=topRun UV p w 11 (Z7<|.ref 6) 2 s ⟨doneF .next,c,z,B⟩
def mkf:(λ(_ _:type_of%kf)=>ZW) kf kf=ZW:=by k_qdec
def JZ(w:Yg)(a:XG):kk pw w 362 (SA w a) DX env cE CP B=Z7 (.next,S0 w a,cE,CN):=by rw[PySem.W.Fast.te5887355013024774941];kernel_rfl
def J0(w:Yg)(a:XG):kk pw w 1047 (S0 w a) DY env cE CN B=Z7 (.next,S1 w a,cE,sP):=by rw[PySem.W.Fast.te5887355013024774941];kernel_rfl
def J3(w:Yg)(a:XG):kk pw w 359 (S2 w a) D0 env cE sQ B=Z7 (.next,S3 w a,cE,CO):=by rw[PySem.W.Fast.te5887355013024774941];kernel_rfl
abbrev ach(d:ZD):YR->YR
 |.ClassDef n b k (.Expr (.Constant (.str _) i p) z::r) e t u v x y o=>.ClassDef n b k (.Expr (.Constant (.str d) i p) z::r) e t u v x y o|st=>st
abbrev DZ(d:ZD):List YR:=[wA,ach d dN]
abbrev k2(b:XF)(p:Wx)(w:Yg)(n:Nat)(S:Ur)(a:List YR)(d:Ri)(c:Sc)(e:Vk)(B:List Rm):Option (Flow×Ur×Sc×Vk):=Pn (tb b) p w 11 (Z7<|.ref 6) 1 n S<|PU a d c e B
def mk2:(λ(_ _:type_of%k2)=>ZW) k2 k2=ZW:=by k_qdec
def acI:s5=DZ (cZ dN):=⋯
def J7:∃F:(Array Nat->(Nat->Bool)->Nat->Nat->Bool)->XF,∃l:List Char,Vx=F (@RE Nat)/\cZ dN=Z9 (String.ofList l)/\∀w a,@PySem.W.Fast.tw13548834284501389479 (F tP) pw w 696 (S1 w a) (DZ ⟨(l.map Char.toNat).toArray⟩) env cE sP B=Z7 (.next,xK ⟨(l.map Char.toNat).toArray⟩ w a,cE,sQ):=by
 show⟨?F,?l,?h,?d,λw a=>?k⟩;case h=>delta Vx;generalize@RE Nat=A;show SO _
 case d=>show SO<|cZ dN
 case k=>kernel_rfl
def J1(w:Yg)(a:XG):Pn (tb XF.«type.__new__») pw w 11 (Z7 (.ref 6)) 1 696 (S1 w a) (PU s5 env cE sP B)=Z7 (.next,S2 w a,cE,sQ):=by obtain⟨F,l,h,d,k⟩:=J7;rw[S2,acI,d,Fast.ofString_ofList,PySem.W.Fast.te4202317264376624991,h,anyC];show(congrFun (congrFun (congrFun (congrFun (congrFun (congrFun (congrFun (congrFun (congrFun (congrFun PySem.W.Fast.te13548834284501389479 _) _) _) _) _) _) _) _) _) _).trans<|k w a
@[reducible]abbrev ann:Option ZN:=Z7<|.ref 6
abbrev wo(w:Yg)(a:XG):ZL:=⟨RD w.params,Y7 [],boot_drawn,boot_toks,a⟩
abbrev wq(w:Yg)(a:XG):ZL:=⟨KB w.params,Y7 [],drawn,187,a⟩
abbrev p4(w:Yg)(a:XG):ZL:=⟨ar w.params,Y7 [],drawn,710,a⟩
def J6(w:Yg)(a:XG):(kp pw w (wo w a) (wq w a) cE zP B).1=(kp pw w (wo w a) (wq w a) cE zP B).2:=by rw[PySem.W.Fast.te12848600500954334847];kernel_rfl
def J4(w:Yg)(a:XG):kl pw w (wq w a) bE env cE zP B=Z7 (.next,(SA w a).abs,cE,CP):=by rw[PySem.W.Fast.te3398768791496185655];kernel_rfl
def J5(w:Yg)(a:XG):kf pw w (S3 w a).abs cE CO B=Z7 (p4 w a):=by rw[PySem.W.Fast.te3775652316193032991];kernel_rfl
def J2(w:Yg)(a:XG):Pn UV pw w 11 (Z7 (.ref 6)) 1 696 (S1 w a) (PU s5 env cE sP B)=Z7 (.next,S2 w a,cE,sQ):=by rw[ac0];show J1 w a
def ab8(w:Yg)(a:XG):topRun UV pw w 11 (Z7 (.ref 6)) (12+(1+(362+(1047+(696+(359+2)))))) (wo w a) (topStub pw)=Z7 (p4 w a):=go_top (J6 w a) (piece_block (J4 w a)<|QA (l:=DX) (rest:=DY++(s5++(D0++[]))) (Qz<|JZ w a)<|QA (Qz<|J0 w a)<|QA (Qz<|J2 w a)<|QA (Qz<|J3 w a)<|piece_nil<|J5 w a)
abbrev q:Wx:=view pw [0,2,3,4,5,6,8,10,11,12,13,14,15,16,17]
abbrev loose:List ZD:=[.ofString "_tuplegetter",.ofString "Match",.ofString "SequenceMatcher",.ofString "unified_diff"]
abbrev Xt(s:ZL):Bool:=xlAt q [] s&&recOk [] s
abbrev Bg:List ZD:=importedModules pw.main.body
abbrev shG(w:Yg)(a:XG):ZL:={p4 w a with gens:=#[]}
abbrev c0(h:Xq):=((h.isNs Xd&&(Y7 ([]:List YD)).size==0),h.objs.size,h.nsMap Xd "__annotations__")
def mkc0:(λ(_ _:type_of%c0)=>ZW) c0 c0=ZW:=by k_qdec
abbrev c4(q:Wx)(a m:List ZD)(h:Xq)(s g:ZL):=(seen ((recsOf q).map (·.name)) (ownsOf q) [] g,h.bltView,(h.keysOk (looseW q a) ((recsOf q).map (·.name)) ((litsOf q).map (·.1)) ((clssOf q<|looseW q a).map (·.name))&&h.accountedOkI m&&h.isNs Xd&&h.isNs Vw&&tablesOk q h&&(xlAt q [] s&&recOk [] s)&&(if ZW then s.gens.size==0 else !leftWithCleanup s.gens)),tabsOk q s,pinSeenD q (drecsOf q) s,plainSeenE q (looseW q a) s,plainSeenD q a s,wideSeen q s,clsSeenW q a s)
def mkc4:(λ(_ _:type_of%c4)=>ZW) c4 c4=ZW:=by k_qdec
abbrev d4(q:Wx)(a:List ZD):=(pinGoodD<|drecsOf q,plainGoodE q<|looseW q a)
def mkd4:(λ(_ _:type_of%d4)=>ZW) d4 d4=ZW:=by k_qdec
def adK(w:Yg):c0 (RD w.params)=(ZW,11,(Z7 (Zr 6):Option ZN)):=by rw[PySem.W.Fast.te14631430519169160753];kernel_rfl
def adL(w:Yg)(a:XG):(staticsOk Bg (RD w.params) (ar w.params)&&namesBound pw (ar w.params)&&gensDone (p4 w a)&&laidKept (RD w.params) (ar w.params))=ZW:=⋯
def adM(w:Yg)(a:XG):c4 q loose Bg (ar w.params) (p4 w a) (shG w a)=(expectedOf q,bltViewBooted,ZW,ZW,(d4 q loose).1,(d4 q loose).2,plainGoodD q loose,wideGood q,clsGoodW q loose):=by rw[PySem.W.Fast.te8902883440061526510,PySem.W.Fast.te10964904491756968499];kernel_rfl
def aaS:opening pw=plainProg pw.main.scope.names:=⋯
def left:LeftO pw q loose Xt (λs=>s.heap) (λw=>ar w.params) 5000:=LeftO.of_pieces (H₀:=RD) (H₁:=ar) (gs₀:=Y7 []) (gs₁:=Y7 []) (d₀:=boot_drawn) (d₁:=drawn) (k₀:=boot_toks) (k₁:=710) (m₀:=11) (ann:=Z7<|.ref 6) (M:=12+(1+(362+(1047+(696+(359+2)))))) (boot_open aaS (by decide) λb=>rfl) (λw=>adK w) ab8 (by decide) (λw=>funext λa=>congr (congrArg Prod.mk<|adL w a)<|congrArg (λx=>(x,ar w.params))<|adM w a)
abbrev ws(l:OpenLaw):Bool:=l.wellSaid
def ad2:(λ(_ _:type_of%ws)=>ZW) ws ws=ZW:=by k_qdec
def tws:PySem.W.Fast.tw1198176466709196596 Yw=ZW:=⋯
def Mi:Yw.wellSaid=ZW:=(congrFun PySem.W.Fast.te1198176466709196596 _).trans tws
def hX:∀s,Xt s=ZW->XL q [] (s.heap.nsMap Xd) s.heap:=λs e=>xl_of s (R8.mp e).1
def head{d:DefRec}{kwd:List (ZD×X7)}(c:defOf q (Z9 "law")=Z7 (d,kwd))(g:pw.theDef (Z9 "law")=Z7 (d.params,d.body,d.scope))(i:kwWritten? d.params.kwonlyargs d.params.kw_defaults=Z7 kwd)(walk:WalkO q loose (XL q []) (λw h=>∀a o,(ar w.params).get? a=Z7 o->h.get? a=Z7 o) Yw.row.toRowW d kwd λf j=>PySem.call f j):Yw.Holds:=by
 show holds_law Mi λb=>?_;show PySem.W.holds_open (r:=Yw.row) (q:=q) (loose:=loose) (Xt:=Xt) (XP:=XL q []) (Yf:=λs=>s.heap) (Ya:=λw=>ar w.params) (YP:=λw h=>∀a o,(ar w.params).get? a=Z7 o->h.get? a=Z7 o) (N:=5000) left (λw s e a o h=>by rw[show s.heap=ar w.params from e];show h) (λw h m y k a o e=>k a o<|y a o e) hX XL.keeps c g i (λs e=>recFacts_of (R8.mp e).2) (by rfl) b dk ⟨rfl,rfl,rfl,rfl,rfl,dk⟩ ?l walk;case l=>w_witness2
end Mine
open PySem PySem.W PyProof.Rows
namespace Mine.Internal
abbrev IO:YR->Vk
 |.FunctionDef _ _ _ _ _ _ _ _ _ p=>p|_=>zP
abbrev yx:DefRec:=⟨Z9 "law",cY bh,aA bh,aw bh,IO bh⟩
@[reducible]abbrev Keeps(h b:Xq):Prop:=∀a o,h.get? a=Z7 o->b.get? a=Z7 o
def Mf(P):(ar P).get? 3=Z7 (eM P):=⋯
def Mh(Y:Keeps (ar P) h)(g:h.Ns Xd b):b (Z9 "law")=Z7 (.ref 314):=by show m6 g ?_;clear g;intro o c d f hd l i;have e:=Y _ _<|Mf P;have j:Z7 (eM P)=Z7 o:=e.symm.trans f;cases j;rw[<-i];have a:(eM P).data=.dict c d:=hd;unfold eM at a;injection a with k m;rw[<-k];kernel_rfl
set_option genCtorIdx true in inductive AV where|none|bool(b:Bool)|int(i:Int)|str(x:ZD)|tup(l:List AV)|lst(l:List AV)|ref(a:Zw)|raw(v:ZN)|ext(P:(Zw->Option Ze)->ZN->Prop)deriving Inhabited
def nAV:Nonempty AV:=⟨.none⟩
abbrev cv(D:List Zw)(h:Xq)(a:Zw):Option Ze:=if a∈D then Z4 else h.get? a
abbrev mL(P:(Zw->Option Ze)->ZN->Prop):Prop:=∀g b v,(∀a o,g a=Z7 o->b a=Z7 o)->P g v->P b v
def o6(d:∀a o,a∉D->h.get? a=Z7 o->a∉b/\c.get? a=Z7 o):∀a o,cv D h a=Z7 o->cv b c a=Z7 o:=λa o e=>by
 unfold cv at e⊢;by_cases q:a∈D;.replace e:=(if_pos q)▸e;cases e
 .replace e:=(if_neg q)▸e;exists if_neg (d a o q e).1;show(d a o q e).2
mutual inductive aB(D:List Zw)(h:Xq):ZN->AV->Prop|none:aB D h .none .none|bool(b):aB D h (.bool b) (.bool b)|int(i t):aB D h (.int i t) (.int i)|str(x t):aB D h (.str x t) (.str x)|ref(a):aB D h (.ref a) (.ref a)|raw(v):aB D h v (.raw v)|ext{v P}:mL P->P (cv D h) v->aB D h v (.ext P)|tup{a vs n l}:a∉D->h.get? a=some ⟨.type "tuple",Z4,.seq vs n,#[]⟩->aD D h vs.toList l->aB D h (.ref a) (.tup l)|lst{a vs n l}:a∉D->h.get? a=some ⟨.type "list",Z4,.seq vs n,#[]⟩->aD D h vs.toList l->aB D h (.ref a) (.lst l)inductive aD(D:List Zw)(h:Xq):List ZN->List AV->Prop|nil:aD D h [] []|cons{v vs a as}:aB D h v a->aD D h vs as->aD D h (v::vs) (a::as)end
section
variable{D D':List Zw}{h h':Xq}(hk:∀a o,a∉D->h.get? a=Z7 o->a∉D'/\h'.get? a=Z7 o)
include hk
def aB.move{v c}(r:aB D h v c):aB D' h' v c:=aB.rec (motive_1:=λv c a=>aB D' h' v c) (motive_2:=λd e a=>aD D' h' d e) .none .bool .int .str .ref .raw (λm p=>.ext m<|m _ _ _ (o6 hk) p) (λhd b a r=>.tup (hk _ _ hd b).1 (hk _ _ hd b).2 r) (λhd b a r=>.lst (hk _ _ hd b).1 (hk _ _ hd b).2 r) .nil (λa a r f=>.cons r f) r
def aD.move{c d}(r:aD D h c d):aD D' h' c d:=aD.rec (motive_1:=λv e a=>aB D' h' v e) (motive_2:=λc d a=>aD D' h' c d) .none .bool .int .str .ref .raw (λm p=>.ext m<|m _ _ _ (o6 hk) p) (λhd b a r=>.tup (hk _ _ hd b).1 (hk _ _ hd b).2 r) (λhd b a r=>.lst (hk _ _ hd b).1 (hk _ _ hd b).2 r) .nil (λa a r f=>.cons r f) r
end
inductive xz(i:Int):ZN->Prop|mk(t):xz i (.int i t)
inductive xA(x:ZD):ZN->Prop|mk(t):xA x (.str x t)
inductive tD(nm:String)(D:List Zw)(h:Xq)(l:List AV):ZN->Prop|mk{a vs n}:a∉D->h.get? a=some ⟨.type nm,Z4,.seq vs n,#[]⟩->aD D h vs.toList l->tD nm D h l (.ref a)
inductive xx(D:List Zw)(h:Xq)(a:AV)(as:List AV):List ZN->Prop|mk{v vs}:aB D h v a->aD D h vs as->xx D h a as (v::vs)
inductive xy(P:(Zw->Option Ze)->ZN->Prop)(D:List Zw)(h:Xq)(v:ZN):Prop|mk:mL P->P (cv D h) v->xy P D h v
inductive xr(D:List Zw)(h:Xq)(a:AV):List ZN->Prop|mk{v}:aB D h v a->xr D h a [v]
inductive xt(D:List Zw)(h:Xq)(a b:AV):List ZN->Prop|mk{v w}:aB D h v a->aB D h w b->xt D h a b [v,w]
inductive xu(D:List Zw)(h:Xq)(a b c:AV):List ZN->Prop|mk{v w x}:aB D h v a->aB D h w b->aB D h x c->xu D h a b c [v,w,x]
inductive xw(D:List Zw)(h:Xq)(a b c d:AV):List ZN->Prop|mk{v w x y}:aB D h v a->aB D h w b->aB D h x c->aB D h y d->xw D h a b c d [v,w,x,y]
def aB.iI{i}(r:aB D h v (.int i)):xz i v:=by cases r;show⟨_⟩
def aB.iS{x}(r:aB D h v (.str x)):xA x v:=by cases r;show⟨_⟩
def aB.iN(r:aB D h v .none):v=.none:=by cases r;rfl
def aB.iB{b}(r:aB D h v (.bool b)):v=.bool b:=by cases r;rfl
def aB.iR{a}(r:aB D h v (.ref a)):v=.ref a:=by cases r;rfl
def aB.iX{P}(r:aB D h v (.ext P)):xy P D h v:=by cases r;show⟨‹_›,‹_›⟩
def aB.iT{l}(r:aB D h v (.tup l)):tD "tuple" D h l v:=by cases r;show⟨‹_›,‹_›,‹_›⟩
def aB.iL{l}(r:aB D h v (.lst l)):tD "list" D h l v:=by cases r;show⟨‹_›,‹_›,‹_›⟩
def aD.iN(r:aD D h a []):a=[]:=by cases r;rfl
def aD.iC{a c}(r:aD D h b (a::c)):xx D h a c b:=by cases r;show⟨‹_›,‹_›⟩
def aD.i1{a}(r:aD D h b [a]):xr D h a b:=by obtain⟨x,q⟩:=r.iC;cases q.iN;show⟨x⟩
def aD.i2{a b}(r:aD D h c [a,b]):xt D h a b c:=by obtain⟨x,q⟩:=r.iC;cases q.i1 with|mk y=>show⟨x,y⟩
def aD.i3{a b c}(r:aD D h d [a,b,c]):xu D h a b c d:=by obtain⟨x,q⟩:=r.iC;cases q.i2 with|mk y z=>show⟨x,y,z⟩
def aD.i4{a b c d}(r:aD D h e [a,b,c,d]):xw D h a b c d e:=by obtain⟨x,q⟩:=r.iC;cases q.i3 with|mk y z u=>show⟨x,y,z,u⟩
def aB.keeps{D h h' v b}(r:aB D h v b)(k:Keeps h h'):aB D h' v b:=r.move λa o hd e=>⟨hd,k a o e⟩
def aD.keeps{D h h' b c}(r:aD D h b c)(k:Keeps h h'):aD D h' b c:=r.move λa o hd e=>⟨hd,k a o e⟩
def aB.less{D b h v c}(r:aB D h v c)(k:∀a,a∈b->a∈D):aB b h v c:=r.move λa o hd e=>⟨λq=>hd<|k a q,e⟩
def aD.less{D b h c d}(r:aD D h c d)(k:∀a,a∈b->a∈D):aD b h c d:=r.move λa o hd e=>⟨λq=>hd<|k a q,e⟩
def aD.length{D h}{c b}(r:aD D h c b):c.length=b.length:=by induction b generalizing c with|nil=>cases r.iN;rfl;|cons a b d=>obtain⟨e,q⟩:=r.iC;show congrArg (·+1)<|d q
def aD.get{D h}{d c}(r:aD D h d c){i:Nat}{a}(e:c[i]?=Z7 a):∃v,d[i]?=Z7 v/\aB D h v a:=by induction c generalizing d i with|nil=>cases e;|cons b c f=>obtain⟨x,q⟩:=r.iC;cases i with|zero=>cases e;show ae _ rfl x;|succ i=>show f q e
def aD.append{D h}{c b d e}(r:aD D h c b)(q:aD D h d e):aD D h (c++d) (b++e):=by induction b generalizing c with|nil=>exists r.iN;show q;|cons a b f=>obtain⟨x,y⟩:=r.iC;show .cons x<|f y
structure c7(s s':ZL):Prop where
 keep:Keeps s.heap s'.heap
 size:s.heap.objs.size<=s'.heap.objs.size
 gens:s'.gens=s.gens
 os:s'.os=s.os
def c7.refl(s):c7 s s:=⟨λa a e=>e,ZR _,rfl,rfl⟩
def c7.tok(s)(t):c7 s {s with toks:=t}:=⟨λa a e=>e,ZR _,rfl,rfl⟩
def c7.push(s)(o)(t):c7 s {s with heap:=s.heap.push o,toks:=t}:=⟨λa a e=>ZT _ e,by show(?_:_<=(s.heap.push o).objs.size);rw[PS];show Wn _,rfl,rfl⟩
@[reducible]abbrev Loc:=List<|ZD×AV
abbrev dM(b:Loc)(x:ZD)(a:AV):Loc:=(x,a)::b.filter (λp=>!(p.1==x))
def MM{c:Loc}(h:(y==x)=ZX):(c.filter λp=>!(p.1==x)).lookup y=c.lookup y:=by induction c with|nil=>rfl;|cons p r d=>
  obtain⟨z,a⟩:=p;by_cases b:(z==x)=ZW
  .have t:(y==z)=ZX:=by have e:=eq_of_beq b;exists e;show h
   simp[XV,b,ZG,t,d]
  .simp only[XK]at b;simp only[XV,b,R7,if_true,ZG,d]
def l5:(dM b x a).lookup y=if y=x then Z7 a else b.lookup y:=by
 unfold dM;by_cases e:y=x;.exists e;simp[ZG]
 .have p:(y==x)=ZX:=by simpa using e
  exists ZG,p,if_neg e;show MM p
def c9(h:Xq):h.get? h.objs.size=Z4:=by cases e:h.get? h.objs.size with|none=>rfl;|some o=>show absurd (Zg e)<|YH _
abbrev bN:X7->Bool
 |.Starred ..=>ZW|_=>ZX
def gr{a:Ri}:∀{c:List X7},c.any bN=ZX->(WR b (Yd c a)).any (·.1)=ZX:=by intro d;induction d with|nil=>showλ_=>rfl;|cons e r f=>intro h;ext b a e r;rw[YB,YL]at h;have:=f h.2;cases e<;>first|show this|(cases(show ZW=ZX from h.1))
def fU{env:Ri}(h:(e::a).any bN=ZX):Yd (e::a) env=(ZX,eval e env)::Yd a env:=by rw[YB,YL]at h;cases e<;>first|rfl|(cases(show ZW=ZX from h.1))
abbrev am(D:List Zw)(h:Xq)(b:List Zw)(c:Xq):Prop:=∀a o,a∉D->h.get? a=Z7 o->a∉b/\c.get? a=Z7 o
def am.refl(D)(h):am D h D h:=λa a hd e=>⟨hd,e⟩
def am.trans(x:am D h d f)(y:am d f b c):am D h b c:=λa o hd e=>let⟨p,q⟩:=x a o hd e;y a o p q
def am.of(k:Keeps h b):am D h D b:=λa o hd e=>⟨hd,k a o e⟩
def c7.jW(g:c7 s a):am D s.heap D a.heap:=.of g.keep
def MO{b:Type}{l:List (ZD×b)}(a:(l.map (·.1)).Nodup)(x):l.reverse.lookup x=l.lookup x:=by induction l with|nil=>rfl;|cons p l c=>
  rw[Z3,ZC]at a;exists W3,List.lookup_append,c a.2;show(?_:(l.lookup x).or (match x==p.1 with|true=>Z7 p.2|false=>Z4)=match x==p.1 with|true=>Z7 p.2|false=>l.lookup x);cases e:x==p.1;·show Option.or_none
  .exists(W2.mpr λq d=>by show aW (eq_of_beq e) ?_;show bne_iff_ne.mpr λz=>a.1<|Z0.mpr<|ae q d z.symm);rfl
def wX{b:List ZD}(r:aD D h c l)(e:(b.zip l).lookup x=Z7 d):∃v,(b.zip c).lookup x=Z7 v/\aB D h v d:=by induction b generalizing c l with|nil=>cases e;|cons n b f=>cases l with|nil=>cases e;|cons a l=>
   obtain⟨y,q⟩:=r.iC;revert f e y q r;ext D h x d n b a l v vs;rw[Uh,ZG]at e⊢;cases z:x==n<;>replace e:=z▸e;.show f q e
   .cases e;show ae _ rfl y
def wV{b:List ZD}{c:AV}(e:(b.zip l).lookup x=Z7 c):x∈b:=by have:=SM (l:=b.zip l) (k:=x);induction b generalizing l with|nil=>simp at e;|cons n b d=>cases l with|nil=>simp at e;|cons a l=>
   rw[Uh,ZG]at e;by_cases q:(x==n)=ZW;.show(eq_of_beq q)▸.head _
   .simp only[XK]at q;replace e:=q▸e;show .tail _<|d e<|SM
def wW{f:Type}{c:List ZD}:∀{d:List f},c.Nodup->((c.zip d).map (·.1)).Nodup:=by induction c with|nil=>showλ_=>.nil;|cons n c g=>intro d h;cases d with|nil=>show .nil;|cons v d=>rw[ZC]at h;rw[Uh,Z3,ZC];show⟨λq=>?_,g h.2⟩;show aq (Z0.mp q) λp i e=>?_;have j:p.1=n:=e;show h.1<|j▸(UE (a:=p.1) (b:=p.2) i).1
def n9(Y:Keeps (ar P) h):h.NoLimit:=by have p:(ar P).NoLimit:=ae (λc=>Z4) (gi _ _ _ (by kernel_rfl:(ar P).get? cStatics=Z7 (boot_o_2 P)) rfl (λe d=>(by cases d;contradiction)) λc=>rfl) rfl;show aq p ?_;clear p;intro f a b;show ae f (a.keeps Y) b
abbrev cw(o:Ze):Array W4:=match o.data with
 |.dict a _=>a|_=>#[]
def Gv(P):(ar P).get? 3=Z7 (eM P):=⋯
def FW(P):(ar P).get? 0=Z7 (UL P):=⋯
abbrev acF(a:List W4):Bool:=a.all λe=>match e.key with|.str ..=>ZW|_=>ZX
def u8(q:acF (cw o).toList=ZW):PY (cw o):=by intro e a;have p:=Yi.mp q e<|R6.mpr a;revert p;cases e.key<;>simp
def LN(P):PY (cw (eM P)):=u8 ⋯
def sF(Y:Keeps (ar P) h):h.Ns Xd (Wi (cw (eM P))):=gi (eM P) (cw<|eM P) _ (Y _ _<|Gv P) rfl (LN P) λa=>rfl
def LL(P):PY (cw (UL P)):=u8 ⋯
def BD(Y:Keeps (ar P) h):h.Ns Vw (Wi (cw (UL P))):=gi (UL P) (cw<|UL P) _ (Y _ _<|FW P) rfl (LL P) λa=>rfl
def MI{a:Ri}(K:Keeps (ar w.params) s.heap)(e:a.globals=Xd)(c:a.builtins=Vw)(g:a.scope.kind=.function)(i:a.kindOf f=Z7 .globalImplicit)(j:(f==("__debug__":ZD))=ZX)(k:∀P,Wi (cw (eM P)) f=Z4)(l:∀P,Wi (cw (UL P)) f=Z7 d)(h:Q d s):ZE (model pw w) A (eval (.Name f b) a) Q E s:=WN g i (TE (by exists e;show sF K) (k _) (by exists c;show BD K) (l _) h) j
def MJ{a:Ri}(K:Keeps (ar w.params) s.heap)(d:a.globals=Xd)(e:a.scope.kind=.function)(g:a.kindOf f=Z7 .globalImplicit)(i:(f==("__debug__":ZD))=ZX)(j:∀P,Wi (cw (eM P)) f=Z7 c)(h:Q c s):ZE (model pw w) A (eval (.Name f b) a) Q E s:=WN e g (Tk (by exists d;show sF K) (j _) h) i
def p9{n:Int}(a:0<=n)(b:n<10^7):n.natAbs.log2<1920:=by
 have p:n.natAbs<2^24:=(jc 0x6c4e0bf818560684a0a789c30744eb07627582fc860180601845e11) a b<|@R5<|n;by_cases z:n.natAbs=0;·exists z;decide
 .have p:=(Nat.log2_lt z).mpr p;show(ak 0xce5e1c861d809e10) p
def js{n:Int}(b:0<=n)(c:n<10^7):(Z9 (toString n)).length<=10:=by rw[PySem.ofString_length];have p:=int_text_length_le10 (a:=n) (k:=7) (by decide)<|(jc 0x6c4e0bf818560684a0a789c30744eb07627582fc861581a12829e11) b c<|@R5<|n;show(ak 0x62227a1e1c2de10) p
inductive az where|list(l:List AV)|other(o:Ze)|ext(P:(Zw->Option Ze)->Ze->Prop)
def nOw:Nonempty az:=⟨.list []⟩
@[reducible]abbrev ag:=List<|Zw×az
abbrev gD(D:List Zw)(h:Xq)(o:Ze):az->Prop
 |.list l=>∃b n,o=⟨.type "list",Z4,.seq b n,#[]⟩/\aD D h b.toList l|.other d=>o=d|.ext P=>(∀g c o,(∀a o,g a=Z7 o->c a=Z7 o)->P g o->P c o)/\P (cv D h) o
def gD.move(d:am D h b c)(x:gD D h o a):gD b c o a:=by cases a with|list l=>show ec x ?_;clear x;intro f n e r;show b7 f n e<|r.move d;|other g=>show x;|ext P=>show⟨x.1,x.1 _ _ _ (o6 d) x.2⟩
structure Fx where
 w:Yg
 A:YM
 env:Ri
 h₀:Xq
 D₀:List Zw
 a7:List Zw
 held:List (Zw×Ze)G:Array YD->Prop
 os:XG
 fn:env.scope.kind=.function
 glob:env.globals=Xd
 bn:env.builtins=Vw
 hh:A.handled=none
 above:h₀.get? env.locals=none\/env.locals∈a7
 jB:Keeps (ar w.params) h₀
 jK:∀a∈a7,(ar w.params).get? a=none
 eh:∀a∈a7,a∉D₀
 apart:env.cells.Pairwise λx y=>x.2≠y.2
 kt:∀n c,(n,c)∈env.cells->c≠env.locals
 iw:∀n c c',(n,c)∈env.cells->(n,c')∈env.cells->c'=c
 old:∀d∈D₀,∃o,h₀.get? d=some o
 hnl:∀q∈held,q.1≠env.locals
 hnc:∀q∈held,∀n c,(n,c)∈env.cells->q.1≠c
 hab:∀q∈held,h₀.get? q.1=none\/q.1∈a7
def J8(P):(ar P).get? 99999=Z4:=⋯
def nFx:Nonempty Fx:=by
 cases nW with|intro w=>
 show⟨{w:=w,A:={},env:={(default:Ri) with scope:={(default:Vs) with kind:=.function},globals:=Xd,builtins:=Vw,locals:=99999,cells:=[]},h₀:=ar w.params,D₀:=[],a7:=[],held:=[],G:=λb=>True,os:=default,fn:=rfl,glob:=rfl,bn:=rfl,hh:=rfl,above:=.inl<|J8 w.params,jB:=λb v h=>h,jK:=λa h=>(Zn h).elim,eh:=λa h=>(Zn h).elim,apart:=.nil,kt:=λn c h=>(Zn h).elim,iw:=λn c d h=>(Zn h).elim,old:=λa h=>(Zn h).elim,hnl:=λa h=>(Zn h).elim,hnc:=λa h=>(Zn h).elim,hab:=λa h=>(Zn h).elim}⟩
def Fx.inter(X:Fx):interactive X.env=ZX:=by unfold interactive;exists X.fn;rfl
abbrev Fx.wr(X:Fx):Prop:=∀n c,(n,c)∈X.env.cells->X.h₀.get? c=Z4\/c∈X.a7
abbrev aa(X:Fx)(O:ag):List Zw:=O.map (·.1)++(X.held.map (·.1)++X.env.locals::(X.env.cells.map (·.2)++X.D₀))
abbrev cQ(X:Fx)(m a:ZD->Option ZN)(x:ZD)(v:ZN):Prop:=(X.env.kindOf x=Z7 .local/\m x=Z7 v)\/(X.env.kindOf x=Z7 .cell/\a x=Z7 v/\∃c,X.env.cells.lookup x=Z7 c)
inductive xN(X:Fx)(ρ:Loc)(D:List Zw)(h:Xq):Prop|mk(m cm:ZD->Option ZN)(hn:h.Ns X.env.locals m)(hc:∀n c,(n,c)∈X.env.cells->h.IsCell c (cm n))(hv:∀x av,ρ.lookup x=some av->∃v,cQ X m cm x v/\aB D h v av)
inductive jy(X:Fx)(D:List Zw)(h:Xq)(p:Zw×az):Prop|mk(a1:X.h₀.get? p.1=none\/p.1∈X.a7)(a2:p.1≠X.env.locals)(a3:(∀n c,(n,c)∈X.env.cells->p.1≠c)/\∀q∈X.held,p.1≠q.1)(a4:(ar X.w.params).get? p.1=none)(o:Ze)(h1:h.get? p.1=some o)(h2:gD D h o p.2)
def eC{X g D h}{G:Prop}(z:xN X g D h)(f:∀m i,h.Ns X.env.locals m->(∀n c,(n,c)∈X.env.cells->h.IsCell c (i n))->(∀x j,g.lookup x=Z7 j->∃v,cQ X m i x v/\aB D h v j)->G):G:=by cases z with|mk a b c d e=>show f a b c d e
def cL{X D h p}{G:Prop}(z:jy X D h p)(f:(X.h₀.get? p.1=Z4\/p.1∈X.a7)->p.1≠X.env.locals->((∀n c,(n,c)∈X.env.cells->p.1≠c)/\∀q∈X.held,p.1≠q.1)->(ar X.w.params).get? p.1=Z4->∀o:Ze,h.get? p.1=Z7 o->gD D h o p.2->G):G:=by cases z with|mk a b c d e i j=>show f a b c d e i j
def jy.a1{X D h p}:jy X D h p->X.h₀.get? p.1=Z4\/p.1∈X.a7|.mk a _ _ _ _ _ _=>a
def jy.a3{X D h p}:jy X D h p->(∀n c,(n,c)∈X.env.cells->p.1≠c)/\∀q∈X.held,p.1≠q.1|.mk _ _ a _ _ _ _=>a
def jy.a4{X D h p}:jy X D h p->(ar X.w.params).get? p.1=Z4|.mk _ _ _ a _ _ _=>a
structure Fr(X:Fx)(ρ:Loc)(O:ag)(s:ZL):Prop where
 keep:∀a o,a∉X.a7->X.h₀.get? a=some o->s.heap.get? a=some o
 gens:X.G s.gens
 os:s.os=X.os
 vars:xN X ρ (aa X O) s.heap
 held:∀q∈X.held,s.heap.get? q.1=some q.2
 own:∀p∈O,jy X (aa X O) s.heap p
 nd:(O.map (·.1)).Nodup
def Fr.base(F:Fr X b O s):Keeps (ar X.w.params) s.heap:=λa o e=>F.keep a o (λq=>by replace e:=(X.jK a q)▸e;cases e)<|X.jB a o e
def Fr.new(F:Fr X b O s)(h:s.heap.get? a=Z4):X.h₀.get? a=Z4\/a∈X.a7:=by cases e:X.h₀.get? a with|none=>show .inl rfl;|some o=>
  by_cases z:a∈X.a7;·show .inr z
  .have p:=F.keep a o z e;replace p:=h▸p;cases p
def aL:a∈aa X O↔a∈O.map (·.1)\/a=X.env.locals\/(∃n,(n,a)∈X.env.cells)\/a∈X.D₀\/(∃o,(a,o)∈X.held):=by
 ext X O a;unfold aa;rw[ZS,ZS,Z1,ZS];constructor
 .rintro(h|h|h|h|h);.show .inl h
  .show cu h λp b=>?_;show .inr<|.inr<|.inr<|.inr ⟨p.2,b⟩
  .show .inr<|.inl h
  .show cu h λp b=>?_;show .inr<|.inr<|.inl ⟨p.1,b⟩
  .show .inr<|.inr<|.inr<|.inl h
 .rintro(h|h|⟨n,h⟩|h|⟨o,h⟩);.show .inl h
  .show .inr<|.inr<|.inl h
  .show .inr<|.inr<|.inr<|.inl<|Z0.mpr<|ae _ h rfl
  .show .inr<|.inr<|.inr<|.inr h
  .show .inr<|.inl<|Z0.mpr<|ae _ h rfl
def fJ{Q:Prop}(q:a∈aa X O)(e:a∈O.map (·.1)->Q)(f:a=X.env.locals->Q)(g:∀n,(n,a)∈X.env.cells->Q)(h:a∈X.D₀->Q)(i:∀o,(a,o)∈X.held->Q):Q:=by
 show ZI (aL.mp q) (λq=>?_) λb=>ZI b (λq=>?_) λb=>ZI b (λc=>aS c λn q=>?_) λb=>ZI b (λq=>?_) λd=>aS d λo q=>?_;.show e q
 .show f q
 .show g n q
 .show h q
 .show i o q
def Fr.ex(F:Fr X c O s):∀d∈aa X O,∃o,s.heap.get? d=Z7 o:=by
 intro d hd;show fJ hd (λh=>?_) (λh=>?_) (λn h=>?_) (λh=>?_) λo h=>?_;.show cu h λp e=>?_;show cL (F.own p e) λa a a a o b a=>?_;show⟨o,b⟩
 .obtain⟨m,f,⟨o,a,a,b,a⟩,a⟩:=F.vars;exists h;show⟨o,b⟩
 .show eC F.vars λm f a g a=>?_;show aq (g n d h) λo b a=>?_;show⟨o,b⟩
 .show aS (X.old d h) λo b=>?_;show⟨o,F.keep d o (λq=>X.eh d q h) b⟩
 .show⟨o,F.held _ h⟩
def Fr.lt{X:Fx}{c:Loc}{O:ag}{s:ZL}(F:Fr X c O s):∀d∈aa X O,d<s.heap.objs.size:=by
 intro d hd;show fJ hd (λh=>?_) (λh=>?_) (λn h=>?_) (λh=>?_) λo h=>?_;.show cu h λp e=>?_;show cL (F.own p e) λa a a a o b a=>?_;show Zg b
 .obtain⟨m,f,g,a⟩:=F.vars;exists h;show g.lt
 .show eC F.vars λm f a i a=>?_;show(i n d h).lt
 .show aS (X.old d h) λo b=>?_;show Zg<|F.keep d o (λq=>X.eh d q h) b
 .show Zg<|F.held _ h
inductive LstAt(D:List Zw)(h:Xq)(a:Zw)(l:List AV):Prop|mk(vs:Array ZN)(n:Nat)(g:h.get? a=some ⟨.type "list",none,.seq vs n,#[]⟩)(r:aD D h vs.toList l)
def gN{D h a l}{G:Prop}(z:LstAt D h a l)(f:∀(e:Array ZN)(n:Nat),h.get? a=Z7 ⟨.type "list",Z4,.seq e n,#[]⟩->aD D h e.toList l->G):G:=by cases z with|mk a b c d=>show f a b c d
def Fr.cO(F:Fr X c O s)(d:(a,az.list l)∈O):LstAt (aa X O) s.heap a l:=by obtain⟨b,b,b,b,o,e,f,n,rfl,g⟩:=F.own _ d;show⟨f,n,e,g⟩
def Fr.dW(F:Fr X d O s)(f:(a,az.other b)∈O):s.heap.get? a=Z7 b:=by show cL (F.own _ f) λc c c c o g e=>?_;show(show o=b from e)▸g
def Fr.kC(F:Fr X c O s)(d:(a,az.ext P)∈O):∃o,s.heap.get? a=Z7 o/\P (cv (aa X O) s.heap) o:=by obtain⟨b,b,b,b,o,f,b,e⟩:=F.own _ d;show ae o f e
def Fr.move(F:Fr X i O s)(t:am (aa X O) s.heap (aa X b) s'.heap)(u:∀a o,a∉X.a7->X.h₀.get? a=Z7 o->s.heap.get? a=Z7 o->s'.heap.get? a=Z7 o)(w:X.G s'.gens)(y:s'.os=s.os)(z:∀o,s.heap.get? X.env.locals=Z7 o->s'.heap.get? X.env.locals=Z7 o)(A:∀n c,(n,c)∈X.env.cells->∀o,s.heap.get? c=Z7 o->s'.heap.get? c=Z7 o)(C:∀q∈X.held,s.heap.get? q.1=Z7 q.2->s'.heap.get? q.1=Z7 q.2)(f:∀p∈b,jy X (aa X b) s'.heap p)(D:(b.map (·.1)).Nodup):Fr X i b s':=by
 show eC F.vars λm E j G H=>?_;show⟨λa o k e=>u a o k e<|F.keep a o k e,w,y.trans F.os,⟨m,E,?_,λn c h=>?_,λx I e=>?_⟩,λq l=>C q l<|F.held q l,f,D⟩;.show m3 j ?_;clear j;intro o J M d g;show kN o J M (z o d) g
 .show aq (G n c h) λo d g=>?_;show ae o (A n c h o d) g
 .show aq (H x I e) λv d r=>?_;show ae v d<|r.move t
def Fr.grow(F:Fr X d O s)(g:c7 s f):Fr X d O f:=F.move (am.of g.keep) (λa o b b e=>g.keep a o e) (by exists g.gens;show F.gens) g.os (λo e=>g.keep _ o e) (λb c b o e=>g.keep c o e) (λq b e=>g.keep _ _ e) (λp h=>let⟨i,j,k,l,o,m,n⟩:=F.own p h;⟨i,j,k,l,o,g.keep _ _ m,n.move<|am.of g.keep⟩) F.nd
def Fr.fresh(F:Fr X a O s):s.heap.objs.size∉aa X O:=λh=>YH _<|F.lt _ h
def jp(c:h.get? a=Z4):am D h (a::D) h:=λb o d e=>⟨λq=>by
 rcases Z1.mp q with rfl|q;.replace e:=c▸e;cases e
 .show d q,e⟩
def Fr.alloc(F:Fr X f O s)(g:o.isFreed=ZX)(x:gD (aa X O) s.heap o ao):Fr X f ((s.heap.objs.size,ao)::O) {s with heap:=s.heap.push o,toks:=tk}:=by
 revert F g x;injections X f O s o ao tk;intro F g x;have i:am (aa X O) s.heap (aa X ((s.heap.objs.size,ao)::O)) (s.heap.push o):=(jp<|c9 s.heap).trans (am.of λd d e=>ZT _ e);have kp:∀a b,s.heap.get? a=Z7 b->(s.heap.push o).get? a=Z7 b:=λd d e=>ZT _ e;show F.move i (λa b d d e=>kp a b e) F.gens rfl (λb e=>kp _ b e) (λd c d b e=>kp c b e) (λq d e=>kp _ _ e) (λp j=>?_) ?_
 .rcases Z1.mp j with rfl|j;.have k:=F.fresh;show⟨F.new<|c9 _,λq=>k<|aL.mpr<|.inr<|.inl q,⟨λn c h q=>k<|aL.mpr<|.inr<|.inr<|.inl ⟨n,by exists(show s.heap.objs.size=c from q);show h⟩,λq l e=>YH _<|show s.heap.objs.size<s.heap.objs.size from(show s.heap.objs.size=q.1 from e).symm▸Zg (F.held q l)⟩,?_,o,Zu _ g,x.move i⟩;cases e:(ar X.w.params).get? s.heap.objs.size with|none=>rfl;|some b=>show absurd (Zg<|F.base _ _ e)<|YH _
  .show cL (F.own p j) λm r t u b v w=>?_;show⟨m,r,t,u,b,kp _ _ v,w.move i⟩
 .rw[Z3,ZC];show⟨λq=>F.fresh<|aL.mpr<|.inl q,F.nd⟩
abbrev aK(O:ag)(a:Zw)(b:az):ag:=O.map λp=>if p.1=a then(p.1,b)else p
def CT(O)(a)(b):(aK O a b).map (·.1)=O.map (·.1):=by exists YE;congr 1;funext p;simp only[Rl];split<;>rfl
def yJ(a)(b):aa X (aK O a b)=aa X O:=by unfold aa;show aW (CT ..) rfl
def Fr.upd(F:Fr X r O s)(l:(a,d)∈O)(f:∀b o,b≠a->s.heap.get? b=Z7 o->h'.get? b=Z7 o)(t:h'.get? a=Z7 o)(x:gD (aa X O) s.heap o ao):Fr X r (aK O a ao) {s with heap:=h',toks:=tk}:=by
 revert F l f t x;injections X r O s a d o ao h' tk;intro F l f t x;have E:a∈aa X O:=aL.mpr<|.inl<|Z0.mpr<|ae _ l rfl;have u:am (aa X O) s.heap (aa X<|aK O a ao) h':=λb j i e=>⟨by exists yJ ..;show i,f b _ (λq=>i<|q▸E) e⟩;obtain⟨k,G,w,Q,H⟩:=F.own _ l;obtain⟨m,R,S,H⟩:=F.vars;show F.move u (λb j I i e=>f b _ (λq=>?_) e) F.gens rfl (λj e=>f _ _ (Xb G) e) (λn c J j e=>f c _ (Xb<|w.1 n c J) e) (λq M e=>f _ _ (Xb<|w.2 q M) e) (λp N=>?_) (by exists CT ..;show F.nd)
 .subst q;show ZI k (λk=>?_) λk=>?_;.replace i:=k▸i;cases i
  .show I k
 .show cu N λg h=>?_;show cL (F.own g h) λy A C D j v z=>?_;by_cases e:g.1=a;.exists if_pos e;show⟨y,A,C,D,o,e▸t,x.move u⟩
  .exists if_neg e;show⟨y,A,C,D,j,f _ _ e v,z.move u⟩
def Fr.er(F:Fr X f O s)(g:(a,c)∈O)(h:∀b o,b≠a->s.heap.get? b=Z7 o->h'.get? b=Z7 o):am (aa X O) s.heap (aa X (aK O a ao)) h':=λb i d e=>⟨by exists yJ ..;show d,h b _ (λq=>d<|q▸aL.mpr (.inl<|Z0.mpr<|ae _ g rfl)) e⟩
def Fr.update(F:Fr X f O s)(g:(a,c)∈O)(h:YG a s.heap d)(i:d.get? a=Z7 o)(x:gD (aa X O) s.heap o ao):Fr X f (aK O a ao) {s with heap:=d,toks:=tk}:=F.upd g (λb o j e=>(h.2 b j).trans e) i x
def Fr.drop(F:Fr X g O s)(f:d.Sublist O):Fr X g d s:=by have i:am (aa X O) s.heap (aa X d) s.heap:=λa o j e=>⟨λq=>j<|aL.mpr<|(aL.mp q).imp (λh=>(f.map (·.1)).subset h) id,e⟩;show F.move i (λa o b b e=>e) F.gens rfl (λo e=>e) (λb c b o e=>e) (λq b e=>e) (λp k=>let⟨l,m,n,r,o,t,u⟩:=F.own p<|f.subset k;⟨l,m,n,r,o,t,u.move i⟩)<|F.nd.sublist<|f.map _
def Fr.f9(F:Fr X c O s)(d:b.Sublist O):am (aa X O) s.heap (aa X b) s.heap:=λa o f e=>⟨λq=>f<|aL.mpr<|(aL.mp q).imp (λh=>(d.map (·.1)).subset h) id,e⟩
def Fr.bind(F:Fr X H O s)(t:X.env.kindOf x=Z7 .local\/(X.env.kindOf x=Z7 .cell/\X.wr/\∃c,X.env.cells.lookup x=Z7 c))(r:aB (aa X O) s.heap v I)(h:∀i tk,Fr X (dM H x I) O {s with heap:=i,toks:=tk}->am (aa X O) s.heap (aa X O) i->Q () {s with heap:=i,toks:=tk}):ZE (model pw X.w) X.A (storeName X.env x v) Q E s:=by
 ext X H O s x v I Q E;show eC F.vars λm J hn M hv=>?_;show ZI t (λt=>?_) λN=>m2 N λt hw c u=>?_
 .show wpAny_storeName_local t hn (λi R g=>?_) (by exists X.fn;rfl);have j:am (aa X O) s.heap (aa X O) i:=λb o A e=>⟨A,(g.2 b λq=>A<|aL.mpr<|.inr<|.inl q).trans e⟩;show h i _ ⟨λa o C e=>(g.2 a λq=>?_).trans<|F.keep a o C e,F.gens,F.os,⟨_,J,R,λn c f=>(M n c f).sameBut g<|X.kt n c f,λy a e=>?_⟩,λp l=>?_,λp l=>?_,F.nd⟩ j
  .subst q;show ZI X.above (λz=>?_) λz=>?_;.replace e:=z▸e;cases e
   .show C z
  .replace e:=l5▸e;by_cases q:y=x;.replace e:=(if_pos q)▸e;cases e;show ae v (.inl ⟨q▸t,if_pos q⟩)<|r.move j
   .replace e:=(if_neg q)▸e;show aq (hv y a e) λS U V=>?_;show ae S ?_<|V.move j;show ZI U (λW=>aE W λY k2=>?_) λk=>?_;.show .inl ⟨Y,(if_neg q).trans k2⟩
    .show .inr k
  .show(g.2 _<|X.hnl p l).trans<|F.held p l
  .show cL (F.own p l) λZ D G a4 o' w z=>?_;show⟨Z,D,G,a4,o',(g.2 _ D).trans w,z.move j⟩
 .have d:=mem_of_lookup u;show wpAny_storeName_cell X.fn t u (M x c d) λi Lh g=>?_;have j:am (aa X O) s.heap (aa X O) i:=λb o A e=>⟨A,(g.2 b λq=>A<|aL.mpr<|.inr<|.inr<|.inl ⟨x,q▸d⟩).trans e⟩;show h i s.toks ⟨λa o C e=>(g.2 a λq=>?_).trans<|F.keep a o C e,F.gens,F.os,⟨m,λy=>if y=x then Z7 v else J y,hn.sameBut g<|Xb<|X.kt x c d,λn c' f=>?_,λy a e=>?_⟩,λp l=>?_,λp l=>?_,F.nd⟩ j
  .subst q;show ZI (hw x a d) (λz=>?_) λz=>?_;.replace e:=z▸e;cases e
   .show C z
  .by_cases q:n=x;.subst q;have:c'=c:=X.iw n c c' d f;subst this;show(?_:i.IsCell _ (if n=n then Z7 v else J n));exists if_pos rfl;show Lh
   .exists if_neg q;show(M n c' f).sameBut g λe=>q ?_;subst e;show name_of_addr X.apart f d
  .replace e:=l5▸e;by_cases q:y=x;.replace e:=(if_pos q)▸e;cases e;show ae v (.inr<|rN (q▸t) (if_pos q) c<|q▸u)<|r.move j
   .replace e:=(if_neg q)▸e;show aq (hv y a e) λS U V=>?_;show ae S ?_<|V.move j;show ZI U (λk=>?_) λj3=>dt j3 λY k2 k3=>?_;.show .inl k
    .show .inr<|br Y ((if_neg q).trans k2) k3
  ·show(g.2 _<|X.hnc p l x c d).trans<|F.held p l
  .show cL (F.own p l) λZ D G a4 o' w z=>?_;show⟨Z,D,G,a4,o',(g.2 _<|G.1 x c d).trans w,z.move j⟩
abbrev Fx.hold(X:Fx)(I:Zw)(b:Ze)(d:I≠X.env.locals)(e:∀n c,(n,c)∈X.env.cells->I≠c)(f:X.h₀.get? I=Z4\/I∈X.a7):Fx:={X with held:=(I,b)::X.held,hnl:=λq a=>by rcases Z1.mp a with rfl|a<;>first|show d|show X.hnl q a,hnc:=λq a=>by rcases Z1.mp a with rfl|a<;>first|show e|show X.hnc q a,hab:=λq a=>by rcases Z1.mp a with rfl|a<;>first|show f|show X.hab q a}
def Bc{d:I≠X.env.locals}{f:∀n c,(n,c)∈X.env.cells->I≠c}{g:X.h₀.get? I=Z4\/I∈X.a7}:a∈aa (X.hold I b d f g) O↔a∈aa X ((I,i)::O):=by
 revert d f g;injections I O a X i b;intro d f g;rw[aL,aL];constructor
 .rintro(h|h|h|h|⟨o,h⟩);.show .inl<|.tail _ h
  .show .inr<|.inl h
  .show .inr<|.inr<|.inl h
  .show .inr<|.inr<|.inr<|.inl h
  .show ZI (Z1.mp h) (λe=>?_) λh=>?_;.cases e;show .inl<|.head _
   .show .inr<|.inr<|.inr<|.inr ⟨o,h⟩
 .rintro(h|h|h|h|⟨o,h⟩)
  .rcases Z1.mp h with rfl|h;.show .inr<|.inr<|.inr<|.inr ⟨b,.head _⟩
   .show .inl h
  .show .inr<|.inl h
  .show .inr<|.inr<|.inl h
  .show .inr<|.inr<|.inr<|.inl h
  .show .inr<|.inr<|.inr<|.inr ⟨o,.tail _ h⟩
def Ah{O:ag}{d:I≠X.env.locals}{f:∀n c,(n,c)∈X.env.cells->I≠c}{g:X.h₀.get? I=Z4\/I∈X.a7}:am (aa X ((I,i)::O)) h (aa (X.hold I b d f g) O) h:=λa o j e=>⟨λq=>j<|Bc.mp q,e⟩
def DQ{d:I≠X.env.locals}{f:∀n c,(n,c)∈X.env.cells->I≠c}{g:X.h₀.get? I=Z4\/I∈X.a7}:am (aa (X.hold I b d f g) O) h (aa X ((I,i)::O)) h:=λa o j e=>⟨λq=>j<|Bc.mpr q,e⟩
def Fr.ac8{O:ag}{j:I≠X.env.locals}{k:∀n c,(n,c)∈X.env.cells->I≠c}{l:X.h₀.get? I=Z4\/I∈X.a7}(F:Fr X d ((I,.other f)::O) s):Fr (X.hold I f j k l) d O s:=by
 ext I X d f s O;show eC F.vars λm t u w y=>?_;have g:=F.nd;rw[Z3,ZC]at g;show⟨F.keep,F.gens,F.os,⟨m,t,u,w,λx A e=>?_⟩,λq b=>?_,λp h=>?_,g.2⟩;.show aq (y x A e) λv a r=>?_;show ae v a<|r.move Ah
 .rcases Z1.mp b with rfl|b;.show F.dW<|.head _
  .show F.held q b
 .show cL (F.own p<|.tail _ h) λC D i E o G z=>?_;show⟨C,D,⟨i.1,λq b=>?_⟩,E,o,G,z.move Ah⟩;rcases Z1.mp b with rfl|b;.showλe=>g.1<|Z0.mpr<|ae p h e
  .show i.2 q b
def Fr.aaL{i:I≠X.env.locals}{j:∀n c,(n,c)∈X.env.cells->I≠c}{k:X.h₀.get? I=Z4\/I∈X.a7}(F:Fr (X.hold I d i j k) f O s)(g:(ar X.w.params).get? I=Z4)(t:∀q∈X.held,I≠q.1):Fr X f ((I,.other d)::O) s:=by
 ext I f O s X d;show eC F.vars λm u w y A=>?_;show⟨F.keep,F.gens,F.os,⟨m,u,w,y,λx C e=>?_⟩,λq h=>F.held q<|.tail _ h,λp b=>?_,?_⟩;.show aq (A x C e) λv a r=>?_;show ae v a<|r.move DQ
 .rcases Z1.mp b with rfl|b;.show⟨k,i,⟨j,t⟩,g,d,F.held _<|.head _,rfl⟩
  .show cL (F.own p b) λD E l G o H z=>?_;show⟨D,E,⟨l.1,λq h=>l.2 q<|.tail _ h⟩,G,o,H,z.move DQ⟩
 .rw[Z3,ZC];show⟨λq=>?_,F.nd⟩;show aq (Z0.mp q) λp b e=>?_;show(F.own p b).a3.2 _ (.head _) e
inductive bP(X:Fx)(ρ:Loc)(O:ag)(s:ZL)(k:AV->ag->Prop)(v:ZN)(s':ZL):Prop|mk(a:AV)(O':ag)(F:Fr X ρ O' s')(st:am (aa X O) s.heap (aa X O') s'.heap)(r:aB (aa X O') s'.heap v a)(q:k a O')
inductive xl(X:Fx)(ρ:Loc)(O:ag)(s:ZL)(k:List AV->ag->Prop)(vs:List ZN)(s':ZL):Prop|mk(l:List AV)(O':ag)(F:Fr X ρ O' s')(st:am (aa X O) s.heap (aa X O') s'.heap)(r:aD (aa X O') s'.heap vs l)(q:k l O')
inductive il(X:Fx)(ρ:Loc)(O:ag)(s:ZL)(k:Bool->ag->Prop)(b:Bool)(s':ZL):Prop|mk(O':ag)(F:Fr X ρ O' s')(st:am (aa X O) s.heap (aa X O') s'.heap)(q:k b O')
def ba{X j O s k v g}{G:Prop}(z:bP X j O s k v g)(f:∀a h,Fr X j h g->am (aa X O) s.heap (aa X h) g.heap->aB (aa X h) g.heap v a->k a h->G):G:=by cases z with|mk a b c d e i=>show f a b c d e i
def ga{X j O s k v g}{G:Prop}(z:xl X j O s k v g)(f:∀a h,Fr X j h g->am (aa X O) s.heap (aa X h) g.heap->aD (aa X h) g.heap v a->k a h->G):G:=by cases z with|mk a b c d e i=>show f a b c d e i
def fL{X g O s k v a}{G:Prop}(z:il X g O s k v a)(f:∀e,Fr X g e a->am (aa X O) s.heap (aa X e) a.heap->k v e->G):G:=by cases z with|mk b c d i=>show f b c d i
abbrev Ev(X:Fx)(a:Loc)(O:ag)(e:X7)(k:AV->ag->Prop):Prop:=∀E s,Fr X a O s->ZE (model pw X.w) X.A (eval e X.env) (bP X a O s k) E s
abbrev bm(X:Fx)(b:Loc)(O:ag)(c:List X7)(k:List AV->ag->Prop):Prop:=∀E s a,Fr X b O s->ZE (model pw X.w) X.A (spliced<|WR a<|Yd c X.env) (xl X b O s k) E s
abbrev Ts(X:Fx)(a:Loc)(O:ag)(e:X7)(k:Bool->ag->Prop):Prop:=∀E s,Fr X a O s->ZE (model pw X.w) X.A (Pk e X.env<|eval e X.env) (il X a O s k) E s
abbrev Bn(X:Fx)(c:Loc)(O:ag)(d:Ui)(a b:AV)(k:AV->ag->Prop):Prop:=∀E s u v,Fr X c O s->aB (aa X O) s.heap u a->aB (aa X O) s.heap v b->ZE (model pw X.w) X.A (binaryOp d u v) (bP X c O s k) E s
abbrev Ip(X:Fx)(c:Loc)(O:ag)(d:Ui)(a b:AV)(k:AV->ag->Prop):Prop:=∀E s u v,Fr X c O s->aB (aa X O) s.heap u a->aB (aa X O) s.heap v b->ZE (model pw X.w) X.A (inplaceOp d u v) (bP X c O s k) E s
abbrev Un(X:Fx)(b:Loc)(O:ag)(c:UnaryOp)(a:AV)(k:AV->ag->Prop):Prop:=∀E s u,Fr X b O s->aB (aa X O) s.heap u a->ZE (model pw X.w) X.A (unaryOp c u) (bP X b O s k) E s
abbrev Cm(X:Fx)(d:Loc)(O:ag)(e:O5)(a b:AV)(k:Bool->ag->Prop):Prop:=∀E s u v,Fr X d O s->aB (aa X O) s.heap u a->aB (aa X O) s.heap v b->ZE (model pw X.w) X.A (compareOp e u v) (λr f=>∃c,r=.bool c/\il X d O s k c f) E s
abbrev Tr(X:Fx)(b:Loc)(O:ag)(a:AV)(k:Bool->ag->Prop):Prop:=∀E s u,Fr X b O s->aB (aa X O) s.heap u a->ZE (model pw X.w) X.A (truthy u) (il X b O s k) E s
abbrev Ix(X:Fx)(e:Loc)(O:ag)(c d:X7)(a b:AV)(k:AV->ag->Prop):Prop:=∀E s u v,Fr X e O s->aB (aa X O) s.heap u a->aB (aa X O) s.heap v b->ZE (model pw X.w) X.A (subscriptTail c d u v) (bP X e O s k) E s
abbrev ax(X:Fx)(a:Loc)(O:ag)(c:ZN)(l:List AV)(k:AV->ag->Prop):Prop:=∀E s b,Fr X a O s->aD (aa X O) s.heap b l->ZE (model pw X.w) X.A (call c b) (bP X a O s k) E s
structure Kn where
 nx:Loc->ag->Prop
 rt:AV->ag->Prop
 bk:Loc->ag->Prop
 ct:Loc->ag->Prop
def nKn:Nonempty Kn:=⟨⟨λa v=>True,λa v=>True,λa v=>True,λa v=>True⟩⟩
abbrev xC(X:Fx)(K:Kn)(b:Loc)(c:ag)(d:ZL):Flow->Prop
 |.next=>K.nx b c|.brk=>K.bk b c|.cont=>K.ct b c|.ret v=>∃a,aB (aa X c) d.heap v a/\K.rt a c
inductive eZ(X:Fx)(O:ag)(s:ZL)(K:Kn)(fl:Flow)(s':ZL):Prop|mk(ρ':Loc)(O':ag)(F:Fr X ρ' O' s')(st:am (aa X O) s.heap (aa X O') s'.heap)(q:xC X K ρ' O' s' fl)
def iy{X O s K j g}{G:Prop}(z:eZ X O s K j g)(f:∀a h,Fr X a h g->am (aa X O) s.heap (aa X h) g.heap->xC X K a h g j->G):G:=by cases z with|mk b c d e i=>show f b c d e i
abbrev Ex(X:Fx)(a:Loc)(O:ag)(b:List YR)(K:Kn):Prop:=∀E s,Fr X a O s->ZE (model pw X.w) X.A (execs b X.env) (eZ X O s K) E s
abbrev Es(X:Fx)(a:Loc)(O:ag)(b:YR)(K:Kn):Prop:=∀E s,Fr X a O s->ZE (model pw X.w) X.A (exec b X.env) (eZ X O s K) E s
def bP.from(h:am (aa X O) s.heap (aa X f) b.heap)(x:bP X e f b k v g):bP X e O s k v g:=let⟨a,c,F,d,r,q⟩:=x;⟨a,c,F,h.trans d,r,q⟩
def il.from(g:am (aa X O) s.heap (aa X e) a.heap)(x:il X d e a k v f):il X d O s k v f:=let⟨b,F,c,q⟩:=x;⟨b,F,g.trans c,q⟩
def eZ.from{K:Kn}(h:am (aa X O) s.heap (aa X e) a.heap)(x:eZ X e a K g f):eZ X O s K g f:=let⟨b,c,F,d,q⟩:=x;⟨b,c,F,h.trans d,q⟩
def bP.done(F:Fr X c O s)(g:c7 s b)(r:aB (aa X O) b.heap v a)(q:k a O):bP X c O s k v b:=⟨a,O,F.grow g,g.jW,r,q⟩
def il.done(F:Fr X a O s)(g:c7 s c)(q:k b O):il X a O s k b c:=⟨O,F.grow g,g.jW,q⟩
def Ev.int{c}(h:k (.int i) O):Ev X b O (.Constant (.int i) c a) k:=λE s F=>wpAny_Constant_int<|.done F (.tok _ _) (.int _ _) h
def Ev.str{d}(h:k (.str x) O):Ev X c O (.Constant (.str x) d a) k:=λE s F b b b=>.done F (.tok _ _) (.str _ _) h
def Ev.none{d}(h:k .none O):Ev X c O (.Constant .none d a) k:=λE s F b b b=>.done F (.refl _) .none h
def Ev.bool{e}(h:k (.bool b) O):Ev X d O (.Constant (.bool b) e a) k:=λE s F c c c=>.done F (.refl _) (.bool _) h
def Ev.name(l:g.lookup x=Z7 a)(i:(x==("__debug__":ZD))=ZX)(h:k a O):Ev X g O (.Name x b) k:=λE s F=>by
 show eC F.vars λm u n o p=>?_;show aq (p x a l) λv t r=>?_;show ZI t (λd=>aE d λe k2=>?_) λf=>m2 f λe k2 c j=>?_;.show wpAny_Name (R4 X.fn e n k2<|.done F (.refl _) r h) i
 .show wpAny_Name (Rw X.fn e j (k2▸o x c (mem_of_lookup j))<|.done F (.refl _) r h) i
def Ev.bin(h:Ev X g O l λa d=>Ev X g d r λb e=>Bn X g e y a b k):Ev X g O (.BinOp l y r i) k:=by ext X g O l r y k i;show(λE s F=>by show wpAny_BinOp<|wm (h _ s F) λa j z=>ba z λD d m f n o=>?_;show wm (o _ j m) λb p A=>ba A λG e t c u w=>?_;show wm (w _ p _ _ t (n.move c) u) λv C x=>.from (f.trans c) x)
def Ev.un(h:Ev X j O e λa b=>Un X j b n a k):Ev X j O (.UnaryOp n e l) k:=λE s F=>by show wpAny_UnaryOp<|wm (h _ s F) λa d m=>ba m λp b f c g i=>?_;show wm (i _ d _ f g) λv o x=>.from c x
def Ev.cmp(G:UP D r=ZX)(h:Ev X m O l λa f=>Ev X m f r λb g=>Cm X m g D a b λc d=>k (.bool c) d):Ev X m O (.Compare l [D] [r] n) k:=by intro E s F;revert G h F;injections D r X m O l k n E s;intro G h F;show wpAny_Compare1 (wm (h _ s F) λa o H=>ba H λM f p i t u=>?_) G;show wm (u _ o p) λb w I=>ba I λN g y e z A=>?_;show wm (A _ w _ _ y (t.move e) z) λv J x=>?_;obtain⟨c,rfl,d,C,j,q⟩:=x;show⟨_,d,C,(i.trans e).trans j,.bool _,q⟩
def Ev.Ap(h:Ts X j O t λc a=>(c=ZW->Ev X j a b k)/\(c=ZX->Ev X j a o k)):Ev X j O (.IfExp t b o l) k:=λE s F=>by show wpAny_IfExp<|wm (h _ s F) λc e m=>fL m λa f d g=>?_;cases c with|true=>show wm (g.1 rfl _ e f) λv i x=>.from d x;|false=>show wm (g.2 rfl _ e f) λv i x=>.from d x
def Ev.sub(h:Ev X g O v λa d=>Ev X g d i λb e=>Ix X g e v i a b k):Ev X g O (.Subscript v i j) k:=by intro E s F;revert h F;injections X g O v i k j E s;intro h F;show PQ<|wm (h _ s F) λa l w=>ba w λA d m f n o=>?_;show wm (o _ l m) λb p y=>ba y λC e r c t u=>?_;show wm (u _ p _ _ r (n.move c) t) λv z x=>.from (f.trans c) x
def bm.nil(h:k [] O):bm X a O [] k:=λE s b F=>Vf ⟨[],O,F,.refl _ _,.nil,h⟩
def bm.cons{X:Fx}{u:Loc}{O:ag}{e:X7}{r:List X7}{k:List AV->ag->Prop}(v:bN e=ZX)(h:Ev X u O e λa d=>bm X u d r λl b=>k (a::l) b):bm X u O (e::r) k:=by ext X u O e r k;show(λE s g F=>by
 have v:WR g (Yd (e::r) X.env)=(ZX,eval e X.env)::WR g (Yd r X.env):=by cases e<;>first|rfl|(cases(show ZW=ZX from v))
 exists v;show Vv<|wm (h _ s F) λa i w=>ba w λz d j f m n=>?_;show wm (n _ i _ j) λA y x=>ga x λl b o c p t=>?_;show⟨_,b,o,f.trans c,.cons (m.move c) p,t⟩)
def Ev.tuple{p}(h:bm X j O m λl a=>l.length<=Zo/\k (.tup l) a):Ev X j O (.Tuple m p g) k:=λE s F=>by show Tuple_<|wm (h _ s g F) λt o i=>ga i λl a b f c d=>?_;show Ug ⟨.tup l,a,b.grow<|.push _ _ _,f.trans (c7.push _ _ 0).jW,.tup (n:=0) b.fresh (Zu _ rfl) ((c.keeps λr r e=>ZT _ e):aD (aa X a) _ _ l),d.2⟩ (by exists c.length;show d.1)
def Ev.to(A)(h:Ev X f O e λa j=>a=A/\j=O)(l:k A O):Ev X f O e k:=λE s F=>wm (h _ s F) (λv g z=>ba z λa i c b d z=>aE z λm n=>by subst m;subst n;show⟨_,_,c,b,d,l⟩)
def Ts.to(c)(h:Ts X f O e λa k=>a=c/\k=O)(l:g c O):Ts X f O e g:=λE s F=>wm (h _ s F) (λv i z=>fL z λj d b z=>aE z λm n=>by subst m;subst n;show⟨_,d,b,l⟩)
def Ts.not(h:Ts X f O e λc a=>g (!c) a):Ts X f O (.UnaryOp .Not e b) g:=λE s F=>isTrue_not<|wm (h _ s F) λi i d=>fL d λj k l q=>⟨j,k,l,q⟩
def Ts.cmp(J:UP C r=ZX)(h:Ev X j O l λa e=>Ev X j e r λb f=>Cm X j f C a b D):Ts X j O (.Compare l [C] [r] k) D:=by ext C r X j O l D k;show(λE s F=>by show wpAny_isTrue_Compare1 (wm (h _ s F) λa m G=>ba G λM e n g o p=>?_) J;show wm (p _ m n) λb t H=>ba H λN f u d w y=>?_;show wm (y _ t _ _ u (o.move d) w) λv I x=>?_;obtain⟨c,rfl,z,A,i,q⟩:=x;show Ve ⟨z,A,(g.trans d).trans i,q⟩)
def Ts.name(h:Ev X k O (.Name x e) λa b=>Tr X k b a m):Ts X k O (.Name x e) m:=λE s F=>isTrue_plain (wm (h _ s F) λv f l=>ba l λo b g d i j=>wm (j _ f _ g i) λc n x=>.from d x)
def Ts.and_nil(h:b ZW O):Ts X c O (.BoolOp .And [] a) b:=λE s F=>isTrue_and_nil ⟨O,F,.refl _ _,h⟩
def Ts.and_cons(h:Ts X j O e λc a=>(c=ZW->Ts X j a (.BoolOp .And r g) k)/\(c=ZX->k ZX a)):Ts X j O (.BoolOp .And (e::r) g) k:=by ext X j O e r g k;show(λE s F=>by show isTrue_and<|wm (h _ s F) λc i l=>fL l λa d b f=>?_;cases c with|true=>show wm (f.1 rfl _ i d) λv m x=>.from b x;|false=>show⟨a,d,b,f.2 rfl⟩)
def Ts.or_nil(h:b ZX O):Ts X c O (.BoolOp .Or [] a) b:=λE s F=>isTrue_or_nil ⟨O,F,.refl _ _,h⟩
def Ts.or_cons(h:Ts X j O e λc a=>(c=ZW->k ZW a)/\(c=ZX->Ts X j a (.BoolOp .Or r g) k)):Ts X j O (.BoolOp .Or (e::r) g) k:=by intro E s F;revert h F;injections X j O e k r g E s;intro h F;show isTrue_or<|wm (h _ s F) λc i l=>fL l λa d b f=>?_;cases c with|true=>show⟨a,d,b,f.1 rfl⟩;|false=>show wm (f.2 rfl _ i d) λv m x=>.from b x
def Ex.nil{K:Kn}(h:K.nx a O):Ex X a O [] K:=λE s F=>Sr ⟨a,O,F,.refl _ _,h⟩
def Ex.cons{X:Fx}{g:Loc}{O:ag}{K:Kn}{rest:List YR}{b:YR}(h:Es X g O b ⟨λi k=>Ex X i k rest K,K.rt,K.bk,K.ct⟩):Ex X g O (b::rest) K:=by ext X g O K rest b;show(λE s F=>by show wpAny_execs_cons<|wm (h _ s F) λfl f x=>?_;show iy x ?_;clear x;intro c e d a x;cases fl with|next=>show wm (x _ f d) λfl j x=>.from a x;|brk=>show⟨c,e,d,a,x⟩;|cont=>show⟨c,e,d,a,x⟩;|ret v=>show⟨c,e,d,a,x⟩)
@[reducible]abbrev Bd(X:Fx)(x:ZD):Prop:=X.env.kindOf x=Z7 .local\/(X.env.kindOf x=Z7 .cell/\X.wr/\∃c,X.env.cells.lookup x=Z7 c)
def Es.assign{K:Kn}(o:Bd X x)(p:Tj e (Z7 (.Name x m)) d.line X.env=pure ZX)(h:Ev X j O e λa b=>K.nx (dM j x a) b):Es X j O (.Assign [.Name x m] e d) K:=λE s F=>by show wpAny_Assign_Name (wm (h _ s F) λv n k=>ba k λa b f c g i=>?_) p;show f.bind o g λt u r l=>⟨_,b,r,c.trans l,i⟩
def Es.aug{K:Kn}(W:Bd X x)(Y:l.lookup x=Z7 d)(h:Ev X l O e λb f=>Ip X l f H d b λc o=>K.nx (dM l x c) o):Es X l O (.AugAssign (.Name x S) H e n) K:=by ext X x d l O e H S n K;show(λE s F=>by
 show eC F.vars λm cm Z hc hv=>?_;show aq (hv x d Y) λp hh t=>?_;have i:ZE (model pw X.w) X.A (eval e X.env) (λv j=>ZE (model pw X.w) X.A (inplaceOp H p v) (λr u=>ZE (model pw X.w) X.A (storeName X.env x r) (λu'=>eZ X O s K .next) E u) E j) E s:=by show wm (h _ s F) λv w I=>ba I λa U y g z A=>?_;show wm (A _ w _ _ y (t.move g) z) λv j J=>ba J λc f C k D G=>?_;show C.bind W D λh' tk F' M=>⟨_,f,F',(g.trans k).trans M,G⟩
 show ZI hh (λN=>aE N λQ k2=>?_) λR=>m2 R λQ k2 c V=>?_;.show R0<|R4 X.fn Q Z k2 i
 .show R0<|Rw X.fn Q V (k2▸hc x c (mem_of_lookup V)) i)
def Es.ite{K:Kn}(h:Ts X j O t λc a=>(c=ZW->Ex X j a b K)/\(c=ZX->Ex X j a o K)):Es X j O (.If t b o k) K:=λE s F=>by show wpAny_If<|wm (h _ s F) λc e l=>fL l λa f d g=>?_;cases c with|true=>show wm (g.1 rfl _ e f) λfl i x=>.from d x;|false=>show wm (g.2 rfl _ e f) λfl i x=>.from d x
def Es.ret{K:Kn}(h:Ev X i O e K.rt):Es X i O (.Return (Z7 e) j) K:=λE s F=>wpAny_Return_some (wm (h _ s F) λv l k=>ba k λa c d b f g=>⟨i,c,d,b,a,f,g⟩)
def Es.abL{K:Kn}(h:K.rt .none O):Es X b O (.Return Z4 a) K:=λE s F=>wpAny_Return_none ⟨b,O,F,.refl _ _,.none,.none,h⟩
def Es.pass{K:Kn}(h:K.nx a O):Es X a O (.Pass b) K:=λE s F=>wpAny_Pass ⟨a,O,F,.refl _ _,h⟩
def Es.brk{K:Kn}(h:K.bk a O):Es X a O (.Break b) K:=λE s F=>wpAny_Break ⟨a,O,F,.refl _ _,h⟩
def Es.cont{K:Kn}(h:K.ct a O):Es X a O (.Continue b) K:=λE s F=>wpAny_Continue ⟨a,O,F,.refl _ _,h⟩
def Es.expr{K:Kn}(m:Tj e Z4 d.line X.env=pure ZX)(h:Ev X i O e λn b=>K.nx i b):Es X i O (.Expr e d) K:=λE s F=>wpAny_Expr_any (wm (h _ s F) λv k j=>ba j λa b f c l g=>⟨i,b,f,c,g⟩) X.inter m
inductive tL(X:Fx){σ:Type}(R:σ->Loc)(Q:σ->ag)(m:σ->Nat)(I:σ->Prop)(D:List Zw)(h:Xq):Nat->ZL->Prop|mk{x s'}(F:Fr X (R x) (Q x) s')(st:am D h (aa X (Q x)) s'.heap)(i:I x):tL X R Q m I D h (m x) s'
abbrev tM{a:Type}(R:a->Loc)(Q:a->ag)(m:a->Nat)(I:a->Prop)(x:a)(b:Loc)(c:ag):Prop:=∃y,m y<m x/\I y/\b=R y/\c=Q y
def mD{X:Fx}{r:Vk}{K:Kn}(R)(Q)(m)(I)(a:o)(C:I a)(f:∀x,I x->Ts X (R x) (Q x) t λc e=>(c=ZW->Ex X (R x) e b ⟨tM R Q m I x,K.rt,K.nx,tM R Q m I x⟩)/\(c=ZX->K.nx (R x) e)):Es X (R a) (Q a) (.While t b [] r) K:=by revert o R Q m I a C f;injections t b X r K;intro o R Q m I a C f;show(λE s F=>by show wpAny_While<|codeAny_whileLoop (tL X R Q m I (aa X<|Q a) s.heap) ?_ (m a) ⟨F,.refl _ _,C⟩;rintro N O(@⟨y,N,S,u,i⟩);show wm (f y i _ O S) λc w D=>fL D λe k g l=>?_;cases c with
 |true=>
  show wm (l.1 rfl _ w k) λfl A G=>iy G λd h j p x=>?_;have H:=(u.trans g).trans p;have M:tM R Q m I y d h->∃n,n<m y/\tL X R Q m I (aa X<|Q a) s.heap n A:=λJ=>dI J λz U V W Y=>by cases W;cases Y;show⟨_,U,j,H,V⟩
  cases fl with|next=>show M x;|cont=>show M x;|brk=>show⟨d,h,j,H,x⟩;|ret v=>show⟨d,h,j,H,x⟩
 |false=>show Sr ⟨_,e,k,u.trans g,l.2 rfl⟩)
def Fr.keeps(F:Fr X f O s)(b:Keeps s.heap h'):Fr X f O {s with heap:=h',toks:=tk}:=by
 obtain⟨m,r,t,d⟩:=F.vars;show F.move (am.of b) (λa o d d e=>b a o e) F.gens rfl (λo e=>b _ o e) (λd c d o e=>b c o e) (λq d e=>b _ _ e) (λp g=>let⟨h,i,j,k,o,l,n⟩:=F.own p g;⟨h,i,j,k,o,b _ _ l,n.move<|am.of b⟩) F.nd
def u7(x:RZ h.objs.size h b):Keeps h b:=λa o e=>x a o (X8<|Zg e) e
abbrev Tg(X:Fx)(d:Loc)(O:ag)(t:X7)(a:AV)(k:Loc->Prop):Prop:=∀E s v,Fr X d O s->aB (aa X O) s.heap v a->ZE (model pw X.w) X.A (assign t X.env v) (λe c=>∃b,Fr X b O c/\am (aa X O) s.heap (aa X O) c.heap/\k b) E s
abbrev km(X:Fx)(e:Loc)(O:ag)(b:List X7)(l:List AV)(k:Loc->Prop):Prop:=∀E s c,Fr X e O s->aD (aa X O) s.heap c l->(Wh b X.env).length=b.length/\(Wh b X.env).findIdx? (·.1)=Z4/\ZE (model pw X.w) X.A (TD ((Wh b X.env).map (·.2)) c) (λf d=>∃a,Fr X a O d/\am (aa X O) s.heap (aa X O) d.heap/\k a) E s
def Tg.name(e:Bd X x)(h:k (dM c x a)):Tg X c O (.Name x d) a k:=λE s v F r=>TC (F.bind e r λg i f b=>bl _ f b h)
def km.nil(h:k a):km X a O [] [] k:=λE s b F r=>by cases r.iN;show br rfl rfl<|Z5<|bl a F (.refl _ _) h
def km.cons{X:Fx}{n:Loc}{O:ag}{t:X7}{c:List X7}{a:AV}{l:List AV}{k:Loc->Prop}(y:bN t=ZX)(h:Tg X n O t a λo=>km X o O c l k)(w:∀env:Ri,(Wh c env).length=c.length/\(Wh c env).findIdx? (·.1)=Z4):km X n O (t::c) (a::l) k:=by ext X n O t c a l k;show(λE s D F r=>by
 have z:Wh (t::c) X.env=(ZX,assign t X.env)::Wh c X.env:=by cases t<;>first|rfl|(cases(show ZW=ZX from y))
 cases r.iC with|mk q A=>exists z;show br (by simp[(w X.env).1]) (by exists Rg;simp[(w X.env).2]) ?_;exists Z3;show Z8<|Zy ?_;show wm (h _ s _ F q) λC f p=>bV p λu g b i=>?_;show wm (i _ f _ g<|A.move b).2.2 λC x v=>bV v λd j e m=>bl d j (b.trans e) m)
set_option tactic.hygienic true in def Tg.tup{t}(a:g.length=l.length)(h:km X i O g l k):Tg X i O (.Tuple g t p) (.tup l) k:=by intro E s v F r;revert a h F r;injections X i O g l k p t E s v;intro a h F r;cases r.iT with|mk hd w j=>
  rename_i G x n;have b:x.size=l.length:=by exists ZJ j.length;show aW YX rfl
  show dt (h E s _ F j) λy z A=>?_;show assign_Tuple_tuple X.hh (bf _ w rfl n rfl) (by(exists y,a;show aW b rfl)) z λH C=>?_;have m:=u7 C;have D:=F.keeps (tk:=s.toks) m;show wm (h E _ _ D<|j.keeps m).2.2 λA u o=>bV o λc e d f=>bl c e ((am.of m).trans d) f
def vj(d:s.heap.get? I=Z7 o)(e:o.cls=.type b)(f:o.data=.fields c)(g:["enumerate","zip","dict_itemiterator","dict_reverseitemiterator","odict_iterator","itertools.zip_longest","itertools.pairwise"].contains b=ZX)(h:Q () s):ZE M A (V9 a (.ref I) v) Q E s:=by cases a<;>first|show Z5 h|(cases v<;>first|show Z5 h|(show Z8<|SK d ?_;(exists e,f);dsimp only;exists g;show Z5 h))
def Fr.turn{X:Fx}{i j k}(F:Fr (X.hold I h i j k) g O s)(n:∀b o,b≠I->s.heap.get? b=Z7 o->c.get? b=Z7 o)(r:c.get? I=Z7 a)(d:(ar X.w.params).get? I=Z4)(t:∀q∈X.held,I≠q.1):Fr (X.hold I a i j k) g O {s with heap:=c,toks:=l}:=by
 have G:=F.aaL d t;have m:=G.nd;rw[Z3,ZC]at m;have f:=G.upd (tk:=l) (ao:=.other a) (.head _) n r rfl;have e:aK ((I,az.other h)::O) I (.other a)=(I,.other a)::O:=by
  unfold aK;exists Z3,if_pos rfl;congr 1;conv=>rhs;rw[<-VZ O]
  show Yo λp u=>if_neg (λe:p.1=I=>m.1<|Z0.mpr<|ae p u e)
 replace f:=e▸f;show f.ac8
def adp{X:Fx}{d f g}(l:∀b o,b≠I->h.get? b=Z7 o->i.get? b=Z7 o):am (aa (X.hold I c d f g) O) h (aa (X.hold I k d f g) O) i:=λa o j e=>⟨j,l a o (λq=>j (by exists q;show aL.mpr<|.inr<|.inr<|.inr<|.inr ⟨c,.head _⟩)) e⟩
def Fr.MQ{O:ag}(G:Fr X j ((I,k)::O) s)(d:∀b o,b≠I->s.heap.get? b=Z7 o->s'.heap.get? b=Z7 o)(v:X.G s'.gens)(l:s'.os=s.os):Fr X j O s':=by
 ext X j I k s s' O;obtain⟨i,w,r,J,x⟩:=G.own _<|.head _;have f:=G.nd;rw[Z3,ZC]at f;obtain⟨m,M,N,x⟩:=G.vars;have t:am (aa X ((I,k)::O)) s.heap (aa X O) s'.heap:=λa o g e=>⟨λq=>g<|aL.mpr<|(aL.mp q).imp (λh=>.tail _ h) id,d a o (λq=>g<|q▸aL.mpr (.inl<|.head _)) e⟩;show G.move t (λa o y g e=>d a o (λq=>?_) e) v l (λo e=>d _ _ (Xb w) e) (λn c A o e=>d _ _ (Xb<|r.1 n c A) e) (λq C e=>d _ _ (Xb<|r.2 q C) e) (λp u=>?_) f.2
 ·subst q;show ZI i (λi=>?_) λi=>?_;.replace g:=i▸g;cases g
  .show y i
 .show cL (G.own p<|.tail _ u) λD E F H o l z=>?_;show⟨D,E,F,H,o,d _ _ (λe=>f.1<|Z0.mpr<|ae p u e) l,z.move t⟩
inductive lD(X:Fx)(ρ:Loc)(O:ag)(s:ZL)(k:List AV->ag->Prop):ZN->ZL->Prop|mk{I:Zw}{io:Ze}{fp:List Zw}{n:Nat}{P:Nat->ZN->Prop}{St:Nat->Xq->Prop}{l:List AV}{O':ag}{eo:ZL}(W:Walks pw X.w X.A I fp [I] n P St)(jU:St 0 eo.heap)(lL:∀i h,St i h->∃o nm vs,h.get? I=some o/\o.cls=.type nm/\o.data=.fields vs/\["enumerate","zip","dict_itemiterator","dict_reverseitemiterator","odict_iterator","itertools.zip_longest","itertools.pairwise"].contains nm=false)(hI:X.h₀.get? I=none\/I∈X.a7)(xp:Fr X ρ ((I,.other io)::O') eo)(wD:am (aa X O) s.heap (aa X ((I,.other io)::O')) eo.heap)(zZ:∀b∈fp,b=I\/(b∉aa X ((I,.other io)::O')/\∃o,eo.heap.get? b=some o))(pv:l.length=n)(hP:∀i v,i<n->P i v->∃av,l[i]?=some av/\aB (aa X ((I,.other io)::O')) eo.heap v av)(hk:k l O'):lD X ρ O s k (.ref I) eo
abbrev It(X:Fx)(b:Loc)(O:ag)(e:X7)(k:List AV->ag->Prop):Prop:=∀E s,Fr X b O s->ZE (model pw X.w) X.A (eval e X.env) (λx a=>ZE (model pw X.w) X.A (Rf x) (lD X b O s k) E a) E s
def lD.mono(x:lD X m O s k v n)(q:∀l p,k l p->o l p):lD X m O s o v n:=by obtain⟨a,b,c,d,e,f,g,h,i,j⟩:=x;show⟨a,b,c,d,e,f,g,h,i,q _ _ j⟩
def H6(h:a∈aa X O):a∈aa X (p::O):=ZS.mpr<|(ZS.mp h).imp (λh=>.tail _ h) id
def H5{O:ag}:p.1∈aa X (p::O):=.head _
def Ee{t b:PA a}{Q:a->ZL->Prop}(h:t=b)(q:ZE (model pw w) A b Q E s):ZE (model pw w) A t Q E s:=h▸q
abbrev mN(w:Yg)(A:YM)(a:Ri)(R:Uu->ZL->Prop):ZN->ZL->Prop:=notedBy (model pw w) A a λe b=>R (.error e) b
abbrev Fo(w:Yg)(A:YM)(R:Uu->ZL->Prop)(o j:ZN)(a:Ri)(p:String)(k b:X7)(l:List X7)(J:ZL->Prop):Option ZN->ZL->Prop:=λr d=>match r with
 |none=>R (.ok .next) d|some v=>ZE (model pw w) A (V9 b o v) (λn f=>ZE (model pw w) A (assign b a v) (λn g=>ZE (model pw w) A (forIn l ZW λc r=>if r=ZW then do let m<-Pk c a (eval c a);pure (V8 m)else pure (V8 r)) (λm e=>if m=ZW then ZE (model pw w) A (eval k a) (λx h=>ZE (model pw w) A (call (.builtin p) [j,x]) (λn i=>J i) (mN w A a R) h) (mN w A a R) e else J e) (mN w A a R) g) (mN w A a R) f) (mN w A a R) d
structure qI(e m7 acZ:X7)(pC:List X7)(em:String):Prop where go:∀{w:Yg}{A:YM}{R:Uu->ZL->Prop}{s:ZL}{it dz:ZN}{env:Ri}(I:Nat->ZL->Prop)(_:∀n s,I n s->ZE (model pw w) A (Vu it) (Fo w A R it dz env em m7 acZ pC λs=>∃m,m<n/\I m s) (mN w A env R) s)(n:Nat)(_:I n s),UO (model pw w) A (.compLoop e 0 it dz env) R s
def HA(f a d)(g)(e)(i)(j h)(b):compTurn (.SetComp f [⟨a,d,g,0⟩] e i) 0 j h b=(do W1 d.pos;match<-Vu j with
 |none=>pure (.done .next);|some v=>
 V9 a j v;assign a b v;let mut k:=ZW;for c in g do if k then k<-Pk c b (eval c b)
 if k then(do let v<-eval f b;W1 f.pos;let _<-call (.builtin "set.add") [h,v])
 again (.compLoop (.SetComp f [⟨a,d,g,0⟩] e i) 0 j h b)):=by rfl
def AX(g a d)(i)(b)(k):qI (.ListComp g [⟨a,d,i,0⟩] b k) g a i "list.append":=by ext g a d i b k;constructor;intro w A R s F p env I c n h;revert c h;injections w A R s F p env I n;intro c h;show codeAny_loop rfl I (λn s G=>?_) n h;show wpAny_noted<|Ee (compTurn_list ..)<|Z8<|YO<|Z8<|wm (c n s G) λr u e=>?_;cases r with|none=>show Z5 e;|some v=>show Z8<|wm e λy t j=>Z8<|wm j λy z l=>Z8<|wm l λH C f=>?_;cases H with|false=>show Z5 ⟨rfl,f⟩;|true=>show Z8<|Z8<|wm f λx D m=>Z8<|wm m λy E o=>Z5<|Z5 ⟨rfl,o⟩
def ad0(g a d)(i)(b)(k):qI (.SetComp g [⟨a,d,i,0⟩] b k) g a i "set.add":=by ext g a d i b k;constructor;intro w A R s F p env I c n h;revert c h;injections w A R s F p env I n;intro c h;show codeAny_loop rfl I (λn s G=>?_) n h;show wpAny_noted<|Ee (HA ..)<|Z8<|YO<|Z8<|wm (c n s G) λr u e=>?_;cases r with|none=>show Z5 e;|some v=>show Z8<|wm e λy t j=>Z8<|wm j λy z l=>Z8<|wm l λH C f=>?_;cases H with|false=>show Z5 ⟨rfl,f⟩;|true=>show Z8<|Z8<|wm f λx D m=>Z8<|YO<|Z8<|wm m λy E o=>Z5<|Z5 ⟨rfl,o⟩
structure qN(e:X7):Prop where
 go:∀{w:Yg}{A:YM}{R:Uu->ZL->Prop}{s:ZL}{it dz:ZN}{env:Ri},UO (model pw w) A (.compLoop e 0 it dz env) R s->ZE (model pw w) A (Rf it) (λLF s'=>UO (model pw w) A (.compLoop e 0 LF dz env) R s') (notedBy (model pw w) A env λx s'=>R (.error x) s') s->UO (model pw w) A (.compStart e 0 it dz env) R s
def DR(d a c)(e)(b)(f):qN (.ListComp d [⟨a,c,e,0⟩] b f):=⟨λg h=>codeAny_compStart_list g h⟩
def ad5(d a c)(e)(b)(f):qN (.SetComp d [⟨a,c,e,0⟩] b f):=by
 constructor;intro w A R s k g env l h;ext d a c e b f w A R s k g env;show VF ?_;show(?_:ZE _ _ ((compStart (.SetComp d [⟨a,c,e,0⟩] b f) 0 k g env).onRaise (λx=>do RC x env;W1 theWindowsPlace)) _ _ s);show wpAny_notedAt ?_;show Z8<|Xp<|wpAny_ite ?_;split;.first|show Z8<|Z5<|Z5<|ZK rfl l;|show Z5<|ZK rfl l
 .first|show Z8<|WM<|Z8<|YO<|Z8<|wm h λi m j=>Z5<|ZK rfl j;|(show Z8<|WM ?_;show(?_:ZE _ _ (W1 c.pos>>=_) _ _ s);show Z8<|YO<|Z8<|wm h λi m j=>Z5<|ZK rfl j)
abbrev gE(X Y:Fx)(a:Vs)(b:List (ZD×Zw)):Prop:=Y.w=X.w/\Y.A=X.A/\∃C,Y.env=QT a b C X.env
abbrev jA(X:Fx)(a:Loc)(O:ag):List X7->(Bool->ag->Prop)->Prop
 |[],k=>k ZW O|[c],k=>Ts X a O c k|_,_=>False
def AQ(d:s.heap.get? D=Z7 ⟨.type "list",Z4,.seq a n,#[]⟩)(hsz:a.size<=Zo)(f:∀b c,b.get? D=Z7 ⟨.type "list",Z4,.seq (a.push x) c,#[]⟩->YG D s.heap b->Q .none {s with heap:=b}):ZE (model pw w) A (call (.builtin "list.append") [.ref D,x]) Q E s:=wpAny_list_append_plain (hsz:=hsz) ⟨n,d⟩ λb g h=>let⟨c,e⟩:=g;f b c e h
def jj(h:@RY Nat instLTNat a b):@Ne Zw a b:=X8 h
def uB(h:@RY Nat instLTNat b a):@Ne Zw a b:=Wg h
structure f0(X:Fx)(scope:Vs)(cl:List (ZD×Zw))(ρ b9:Loc):Prop where
 t7:closureFor scope X.env=pure cl
 sub:∀p∈cl,p∈X.env.cells
 apart:cl.Pairwise λx y=>x.2≠y.2
 cell:∀y∈scope.names,y.2≠.cell
 kind:scope.kind=.function
 names:∀y∈scope.names,y.2=.local->scope.names.lookup y.1=some .local
 vars:∀x av,b9.lookup x=some av->ρ.lookup x=some av/\X.env.kindOf x=some .cell/\(∃c,cl.lookup x=some c)/\∀C,(QT scope cl C X.env).kindOf x=some .cell
structure Acc(X:Fx)(em:String)(gS:AV->Prop)where
 cap:Nat
 own:List AV->az
 res:List AV->AV
 obj:Ze
 fits:obj.isFreed=false
 start:∀D h,gD D h obj (own [])step:∀{Y:Fx}{ρ:Loc}{l:List AV}{r:AV}{D:Zw}{y:ZN}{s:ZL}{E:ZN->ZL->Prop}{Q:ZN->ZL->Prop},Y.w=X.w->Y.A=X.A->gS r->l.length<=cap->(∀a∈l,gS a)->Fr Y ρ [(D,own l)] s->aB (aa Y [(D,own l)]) s.heap y r->(∀v h' tk o',YG D s.heap h'->h'.get? D=some o'->(∀D' uC,am (aa Y [(D,own l)]) s.heap D' uC->gD D' uC o' (own (l++[r])))->Q v {s with heap:=h',toks:=tk})->ZE (model pw Y.w) Y.A (call (.builtin em) [.ref D,y]) Q E s
 fin:∀{D:List Zw}{h:Xq}{o:Ze}{a:Zw}{l:List AV},l.length<=cap->a∉D->h.get? a=some o->gD D h o (own l)->aB D h (.ref a) (res l)
abbrev tc(X:Fx)(c:Vs)(o:List (ZD×Zw))(j:Loc)(a:X7)(k:List X7)(m:X7)(g:AV->Option AV)(d:AV->Prop)(l:List AV):Prop:=∀Y,gE X Y c o->∀(i:Nat)(h:AV)(e:ag),l[i]?=Z7 h->Tg Y j e a h λf=>jA Y f e k λb p=>p=e/\(b=ZW->Ev Y f e m λr n=>n=e/\g h=Z7 r/\d r)/\(b=ZX->g h=Z4)
abbrev EF(X:Fx)(f:Loc)(O:ag)(s:ZL)(R:ZN->Zw->Uu->ZL->Prop)(e:AV)(a:ag):Prop:=∀b m Dn c d,b.heap.Ns c m->b.heap.get? c=Z7 d->Fr X f ((c,.other d)::a) b->am (aa X O) s.heap (aa X ((c,.other d)::a)) b.heap->aB (aa X ((c,.other d)::a)) b.heap (.ref Dn) e->R (.ref Dn) c (.ok .next) b
inductive td(gS:AV->Prop)(own:List AV->az)(Z:Ze->Fx)(b9:Loc)(Dn:Zw)(l:List AV)(g:AV->Option AV)(n:Nat)(St:Nat->Xq->Prop)(mC:List Zw)(Al:Xq):Nat->ZL->Prop|mk{i:Nat}{kP:Ze}{s':ZL}(F':Fr (Z kP) b9 [(Dn,own ((l.take i).filterMap g))] s')(jo:St i s'.heap)(p2:am mC Al (aa (Z kP) [(Dn,own [])]) s'.heap)(hi:i<=n)(rG:∀a∈(l.take i).filterMap g,gS a):td gS own Z b9 Dn l g n St mC Al (n+1-i) s'
def ac3(h:jA Y d O a e)(F:Fr Y d O s)(f:∀b g,il Y d O s e b g->Q b g):ZE (model pw Y.w) Y.A (forIn a ZW λc r=>if r=ZW then do let j<-Pk c Y.env (eval c Y.env);pure (V8 j)else pure (V8 r)) Q E s:=by match a,h with|[],h=>show wpAny_tests_nil<|f _ _ ⟨_,F,.refl _ _,h⟩;|[c],h=>show wpAny_tests_one<|wm (h _ s F) λb i x=>f _ _ x
def Fr.a7(F:Fr X h (OL++c) s)(d:a∈OL.map (·.1)):(ar X.w.params).get? a=Z4/\a∉aa X c:=by
 have f:=F.nd;rw[ZF,YT]at f;show aq (Z0.mp d) λp i e=>?_;cases e;obtain⟨j,k,g,l,m⟩:=F.own p<|Zk _ i;show⟨l,λq=>?_⟩;show fJ q (λq=>?_) (λq=>?_) (λn q=>?_) (λq=>?_) λr q=>?_;.show f.2.2 _ d _ q rfl
 .show k q
 .show g.1 n _ q rfl
 .show ZI j (λz=>?_) λz=>?_;.show aS (X.old _ q) λo b=>?_;have z:X.h₀.get? p.1=Z4:=z;replace b:=z▸b;cases b
  .show X.eh _ z q
 .show g.2 _ q rfl
def yt(T:Acc X em gS){e m7 S:X7}(g)(C:f0 X k cl ρ b9)(LR:qI e m7 S pC em)(SR:qN e)(rI:∀{s:ZL}{Q:ZN->ZL->Prop}{E:ZN->ZL->Prop},Q (.ref s.heap.objs.size) {s with heap:=s.heap.push T.obj}->ZE (model pw X.w) X.A U Q E s)(x:lD X ρ O s (λl t=>l.length<=T.cap/\tc X k cl b9 S pC m7 g gS l/\EF X ρ O s R (T.res (l.filterMap g)) t) it f):ZE (model pw X.w) X.A U (λdz jX=>ZE (model pw X.w) X.A (newFunctionEnv k X.env.globals cl [] X.env.qual Z4 .none (Z7 X.env)) (λym mq=>UO (model pw X.w) X.A (.compStart e 0 it dz {ym with scope:=relabel k X.env}) (R dz ym.locals) mq) E jX) E f:=by
 obtain⟨cap,own,res,obj,fits,start,step,fin⟩:=T;dsimp only at rI x⊢;revert C LR SR rI x fits start step fin;revert X ρ b9 O s E em gS e m7 S pC k cl g R U it f cap own res obj;injections X em gS k cl ρ b9 pC U O s R;injections it f E e m7 S g cap own res obj;intro C LR SR fits start step fin rI x;obtain@⟨I,io,fp,n,P,St,l,t,u',W,jU,lL,hI,j,wD,zZ,pv,hP,hsz,Kt,hR⟩:=x;ext I io fp n P St l t;show cL (j.own _<|.head _) λb1 b2 b3 b4 oJ Af eI=>?_;cases(show io=oJ from eI.symm);show rI<|RX C.cell (by intro y hy;simp at hy) (λF V H=>?_) C.kind;dsimp only at V H⊢;generalize uE:f.heap.push obj=H2 at V H⊢;generalize hC:H2.objs.size=M at V H⊢;generalize kG:f.heap.objs.size=Dn;have N:@Eq Nat M (Dn+1):=by rw[<-hC,<-uE,PS,kG]
 have l6:∀(a:Nat)o,f.heap.get? a=Z7 o->@RY Nat instLTNat a Dn:=λa o e=>kG▸Zg e;have old:∀b o,f.heap.get? b=Z7 o->F.get? b=Z7 o:=λb o e=>H.extBut b o (jj (by have:=l6 b o e;show nY N this))<|ZT _<|uE▸ZT _ e;have Kh:F.get? Dn=Z7 obj:=H.extBut _ _ (jj<|(af 0x1a889e1164410) N)<|ZT _ (by exists ZJ uE,ZJ kG;show Zu _ fits);have lB:Fr X ρ t f:=j.drop<|Yc _ _;have vm:∀(d:Nat),d∈aa X t->@RY Nat instLTNat d Dn:=λd hd=>kG▸lB.lt d hd;have vk:@RY Nat instLTNat I Dn:=l6 I _ Af;show eC j.vars λm0 Ht hn0 uK Li=>?_;have A1:∀n(c:Nat),(n,c)∈cl->@RY Nat instLTNat c Dn:=λn c hc=>kG▸(uK n c<|C.sub _ hc).lt;let Z:Fx:={w:=X.w,A:=X.A,env:=QT k cl M X.env,h₀:=f.heap,D₀:=aa X t,a7:=[I],held:=[],G:=X.G,os:=X.os,fn:=C.kind,glob:=X.glob,bn:=X.bn,hh:=X.hh,above:=.inl<|X4 (by show(?_:@LE.le Nat instLENat f.heap.objs.size M);show(ai 0xd0c3a889e3160411) kG N),jB:=j.base,jK:=λa J=>(j.a7 (OL:=[(I,.other io)]) J).1,eh:=λa J=>(j.a7 (OL:=[(I,.other io)]) J).2,apart:=C.apart,kt:=λn c hc=>jj (show@RY Nat instLTNat c M by have:=A1 n c hc;show nY N this),iw:=λn c c' hc lT=>X.iw n c c' (C.sub _ hc)<|C.sub _ lT,old:=lB.ex,hnl:=λq hq=>(nM hq),hnc:=λq hq=>(nM hq),hab:=λq hq=>nM hq};have z1:I≠Z.env.locals:=jj (show@RY Nat instLTNat I M by show nY N vk);have z2:∀n c,(n,c)∈Z.env.cells->I≠c:=λn c hc=>b3.1 n c<|C.sub _ hc;have z3:Z.h₀.get? I=Z4\/I∈Z.a7:=.inr<|.head _;have Ke:(ar Z.w.params).get? I=Z4:=b4;have Kg:∀q∈Z.held,I≠q.1:=λq hq=>nM hq;have S0:am (aa X ((I,.other io)::t)) f.heap (aa (Z.hold I io z1 z2 z3) [(Dn,own [])]) F:=λa o J e=>by
  show⟨λq=>?_,old a o e⟩;show fJ q (λq=>?_) (λq=>?_) (λn q=>?_) (λq=>?_) λo' q=>?_;.rw[Z3,Y4,ZM]at q;have:=l6 a o e;show absurd q<|jj this
  .have q:a=M:=q;have:=l6 a o e;show absurd q<|jj<|nY N this
  .show J<|aL.mpr<|.inr<|.inr<|.inl ⟨n,C.sub _ q⟩
  .show J<|aL.mpr<|(aL.mp q).imp (λh=>.tail _ h) id
  .show ZI (Z1.mp q) (λq=>?_) λq=>?_;.cases q;show J<|aL.mpr<|.inl<|.head _
   .cases q
 have FZ:Fr (Z.hold I io z1 z2 z3) b9 [(Dn,own [])] {f with heap:=F,toks:=f.toks+0}:=by
  show⟨λa o J e=>old a o e,j.gens,j.os,⟨_,Ht,V,λn c hc=>(uK n c<|C.sub _ hc).keeps old,λx av e=>?_⟩,λq hq=>?_,λp hp=>?_,by simp⟩
  .show gM (C.vars x av e) λe1 kx j3 kc=>?_;show aS j3 λc rE=>?_;show aq (Li x av e1) λv hh r=>?_;show ae v (.inr<|rN (kc M) ?_ c rE)<|r.move S0;show ZI hh (λjY=>aE jY λk1 u'=>?_) λmy=>dt my λu' k2 u'=>?_;.replace k1:=kx▸k1;cases k1
   ·show k2
  ·rcases Z1.mp hq with rfl|hq;.show old _ _ Af
   .cases hq
  .rw[ZM]at hp;subst hp;show⟨.inl<|X4 (by show(?_:@LE.le Nat instLENat f.heap.objs.size Dn);show(af 0x3420e0410) kG),jj<|show@RY Nat instLTNat Dn M by show(af 0x1a889e1164410) N,⟨λn c hc=>uB<|A1 n c hc,λq hq=>?_⟩,?_,_,Kh,start _ _⟩
   .rcases Z1.mp hq with rfl|hq;.show uB vk
    .cases hq
   .cases e:(ar X.w.params).get? Dn with|none=>show e;|some o'=>show absurd (l6 _ _<|j.base _ _ e)<|YH _
 have AW:UO (model pw X.w) X.A (.compLoop e 0 (.ref I) (.ref Dn)<|QT k cl M X.env) (R (.ref Dn) M) {f with heap:=F,toks:=f.toks+0}:=by
  show LR.go (td gS own (Z.hold I · z1 z2 z3) b9 Dn l g n St (aa (Z.hold I io z1 z2 z3) [(Dn,own [])]) F) ?_ (n+1) (.mk (i:=0) (kP:=io) (by simpa using FZ) (W.frame _ _ _ jU λb hb o e=>old b o e) (.refl _ _) (ZZ _)<|by simp);rintro u' s'(@⟨i,kP,u',F',jo,p2,hi,rG⟩);by_cases nq:i=n
  .show W.done s' _ _ (nq▸jo) λh' tk uP=>?_;have fh:∀b o,b≠I->s'.heap.get? b=Z7 o->h'.get? b=Z7 o:=λb o hb e=>uP b o (by simpa using hb) e;obtain⟨m1,yq,Ab,u'⟩:=F'.vars;have Ac:h'.Ns M m1:=let⟨oo,es,ep,e1,e2⟩:=Ab;(kN oo es ep (fh _ _ (Xb z1) e1) e2);have K2:∀a o,a≠I->f.heap.get? a=Z7 o->h'.get? a=Z7 o:=λa o J e=>fh a o J<|F'.keep a o (show a∉[I]by simpa using J) e;show m3 (id Ac) λoC esC epC Ae hC2=>?_;have r4:∀d∈aa X t,d≠M:=λd hd=>jj (by have:=vm d hd;show nY N this);have wC:am (aa X ((I,.other io)::t)) f.heap (aa X ((M,.other oC)::t)) h':=λa o J e=>by
    have Ki:=l6 a o e;show⟨λq=>?_,K2 a o (λq=>J (by exists q;show aL.mpr<|.inl<|.head _)) e⟩;show ZI (aL.mp q) (λq=>?_) λq=>?_
    .show ZI (Z1.mp q) (λq=>?_) λq=>?_;.show absurd q<|jj (by show(?_:@RY Nat instLTNat a M);show nY N Ki)
     .show J<|aL.mpr<|.inl<|.tail _ q
    .show J<|aL.mpr<|.inr q
   have FF:Fr X ρ ((M,.other oC)::t) {s' with heap:=h',toks:=tk}:=by
    have vz:=j.nd;rw[Z3,ZC]at vz;obtain⟨GI,u'⟩:=j.own _<|.head _;show j.move (s':={s' with heap:=h',toks:=tk}) wC (λa o hl J e=>K2 a o (λq=>?_) e) F'.gens (F'.os.trans j.os.symm) (λo e=>K2 _ _ (Xb b2) e) (λn c hc o e=>K2 _ _ (Xb<|b3.1 n c hc) e) (λq hq e=>K2 _ _ (Xb<|b3.2 q hq) e) (λp hp=>?_) ?_
    .show ZI GI (λz=>?_) λz=>?_;.replace J:=z▸q▸J;cases J
     .show hl<|q▸z
    .rcases Z1.mp hp with rfl|hp;.show⟨j.new<|X4 (by show(?_:@LE.le Nat instLENat f.heap.objs.size M);show(ai 0xd0c3a889e3160411) kG N),λq=>r4 _ (aL.mpr<|.inr<|.inl rfl) q.symm,⟨λn c hc q=>r4 _ (aL.mpr<|.inr<|.inr<|.inl ⟨n,hc⟩) q.symm,λq hq e=>r4 _ (aL.mpr<|.inr<|.inr<|.inr<|.inr ⟨q.2,hq⟩) e.symm⟩,?_,oC,Ae,rfl⟩;cases e:(ar X.w.params).get? M with|none=>rfl;|some o'=>show absurd (l6 _ _<|j.base _ _ e) (by show(?_:¬@RY Nat instLTNat M Dn);show(af 0x35113c41f64410) N)
     .show cL (j.own p<|.tail _ hp) λa1 a2 a3 a4 o ho z=>?_;show⟨a1,a2,a3,a4,o,K2 _ _ (λe=>vz.1<|Z0.mpr<|ae p hp e) ho,z.move wC⟩
    .rw[Z3,ZC];show⟨λq=>r4 _ (aL.mpr<|.inl q) rfl,vz.2⟩
   show cL (F'.own _<|.head _) λd1 d2 d3 d4 od K3 K5=>?_;have ac5:l.take i=l:=by exists nq,ZJ pv;show YQ
   have SX:am (aa (Z.hold I kP z1 z2 z3) [(Dn,own<|(l.take i).filterMap g)]) s'.heap (aa X ((M,.other oC)::t)) h':=λa o J e=>by
    show⟨λq=>?_,fh a o (λq=>J (by exists q;show aL.mpr<|.inr<|.inr<|.inr<|.inr ⟨kP,.head _⟩)) e⟩;show ZI (aL.mp q) (λq=>?_) λq=>?_
    .show ZI (Z1.mp q) (λq=>?_) λq=>?_;.show J<|aL.mpr<|.inr<|.inl q
     .show J<|aL.mpr<|.inr<|.inr<|.inr<|.inl<|aL.mpr<|.inl q
    .show J<|aL.mpr<|.inr<|.inr<|.inr<|.inl<|aL.mpr<|.inr q
   have lf:(l.filterMap g).length<=cap:=ZY (TB _ _) hsz;have hw:=K5.move SX;replace hw:=ac5▸hw;show hR _ m1 Dn M oC Ac Ae FF (wD.trans wC)<|fin lf (λq=>?_) (fh _ _ (uB vk) K3) hw;show ZI (aL.mp q) (λq=>?_) λq=>?_
   .show ZI (Z1.mp q) (λq=>?_) λq=>?_;.show absurd q<|jj (by show(?_:@RY Nat instLTNat Dn M);show(af 0x1a889e1164410) N)
    .show YH _<|vm _<|aL.mpr<|.inl q
   .show YH _<|vm _<|aL.mpr<|.inr q
  .have dU:i<n:=WO hi nq;show W.item i s' _ _ dU jo λv h' tk Ka DH uP=>?_;have fh:∀b o,b≠I->s'.heap.get? b=Z7 o->h'.get? b=Z7 o:=λb o hb e=>uP b o (by simpa using hb) e;show m6 (lL (i+1) h' DH) λo' nm vs kJ lT lU KR=>?_;have oV:Fr (Z.hold I o' z1 z2 z3) b9 [(Dn,own<|(l.take i).filterMap g)] {s' with heap:=h',toks:=tk}:=F'.turn fh kJ Ke Kg;have jX:am (aa (Z.hold I kP z1 z2 z3) [(Dn,own [])]) s'.heap (aa (Z.hold I o' z1 z2 z3) [(Dn,own [])]) h':=adp fh;show aq (hP i v dU Ka) λav uJ rv=>?_;have adV:i<l.length:=pv▸dU;have KY:gE X (Z.hold I o' z1 z2 z3) k cl:=rN rfl rfl M rfl;have rv':aB (aa (Z.hold I o' z1 z2 z3) [(Dn,own [])]) h' v av:=rv.move<|(S0.trans p2).trans jX;show vj (s:={s' with heap:=h',toks:=tk}) kJ lT lU KR ?_;show wm (Kt _ KY i av [(Dn,own<|(l.take i).filterMap g)] uJ _ {s' with heap:=h',toks:=tk} v oV rv') λu' mq wS=>bV wS λad6 ig qg Lm=>?_;have DP:am (aa (Z.hold I io z1 z2 z3) [(Dn,own [])]) F (aa (Z.hold I o' z1 z2 z3) [(Dn,own [])]) mq.heap:=(p2.trans jX).trans qg;have again:∀{qq:Loc}{L5:List AV}{gA:ZL},Fr (Z.hold I o' z1 z2 z3) qq [(Dn,own L5)] gA->am (aa (Z.hold I io z1 z2 z3) [(Dn,own [])]) F (aa (Z.hold I o' z1 z2 z3) [(Dn,own [])]) gA.heap->(∀b o,b≠I->b∉aa (Z.hold I o' z1 z2 z3) [(Dn,own [])]->h'.get? b=Z7 o->gA.heap.get? b=Z7 o)->L5=(l.take<|i+1).filterMap g->(∀a∈L5,gS a)->∃m,m<n+1-i/\td gS own (Z.hold I · z1 z2 z3) b9 Dn l g n St (aa (Z.hold I io z1 z2 z3) [(Dn,own [])]) F m gA:=by
    intro qq L5 gA u D Kl eL KH;subst eL;show ae (n+1-(i+1)) ((af 0x6422cc85113c32889e2889e10) dU)<|.mk (i:=i+1) (kP:=o') ?_ (W.frame _ _ _ DH λb hb o e=>?_) D dU KH
    .show eC u.vars λm5 Hu KS zV hv5=>?_;show⟨u.keep,u.gens,u.os,⟨m5,Hu,KS,zV,λx ya e=>?_⟩,u.held,u.own,u.nd⟩;show eC FZ.vars λm1 yq Ab Ku Lj=>?_;show aq (Lj x ya e) λv' hh r'=>?_;show gM (C.vars x ya e) λe1 kx wT kc=>?_;show aS wT λc rE=>?_;show ae v' (.inr<|rN (kc M) ?_ c rE)<|r'.move D;have hm:=mem_of_lookup rE;have q0:yq x=Z7 v':=by
      show ZI hh (λmz=>aE mz λk1 u'=>?_) λwU=>dt wU λu' k2 u'=>?_;.have:=kc M;replace k1:=this▸(show(Z.hold I io z1 z2 z3).env=QT k cl M X.env from rfl)▸k1;cases k1
      ·show k2
     show aq (uK x c<|C.sub _ hm) λoc Ag hdc=>?_;show aq (Ku x c hm) λo1 KX Kw=>?_;show aq (zV x c hm) λo5 K1 rF=>?_;have cI:c≠I:=λq=>z2 x c hm q.symm;have e5:=u.keep c oc (show c∉[I]by simpa using cI) Ag;have e6:=old c oc Ag;rw[Zs (K1.symm.trans e5),<-Zs (KX.symm.trans e6),Kw]at rF;injection rF with rF;exists ZJ rF;show q0
    ·show ZI (zZ b hb) (λq=>?_) λjZ=>Ia jZ λnd ob pz=>?_;.exists q,Zs<|e.symm.trans<|q▸kJ;show u.held _<|.head _
     .have q:=(S0.trans p2).trans jX b ob nd pz;have e2:o=ob:=Zs<|e.symm.trans q.2;exists e2;show Kl b ob (λz=>nd (by exists z;show aL.mpr<|.inl<|.head _)) q.1 q.2
   show ac3 (Y:=Z.hold I o' z1 z2 z3) Lm ig λb gA x=>?_;obtain⟨adQ,u,D,rfl,hT,i8⟩:=x;cases b with|false=>exists if_neg Y6;show again u (DP.trans D) (λb o Km hb e=>((qg.trans D) b o hb e).2) ?_ rG;exists Zc,uJ,U0;simp[i8 rfl];|true=>
    exists if_pos rfl;show wm (hT rfl _ gA u) λy acX z=>ba z λr adR j8 oL ry z=>aE z λeO eg=>?_;subst eO;have Mn:((l.take i).filterMap g).length<=cap:=by
     have e2:((l.take i).filterMap g).length<=(l.take i).length:=TB _ _;have e3:(l.take i).length<=l.length:=by exists Zf;show af 0x18150410
     show(ay 0xc087820703260414) hsz e2 e3
    show step (Y:=Z.hold I o' z1 z2 z3) rfl rfl eg.2 Mn rG j8 ry λv h7 tk7 o7 Dm e7 x7=>?_;have F7:=j8.update (tk:=tk7) (ao:=own<|(l.take i).filterMap g++[r]) (.head _) Dm e7<|x7 _ _<|.refl _ _;have eP:aK [(Dn,own<|(l.take i).filterMap g)] Dn (own<|(l.take i).filterMap g++[r])=[(Dn,own<|(l.take i).filterMap g++[r])]:=by simp[aK]
    replace F7:=eP▸F7;have Do:∀b o,b∉aa (Z.hold I o' z1 z2 z3) [(Dn,own [])]->acX.heap.get? b=Z7 o->h7.get? b=Z7 o:=λb o hb e=>(Dm.2 b λq=>hb (by exists q;show aL.mpr<|.inl<|.head _)).trans e;show again F7 (((DP.trans D).trans oL).trans λb o hb e=>⟨hb,Do b o hb e⟩) (λb o Km hb e=>Do b o hb (((qg.trans D).trans oL) b o hb e).2) ?_ (λa J=>by show ZI (ZS.mp J) (λq=>?_) λq=>?_;show rG a q;exists ZM.mp q;show eg.2);exists Zc,uJ,U0;simp[eg.1]
 show SR.go AW<|W.self 0 _ _ _ (W.frame _ _ _ jU λb hb o e=>old b o e) AW
abbrev xP(X:Fx):Acc X "list.append" (λb=>True)where
 cap:=Zo;own:=.list;res:=.lst;obj:=⟨.type "list",Z4,.seq #[] 0,#[]⟩;fits:=rfl;start:=λD h=>b7 (#[]) 0 rfl (.nil);step:=λ{Y A l r D y s E Q}b b b k b F m p=>by
  obtain⟨C,G,H,d4,od,d,e,I,rfl,c⟩:=F.own _<|.head _;show AQ d ?_ λt u v f=>?_
  .have U:e.size=l.length:=by exists ZJ c.length;show aW YX rfl
   exists U;show k
  .show p _ t s.toks _ f v λJ w i=>b7 (e.push y) u rfl (by exists WE;show(c.move i).append<|.cons (m.move i) .nil)
 fin:=λ{D h o a l}b x z j=>by show ec j ?_;clear j;intro e n g r;subst g;show .lst x z r
def jA.mono(h:jA Y k O a l)(q:∀b m,l b m->f b m):jA Y k O a f:=by match a,h with|[],h=>show q _ _ h;|[c],h=>showλE s F=>wm (h E s F) λb n j=>fL j λg i d e=>⟨g,i,d,q _ _ e⟩
def G4(h:∀Y,gE X Y d I->∀(i:Nat)(n:AV)(f:ag),l[i]?=Z7 n->Tg Y o f c n λu=>jA Y u f t λb J=>J=f/\(b=ZW->Ev Y u f p λr C=>C=f/\g n=Z7 r)/\(b=ZX->g n=Z4)):tc X d I o c t p g (λO=>True) l:=λY Q i n f D E s v F r=>wm (h Y Q i n f D E s v F r) λO M G=>bV G λj w k q=>bl j w k<|q.mono λb J z=>br z.1 (λR E s F=>wm (z.2.1 R E s F) λv N H=>ba H λa x y m A e=>⟨a,x,y,m,A,e.1,e.2,trivial⟩) z.2.2
def AF{c:ag}(l:Fr X j ((h,.other k)::c) d)(i:YG h d.heap f):Fr X j c {d with heap:=f,toks:=tk}/\am (aa X ((h,.other k)::c)) d.heap (aa X c) f:=have g:∀b o,b≠h->d.heap.get? b=Z7 o->f.get? b=Z7 o:=λb o n e=>(i.2 b n).trans e;⟨l.MQ (s':={d with heap:=f,toks:=tk}) g l.gens rfl,λa o m e=>⟨λq=>m<|H6 q,g a o (λq=>m (by exists q;show H5)) e⟩⟩
def qz(g)(C:f0 X c D y j)(N:∀x,Yb d X.env x=pure x)(h:It X y O d λl e=>l.length<=Zo/\(∀Y,gE X Y c D->∀(i:Nat)(A:AV)(p:ag),l[i]?=Z7 A->Tg Y j p a A λt=>jA Y t p f λb Q=>Q=p/\(b=ZW->Ev Y t p n λr G=>G=p/\g A=Z7 r)/\(b=ZX->g A=Z4))/\k (.lst (l.filterMap g)) e):Ev X y O (.ListComp n [⟨a,d,f,0⟩] c o) k:=by ext X c D y j d O a f n k o g;show(λE s F=>by
 rw[eval_ListComp];show TA (use:=Z4) (g:=⟨a,d,f,0⟩) (gs:=[]) rfl N C.t7 C.kind C.names (wm (h _ s F) (λxv J u=>wm u (λit M v=>yt (xP X) g C (AX ..) (DR ..) (λq=>XC q) (v.mono λl e z=>br z.1 (G4 z.2.1) λR m Dn Cn oC S U V H W=>ae m S λh' I=>?_))));show aE (AF (tk:=R.toks) V I) λZ w=>?_;show⟨_,e,Z,H.trans w,W.move w,z.2.2⟩)
abbrev strOf:AV->Option ZD
 |.str x=>Z7 x|_=>Z4
abbrev mb(l:List AV)(x:ZD):Bool:=(l.filterMap strOf).contains x
abbrev eU(w:Yg)(S:ZD->Bool):AV:=.ext λg v=>∃a o n,v=.ref a/\g a=Z7 o/\n<Ti/\o.SetObjOf (strKind pw w) S n
def Dx:mL λg v=>∃a o n,v=.ref a/\g a=Z7 o/\n<Ti/\o.SetObjOf (strKind pw w) S n:=λg i v c b=>m6 b λa o n e d f h=>gi a o n e (c a o d) f h
def ny(w)(x)(t):(strKind pw w).is x (.str x t)=ZW:=by simp[Zz,Py]
def Nr(l)(x):mb (l++[.str x])=λy=>mb l y||decide (y=x):=by funext y;unfold mb;exists U0,List.contains_append;congr 1;show(?_:([x]:List ZD).contains y=_);simp
abbrev aa3(w:Yg)(l:List AV):az:=.ext λa o=>∃n,n<=l.length/\o.SetObjOf (strKind pw w) (mb l) n
abbrev adT(X:Fx)(e:Bool):Acc X "set.add" (λr=>∃x,r=.str x)where
 cap:=4000;own:=aa3 X.w;res:=λl=>eU X.w (mb l);obj:={cls:=.type "set",dict:=Z4,data:=.set #[] 0 (.fresh 0 0 e)};fits:=rfl;start:=λD h=>nt (λb b b b x=>x) 0 (ZZ _) (RW e);step:=λ{Y N l r D y s E Q}v b g i b F w z=>by
  obtain⟨O,R,S,d4,od,k,b,n,d,f⟩:=F.own _<|.head _;show aS g ?_;clear g;intro x m;subst m;have c:od.SetObjOf (strKind pw Y.w) (mb l) n:=by exists v;show f
  cases w.iS;have j:Ti=4096:=rfl;show call_set_add (knd:=strKind pw Y.w) (ny _ _ _) rfl (c.setOf k<|(ai 0x30187a0478f030e8300c0af164414) i d j) ((ai 0x180c3d023c78187418060578b22889e14) i d j) λA C p=>?_;show aq p.objOf λG t u=>?_;show z _ A _ G C t λU H b=>nt (λb b b b x=>x) (if mb l x then n else n+1) ?_ ?_
  .exists ZV;split;.show X5 d
   .show Ws d
  .rw[Nr,<-v];show u
 fin:=λ{D h o a l}i I g J=>by
  obtain⟨b,n,d,M⟩:=J;show .ext Dx<|gi a o n rfl ?_ ?_ M;.unfold cv;exists if_neg I;show g
  .have j:Ti=4096:=rfl;show(ai 0x30187a0478f030e8300c0af164414) i d j
abbrev fO(w:Yg):Bool:=!(w.params.followText "set-order")
def NO(h:Q (.ref s.heap.objs.size) {s with heap:=s.heap.push {cls:=.type "set",dict:=Z4,data:=.set #[] 0 (.fresh 0 0 (fO w))}}):ZE (model pw w) A (newSet (.type "set")) Q E s:=by show Z8<|Z8<|Xp<|Z5 ?_;simp only[newObj];show Z8<|wpAny_alloc<|Z5 h
def Es.comp{K:Kn}(T:Acc X S i)(hx:Bd X x)(g)(C:f0 X b U y k)(LR:qI e o a j S)(SR:qN e)(r:∀{s:ZL}{Q:ZN->ZL->Prop}{E:ZN->ZL->Prop},Q (.ref s.heap.objs.size) {s with heap:=s.heap.push T.obj}->ZE (model pw X.w) X.A d Q E s)(hc:clausesOf e=[⟨a,c,j,0⟩])(D:∀u,∃p,evalThenUse e X.env u=(do let _<-comprehension e b X.env p d ZX (eval c X.env) (Z7 u)))(G:Tj e (Z7 (.Name x A)) n.line X.env=pure ZW)(hs:∀x,Yb c X.env x=pure x)(h:It X y O c λl f=>l.length<=T.cap/\tc X b U k a j o g i l/\K.nx (dM y x (T.res (l.filterMap g))) f):Es X y O (.Assign [.Name x A] e n) K:=λE s F=>by
 exists exec_Assign_Name_used _ _ _ _ G;show aS (D<|Uq (.Name x A) X.env) λp D=>?_;exists D;show Z8 (YO (Z8 (Z8 (wm (TA (Q:=λu' H=>eZ X O s K .next H) hc hs C.t7 C.kind C.names (wm (h _ s F) λxv V t=>wm t λit W v=>yt T g C LR SR r<|v.mono λl f z=>br z.1 z.2.1 λH m Dn Cn oC Y I FF J r1=>?_)) λu' H hq=>Z5<|Z5 hq))));show TC<|FF.bind hx r1 λh' tk Z M=>?_;have ho:=Z.dW<|.head _;show m3 Y ?_;clear Y;intro oo es ep e1 e2;cases Zs (I.symm.trans e1);show ae m (kN oC es ep ho e2) λuC N=>?_;show aE (AF (tk:=tk) Z N) λR w=>?_;show⟨_,f,R,(J.trans M).trans w,z.2.2⟩
def qx{K:Kn}(A:Bd X x)(g)(C:f0 X c z s k)(v:Tj (.ListComp f [⟨a,d,j,0⟩] c e) (Z7 (.Name x y)) m.line X.env=pure ZW)(D:∀x,Yb d X.env x=pure x)(h:It X s O d λl n=>l.length<=Zo/\(∀Y,gE X Y c z->∀(i:Nat)(t:AV)(o:ag),l[i]?=Z7 t->Tg Y k o a t λp=>jA Y p o j λb E=>E=o/\(b=ZW->Ev Y p o f λr w=>w=o/\g t=Z7 r/\True)/\(b=ZX->g t=Z4))/\K.nx (dM s x (.lst (l.filterMap g))) n):Es X s O (.Assign [.Name x y] (.ListComp f [⟨a,d,j,0⟩] c e) m) K:=Es.comp (xP X) A g C (AX ..) (DR ..) (λq=>XC q) rfl (λu=>⟨_,rfl⟩) v D h
abbrev LV(O:ag)(a:AV)(l:List AV):Prop:=a=.lst l\/∃r,a=.ref r/\(r,az.list l)∈O
def LV.lst:LV O (.lst l) l:=.inl rfl
inductive qK(D:List Zw)(h:Xq)(l:List AV):ZN->Prop|mk(ad:Zw)(vs:Array ZN)(n:Nat)(hg:h.get? ad=some ⟨.type "list",none,.seq vs n,#[]⟩)(rl:aD D h vs.toList l):qK D h l (.ref ad)
def Fr.rd(F:Fr X c O s)(r:aB (aa X O) s.heap v a)(h:LV O a l):qK (aa X O) s.heap l v:=by
 ext X c O s v a l;rcases h with rfl|⟨ad,rfl,d⟩;.cases r.iL with|mk hd e b=>show⟨_,_,_,e,b⟩
 .cases r.iR;show gN (F.cO d) λf n g b=>?_;show⟨_,f,n,g,b⟩
def aD.size{a:Array ZN}(r:aD D h a.toList l):a.size=l.length:=by(exists ZJ<|r.length;show aW YX rfl)
def pU(F:Fr X a O s)(r:aD (aa X O) s.heap vs l)(h:k (.lst l) O)(b):bP X a O s k (.ref s.heap.objs.size) {s with heap:=s.heap.push ⟨.type "list",Z4,.seq vs.toArray 0,#[]⟩,toks:=b}:=.done F (.push _ _ _) (.lst (n:=0) F.fresh (Zu _ rfl)<|r.keeps λc c e=>ZT _ e) h
def Bn.add(h:k (.int (a+b)) O):Bn X c O .Add (.int a) (.int b) k:=λE s u v F d e=>by cases d.iI;cases e.iI;show PyProof.Rows.add_int<|.done F (.tok _ _) (.int _ _) h
def Bn.sub(h:k (.int (a-b)) O):Bn X c O .Sub (.int a) (.int b) k:=λE s u v F d e=>by cases d.iI;cases e.iI;show PyProof.Rows.sub_int<|.done F (.tok _ _) (.int _ _) h
def Bn.mul(d:IntMulOk a b)(h:k (.int (a*b)) O):Bn X c O .Mult (.int a) (.int b) k:=λE s u v F e f=>by cases e.iI;cases f.iI;show PyProof.Rows.mul_int (.done F (.tok _ _) (.int _ _) h) d
def El(d:b≠0)(h:k (.int (a.fmod b)) O):Bn X c O .Mod (.int a) (.int b) k:=λE s u v F e f=>by cases e.iI;cases f.iI;show PyProof.Rows.mod_int d<|.done F (.tok _ _) (.int _ _) h
def ie(d:a.length+b.length<=Zo)(h:k (.str (a++b)) O):Bn X c O .Add (.str a) (.str b) k:=λE s u v F e f=>by cases e.iS;cases f.iS;show PyProof.Rows.add_str (λg i=>.done F (.tok _ _) (.str _ _) h) d
def lq(r:LV O a l)(t:LV O b i)(w:l.length+i.length<=Zo)(h:k (.lst (l++i)) O):Bn X p O .Add a b k:=λE s u v F x y=>by
 obtain⟨z,g,n,m,o⟩:=F.rd x r;obtain⟨j,c,A,d,f⟩:=F.rd y t;show concat_meets (ae _ m rfl) (ae _ d rfl) noFill_list_add seq_list_add PySem.F.slot_list_add PySem.F.entry_list_add (PySem.F.args_list_add_2 _ _) (list_addW z j g c n A Z4 Z4 #[] #[] (by(exists o.size,f.size);show w))<|br m d ?_;have Q:=pU (s:=s) (vs:=g.toList++c.toList) F (o.append f) h s.toks;have e:g++c=(g.toList++c.toList).toArray:=by simp
 exists e;show Q
def aD.replicate(r:aB D h v a):∀n,aD D h (Zt n v) (Zt n a):=by intro b;induction b with|zero=>show .nil;|succ n c=>show .cons r<|c
def Jn(a):∀(n:Nat)(b:Array ZN),(List.foldl (λc d=>c++d) b (Zt n a)).toList=b.toList++(Zt n a.toList).flatten:=by intro e;induction e with|zero=>intro b;simp;|succ n f=>intro b;rw[XD,Yh,f];simp[XD]
def aD.flat(r:aD D h a l):∀n,aD D h (Zt n a).flatten (Zt n l).flatten:=λn=>by induction n with|zero=>show .nil;|succ n b=>exists XD,XD,TN,TN;show r.append b
set_option tactic.hygienic true in def w7(o:LV O a l)(f:-(2^63:Int)<=x)(g:x<2^63)(p:l.length*x.toNat<=2^24)(r:l≠[])(h:k (.lst (Zt x.toNat l).flatten) O):Bn X m O .Mult a (.int x) k:=λE s u v F w y=>by
 obtain⟨j,b,n,c,i⟩:=F.rd w o;cases y.iI;rename_i t;have d:b.size*x.toNat<=2^24:=by exists i.size;show p
 show wpAny_binaryOp_repeat_ref (T:="list") (U:="int") (by decide) (ae _ c rfl) (λz=>typeIs_int z x t) noFill_list_mul PySem.F.fills_int_mul So repeat_list PySem.F.slot_int_index.lookup (UU So (typeIs_int s x t) PySem.F.entry_int_rmul (PySem.F.args_int_rmul_2 _ _) (int___rmul___int_list x t j b n) ⟨c,rfl,(ae _ c rfl),UU PySem.F.slot_list_mul (ae _ c rfl) PySem.F.entry_list_mul (PySem.F.args_list_mul_2 _ _) (AutoListH.list___mul___list_int_3 j b n x t (by simp[Builtin.List.listFitsIndex];show(jb 0x6c2eb86018060180601806018060180601825fc0c0300c0300c0300c0300c0300c0304bc2eff0300c0300c0300c0300c0300c0300c12f0bb6175c300c0300c0300c0300c0300c0300c12f0) f g) (<-(ai 0xc060180601845e3d484f0c0300c0300c0300c0300c0300c0304be229852fca5e2f64614) d (Yt (2^63-1) 8)<|Uf (2^63-1) (by decide:8>0)) (by simp[Builtin.List.listTooLong,Zo];show(ak 0xc060180601845e1c060180601845e10) d)) ⟨c,?_⟩⟩);have e:b.isEmpty=ZX:=by have Q:=i.size;cases l with|nil=>show absurd rfl r;|cons a l=>rw[Px];simp at Q;simp[Q]
 (exists e,if_neg Y6);have A:List.foldl (λC D=>C++D) #[] (Zt x.toNat b)=((Zt x.toNat b.toList).flatten).toArray:=by apply Array.ext';exists Jn ..;simp
 exists A;show pU (s:=s) F (i.flat _) h s.toks
def Ip.add(h:k (.int (a+b)) O):Ip X c O .Add (.int a) (.int b) k:=λE s u v F d e=>by cases d.iI;cases e.iI;show PyProof.Rows.iadd_int<|.done F (.tok _ _) (.int _ _) h
def Ip.sub(h:k (.int (a-b)) O):Ip X c O .Sub (.int a) (.int b) k:=λE s u v F d e=>by cases d.iI;cases e.iI;show PyProof.Rows.isub_int<|.done F (.tok _ _) (.int _ _) h
def Un.neg(h:k (.int (-a)) O):Un X b O .USub (.int a) k:=λE s u F r=>by cases r.iI;show P.neg_int<|.done F (.tok _ _) (.int _ _) h
def cX(F:Fr X a O s)(h:b c O):∃d,(Wj c)=.bool d/\il X a O s b d s:=ae c rfl<|.done F (.refl _) h
def Cm.IA(h:c (a==b) O):Cm X d O .Eq (.int a) (.int b) c:=λE s u v F e f=>by cases e.iI;cases f.iI;show PyProof.Rows.eq_int<|cX F h
def Cm.NL(h:c (a !=b) O):Cm X d O .NotEq (.int a) (.int b) c:=λE s u v F e f=>by cases e.iI;cases f.iI;show PyProof.Rows.ne_int<|cX F h
def Cm.lt{X:Fx}{d:Loc}{O:ag}{c:Bool->ag->Prop}{a b:Int}(h:c (decide (a<b)) O):Cm X d O .Lt (.int a) (.int b) c:=λE s u v F e f=>by cases e.iI;cases f.iI;show Rv<|cX F h
def Cm.le{X:Fx}{d:Loc}{O:ag}{c:Bool->ag->Prop}{a b:Int}(h:c (decide (a<=b)) O):Cm X d O .LtE (.int a) (.int b) c:=λE s u v F e f=>by cases e.iI;cases f.iI;show PyProof.Rows.le_int<|cX F h
def Cm.gt(h:c (decide (b<a)) O):Cm X d O .Gt (.int a) (.int b) c:=λE s u v F e f=>by cases e.iI;cases f.iI;show PyProof.Rows.gt_int<|cX F h
def Cm.ge(h:c (decide (b<=a)) O):Cm X d O .GtE (.int a) (.int b) c:=λE s u v F e f=>by cases e.iI;cases f.iI;show PyProof.Rows.ge_int<|cX F h
def Cm.eqs(h:c (a==b) O):Cm X d O .Eq (.str a) (.str b) c:=λE s u v F e f=>by cases e.iS;cases f.iS;show PyProof.Rows.eq_str<|cX F h
def Cm.NM(h:c (a !=b) O):Cm X d O .NotEq (.str a) (.str b) c:=λE s u v F e f=>by cases e.iS;cases f.iS;show PyProof.Rows.ne_str<|cX F h
def DW{c:Array ZN}{b:List ZD}(r:aD D h c.toList (b.map .str))(j)(e:j<c.size):∃t,∃d:j<b.length,c[j]=.str b[j] t:=by
 have d:j<b.length:=by have p:=r.size;rw[Z6]at p;show(ai 0x19187421e4411) e p
 obtain⟨v,f,g⟩:=r.get (i:=j) (a:=.str b[j]) (by(exists ZQ,Z2 d);rfl);rw[WH,X1 e]at f;cases g.iS;show gh _ d<|Zs f
def xS(a b:List ZD)(h:a.length=b.length):((YY a.length).all λj=>a[j]?.getD ZP==b[j]?.getD ZP)=(a==b):=by
 rw[Qa,Yi,beq_iff_eq];constructor;.intro q;apply Qy h;intro j c d;have p:=q j<|XR.mpr c;rw[Z2 c,Z2 d]at p;simpa using p
 .rintro rfl j e;simp
def vf{l b:Zw}{c a:Array ZN}{f g:List ZD}(r:aD D s.heap c.toList (f.map .str))(k:aD D s.heap a.toList (g.map .str)):∀j(h:j<c.size)(i:j<a.size),SeqAt.EqAt A s c[j] a[j] (f[j]?.getD ZP==g[j]?.getD ZP):=λj h i=>by show fK (DW r j h) λt m e=>?_;show fK (DW k j i) λo d n=>?_;(exists e,n,Z2 m,Z2 d);show SeqAt.EqAt.str_str _ _ _ _
def ti{w:Loc}{xs ys:List ZD}(o:X.A.units<Xo)(x:LV O a (xs.map .str))(y:LV O b (ys.map .str))(h:m (xs==ys) O):Cm X w O .Eq a b m:=λE s u v F z A=>by
 obtain⟨C,i,n,p,r⟩:=F.rd z x;obtain⟨j,c,t,d,e⟩:=F.rd A y;have f:=r.size;have k:=e.size;rw[Z6]at f k;by_cases g:i.size=c.size;.show P9 (items:=i) (items2:=c) (bf _ p rfl n rfl) (bf _ d rfl t rfl) g o (vf (l:=C) (b:=j) r e) ?_;(exists f,xS xs ys<|(ay 0xd047a113441e8414) f k g);show cX F h
 .show SeqAt.eq_list_lengthsAt (items:=i) (items2:=c) (bf _ p rfl n rfl) (bf _ d rfl t rfl) (by simpa using g) o ?_;have Q:(xs==ys)=ZX:=by rw[beq_eq_false_iff_ne];rintro rfl;show(ai 0x6841f6861f68431) f g k
  rw[Q]at h;show cX F h
def tj{f g:List ZD}(r:X.A.units<Xo)(z:LV O a (f.map .str))(A:LV O b (g.map .str))(h:p (f !=g) O):Cm X y O .NotEq a b p:=λE s u v F C D=>by
 obtain⟨G,k,n,t,w⟩:=F.rd C z;obtain⟨m,c,x,d,e⟩:=F.rd D A;have i:=w.size;have o:=e.size;rw[Z6]at i o;by_cases j:k.size=c.size;.show Re (items:=k) (items2:=c) (bf _ t rfl n rfl) (bf _ d rfl x rfl) j r (vf (l:=G) (b:=m) w e) _ _ _ _ ?_;(exists i,xS f g<|(ay 0xd047a113441e8414) i o j);show cX F h
 .show Ue (items:=k) (items2:=c) (bf _ t rfl n rfl) (bf _ d rfl x rfl) (by simpa using j) r _ _ _ _ ?_;have Q:(f !=g)=ZW:=by rw[bne_iff_ne];rintro rfl;show(ai 0x6841f6861f68431) i j o
  rw[Q]at h;show cX F h
def jw(m:X.A.units<Xo)(w:LV O a l)(x:LV O b [])(h:k (!l.isEmpty) O):Cm X t O .NotEq a b k:=λE s u v F y z=>by obtain⟨G,o,n,p,A⟩:=F.rd y w;obtain⟨C,d,r,f,g⟩:=F.rd z x;have c:=A.size;have i:=g.size;rw[VG]at i;cases l with
 |nil=>rw[VG]at c;show Re (items:=o) (items2:=d) (e:=λH=>ZW) (bf _ p rfl n rfl) (bf _ f rfl r rfl) ((af 0x682f1682f0e8411) i c) m (λj D I=>absurd D<|(af 0xd05e2f64419) c) _ _ _ _ ?_;exists c;show cX F h;|cons a l=>rw[ZO]at c;show Ue (items:=o) (items2:=d) (bf _ p rfl n rfl) (bf _ f rfl r rfl) (by simp;show(ai 0x682f1ea227845ed0c4000024f) i c) m _ _ _ _ ?_;show cX F h
def Tr.bool(h:a b O):Tr X c O (.bool b) a:=λE s u F r=>by cases r.iB;show Ve<|.done F (.refl _) h
def Tr.int(h:b (a !=0) O):Tr X c O (.int a) b:=λE s u F r=>by cases r.iI;show P.truthy_int<|.done F (.refl _) h
def Tr.none(h:a ZX O):Tr X b O .none a:=λE s u F r=>by cases r.iN;show truthy_none<|.done F (.refl _) h
def Tr.str(b:x.length<=Zo)(h:a ((x.length:Int)!=0) O):Tr X c O (.str x) a:=λE s u F r=>by cases r.iS;show P.truthy_str (by rw[Zx]at b;show(ak 0x180c0300c0308bc3ed84300c0300c0300c0300c0300c0300c12f0) b)<|.done F (.tok _ _) h
def Tr.list(f:LV O a l)(g:(l.length:Int)<2^63)(h:b (!l.isEmpty) O):Tr X d O a b:=λE s u F r=>by
 obtain⟨k,i,n,j,c⟩:=F.rd r f;show wpAny_truthy_list (bf _ j rfl n rfl) (by exists c.size;show g)<|.done F (.tok _ _) ?_;have e:i.isEmpty=l.isEmpty:=by have p:=c.size;cases l with|nil=>simp at p;simp[p];|cons a l=>simp at p;rw[Px];simp[p]
 exists e;show h
def Un.not(h:Tr X f O a λc b=>k (.bool (!c)) b):Un X f O .Not a k:=λE s u F r=>not_of (wm (h _ s u F r) λc i e=>fL e λb d g q=>⟨_,b,d,g,.bool _,q⟩)
abbrev sD:X7->Prop
 |.Slice ..=>False|_=>True
def wJ(b:sD a):subscripted a ZX o i=operate [o,i] (getItem o i):=by cases a<;>first|rfl|show b.elim
def Ix.list(f:sD b)(g:LV O a l)(j:0<=i)(m:i<2^63)(o:l[i.toNat]?=Z7 x)(h:k x O):Ix X e O c b a (.int i) k:=λE s u v F p t=>by obtain⟨w,y,n,z,A⟩:=F.rd p g;cases t.iI;show aq (A.get o) λv C r=>?_;have d:s.heap.IsList w y:=bf _ z rfl n rfl;show QS d.typeIs Vd.lookup (wpAny_getItem_list d j m (by simpa using C)<|.done F (.refl _) r h)<|wJ f
set_option tactic.hygienic true in def Ix.tup(e:sD a)(f:-(2^63)<=i)(g:i<2^63)(m:seqIndex? i l.length=Z7 j)(o:l[j]?=Z7 x)(h:k x O):Ix X d O b a (.tup l) (.int i) k:=λE s u v F p t=>by cases p.iT with|mk hd w c=>rename_i A y n;cases t.iI;show aq (c.get o) λv z r=>?_;show item_tupleT (l:=y.toList) (bf _ w rfl n<|by simp) f g (by exists c.length;show m) z (.done F (.refl _) r h)<|wJ e
abbrev eN(l:List AV)(a b c:Option Int):List AV:=(PP (Xn a b c l.length).1 (Xn a b c l.length).2.1 (Xn a b c l.length).2.2).filterMap (l[·]?)
def aD.pick(r:aD D h c l)(b:List Nat):aD D h (b.filterMap (c[·]?)) (b.filterMap (l[·]?)):=by induction b with|nil=>show .nil;|cons j b d=>(exists YI,YI);cases e:l[j]? with
 |none=>
   have p:c[j]?=Z4:=by rw[TU]at e⊢;exists r.length;show e
   exists p;show d;|some a=>show aq (r.get e) λv f g=>?_;exists f;show .cons g d
abbrev ly(X:Fx)(c:Loc)(O:ag):Option X7->(Option Int->ag->Prop)->Prop
 |none,k=>k Z4 O|some e,k=>Ev X c O e λa b=>∃i,a=.int i/\k (Z7 i) b
inductive EV(X:Fx)(ρ:Loc)(O:ag)(s:ZL)(k:Option Int->ag->Prop)(v:ZN)(s':ZL):Prop|mk(i:Option Int)(O':ag)(F:Fr X ρ O' s')(st:am (aa X O) s.heap (aa X O') s'.heap)(p:Pj v i)(q:k i O')
def ly.ok(h:ly X ρ O e k)(F:Fr X ρ O s):ZE (model pw X.w) X.A (evalPart e X.env) (EV X ρ O s k) E s:=by cases e with|none=>show Z5 ⟨_,O,F,.refl _ _,.none,h⟩;|some e=>show wm (h _ s F) λv f z=>?_;obtain⟨a,b,c,g,r,i,e,d⟩:=z;cases e;cases r.iI;show⟨_,b,c,g,.int _ _,d⟩
inductive xL(O:ag)(a:AV)(i j m:Option Int)(k:AV->ag->Prop):Prop|mk(l:List AV)(hl:LV O a l)(hm:m≠some 0)(hz:l.length<=Zo)(hk:k (.lst (eN l i j m)) O)
def acq{A C o:Option X7}(F:Fr X h O s)(r:aB (aa X O) s.heap a y)(q:xL O y i j m k)(p:Pj c i)(t:Pj d j)(u:Pj f m):ZE (model pw X.w) X.A (subscriptTail b (.Slice A C o z) a (.ref s.heap.objs.size)) (bP X h O s k) E {s with heap:=s.heap.push {cls:=.type "slice",data:=.fields #[c,d,f]}}:=by
 revert X h O s E k z b A C o a c d f y i j m;injections X h O s a y i j m;ext k c d f b z E A C o;obtain⟨l,I,J,M,N⟩:=q;obtain⟨v,D,n,Q,G⟩:=F.rd r I;have g:=c7.push s {cls:=.type "slice",data:=.fields #[c,d,f]} s.toks;have w:=g.keep _ _ Q;have R:(s.heap.push {cls:=.type "slice",data:=.fields #[c,d,f]}).IsList v D:=bf _ w rfl n rfl;have x:ZE (model pw X.w) X.A (getItem (.ref v)<|.ref s.heap.objs.size) (bP X h O s k) E {s with heap:=s.heap.push {cls:=.type "slice",data:=.fields #[c,d,f]}}:=by
  show wpAny_getItem_list_slice R (O0 ..) p t u J ?_ (by exists G.size;show M);have e:slicePick D i j m=(RV (D.toList[·]?)<|PP (Xn i j m l.length).1 (Xn i j m l.length).2.1 (Xn i j m l.length).2.2).toArray:=by unfold slicePick;exists G.size;simp only[WH]
  exists e;show .from g.jW<|pU (F.grow g) ((G.keeps g.keep).pick _) N s.toks
 have H:Tz {s with heap:=s.heap.push {cls:=.type "slice",data:=.fields #[c,d,f]}} (.ref v) "list":=ae _ w rfl;cases o with|none=>show QS (ops:=[.ref s.heap.objs.size,.ref v]) H Vd.lookup x rfl;|some o=>show QS (ops:=[.ref v,.ref s.heap.objs.size]) H Vd.lookup x rfl
def Ev.slice{v S:Vk}(h:Ev X u O b λa f=>ly X u f N λi g=>ly X u g Q λj l=>ly X u l R λm n=>xL n a i j m k):Ev X u O (.Subscript b (.Slice N Q R S) v) k:=by ext X u O b N Q R k v S;show(λE s F=>by show PQ<|wm (h _ s F) λa U z=>?_;show ba z ?_;clear z;intro av f o t p r;show wpAny_Slice<|wm (r.ok o) λvl V z=>?_;obtain⟨i,g,w,c,x,y⟩:=z;have A:=t.trans c;have C:=p.move c;clear p r o;show wm (y.ok w) λvu W z=>?_;obtain⟨j,l,D,d,G,H⟩:=z;show wm (H.ok D) λvt Y z=>?_;obtain⟨m,n,I,e,J,M⟩:=z;show wm (acq I ((C.move d).move e) M x G J) λZ Z z=>z.from<|(A.trans d).trans e)
def Hi:∀(a:List (ZD×XH))(n:Nat)(b:List (ZD×Zw)),(b.lookup x).isSome=ZW->((Xm n a b).lookup x).isSome=ZW:=by intro e;induction e with|nil=>showλ_ _ h=>h;|cons c r d=>
  obtain⟨y,k⟩:=c;intro n b h;unfold Xm;by_cases q:(k==UN)=ZW
  .exists if_pos q;show d _ _ ?_;exists ZG;by_cases z:(x==y)=ZW;.exists z;rfl
   .simp only[XK]at z;exists z;show h
  .exists if_neg q;show d _ _ h
def cellsFrom_some:∀(a:List (ZD×XH))(n:Nat)(b:List (ZD×Zw)),a.lookup x=Z7 .cell->((Xm n a b).lookup x).isSome=ZW:=by intro e;induction e with|nil=>intro _ _ h;simp at h;|cons c r d=>
  obtain⟨y,k⟩:=c;intro n b h;unfold Xm;rw[ZG]at h;by_cases z:(x==y)=ZW
  .replace h:=z▸h;have p:k=.cell:=by simpa using h
   exists p,(if_pos<|by decide);show Hi r _ _ (by(exists ZG,z);rfl)
  .simp only[XK]at z;replace h:=z▸h;split;.show d _ _ h
   .show d _ _ h
def t6:∀(a:List (ZD×XH))(n:Nat)(b:List (ZD×Zw)),(a.map (·.1)).Nodup->(b.map (·.1)).Nodup->(∀x∈a.map (·.1),x∉b.map (·.1))->((Xm n a b).map (·.1)).Nodup:=by intro g;induction g with|nil=>showλ_ _ _ h _=>h;|cons e r f=>
  obtain⟨y,k⟩:=e;intro n b c h hd;rw[Z3,ZC]at c;unfold Xm;split
  .show f _ _ c.2 ?_ λx d q=>?_;.rw[Z3,ZC];show⟨hd y<|.head _,h⟩
   .rcases Z1.mp q with rfl|q;.show c.1 d
    .show hd x (.tail _ d) q
  .show f _ _ c.2 h λx d=>hd x<|.tail _ d
def wR{l:List (ZD×Zw)}(h:(l.map (·.1)).Nodup):∀n c a,(n,c)∈l->(n,a)∈l->a=c:=by induction l with|nil=>intro d d d h;cases h;|cons p l i=>
  rw[Z3,ZC]at h;intro n c a j k;show ZI (Z1.mp j) (λe=>?_) (λf=>?_)<;>show ZI (Z1.mp k) (λb=>?_) λg=>?_;.rw[<-e]at b;show(Prod.mk.inj b).2
  ·subst e;show(h.1<|Z0.mpr<|ae (n,a) g rfl).elim
  .subst b;show(h.1<|Z0.mpr<|ae (n,c) f rfl).elim
  .show i h.2 n c a f g
def GQ:∀{m:ZD->Option ZN},x∉b.map (·.1)->bindL a b m x=m x:=by induction b with|nil=>showλ_=>rfl;|cons p r c=>
  intro m h;rw[Z3,Z1,not_or]at h;exists c h.2;split;.show if_neg h.1
  ·rfl
def GP:∀{m:ZD->Option ZN},x∉b.map (·.1)->PO a b m x=m x:=by induction b with|nil=>showλ_=>rfl;|cons p r c=>
  intro m h;rw[Z3,Z1,not_or]at h;exists c h.2;split;.rfl
  .show if_neg h.1
def tY{kd:ZD->Option XH}{x:ZD}{v:ZN}(d:kd x=Z7 .local):∀{b:List (ZD×ZN)}{m:ZD->Option ZN},(b.map (·.1)).Nodup->b.lookup x=Z7 v->bindL kd b m x=Z7 v:=by intro f;induction f with|nil=>intro _ _ h;simp at h;|cons a r g=>
  obtain⟨n,i⟩:=a;intro m c h;rw[Z3,ZC]at c;rw[ZG]at h;by_cases z:(x==n)=ZW;.have e:=eq_of_beq z;subst e;replace h:=z▸h;(exists GQ c.1,if_pos d);simpa using h
  .simp only[XK]at z;replace h:=z▸h;show g c.2 h
def yd{kd:ZD->Option XH}{x:ZD}{v:ZN}(d:kd x≠Z7 .local):∀{b:List (ZD×ZN)}{m:ZD->Option ZN},(b.map (·.1)).Nodup->b.lookup x=Z7 v->PO kd b m x=Z7 v:=by intro f;induction f with|nil=>intro _ _ h;simp at h;|cons a r g=>
  obtain⟨n,i⟩:=a;intro m c h;rw[Z3,ZC]at c;rw[ZG]at h;by_cases z:(x==n)=ZW;.have e:=eq_of_beq z;subst e;replace h:=z▸h;(exists GP c.1,if_neg d);simpa using h
  .simp only[XK]at z;replace h:=z▸h;show g c.2 h
structure Callee(X Y:Fx)(name:ZD)(scope:Vs)(fa:Zw)(cd:ZN):Prop where
 w:Y.w=X.w
 env:∃L,Y.env=Y8 name scope L fa cd/\Y.A=X.A.deeper (Y8 name scope L fa cd)wr:Y.wr
 a7:Y.a7=[]
def Callee.bd(C:Callee X Y name a b c)(h:a.names.lookup x=Z7 .local\/a.names.lookup x=Z7 .cell):Bd Y x:=by
 show aq C.env λL e d=>?_;show ZI h (λh=>?_) λh=>?_;.show .inl (by exists e;show h)
 .show .inr<|br (by exists e;show h) C.wr ?_;have p:=cellsFrom_some a.names (L+1) [] h;exists e;show Xz.mp p
abbrev xG(O:ag)(a r:AV):Prop:=a=r\/∃l,LV O a l/\r=.lst l
def ax.def{body:List YR}{ns:List ZD}(g:X.A.depth<ZU)(ho:(ar X.w.params).get? y=Z7 o)(hd:o.data=.func (Ph name params body scope pm (.ref ca) doc))(I:(ar X.w.params).get? ca=Z7 W)(J:W.data=.fields i)(M:i[1]?=Z7 (.str name ct))(hb:∀u:List ZN,u.length=l.length->RU (Ph name params body scope pm (.ref ca) doc) ⟨u,[]⟩=pure (ns.zip u))(N:ns.Nodup)(hl:∀x∈ns,scope.names.lookup x=Z7 .local\/scope.names.lookup x=Z7 .cell)(Q:(scope.names.map (·.1)).Nodup)(C:scope.kind=.function)(j:scope.isGenerator=ZX)(m:scope.isCoroutine=ZX)(h:∀Y,Callee X Y name scope y (.ref ca)->Ex Y (ns.zip l) [] body ⟨λf f=>k .none O,λa O'=>∃r,xG O' a r/\k r O,λf f=>False,λf f=>False⟩):ax X ρ O (.ref y) l k:=by
 intro E s u F R;revert g ho hd I J M hb N hl Q C j m h F R;revert X ρ O k y ca o W name params body scope pm doc l i ct ns E s u;injections y o name params scope pm ca doc W i X;injections l k ρ O ct body ns E s u;intro g ho hd I J M hb N hl Q C j m h F R;have Z:∀x∈ns.zip u,scope.names.lookup x.1=Z7 .local\/(scope.names.lookup x.1=Z7 .cell/\((Xm (s.heap.objs.size+1) scope.names []).lookup x.1).isSome=ZW):=λx hx=>by
  show ZI (hl x.1 (UE hx).1) (λh=>?_) λh=>?_;.show .inl h
  .show .inr ⟨h,cellsFrom_some _ _ _ h⟩
 show Xs<|call_cells_ret g (F.base _ _ ho) hd (n9 F.base) (pD ca W i ct rfl (F.base _ _ I) J M) (hb u R.length) Z (λt tk FL CL=>?_) m j C;have hsz:s.heap.objs.size<t.objs.size:=FL.ns.lt;let Y:Fx:={w:=X.w,A:=X.A.deeper<|Y8 name scope s.heap.objs.size y<|.ref ca,env:=Y8 name scope s.heap.objs.size y<|.ref ca,h₀:=s.heap,D₀:=aa X O,a7:=[],held:=[],G:=X.G,os:=X.os,fn:=C,glob:=rfl,bn:=rfl,hh:=X.hh,above:=.inl<|c9 _,jB:=F.base,jK:=λa S=>(nM S),eh:=λa S=>(nM S),apart:=CL.apart,kt:=λn c V=>Wg<|CL.above n c V,iw:=wR<|t6 _ _ _ Q XY λf f q=>nM q,old:=F.ex,hnl:=λq U=>(nM U),hnc:=λq U=>(nM U),hab:=λq U=>nM U};have CY:Callee X Y name scope y (.ref ca):=⟨rfl,(ae _ rfl rfl),λn c V=>.inl<|X4<|Ye<|CL.above n c V,rfl⟩;have S0:am (aa X O) s.heap (aa Y []) t:=λa o S e=>by
  show⟨λq=>?_,FL.keep a o e⟩;have:=Zg e;show fJ q (λq=>?_) (λq=>?_) (λn q=>?_) (λq=>?_) λo' q=>?_;.cases q
  .show absurd q<|X8 this
  .show absurd (CL.above n a q)<|Ud.mpr<|Ye this
  .show S q
  .cases q
 have FY:Fr Y (ns.zip l) [] {s with heap:=t,toks:=tk}:=by
  show⟨λa o f e=>FL.keep a o e,F.gens,F.os,⟨_,PO (Y8 name scope s.heap.objs.size y<|.ref ca).kindOf (ns.zip u) λf=>Z4,FL.ns,λn c V=>?_,λx av e=>?_⟩,λq U=>(nM U),λp hp=>(nM hp),XY⟩;.have hu:=Y.iw n;cases D:(Xm (s.heap.objs.size+1) scope.names []).lookup n with
 |none=>rw[W2]at D;have z:=D _ V;simp at z;|some c'=>have:c'=c:=hu c c' V<|mem_of_lookup D;subst this;show CL.cell n c' D
  .show aq (wX R e) λv e1 r=>?_;have hx:=wV e;show ae v ?_<|r.move S0;have nd:((ns.zip u).map (·.1)).Nodup:=wW N;show ZI (hl x hx) (λq=>?_) λq=>?_;.show .inl ⟨q,tY (kd:=Y.env.kindOf) q nd e1⟩
   .show .inr<|br q (yd (kd:=Y.env.kindOf) (λz=>?_) nd e1)<|Xz.mp<|cellsFrom_some _ _ _ q;rw[show Y.env.kindOf x=Z7 .cell from q]at z;cases z
 show wm (h Y CY (λf f=>False) _ FY) λfl s' x=>?_;show iy x ?_;clear x;intro ρ' dy d oK x;have kp:Keeps s.heap s'.heap:=λa o e=>d.keep a o (λq=>nM q) e;have FX:Fr X ρ O s':=F.move (am.of kp) (λa o f f e=>kp a o e) d.gens (d.os.trans F.os.symm) (λo e=>kp _ o e) (λf c f o e=>kp c o e) (λq f e=>kp _ _ e) (λp hp=>let⟨a1,a2,a3,a4,o,h1,h2⟩:=F.own p hp;⟨a1,a2,a3,a4,o,kp _ _ h1,h2.move<|am.of kp⟩) F.nd;have H:am (aa Y dy) s'.heap (aa X O) s'.heap:=λa o S e=>⟨λq=>S<|aL.mpr<|.inr<|.inr<|.inr<|.inl q,e⟩;cases fl with
 |next=>show⟨.none,O,FX,am.of kp,.none,x⟩;|ret v=>
  obtain⟨a,r,r',hr,hk⟩:=x;rcases hr with rfl|⟨l',rH,rfl⟩;.show⟨_,O,FX,am.of kp,r.move H,hk⟩
  .obtain⟨ad,vs',n',hg,rl⟩:=d.rd r rH;show⟨_,O,FX,am.of kp,.lst (λq=>?_) hg<|rl.move H,hk⟩;rcases rH with rfl|⟨r0,rfl,hm⟩;.cases r.iL with|mk lU hg' rl'=>show lU<|aL.mpr<|.inr<|.inr<|.inr<|.inl q
   .cases r.iR;show ZI ((d.own _ hm).1) (λb=>?_) λb=>?_;.show aS (F.ex _ q) λo' kJ=>?_;have e:=(show s.heap.get? _=Z4 from b).symm.trans kJ;cases e
    .cases b;|brk=>show x.elim;|cont=>show x.elim
def C8{a:Ri}(d:c≠.free):∀{b:List (ZD×XH)}{x:ZD},b.lookup x=Z7 c->(b.map λ(n,k)=>if(k==Xk&&a.scope.kind==.function&&a.kindOf n==Z7 .cell)then(n,UN)else(n,k)).lookup x=Z7 c:=by intro i;induction i with|nil=>intro _ h;simp at h;|cons e r f=>
  obtain⟨n,k⟩:=e;intro x h;revert d f h;ext c a r n k x;exists Z3;rw[ZG]at h;by_cases z:(x==n)=ZW
  .replace h:=z▸h;have p:k=c:=by simpa using h
   subst p;have p:(k==Xk)=ZX:=by simpa using d
   simp[p,ZG,z]
  .simp only[XK]at z;replace h:=z▸h;have p:=f h;by_cases g:(k==Xk&&a.scope.kind==.function&&a.kindOf n==Z7 .cell)=ZW;.simp only[g,if_true,ZG,z];show p
   .simp only[g,YF,if_false,ZG,z];show p
def abG{a:Ri}(c:a.scope.kind=.function):∀{b:List (ZD×XH)}{x:ZD},b.lookup x=Z7 .free->a.kindOf x=Z7 .cell->(b.map λ(n,k)=>if(k==Xk&&a.scope.kind==.function&&a.kindOf n==Z7 .cell)then(n,UN)else(n,k)).lookup x=Z7 .cell:=by intro f;revert c;injections a f;intro c;induction f with|nil=>intro _ h _;simp at h;|cons d r j=>
  obtain⟨n,k⟩:=d;intro x h g;exists Z3;rw[ZG]at h;by_cases z:(x==n)=ZW
  .replace h:=z▸h;have p:k=.free:=by simpa using h
   subst p;have e:=eq_of_beq z;subst e;simp[c,g,ZG]
  .simp only[XK]at z;replace h:=z▸h;have p:=j h g;by_cases i:(k==Xk&&a.scope.kind==.function&&a.kindOf n==Z7 .cell)=ZW;.simp only[i,if_true,ZG,z];show p
   .simp only[i,YF,if_false,ZG,z];show p
abbrev o4(b:Vs)(a:List (ZD×Zw)):List (ZD×Zw):=(b.names.filterMap λp=>if p.2==.free then(a.lookup p.1).map (p.1,·)else Z4).reverse
def Hs(d):∀(a:List (ZD×XH))(b:List (ZD×Zw)),(∀p∈a,p.2=.free->∃c,d.cells.lookup p.1=Z7 c)->(forIn a b λ(x:ZD×XH)(r:List (ZD×Zw))=>(match x with|(name,f)=>if f==Xk then(do let c<-cellOf d name;pure (V8 ((name,c)::r)))else pure (V8 r):PA (ForInStep (List (ZD×Zw)))))=pure ((a.filterMap λp=>if p.2==.free then(d.cells.lookup p.1).map (p.1,·)else Z4).reverse++b):=by intro m;induction m with|nil=>showλb _=>rfl;|cons g r i=>
  obtain⟨n,j⟩:=g;intro b h;revert i h;ext d r n j b;rw[VE];by_cases q:(j==Xk)=ZW
  .show aS (h (n,j) (.head _)<|by simpa using q) λc l=>?_;have e:cellOf d n=pure c:=by unfold cellOf;show aW l rfl
   simp only[q,if_true,e];have t:=i ((n,c)::b) λp k=>h p<|.tail _ k;simp only[YI,q,if_true,l,P8,W3,ZA,Sn];show t
  .have t:=i b λp k=>h p<|.tail _ k;simp only[YI,q,YF,if_false];show t
def NW:∀{a:List (ZD×XH)},(a.map (·.1)).Nodup->∀y∈a,a.lookup y.1=Z7 y.2:=by intro c;induction c with|nil=>showλ_ _ h=>nM h;|cons p r d=>
  intro b y h;rw[Z3,ZC]at b;exists ZG;rcases Z1.mp h with rfl|h;.simp
  .have t:(y.1==p.1)=ZX:=by have t:y.1≠p.1:=λe=>b.1<|e▸Z0.mpr (ae y h rfl);simpa using t
   exists t;show d b.2 y h
set_option tactic.hygienic true in def eA{R:Zw}(C:Callee Z X name d R S)(v:(a.names.map (·.1)).Nodup)(U:a.kind=.function)(M:∀y∈a.names,y.2≠.cell)(w:∀y∈a.names,y.2=.free->d.names.lookup y.1=Z7 .cell)(N:∀p∈b9,J.lookup p.1=Z7 p.2/\a.names.lookup p.1=Z7 .free):f0 X a (o4 a X.env.cells) J b9:=by
 show aq C.env λL e O=>?_;have f:∀y∈a.names,y.2=.free->∃c,X.env.cells.lookup y.1=Z7 c:=λy j A=>by exists e;show Xz.mp<|cellsFrom_some d.names (L+1) []<|w y j A
 have g:∀p∈o4 a X.env.cells,∃y∈a.names,y.2=.free/\y.1=p.1/\X.env.cells.lookup p.1=Z7 p.2:=λp s=>by
  show aq (Rd.mp<|Th.mp s) λy j q=>?_;by_cases z:(y.2==Xk)=ZW;.replace q:=(if_pos z)▸q;cases h:X.env.cells.lookup y.1 with|none=>replace q:=h▸q;cases q;|some c=>replace q:=h▸q;cases q;show db y j (by simpa using z) rfl h
  .replace q:=(if_neg z)▸q;cases q
 show⟨?_,λp s=>?_,?_,M,U,λy j h=>by exists ZJ<|h;show NW v y j,λx V W=>?_⟩;.have:=Hs X.env a.names [] f;rw[ZH]at this;show congrArg (·>>=pure) this
 .show dI (g p s) λy j A D o=>?_;show mem_of_lookup o
 .
  have Y:=X.apart;have F:∀(l:List (ZD×Zw)),(l.map (·.1)).Nodup->(∀p∈l,p∈X.env.cells)->l.Pairwise λx y=>x.2≠y.2:=by intro l;induction l with|nil=>intro O O;show .nil;|cons p l t=>intro m n;rw[Z3,ZC]at m;show .cons (λq u ee=>m.1 ?_)<|t m.2 λq u=>n q<|.tail _ u;have:p.1=q.1:=name_of_addr Y (n p<|.head _) (show(q.1,p.2)∈X.env.cells by exists ee;show n q<|.tail _ u);exists this ..;show Z0.mpr<|ae q u rfl
  show F _ ?_ λp s=>by show dI (g p s) λy j A D o=>?_;show mem_of_lookup o
  have G:((o4 a X.env.cells).map (·.1)).reverse.Sublist (a.names.map (·.1)):=by(exists ZJ<|Qx ..,List.reverse_reverse ..);clear g f M w N v;induction a.names with|nil=>show .slnil;|cons y r t=>
    exists YI ..;split;.exists Z3;show .cons _ t
    .rename_i b i;(exists Z3,Z3);have:b.1=y.1:=by
      split at i;.cases h:X.env.cells.lookup y.1 with|none=>replace i:=h▸i;cases i;|some c=>replace i:=h▸i;cases i;rfl
      .cases i
     exists this;show .cons_cons _ t
  have:=v.sublist G;show(List.pairwise_reverse.mp this).imp Xb
 .show aE (N (x,V)<|mem_of_lookup W) λD o=>?_;have H:(x,Xk)∈a.names:=mem_of_lookup o;have Q:X.env.kindOf x=Z7 .cell:=by exists e;show w _ H rfl
  show aS (f _ H rfl) λc I=>?_;show lW D Q ?_ λC'=>?_
  .have:(x,c)∈o4 a X.env.cells:=Th.mpr<|Rd.mpr<|ae (x,.free) H<|by simp[I]
   cases h:(o4 a X.env.cells).lookup x with|none=>rw[W2]at h;have z:=h _ this;simp at z;|some c'=>show⟨c',rfl⟩
  .show abG X.fn o Q
def gE.bd(C:gE X Y a b)(h:a.names.lookup x=Z7 .local):Bd Y x:=by show m2 C ?_;clear C;intro c c L e;show .inl (by exists e;show C8 (by simp) h)
def gE.glob(C:gE X Y a b)(h:a.names.lookup x=Z7 .globalImplicit):Y.env.kindOf x=Z7 .globalImplicit:=by show m2 C ?_;clear C;intro c c L e;exists e;show C8 (by simp) h
def Callee.glob(C:Callee X Y name a b c)(h:a.names.lookup x=Z7 .globalImplicit):Y.env.kindOf x=Z7 .globalImplicit:=by show aq C.env λL e d=>?_;exists e;show h
abbrev dB(l:Zw)(i:Nat):Ze:={cls:=.type "list_iterator",data:=.fields #[.ref l,.int i 0]}
abbrev Ld(X:Fx)(f:ZD)(b:ZN):Prop:=∀(E:ZN->ZL->Prop)(s:ZL)(a:Vk)(Q:ZN->ZL->Prop),Keeps (ar X.w.params) s.heap->Q b s->ZE (model pw X.w) X.A (eval (.Name f a) X.env) Q E s
def Ld.b(b:X.env.kindOf f=Z7 .globalImplicit)(c:(f==("__debug__":ZD))=ZX)(d:∀P,Wi (cw (eM P)) f=Z4)(e:∀P,Wi (cw (UL P)) f=Z7 a):Ld X f a:=λE s g Q K q=>MI K X.glob X.bn X.fn b c d e q
def Ld.g(b:X.env.kindOf f=Z7 .globalImplicit)(c:(f==("__debug__":ZD))=ZX)(d:∀P,Wi (cw (eM P)) f=Z7 a):Ld X f a:=λE s e Q K q=>MJ K X.glob X.fn b c d q
def tS(h:bm X j O (e::o) λl b=>ax X j b p l k)(F:Fr X j O s):ZE (model pw X.w) X.A (spliced (WR f (Yd (e::o) X.env))) (λm a=>Keeps (ar X.w.params) a.heap/\ZE (model pw X.w) X.A (call p m) (bP X j O s k) E a) E s:=wm (h _ s f F) (λm a n=>ga n λl b c d g i=>⟨c.base,wm (i _ a m c g) λv r x=>.from d x⟩)
def cV{u:Loc}{name:ZD}(y:Pw "list" name w)(R:Uc (.builtin w)=pure (.type "method_descriptor"))(p:VN o name X.env (eval o X.env)=eval o X.env)(r:(c.endLine==m.line)=ZW)(S:bN e=ZX)(h:Ev X u O o λa d=>(∃l,LV d a l)/\Ev X u d e λb g=>ax X u g (.builtin w) [a,b] k):Ev X u O (.Call (.Attribute o name c) [e] [] m) k:=by ext w o e X O k c m u name;show(λE s F=>by have J:Yd [e] X.env=[(ZX,eval e X.env)]:=fU (by exists YB,S;rfl);show Call_method1 p J r<|wm (h _ s F) λV A z=>ba z λa d i t j z=>aE z λz C=>aS z λl U=>?_;obtain⟨W,Y,n,N,Z⟩:=i.rd j U;show lY ("list") w Tf y R (ae _ N rfl) (λb e=>by cases e;show ae _ N rfl) ?_;show Calls.callWith_builtin rfl<|UK<|Vv<|wm (C _ A i) λv D M=>ba M λb g G f H I=>Vf ?_;show wm (I _ D _ G<|.cons (j.move f)<|.cons H .nil) λv Q x=>.from (t.trans f) x)
set_option tactic.hygienic true in def ax.append(c:(r,az.list l)∈O)(i:l.length<=Zo)(h:k .none (aK O r (.list (l++[b])))):ax X g O (.builtin "list.append") [.ref r,b] k:=λE s d F R=>by replace R:=R.i2;obtain⟨j,m⟩:=R;cases j.iR;rename_i v;show gN (F.cO c) λd n p f=>?_;show AQ p (by exists f.size;show i) λx t u a=>?_;show⟨.none,_,F.update (tk:=s.toks) (ao:=.list<|l++[b]) c a u<|b7 (d.push v) t rfl (by exists WE;show f.append<|.cons m .nil),F.er c λb o w e=>(a.2 b w).trans e,.none,h⟩
def A7:XS (λx=>x++b) ⟨.type "list",Z4,.seq a n,#[]⟩=⟨.type "list",Z4,.seq (a++b) (if(a++b).size==a.size then n else n+1),#[]⟩:=rfl
def oR(i:(r,az.list l)∈O)(j:LV O b g)(y:l.length+g.length<=Zo)(h:k .none (aK O r (.list (l++g)))):ax X w O (.builtin "list.extend") [.ref r,b] k:=λE s c F R=>by
 replace R:=R.i2;obtain⟨z,A⟩:=R;cases z.iR;show gN (F.cO i) λc n m u=>?_;obtain⟨p,a,C,t,f⟩:=F.rd A j;have d:c.size+a.size<=Zo:=by exists u.size,f.size;show y
 show UU Xy (ae _ m rfl) PySem.F.entry_list_extend (PySem.F.args_list_extend_2 _ _) (AutoSeq1.list_extend_list_list_0 r c n p a C (extend_door d) (ZY (Zp _ _) d)<|X5 d)<|br m t ?_;have v:YG r s.heap (s.heap.update r<|XS λx=>x++a):=YN ..;have D:(s.heap.update r<|XS λx=>x++a).get? r=Z7 ⟨.type "list",Z4,.seq (c++a)<|if(c++a).size==c.size then n else n+1,#[]⟩:=by exists(YA _ m (by show aW A7 ?_;rfl));show aW A7 rfl
 show⟨.none,_,F.update (tk:=s.toks) (ao:=.list<|l++g) i v D<|b7 (c++a) _ rfl (by exists YW;show u.append f),F.er i λb o j e=>(v.2 b j).trans e,.none,h⟩
def ax.len(d:LV O a l)(e:(l.length:Int)<2^63)(h:k (.int l.length) O):ax X c O (.builtin "len") [a] k:=λE s f F R=>by replace R:=R.i1;obtain⟨g⟩:=R;obtain⟨j,f,n,i,b⟩:=F.rd g d;show len_list (bf _ i rfl n rfl) (by exists b.size;show e)<|.done F (.tok _ _) (.int _ _) (by exists b.size;show h)
def ax.str(c:a.natAbs.log2<1920)(h:k (.str (Z9 (toString a))) O):ax X b O (.type "str") [.int a] k:=λE s e F R=>by replace R:=R.i1;obtain⟨d⟩:=R;cases d.iI;show P.str_of_int c<|.done F (.tok _ _) (.str _ _) h
def lN(F:Fr X d O s)(e:∀c o,s.heap.get? c=Z7 o->b.get? c=Z7 o)(r:aB (aa X O) b v a)(h:k a O):bP X d O s k v {s with heap:=b,toks:=f}:=⟨a,O,F.keeps e,am.of e,r,h⟩
def Ez(h:k (.int (min a b)) O):ax X c O (.builtin "min") [.int a,.int b] k:=λE s g F R=>by
 replace R:=R.i2;obtain⟨d,e⟩:=R;cases d.iI;cases e.iI;show min_two_ints X.hh λi j f=>lN F f ?_ h;by_cases q:b<a;.exists if_pos q,(show min a b=b by show(dK 0x1c0b84ee89d41382e0) q);show .int _ _
 .exists if_neg q,(show min a b=a by show(dK 0x3dc0b84ee85d41382e0) q);show .int _ _
def Ew(h:k (.int (max a b)) O):ax X c O (.builtin "max") [.int a,.int b] k:=λE s g F R=>by
 replace R:=R.i2;obtain⟨d,e⟩:=R;cases d.iI;cases e.iI;show max_two_ints X.hh λi j f=>lN F f ?_ h;by_cases q:b>a;.exists if_pos q,(show max a b=b by show(dK 0x1c1382ee89d51382e0) q);show .int _ _
 .exists if_neg q,(show max a b=a by show(dK 0x3dc1382ee85d51382e0) q);show .int _ _
def ax.abs(h:k (.int (if a<0 then-a else a)) O):ax X b O (.builtin "abs") [.int a] k:=λE s d F R=>by replace R:=R.i1;obtain⟨c⟩:=R;cases c.iI;show call_abs_int λu e=>.done F (.tok _ _) (.int _ _) h
def Eo(b:0<=i)(c:i<=1114111)(h:k (.str ⟨#[i.toNat]⟩) O):ax X a O (.builtin "chr") [.int i] k:=λE s e F R=>by replace R:=R.i1;obtain⟨d⟩:=R;cases d.iI;show chr_of_range b c<|.done F (.tok _ _) (.str _ _) h
def Lw(r:aD D h b (a.map .int)):Pg b a:=by induction a generalizing b with|nil=>cases r.iN;show .nil;|cons n a c=>obtain⟨x,q⟩:=r.iC;cases x.iI;show .cons _ _<|c q
def Ey{ns:List Int}(y:LV O a (ns.map .int))(f:m∈ns)(z:∀b∈ns,b<=m)(h:k (.int m) O):ax X x O (.builtin "max") [a] k:=λE s A F R=>by
 replace R:=R.i1;obtain⟨C⟩:=R;obtain⟨D,A,n,G,H⟩:=F.rd C y;have o:=Lw H;show aS o.allInts.items λc e=>?_;revert y f z h F G H C o e;ext O a m k X x ns E s D A n c;have d:ns=c.toList.map (·.1):=by rw[<-o.numsOf,<-nums_intItems,<-e]
 have g:0<c.size:=by have:0<ns.length:=Wf f;rw[d,Z6,YX]at this;show this
 have I:s.heap.IsList D (intItems c):=by exists ZJ e;show bf _ G rfl n (by simp)
 show max_intList X.hh I g λv V W J M=>?_;show aS (intItems_at J) λt r=>?_;exists r;show aE (argBest_gt (Qm c)<|c.size-1) λN Q=>?_;have u:∀j,j<c.size->Qm c j∈ns:=λj w=>by exists d;simp only[Qm,X1 w];show Z0.mpr<|ae (c[j]) (by simp) rfl
 have S:=u _ ((af 0x19105f8909e20e4411) g N:argBest (λi j=>decide<|Qm c i>Qm c j) (c.size-1)<c.size);have:Qm c (argBest (λi j=>decide<|Qm c i>Qm c j)<|c.size-1)=m:=by
  show Int.le_antisymm (z _ S) ?_;replace f:=d▸f;show cu f λp U=>?_;obtain⟨j,w,rfl⟩:=Ru U;have l:j<c.size:=by simpa using w
  have:=Q j<|(af 0x191071213c411) l;simpa[Qm,X1 l]using this
 exists this;show lN F M (.int _ _) h
def Ev.list(h:bm X n O p λl b=>l.length<=Zo/\∀a,a∉b.map (·.1)->k (.ref a) ((a,.list l)::b)):Ev X n O (.List p i) k:=λE s F=>by show List_<|wm (h _ s i F) λr c z=>ga z λl b d g f z=>aE z λt j=>?_;show Rk ?_ (by exists f.length;show t);have m:=d.alloc (o:=⟨.type "list",Z4,.seq r.toArray 0,#[]⟩) (ao:=.list l) (tk:=c.toks) rfl<|b7 r.toArray 0 rfl f;show⟨_,_,m,g.trans<|(jp<|c9 c.heap).trans<|am.of λu u e=>ZT _ e,.ref _,j _ λq=>d.fresh<|aL.mpr<|.inl q⟩
def dq(h:bm X i O j λl a=>l.length<=Zo/\k (.lst l) a):Ev X i O (.List j d) k:=λE s F=>by show List_<|wm (h _ s d F) λn e z=>ga z λl a f c b z=>aE z λm g=>?_;show Rk (.from c<|pU f b g e.toks) (by exists b.length;show m)
def aD.get'(r:aD D h d c){i:Nat}{v}(e:d[i]?=Z7 v):∃a,c[i]?=Z7 a/\aB D h v a:=by induction c generalizing d i with|nil=>cases r.iN;cases e;|cons b c f=>obtain⟨x,q⟩:=r.iC;cases i with|zero=>cases e;show ae _ rfl x;|succ i=>show f q e
def It.lst(h:Ev X y O e λa f=>∃l,a=.lst l/\k l f):It X y O e k:=λE s F=>by show wm (h _ s F) λv c z=>ba z λa f g j m z=>aq z λl e p=>?_;subst e;cases m.iL with|@mk ad D n hd r A=>
  show Vc (bf _ r rfl n rfl) ?_;have G:ad<c.heap.objs.size:=Zg r;have t:=g.alloc (o:=dB ad 0) (ao:=.other<|dB ad 0) (tk:=c.toks) rfl rfl;have d:am (aa X f) c.heap (aa X ((c.heap.objs.size,.other<|dB ad 0)::f)) (c.heap.push<|dB ad 0):=(jp<|c9 c.heap).trans<|am.of λC C e=>ZT _ e;show .mk (l:=l) (O':=f) (Walks.list X.hh c.heap.objs.size ad (X8 G) D) ⟨(bl _ (Zu _ rfl) rfl rfl),(bf _ (ZT _ r) rfl n rfl)⟩ (λi h u=>aE u λw C=>bV w λo H I x=>gi o ("list_iterator") _ H I x<|by decide) (g.new<|c9 _) t (j.trans d) (λb J=>?_) (aD.size A).symm (λi v R M=>?_) p
  .show ZI (Z1.mp J) (λz=>?_) λz=>?_;.show .inl z
   .exists ZM.mp z;show .inr ⟨(d _ _ hd r).1,_,(d _ _ hd r).2⟩
  .show aq (A.get' (i:=i) (v:=v)<|by simpa using M) λa N Q=>?_;show ae a N<|Q.move d
abbrev cg(a:Int)(n:Nat):List AV:=(YY n).map λi:Nat=>AV.int<|a+(i:Int)
def De:Te a b 1=((b-a).toNat:Int):=by
 rw[rangeSize_one];split;.show Ar.rsA ‹_›
 .show Ar.rsB ‹_›
def C2(p:Fr X y f d)(m:am (aa X O) s.heap (aa X f) d.heap)(F:-(2^62)<=a)(z:a<2^62)(G:-(2^62)<=b)(A:b<2^62)(h:k (cg a (b-a).toNat) f):ZE (model pw X.w) X.A (Rf (.ref d.heap.objs.size)) (lD X y O s k) E {d with heap:=d.heap.push {cls:=.type "range",data:=.fields #[.int a t,.int b u,.int 1 w]},toks:=x}:=by
 ext X y f d O a b k s E t u w x;show Rc (O4 ..) (small_one F z G A) ?_;have g:=c7.push d {cls:=.type "range",data:=.fields #[.int a t,.int b u,.int 1 w]} x;have j:=p.grow g;generalize Q:d.heap.push {cls:=.type "range",data:=.fields #[.int a t,.int b u,.int 1 w]}=H at j g⊢;exists De;have r:=j.alloc (o:={cls:=.type "range_iterator",data:=.fields #[XX a,XX ((b-a).toNat:Int),XX 1]}) (ao:=.other {cls:=.type "range_iterator",data:=.fields #[XX a,XX ((b-a).toNat:Int),XX 1]}) (tk:=x) rfl rfl;have n:am (aa X f) H (aa X ((H.objs.size,.other {cls:=.type "range_iterator",data:=.fields #[XX a,XX ((b-a).toNat:Int),XX 1]})::f)) (H.push {cls:=.type "range_iterator",data:=.fields #[XX a,XX ((b-a).toNat:Int),XX 1]}):=(jp<|c9 H).trans<|am.of λI I e=>ZT _ e;show .mk (l:=cg a (b-a).toNat) (O':=f) (Walks.range X.hh H.objs.size a 1 (b-a).toNat) ?_ (λi h J=>gi _ ("range_iterator") _ J rfl rfl<|by decide) (j.new<|c9 _) r ((m.trans g.jW).trans n) (λc M=>.inl<|ZM.mp M) (by rw[cg,Z6,Xi]) (λi v N D=>?_) h;.exists(show(a+((0:Nat):Int)*1)=a by simp),(show(((b-a).toNat:Int)-((0:Nat):Int))=((b-a).toNat:Int)by simp);show Zu _ rfl
 .show aS D ?_;clear D;intro t C;exists C;show ae (.int<|a+i) (by simp[cg,N]) ?_;rw[Int.mul_one];show .int _ _
inductive Fk(l:List AV)(P:Int->Int->Prop):Prop|mk(a b:Int)(e:l=[.int a,.int b])(h1:-(2^62)<=a)(h2:a<2^62)(h3:-(2^62)<=b)(h4:b<2^62)(h:P a b)
inductive Fj(l:List AV)(P:Int->Prop):Prop|mk(b:Int)(e:l=[.int b])(h3:-(2^62)<=b)(h4:b<2^62)(h:P b)
def E6(p:[c,d].any bN=ZX)(t:Ld X (Z9 "range") (.type "range"))(h:bm X n O [c,d] λl f=>Fk l λa b=>k (cg a (b-a).toNat) f):It X n O (.Call (.Name (Z9 "range") o) [c,d] [] g) k:=by ext c d X n O k o g;show(λE s F=>by show Yu<|t E s o _ F.base<|callWith_type1 (wm (h _ s g F) λD r z=>?_) (fU p)<|gr (by rw[YB,YL]at p;show p.2);obtain⟨l,f,j,i,m,a,b,e,u,v,w,x,y⟩:=z;subst e;obtain⟨A,C⟩:=m.i2;cases A.iI;cases C.iI;show call_range_2<|C2 j i u v w x y)
def xB(m:[c].any bN=ZX)(r:Ld X (Z9 "range") (.type "range"))(h:bm X n O [c] λl d=>Fj l λb=>k (cg 0 b.toNat) d):It X n O (.Call (.Name (Z9 "range") o) [c] [] g) k:=λE s F=>by show Yu<|r E s o _ F.base<|callWith_type1 (wm (h _ s g F) λx p z=>?_) (fU m)<|gr (by rw[YB,YL]at m;show m.2);obtain⟨l,d,i,f,j,b,e,t,u,v⟩:=z;subst e;obtain⟨w⟩:=j.i1;cases w.iI;show call_range_1<|C2 (a:=0) i f (by decide) (by decide) t u ?_;exists(show(_-(0:Int))=_ from Int.sub_zero _);show v
abbrev lm(r:Zw)(l:List AV):AV->AV
 |.ref a=>if a=r then .lst l else .ref a|v=>v
def mt:lm r l (.ref a)=if a=r then .lst l else .ref a:=rfl
def mr:lm r l (.int i)=.int i:=rfl
def ms:lm r l (.lst m)=.lst m:=rfl
def mu:lm r l (.str m)=.str m:=rfl
abbrev ia(r:Zw)(l:List AV)(a:Loc):Loc:=a.map λp=>(p.1,lm r l p.2)
def MP:(ia r l a).lookup x=(a.lookup x).map (lm r l):=by induction a with|nil=>rfl;|cons p a b=>
  show(?_:Vr x ((p.1,lm r l p.2)::ia r l a)=_);(exists ZG,ZG);by_cases z:(x==p.1)=ZW;.exists z;rfl
  .simp only[XK]at z;exists z;show b
abbrev ot(O:ag)(r:Zw):ag:=O.filter λp=>p.1≠r
def Fr.pj(F:Fr X i O s)(t:(r,az.list l)∈O)(u:r∉X.D₀):Fr X (ia r l i) (ot O r) s/\am (aa X O) s.heap (aa X (ot O r)) s.heap:=by ext X i O s r l;have h:(ot O r).Sublist O:=Uy;have g:=F.drop h;have d:=F.f9 h;show⟨?_,d⟩;show eC F.vars λm w y A C=>?_;show⟨g.keep,g.gens,g.os,⟨m,w,y,A,λx D e=>?_⟩,g.held,g.own,g.nd⟩;replace e:=MP▸e;cases j:i.lookup x with|none=>replace e:=j▸e;cases e;|some c=>
  replace e:=j▸e;have e:lm r l c=D:=by simpa using e
  show aq (C x c j) λv E f=>?_;show ae v E ?_;subst e;cases c with
 |ref a=>
   show(?_:aB _ _ _ (if a=r then AV.lst l else AV.ref a));by_cases q:a=r
   .subst q;exists if_pos rfl;cases f.iR;obtain⟨N,G,k,Q,o,H,R,n,rfl,I⟩:=F.own _ t;show .lst (λz=>?_) H<|I.move d;show fJ z (λz=>?_) (λz=>?_) (λJ z=>?_) (λz=>?_) λS z=>?_;.show aq (Z0.mp z) λp M e=>?_;have U:=(Xv.mp M).2;simp[e]at U
    .show G z
    .show k.1 J _ z rfl
    .show u z
    .show k.2 _ z rfl
   .exists if_neg q;show f.move d;|none=>show f.move d;|bool b=>show f.move d;|int b=>show f.move d;|str b=>show f.move d;|tup b=>show f.move d;|lst b=>show f.move d;|raw b=>show f.move d;|ext b=>show f.move d
abbrev oj:Loc->List ZD->List AV->Loc
 |b,x::c,a::l=>oj (dM b x a) c l|b,_,_=>b
def GR(i:b.length=l.length)(k:∀x∈b,Bd X x)(F:Fr X g O s)(r:aD (aa X O) s.heap f l)(h:∀c,Fr X (oj g b l) O c->am (aa X O) s.heap (aa X O) c.heap->Q () c):ZE (model pw X.w) X.A (TD (b.map λn=>bindName X.env n) f) Q E s:=by induction b generalizing l f g s with
 |nil=>cases List.length_eq_zero_iff.mp i.symm;cases r.iN;show Z5<|h s F<|.refl _ _;|cons x b m=>cases l with|nil=>cases i;|cons a l=>obtain⟨q,o⟩:=r.iC;exists Z3;show Z8<|Zy<|bindName_<|F.bind (k x<|.head _) q λu v p d=>?_;show m (Ut i) (λy t=>k y<|.tail _ t) p (o.move d) λc j e=>h c j<|d.trans e
def aD.rev(r:aD D h b l):aD D h b.reverse l.reverse:=by induction l generalizing b with|nil=>cases r.iN;show .nil;|cons a l c=>obtain⟨q,d⟩:=r.iC;(exists W3,W3);show(c d).append<|.cons q .nil
def Es.FT{K:Kn}{y}(names)(M:∀x∈names,Bd X x)(N:swapsWithSole [.Tuple u y r] e d.line X.env=pure ZX)(R:Tx [.Tuple u y r] e X.env=pure (Z7 names))(h:Ev X p O e λa b=>∃l,a=.tup l/\l.length=names.length/\K.nx (oj p names.reverse l.reverse) b):Es X p O (.Assign [.Tuple u y r] e d) K:=by ext X u r e p O d K y names;show(λE s F=>by show Assign_Tuple_swapped (names:=names) (wm (h _ s F) λv c z=>ba z λa b i f j z=>bV z λl S H k=>?_) N R;subst S;cases j.iT with|@mk ad I n hd U J=>
  have m:I.size=names.length:=by(exists J.size;show aW H rfl)
  have:=unpackItems_tuple (s:=c) (A:=X.A) (prog:=pw) (w:=X.w) (E:=E) (t:=ad) (items:=I) X.hh (bf _ U rfl n rfl) (Q:=λg o=>ZE (model pw X.w) X.A (TD (names.reverse.map λn=>bindName X.env n) g.reverse) (λW=>eZ X O s K .next) E o) λY C=>?_;.replace this:=m▸this;show this
  .have D:=u7 C;show GR (by simp[H]) (λx C=>M x<|Th.mp C) (i.keeps (tk:=c.toks) D) ((J.keeps D).rev) λZ V G=>?_;show⟨_,b,V,(f.trans<|am.of D).trans G,k⟩)
def xc{K:Kn}(P)(h:Es X g O b ⟨P,K.rt,K.bk,K.ct⟩)(k:∀c i,P c i->K.nx c i):Es X g O b K:=λE s F=>wm (h _ s F) (λfl j f=>iy f λa d e l x=>⟨a,d,e,l,by cases fl<;>first|show k _ _ x|show x⟩)
def sS(h:(cg a n)[i]?=Z7 b):i<n/\b=.int (a+i):=by
 ext a n i b;unfold cg at h;replace h:=ZQ▸h;by_cases q:i<n;.replace h:=(WV q)▸h;cases h;show⟨q,rfl⟩
 .rw[V3 (by simpa using q)]at h;cases h
def wb:(cg a n).length=n:=by simp[cg]
def abd(l):eN l Z4 Z4 (Z7 (-1))=l.reverse:=by
 have gen:∀(n:Nat),n<=l.length->((YY n).map λj=>n-1-j).filterMap (l[·]?)=(l.take n).reverse:=by intro n;induction n with|zero=>intro h;rfl;|succ n d=>
   intro b;(exists Vb,Z3,YI);have a:l[n+1-1-0]?=Z7 l[n]:=by simp
   (exists a,Zc,Z2<|(af 0x181444f0e4410) b);simp only[YE,Ys,Uz,W3,List.reverse_nil,WY,Sn];exists ZJ (d<|nE b);congr 2;apply Yo;intro j c;simp only[Rl];show af 0x6a42909e19444f1484f889e12
 have p:=gen l.length<|ZR _;replace p:=YQ▸p;exists ZJ<|p;unfold eN;congr 1;have a:(Xn Z4 Z4 (Z7 (-1)) l.length).1=(l.length:Int)-1:=rfl;have e:(Xn Z4 Z4 (Z7 (-1)) l.length).2.1=-1:=rfl;have f:(Xn Z4 Z4 (Z7 (-1)) l.length).2.2=-1:=rfl;(exists a,e,f);unfold PP;have g:(if(-1:Int)>0 then(if(l.length:Int)-1< -1 then(-1-((l.length:Int)-1)+-1-1)/ -1 else 0)else(if(l.length:Int)-1>-1 then((l.length:Int)-1- -1- -1-1)/(- -1)else 0)).toNat=l.length:=by
  exists(if_neg<|by decide);split
  .have p:((l.length:Int)-1- -1- -1-1)/(- -1)=l.length:=by(exists(show(- -1:Int)=1 from rfl),Int.ediv_one ..);show ak 0x1d0c84f95c4f95c4f909e15
   exists p;rfl
  .show(af 0xf724278ae278c1a0bc3bb05e17e8412) ‹_› (@XE<|0)
 simp only[g];apply Yo;intro j c;have p:=XR.mp c;rw[Sb,Sa];show Ar.abM
def JI(l:List AV):∀(n a:Nat),((YY n).map (a+·)).filterMap (l[·]?)=(l.drop a).take n:=by intro b;induction b with|zero=>intro a;simp;|succ n c=>
  intro a;exists Vb,Z3,YI,YE;have e:(YY n).map ((a+·)∘Nat.succ)=(YY n).map ((a+1)+·):=Yo λj g=>by simp only[Rl];show pO
  rw[e,c<|a+1,WD];cases h:l[a]? with
 |none=>
   have p:l.length<=a:=by simpa using h
   simp[We p,We (X5 p)];|some x=>obtain⟨d,f⟩:=Zv.mp h;(exists Yk d,Rt;show aW f rfl)
def pick_run(l)(a b)(g:0<=a)(j:0<=b):eN l (Z7 a) (Z7 b) Z4=(l.take b.toNat).drop a.toNat:=by
 show aS (Vq g) λa e=>?_;exists e;show aS (Vq j) λb f=>?_;exists f;unfold eN;have c:∀(x:Nat),(if(1:Int)>0 then max 0 (min (if(x:Int)<0 then(x:Int)+(l.length:Int)else x) (l.length:Int))else max (-1) (min (if(x:Int)<0 then(x:Int)+(l.length:Int)else x)<|(l.length:Int)-1))=((min x l.length:Nat):Int):=λx=>by(exists(if_pos<|by decide),if_neg<|ak 0x1ee05e13);show af 0xeda820d682085e000823f
 have k:(Xn (Z7 (a:Int)) (Z7 (b:Int)) Z4 l.length).1=((min a l.length:Nat):Int):=c a;have m:(Xn (Z7 (a:Int)) (Z7 (b:Int)) Z4 l.length).2.1=((min b l.length:Nat):Int):=c b;have n:(Xn (Z7 (a:Int)) (Z7 (b:Int)) Z4 l.length).2.2=1:=rfl;(exists k ..,m ..,n ..,sliceRange_one ..,JI ..);show(?_:_=Pq a (Qw b l));apply TM;intro i;(exists Vz,VA,VA,Vz);by_cases h:l.length<=a+i
 .have o:l[a+i]?=Z4:=by simpa using h
  exists o;split;.exists(show l[min a l.length+i]?=Z4 by simp;show(ai 0xc44430e222a04612) h);simp
  .simp
 .have p:min a l.length=a:=(ai 0x7b111047a0d0612) h;exists p;by_cases d:a+i<b;·(exists if_pos<|(ay 0x3d888c82c862326644a08234) h d;show aW (if_pos d) rfl)
  ·(exists if_neg<|(ay 0x3d91c441f6641a1062c) d;show aW (if_neg d) rfl)
def pick_from(l)(a b)(c:0<=a)(d:0<=b):eN l (Z7 a) (Z7 b) Z4=(l.drop a.toNat).take (b.toNat-a.toNat):=by(exists pick_run l a b c d;show aW Ub rfl)
abbrev cJ(g:Zw->Option Ze)(v:ZN)(b:AV):Prop:=∃D h,(∀a o,cv D h a=Z7 o->g a=Z7 o)/\aB D h v b
def cJ.up(r:cJ (cv D h) v b):aB D h v b:=by
 show ec r ?_;clear r;intro d f q r;show r.move λa o c e=>?_;have p:cv D h a=Z7 o:=q a o (by unfold cv;exists if_neg c;show e);unfold cv at p;by_cases z:a∈D;.replace p:=(if_pos z)▸p;cases p
 .replace p:=(if_neg z)▸p;show⟨z,p⟩
def cJ.of(r:aB D h v a):cJ (cv D h) v a:=b7 D h (λb b e=>e) r
def cJ.mono(r:cJ g v c)(d:∀a o,g a=Z7 o->b a=Z7 o):cJ b v c:=let⟨D,h,q,r⟩:=r;(b7 D h (λa o e=>d a o<|q a o e) r)
inductive bz(fl:Loc)(g:Zw->Option Ze)(o:Ze):Prop|mk(es ep)(m:ZD->Option ZN)(hd:o.data=.dict es ep)(hk:PY es)(hu:UniqKeys es)(hf:∀n,Wi es n=m n)(hl:∀n av,fl.lookup n=some av->∃v,m n=some v/\cJ g v av)(hn:∀n,fl.lookup n=none->m n=none)
def uZ{d:Loc}:∀g c o,(∀a o,g a=Z7 o->c a=Z7 o)->bz d g o->bz d c o:=λg c o f h=>by cases h with|mk i j m k l p r s t=>show⟨i,j,m,k,l,p,r,λn u e=>let⟨v,a,b⟩:=s n u e;(ae v a<|b.mono f),t⟩
def Au(e:∀n,a.lookup n=b.lookup n)(h:bz b g o):bz a g o:=by cases h with|mk c d m f i j k l p=>show⟨c,d,m,f,i,j,k,λn r z=>l n r<|(e n).symm.trans z,λn z=>p n<|(e n).symm.trans z⟩
structure ke(O:ag)(x dx:Zw)(fl:Loc):Prop where
 obj:∃ox,(x,az.other ox)∈O/\ox.cls=.ref 242/\(∀c,ox.data≠.cls c)/\ox.dict=some dx
 ne:dx≠x
 dict:(dx,az.ext (bz fl))∈O
def Fr.inst(F:Fr X h O s)(I:ke O x c d):∃m,s.heap.Inst x 242 m/\s.heap.Ns1 c m/\(∀n f,d.lookup n=Z7 f->∃v,m n=Z7 v/\aB (aa X O) s.heap v f)/\(∀n,d.lookup n=Z4->m n=Z4):=by ext X h O s x c d;show dI I.obj λj k l o p=>?_;have r:=F.dW k;obtain⟨od,g,t,u,m,w,y,z,A,C,D⟩:=F.kC I.dict;have i:s.heap.Ns1 c m:=rP od t u g w y z A;show db m (db j r l o<|.inr<|bl c p I.ne i) i (λn f e=>let⟨v,a,b⟩:=C n f e;(ae v a b.up)) D
def x8(P):(ar P).get? 242=Z7 B7:=⋯
def Gd(P):(ar P).get? 241=Z7 (gw P):=⋯
def LM(P):PY (cw (gw P)):=u8 ⋯
def mV(Y:Keeps (ar P) h):ClsAt h 242 241 (Wi (cw (gw P))):=⟨⟨_,_,_,_,_,_,_,_,_,_,_,_,Y _ _<|x8 P⟩,(gi (gw P) (cw<|gw P) _ (Y _ _<|Gd P) rfl (LM P) λa=>rfl)⟩
structure e8(n:ZD):Prop where
 cls:∀P,Wi (cw (gw P)) n=none
 obj:X6 (.type "object") n=pure none
abbrev uI:AV->Prop
 |.raw _=>False|.ext P=>∀g v,P g v->∃a,v=.ref a|_=>True
def handed(r:aB D h v b)(q:uI b):handedOut v=pure v:=by ext D h v b;cases r with|raw v=>show q.elim;|ext m p=>show aS (q _ _ p) λa c=>?_;exists c;rfl;|_=>rfl
inductive Ei(name:ZD)(k:AV->ag->Prop)(a:AV)(dy:ag):Prop|mk(ad dx fl av)(e:a=.ref ad)(I:ke dy ad dx fl)(hl:fl.lookup name=some av)(hh:uI av)(FA:e8 name)(hk:k av dy)
def Ev.attr{name:ZD}(h:Ev X l O (.Name x i) (Ei name k))(D:eval (.Attribute (.Name x i) name e) X.env=(do let o<-eval (.Name x i) X.env;W1 e.atName;let r<-holding [o] (RB o name ZW);Va (.Name x i) o r;pure r)):Ev X l O (.Attribute (.Name x i) name e) k:=by ext X l O x i k e name;show(λE s F=>by show Attribute_Name_ (wm (h _ s F) λv a q=>?_) D;obtain⟨u,j,b,c,f,G,H,fl,J,rfl,I,w,y,n,z⟩:=q;revert F b c I w y n z f;ext E s v a j G H fl J;cases f.iR;show dI (b.inst I) λm Ix u M u=>?_;show aq (M _ _ w) λv N A=>?_;have C:=mV b.base;obtain⟨V,q,W,Y,Q,R,Z,k0,k1,k2,k3,k5,S⟩:=C.obj;have p:bP X l O s k v {a with toks:=a.toks+1}:=.from c<|.done b (.tok _ _) A z;obtain⟨U,g,d,t,os⟩:=a;show load_attr S C.ns ⋯ (n.cls _) n.obj Ix N (handed A y) p)
abbrev cK(X:Fx)(e:Loc)(O:ag)(t:X7)(a:AV)(k:Loc->ag->Prop):Prop:=∀E s v,Fr X e O s->aB (aa X O) s.heap v a->ZE (model pw X.w) X.A (assign t X.env v) (λf d=>∃b c,Fr X b c d/\am (aa X O) s.heap (aa X c) d.heap/\k b c) E s
inductive Eh(X:Fx)(ρ:Loc)(name:ZD)(a:AV)(k:Loc->ag->Prop)(b:AV)(dy:ag):Prop|mk(ad dx fl)(eb:b=.ref ad)(I:ke dy ad dx fl)(hz:fl.length<=1000)(FA:e8 name)(hsa:∀P,Wi (cw (gw P)) (Z9 "__setattr__")=none)(hk:k ρ (aK dy dx (.ext (bz (dM fl name a)))))
def aaK{a o:Ze}(c:a.cls=o.cls)(d:a.data=o.data)(b:a.slots=o.slots)(e:a.dict=o.dict):a=o:=by cases a;cases o;cases c;cases d;cases b;cases e;rfl
def Lv{m:ZD->Option ZN}(F:Fr X C O s)(I:ke O h l i)(Q:aB (aa X O) s.heap v a)(R:∀n x,i.lookup n=Z7 x->∃v,m n=Z7 v/\aB (aa X O) s.heap v x)(S:∀n,i.lookup n=Z4->m n=Z4)(N:h'.Inst h 242 (λy=>if y=name then Z7 v else m y))(U:∀b o,b≠h->(∀c f,s.heap.get? h=Z7 c->c.dict=Z7 f->b≠f)->s.heap.get? b=Z7 o->h'.get? b=Z7 o)(p:∀c,s.heap.get? h=Z7 c->∃d,h'.get? h=Z7 d/\d.cls=c.cls/\d.data=c.data/\d.slots=c.slots/\∀f,c.dict=Z7 f->d.dict=Z7 f):Fr X C (aK O l (.ext (bz (dM i name a)))) {s with heap:=h',toks:=tk}/\am (aa X O) s.heap (aa X (aK O l (.ext (bz (dM i name a))))) h':=by
 ext X C O s h l i v a name h' tk m;show dI I.obj λV D r r g=>?_;have j:=F.dW D;show q8 (p V j) λd A W Y E G=>?_;replace A:=(aaK W Y E<|(G l g).trans g.symm)▸A;have t:∀b o,b≠l->s.heap.get? b=Z7 o->h'.get? b=Z7 o:=λb o Z e=>by
  by_cases z:b=h;.rw[z]at e⊢;(exists ZJ<|e,j);show A
  .show U b o z (λc f w ed q=>Z<|q.trans<|Zs<|ed.symm.trans<|(congrArg Obj.dict<|Zs<|w.symm.trans j).trans g) e
 show dI N ?_;clear N;intro o' H r r k;cases Zs (A.symm.trans H);rcases k with⟨z,r⟩|⟨d',k,r,od,es,ep,J,w1,w2,w3,w4⟩;.replace z:=g▸z;cases z
 .cases Zs (g.symm.trans k);have M:=F.er (ao:=.ext<|bz<|dM i name a) I.dict t;show⟨F.upd (tk:=tk) (ao:=.ext<|bz<|dM i name a) I.dict t J ⟨uZ,es,ep,_,w1,w2,w3,w4,λn x e=>?_,λn e=>?_⟩,M⟩
  .replace e:=l5▸e;by_cases z:n=name;.rw[if_pos z]at e⊢;cases e;show ae v rfl<|cJ.of Q
   .rw[if_neg z]at e⊢;show aq (R n x e) λu hu ru=>?_;show ae u hu<|cJ.of ru
  .replace e:=l5▸e;by_cases z:n=name;.replace e:=(if_pos z)▸e;cases e
   .rw[if_neg z]at e⊢;show S n e
def cK.attr{C:Vk}(h:Ev X o O e (Eh X o name a k)):cK X o O (.Attribute e name C) a k:=by
 intro E s v F r;revert h F r;injections X o O e name a k C E s v;intro h F r;exists assign_Attribute ..;show Z8<|Zy<|wm (h _ s F) λN j q=>Z8<|YO<|Z8<|Zy ?_;obtain⟨Q,p,b,c,l,D,R,fl,rfl,I,G,z,u,H⟩:=q;revert b c I G z u H l;ext N j p D R fl;cases l.iR;show dI (b.inst I) λm Ix n1 S J=>?_;have M:=mV b.base;obtain⟨nm,q,bs,sn,U,V,dd,k0,k1,k2,k3,k5,W⟩:=M.obj;have A:D≠242:=by show aq I.obj λox Y Q=>?_;intro e;have:=(b.own _ Y).a4;rw[e,x8]at this;cases this
 have Z:Within m (fl.map (·.1)):=λy hy=>by cases e:fl.lookup y with|none=>show absurd (J y e) hy;|some av=>show Z0.mpr<|ae _ (mem_of_lookup e) rfl
 have n:=λw i x kk f=>Lv (name:=name) (h':=w) (tk:=i) b I (r.move c) S J x kk f;obtain⟨z7,g,d,t,os⟩:=j;show store_attr PySem.F.store_object W M.ns (u _) (z.cls _) z.obj A Ix (λw i x kk f=>Tw<|bX o _ ((n w i x kk f).1) (c.trans (n w i x kk f).2) H) Z (by exists Z6 ..;show ZY G (by exists Zx ..;decide))
structure d0(X Y:Fx)(name:ZD)(scope:Vs)(fa:Zw)(cd:ZN):Prop where
 w:Y.w=X.w
 env:∃L,Y.env=Y8 name scope L fa cd/\Y.A=X.A.deeper (Y8 name scope L fa cd)wr:Y.wr
def ce:a∈aa X (b++c)↔a∈b.map (·.1)\/a∈aa X c:=by
 ext X b c a;rw[aL,aL,ZF,ZS];constructor
 .rintro((h|h)|h);.show .inl h
  .show .inr<|.inl h
  .show .inr<|.inr h
 .rintro(h|h|h);.show .inl<|.inl h
  .show .inl<|.inr h
  .show .inr h
set_option backward.match.sparseCases true in def AJ{X:Fx}{ρ:Loc}{O' OL:ag}{k:AV->ag->Prop}{fa ca:Zw}{name:ZD}{body:List YR}{scope:Vs}{l:List AV}{J:List ZN}{ns:List ZD}{s:ZL}{G:Prop}(F:Fr X ρ (OL++O') s)(R:aD (aa X (OL++O')) s.heap J l)(S:(∀x∈ns.zip J,scope.names.lookup x.1=Z7 .local\/(scope.names.lookup x.1=Z7 .cell/\((Xm (s.heap.objs.size+1) scope.names []).lookup x.1).isSome=ZW))->(∀j tk,P7 s.heap s.heap.objs.size j (bindL (Y8 name scope s.heap.objs.size fa (.ref ca)).kindOf (ns.zip J) λt=>Z4)->Cl s.heap.objs.size (Xm (s.heap.objs.size+1) scope.names []) j (PO (Y8 name scope s.heap.objs.size fa (.ref ca)).kindOf (ns.zip J) λt=>Z4)->ZE (model pw X.w) (X.A.deeper (Y8 name scope s.heap.objs.size fa (.ref ca))) (execs body (Y8 name scope s.heap.objs.size fa (.ref ca))) (λf U=>bP X ρ (OL++O') s k (match f with|.ret v=>v|_=>.none) U) (λt t=>False) {s with heap:=j,toks:=tk})->G)(py:ns.Nodup)(hl:∀x∈ns,scope.names.lookup x=Z7 .local\/scope.names.lookup x=Z7 .cell)(KU:(scope.names.map (·.1)).Nodup)(KG:scope.kind=.function)(h:∀Y,d0 X Y name scope fa (.ref ca)->Ex Y (ns.zip l) OL body ⟨λt g=>k .none (g++O'),λa g=>k a (g++O'),λt t=>False,λt t=>False⟩):G:=by
 revert X ρ O' OL k fa ca name body scope l J ns s G;injections X ρ O' OL k fa ca;ext name body scope l J ns s G;have kind:∀x∈ns.zip J,scope.names.lookup x.1=Z7 .local\/(scope.names.lookup x.1=Z7 .cell/\((Xm (s.heap.objs.size+1) scope.names []).lookup x.1).isSome=ZW):=λx hx=>by
  show ZI (hl x.1 (UE hx).1) (λh=>?_) λh=>?_;.show .inl h
  .show .inr ⟨h,cellsFrom_some _ _ _ h⟩
 have M:=F.nd;rw[ZF,YT]at M;have Q:∀a∈OL.map (·.1),∃p∈OL,p.1=a:=λa i=>let⟨p,u,e⟩:=Z0.mp i;(ae p u e);show S kind λj tk FL Z=>?_;have hsz:s.heap.objs.size<j.objs.size:=FL.ns.lt;have lt':∀d∈aa X O',d<s.heap.objs.size:=λd hd=>F.lt d<|ce.mpr<|.inr hd;have nC:∀a∈OL.map (·.1),a<s.heap.objs.size:=λa i=>F.lt a (ce.mpr<|.inl i);let Y:Fx:={w:=X.w,A:=X.A.deeper<|Y8 name scope s.heap.objs.size fa<|.ref ca,env:=Y8 name scope s.heap.objs.size fa<|.ref ca,h₀:=s.heap,D₀:=aa X O',a7:=OL.map (·.1),held:=[],G:=X.G,os:=X.os,fn:=KG,glob:=rfl,bn:=rfl,hh:=X.hh,above:=.inl<|c9 _,jB:=F.base,jK:=λa i=>(F.a7 i).1,eh:=λa i=>(F.a7 i).2,apart:=Z.apart,kt:=λn c E=>Wg<|Z.above n c E,iw:=wR<|t6 _ _ _ KU XY λt t q=>nM q,old:=λd hd=>F.ex d<|ce.mpr<|.inr hd,hnl:=λq D=>(nM D),hnc:=λq D=>(nM D),hab:=λq D=>nM D};have CY:d0 X Y name scope fa (.ref ca):=⟨rfl,(ae _ rfl rfl),λn c E=>.inl<|X4<|Ye<|Z.above n c E⟩;have S0:am (aa X<|OL++O') s.heap (aa Y OL) j:=λa o i e=>by
  show⟨λq=>?_,FL.keep a o e⟩;have:=Zg e;show fJ q (λq=>?_) (λq=>?_) (λn q=>?_) (λq=>?_) λV q=>?_;.show i<|ce.mpr<|.inl q
  .show absurd q<|X8 this
  .show absurd (Z.above n a q)<|Ud.mpr<|Ye this
  .show i<|ce.mpr<|.inr q
  .cases q
 have FY:Fr Y (ns.zip l) OL {s with heap:=j,toks:=tk}:=by
  show⟨λa o t e=>FL.keep a o e,F.gens,F.os,⟨_,PO (Y8 name scope s.heap.objs.size fa<|.ref ca).kindOf (ns.zip J) λt=>Z4,FL.ns,λn c E=>?_,λx av e=>?_⟩,λq D=>(nM D),λp u=>?_,M.1⟩;.have hu:=Y.iw n;cases N:(Xm (s.heap.objs.size+1) scope.names []).lookup n with
 |none=>rw[W2]at N;have z:=N _ E;simp at z;|some c'=>have:c'=c:=hu c c' E<|mem_of_lookup N;subst this;show Z.cell n c' N
  .show aq (wX R e) λv e1 r=>?_;have hx:=wV e;show ae v ?_<|r.move S0;have nd:((ns.zip J).map (·.1)).Nodup:=wW py;show ZI (hl x hx) (λq=>?_) λq=>?_;.show .inl ⟨q,tY (kd:=Y.env.kindOf) q nd e1⟩
   .show .inr<|br q (yd (kd:=Y.env.kindOf) (λz=>?_) nd e1)<|Xz.mp<|cellsFrom_some _ _ _ q;rw[show Y.env.kindOf x=Z7 .cell from q]at z;cases z
  .show cL (F.own p<|Zk _ u) λH b2 b3 b4 V y z=>?_;have dU:=Zg y;show⟨.inr<|Z0.mpr<|ae p u rfl,X8 dU,⟨λn c E=>X8<|QR dU<|Z.above n c E,λq D=>nM D⟩,b4,V,FL.keep _ _ y,z.move S0⟩
 show wm (h Y CY (λt t=>False) _ FY) λfl U x=>?_;show iy x ?_;clear x;intro ρ' g m oK x;have xQ:∀a∈g.map (·.1),s.heap.get? a=Z4\/a∈OL.map (·.1):=λa i=>by show cu i λp u=>?_;show(m.own p u).a1
 have kp:∀a o,a∉OL.map (·.1)->s.heap.get? a=Z7 o->U.heap.get? a=Z7 o:=λa o i e=>m.keep a o i e;have O:am (aa X<|OL++O') s.heap (aa X<|g++O') U.heap:=λa o i e=>by
  have hL:a∉OL.map (·.1):=λq=>i<|ce.mpr<|.inl q;show⟨λq=>?_,kp a o hL e⟩;show ZI (ce.mp q) (λq=>?_) λq=>?_
  .show ZI (xQ a q) (λz=>?_) λz=>?_;.replace e:=z▸e;cases e
   .show hL z
  .show i<|ce.mpr<|.inr q
 have nL:∀a∈aa X O',a∉OL.map (·.1):=λa i q=>Y.eh a q i;have I:am (aa Y g) U.heap (aa X<|g++O') U.heap:=λa o i e=>⟨λq=>i<|aL.mpr<|(ce.mp q).imp id λz=>.inr<|.inr<|.inl z,e⟩;have FX:Fr X ρ (g++O') U:=by
  show F.move O (λa o hl i e=>kp a o (λq=>?_) e) m.gens (m.os.trans F.os.symm) (λo e=>kp _ _ (nL _<|aL.mpr<|.inr<|.inl rfl) e) (λn c E o e=>kp _ _ (nL _<|aL.mpr<|.inr<|.inr<|.inl ⟨n,E⟩) e) (λq D e=>kp _ _ (nL _<|aL.mpr<|.inr<|.inr<|.inr<|.inr ⟨q.2,D⟩) e) (λp u=>?_) ?_
  .show aq (Q a q) λp u my=>?_;subst my;show ZI ((F.own p<|Zk _ u).1) (λz=>?_) λz=>?_;.have z:X.h₀.get? p.1=Z4:=z;replace i:=z▸i;cases i
   .show hl z
  .show ZI (ZS.mp u) (λu=>?_) λu=>?_
   .show cL (m.own p u) λH b2 b3 b4 V y z=>?_;show ZI H (λH=>?_) λH=>?_
    .have H:s.heap.get? p.1=Z4:=H;have W:p.1∉aa X O':=λq=>by show aS (F.ex _<|ce.mpr<|.inr q) λo2 C=>?_;replace C:=H▸C;cases C
     have n0:X.h₀.get? p.1=Z4\/p.1∈X.a7:=by cases e0:X.h₀.get? p.1 with|none=>show .inl rfl;|some o2=>
       by_cases zl:p.1∈X.a7;·show .inr zl
       .have:=F.keep _ _ zl e0;replace this:=H▸this;cases this
     show⟨n0,λq=>W<|aL.mpr<|.inr<|.inl q,⟨λn c E q=>W<|aL.mpr<|.inr<|.inr<|.inl ⟨n,q▸E⟩,λq D e=>W<|aL.mpr<|.inr<|.inr<|.inr<|.inr ⟨q.2,e▸D⟩⟩,b4,V,y,z.move I⟩
    .show aq (Q _ H) λp' K6 e'=>?_;obtain⟨c1,c2,c3,c4,t⟩:=F.own p'<|Zk _ K6;rw[e']at c1 c2 c3 c4;show⟨c1,c2,c3,c4,V,y,z.move I⟩
   .show cL (F.own p<|Zq _ u) λH b2 b3 b4 V y z=>?_;show⟨H,b2,b3,b4,V,kp _ _ (nL _<|aL.mpr<|.inl<|Z0.mpr<|ae p u rfl) y,z.move O⟩
  .rw[ZF,YT];show br m.nd M.2.1 λa i b hb e=>?_;subst e;show ZI (xQ a i) (λz=>?_) λz=>?_;.show aS (F.ex a<|ce.mpr<|.inr<|aL.mpr<|.inl hb) λo2 C=>?_;replace C:=z▸C;cases C
   .show M.2.2 a z a hb rfl
 cases fl with|next=>show⟨.none,_,FX,O,.none,x⟩;|ret v=>show aq x ?_;clear x;intro a r hk;show⟨a,_,FX,O,r.move I,hk⟩;|brk=>show x.elim;|cont=>show x.elim
set_option backward.match.sparseCases true in def th{X:Fx}{H:Loc}{O' OL:ag}{k:AV->ag->Prop}{d ca:Zw}{o n:Ze}{name:ZD}{fd:Uj}{body:List YR}{scope:Vs}{l:List AV}{g:Array ZN}{C:O6}{ns:List ZD}{dv:List ZN}{dl:List AV}(i:X.A.depth<ZU)(I:(ar X.w.params).get? d=Z7 o)(p:(ar X.w.params).get? ca=Z7 n)(r:n.data=.fields g)(t:g[1]?=Z7 (.str name C))(j:∀{A:YM}{R:Uu->ZL->Prop}{s:ZL}{args:List ZN},Keeps (ar X.w.params) s.heap->A.depth<ZU->s.heap.get? d=Z7 o->s.heap.NoLimit->s.heap.CodeRec (.ref ca) name->args.length=l.length->(∀x∈ns.zip (args++dv),scope.names.lookup x.1=Z7 .local\/(scope.names.lookup x.1=Z7 .cell/\((Xm (s.heap.objs.size+1) scope.names []).lookup x.1).isSome=ZW))->(∀b J,P7 s.heap s.heap.objs.size b (bindL (Y8 name scope s.heap.objs.size d (.ref ca)).kindOf (ns.zip (args++dv)) λe=>Z4)->Cl s.heap.objs.size (Xm (s.heap.objs.size+1) scope.names []) b (PO (Y8 name scope s.heap.objs.size d (.ref ca)).kindOf (ns.zip (args++dv)) λe=>Z4)->ZE (model pw X.w) (A.deeper (Y8 name scope s.heap.objs.size d (.ref ca))) (execs body (Y8 name scope s.heap.objs.size d (.ref ca))) (λf M=>R (.ok (.ret (match f with|.ret v=>v|_=>.none))) M) (λe e=>False) {s with heap:=b,toks:=J})->UO (model pw X.w) A (.call (.ref d) ⟨args,[]⟩) R s)(u:∀D h,aD D h dv dl)(w:ns.Nodup)(N:∀x∈ns,scope.names.lookup x=Z7 .local\/scope.names.lookup x=Z7 .cell)(y:(scope.names.map (·.1)).Nodup)(z:scope.kind=.function)(h:∀Y,d0 X Y name scope d (.ref ca)->Ex Y (ns.zip (l++dl)) OL body ⟨λe c=>k .none (c++O'),λa c=>k a (c++O'),λe e=>False,λe e=>False⟩):ax X H (OL++O') (.ref d) l k:=λE s Q F G=>AJ F (G.append<|u (aa X<|OL++O') s.heap) (λm O=>Xs<|j F.base i (F.base _ _ I) (n9 F.base) (pD ca n g C rfl (F.base _ _ p) r t) G.length m O) w N y z h
def d0.bd(C:d0 X Y name a b c)(h:a.names.lookup x=Z7 .local\/a.names.lookup x=Z7 .cell):Bd Y x:=by
 show aq C.env λL e d=>?_;show ZI h (λh=>?_) λh=>?_;.show .inl (by exists e;show h)
 .show .inr<|br (by exists e;show h) C.wr ?_;have p:=cellsFrom_some a.names (L+1) [] h;exists e;show Xz.mp p
def d0.glob(C:d0 X Y name a b c)(h:a.names.lookup x=Z7 .globalImplicit):Y.env.kindOf x=Z7 .globalImplicit:=by show aq C.env λL e d=>?_;exists e;show h
def Fr.made(F:Fr X D O s)(M:Pf s.heap r x j 242):∃b,Fr X D ((x,.other b)::(j,.ext (bz []))::O) {s with heap:=r,toks:=tk}/\ke ((x,.other b)::(j,.ext (bz []))::O) x j []/\am (aa X O) s.heap (aa X ((x,.other b)::(j,.ext (bz []))::O)) r:=by
 ext X D O s r x j tk;show dI M.inst λb R E G H=>?_;ext b;have g:=M.dict b R;obtain⟨k,t,l,n1⟩:∃d,b.dict=Z7 d/\d≠x/\r.Ns1 d λh=>Z4:=by
  show ZI H (λI=>aE I λz h=>?_) λq=>?_;.replace z:=g▸z;cases z
  .show q
 have e:k=j:=Zs<|t.symm.trans g;subst e;obtain⟨od,S,U,u,V,W,Y,Z⟩:=n1;revert t l M g u V W Y Z;ext k od S U;have nx:∀a∈aa X O,a≠x/\a≠k:=λa m=>by show aS (F.ex a m) λo f=>?_;show⟨λq=>(by subst q;replace f:=M.newX▸f;cases f),λq=>(by subst q;replace f:=M.newD▸f;cases f)⟩
 have J:am (aa X O) s.heap (aa X ((x,.other b)::(k,.ext<|bz [])::O)) r:=λa o m e=>by
  show⟨λq=>?_,M.keeps a o e⟩;have:(((x,az.other b)::(k,az.ext<|bz [])::O):ag)=[(x,az.other b),(k,az.ext<|bz [])]++O:=rfl;replace q:=this▸q;show ZI (ce.mp q) (λq=>?_) λq=>?_;rename_i q0;clear q0;ext a o
  .simp only[Z3,Y4,Z1,Zn,or_false]at q;rcases q with rfl|rfl;.replace e:=M.newX▸e;cases e
   .replace e:=M.newD▸e;cases e
  .show m q
 have i:∀a,s.heap.get? a=Z4->(X.h₀.get? a=Z4\/a∈X.a7)/\a≠X.env.locals/\((∀n c,(n,c)∈X.env.cells->a≠c)/\∀q∈X.held,a≠q.1)/\(ar X.w.params).get? a=Z4:=λa m=>by
  have N:a∉aa X O:=λq=>by show aS (F.ex a q) λo f=>?_;replace f:=m▸f;cases f
  show lW ?_ (λq=>N<|aL.mpr<|.inr<|.inl q) ⟨λn c E q=>N<|aL.mpr<|.inr<|.inr<|.inl ⟨n,q▸E⟩,λq hq e=>N<|aL.mpr<|.inr<|.inr<|.inr<|.inr ⟨q.2,e▸hq⟩⟩ ?_;.cases Q:X.h₀.get? a with|none=>show .inl rfl;|some o2=>
    by_cases zl:a∈X.a7;·show .inr zl
    .have:=F.keep _ _ zl Q;replace this:=m▸this;cases this
  .cases Q:(ar X.w.params).get? a with|none=>rfl;|some o2=>have:=F.base _ _ Q;replace this:=m▸this;cases this
 show bl b (F.move J (λa o h h e=>M.keeps a o e) F.gens rfl (λo e=>M.keeps _ _ e) (λh c h o e=>M.keeps _ _ e) (λq h e=>M.keeps _ _ e) (λp v=>?_) ?_) ⟨(db b (.head _) E G g),l,.tail _<|.head _⟩ J
 .rcases Z1.mp v with rfl|v;.show gM (i x M.newX) λw y A C=>?_;show⟨w,y,A,C,b,R,rfl⟩
  .rcases Z1.mp v with rfl|v;.show gM (i k M.newD) λw y A C=>?_;show⟨w,y,A,C,od,u,uZ,S,U,_,V,W,Y,Z,λn av e=>by simp at e,λh h=>rfl⟩
   .show cL (F.own p v) λw y A C o f z=>?_;show⟨w,y,A,C,o,M.keeps _ _ f,z.move J⟩
 .rw[Z3,Z3,ZC,ZC];show br (λq=>?_) (λq=>(nx _<|aL.mpr<|.inl q).2 rfl) F.nd;show ZI (Z1.mp q) (λq=>?_) λq=>?_;.show l q.symm
  .show(nx _<|aL.mpr<|.inl q).1 rfl
abbrev Fx.at(X:Fx)(A:YM)(a:A.handled=Z4):Fx:={X with A:=A,hh:=a}
def Fr.at{i:A.handled=Z4}(F:Fr X h O s):Fr (X.at A i) h O s:=⟨F.keep,F.gens,F.os,(let⟨a,b,c,d,e⟩:=F.vars;⟨a,b,c,d,e⟩),F.held,λp j=>let⟨a,b,c,d,e,f,g⟩:=F.own p j;⟨a,b,c,d,e,f,g⟩,F.nd⟩
def Fr.pW{i:A.handled=Z4}(F:Fr (X.at A i) h O s):Fr X h O s:=⟨F.keep,F.gens,F.os,(let⟨a,b,c,d,e⟩:=F.vars;⟨a,b,c,d,e⟩),F.held,λp j=>let⟨a,b,c,d,e,f,g⟩:=F.own p j;⟨a,b,c,d,e,f,g⟩,F.nd⟩
abbrev oM(A:YM):YM:=A.under<|.builtin "type.__call__" ⟨[.ref 242],[]⟩
def ac2(A)(a):A.under (.builtin "type.__call__" ⟨.ref 242::a,[]⟩)=oM A:=rfl
def D5(h:A.handled=Z4):(oM A).handled=Z4:=h
def Eu{O:ag}(D:∀P,Wi (cw (gw P)) (Z9 "__init__")=Z7 (.ref fI))(G:(ar X.w.params).get? fI=Z7 C)(c:C.cls=.type "function")(h:∀x b y,ke ((x,.other y)::(b,.ext (bz []))::O) x b []->ax (X.at (oM X.A) (D5 X.hh)) w ((x,.other y)::(b,.ext (bz []))::O) (.ref fI) (.ref x::l) λr j=>r=.none/\k (.ref x) j):ax X w O (.ref 242) l k:=by
 intro E s A F R;revert D G c h F R;injections fI C w l k X O E s A;intro D G c h F R;have J:=mV F.base;obtain⟨nm,q,bs,sn,S,U,dd,k0,k1,k2,k3,k5,V⟩:=J.obj;have H:=F.base _ _ G;have m:∀i x b,Pf s.heap i x b 242->ZE (model pw X.w) (X.A.under<|.builtin "type.__call__" ⟨.ref 242::A,[]⟩) (call (.ref fI) (.ref x::A)) (λr W=>r=.none/\bP X w O s k (.ref x) W) E {s with heap:=i}:=λi x b M=>by show bV (F.made (tk:=s.toks) M) λy n I N=>?_;exists ac2 ..;show wm (h x b y I E {s with heap:=i} (.ref x::A) n.at<|.cons (.ref _)<|R.move N) λv Q z=>ba z λa o p f u z=>aE z λe Y=>?_;subst e;cases u.iN;show⟨rfl,.ref x,o,p.pW,N.trans f,.ref _,Y⟩
 obtain⟨Z,g,d,t,os⟩:=s;show wpAny_call_obj_init PySem.F.objNew V J.ns (D _) H c λi x b M=>m i x b M
inductive tE(O:ag)(name:ZD)(a:AV)(P:Zw->Prop):Prop|mk(ad dx fl)(ea:a=.ref ad)(I:ke O ad dx fl)(hl:fl.lookup name=Z4)(h:P ad)
def Bf{P:Zw->List AV->ag->Prop}(Z:∀P,Wi (cw (gw P)) name=Z7 (.ref f))(u:(ar X.w.params).get? f=Z7 J)(x:J.cls=.type "function")(n:J.data=.func Y)(hB:X6 (.type "object") name=pure y)(hs:(e::v).any bN=ZX)(he:eval (.Call (.Attribute o name j) (e::v) [] i) X.env=(do let ov<-eval o X.env;W1 j.atName;let(f,first)<-holding [ov] (RA ov name pl);UJ i f first (WR i (Yd (e::v) X.env)) []))(F:Fr X H O s)(h:Ev X H O o λa p=>tE p name a λA=>bm X H p (e::v) λl b=>P A l b)(C:∀A l b c W,P A l b->Fr X H b c->am (aa X O) s.heap (aa X b) c.heap->aD (aa X b) c.heap W l->ZE (model pw X.w) X.A (call (.ref f) (.ref A::W)) Q E c):ZE (model pw X.w) X.A (eval (.Call (.Attribute o name j) (e::v) [] i) X.env) Q E s:=by
 revert pl Z u x n hB hs he F h C;revert X H O s i j o e v name f J Y y Q E P;injections name f J Y y e v o;injections j i X H O s Q E P;intro pl Z u x n hB hs he F h C;show Ql (pl:=pl) (wm (h _ s F) λov r z=>?_) he;obtain⟨a,p,k,D,M,A,dx,fl,ea,I,hl,N⟩:=z;cases(ea▸M).iR;show dI (k.inst I) λm Ix u' u' q2=>?_;have CA:=mV k.base;obtain⟨nm,q,bs,sn,sub,Hz,dd,k0,k1,k2,k3,k5,hC⟩:=CA.obj;have R:ZE (model pw X.w) X.A (UJ i (.ref f) [.ref A] (WR i<|Yd (e::v) X.env) []) Q E r:=by show callWith_meth (h₀:=ar X.w.params) n u (wm (N _ r i k) λW c z=>?_)<|fU hs;show ga z ?_;clear z;intro l b w G S U;show⟨w.base,C A l b c W U w (D.trans G) S⟩
 have V:=k.base _ _ u;obtain⟨z7,g,d,t,os⟩:=r;show method_of hC CA.ns ⋯ ⋯ (Z _) V x hB Ix (q2 _ hl) R
def qA{name:ZD}(I:∀P,Wi (cw (gw P)) name=Z7 (.ref f))(z:(ar X.w.params).get? f=Z7 w)(A:w.cls=.type "function")(m:w.data=.func G)(J:X6 (.type "object") name=pure y)(M:(e::j).any bN=ZX)(N:eval (.Call (.Attribute o name c) (e::j) [] d) X.env=(do let C<-eval o X.env;W1 c.atName;let(f,first)<-holding [C] (RA C name H);UJ d f first (WR d (Yd (e::j) X.env)) []))(h:Ev X i O o λa g=>tE g name a λu=>bm X i g (e::j) λl b=>ax X i b (.ref f) (.ref u::l) k):Ev X i O (.Call (.Attribute o name c) (e::j) [] d) k:=λE s F=>Bf (P:=λu l b=>ax X i b (.ref f) (.ref u::l) k) I z A m J M N F h λu l b n R p t Q r=>wm (p _ n _ t<|.cons (.ref _) r) λv D x=>.from Q x
def tr{name:ZD}(G:∀P,Wi (cw (gw P)) name=Z7 (.ref f))(p:(ar X.w.params).get? f=Z7 D)(r:D.cls=.type "function")(i:D.data=.func R)(H:X6 (.type "object") name=pure y)(J:eval (.Call (.Attribute o name c) [] [] b) X.env=(do let M<-eval o X.env;W1 c.atName;let(f,first)<-holding [M] (RA M name pl);UJ b f first (WR b (Yd [] X.env)) []))(h:Ev X w O o λa j=>tE j name a λN=>ax X w j (.ref f) [.ref N] k):Ev X w O (.Call (.Attribute o name c) [] [] b) k:=by revert pl G p r i H J h;injections f D R y o c b X w O k name;intro pl G p r i H J h;show(λE s F=>by
 show Ql (pl:=pl) (wm (h _ s F) λM l z=>?_) J;obtain⟨a,j,e,u,A,N,dx,fl,V,I,W,C⟩:=z;cases V;cases A.iR;show dI (e.inst I) λm Ix Y Y Z=>?_;have S:=mV e.base;obtain⟨nm,q,bs,sn,sub,Hz,dd,k0,k1,k2,k3,k5,hC⟩:=S.obj;have n:=e.base _ _ p;have Q:ZE (model pw X.w) X.A (UJ b (.ref f) [.ref N] (WR b<|Yd [] X.env) []) (bP X w O s k) E l:=callWith_meth0 i n (wm (C _ l _ e<|.cons (.ref _) .nil) λv U x=>.from u x);obtain⟨z7,g,d,t,os⟩:=l;show method_of hC S.ns ⋯ ⋯ (G _) n r H Ix (Z _ W) Q)
abbrev md(nm name:ZD)(params:SU)(body:List YR)(scope:Vs)(pm:ZN)(ca:Zw)(doc:ZN):Uj:={name:=nm,qualname:=name,params:=params,body:=.stmts body,scope:=scope,globals:=Xd,closure:=[],defaults:=.none,kwdefaults:=.none,doc:=doc,pyModule:=pm,annotations:=Z4,code:=.ref ca,closureTuple:=.none,builtins:=Vw}
def j6{body:List YR}{ns:List ZD}(d:X.A.depth<ZU)(O:(ar X.w.params).get? u=Z7 o)(Q:o.data=.func (md nm name params body scope pm ca doc))(v:(ar X.w.params).get? ca=Z7 I)(w:I.data=.fields g)(y:g[1]?=Z7 (.str name N))(S:∀z:List ZN,z.length=l.length->RU (md nm name params body scope pm ca doc) ⟨z,[]⟩=pure (ns.zip z))(D:ns.Nodup)(U:∀x∈ns,scope.names.lookup x=Z7 .local\/scope.names.lookup x=Z7 .cell)(E:(scope.names.map (·.1)).Nodup)(i:scope.kind=.function)(j:scope.isGenerator=ZX)(m:scope.isCoroutine=ZX)(h:∀Y,d0 X Y name scope u (.ref ca)->Ex Y (ns.zip l) OL body ⟨λb c=>k .none (c++O'),λa c=>k a (c++O'),λb b=>False,λb b=>False⟩):ax X M (OL++O') (.ref u) l k:=by
 show th (fd:=md nm name params body scope pm ca doc) (ns:=ns) (dv:=[]) (dl:=[]) d O v w y ?_ (λb b=>.nil) D U E i λY C=>by exists ZH ..;show h Y C
 intro A R s args V W F n G p r e;show Rb (fd:=md nm name params body scope pm ca doc) (body:=body) (binds:=ns.zip<|args++[]) W F Q n G rfl (by exists ZH ..;show S args p) rfl r (λJ f=>?_) m j i;show ec f.done λt Z H b=>?_;subst H;show XT (e t Z ⟨f.toInCall.ns,f.toInCall.keep,f.toInCall.fresh⟩ ⟨f.cell,f.apart,f.above⟩) (λb b x=>x) λb b x=>x.elim
def Cm.lZ{a:AV}(h:b ZX O):Cm X c O .Is (.lst l) .none b:=λE s u v F d e=>by cases e.iN;cases d.iL with|mk hd f g=>show is_none_ne (λq=>nomatch q)<|cX F h
def Cm.LD(h:a ZW O):Cm X b O .Is .none .none a:=λE s u v F c d=>by cases d.iN;cases c.iN;show is_none_none<|cX F h
section
open Builtin.Str in@[reducible]abbrev qF:=Writer×Numbering×List Nat
open Builtin.Str in abbrev qE(a:Array ZN)(g:List Nat)(h:Option ZN)(f:Nat->qF->PA (ForInStep qF)):Prop:=(∀i w num,f i (w,num,[])=pure (.done (w,num,[])))/\(∀i w num r x d,r.isEmpty=ZX->nextMarkup r=.ok (x,Z4,d)->tooLong w.total=ZX->f i (w,num,r)=pure (.yield (w.add ⟨x.toArray⟩<|if x.length==g.length then h else Z4,num,d)))/\(∀{b c A E s Q}i w num r x d v y j,r.isEmpty=ZX->nextMarkup r=.ok (x,Z7 ⟨[],Z4,[],ZX⟩,d)->tooLong w.total=ZX->((num=.unset/\j=0)\/num=.auto j)->a[j]?=Z7 v->(∀{Q:ZN->ZL->Prop}{E s},(∀e k,Q (.str y e) {s with toks:=k})->ZE (model b c) A (formatOf v ZP) Q E s)->(∀e k,Q (.yield ((w.add ⟨x.toArray⟩<|if x.length==g.length then h else Z4).add y<|if d.isEmpty then Z7 (.str y e)else Z4,.auto<|j+1,d)) {s with toks:=k})->ZE (model b c) A (f i (w,num,r)) Q E s)
open Builtin.Str in
def Jc(a)(m)(b)(g)(num):∃f,∃k:qF->PA (Writer×Numbering),buildString "str.format" (Z7 a) m 2 b g num=(forIn [0:b.length] (({}:Writer),num,b) f>>=k)/\(∀w num r,k (w,num,r)=pure (w,num))/\qE a b g f:=by
 show⟨_,_,rfl,λw num r=>rfl,?_,?_,?_⟩
 .intro i w num;rfl
 .intro i w num r x n c d e
  dsimp only
  rw [c,d,e]
  rfl
 .intro h l A E s Q i w num r x n v y j c d e o p t u
  dsimp only
  rw [c,d,e]
  show Z8<|KFm.field_auto o p ?_
  show Z8<|Zy<|Zd (a:=v) rfl ?_
  show Z8<|Z5 ?_
  show Z8<|Zy<|t λz k=>?_
  show Z8<|Zd (a:=Z7 y) rfl<|Z5<|u z k
abbrev tu(v:ZN)(y:ZD):Prop:=∀{a b A}{Q:ZN->ZL->Prop}{E s},(∀c k,Q (.str y c) {s with toks:=k})->ZE (model a b) A (Builtin.Str.formatOf v ZP) Q E s
open Builtin.Str in class inductive lA(n:Nat):Nat->List Nat->List ZN->ZD->ZD->Prop|nil{T}:lA n 0 [] [] T T|Mx{x r r' vs T T' c}(h1:(!r.isEmpty&&(!(x.length==n)&&decide (x.length<=1000)))=true)(h2:nextMarkup r=.ok (x,none,r'))(h:lA n c r' vs (T++⟨x.toArray⟩) T'):lA n (c+1) r vs T T'|fld{x r r' v vs y T T' c}(h1:(!r.isEmpty&&(!(x.length==n)&&decide (x.length<=1000)))=true)(h2:nextMarkup r=.ok (x,some ⟨[],none,[],false⟩,r'))(hv:tu v y)(hy:y.length<=1000)(h:lA n c r' vs (T++⟨x.toArray⟩++y) T'):lA n (c+1) r (v::vs) T T'
def zr{b c:Bool}{p:Prop}[Decidable p](h:(!b&&(!c&&decide p))=ZW):b=ZX/\c=ZX/\p:=by cases b<;>cases c<;>first|show⟨rfl,rfl,of_decide_eq_true h⟩|show nF h
def zu{w T N c}(g:O3 w T N)(h:N+c<=16777216):Builtin.Str.tooLong w.total=ZX:=Bool.eq_false_iff.mpr<|KPc.short_good g<|ZY (Zp _ _) h
def zs(q:x<=2000)(h:N+2000*(c+1)<=16777216):N+x+2000*c<=16777216:=by exists XB N x<|2000*c,SN x<|2000*c;show ZY (WU (WU q<|2000*c) N) h
def Jg(q:x<=1000)(h:N+2000*(c+1)<=16777216):N+x+1000+2000*c<=16777216:=by exists XB N x 1000;show zs (RT q 1000) h
def Jb{a:Array ZN}{j v b}(h:a.toList.drop j=v::b):a[j]?=Z7 v/\a.toList.drop (j+1)=b:=by
 constructor;.rw[<-WH,<-WD j,<-VA,h];rfl
 .rw[<-Ua,h];rfl
def Je{b:Bool}{y t}:KPc.Obj (if b then Z7 (.str y t)else Z4) y:=λv e=>by cases b with|true=>show⟨t,(Zs e).symm⟩;|false=>show nO e
def qE.run{a:Array ZN}{y:List Nat}{D:Option ZN}{f}(B:qE a y D f){e m A E}{s:ZL}{Q:qF->ZL->Prop}{c r z T C}(F:lA y.length c r z T C):∀l j num w N k,c<l->a.toList.drop j=z->((num=.unset/\j=0)\/num=.auto j)->O3 w T N->N+2000*c<=16777216->(∀w num r k,O3 w C 16777216->Q (w,num,r) {s with toks:=k})->∀i,ZE (model e m) A (forIn (TL i l 1) (w,num,r) f) Q E {s with toks:=k}:=by induction F with
 |nil=>intro l j num w N k b hd n g d h i;cases l with|zero=>show absurd b<|XN _;|succ l=>show O2<|Zd (B.1 _ _ _) ?_;show h _ _ _ _<|Pu g<|ZY (Zp _ _) d
 |Mx o p G t=>intro l j num w N k b hd n g d h i;cases l with|zero=>show absurd b<|XN _;|succ l=>obtain⟨u,v,x⟩:=zr o;show O2<|Zd (B.2.1 _ _ _ _ _ _ u p<|zu g d) ?_;show t l j num _ _ k (U9 b) hd n (QQ g<|KPc.obj_none<|if_neg (by rw[v];show Y6)) (zs (ZY x<|by decide) d) h _
 |fld o p H I G t=>intro l j num w N k b hd n g d h i;cases l with|zero=>show absurd b<|XN _;|succ l=>obtain⟨u,v,x⟩:=zr o;obtain⟨J,M⟩:=Jb hd;show O2<|B.2.2 _ _ _ _ _ _ _ _ _ u p (zu g d) n J H λO R=>?_;show t l (j+1) _ _ _ _ (U9 b) M (.inr rfl) (Pu (QQ (QQ g<|KPc.obj_none<|if_neg (by rw[v];show Y6)) Je)<|WU I _) (Jg x d) h _
def Jd{b c A E}{i d g num}(h:∀f,qE a d g f->ZE (model b c) A (forIn (TL 0 d.length 1) (({}:Builtin.Str.Writer),num,d) f) (λx s=>Q (x.1,x.2.1) s) E s):ZE (model b c) A (Builtin.Str.buildString "str.format" (Z7 a) i 2 d g num) Q E s:=by
 obtain⟨f,k,e,j,B⟩:=Jc a i d g num
 exists e,KPc.range_list _ _ _
 show Z8<|XT (h f B) (λr m q=>?_) λl l z=>z
 show Zd (j _ _ _) q
def rq{b d A E}{c}(j:SJ "str.format" ⟨.str F t::e,[]⟩)(l:lA F.cps.toList.length c F.cps.toList e ZP T)(m:(Nat.blt c F.cps.toList.length&&V1 (2000*c) 16777216)=ZW)(h:∀i k,Q (.str T i) {s with toks:=k}):ZE (model b d) A (call (.builtin "str.format") (.str F t::e)) Q E s:=by show KFm.call_k rfl j (KPc.meets_of λb w A s Q E h=>?_) h;show Z8<|Zd (a:=(_,_,_)) rfl ?_;show Z8 ?_;show Jd λf B=>?_;obtain⟨n,o⟩:=(YK _ _).mp m;show B.run l _ 0 _ _ 0 s.toks (by simpa using n) rfl (.inl ⟨rfl,rfl⟩) KPc.good0 (by rw[W8];show Yq o) (λw num r k g=>?_) 0;show KPc.finish_ok g (ZR _) rfl λi p=>h i p
def ni:tu (.str x t) x:=λh=>Zd (KFm.formatOf_str _ _)<|h _ _
def uu(a:0<=n)(b:n<10^7):tu (.int n t) (Z9 (toString n)):=λh=>KFm.formatOf_int (p9 a b) h
abbrev sL(x:String):List Nat:=(Z9 x).cps.toList
def rp(e:T=a){k:AV->ag->Prop}{O}(h:k (.str a) O):k (.str T) O:=e▸h
def xj{name:ZD}{id:String}(p:Pw "str" name id)(R:Uc (.builtin id)=pure (.type "method_descriptor"))(g:VN o name X.env (eval o X.env)=eval o X.env)(r:((WR b (Yd (e::n) X.env)).all (λx=>!x.1)&&(PN b (RS [] X.env)).all (λx=>x.1.isSome)&&decide ((e::n).length+([]:List QP).length+(if([]:List QP).isEmpty then 0 else 1)<30))=ZW)(i:(c.endLine==b.line)=ZW)(J:(e::n).any bN=ZX)(h:Ev X I O o λa d=>∃x,a=.str x/\bm X I d (e::n) λl f=>ax X I f (.builtin id) (.str x::l) k):Ev X I O (.Call (.Attribute o name c) (e::n) [] b) k:=λE s F=>by show Td g r i<|wm (h _ s F) λU u z=>ba z λa d w j y z=>aq z λx S A=>?_;subst S;cases y.iS with|mk t=>show lY ("str") id PySem.F.plainAttrs_str p R (SI _ _ _) (λV e=>nomatch e) ?_;have M:=fU (env:=X.env) J;show callWith_method1 (env:=X.env) (wm (A _ u b w) λW C N=>ga N λl f D m G H=>?_) M<|gr (by rw[YB,YL]at J;show J.2);show wm (H _ C _ D<|.cons (.str _ _) G) λv Q x=>.from (j.trans m) x
def Jh(a:0<=n)(b:n<10^7)(h:k (.str (Z9 (toString n))) O):ax X c O (.builtin "str.format") [.str (Z9 "{}"),.int n] k:=λE s f F R=>by replace R:=R.i2;obtain⟨d,e⟩:=R;cases d.iS;cases e.iI;show rq (KFm.args_2 _ _) (.fld (x:=[]) (r':=[]) ⋯ ⋯ (uu a b) (ZY (js a b)<|by decide) .nil) ⋯ λg i=>.done F (.tok _ _) (.str _ _)<|rp KFm.cat_ee h
def zv(a:0<=n)(b:n<10^7)(c:0<=m)(d:m<10^7)(h:k (.str (Z9 (toString n)++Z9 ","++Z9 (toString m))) O):ax X e O (.builtin "str.format") [.str (Z9 "{},{}"),.int n,.int m] k:=λE s j F R=>by replace R:=R.i3;obtain⟨f,g,i⟩:=R;cases f.iS;cases g.iI;cases i.iI;show rq (KFm.args_3 _ _ _) (.fld (x:=[]) (r':=sL ",{}") ⋯ ⋯ (uu a b) (ZY (js a b)<|by decide) (.fld (x:=sL ",") (r':=[]) ⋯ ⋯ (uu c d) (ZY (js c d)<|by decide) .nil)) ⋯ λl o=>.done F (.tok _ _) (.str _ _)<|rp (congrArg (·++_++_) KFm.cat_ee) h
@[elab_as_elim]def C7{D h a b c d}{P:List ZN->Prop}(R:aD D h e [.str a,.str b,.str c,.str d])(f:∀t u v w,P [.str a t,.str b u,.str c v,.str d w]):P e:=by replace R:=R.i4;obtain⟨g,i,j,k⟩:=R;cases g.iS;cases i.iS;cases j.iS;cases k.iS;show f _ _ _ _
def Jk(b:x.length<=1000)(c:y.length<=1000)(h:k (.str (Z9 "@@ -"++x++Z9 " +"++y++Z9 " @@"++Z9 "\n")) O):ax X a O (.builtin "str.format") [.str (Z9 "@@ -{} +{} @@{}"),.str x,.str y,.str (Z9 "\n")] k:=λE s d F R=>by show C7 R λe f g i=>?_;show rq (KFm.args_4 _ _ _ _) (.fld (x:=sL "@@ -") (r':=sL " +{} @@{}") ⋯ ⋯ ni b (.fld (x:=sL " +") (r':=sL " @@{}") ⋯ ⋯ ni c (.fld (x:=sL " @@") (r':=[]) ⋯ ⋯ ni (by decide) .nil))) ⋯ λj l=>.done F (.tok _ _) (.str _ _)<|rp (congrArg (·++x++_++y++_++_) KFm.cat_e) h
def zw{x}(b:(!F.cps.toList.isEmpty&&(!(x.length==F.cps.toList.length)&&decide (x.length<=1000)))=ZW)(c:Builtin.Str.nextMarkup F.cps.toList=.ok (x,Z7 ⟨[],Z4,[],ZX⟩,sL "{}{}"))(d:(!(sL "{}{}").isEmpty&&(!(([]:List Nat).length==F.cps.toList.length)&&decide (([]:List Nat).length<=1000)))=ZW)(e:(!(sL "{}").isEmpty&&(!(([]:List Nat).length==F.cps.toList.length)&&decide (([]:List Nat).length<=1000)))=ZW)(f:(Nat.blt 3 F.cps.toList.length&&V1 (2000*3) 16777216)=ZW)(g:ZP++⟨x.toArray⟩++Z9 ""++⟨([]:List Nat).toArray⟩++Z9 ""++⟨([]:List Nat).toArray⟩++Z9 "\n"=T)(h:k (.str T) O):ax X a O (.builtin "str.format") [.str F,.str (Z9 ""),.str (Z9 ""),.str (Z9 "\n")] k:=λE s j i R=>by show C7 R λl m n o=>?_;show rq (KFm.args_4 _ _ _ _) (.fld b c ni (by decide)<|.fld (x:=[]) (r':=sL "{}") d ⋯ ni (by decide) (.fld (x:=[]) (r':=[]) e ⋯ ni (by decide) .nil)) f λp r=>.done i (.tok _ _) (.str _ _)<|rp g h
def Ji(h:k (.str (Z9 "--- \n")) O):ax X a O (.builtin "str.format") [.str (Z9 "--- {}{}{}"),.str (Z9 ""),.str (Z9 ""),.str (Z9 "\n")] k:=zw (x:=sL "--- ") ⋯ ⋯ ⋯ ⋯ ⋯ ⋯ h
def Jj(h:k (.str (Z9 "+++ \n")) O):ax X a O (.builtin "str.format") [.str (Z9 "+++ {}{}{}"),.str (Z9 ""),.str (Z9 ""),.str (Z9 "\n")] k:=zw (x:=sL "+++ ") ⋯ ⋯ ⋯ ⋯ ⋯ ⋯ h
end
structure qO(p:Prop):Prop where h:p
def stM(h:p):qO p:=⟨h⟩
inductive GV where|len|min|max|val(v:ZN)
def nGV:Nonempty GV:=⟨.len⟩
abbrev GV.v:GV->ZN
 |.len=>.builtin "len"|.min=>.builtin "min"|.max=>.builtin "max"|.val v=>v
inductive j5(P:Ym):ZN->Prop where|bi(id:String):j5 P (.builtin id)|ty(T:String):j5 P (.type T)|fn{fa:Zw}{o:Ze}{fd:Uj}:(ar P).get? fa=some o->o.data=.func fd->j5 P (.ref fa)|cl{C N:Zw}{m:ZD->Option ZN}:ClsAt (ar P) C N m->j5 P (.ref C)
structure Ok(X:Fx)(kd:ZD->Option XH)(gt:List (ZD×GV)):Prop where
 loc:∀x,kd x=some .local\/kd x=some .cell->Bd X x
 glob:∀x g,kd x=some .globalImplicit->gt.lookup x=some g->Ld X x g.v/\j5 X.w.params g.v
 lM:X.env.kindOf ("__debug__":ZD)=none
def Ok.hold{a b}{d e f}(h:Ok X a b):Ok (X.hold I c d e f) a b:=⟨h.loc,h.glob,h.lM⟩
def Ev.mono(h:Ev X d O e k)(q:∀a b,k a b->f a b):Ev X d O e f:=λE s F=>wm (h E s F) (λv j c=>ba c λa b g i r z=>⟨a,b,g,i,r,q _ _ z⟩)
def bm.mono(h:bm X e O f k)(q:∀a b,k a b->g a b):bm X e O f g:=λE s c F=>wm (h E s c F) (λv l d=>ga d λa b i j r z=>⟨a,b,i,j,r,q _ _ z⟩)
def Ts.mono(h:Ts X f O e g)(q:∀a c,g a c->b a c):Ts X f O e b:=λE s F=>wm (h E s F) (λv k d=>fL d λc i j z=>⟨c,i,j,q _ _ z⟩)
def Es.mono{K:Kn}(h:Es X c O b K)(k:∀c O,K.nx c O->e.nx c O)(l:∀a O,K.rt a O->e.rt a O)(m:∀c O,K.bk c O->e.bk c O)(n:∀c O,K.ct c O->e.ct c O):Es X c O b e:=λE s F=>wm (h _ s F) (λfl j i=>iy i λd f g o x=>⟨d,f,g,o,by cases fl<;>first|show k _ _ x|show m _ _ x|show n _ _ x|show(let⟨a,r,q⟩:=x;⟨a,r,l _ _ q⟩)⟩)
def G6{u:ZN}(c:j5 X.w.params u)(m:(e::j).any bN=ZX)(h:bm X i O (e::j) λl d=>ax X i d u l k)(F:Fr X i O s):ZE (model pw X.w) X.A (UJ a u [] (WR a (Yd (e::j) X.env)) []) (bP X i O s k) E s:=by revert c m h F;injections e j X i O k s a E u;intro c m h F;have w:=fU (env:=X.env) m;have y:(WR a<|Yd j X.env).any (·.1)=ZX:=gr (by rw[YB,YL]at m;show m.2);cases c with|bi id=>show callWith_builtin1 (wm (tS h F) λn n x=>x.2) w y;|ty T=>show callWith_type1 (wm (tS h F) λn n x=>x.2) w y;|fn C hd=>show callWith_def hd (wm (tS h F) λn n x=>⟨x.1 _ _ C,x.2⟩) w;|cl D=>show callWith_cls D (wm (h E s a F) λG p z=>ga z λl d f g r t=>⟨λb o e=>f.base b o e,wm (t _ p G f r) λv A x=>.from g x⟩) w y
def Ev.qT(m:(e::i).any bN=ZX)(n:Ld X f g)(c:j5 X.w.params g)(h:bm X b O (e::i) λl a=>ax X b a g l k):Ev X b O (.Call (.Name f j) (e::i) [] d) k:=λE s F=>Yu (n E s j _ F.base<|G6 c m h F)
structure dn(C T:Prop)where
 p:Prop
 h:C->p->T
abbrev bb{C T:Prop}:dn C T:=⟨qO T,λa h=>h.h⟩
def aj(n:Ok X j l)(i:g.lookup x=Z7 a)(h:k a O):Ev X g O (.Name x pos) k:=λE s F=>by show Ev.name i ?_ h E s F;show eC F.vars λm r b b o=>?_;show aq (o x a i) λv p b=>?_;rw[beq_eq_false_iff_ne];rintro rfl;have d:=n.lM;show ZI p (λc=>aE c λe b=>?_) (λf=>aE f λe b=>?_)<;>rw[d]at e<;>cases e
abbrev k6(a:List X7):Bool:=!a.any bN
def NU(h:k6 a=ZW):a.any bN=ZX:=by unfold k6 at h;simpa using h
def GW{n:Nat}(h:V1 n 9=ZW):n<=Zo:=ZY (Yq h) (by exists Zx;decide)
section
variable(X:Fx)(kd:ZD->Option XH)(gt:List (ZD×GV))(ρ:Loc)
abbrev y9(c:Ui)(a b:AV)(O:ag)(k:AV->ag->Prop):dn True (Bn X ρ O c a b k):=match c,a,b with
 |.Add,.int i,.int j=>⟨k (.int<|i+j) O,λd=>.add⟩|.Sub,.int i,.int j=>⟨k (.int<|i-j) O,λd=>.sub⟩|_,_,_=>bb
abbrev zd(c:Ui)(a b:AV)(O:ag)(k:AV->ag->Prop):dn True (Ip X ρ O c a b k):=match c,a,b with
 |.Add,.int i,.int j=>⟨k (.int<|i+j) O,λd=>.add⟩|.Sub,.int i,.int j=>⟨k (.int<|i-j) O,λd=>.sub⟩|_,_,_=>bb
abbrev ur(e:O5)(a b:AV)(O:ag)(c:Bool->ag->Prop):dn True (Cm X ρ O e a b c):=match a,b with
 |.int i,.int j=>match e with
  |.Eq=>⟨c (i==j) O,λd=>.IA⟩|.NotEq=>⟨c (i !=j) O,λd=>.NL⟩|.Lt=>⟨c (decide<|i<j) O,λd=>.lt⟩|.LtE=>⟨c (decide<|i<=j) O,λd=>.le⟩|.Gt=>⟨c (decide<|j<i) O,λd=>.gt⟩|.GtE=>⟨c (decide<|j<=i) O,λd=>.ge⟩|_=>bb
 |.str i,.str j=>match e with
  |.Eq=>⟨c (i==j) O,λd=>.eqs⟩|.NotEq=>⟨c (i !=j) O,λd=>.NM⟩|_=>bb
 |.lst _,.none=>match e with
  |.Is=>⟨c ZX O,λd=>Cm.lZ (a:=.none)⟩|_=>bb
 |.none,.none=>match e with
  |.Is=>⟨c ZW O,λd=>.LD⟩|_=>bb
 |_,_=>bb
abbrev rh(a:AV)(O:ag)(c:Bool->ag->Prop):dn True (Tr X ρ O a c):=match a with
 |.bool b=>⟨c b O,λd=>.bool⟩|.int i=>⟨c (i !=0) O,λd=>.int⟩|.none=>⟨c ZX O,λd=>.none⟩|_=>bb
abbrev za(g:GV)(l:List AV)(O:ag)(k:AV->ag->Prop):dn True (ax X ρ O g.v l k):=match g with
 |.len=>match l with
  |[.lst l]=>⟨(l.length:Int)<2^63/\k (.int l.length) O,λa h=>ax.len .lst h.1 h.2⟩|_=>bb
 |.min=>match l with
  |[.int i,.int j]=>⟨k (.int<|min i j) O,λa=>Ez⟩|_=>bb
 |.max=>match l with
  |[.int i,.int j]=>⟨k (.int<|max i j) O,λa=>Ew⟩|_=>bb
 |_=>bb
abbrev IF(c:Ui)(a b:AV)(O:ag)(k:AV->ag->Prop):Prop:=(y9 X ρ c a b O k).p
abbrev II(c:Ui)(a b:AV)(O:ag)(k:AV->ag->Prop):Prop:=(zd X ρ c a b O k).p
abbrev zb(c:O5)(a b:AV)(O:ag)(d:Bool->ag->Prop):Prop:=(ur X ρ c a b O d).p
abbrev IL(a:AV)(O:ag)(b:Bool->ag->Prop):Prop:=(rh X ρ a O b).p
abbrev IG(g:GV)(l:List AV)(O:ag)(k:AV->ag->Prop):Prop:=(za X ρ g l O k).p
abbrev kB{C:Prop}(f:∀(O:ag)(e:X7)(k:AV->ag->Prop),dn C (Ev X ρ O e k)):∀(g:List X7)(O:ag)(k:List AV->ag->Prop),dn C (bm X ρ O g k)
 |[],O,k=>⟨k [] O,λj=>.nil⟩|e::g,O,k=>match i:bN e with
 |false=>⟨(f O e λa b=>(kB f g b λl d=>k (a::l) d).p).p,λc h=>.cons i (((f O e _).h c h).mono λa b=>(kB f g b _).h c)⟩|true=>bb
abbrev bK:Nat->∀(O:ag)(e:X7)(k:AV->ag->Prop),dn (Ok X kd gt) (Ev X ρ O e k)
 |0,_,_,_=>bb|n+1,O,e,k=>match e with
 |.Name x A=>match C:ρ.lookup x with
   |some a=>⟨k a O,λD=>aj D C⟩|none=>bb
 |.Constant c _ _=>match c with
   |.int i=>⟨k (.int i) O,λs=>.int⟩|.str i=>⟨k (.str i) O,λs=>.str⟩|.none=>⟨k .none O,λs=>.none⟩|.bool b=>⟨k (.bool b) O,λs=>.bool⟩|_=>bb
 |.BinOp l m r _=>⟨(bK n O l λa d=>(bK n d r λb j=>IF X ρ m a b j k).p).p,λc h=>.bin (((bK n O l _).h c h).mono λa d z=>((bK n d r _).h c z).mono λb j=>(y9 X ρ m a b j k).h trivial)⟩|.UnaryOp m e _=>match m with
   |.Not=>⟨(bK n O e λa d=>(rh X ρ a d λc j=>k (.bool (!c)) j).p).p,λc h=>.un (((bK n O e _).h c h).mono λa d z=>.not ((rh X ρ a d _).h trivial z))⟩|.USub=>match e with
    |.Constant (.int i) _ _=>⟨k (.int (-i)) O,λs h=>.un (.int (.neg h))⟩|_=>bb
   |_=>bb
 |.Compare l t E _=>match t with
   |[m]=>match E with
    |[r]=>match F:UP m r with
     |false=>⟨(bK n O l λa d=>(bK n d r λb j=>zb X ρ m a b j λc o=>k (.bool c) o).p).p,λc h=>.cmp F (((bK n O l _).h c h).mono λa d z=>((bK n d r _).h c z).mono λb j=>(ur X ρ m a b j _).h trivial)⟩|true=>bb
    |_=>bb
   |_=>bb
 |.Tuple v _ _=>⟨(kB X ρ (bK n) v O λl d=>match V1 l.length 9 with
 |true=>k (.tup l) d|false=>qO (l.length<=Zo/\k (.tup l) d)).p,λc h=>.tuple (((kB X ρ (bK n) v O _).h c h).mono λl d z=>by
     cases u:V1 l.length 9;·rw[u]at z;show z.h
     .rw[u]at z;show⟨GW u,z⟩)⟩|.Call f p G _=>match f with
   |.Name f _=>match p with
    |a::p=>match G with
     |[]=>match H:k6 (a::p)with
      |true=>match w:kd f with
       |some .globalImplicit=>match y:gt.lookup f with
        |some g=>⟨(kB X ρ (bK n) (a::p) O λl d=>IG X ρ g l d k).p,λc h=>.qT (NU H) (c.glob _ _ w y).1 (c.glob _ _ w y).2 (((kB X ρ (bK n) (a::p) O _).h c h).mono λl d=>(za X ρ g l d k).h trivial)⟩|none=>bb
       |_=>bb
      |false=>bb
     |_=>bb
    |_=>bb
   |_=>bb
 |_=>bb
abbrev rg{C:Prop}(g:∀(O:ag)(e:X7)(k:Bool->ag->Prop),dn C (Ts X ρ O e k))(stop:Bool)(B:List X7->X7)(i:∀{O d},d (!stop) O->Ts X ρ O (B []) d)(j:∀{O e f d},Ts X ρ O e (λc a=>(c=!stop->Ts X ρ a (B f) d)/\(c=stop->d stop a))->Ts X ρ O (B (e::f)) d):∀(f:List X7)(O:ag)(d:Bool->ag->Prop),dn C (Ts X ρ O (B f) d)
 |[],O,d=>⟨d (!stop) O,λl=>i⟩|e::f,O,d=>⟨(g O e λc a=>(c=!stop->(rg g stop B i j f a d).p)/\(c=stop->d stop a)).p,λc h=>j (((g O e _).h c h).mono λb a z=>⟨λq=>(rg g stop B i j f a d).h c (z.1 q),z.2⟩)⟩
abbrev iZ:Nat->∀(O:ag)(e:X7)(k:Bool->ag->Prop),dn (Ok X kd gt) (Ts X ρ O e k)
 |0,_,_,_=>bb|n+1,O,e,g=>match e with
 |.UnaryOp i e _=>match i with
   |.Not=>⟨(iZ n O e λc d=>g (!c) d).p,λc h=>.not ((iZ n O e _).h c h)⟩|_=>bb
 |.Compare l o p _=>match o with
   |[i]=>match p with
    |[r]=>match s:UP i r with
     |false=>⟨(bK X kd gt ρ n O l λa d=>(bK X kd gt ρ n d r λb f=>zb X ρ i a b f g).p).p,λc h=>.cmp s (((bK X kd gt ρ n O l _).h c h).mono λa d z=>((bK X kd gt ρ n d r _).h c z).mono λb f=>(ur X ρ i a b f g).h trivial)⟩|true=>bb
    |_=>bb
   |_=>bb
 |.BoolOp i m j=>match i with
   |.And=>rg X ρ (iZ n) ZX (λm=>.BoolOp .And m j) .and_nil .and_cons m O g|.Or=>rg X ρ (iZ n) ZW (λm=>.BoolOp .Or m j) .or_nil (λh=>.or_cons (h.mono λt t z=>⟨z.2,z.1⟩)) m O g
 |.Name x j=>match u:ρ.lookup x with
   |some a=>⟨IL X ρ a O g,λc h=>.name (aj c u ((rh X ρ a O g).h trivial h))⟩|none=>bb
 |_=>bb
end
def be(d:Ok X a b)(h:(bK X a b c n O e k).p):Ev X c O e k:=(bK X a b c n O e k).h d h
def IH(d:Ok X a b)(n)(h:(kB X ρ (bK X a b ρ n) c O k).p):bm X ρ O c k:=(kB X ρ (bK X a b ρ n) c O k).h d h
def bL(d:Ok X a b)(h:(iZ X a b c n O e k).p):Ts X c O e k:=(iZ X a b c n O e k).h d h
def kA(i:Ok X d e)(h:(iZ X d e f n O t λc a=>(c=ZW->(bK X d e f n a b k).p)/\(c=ZX->(bK X d e f n a o k).p)).p):Ev X f O (.IfExp t b o g) k:=.Ap ((bL i h).mono λc a z=>⟨λq=>be i<|z.1 q,λq=>be i<|z.2 q⟩)
abbrev vD:X7->Bool
 |.ListComp ..=>ZX|.SetComp ..=>ZX|.DictComp ..=>ZX|_=>ZW
def sC(h:vD e=ZW)(t)(l)(a):Tj e t l a=pure ZX:=by cases e<;>first|rfl|cases h
inductive Fm(m:PA (Option (List ZD))):Type where|no(h:m=pure none)|yes(l:List ZD)(h:m=pure (some l))|bad
abbrev swR(m:PA (Option (List ZD))):Fm m:=match m with
 |.pure a=>match a with
  |none=>.no rfl|some l=>.yes l rfl
 |_=>.bad
abbrev iM(a:ZD->Option XH)(x:ZD):Bool:=match a x with
 |some .local=>ZW|some .cell=>ZW|_=>ZX
def qf{a c}(b:Ok X a c)(h:iM a x=ZW):Bd X x:=by unfold iM at h;cases e:a x with|none=>replace h:=e▸h;cases h;|some n=>replace h:=e▸h;cases n<;>first|show b.loc x (.inl e)|show b.loc x (.inr e)|cases h
class inductive lH(kd:ZD->Option XH):List X7->List ZD->Prop where|nil:lH kd [] []|cons{x p ts xs}:iM kd x=true->lH kd ts xs->lH kd (.Name x p::ts) (x::xs)
inductive Ff(kd:ZD->Option XH)(ts:List X7):Type where|no|yes(xs:List ZD)(h:lH kd ts xs)
abbrev namesOf(a:ZD->Option XH):(b:List X7)->Ff a b
 |[]=>.yes [] .nil|t::b=>match t with
 |.Name x _=>match c:iM a x with
   |true=>match namesOf a b with
    |.yes d h=>.yes (x::d) (.cons c h)|.no=>.no
   |false=>.no
 |_=>.no
abbrev binds:Loc->List ZD->List AV->Loc
 |b,x::xs,a::l=>binds ((x,a)::b) xs l|b,_,_=>b
abbrev Sub(b c:Loc):Prop:=∀x a,b.lookup x=Z7 a->c.lookup x=Z7 a
def Sub.refl(a):Sub a a:=λb b e=>e
def Sub.trans(h:Sub a b)(q:Sub b c):Sub a c:=λx v e=>q x v<|h x v e
def Sub.cons{d c:Loc}(h:Sub c d)(x)(a):Sub ((x,a)::c) (dM d x a):=λy b e=>by
 exists l5;rw[ZG]at e;by_cases q:y=x;.subst q;exists if_pos rfl;simpa using e
 .have p:(y==x)=ZX:=by simpa using q
  replace e:=p▸e;exists if_neg q;show h y b e
def Sub.binds:∀{xs:List ZD}{l:List AV}{c b:Loc},Sub b c->Sub (binds b xs l) (oj c xs l)
 |[],_,_,_,h=>h|x::xs,[],_,_,h=>h|x::xs,a::l,c,b,h=>Sub.binds (xs:=xs) (l:=l) (h.cons x a)
abbrev f4:Loc->Loc->Prop
 |[],_=>True|(x,a)::r,c=>(∃b,c.lookup x=Z7 b/\b=a)/\f4 r c
def f4.ok(h:f4 ρ' ρ):Sub ρ' ρ:=λx a e=>by induction ρ' with|nil=>cases e;|cons p r f=>cases p with|mk y b=>
  rw[ZG]at e;show aE h ?_;clear h;intro c g;show aq c λj i d=>?_;subst d;by_cases q:(x==y)=ZW;.replace e:=q▸e;cases e;exists eq_of_beq q;show i
  .simp only[XK]at q;replace e:=q▸e;show f g e
def a0.ok(h:ρ'.map (λp=>ρ.lookup p.1)=ρ'.map λp=>Z7 p.2):Sub ρ' ρ:=λx a e=>by induction ρ' with|nil=>cases e;|cons p r b=>
  rw[Z3,Z3,List.cons.injEq]at h;rw[ZG]at e;cases q:x==p.1<;>replace e:=q▸e;.show b h.2 e
  .cases e;exists eq_of_beq q;show h.1
def Fr.sub(F:Fr X a O s)(h:Sub ρ' a):Fr X ρ' O s:=by obtain⟨c,d,f,⟨m,g,i,j,k⟩,l,n,o⟩:=F;show⟨c,d,f,⟨m,g,i,j,λx b e=>k x b<|h x b e⟩,l,n,o⟩
abbrev Kn.up(K:Kn):Kn:=⟨λb O=>∃a,Sub a b/\K.nx a O,K.rt,λb O=>∃a,Sub a b/\K.bk a O,λb O=>∃a,Sub a b/\K.ct a O⟩
def eZ.down{K:Kn}(x:eZ X O s K.up e f):eZ X O s K e f:=by show iy x ?_;clear x;intro c b F d x;cases e with|next=>show aq x ?_;clear x;intro a h q;show⟨a,b,F.sub h,d,q⟩;|brk=>show aq x ?_;clear x;intro a h q;show⟨a,b,F.sub h,d,q⟩;|cont=>show aq x ?_;clear x;intro a h q;show⟨a,b,F.sub h,d,q⟩;|ret v=>show⟨c,b,F,d,x⟩
def Es.down{K:Kn}(h:Es X a O b K.up):Es X a O b K:=λE s F=>wm (h E s F) λc c x=>x.down
def Ex.down{K:Kn}(h:Ex X a O b K.up):Ex X a O b K:=λE s F=>wm (h E s F) λc c x=>x.down
def Ex.sub{K:Kn}(c:Sub ρ' a)(h:Ex X ρ' O b K):Ex X a O b K:=λE s F=>h E s<|F.sub c
def cK.mono(h:cK X b O t a k)(q:∀b O,k b O->e b O):cK X b O t a e:=λE s v F r=>wm (h E s v F r) (λj l c=>cR c λd f g i z=>bX d f g i<|q _ _ z)
def cK.down(h:cK X d O t a λd O=>∃b,Sub b d/\k b O):cK X d O t a k:=λE s v F r=>wm (h E s v F r) (λj l e=>Ie e λb f g i c h z=>bX c f (g.sub h) i z)
def tJ(h:Tg X d O t a λb=>k b O):cK X d O t a k:=λE s v F r=>wm (h E s v F r) (λg i c=>bV c λb e f z=>bX b O e f z)
def Tg.mono(h:Tg X b O t a k)(q:∀b,k b->e b):Tg X b O t a e:=λE s v F r=>wm (h E s v F r) (λi j c=>bV c λd f g z=>bl d f g<|q _ z)
def Tg.down(h:Tg X d O t a λd=>∃b,Sub b d/\k b):Tg X d O t a k:=λE s v F r=>wm (h E s v F r) (λi j e=>Ic e λb f g c h z=>bl c (f.sub h) g z)
abbrev qP(X:Fx)(c:Loc)(O:ag):List X7->AV->(Loc->ag->Prop)->Prop
 |[],_,k=>k c O|t::d,a,k=>cK X c O t a λb e=>qP X b e d a k
section
variable{X:Fx}{kd:ZD->Option XH}{gt:List (ZD×GV)}{en:Ri}{pos px:Vk}{ρ:Loc}{O:ag}
def lH.ok{b:List X7}{d:List ZD}(n:lH kd b d)(f:Ok X kd gt):∀{l:List AV}{ρ:Loc}{k:Loc->Prop},d.length=l.length->k (oj ρ d l)->km X ρ O b l k/\b.length=l.length/\∀env:Ri,(Wh b env).length=b.length/\(Wh b env).findIdx? (·.1)=Z4:=by induction n with|nil=>showλ{l ρ k}c e=>match l,c with|[],_=>br (.nil e) rfl λi=>⟨rfl,rfl⟩;|cons g _ h=>showλ{l ρ k}c e=>match l,c with
 |a::l,c=>have q:=h (l:=l) (Ut c) e;(br (.cons rfl (.name (qf f g) q.1) q.2.2) (congrArg (·+1) q.2.1) λenv=>⟨congrArg (·+1) (q.2.2 env).1,(Rg ..).trans<|congrArg (Option.map (·+1)) (q.2.2 env).2⟩)
abbrev ph{C T:Prop}:dn C T:=⟨qO False,λa h=>h.h.elim⟩
variable(X kd gt en)
abbrev na(b:Loc)(O:ag)(t:X7)(a:AV)(k:Loc->Prop){T:Prop}(f:Tg X b O t a k->T):dn (Ok X kd gt) T:=match t with
 |.Name x _=>match c:iM kd x with
  |true=>⟨k ((x,a)::b),λd h=>f<|Tg.down<|.name (qf d c)<|ae _ ((Sub.refl b).cons _ _) h⟩|false=>bb
 |.Tuple i _ _=>match a with
  |.tup l=>match namesOf kd i with
   |.yes e c=>match g:e.length==l.length with
    |true=>⟨k<|binds b e l,λd h=>f<|Tg.down<|.tup (c.ok (O:=O) (ρ:=b) (k:=λj=>True) d (eq_of_beq g) trivial).2.1 (c.ok d (eq_of_beq g) ⟨_,Sub.binds<|Sub.refl _,h⟩).1⟩|false=>bb
   |.no=>bb
  |_=>bb
 |_=>bb
abbrev pe:∀(d:List X7)(ρ:Loc)(O:ag)(a:AV)(k:Loc->ag->Prop),dn (Ok X kd gt) (qP X ρ O d a k)
 |[],ρ,O,_,k=>⟨k ρ O,λf h=>h⟩|[t],ρ,O,a,k=>⟨(na X kd gt ρ O t a (λb=>k b O) (T:=cK X ρ O t a k) λh=>tJ h).p,λc h=>(na X kd gt ρ O t a _ _).h c h⟩|t::u::d,ρ,O,a,k=>⟨(na X kd gt ρ O t a (λb=>(pe (u::d) b O a k).p) (λh=>tJ (k:=λb e=>(pe (u::d) b e a k).p) h)).p,λc h=>((na X kd gt ρ O t a _ _).h c h).mono λρ O=>(pe (u::d) ρ O a k).h c⟩
abbrev IK(b:List X7)(c:Loc)(O:ag)(a:AV)(k:Loc->ag->Prop):Prop:=(pe X kd gt b c O a k).p
abbrev sY:List X7->X7->Bool
 |[_],e=>vD e|_,_=>ZW
end
def acE{a:Ri}:∀{b:List X7},k6 b=ZW->(Wh b a).map (·.2)=b.map λt=>Uq t a:=by intro d;induction d with|nil=>showλ_=>rfl;|cons t b e=>
  intro h;have c:k6 b=ZW/\bN t=ZX:=by unfold k6 at h⊢;rw[YB]at h;simp only[Bool.not_eq_true',YL]at h⊢;show⟨h.2,h.1⟩
  have:=e c.1;have q:=c.2;cases t<;>first|show congrArg (_::·) this|(cases(show ZW=ZX from q))
def FV{X:Fx}{E:ZN->ZL->Prop}{c:List X7}:∀{n:Loc}{O:ag}{a:AV}{k:Loc->ag->Prop}{s:ZL}{v:ZN},qP X n O c a k->Fr X n O s->aB (aa X O) s.heap v a->ZE (model pw X.w) X.A (assignAll v (c.map λt=>Uq t X.env)) (λy z=>∃f o,Fr X f o z/\am (aa X O) s.heap (aa X o) z.heap/\k f o) E s:=by injections X E c;induction c with|nil=>showλh F r=>Z5<|bX _ _ F (.refl _ _) h;|cons t c G=>cases c with|nil=>showλh F r=>h _ _ _ F r;|cons u c=>intro n O a k s v h F r;show(?_:ZE _ _ (do holding [v] (Uq t X.env v);assignAll v ((u::c).map λt=>Uq t X.env)) _ _ _);show Z8<|Zy<|wm (h _ s v F r) λy A p=>cR p λw C g b i=>?_;show wm (G i g<|r.move b) λy D x=>cR x λd j l e m=>bX d j l (b.trans e) m
def DG(h:sY a e=ZW)(l)(b):swapsWithSole a e l b=pure ZX:=by match a,h with|[],_=>rfl;|[t],h=>show sC h _ _ _;|_::_::_,_=>rfl
def Es.FU{K:Kn}(x:sY g e=ZW)(y:k6 g=ZW)(z:Tx g e X.env=pure Z4)(h:Ev X o O e λa b=>qP X o b g a K.nx):Es X o O (.Assign g e p) K:=λE s F=>by show wpAny_Assign_stores (wm (h _ s F) λv u r=>ba r λa b i c j k=>?_) (DG x _ _) z;exists acE y;show wm (FV k i j) λA w t=>cR t λd l m f n=>⟨d,l,m,c.trans f,n⟩
def Ip.mono(h:Ip X e O f a b k)(q:∀a c,k a c->g a c):Ip X e O f a b g:=λE s u v F i j=>wm (h E s u v F i j) (λv n d=>ba d λa c l m r z=>⟨a,c,l,m,r,q _ _ z⟩)
section
variable(X:Fx)(kd:ZD->Option XH)(gt:List (ZD×GV))(en:Ri)
abbrev uo:Loc->ag->Kn->Prop:=λa O K=>K.nx a O
abbrev IE{C:Prop}{X:Fx}(d:∀(a:Loc)(O:ag)(st:YR)(K:Kn),dn C (Es X a O st K)):YR->List YR->(Loc->ag->Kn->Prop)->Loc->ag->Kn->Prop:=λb g e a O K=>(d a O b ⟨λc f=>e c f K,K.rt,K.bk,K.ct⟩).p
abbrev gP{C:Prop}{X:Fx}(a:∀(c:Loc)(O:ag)(st:YR)(K:Kn),dn C (Es X c O st K))(b:List YR):Loc->ag->Kn->Prop:=List.rec uo (IE a) b
def uq{X:Fx}{e:∀(a:Loc)(O:ag)(st:YR)(K:Kn),dn C (Es X a O st K)}(c:C):∀(b:List YR)(a:Loc)(O:ag)(K:Kn),gP e b a O K->Ex X a O b K:=by intro f;induction f with|nil=>showλa O K h=>.nil h;|cons b r g=>showλa O K h=>.cons<|((e a O b _).h c h).mono (g · · K) (λd d z=>z) (λd d z=>z) λd d z=>z
abbrev zg{ρ:Loc}(b:List ZD)(K:Kn)(a:AV)(O:ag):dn True (∃l,a=.tup l/\l.length=b.length/\K.up.nx (oj ρ b.reverse l.reverse) O):=match a with
 |.tup l=>match c:l.length==b.length with
  |true=>⟨K.nx (binds ρ b.reverse l.reverse) O,λd h=>⟨l,rfl,eq_of_beq c,_,Sub.binds<|Sub.refl _,h⟩⟩|false=>ph
 |_=>ph
abbrev IJ(n:Nat)(f:Loc)(O:ag)(e:X7)(g:Vk)(b:List ZD)(K:Kn):∀(i:List X7),sY i e=ZW->Tx i e en=pure (Z7 b)->dn (Ok X kd gt/\X.env=en) (Es X f O (.Assign i e g) K)
 |[t],j,k=>match t,j,k with
  |.Tuple r c p,j,k=>match l:b.all (iM kd)with
   |true=>⟨(bK X kd gt f (n+1) O e λa d=>(zg (ρ:=f) b K a d).p).p,λc h=>Es.down (.FT b (λx m=>qf c.1 (Yi.mp l x m)) (DG j _ _) (c.2▸k) (((bK X kd gt f (n+1) O e _).h c.1 h).mono λa o=>(zg b K a o).h trivial))⟩|false=>ph
  |_,_,_=>ph
 |_,_,_=>ph
abbrev ff:Nat->∀(g:Loc)(O:ag)(st:YR)(K:Kn),dn (Ok X kd gt/\X.env=en) (Es X g O st K)
 |0,_,_,_,_=>bb|n+1,g,O,st,K=>match st with
 |.Assign k e i=>match s:sY k e with
   |true=>match v:k6 k with
    |true=>match swR (Tx k e en)with
     |.no r=>⟨(bK X kd gt g (n+1) O e λa f=>IK X kd gt k g f a K.nx).p,λc h=>.FU s v (c.2▸r) (((bK X kd gt g (n+1) O e _).h c.1 h).mono λa f=>(pe X kd gt k g f a K.nx).h c.1)⟩|.yes j r=>IJ X kd gt en n g O e i j K k s r|.bad=>bb
    |false=>bb
   |false=>bb
 |.AugAssign t u e i=>match t with
   |.Name x p=>match w:iM kd x with
    |true=>match y:g.lookup x with
     |some a=>⟨(bK X kd gt g (n+1) O e λb f=>II X g u a b f λc l=>K.nx ((x,c)::g) l).p,λc h=>Es.down (.aug (qf c.1 w) y (((bK X kd gt g (n+1) O e _).h c.1 h).mono λb f z=>((zd X g u a b f _).h trivial z).mono λd A z=>ae _ ((Sub.refl _).cons _ _) z))⟩|none=>bb
    |false=>bb
   |_=>bb
 |.If t b o i=>⟨(iZ X kd gt g (n+1) O t λc f=>(c=ZW->gP (ff n) b g f K)/\(c=ZX->gP (ff n) o g f K)).p,λc h=>.ite (((iZ X kd gt g (n+1) O t _).h c.1 h).mono λm f z=>⟨λq=>uq c b g f K (z.1 q),λq=>uq c o g f K (z.2 q)⟩)⟩|.Return e _=>match e with
   |some e=>⟨(bK X kd gt g (n+1) O e K.rt).p,λc h=>.ret ((bK X kd gt g (n+1) O e K.rt).h c.1 h)⟩|none=>⟨K.rt .none O,λm=>.abL⟩
 |.Expr e i=>match C:vD e with
   |true=>⟨(bK X kd gt g (n+1) O e λm f=>K.nx g f).p,λc h=>.expr (sC C _ _ _) ((bK X kd gt g (n+1) O e _).h c.1 h)⟩|false=>bb
 |.Pass _=>⟨K.nx g O,λm=>.pass⟩|.Break _=>⟨K.bk g O,λm=>.brk⟩|.Continue _=>⟨K.ct g O,λm=>.cont⟩|_=>bb
end
def iD(g:Ok X a b)(d:X.env=c)(n)(e)(O)(f)(K)(h:(ff X a b c n e O f K).p):Es X e O f K:=(ff X a b c n e O f K).h ⟨g,d⟩ h
def run{X:Fx}{d:ZD->Option XH}{e:List (ZD×GV)}{f:Ri}{a:Loc}{O:ag}{K:Kn}{b:List YR}(g:Ok X d e)(c:X.env=f)(h:gP (ff X d e f 20) b a O K):Ex X a O b K:=uq ⟨g,c⟩ b a O K h
abbrev aY:List (ZD×GV):=[(Z9 "len",.len),(Z9 "min",.min),(Z9 "max",.max),(Z9 "range",.val<|.type "range"),(Z9 "str",.val<|.type "str"),(Z9 "list",.val<|.type "list"),(Z9 "abs",.val<|.builtin "abs"),(Z9 "divmod",.val<|.builtin "divmod"),(Z9 "chr",.val<|.builtin "chr"),(Z9 "enumerate",.val<|.type "enumerate"),(Z9 "map",.val<|.type "map"),(Z9 "set",.val<|.type "set"),(Z9 "zip",.val<|.type "zip"),(Z9 "isinstance",.val<|.builtin "isinstance"),(Z9 "SequenceMatcher",.val<|.ref 242),(Z9 "_format_range_unified",.val<|.ref 253),(Z9 "unified_diff",.val<|.ref 261),(Z9 "_check_types",.val<|.ref 268),(Z9 "_law_line",.val<|.ref 275),(Z9 "_law_read",.val<|.ref 280),(Z9 "_law_range",.val<|.ref 287),(Z9 "_law_far",.val<|.ref 294),(Z9 "_law_diff",.val<|.ref 299),(Z9 "_law_longest",.val<|.ref 304),(Z9 "_law_apart",.val<|.ref 309)]
structure lC(P:Ym)(x:ZD)(g:GV):Prop where
 lM:(x==("__debug__":ZD))=false
 Jl:(Wi (cw (eM P)) x=none/\Wi (cw (UL P)) x=some g.v)\/Wi (cw (eM P)) x=some g.v
 lL:j5 P g.v
def kF(P):∀p∈aY,lC P p.1 p.2:=by
 intro p a;ext P p;simp only[aY,Z1,Zn,or_false]at a;rcases a with rfl|rfl|rfl|rfl|rfl|rfl|rfl|rfl|rfl|rfl|rfl|rfl|rfl|rfl|rfl|rfl|rfl|rfl|rfl|rfl|rfl|rfl|rfl|rfl|rfl;all_goals first|show⟨⋯,.inl ⟨⋯,⋯⟩,.bi _⟩;|show⟨⋯,.inl ⟨⋯,⋯⟩,.ty _⟩;|skip
 .show⟨⋯,.inr ⋯,.cl<|mV λb b e=>e⟩
 .show⟨⋯,.inr ⋯,.fn (o:=vH) ⋯ rfl⟩
 .show⟨⋯,.inr ⋯,.fn (o:=iK) ⋯ rfl⟩
 .show⟨⋯,.inr ⋯,.fn (o:=pV) ⋯ rfl⟩
 .show⟨⋯,.inr ⋯,.fn (o:=vI) ⋯ rfl⟩
 .show⟨⋯,.inr ⋯,.fn (o:=vJ) ⋯ rfl⟩
 .show⟨⋯,.inr ⋯,.fn (o:=vK) ⋯ rfl⟩
 .show⟨⋯,.inr ⋯,.fn (o:=vL) ⋯ rfl⟩
 .show⟨⋯,.inr ⋯,.fn (o:=vM) ⋯ rfl⟩
 .show⟨⋯,.inr ⋯,.fn (o:=vN) ⋯ rfl⟩
 .show⟨⋯,.inr ⋯,.fn (o:=vO) ⋯ rfl⟩
def lC.ld(h:∀P,lC P x g)(d:X.env.kindOf x=Z7 .globalImplicit):Ld X x g.v:=λE s e Q a q=>by
 show ZI ((h X.w.params).Jl) (λb=>aE b λc f=>?_) λc=>?_;.show WN X.fn d (TE (by exists X.glob;show sF a) c (by exists X.bn;show BD a) f q) (h X.w.params).lM
 .show WN X.fn d (Tk (by exists X.glob;show sF a) c q) (h X.w.params).lM
def Callee.ok(C:Callee X Y name a c d)(f:a.names.lookup ("__debug__":ZD)=Z4):Ok Y (λx=>a.names.lookup x) aY:=by
 show⟨λx h=>C.bd h,λx g i j=>?_,?_⟩;.have b:=mem_of_lookup j;show⟨lC.ld (λP=>kF P _ b)<|C.glob i,(kF _ _ b).lL⟩
 .show aq C.env λL e k=>?_;exists e;show f
def d0.ok(C:d0 X Y name a c d)(f:a.names.lookup ("__debug__":ZD)=Z4):Ok Y (λx=>a.names.lookup x) aY:=by
 show⟨λx h=>C.bd h,λx g i j=>?_,?_⟩;.have b:=mem_of_lookup j;show⟨lC.ld (λP=>kF P _ b)<|C.glob i,(kF _ _ b).lL⟩
 .show aq C.env λL e k=>?_;exists e;show f
def Callee.run{X Y:Fx}{f:Loc}{O:ag}{K:Kn}{name:ZD}{a:Vs}{c:Zw}{d:ZN}(C:Callee X Y name a c d)(g:a.names.lookup ("__debug__":ZD)=Z4){b:List YR}(h:∀L,Y.env=Y8 name a L c d->gP (ff Y (λx=>a.names.lookup x) aY (Y8 name a L c d) 20) b f O K):Ex Y f O b K:=by show aq C.env λL e i=>?_;show Mine.Internal.run (C.ok g) e<|h L e
def d0.run{X Y:Fx}{f:Loc}{O:ag}{K:Kn}{name:ZD}{a:Vs}{c:Zw}{d:ZN}(C:d0 X Y name a c d)(g:a.names.lookup ("__debug__":ZD)=Z4){b:List YR}(h:∀L,Y.env=Y8 name a L c d->gP (ff Y (λx=>a.names.lookup x) aY (Y8 name a L c d) 20) b f O K):Ex Y f O b K:=by show aq C.env λL e i=>?_;show Mine.Internal.run (C.ok g) e<|h L e
def fx{d e f}(i:Ok X d e)(a:X.env=f){K:Kn}:∀{g:Loc}{O:ag},gP (ff X d e f 20) b1 g O ⟨λj k=>Ex X j k b2 K,K.rt,K.bk,K.ct⟩->Ex X g O (b1++b2) K:=by revert i a;injections X b1 b2 d e f K;intro i a;induction b1 with|nil=>showλh=>h;|cons b b1 l=>showλ{g O}h=>.cons<|(iD i a 20 _ _ _ _<|show(ff X d e f 20 g O b _).p from h).mono (λc c z=>l z) (λc c z=>z) (λc c z=>z) λc c z=>z
def Ex.gen{K:Kn}(h:∀e:Kn,(∀c O,K.nx c O->e.nx c O)->(∀a O,K.rt a O->e.rt a O)->(∀c O,K.ct c O->e.ct c O)->(∀c O,K.bk c O->e.bk c O)->Ex X c O b e):Ex X c O b K:=h K (λd d z=>z) (λd d z=>z) (λd d z=>z) λd d z=>z
@[elab_as_elim]def l4{P:List ZN->Prop}(h:b.length=n+1)(q:∀a ws,ws.length=n->P (a::ws)):P b:=by cases b with|nil=>cases h;|cons a ws=>show q a ws<|Ut h
@[elab_as_elim]def Ms{P:List ZN->Prop}(h:b.length=0)(q:P []):P b:=by cases b with|nil=>show q;|cons a ws=>cases h
@[elab_as_elim]def pM{P:List ZN->Prop}(h:b.length=1)(q:∀a,P [a]):P b:=l4 h λa ws h=>Ms h q a
@[elab_as_elim]def kS{P:List ZN->Prop}(h:c.length=2)(q:∀a b,P [a,b]):P c:=l4 h λa ws h=>pM h λb=>q a b
@[elab_as_elim]def rY{P:List ZN->Prop}(h:d.length=3)(q:∀a b c,P [a,b,c]):P d:=l4 h λa ws h=>kS h λb c=>q a b c
@[elab_as_elim]def AO{P:List ZN->Prop}(h:e.length=4)(q:∀a b c d,P [a,b,c,d]):P e:=l4 h λa ws h=>rY h λb c d=>q a b c d
@[elab_as_elim]def AP{P:List ZN->Prop}(h:f.length=5)(q:∀a b c d e,P [a,b,c,d,e]):P f:=l4 h λa ws h=>AO h λb c d e=>q a b c d e
@[elab_as_elim]def Mu{P:List ZN->Prop}(h:g.length=6)(q:∀a b c d e f,P [a,b,c,d,e,f]):P g:=l4 h λa ws h=>AP h λb c d e f=>q a b c d e f
@[elab_as_elim]def Mv{P:List ZN->Prop}(h:i.length=7)(q:∀a b c d e f g,P [a,b,c,d,e,f,g]):P i:=l4 h λa ws h=>Mu h λb c d e f g=>q a b c d e f g
structure cW(X:Fx)(as:List Zw):Prop where
 nl:∀a∈as,a≠X.env.locals
 nc:∀a∈as,∀n c,(n,c)∈X.env.cells->a≠c
 ab:∀a∈as,X.h₀.get? a=none\/a∈X.a7
 nh:∀a∈as,∀q∈X.held,a≠q.1
 nb:∀a∈as,(ar X.w.params).get? a=none
 nd:as.Nodup
abbrev Fx.holds(X:Fx)(hs:List (Zw×Ze))(c:cW X (hs.map (·.1))):Fx:={X with
  held:=hs++X.held
  hnl:=λq a=>(ZS.mp a).elim (λh=>c.nl _<|Z0.mpr<|ae q h rfl) (X.hnl q)
  hnc:=λq a=>(ZS.mp a).elim (λh=>c.nc _<|Z0.mpr<|ae q h rfl) (X.hnc q)
  hab:=λq a=>(ZS.mp a).elim (λh=>c.ab _<|Z0.mpr<|ae q h rfl) (X.hab q)}
abbrev aJ(a:List (Zw×Ze)):ag:=a.map λq=>(q.1,.other q.2)
def gY(a):(aJ a).map (·.1)=a.map (·.1):=by unfold aJ;exists YE;rfl
def Be{c:cW X (b.map (·.1))}:a∈aa (X.holds b c) O↔a∈aa X (aJ b++O):=by
 ext X b O a;rw[ce,gY];unfold aa Fx.holds;simp only[ZF,ZS];constructor
 .rintro(h|(h|h)|h);.show .inr<|.inl h
  .show .inl h
  .show .inr<|.inr<|.inl h
  .show .inr<|.inr<|.inr h
 .rintro(h|h|h|h);.show .inr<|.inl<|.inl h
  .show .inl h
  .show .inr<|.inl<|.inr h
  .show .inr<|.inr h
def kK{c:cW X (b.map (·.1))}:am (aa X (aJ b++O)) h (aa (X.holds b c) O) h:=λa o d e=>⟨λq=>d<|Be.mp q,e⟩
def mo{c:cW X (b.map (·.1))}:am (aa (X.holds b c) O) h (aa X (aJ b++O)) h:=λa o d e=>⟨λq=>d<|Be.mpr q,e⟩
def Fr.rJ(F:Fr X h (aJ c++O) s):cW X (c.map (·.1)):=by
 have d:∀a∈c.map (·.1),∃e,(a,e)∈aJ c++O:=λa b=>by show cu b λq i=>?_;show⟨_,Zk _<|Z0.mpr<|ae q i rfl⟩
 have f:=F.nd;rw[ZF,gY,YT]at f;show⟨λa b=>?_,λa b=>?_,λa b=>?_,λa b=>?_,λa b=>?_,f.1⟩;all_goals show aS (d a b) λe j=>?_;obtain⟨k,l,g,m,n⟩:=F.own _ j
 .show l
 .show g.1
 ·show k
 .show g.2
 ·show m
def Fr.toHolds(F:Fr X d (aJ b++O) s)(c:cW X (b.map (·.1))):Fr (X.holds b c) d O s:=by
 ext X d b O s;show eC F.vars λm k l n t=>?_;have f:=F.nd;rw[ZF,gY,YT]at f;show⟨F.keep,F.gens,F.os,⟨m,k,l,n,λx u e=>?_⟩,λq g=>?_,λp i=>?_,f.2.1⟩;.show aq (t x u e) λv a r=>?_;show ae v a<|r.move kK
 .show ZI (ZS.mp g) (λh=>?_) λh=>?_;.show F.dW<|Zk _<|Z0.mpr<|ae q h rfl
  .show F.held q h
 .show cL (F.own p<|Zq _ i) λw y j A o C z=>?_;show⟨w,y,⟨j.1,λq g=>?_⟩,A,o,C,z.move kK⟩;show ZI (ZS.mp g) (λh=>?_) λh=>?_;.showλe=>f.2.2 _ (Z0.mpr<|ae q h rfl) _ (Z0.mpr<|ae p i rfl) e.symm
  .show j.2 q h
def Fr.mf{c:cW X (f.map (·.1))}(F:Fr (X.holds f c) i O s):Fr X i (aJ f++O) s:=by
 ext X f i O s;show eC F.vars λm u w y A=>?_;show⟨F.keep,F.gens,F.os,⟨m,u,w,y,λx C e=>?_⟩,λq d=>F.held q<|Zq _ d,λp j=>?_,?_⟩;.show aq (A x C e) λv a r=>?_;show ae v a<|r.move mo
 .show ZI (ZS.mp j) (λh=>?_) λh=>?_;.show aq (Z0.mp h) λq d k=>?_;subst k;have g:q.1∈f.map (·.1):=Z0.mpr<|ae q d rfl;show⟨c.ab _ g,c.nl _ g,⟨c.nc _ g,c.nh _ g⟩,c.nb _ g,q.2,F.held q<|Zk _ d,rfl⟩
  .show cL (F.own p h) λD E t G o H z=>?_;show⟨D,E,⟨t.1,λq d=>t.2 q<|Zq _ d⟩,G,o,H,z.move mo⟩
 .exists ZF;rw[gY,YT];show br c.nd F.nd λa I b J e=>?_;show aq (Z0.mp I) λq d l=>?_;subst l;show aq (Z0.mp J) λp j n=>?_;subst n;show(F.own p j).a3.2 q (Zk _ d) e.symm
def Fr.hV(F:Fr X l (aJ hs++O) s)(i:∀b o,b∉hs.map (·.1)->s.heap.get? b=Z7 o->s'.heap.get? b=Z7 o)(x:∀q∈hs',s'.heap.get? q.1=Z7 q.2)(m:∀a∈hs'.map (·.1),a∈hs.map (·.1)\/s.heap.get? a=Z4)(D:(hs'.map (·.1)).Nodup)(E:X.G s'.gens)(f:s'.os=s.os):Fr X l (aJ hs'++O) s'/\am (aa X (aJ hs++O)) s.heap (aa X (aJ hs'++O)) s'.heap:=by
 ext X l hs O s hs' s';have c:=F.rJ;have g:=F.nd;rw[ZF,gY,YT]at g;have out:∀d,d∈aa X O->d∉hs.map (·.1):=λd hd q=>by
  show fJ hd (λh=>?_) (λh=>?_) (λn h=>?_) (λh=>?_) λo h=>?_;.show g.2.2 _ q _ h rfl
  .show c.nl _ q h
  .show c.nc _ q _ _ h rfl
  .show ZI (c.ab _ q) (λz=>?_) λz=>?_;.show aS (X.old _ h) λo f=>?_;replace f:=z▸f;cases f
   .show X.eh _ z h
  .show c.nh _ q _ h rfl
 have r:am (aa X<|aJ hs++O) s.heap (aa X<|aJ hs'++O) s'.heap:=λa o k e=>by
  have y:a∉hs.map (·.1):=λq=>k<|ce.mpr<|.inl (by exists gY ..;show q);show⟨λq=>?_,i a o y e⟩;show ZI (ce.mp q) (λq=>?_) λq=>?_
  .rw[gY]at q;show ZI (m a q) (λz=>?_) λz=>?_;.show y z
   .replace e:=z▸e;cases e
  .show k<|ce.mpr<|.inr q
 have A:∀d,d∈aa X O->∃o,s.heap.get? d=Z7 o:=λd hd=>F.ex d<|ce.mpr<|.inr hd;show⟨F.move r (λa o G t e=>i a o (λq=>?_) e) E f (λo e=>i _ o (out _<|aL.mpr<|.inr<|.inl rfl) e) (λn H u o e=>i _ o (out _<|aL.mpr<|.inr<|.inr<|.inl ⟨n,u⟩) e) (λq j e=>i _ _ (out _<|aL.mpr<|.inr<|.inr<|.inr<|.inr ⟨q.2,j⟩) e) (λp v=>?_) ?_,r⟩
 .show ZI (c.ab _ q) (λz=>?_) λz=>?_;.replace t:=z▸t;cases t
  .show G z
 .show ZI (ZS.mp v) (λh=>?_) λh=>?_
  .show cu h λq j=>?_;have I:q.1∈hs'.map (·.1):=Z0.mpr<|ae q j rfl;show ZI (m _ I) (λz=>?_) λz=>?_;.show⟨c.ab _ z,c.nl _ z,⟨c.nc _ z,c.nh _ z⟩,c.nb _ z,q.2,x q j,rfl⟩
   .have w:∀d,d∈aa X O->q.1≠d:=λd hd e=>by show aS (A d hd) λo f=>?_;rw[<-e,z]at f;cases f
    show⟨F.new z,w _<|aL.mpr<|.inr<|.inl rfl,⟨λn H u=>w _<|aL.mpr<|.inr<|.inr<|.inl ⟨n,u⟩,λp v=>w _<|aL.mpr<|.inr<|.inr<|.inr<|.inr ⟨p.2,v⟩⟩,?_,q.2,x q j,rfl⟩;cases e:(ar X.w.params).get? q.1 with|none=>rfl;|some o=>have U:=F.base _ _ e;replace U:=z▸U;cases U
  .show cL (F.own p<|Zq _ h) λJ M N Q o f z=>?_;show⟨J,M,N,Q,o,i _ _ (out _<|aL.mpr<|.inl<|Z0.mpr<|ae p h rfl) f,z.move r⟩
 .exists ZF;rw[gY,YT];show br D g.2.1 λa k b C e=>?_;subst e;show ZI (m a k) (λz=>?_) λz=>?_;.show g.2.2 a z a C rfl
  .show aS (A a<|aL.mpr<|.inl C) λo f=>?_;replace f:=z▸f;cases f
def Fr.jt(F:Fr X c (aJ hs++O) s)(d:∀b o,b∉hs.map (·.1)->s.heap.get? b=Z7 o->s'.heap.get? b=Z7 o)(e:X.G s'.gens)(f:s'.os=s.os):Fr X c O s'/\am (aa X (aJ hs++O)) s.heap (aa X O) s'.heap:=by have p:=F.hV (hs':=[]) d (λq g=>nM g) (λa h=>nM h) XY e f;show p
structure kj(X:Fx)(qw:List Zw)(rK:Xq)(tg:X7)(it:ZN)(l:List AV)(Nd:ag->Prop)(IS:Nat->List (Zw×Ze)->Prop):Prop where
 item:∀i av hs ρ O s(Q:Option ZN->ZL->Prop)(E:ZN->ZL->Prop),l[i]?=some av->IS i hs->Nd O->Fr X ρ (aJ hs++O) s->am qw rK (aa X (aJ hs++O)) s.heap->(∀v s',(∀(Q2:Unit->ZL->Prop)(E2:ZN->ZL->Prop),(∀hs' pZ,IS (i+1) hs'->Fr X ρ (aJ hs'++O) pZ->am (aa X (aJ hs++O)) s.heap (aa X (aJ hs'++O)) pZ.heap->aB (aa X (aJ hs'++O)) pZ.heap v av->Q2 () pZ)->ZE (model pw X.w) X.A (V9 tg it v) Q2 E2 s')->Q (some v) s')->ZE (model pw X.w) X.A (Vu it) Q E s
 done:∀hs ρ O s(Q:Option ZN->ZL->Prop)(E:ZN->ZL->Prop),IS l.length hs->Nd O->Fr X ρ (aJ hs++O) s->am qw rK (aa X (aJ hs++O)) s.heap->(∀s',Fr X ρ O s'->am (aa X (aJ hs++O)) s.heap (aa X O) s'.heap->Q none s')->ZE (model pw X.w) X.A (Vu it) Q E s
inductive tI(X:Fx)(ρ:Loc)(O:ag)(s:ZL)(tg:X7)(k:List AV->ag->(ag->Prop)->Prop)(it:ZN)(eo:ZL):Prop|mk(l:List AV)(Nd:ag->Prop)(IS:Nat->List (Zw×Ze)->Prop)(hs:List (Zw×Ze))(O':ag)(W:kj X (aa X (aJ hs++O')) eo.heap tg it l Nd IS)(i0:IS 0 hs)(xp:Fr X ρ (aJ hs++O') eo)(wD:am (aa X O) s.heap (aa X (aJ hs++O')) eo.heap)(hk:k l O' Nd)
abbrev ch(X:Fx)(b:Loc)(O:ag)(c e:X7)(k:List AV->ag->(ag->Prop)->Prop):Prop:=∀E s,Fr X b O s->ZE (model pw X.w) X.A (eval e X.env) (λx a=>ZE (model pw X.w) X.A (Rf x) (tI X b O s c k) E a) E s
inductive tw(X:Fx)(IS:Nat->List (Zw×Ze)->Prop)(Inv:Nat->Loc->ag->Prop)(n:Nat)(D:List Zw)(h:Xq):Nat->ZL->Prop|mk{i ρ' O' hs' s'}(F':Fr X ρ' (aJ hs'++O') s')(jo:IS i hs')(p2:am D h (aa X (aJ hs'++O')) s'.heap)(adU:Inv i ρ' O')(hi:i<=n):tw X IS Inv n D h (n+1-i) s'
def d5{K:Kn}{t:List YR}(hf:∀x,Yb n X.env x=pure x)(h:ch X ρ O tg n λl f Nd=>∃Inv:Nat->Loc->ag->Prop,Inv 0 ρ f/\(∀i b k,Inv i b k->Nd k)/\(∀i av b k C c,l[i]?=Z7 av->Inv i b k->Tg (X.holds C c) b k tg av λU=>Ex (X.holds C c) U k t ⟨Inv (i+1),K.rt,K.nx,Inv (i+1)⟩)/\(∀b k,Inv l.length b k->K.nx b k)):Es X ρ O (.For tg n t [] S) K:=by
 intro E s F;revert hf h F;injections n X ρ O tg S K t E s;intro hf h F;show wpAny_For (wm (h _ s F) λx V hx=>wm hx λit o KN=>?_) hf;obtain⟨l,Nd,IS,C,f,W,jU,y,D,Inv,h0,G,step,Y⟩:=KN;revert hx W jU y D h0 G step Y;ext x V it o l Nd IS C f Inv;show codeAny_forLoop_any (tw X IS Inv l.length (aa X<|aJ C++f) o.heap) ?_ (l.length+1)<|.mk (i:=0) y jU (.refl _ _) h0<|ZZ _;rintro u' s'(@⟨i,b,k,H,u',F',Z,u,p,hi⟩);ext s' i b k H;by_cases nq:i=l.length;.cases nq;show W.done H b k s' _ _ Z (G _ _ _ p) F' u λjX oV I=>?_;show Sr ⟨b,k,oV,(D.trans u).trans I,Y b k p⟩
 .have w:i<l.length:=WO hi nq;show W.item i l[i] H b k s' _ _ (Z2 w) Z (G _ _ _ p) F' u λv jX go=>go _ _ λg mq J z M rv=>?_;have c:=z.rJ;show wm (step i l[i] b k g c (Z2 w) p _ mq v (z.toHolds c)<|rv.move kK) λu' gA mz=>bV mz λqq oW N pB=>?_;show wm (pB _ gA oW) λfl j jZ=>iy jZ λe d j8 Q x=>?_;have F7:Fr X e (aJ g++d) j:=j8.mf;have sa:am (aa X<|aJ C++f) o.heap (aa X<|aJ g++d) j.heap:=((((u.trans M).trans kK).trans N).trans Q).trans mo;have A:Inv (i+1) e d->∃m,m<l.length+1-i/\tw X IS Inv l.length (aa X<|aJ C++f) o.heap m j:=λJ9=>ae (l.length+1-(i+1)) ((af 0x6422cc85113c32889e2889e10) w)<|.mk F7 J sa J9 w;have R:d.Sublist (aJ g++d):=VU _ _;have out:Fr X e d j/\am (aa X O) s.heap (aa X d) j.heap:=⟨F7.drop R,(D.trans sa).trans<|F7.f9 R⟩;cases fl with|next=>show A x;|cont=>show A x;|brk=>show⟨e,d,out.1,out.2,x⟩;|ret v=>show aq x ?_;clear x;intro a r q;show⟨e,d,out.1,out.2,a,r.move<|mo.trans<|F7.f9 R,q⟩
abbrev m8(e b:Zw)(i:Nat)(a:ZN):Ze:={cls:=.type "enumerate",dict:=Z4,data:=.fields #[.none,.bool ZX,.ref b,XX (i:Int),.none,a],slots:=#[]}
abbrev kz(l:List AV):List AV:=l.zipIdx.map λx=>.tup [.int x.2,x.1]
def yN{i:Nat}(h:(kz l)[i]?=Z7 b):∃a,l[i]?=Z7 a/\b=.tup [.int i,a]:=by ext l b i;unfold kz at h;replace h:=List.getElem?_zipIdx▸ZQ▸h;cases e:l[i]? with|none=>replace h:=e▸h;cases h;|some a=>replace h:=e▸h;simp at h;show ae a rfl h.symm
def ui(l):(kz l).length=l.length:=by simp[kz]
abbrev yL(e c d:Zw)(i:Nat)(f:List (Zw×Ze)):Prop:=∃a b,f=[(e,m8 e c i a),(c,b)]/\b.cls=.type "list_iterator"/\b.data=.fields #[.ref d,.int i 0]
def Fr.iF(F:Fr X b (aJ a++O) s){q:Zw×Ze}(c:q∈a):s.heap.get? q.1=Z7 q.2:=by show F.dW<|Zk _<|Z0.mpr<|ae q c rfl
def Fr.absent(F:Fr X c O s)(h:s.heap.get? a=Z4):a∉aa X O:=λq=>by show aS (F.ex a q) λo b=>?_;replace b:=h▸b;cases b
def acS{X:Fx}{e d m:Zw}{w:Array ZN}{n:Nat}{l:List AV}{f:List Zw}{g:Xq}{Z:List X7}{c:Nat}{p:Vk}(r:e≠d)(v:m∉f)(hg:g.get? m=Z7 ⟨.type "list",Z4,.seq w n,#[]⟩)(rl:aD f g w.toList l):kj X f g (.Tuple Z c p) (.ref e) (kz l) (λU=>True) (yL e d m)where
 item:=λi av hs ρ O s Q E C y U F D V=>by
  show aq (yN C) λa W G=>?_;revert r v hg rl C y U F D V W G;revert X e d m w n l f g Z c p i av hs ρ O s Q E a;injections X e d m w n l f g Z c;ext p i av hs ρ O s Q E a;subst G;show cR y ?_;clear y;intro h H j3 hc hd;ext h H;subst j3;show aq (rl.get W) λx hx rx=>?_;have Y:IsEnum s.heap e d i h:=F.iF<|.head _;have j:s.heap.IsListIter d m i:=bl H (F.iF<|.tail _<|.head _) hc hd;have hl:s.heap.IsList m w:=bf _ ((D _ _ v hg).2) rfl n rfl;show wpAny_pyNext_enum_item Y j hl (x:=x) (by simpa using hx) r λh' I u hT hsz hk=>?_;show V _ _ λQ2 E2 pq=>?_;show wpAny_letOwnedTupleGo_enum I λJ M k=>?_;show bV u ?_;clear u;intro t N R S;have MY:e<s.heap.objs.size:=Zg Y;have lti:d<s.heap.objs.size:=by show aq j ?_;clear j;intro o I U;show Zg I
  have kk:∀b o,b∉([(e,m8 e d i h),(d,H)]:List (Zw×Ze)).map (·.1)->s.heap.get? b=Z7 o->J.get? b=Z7 o:=λb o A eb=>by simp only[Z3,Y4,Z1,Zn,or_false,not_or]at A;show(k.2 b A.1).trans<|hk b o A.1 A.2 eb
  have RH:=F.hV (s':={s with heap:=J,toks:=s.toks+1}) (hs':=[(e,m8 e d (i+1) x),(d,t)]) kk (λq hq=>by
    simp only[Z1,Zn,or_false]at hq;rcases hq with rfl|rfl;.have:((i+1:Nat):Int)=(i:Int)+1:=ak 0x3b113c36889e15;exists this;show M
    .show(k.2 d<|Xb r).trans N) (λa W=>.inl W) (by simp[r]) F.gens rfl;have nT:s.heap.objs.size∉aa X (aJ [(e,m8 e d (i+1) x),(d,t)]++O):=λq=>by
   show aS (F.ex s.heap.objs.size (by
    show ZI (ce.mp q) (λq=>?_) λq=>?_;.show ce.mpr<|.inl q
    .show ce.mpr<|.inr q)) λo I=>?_;show absurd (Zg I)<|YH _
  show pq [(e,m8 e d (i+1) x),(d,t)] _ (bX x t rfl R S) RH.1 RH.2 (.tup (n:=0) nT ((k.2 _<|Wg MY).trans hT)<|.cons (.int _ _)<|.cons ((rx.move D).move RH.2) .nil)
 done:=λhs ρ O s Q E y U F D V=>by
  show cR y ?_;clear y;intro h H jY hc hd;subst jY;rw[ui]at hd;have Y:IsEnum s.heap e d l.length h:=by have:=F.iF<|.head _;rw[ui]at this;show this
  have j:s.heap.IsListIter d m l.length:=bl H (F.iF<|.tail _<|.head _) hc hd;have hl:s.heap.IsList m w:=bf _ ((D _ _ v hg).2) rfl n rfl;show wpAny_pyNext_enum_end X.hh Y j hl (by have:=rl.size;simp;show(af 0x3420e0410) this) λh' hx=>?_;have:=F.jt (s':={s with heap:=h'}) (λb o A eb=>hx b o (λz=>A<|by simp[z]) eb) F.gens rfl;show V _ this.1 this.2
def E3(Q:bN g=ZX)(hl:Ld X (Z9 "enumerate") (.type "enumerate"))(h:Ev X u O g λa f=>∃l,a=.lst l/\k (kz l) f λR=>True):ch X u O (.Tuple N c p) (.Call (.Name (Z9 "enumerate") H) [g] [] r) k:=by ext g X u O k N c p H r;show(λE s F=>by
 have v:([g]:List X7).any bN=ZX:=by simp[Q]
 have S:bm X u O [g] λI f=>∃l,I=[.lst l]/\k (kz l) f λR=>True:=bm.cons Q<|h.mono λa f z=>bm.nil (by show aq z ?_;clear z;intro l e z;show ae l (<-aW e rfl) z);show Yu<|hl E s H _ F.base<|callWith_type1 (wm (S E s r F) λU d x=>?_) (fU v)<|gr<|by rfl
 obtain⟨I,f,i,j,m,l,e,V⟩:=x;revert F v S i j m e V;ext E s U d I f l;subst e;obtain⟨r1⟩:=m.i1;cases r1.iL with|@mk ad U n w J rl=>
 show call_enumerate_list (bf _ J rfl n rfl) λh' W y hsz M=>?_;show wpAny_pyIter_enum W ?_;show bV y ?_;clear y;intro Y A C D;have n1:d.heap.get? d.heap.objs.size=Z4:=c9 _;have n2:d.heap.get? (d.heap.objs.size+1)=Z4:=X4<|Wn _;have t:Fr X u (aJ []++f) d:=i;have G:=t.hV (s':={d with heap:=h'}) (hs':=[(d.heap.objs.size+1,m8 (d.heap.objs.size+1) d.heap.objs.size 0 .none),(d.heap.objs.size,Y)]) (λb o R e=>M b o e) (λq Z=>by
    simp only[Z1,Zn,or_false]at Z;rcases Z with rfl|rfl;.show W
    .show A) (λa ha=>by
    simp only[Z3,Y4,Z1,Zn,or_false]at ha;rcases ha with rfl|rfl;.show .inr n2
    ·show .inr n1) (by simp) i.gens rfl;show⟨kz l,_,yL (d.heap.objs.size+1) d.heap.objs.size ad,_,f,acS (Nat.succ_ne_self _) (G.2 _ _ w J).1 (G.2 _ _ w J).2<|rl.move G.2,(bX (.none) Y rfl C D),G.1,j.trans G.2,V⟩)
section
variable{K:Type}[DecidableEq K]{w:Yg}
class inductive PR(g:Zw->Option Ze):List (K×ZN)->List (K×AV)->Prop|nil:PR g [] []|cons{k v a r r'}:cJ g v a->PR g r r'->PR g ((k,v)::r) ((k,a)::r')
section
variable{g:Zw->Option Ze}{k:K}{v:ZN}{a:AV}{bZ:List (K×ZN)}{aI:List (K×AV)}
def PR.mono{b:Zw->Option Ze}(c:∀a o,g a=Z7 o->b a=Z7 o)(h:PR g bZ aI):PR b bZ aI:=by induction h with|nil=>show .nil;|cons x _ d=>show .cons (x.mono c) d
def PR.length(h:PR g bZ aI):bZ.length=aI.length:=by induction h with|nil=>rfl;|cons _ _ a=>show congrArg (·+1) a
def PR.get(h:PR g bZ aI){i:Nat}(e:aI[i]?=Z7 (k,a)):∃v,bZ[i]?=Z7 (k,v)/\cJ g v a:=by induction h generalizing i with|nil=>cases e;|cons x _ b=>cases i with|zero=>cases e;show ae _ rfl x;|succ i=>show b e
abbrev bg(a:List (K×AV))(k:K):Option AV:=(a.find? λx=>x.1=k).map (·.2)
def PR.at(h:PR g bZ aI)(x:K):(bg aI x=Z4/\Uo bZ x=Z4)\/∃v a,bg aI x=Z7 a/\Uo bZ x=Z7 v/\cJ g v a:=by induction h with|nil=>show .inl ⟨rfl,rfl⟩;|@cons k _ _ _ _ y _ b=>
  unfold bg Uo at b⊢;exists P6,P6;cases decide (k=x);.show b
  .show .inr<|bX _ _ rfl rfl y
def PR.some{x:K}{v:ZN}(h:PR g bZ aI)(d:Uo bZ x=Z7 v):∃a,bg aI x=Z7 a/\cJ g v a:=by
 show ZI (h.at x) (λb=>aE b λi e=>?_) λc=>cR c λj a f e r=>?_;.cases e.symm.trans d
 .cases e.symm.trans d;show ae a f r
def PR.none{x:K}(h:PR g bZ aI)(f:Uo bZ x=Z4):bg aI x=Z4:=by
 show ZI (h.at x) (λb=>aE b λe d=>?_) λc=>cR c λi a d e d=>?_;.show e
 .cases e.symm.trans f
def PR.isSome{x:K}(h:PR g bZ aI)(b:(bg aI x).isSome=ZW):(Uo bZ x).isSome=ZW:=by
 show ZI (h.at x) (λc=>aE c λe f=>?_) λd=>cR d λi a f e f=>?_;.replace b:=e▸b;cases b
 .exists e;rfl
def PR.snoc(q:cJ g v a)(h:PR g bZ aI):PR g (bZ++[(k,v)]) (aI++[(k,a)]):=by induction h with|nil=>show .cons q .nil;|cons x _ b=>show .cons x b
abbrev dQ(a:List (K×AV))(k:K):List (K×AV):=a.filter λx=>decide<|x.1≠k
def PR.without(h:PR g bZ aI):PR g (without bZ k) (dQ aI k):=by unfold PySem.without dQ;induction h with|nil=>show .nil;|@cons y _ _ _ _ x _ a=>
  exists XV,XV;cases decide (y≠k);.show a
  .show .cons x a
abbrev ll(b:List (K×AV))(k:K)(a:AV):List (K×AV):=if b.any (λx=>x.1=k)then b.map (λx=>if x.1=k then(x.1,a)else x)else b++[(k,a)]
def PR.any(h:PR g bZ aI):(bZ.any λx=>x.1=k)=aI.any λx=>x.1=k:=by induction h with|nil=>rfl;|cons _ _ a=>exists YB,YB;show aW a rfl
def PR.map(q:cJ g v a)(h:PR g bZ aI):PR g (bZ.map λx=>if x.1=k then(x.1,v)else x) (aI.map λx=>if x.1=k then(x.1,a)else x):=by induction h with|nil=>show .nil;|@cons y _ _ _ _ x _ b=>
  exists Z3,Z3;by_cases z:y=k;.exists if_pos z,if_pos z;show .cons q b
  .exists if_neg z,if_neg z;show .cons x b
end
def PR.stored{g:Zw->Option Ze}{k:K}{v:ZN}{a:AV}(q:cJ g v a){b:List (K×ZN)}{c:List (K×AV)}(h:PR g b c):PR g (stored b k v) (ll c k a):=by
 unfold PySem.stored ll;exists h.any (k:=k);split;.show h.map q
 .show h.snoc q
abbrev dP(b:KeyKind pw w K)(c:List (K×AV)):(Zw->Option Ze)->Ze->Prop:=λg o=>∃a,o.IsDictOf b a/\PR g a c
def o9{b:KeyKind pw w K}{c:List (K×AV)}:∀g d o,(∀a o,g a=Z7 o->d a=Z7 o)->dP b c g o->dP b c d o:=λg d o h e=>aq e λf i j=>ae f i<|j.mono h
abbrev yz(b:KeyKind pw w K)(c:List (K×AV)):(Zw->Option Ze)->ZN->Prop:=λg v=>∃a o,v=.ref a/\(a==Vt)=ZX/\g a=Z7 o/\dP b c g o
abbrev ix(a:KeyKind pw w K)(b:List (K×AV)):AV:=.ext<|yz a b
def HM{b:KeyKind pw w K}{c:List (K×AV)}:mL (yz b c):=λg j v f d=>pd d λa o e n h i=>kM a o e n (f a o h)<|o9 _ _ _ f i
abbrev DV(b:KeyKind pw w K)(O:ag)(a:AV)(c:List (K×AV)):Prop:=(∃d P,a=.ref d/\(d,az.ext P)∈O/\∀g o,P g o->dP b c g o)\/a=ix b c
def sE(h:(ar P).get? a=Z4):(a==Vt)=ZX:=by rw[beq_eq_false_iff_ne];rintro rfl;have p:((ar P).get? Vt).isSome=ZW:=⋯;replace p:=h▸p;cases p
structure iQ(knd:KeyKind pw w K)(bY:K->AV):Prop where
 to:∀D h v k,aB D h v (bY k)->knd.is k v=true
 of:∀D h v k,knd.is k v=true->aB D h v (bY k)
def rS(w):iQ (Zz pw w) AV.str:=⟨λD h v k r=>by cases r.iS;simp[Zz,Py],λD h v k e=>by show aS (Ux e) λt a=>?_;exists a;show .str _ _⟩
def AE(w):iQ (W7 pw w) AV.int:=⟨λD h v k r=>by cases r.iI;simp[W7,Value.isInt],λD h v k e=>by show aS (Value.isInt_shape e) λt a=>?_;exists a;show .int _ _⟩
end
section
variable{X:Fx}{ρ:Loc}{O O':ag}{s s':ZL}{E:ZN->ZL->Prop}{k:AV->ag->Prop}{K:Kn}{pos px ir:Vk}
variable{κ:Type}[DecidableEq κ]{knd:KeyKind pw X.w κ}{bY:κ->AV}{aI:List (κ×AV)}
def Fr.sR{v:ZN}{a:AV}(F:Fr X ρ O s)(r:aB (aa X O) s.heap v a)(h:DV knd O a aI):∃b o,v=.ref b/\(b==Vt)=ZX/\s.heap.get? b=Z7 o/\dP knd aI (cv (aa X O) s.heap) o:=by
 rcases h with⟨d,P,rfl,f,g⟩|rfl;.cases r.iR;show aq (F.kC f) λo i z=>?_;show kM d o rfl (sE (F.own _ f).a4) i<|g _ _ z
 .cases r.iX with|mk m p=>
   show pd p ?_;clear p;intro b o e n c h;exists e;show kM b o rfl n ?_ h;unfold cv at c;split at c;.cases c
   .show c
def tp(h:∀a,a∉O.map (·.1)->k (.ref a) ((a,.ext (dP knd []))::O)):Ev X ρ O (.Dict [] [] pos) k:=λE s F=>by show wpAny_Dict_empty ?_;have b:=F.alloc (o:={cls:=.type "dict",data:=.dict #[]}) (ao:=.ext<|dP knd []) (tk:=s.toks) rfl<|nt o9 ([]) (lX (#[]) 0 (br rfl rfl rfl) rfl (λc d=>by simp at d) Pairs.nil XY)<|.nil;show⟨_,_,b,(jp<|c9 s.heap).trans<|am.of λc c e=>ZT _ e,.ref _,h _ λq=>F.fresh<|aL.mpr<|.inl q⟩
def Ep(m:iQ knd bY){a b:AV}{x:κ}(p:DV knd O a aI)(h:k ((bg aI x).getD b) O):ax X ρ O (.builtin "dict.get") [a,bY x,b] k:=λE s A F R=>by
 replace R:=R.i3;obtain⟨r,t,u⟩:=R;obtain⟨j,o,c,n,w,d,hd,y⟩:=F.sR r p;exists c;have l:s.heap.DictOf knd j d:=VD.mpr<|ae o w hd;show QO UZ l.typeIs SH (PySem.F.args_dict_get_3 _ _ _) (meets_dict_get_default knd j (m.to _ _ _ _ t) n _)<|ae _ l.mapOf ?_;show ZI (y.at x) (λe=>aE e λf g=>?_) λi=>cR i λv C f g z=>?_;.exists g;replace h:=f▸h;show .done F (.tok _ _) u h
 .exists g;replace h:=f▸h;show .done F (.tok _ _) z.up h
def adI{m:Wx}{w:Yg}{t:Type}[DecidableEq t]{c:KeyKind m w t}{A:YM}{d:Zw}{f:List (t×ZN)}{k:t}{p g:ZN}{Q:ZN->ZL->Prop}(h:c.is k p=ZW)(O:s.heap.DictOf c d f)(R:∀v,Uo f k=Z7 v->Q v {s with toks:=s.toks+1})(S:Uo f k=Z4->∀y,y.DictOf c d (f++[(k,g)])->YG d s.heap y->Q g {s with heap:=y,toks:=s.toks+1})(z:f.length<=Zo):ZE (model m w) A (dictSetDefault d p g) Q E s:=by
 obtain⟨o,j,U,u,V,hd,J,x,W⟩:=O;have C:j.size<=Zo:=by
  have X:=x.length;have Y:j.toList.length=j.size:=by simp
  show(ay 0xc087a19341260414) z X Y
 show Zy ?_;show Z8<|c.pyHash h ?_;show Z8<|wpAny_dictFind_of (s:={s with toks:=s.toks+1}) h u hd J ?_;have r:(j.findIdx? λe=>c.is k e.key)=f.findIdx? λD=>decide (D.1=k):=by exists ZJ<|x.findIdx k;obtain⟨l⟩:=j;simp
 cases M:j.findIdx? λe=>c.is k e.key with
 |some i=>
  have Z:(j.toList.findIdx? λe=>c.is k e.key)=Z7 i:=by exists ZJ M;obtain⟨l⟩:=j;simp
  show bV (x.at Z) λe he hek F=>?_;show Z8<|wpAny_dictEntries (s:={s with toks:=s.toks+1}) u hd ?_;have G:j[i]?=Z7 e:=by exists ZJ he;obtain⟨l⟩:=j;simp
  exists G;show Z8<|WM<|Z5<|R _ F;|none=>
  have n:k∉f.map (·.1):=not_mem_of_findIdx_none<|r▸M;have H:Uo f k=Z4:=by unfold Uo;rw[Option.map_eq_none_iff,List.find?_eq_none];intro D I q;show n<|Z0.mpr<|ae D I<|of_decide_eq_true q
  show Z8<|WM<|Z8<|wpAny_updateDictKeys (hz:=C) (s:={s with toks:=s.toks+1}) u hd<|Z5<|S H _ ⟨_,_,U+1,YA _ u<|Obj.isFreed_of_dict<|RR hd _,V.mapDictKeys _,RR hd _,J.push h _,?_,?_⟩<|YN ..;.have:=x.append h (c.hash k) g;obtain⟨l⟩:=j;simpa using this
  .rw[ZF,YT];show br W (by simp) ?_;intro a ha b N;simp only[Z3,Y4,ZM]at N;exists N;showλe=>n<|e▸ha
inductive EJ(knd:KeyKind pw X.w κ)(aI:List (κ×AV))(d:Zw)(g:Zw->Option Ze)(s:ZL):Prop|mk(bZ:List (κ×ZN))(n:(d==Vt)=false)(hD:s.heap.DictOf knd d bZ)(hsz:bZ.length<=Zo)(pr:PR g bZ aI)
def Fr.yD{d:Zw}(F:Fr X ρ O s)(b:(d,az.ext (dP knd aI))∈O)(e:aI.length<=4000):EJ knd aI d (cv (aa X O) s.heap) s:=by obtain⟨o,f,a,hd,c⟩:=F.kC b;show⟨a,sE (F.own _ b).a4,VD.mpr<|ae o f hd,by exists c.length,Zx;show(ak 0xc061e811e1c060180601845e10) e,c⟩
def Fr.uf{d:Zw}{a:List (κ×AV)}{c:List (κ×ZN)}{f:Xq}{tk:Nat}(F:Fr X ρ O s)(i:(d,az.ext (dP knd aI))∈O)(j:YG d s.heap f)(k:f.DictOf knd d c)(l:PR (cv (aa X O) s.heap) c a):Fr X ρ (aK O d (.ext (dP knd a))) {s with heap:=f,toks:=tk}/\am (aa X O) s.heap (aa X (aK O d (.ext (dP knd a)))) f:=by show aq (VD.mp k) λn g h=>?_;show⟨F.update (ao:=.ext<|dP knd a) (tk:=tk) i j g<|nt o9 _ h l,F.er (ao:=.ext<|dP knd a) i λb o m e=>(j.2 b m).trans e⟩
def EA(l:iQ knd bY){d:Zw}{x:κ}{a:AV}(i:(d,az.ext (dP knd aI))∈O)(m:aI.length<=4000)(o:∀b,bg aI x=Z7 b->k b O)(p:bg aI x=Z4->k a (aK O d (.ext (dP knd (aI++[(x,a)]))))):ax X ρ O (.builtin "dict.setdefault") [.ref d,bY x,a] k:=λE s A F R=>by
 replace R:=R.i3;obtain⟨r,t,j⟩:=R;obtain⟨u,n,c,e,f⟩:=F.yD i m;cases r.iR;show YC UD c.typeIs PySem.F.entry_dict_setdefault ?_<|PySem.F.args_dict_setdefault_3 _ _ _;show Z8 ?_;show Z8<|wpAny_notOrdered_dict c.typeIs ?_;show Z5 ?_;show(?_:ZE _ _ (if(d==Vt)=ZW then _ else(dictSetDefault d _ _>>=_)) _ _ s);exists(if_neg (by show aW n ?_;show Y6));show Z8<|adI (l.to _ _ _ _ t) c (λv g=>Z5<|ae v rfl ?_) (λg C h w=>Z5<|ae _ rfl ?_) e;.show aq (f.some g) λG y z=>?_;show .done F (.tok _ _) z.up<|o _ y
 .have D:=F.uf (tk:=s.toks+1) i w h<|f.snoc<|cJ.of j;show⟨a,_,D.1,D.2,j.move D.2,p<|f.none g⟩
inductive mB(knd:KeyKind pw X.w κ)(bY:κ->AV)(b c:AV)(O:ag)(P:Zw->κ->List (κ×AV)->Prop):Prop|mk(d:Zw)(x:κ)(aI:List (κ×AV))(e1:b=.ref d)(e2:c=bY x)(hm:(d,az.ext (dP knd aI))∈O)(hz:aI.length<=4000)(h:P d x aI)
inductive EK(X:Fx)(ρ:Loc)(O:ag)(knd:KeyKind pw X.w κ)(bY:κ->AV)(P:ag->Zw->κ->List (κ×AV)->Prop)(s eo:ZL)(iv:ZN)(d:Zw):Prop|mk(ki:ag)(x:κ)(aI bZ)(F:Fr X ρ ki eo)(st:am (aa X O) s.heap (aa X ki) eo.heap)(hk:knd.is x iv=true)(hm:(d,az.ext (dP knd aI))∈ki)(hD:eo.heap.DictOf knd d bZ)(hsz:bZ.length<=Zo)(pr:PR (cv (aa X ki) eo.heap) bZ aI)(h:P ki d x aI)
def mB.rd(D:iQ knd bY){y:X7}{P:ag->Zw->κ->List (κ×AV)->Prop}{A:ZN}{f:ZL}(z:bP X ρ O s (λb g=>Ev X ρ g y λc a=>mB knd bY b c a (P a)) A f){R:ZN->ZL->Prop}(h:∀t e d,A=.ref d->EK X ρ O knd bY P s e t d->R t e):ZE (model pw X.w) X.A (eval y X.env) R E f:=by show ba z ?_;clear z;intro b g l j m o;show wm (o _ f l) λt e p=>?_;obtain⟨c,a,i,k,r,d,x,u,F,G,C,H,I⟩:=p;obtain⟨v,n,J,w,M⟩:=i.yD C H;show h t e d (F▸m).iR ⟨a,x,u,v,i,j.trans k,D.to _ _ _ _<|G▸r,C,J,w,M,I⟩
def Fn(w:iQ knd bY){n o:X7}{a:AV}{p:Loc->ag->Prop}(h:Ev X ρ O n λb g=>Ev X ρ g o λc f=>mB knd bY b c f λd x aI=>p ρ (aK f d (.ext (dP knd (ll aI x a))))):cK X ρ O (.Subscript n o px) a p:=λE s v F r=>by rw[assign_Subscript];show Z8<|Zy<|wm (h _ s F) λM t z=>Z8<|Zy<|mB.rd w z λN i d e j=>?_;exists e;obtain⟨f,x,aI,y,k,u,A,C,G,l,H,I⟩:=j;show Z8<|YO<|Z8<|Zy<|wpAny_setItem_pairs A G (λQ m J=>Tw ?_) l;have D:=k.uf (tk:=i.toks+1) C J m<|H.stored<|cJ.of<|r.move u;show bX ρ _ D.1 (u.trans D.2) I
def EL(u:iQ knd bY){o p:X7}(h:Ev X ρ O o λb f=>Ev X ρ f p λc a=>mB knd bY b c a λd x aI=>(bg aI x).isSome=ZW/\K.nx ρ (aK a d (.ext (dP knd (dQ aI x))))):Es X ρ O (.Delete [.Subscript o p px] pos) K:=λE s F=>by
 show wpAny_Delete<|wpAny_deleteEach_cons<|delete_Subscript<|wm (h _ s F) λH r z=>mB.rd u z λI g d e i=>?_;exists e;obtain⟨a,x,aI,l,j,v,w,y,k,m,t,A,C⟩:=i;show Zy ?_;show Z8<|TK k.typeIs (by decide) ?_;show Z8 (Yp (name:=Z9 "__delitem__") k.typeIs TS (QO TS k.typeIs PySem.F.entry_dict_delitem (PySem.F.args_dict_delitem_2 _ _) (meets_dict_delitem_pairs knd d w)<|db l k m (t.isSome A) λJ n G=>?_));have D:=j.uf (tk:=g.toks+1) y G n t.without;show Z5<|wpAny_deleteEach_nil ⟨ρ,_,D.1,v.trans D.2,C⟩
end
def DF:Pw "method_descriptor" (Z9 "__get__") "method_descriptor.__get__":=.of (owner:="method_descriptor") (n:="__get__") (by rw[Y0,Zl];kernel_rfl) dk dk dk (by first|show .inl dk|show .inr dk) (by rw[Xh];kernel_rfl)
def Ik:UI table "method_descriptor.__get__"=Z7 XF.«method_descriptor.__get__»:=Wr ⋯
def FO(a b c):SJ "method_descriptor.__get__" ⟨[a,b,c],[]⟩:=by unfold SJ;kernel_rfl
def MB:X6 (.type "method_descriptor") (Z9 "__set__")=pure Z4:=by rw[Y0,Zl];kernel_rfl
def MA:X6 (.type "method_descriptor") (Z9 "__delete__")=pure Z4:=by rw[Y0,Zl];kernel_rfl
def Mz:X6 (.type "dict") (Z9 "get")=pure (Z7 (.builtin "dict.get")):=by rw[Y0,Zl];kernel_rfl
abbrev f5(b:String)(a:Zw):Ze:={cls:=.type "builtin_function_or_method",data:=.fields #[.builtin b,.ref a]}
def ab5(e:(kfb_private%"ownerAndName") b=(T,n))(f:s.TypeIs (.ref a) T)(d:V6 (.type T) (.type T)=pure ZW)(c:WG.contains b=ZX)(h:P (.done (.ret (.ref s.heap.objs.size))) {s with heap:=s.heap.push (f5 b a)}):ZE M A (XF.«method_descriptor.__get__» ⟨[.builtin b,.ref a,.type T],[]⟩) P E s:=by show Z8<|Zd (a:=(.builtin b,Z7<|.ref a,Z7<|.type T)) (by first|rfl|kernel_rfl) ?_;dsimp only;exists c;simp only[YF,if_false];show Z8 ?_;show Z8<|Zd (a:=((Z9 n),Zb T)) (by change pure (Z9 ((kfb_private%"ownerAndName") b).2,Zb ((kfb_private%"ownerAndName") b).1)=_;show aW e rfl) ?_;show Z8<|Wq f d ?_;simp only[Pt,YF,if_false];show Z5 ?_;show Z8<|XC<|Z5 h
def aa5:(kfb_private%"ownerAndName") "dict.get"=("dict","get"):=by first|decide+kernel|kernel_rfl
def aa7:(kfb_private%"ownerAndName") "set.__contains__"=("set","__contains__"):=by first|decide+kernel|kernel_rfl
def MC:X6 (.type "set") (Z9 "__contains__")=pure (Z7 (.builtin "set.__contains__")):=by rw[Y0,Zl];kernel_rfl
def ads:Uc (.builtin "set.__contains__")=pure (.type "method_descriptor"):=by show(?_:builtinType _=_);exists builtinType_eq_fast;kernel_rfl
def acN:V6 (.type "dict") (.type "dict")=pure ZW:=by rw[Xh];kernel_rfl
def ac9:WG.contains "dict.get"=ZX:=dk
def adb:WG.contains "set.__contains__"=ZX:=dk
def I0(u:s.heap.get? a=Z7 o)(x:o.cls=.type T)(y:o.dict=Z4)(g:(∃i k,o.data=.dict i k)\/∃i k t,o.data=.set i k t)(n:X6 (.type T) name=pure (Z7 (.builtin f)))(p:Uc (.builtin f)=pure (.type "method_descriptor"))(e:(["__module__","__name__","__qualname__","__doc__","__annotations__"]:List ZD).contains name=ZX)(h:Q (.bind (.builtin "method_descriptor.__get__") (.builtin f)) s):ZE (model b w) A (Pp (.ref a) (.type T) name) Q E s:=by
 ext o T name f Q b w A a E s;have r:s.TypeIs (.builtin f) "method_descriptor":=p;have z:=DF.lookup;have C:=MB;have D:=MA;obtain⟨c,F,G,H⟩:=o;simp only at x y g;subst x y;show Z8<|Zd n ?_;show Z8<|VC r z ?_;show Z8 ?_;show Z8 ?_;show Z8<|VC r C ?_;simp only[T9,YF,if_false];show Z8<|VC r D<|Z5 ?_;simp only[T9,YF,if_false];show Z5 ?_;show Z8 ?_;show Z8 ?_;have j:ZE (model b w) A (instanceDict a ZX) (λd l=>ZE (model b w) A (PD name d) (λv m=>ZE (model b w) A (match v with|some v=>do rule "getattr.instance-dict";pure (Qv v);|none=>do V0 name (.ref a);Qk (Z7<|.builtin f) (Z7<|.builtin "method_descriptor.__get__")) Q E m) E l) E s:=by show Z8<|RQ u ?_;show Z5<|Z5 ?_;show Z8 ?_;unfold V0;dsimp only;exists(if_neg (by show aW e ?_;show Y6));show Z5 ?_;show Z8<|WM<|Z5 h
 show Z8<|RQ u ?_;rcases g with⟨i,k,rfl⟩|⟨i,k,t,rfl⟩;.show j
 .show j
def ab4(p:s.heap.get? a=Z7 o)(r:o.cls=.type T)(x:o.dict=Z4)(j:(∃l k,o.data=.dict l k)\/∃l k t,o.data=.set l k t)(m:X6 (.type T) name=pure (Z7 (.builtin d)))(f:Uc (.builtin d)=pure (.type "method_descriptor"))(g:(kfb_private%"ownerAndName") d=(T,n))(i:V6 (.type T) (.type T)=pure ZW)(b:WG.contains d=ZX)(c:(["__module__","__name__","__qualname__","__doc__","__annotations__"]:List ZD).contains name=ZX)(h:P (.done (.ret (.ref s.heap.objs.size))) {s with heap:=s.heap.push (f5 d a)}):ZE (model e w) A (XF.«object.__getattribute__» ⟨[.ref a,.str name u],[]⟩) P E s:=by have v:s.TypeIs (.ref a) T:=ae o p r;have y:s.TypeIs (.builtin d) "method_descriptor":=f;show Z8<|Zd (a:=(Zr a,[QB name u])) (by first|rfl|kernel_rfl) ?_;show Z8<|Zd (a:=name) (by first|rfl|kernel_rfl) ?_;show Z8<|Um v ?_;show Z8<|I0 p r x j m f c ?_;show Z8<|Zy<|YC DF y Ik (ab5 g v i b<|ae _ rfl ?_)<|FO _ _ _;show Z5 h
def zG(z:s.heap.get? a=Z7 o)(C:o.cls=.type T)(F:o.dict=Z4)(p:(∃r k,o.data=.dict r k)\/∃r k t,o.data=.set r k t)(u:X6 (.type T) name=pure (Z7 (.builtin f)))(v:Uc (.builtin f)=pure (.type "method_descriptor"))(g:(kfb_private%"ownerAndName") f=(T,n))(i:V6 (.type T) (.type T)=pure ZW)(b:WG.contains f=ZX)(c:(["__module__","__name__","__qualname__","__doc__","__annotations__"]:List ZD).contains name=ZX)(d:Pw T "__getattribute__" m)(j:UI table m=Z7 XF.«object.__getattribute__»)(l:∀x y,SJ m ⟨[x,y],[]⟩)(h:Q (.ref s.heap.objs.size) {s with heap:=s.heap.push (f5 f a),toks:=s.toks+1}):ZE (model e w) A (RB (.ref a) name ZW) Q E s:=by have D:∀G,({s with toks:=G}:ZL).TypeIs (.ref a) T:=λH=>ae o z C;show Z8<|wpAny_mkText ?_;show Zy ?_;show Z8<|Um (D _) ?_;show Z8<|Zd d.lookup ?_;dsimp only;exists(if_neg (by show aW (show onTheHeap (Zb T)=ZX from rfl) ?_;show Y6));show Z8<|Z5 ?_;show Z8<|V5<|Zy ?_;unfold callGetattribute;exists(if_neg (by rw[show onTheHeap (Xx m)=ZX from rfl,PM];show Y6));show Z8<|Zd (d.bind _) ?_;show YC d (D _) j (ab4 (s:={s with toks:=s.toks+1}) z C F p u v g i b c<|ae _ rfl ?_)<|l _ _;show Zd (a:=Zr s.heap.objs.size) (by first|rfl|kernel_rfl) h
def acM:V6 (.type "dict") (.type "module")=pure ZX:=by rw[Xh];kernel_rfl
def Hq(a x y):(match VS "dict.get"with|some b=>RP "dict.get" {b with full:=toString (UH "dict")++toString "."++toString (UH "dict.get")} ⟨[a,x,y],[]⟩|none=>pure ())=pure ():=⋯
def Hr(a x):(match VS "set.__contains__"with|some b=>RP "set.__contains__" {b with full:=toString (UH "set")++toString "."++toString (UH "set.__contains__")} ⟨[a,x],[]⟩|none=>pure ())=pure ():=⋯
def acQ:V6 (.type "set") (.type "module")=pure ZX:=by rw[Xh];kernel_rfl
def yn{id T:String}(m:s.heap.get? a=Z7 o)(r:o.cls=.type T)(i:(∃f k,o.data=.dict f k)\/∃f k t,o.data=.set f k t)(u:V6 (.type T) (.type "module")=pure ZX)(v:Vp id=Z7 .method)(y:Vo.contains id=ZX)(c:(match VS id with|some g=>RP id {g with full:=toString (UH T)++toString "."++toString (UH id)} ⟨.ref a::rest,[]⟩|none=>pure ())=pure ())(h:Q () s):ZE (model d w) A (T8 id ⟨.ref a::rest,[]⟩) Q E s:=by ext o Q d w A a rest E s id T;have n:s.TypeIs (.ref a) T:=ae o m r;unfold T8;cases e:VS id with|none=>show Z5 h;|some g=>
  replace c:=e▸c;dsimp only at c⊢;exists v;dsimp only;exists(if_neg<|by decide);show Z8<|Wq n u ?_;exists y,(if_neg<|by decide);show Z8 ?_;show XT (Q:=λb p=>b=ZX/\p=s) ?_ ?_ λC C x=>x;.show Z8<|RQ m ?_;show ZI i (λj=>fK j λf k z=>?_) (λl=>Ig l λf k t z=>?_)<;>rw[z]<;>show Z5 ⟨rfl,rfl⟩
  .rintro b p⟨rfl,rfl⟩;exists if_neg Y6;show Z8<|Um n ?_;show Zd c h
def LO:Vp "dict.get"=Z7 .method:=by first|decide+kernel|kernel_rfl
def LP:Vp "set.__contains__"=Z7 .method:=by first|decide+kernel|kernel_rfl
def adA:Vo.contains "dict.get"=ZX:=dk
def adB:Vo.contains "set.__contains__"=ZX:=dk
def yh(p:s.heap.get? b=Z7 (f5 g a))(f:plainId g=ZW)(i:UI table g=Z7 k)(l:∀n:Unit->ZL->Prop,n () s->ZE (model c w) A.in1 (T8 g ⟨.ref a::d,[]⟩) n E s)(h:ZE (model c w) A.in1 (k ⟨.ref a::d,[]⟩) (λj o=>∃v,j=.done (.ret v)/\Q v o) E s):ZE (model c w) A (call (.ref b) d) Q E s:=by ext g a k s c w d E Q A b;show Xs<|VF ?_;show Z8<|SK p ?_;show(?_:ZE _ _ (if(Zb "builtin_function_or_method"==Zb "method"||Zb "builtin_function_or_method"==Zb "builtin_function_or_method"||Zb "builtin_function_or_method"==Zb "method-wrapper")=ZW then _ else _) _ _ _);exists(if_pos<|by decide);show(?_:ZE _ _ (if(Zb "builtin_function_or_method"!=Zb "method")=ZW then _ else _) _ _ _);exists(if_pos<|by decide);show Z8<|wm (l _ ?_) λr r x=>x;show Z8<|Z5<|Z5 ⟨Tv f _,VB i ?_⟩;exists VY f _;show wm h (λj o m=>aq m λv e q=>by exists e;show q)
abbrev yg(c:String)(self:AV):(Zw->Option Ze)->ZN->Prop:=λg v=>∃a b,v=.ref a/\g a=Z7 (f5 c b)/\cJ g (.ref b) self
abbrev fG(a:String)(self:AV):AV:=.ext<|yg a self
def G0:mL (yg d self):=λg j v c b=>cR b λa f e h i=>bX a f e (c _ _ h)<|i.mono c
section
variable{X:Fx}{ρ:Loc}{O O':ag}{s s':ZL}{E:ZN->ZL->Prop}{k:AV->ag->Prop}{K:Kn}{pos px ir:Vk}
variable{κ:Type}[DecidableEq κ]{knd:KeyKind pw X.w κ}{bY:κ->AV}{aI:List (κ×AV)}
def uc{o:Ze}{a:List (κ×ZN)}(h:o.IsDictOf knd a):o.cls=.type "dict"/\o.dict=Z4/\∃b k,o.data=.dict b k:=by show cR h ?_;clear h;intro b d c e f;show dt c λg i f=>?_;show⟨g,i,b,d,e⟩
def y4(F:Fr X ρ O s)(r:aB (aa X O) s.heap (.ref a) self)(h:k (fG b self) O):bP X ρ O s k (.ref s.heap.objs.size) {s with heap:=s.heap.push (f5 b a),toks:=c}:=by have g:=c7.push s (f5 b a) c;have d:aB (aa X O) (s.heap.push<|f5 b a) (.ref a) self:=r.keeps λf f e=>ZT _ e;show⟨_,O,F.grow g,g.jW,.ext G0<|bX _ a rfl ?_<|cJ.of d,h⟩;unfold cv;exists if_neg F.fresh;show Zu _ rfl
def Ev.dictGet{e:X7}(h:Ev X ρ O e λa b=>∃aI,DV knd b a aI/\k (fG "dict.get" a) b)(j:eval (.Attribute e (Z9 "get") pos) X.env=(do let o<-eval e X.env;W1 pos.atName;let r<-holding [o] (RB o (Z9 "get") ZW);Va e o r;pure r)):Ev X ρ O (.Attribute e (Z9 "get") pos) k:=λE s F=>by show Attribute_any_ (wm (h E s F) λv i z=>ba z λa b c f d z=>aq z λaI l m=>?_) j;obtain⟨A,o,g,n,p,t,hd,C⟩:=c.sR d l;subst g;show dt (uc hd) λu w x=>?_;show zG p u w (.inl x) Mz Sm aa5 acN ac9 dk PySem.F.slot_dict_getattribute am_entry_dict_getattribute (λy y=>PySem.F.args_dict_getattribute_2 _ _)<|.from f<|y4 c d m
def ES(h:Ev X ρ O e λa b=>∃S,a=eU w S/\k (fG "set.__contains__" a) b)(A:eval (.Attribute e (Z9 "__contains__") pos) X.env=(do let o<-eval e X.env;W1 pos.atName;let r<-holding [o] (RB o (Z9 "__contains__") ZW);Va e o r;pure r)):Ev X ρ O (.Attribute e (Z9 "__contains__") pos) k:=by ext X ρ O k pos e w;show(λE s F=>by show Attribute_any_ (wm (h E s F) λv x z=>ba z λa b g d c z=>aq z λS C D=>?_) A;subst C;have f:=c;cases c.iX with|mk m p=>
  show m6 p ?_;clear p;intro J o n j i M y;subst j;show pc y ?_;clear y;intro l N Q t G u;show dt l λH I u=>?_;unfold cv at i;split at i;.cases i
  .show zG i H I (.inr<|At _ _ _ G) MC ads aa7 P5 adb dk PySem.F.slot_set_getattribute PySem.F.entry_set_ga (λu u=>PySem.F.args_set_getattribute_2 _ _)<|.from d<|y4 g f D)
end
def G8{id:String}(b:args.any (·.1)=ZX)(h:ZE M A (evalArgs (.ref u) ZW args []) (λx a=>a.heap.get? u=Z7 (f5 id sa)/\ZE M A (call (.ref u) ([]++x.pos) x.kw) Q E a) E s):ZE M A (UJ e (.ref u) [] args []) Q E s:=by show Z8<|Zy<|wm h λx a c=>Z8<|YO ?_;show aE c ?_;clear c;intro g d;exists b;show Z8 (m:=keeperOf<|.ref u) ?_;show Z8<|SK g ?_;dsimp only[f5];exists(if_pos<|by decide);show Z5 ?_;show Z8<|wm d λr f i=>Z8<|Zy<|wpAny_point<|Z5 i
def G7{id:String}{b:Ri}(h:ZE M A (spliced (WR c (Yd (e::a) b))) (λg f=>f.heap.get? u=Z7 (f5 id sa)/\ZE M A (call (.ref u) g) Q E f) E s)(i:Yd (e::a) b=(ZX,eval e b)::Yd a b)(d:(WR c (Yd a b)).any (·.1)=ZX):ZE M A (UJ c (.ref u) [] (WR c (Yd (e::a) b)) []) Q E s:=by rw[i]at h⊢;show G8 (id:=id) (sa:=sa) (by show(?_:(ZX||(WR c<|Yd a b).any (·.1))=ZX);exists d;rfl) ?_;show UK h
section
variable{X:Fx}{ρ:Loc}{O O':ag}{s s':ZL}{E:ZN->ZL->Prop}{k:AV->ag->Prop}{K:Kn}{pos px ir:Vk}
variable{κ:Type}[DecidableEq κ]{knd:KeyKind pw X.w κ}{bY:κ->AV}{aI:List (κ×AV)}
def G1{b:Wx}{w:Yg}{A:YM}{E:ZN->ZL->Prop}{s:ZL}{f:Type}[DecidableEq f]{d:KeyKind b w f}{S:f->Bool}{n:Nat}{x:f}{a:Zw}{e:ZN}{Q:ZN->ZL->Prop}(c:d.is x e=ZW)(g:e.scannable=ZW)(j:s.heap.SetOf d a S n)(h:Q (.bool (S x)) {s with toks:=s.toks+1}):ZE (model b w) A (XF.«frozenset.__contains__» ⟨[.ref a,e],[]⟩) (λi s'=>∃v,i=.done (.ret v)/\Q v s') E s:=by
 unfold XF.«frozenset.__contains__» T7;simp only[Qu,bind_assoc];show Z8 (Z5 ?_);try dsimp only
 show Z8 (Z5 ?_);try dsimp only
 show Z8<|RO ?_;show Zy ?_;show Z8<|d.pyHash c ?_;show Z8<|wpAny_setFind_of (s:={s with toks:=s.toks+1}) c g j λr k=>?_;show Z5 ?_;exists k;show Z5<|ae _ rfl h
def xd{N Q}(J:Ok X N Q)(w:(e::u).any bN=ZX)(M:ρ.lookup f=Z7 (fG r self))(h:bm X ρ O (e::u) λl c=>∀E s b t H,Fr X ρ c s->s.heap.get? b=Z7 (f5 r t)->aB (aa X c) s.heap (.ref t) self->aD (aa X c) s.heap H l->ZE (model pw X.w) X.A (call (.ref b) H) (bP X ρ c s k) E s):Ev X ρ O (.Call (.Name f px) (e::u) [] pos) k:=by revert J w M h;injections X ρ O k pos px e u f r self N Q;intro J w M h;show(λE s F=>by show Yu<|wm (aj (pos:=px) (k:=λa S=>a=fG r self/\S=O) J M ⟨rfl,rfl⟩ E s F) λfv i x=>?_;obtain⟨a,c,y,n,z,U,V⟩:=x;subst U V;cases z.iX with|mk m p=>
  have p':=p;show cR p ?_;clear p;intro b t o I W;exists o;have A:∀{j:ag}{g:ZL},am (aa X c) i.heap (aa X j) g.heap->g.heap.get? b=Z7 (f5 r t):=λY=>by
   unfold cv at I;split at I;.cases I
   .rename_i Z;show(Y _ _ Z I).2
  have ns:(WR pos<|Yd u X.env).any (·.1)=ZX:=gr (by rw[YB,YL]at w;show w.2);show G7 (id:=r) (sa:=t) (wm (h E i pos y) λH g o=>ga o λl j C d D G=>⟨A d,?_⟩) (fU w) ns;show wm (G E g b t H C (A d) (W.up.move d) D) λv R x=>.from (n.trans d) x)
def EN{G H}(I:Ok X G H)(J:iQ knd bY){f:ZD}{self:AV}{c d:X7}(A:[c,d].any bN=ZX)(M:ρ.lookup f=Z7 (fG "dict.get" self))(h:Ev X ρ O c λa i=>Ev X ρ i d λb g=>∃x aI,a=bY x/\DV knd g self aI/\k ((bg aI x).getD b) g):Ev X ρ O (.Call (.Name f px) [c,d] [] pos) k:=by
 have m:bN c=ZX/\bN d=ZX:=by simpa using A
 show xd I A M<|.cons m.1<|h.mono λa i z=>.cons m.2<|z.mono λb g z=>.nil ?_;show cR z ?_;clear z;intro x aI p N l;exists p;intro E s b C vs F Q S R;replace R:=R.i2;obtain⟨U,V⟩:=R;obtain⟨ad,o,e,n,D,r,hd,W⟩:=F.sR S N;cases e;have j:s.heap.DictOf knd C r:=VD.mpr<|ae o D hd;show dt (uc hd) λY h2 Z=>?_;show yh Q UZ.plain SH (λQ' q=>yn D Y (.inl Z) acM LO adA (Hq _ _ _) q) ?_;show(?_:ZE _ _ (PySem.dictGet C _>>=_) _ _ s);show Z8<|wpAny_dictGet_of (J.to _ _ _ _ U) j.mapOf ?_;show ZI (W.at x) (λt=>aE t λu w=>?_) λy=>cR y λv a' u w rv=>?_;.exists w;replace l:=u▸l;show Z8<|wpAny_missed_other n<|Z5<|ae _ rfl<|.done F (.tok _ _) V l
 .exists w;replace l:=u▸l;show Z5<|ae _ rfl<|.done F (.tok _ _) rv.up l
def qy{J M}(r:Ok X J M)(u:w=X.w)(l:[c].any bN=ZX)(A:ρ.lookup f=Z7 (fG "set.__contains__" (eU w S)))(h:Ev X ρ O c λa d=>∃x,a=.str x/\k (.bool (S x)) d):Ev X ρ O (.Call (.Name f px) [c] [] pos) k:=by
 revert r u l A h;injections X ρ O k pos px w c f S J M;intro r u l A h;subst u;have C:bN c=ZX:=by simpa using l
 show xd r l A<|.cons C<|h.mono λa d z=>.nil ?_;show aq z ?_;clear z;intro x D N;subst D;intro E s b Q W F U V R;revert N F U V R;ext d x E s b Q W;replace R:=R.i1;obtain⟨Y⟩:=R;ext v;cases V.iX with|mk m p=>
  show m6 p ?_;clear p;intro ad o n e i Z g;cases e;unfold cv at i;split at i;.cases i
  have G:=g.setOf i Z;show pc g ?_;clear g;intro H es ep t h3 u';show dt H λh1 h2 u'=>?_;cases Y.iS;have j:=ny X.w x;have ck:∀(y:ZN)(I:Unit->ZL->Prop),I () s->ZE (model pw X.w) X.A.in1 (T8 "set.__contains__" ⟨[.ref Q,y],[]⟩) I E s:=λy I q=>yn (id:="set.__contains__") (T:="set") (rest:=[y]) i h1 (.inr<|At es ep t h3) acQ LP adB (Hr _ _) q;show yh U PySem.F.slot_set_contains.plain entry_set_contains (ck _) ?_;show G1 (j _) rfl G<|.done F (.tok _ _) (.bool _) N
end
abbrev jn(a:Bool):Ze:={cls:=.type "set",dict:=Z4,data:=.set #[] 0 (.fresh 0 0 a)}
def ack(h:Q₁ (.ref s.heap.objs.size) {s with heap:=s.heap.push (jn (fO w))}):UO (model pw w) A (.call (.builtin "set.__new__") ⟨[.type "set"],[]⟩) (wants Q₁ E) s:=by
 ext Q₁ w A E s;show VF ?_;show(?_:ZE _ A.in1 (do Wp "set.__new__" ⟨[.type "set"],[]⟩;again (.builtin "set.__new__" ⟨[.type "set"],[]⟩)) _ _ s);show Z8<|Zd F.newCall_set_0<|Z5 ⟨Tv P4 _,VB F.entry_set_new ?_⟩;exists VY P4 _;show Z8<|XT (Q:=λr a=>r=(Zb "set",[])/\a=s) ?_ ?_ λc c x=>x;.have b:=P5;obtain⟨e,g,d,f,i⟩:=s;wp_walk;show⟨rfl,rfl⟩
 .rintro r a⟨rfl,rfl⟩;show Z8<|NO<|Z5 h
def Dy(h:Q (.ref s.heap.objs.size) {s with heap:=s.heap.push (jn (fO w))}):ZE (model pw w) A (call (.type "set") []) Q E s:=by
 ext Q w A E s;show fK Wd.mro λc tl o=>?_;have k:=Wd.made;have p:=Wd.sub;show Xs<|VF ?_;show Z5 ⟨T6 _ dk,VB F.entry_type_call ?_⟩;exists Around.under_plain (weight_type_call_type "set" [] []) rfl;have z:=Wd.notType;have C:=Wd.canCreate;have t:=F.typeCall_set_0;repeat(any_goals(first|assumption|wp_step))
 show codeAny_mono (ack (E:=E) (Q₁:=λg b=>g=.ref s.heap.objs.size/\b={s with heap:=s.heap.push (jn<|fO w)}) ⟨rfl,rfl⟩) λr b j=>?_;cases r with|error e=>show j;|ok fl=>cases fl with
 |ret g=>
   show aE j ?_;clear j;intro l m;exists l,m;have u:(s.heap.push<|jn<|fO w).get? s.heap.objs.size=Z7 (jn<|fO w):=Zu _ rfl;have v:Tz {s with heap:=s.heap.push (jn<|fO w)} (.ref s.heap.objs.size) "set":=ae _ u rfl;have x:=Wd.init.lookup;have y:=Wd.init.bind (.ref s.heap.objs.size);repeat(any_goals(first|assumption|wp_step))
   show codeAny_mono (WC (R:=wants (λr d=>r=.none/\Q (.ref s.heap.objs.size) d) E) Wd.init.plain F.entry_set_init<|PySem.check_set_init v ?_) λi d a=>?_;.wp_walk;show⟨rfl,h⟩
   .cases i with|error e=>show a;|ok f=>cases f with|ret r=>show aE a ?_;clear a;intro n D;exists n;repeat(any_goals(first|assumption|wp_step));|_=>show a.elim
 |_=>show j.elim
def Mj(t)(a)(h)(x):(Pe t a h x).2.1.led=t.led:=by
 ext t a h x;unfold Pe;split;.dsimp only;unfold Ra;split<;>rfl
 .rfl
def Mk(t)(a)(h)(x)(b:t.plain=ZX):(Pe t a h x).2.1.plain=ZX:=by
 ext t a h x;unfold Pe;split
 .dsimp only;unfold Ra;split;.show b
  .rfl
 .rfl
def C9{t a:To}(h:t.relaid b n=Z7 (a,o)):a.led=t.led/\a.plain=t.plain:=by ext b n o t a;unfold SetTable.relaid SetTable.laid at h;cases e:SetTable.layClean (SetTable.sizeAbove n-1) b with|none=>replace h:=e▸h;cases h;|some c=>replace h:=e▸h;cases h;show⟨rfl,rfl⟩
def abI(t)(a)(n):(T5 t a n).2.1.led=t.led:=by
 ext t a n;unfold T5;split
 .rename_i h;dsimp only;split;.show(C9 h).1
  ·rfl
 .rfl
def abJ(t)(a)(n)(b:t.plain=ZX):(T5 t a n).2.1.plain=ZX:=by
 ext t a n;unfold T5;split
 .rename_i h;dsimp only;split;·(exists(C9 h).2;show aW b rfl)
  .rfl
 .rfl
abbrev ef(e:Int×ZN):ZD:=match e.2 with
 |.str x _=>x|_=>ZP
structure iU(w:Yg)(l:List ZD)(es:Array (Int×ZN))(t:To):Prop where
 el:ElemsOf (Zz pw w) es.toList
 perm:(es.toList.map ef).Perm l
 fits:t.fits es.size=true
 led:t.led=fO w
 pl:t.plain=false\/es.size=0
abbrev oZ(w:Yg)(l:List ZD)(o:Ze):Prop:=o.ExactSet/\∃a b t,o.data=.set a b t/\iU w l a t
def iU.key(h:iU w l b t)(c:e∈b.toList):∃u,e.2=.str (ef e) u:=by show aE (h.el e c) λa d=>?_;show aq a λx f d=>?_;show aS (Ux f) λu g=>?_;show⟨u,by unfold ef;show aW g rfl⟩
def iU.size(h:iU w l a t):a.size=l.length:=by have p:=h.perm.length_eq;rw[Z6,YX]at p;show p
def acj(w):oZ w [] (jn (fO w)):=⟨br rfl rfl rfl,#[],0,_,rfl,⟨λe a=>by simp at a,.refl _,by rfl,rfl,.inr rfl⟩⟩
def DU{d:Nat}{h:Xq}(i:h.get? a=Z7 o)(j:o.ExactSet)(f:o.data=.set g d t)(T:iU w l b c):∃e,(h.update a (PL b c)).get? a=Z7 e/\e.ExactSet/\e.data=.set b (d+1) c:=by show bl ({o with data:=.set b (d+1) c}) ?_ j rfl;have p:=YA (PL b c) i (by exists putSet_of b c f;rfl);replace p:=(putSet_of b c f)▸p;show p
def aci(O:s.heap.get? a=Z7 o)(hS:oZ w l o)(hx:x∉l)(hz:l.length+1<4000)(h:∀k p tk,YG a s.heap k->k.get? a=Z7 p->oZ w (l++[x]) p->Q .none {s with heap:=k,toks:=tk}):ZE (model pw w) A (call (.builtin "set.add") [.ref a,.str x u]) Q E s:=by
 ext o w l x a Q A u E s;show pc hS ?_;clear hS;intro S y ep t hd T;ext y ep t;have D:=T.size;have hb:y.size<Ti:=by show(?_:y.size<4096);show(af 0x32187a047c44f16841c8601815e11) hz D
 have m:(Zz pw w).is x (.str x u)=ZW:=ny w x u;have G:=T.el;have hf:=T.fits;show YC QN (ae o O S.1) F.entry_set_add ?_<|F.args_set_add_2 _ _;unfold XF.«set.add» T7;simp only[Qu,bind_assoc];show Z8 (Z5 ?_);try dsimp only
 show Z8 (Z5 ?_);try dsimp only
 show Z8 ?_;show Zy ?_;show Z8<|(Zz pw w).pyHash m ?_;show Zy<|Z8<|W0 (s:={s with toks:=s.toks+1}) O hd hf ?_;dsimp only;exists byScan_of rfl hb G;simp only[↓reduceIte];show Z8 ?_;show Z8<|WM ?_;show Z8<|wpAny_setScan_of (s:={s with toks:=s.toks+1}) m O hd hf G ?_;have KV:y.toList.findIdx? (λe=>(Zz pw w).is x e.2)=Z4:=by
  rw[List.findIdx?_eq_none_iff];intro e he;by_cases q:(Zz pw w).is x e.2=ZW;.show aS (Ux q) λv hv=>?_;show absurd (T.perm.mem_iff.mp<|Z0.mpr<|ae e he (by unfold ef;show aW hv rfl)) hx
  .simpa using q
 exists KV;have d:=layNew_perm t y ((Zz pw w).hash x)<|.str x u;have i:=layNew_fits t y ((Zz pw w).hash x)<|.str x u;have j:=Mj t y ((Zz pw w).hash x)<|.str x u;have U:=Mk t y ((Zz pw w).hash x)<|.str x u;generalize Pe t y ((Zz pw w).hash x) (.str x u)=L at d i j U⊢;obtain⟨c,t1,g,V⟩:=L;ext c t1 g V;dsimp only at d i j U⊢;replace d:=WE▸d;have W:∀(b:Bool){n:ZL}{Q':Unit->ZL->Prop}{A':YM}{E':ZN->ZL->Prop},Q' () n->ZE (model pw w) A' (match b with|true=>rule "set.scan.the-table-gave-way"|false=>pure ()) Q' E' n:=λb n Q' A' E' hq=>by cases b<;>first|show Z5 hq|show WM hq
 show Z8<|W _ ?_;have X:(c.toList.map ef).Perm (l++[x]):=(d.map ef).trans (by exists ZF;show T.perm.append<|.refl _);have Y:∀f:To,f.fits c.size=ZW->f.led=fO w->f.plain=ZX->iU w (l++[x]) c f:=λf Z h2 h3=>⟨(G.push m rfl).perm d,X,Z,h2,.inl h3⟩;have A0:c.size<=Zo:=by have:=X.length_eq;rw[Z6,YX,ZV]at this;(exists Zx,this);simp;show(ak 0x6430f408f889e1c822088220841e10) hz
 have C:∀f:To,iU w (l++[x]) c f->ZE (model pw w) A.in1 (do storeSet a c f;if(!g&&f.tooFull)=ZW then do(match(T5 f c<|WL c.size).2.2 with|true=>rule "set.scan.the-table-gave-way"|false=>pure ());storeSet a (T5 f c<|WL c.size).1 (T5 f c<|WL c.size).2.1;pure (Z7 ZW);else pure (Z7 ZW)) (λr s'=>r=Z7 ZW/\∃k p,s'={s with heap:=k,toks:=s.toks+1}/\YG a s.heap k/\k.get? a=Z7 p/\oZ w (l++[x]) p) E {s with toks:=s.toks+1}:=by
  intro f H;ext f;show Z8<|TJ (s:={s with toks:=s.toks+1}) O hd ?_ A0;show bV (DU O S hd H) λo1 I Ai J=>?_;have Dl:=YN s.heap a<|PL c f;split
  .show Z8<|W _ ?_;have p3:=relayAll_perm f c<|WL c.size;have f3:=relayAll_fits f c<|WL c.size;have l3:=abI f c<|WL c.size;have q3:=abJ f c<|WL c.size;generalize T5 f c (WL c.size)=R at p3 f3 l3 q3⊢;obtain⟨M,t3,g3⟩:=R;dsimp only at p3 f3 l3 q3⊢;have T3:iU w (l++[x]) M t3:=by
    show⟨H.el.perm p3,(p3.map ef).trans H.perm,f3,l3.trans H.led,?_⟩;show ZI H.pl (λz=>?_) λz=>?_;.show .inl<|q3 z
    .have:=H.size;replace this:=z▸this;simp at this
   have MX:M.size<=Zo:=by(exists ZJ<|YX,p3.length_eq,YX);show A0
   show Z8<|TJ I J ?_ MX;show bV (DU I Ai J T3) λo3 KZ Lk Kx=>?_;show Z5 ⟨rfl,_,o3,rfl,Dl.trans<|YN _ a _,KZ,Lk,M,_,t3,Kx,T3⟩
  .show Z5 ⟨rfl,_,o1,rfl,Dl,I,Ai,c,_,f,J,H⟩
 by_cases N:t1.plain=ZW;.exists if_pos N;show Z8 ?_;exists hashByValue_scannable 8 rfl;show Z5 ?_;simp only[show plainKind (.str x u)=ZX from rfl,YF,if_false];show wm (C _<|Y _ (SetTable.fits_plain_off i) (j.trans T.led) rfl) (λr s' j3=>yK j3 λe k p e2 Z h2 h3=>by subst e e2;show Z5<|Z5<|ae _ rfl<|h k p _ Z h2 h3)
 .exists if_neg N;show Z8<|Z5 ?_;simp only[if_true];show wm (C _<|Y _ i (j.trans T.led)<|by simpa using N) (λr s' jY=>yK jY λe k p e2 Z h2 h3=>by subst e e2;show Z5<|Z5<|ae _ rfl<|h k p _ Z h2 h3)
def y3{a:Type}{l:List a}:∀{i:Nat}(h:i<l.length),(l[i]::l.eraseIdx i).Perm l:=by induction l with|nil=>intro i h;cases h;|cons x l b=>intro i h;cases i with|zero=>show .refl _;|succ i=>show((T4 x _ _)).trans<|(b<|U9 h).cons x
def wv:Pw "set_iterator" (Z9 "__next__") "set_iterator.__next__":=.of (owner:="set_iterator") (n:="__next__") (by rw[Y0,Zl];kernel_rfl) dk dk dk (by first|show .inl dk|show .inr dk) (by rw[Xh];kernel_rfl)
def Im:UI table "set_iterator.__next__"=Z7 XF.«set_iterator.__next__»:=Wr ⋯
def FP(a):SJ "set_iterator.__next__" ⟨[a],[]⟩:=by unfold SJ;kernel_rfl
def Il:UI table "set.__iter__"=Z7 XF.«frozenset.__iter__»:=entryFor_alias (id':="frozenset.__iter__") ⋯ rfl dk ⋯
abbrev h8(f:ZN)(p:Zw)(i n a:Nat):Ze:={cls:=.type "set_iterator",dict:=Z4,data:=.fields #[f,XX (i:Int),.ref p,XX (n:Int),XX (a:Int)],slots:=#[]}
def Hp(b:n≠0)(h:∀i d,i<n->Q i {s with drawn:=d}):ZE M A (choose a n) Q E s:=λc c c=>⟨b,h _ _<|Uf _<|(ak 0x1ed05e1c842f3) b⟩
def H0{M:Model}{A:YM}{E:ZN->ZL->Prop}{g:Type}(n:Nat):∀(a:List g){s:ZL}{Q:List g->ZL->Prop},a.length<=n->(∀c d,c.Perm a->Q c {s with drawn:=d})->ZE M A (drawOrder n a) Q E s:=by induction n with
 |zero=>intro a s Q b h;cases a with|nil=>show Z5<|h [] s.drawn<|.refl _;|cons x a=>cases b
 |succ n j=>intro a s Q b h;cases a with|nil=>show Z5<|h [] s.drawn<|.refl _;|cons x a=>
  show Z8<|Hp (by simp) λi d f=>?_;have e:(x::a)[i]?=Z7 (x::a)[i]:=Z2 f;exists e;have k:((x::a).eraseIdx i).length<=n:=by exists T2 f;simp at b⊢;show(af 0x3020e0410) b
  show Z8<|j ((x::a).eraseIdx i) k λc l m=>Z5 ?_;show h _ l<|(m.cons _).trans<|y3 f
def abc(next):∀(left:List c)(k:Nat)(out:Array c),(QM next left.length k left out).toList.Perm (out.toList++left):=by intro left;generalize b:left.length=n;induction n generalizing left with
 |zero=>
  intro k out;have p:left=[]:=by simpa using b
  exists p;show(?_:out.toList.Perm (out.toList++[]));rw[ZH];|succ n d=>
  intro k out;have a:next k%left.length<left.length:=Uf _<|(af 0x35113c41c842f2) b;have e:QM next (n+1) k left out=match left[next k%left.length]? with|some x=>QM next n (k+1) (left.eraseIdx<|next k%left.length) (out.push x)|none=>out:=rfl;exists e,Z2 a;have f:(left.eraseIdx<|next k%left.length).length=n:=by exists T2 a;show(af 0xd444f10742909e12) b
  show(d _ f (k+1)<|out.push left[next k%left.length]).trans ?_;rw[WE,ZA];show(y3 a).append_left _
def CJ(next)(a:Array b):(Rz next a).toList.Perm a.toList:=by unfold Rz;have p:=abc next a.toList 0 #[];rw[YX]at p;simpa using p
def C1{Q:d->ZL->Prop}(f:A.handled=Z4)(h:∀c e,(∀b o,s.heap.get? b=Z7 o->c.get? b=Z7 o)->(∃o,c.get? e=Z7 o/\o.cls=.type "StopIteration")->E (.ref e) {s with heap:=c}):ZE M A (do raiseNew (<-newExc (.type "StopIteration") []):PA d) Q E s:=by
 show Z8 ?_;show Z8<|XC ?_<|by size_fits
 show Z8 (m:=T1 _ _)<|Zd (a:=X9) (by first|rfl|(simp only[T1];rfl)) ?_;show XC ?_ (by size_fits);show Z8<|wpAny_handled ?_;exists f;show Z8<|Z5<|wpAny_throw ?_;show h _ _ (λb o e=>ZT _<|ZT _ e)<|ae _ (Zu _ rfl) rfl
def acp{i n y:Nat}(hh:A.handled=Z4)(z:s.heap.get? I=Z7 (h8 f p i n y))(ho:s.heap.get? p=Z7 U)(hd:U.data=.set D y t)(hf:t.fits D.size=ZW)(hn:D.size=n)(F:∀m:Nat,f=XX (m:Int)->ZE (model pw w) A.in1 (Pd p m i y) (λr N=>N=s/\match r with
 |some (x,next)=>∀c,c.get? I=Z7 (h8 (XX (next:Int)) p (i+1) n y)->YG I s.heap c->Q (Z7 x) {s with heap:=c}|none=>∀c,(∀b o,b≠I->s.heap.get? b=Z7 o->c.get? b=Z7 o)->Q Z4 {s with heap:=c}) (λV V=>False) s)(u:(∃m:Nat,f=XX (m:Int))\/∃T,f=.ref T)(G:∀T,f=.ref T->∃W k O,s.heap.get? T=Z7 W/\W.data=.seq O k/\((∃j:Nat,O[i]?=Z7 (XX (j:Int))/\∃x,D[j]?=Z7 x/\∀c,c.get? I=Z7 (h8 f p (i+1) n y)->YG I s.heap c->Q (Z7 x.2) {s with heap:=c})\/(O[i]?=Z4/\∀c,(∀b o,b≠I->s.heap.get? b=Z7 o->c.get? b=Z7 o)->Q Z4 {s with heap:=c}))):ZE (model pw w) A (Vu (.ref I)) Q E s:=by
 ext f p U w s I Q D t A E i n y;have hT:s.TypeIs (.ref I) "set_iterator":=ae _ z rfl;show Z8 (V5 (Yp (name:=Z9 "__next__") hT wv (YC wv hT Im ?_<|FP _)));show Z8<|Zd (a:=(Zr I,[])) (by first|rfl|kernel_rfl) ?_;show Z8<|wpAny_fieldsOf z rfl ?_;show Z8<|Rs ho hd hf ?_;exists(if_neg (by show aW hn ?_;simp));have stop:∀(l:Xq),(∀b o,b≠I->s.heap.get? b=Z7 o->l.get? b=Z7 o)->(∀c,(∀b o,b≠I->s.heap.get? b=Z7 o->c.get? b=Z7 o)->Q Z4 {s with heap:=c})->∀(Qf:UT->ZL->Prop),ZE (model pw w) A.in1 (do raiseNew (<-newExc (.type "StopIteration") []):PA UT) Qf (λe N=>ZE (model pw w) A (do if<-PK e (.type "StopIteration")then pure Z4 else throw e) Q E N) {s with heap:=l}:=by intro l hk H Qf;show C1 (A:=A.in1) hh λc e X Y=>aq Y λoe Z lT=>?_;show Z8<|Wq (T:="StopIteration") (b:=ZW) (ae oe Z lT) T0 ?_;show Z5<|H c λb o J e=>X b o<|hk b o J e
 have g:∀{h:Xq}{vs:Array ZN}(j:Nat)(x:ZN){R:Unit->ZL->Prop}{E':ZN->ZL->Prop},h.get? I=Z7 {cls:=.type "set_iterator",dict:=Z4,data:=.fields vs,slots:=#[]}->j<vs.size->(∀c,c.get? I=Z7 {cls:=.type "set_iterator",dict:=Z4,data:=.fields<|vs.setIfInBounds j x,slots:=#[]}->YG I h c->R () {s with heap:=c})->ZE (model pw w) A.in1 (setField (.ref I) j x) R E' {s with heap:=h}:=λj x R E' e M hR=>wpAny_setField_rec (s:={s with heap:=_}) e M hR;rcases u with⟨m,rfl⟩|⟨T,rfl⟩;.show Z8<|XT (F m rfl) ?_ λV V x=>x.elim;rintro r N⟨q,S⟩;cases q.symm;cases r with|some xn=>obtain⟨x,next⟩:=xn;dsimp only at S⊢;show Z8<|g 0 _ z (by simp) λl C d=>?_;show Z8<|g 1 _ C (by simp) λh2 e2 v=>?_;show Z5<|ae _ rfl<|Z5<|S h2 ?_<|d.trans v;exists e2;simp[h8,XX];|none=>dsimp only at S⊢;show Z8<|g 2 _ z (by simp) λl C d=>?_;show stop l (λb o J e=>(d.2 b J).trans e) S _
 .obtain⟨W,k,O,pz,uO,KI⟩:=G T rfl;show Z8<|W5 pz uO ?_;dsimp only;show ZI KI (λwT=>Id wT λj M x hx H=>?_) λmz=>aE mz λM H=>?_;.exists(show((i:Int)).toNat=i from Zm i),M;show Z8 ?_;show Z8<|W0 ho hd hf ?_;dsimp only;rw[if_neg (by simp),Zm,hx];show Z5 ?_;show Z8<|g 1 _ z (by simp) λl C d=>?_;show Z5<|ae _ rfl<|Z5<|H l ?_ d;exists C;simp[h8,XX]
  .exists(show((i:Int)).toNat=i from Zm i),M;show Z8<|g 0 _ z (by simp) λl C d=>?_;show Z8<|g 2 _ C (by simp) λh2 e2 v=>?_;show stop h2 (λb o J e=>((d.trans v).2 b J).trans e) H _
abbrev dh(a:Ze)(P:(Zw->Option Ze)->Ze->Prop):(Zw->Option Ze)->Ze->Prop:=λg o=>o=a/\P g o
abbrev qJ(P:(Zw->Option Ze)->Ze->Prop):Prop:=∀g b o,(∀a o,g a=Z7 o->b a=Z7 o)->P g o->P b o
def CM(h:qJ P):qJ (dh b P):=λg c o d a=>aE a λe q=>⟨e,h g c o d q⟩
def Fr.pin(F:Fr X f O s)(d:(p,az.ext P)∈O):∃od,s.heap.get? p=Z7 od/\P (cv (aa X O) s.heap) od/\Fr X f (aK O p (.ext (dh od P))) s/\am (aa X O) s.heap (aa X (aK O p (.ext (dh od P)))) s.heap:=by obtain⟨c,c,c,c,od,g,a,h⟩:=F.own _ d;show db od g h (F.upd (tk:=s.toks) (ao:=.ext<|dh od P) d (λb o c e=>e) g<|br (CM a) rfl h)<|F.er (ao:=.ext<|dh od P) d λb o c e=>e
abbrev b0(w:Yg)(l:List ZD):(Zw->Option Ze)->Ze->Prop:=λa o=>oZ w l o
def wn:qJ (b0 w l):=λa a a a h=>h
def vZ(h:(p,a)∈O):(p,b)∈aK O p b:=Z0.mpr<|ae _ h<|if_pos rfl
abbrev tH(a:ZN)(r:Option (ZN×Nat)):Option ZD->Prop
 |some x=>∃u next,r=Z7 (.str x u,next)/\a=XX (next:Int)|none=>r=Z4
abbrev PickAt(a:Array (Int×ZN))(q:Option ZN):Option ZD->Prop
 |some x=>∃(j:Nat)(u:O6)(h:Int),q=Z7 (XX (j:Int))/\a[j]?=Z7 (h,.str x u)|none=>q=Z4
inductive oT(es:Array (Int×ZN))(D:List Zw)(h:Xq)(T:Zw)(i:Nat)(o:Option ZD):Prop|mk(ob:Ze)(k:Nat)(pl:Array ZN)(h1:h.get? T=some ob)(h2:T∉D)(h3:ob.data=.seq pl k)(h4:PickAt es pl[i]? o)
def acV(hw:w=X.w){H:Nat}(hd:V.data=.set D H t)(T:iU w l D t)(d:List ZD)(f:Nat->ZN)(h:∀i,(∃m:Nat,f i=XX (m:Int))\/∃T,f i=.ref T)(n:∀i(m:Nat)(s:ZL)(A:YM)E,f i=XX (m:Int)->s.heap.get? p=Z7 V->ZE (model pw X.w) A (Pd p m i H) (λr s'=>s'=s/\tH (f (i+1)) r d[i]?) E s)(v:∀i T,f i=.ref T->f (i+1)=.ref T/\oT D y z T i d[i]?):kj X y z tg (.ref I) (d.map AV.str) (λO=>(p,az.ext (dh V (b0 w l)))∈O) (λi C=>C=[(I,h8 (f i) p i D.size H)]):=by
 revert hw hd T h n v;injections w l D t p V y z X tg I H d f;intro hw hd T h n v;have step:∀i C J O s(Q:Option ZN->ZL->Prop)(E:ZN->ZL->Prop),C=[(I,h8 (f i) p i D.size H)]->(p,az.ext<|dh V<|b0 w l)∈O->Fr X J (aJ C++O) s->am y z (aa X<|aJ C++O) s.heap->(∀x u c,d[i]?=Z7 x->c.get? I=Z7 (h8 (f<|i+1) p (i+1) D.size H)->YG I s.heap c->Q (Z7<|.str x u) {s with heap:=c})->(∀c,d[i]?=Z4->(∀b o,b≠I->s.heap.get? b=Z7 o->c.get? b=Z7 o)->Q Z4 {s with heap:=c})->ZE (model pw X.w) X.A (Vu<|.ref I) Q E s:=by
  rintro i C J O s Q E rfl W F Y h1 h2;ext i J O s Q E;have N:s.heap.get? I=Z7 (h8 (f i) p i D.size H):=F.iF<|.head _;show bV (F.kC<|Zq _ W) λo ho e Z=>?_;subst e;show acp (w:=X.w) X.hh N ho hd T.fits rfl (λm KF=>?_) (h i) λT' zY=>?_;.show wm (n i m s X.A.in1 (λZ Z=>False) KF ho) ?_;rintro r s'⟨q,G⟩;cases q.symm;show⟨rfl,?_⟩;cases e:d[i]? with
 |some x=>replace G:=e▸G;show ec G ?_;clear G;intro u next jY hn;subst jY;intro c S sb;show h1 x u c e (by exists hn;show S) sb;|none=>replace G:=e▸G;have G:r=Z4:=G;subst G;showλc U=>h2 c e U
  .obtain⟨KW,ob,k,pl,pz,py,uO,R⟩:=v i T' zY;show rO ob k pl ((Y _ _ py pz).2) uO ?_;cases e:d[i]? with|some x=>replace R:=e▸R;show m3 R ?_;clear R;intro j u hh hj M;show .inl<|Lr j hj _ M λc S sb=>h1 x u c e (by(exists KW,ZJ<|zY);show S) sb;|none=>replace R:=e▸R;show .inr ⟨R,λc U=>h2 c e U⟩
 show⟨λi av C J O s Q E g N W F Y hQ=>?_,λC J O s Q E N W F Y hQ=>?_⟩;.ext i av C J O s Q E;replace g:=ZQ▸g;show step i C J O s Q E N W F Y (λx u c M S sb=>?_) (λc M U=>by replace g:=M▸g;cases g);replace g:=M▸g;cases g;show hQ _ _ λQ2 E2 pq=>?_;show vj (s:={s with heap:=c}) S rfl rfl (by decide) ?_;subst N;have RH:=F.hV (s':={s with heap:=c}) (hs':=[(I,h8 (f<|i+1) p (i+1) D.size H)]) (λb o hb e=>(sb.2 b<|by simpa using hb).trans e) (λq hq=>by exists ZM.mp hq;show S) (λa ha=>.inl<|by simpa using ha) (by simp) F.gens rfl;show pq _ _ rfl RH.1 RH.2<|.str _ _
 .show step (d.map AV.str).length C J O s Q E N W F Y (λx u c M Z Z=>by rw[Z6]at M;simp at M) λc Z U=>?_;subst N;have:=F.jt (s':={s with heap:=c}) (λb o hb e=>U b o (by simpa using hb) e) F.gens rfl;show hQ _ this.1 this.2
def oT.move(x:oT a D h T i o)(d:am D h b c):oT a b c T i o:=by obtain⟨g,k,j,e,f,l,m⟩:=x;show⟨g,k,j,(d _ _ f e).2,(d _ _ f e).1,l,m⟩
def ch.set(hw:w=X.w)(h:Ev X ρ O e λa C=>∃p l,a=.ref p/\l.length<4000/\(p,az.ext (b0 w l))∈C/\∀(od:Ze)(G:List ZD),G.Perm l->k (G.map AV.str) (aK C p (.ext (dh od (b0 w l)))) (λO=>(p,az.ext (dh od (b0 w l)))∈O)):ch X ρ O tg e k:=by
 intro E s F;revert hw h F;injections w X ρ O e k tg E s;intro hw h F;subst hw;show wm (h E s F) λv D z=>ba z λa C y I Di z=>pd z λp l ea hz hm hk=>?_;rename_i q0;clear q0;revert y I Di z ea hz hm hk;ext v D a C p l;subst ea;cases Di.iR;show dI (y.pin hm) λod ho jZ xp D1=>?_;ext od;show pc jZ λzX c ep t hd T=>?_;ext c ep t;have hT:D.TypeIs (.ref p) "set":=ae od ho zX.1;show QL hT Sl<|YC Sl hT Il ?_<|PySem.F.args_set_iter_1 _;show Z8<|Zd (a:=p) (by first|rfl|kernel_rfl) ?_;show Z8<|Z8<|Rs ho hd T.fits<|Z5 ?_;show Z8 ?_;show Z8<|W0 ho hd T.fits ?_;dsimp only;show Z8<|Z8<|Xp<|Z5 ?_;show Z5 ?_;show(?_:ZE _ _ (if(!(X.w.params.followText "set-order")&&(!t.plain&&decide (c.size>1)))=ZW then _ else _) _ _ _);have J:∀(f:Nat->ZN)(G:List ZD)(n:ZL)(E':ZN->ZL->Prop),G.Perm l->(∀i,(∃m:Nat,f i=XX (m:Int))\/∃T,f i=.ref T)->(∀i(m:Nat)(s:ZL)(A:YM)E,f i=XX (m:Int)->s.heap.get? p=Z7 od->ZE (model pw X.w) A (Pd p m i ep) (λr s'=>s'=s/\tH (f<|i+1) r G[i]?) E s)->(∀i T,f i=.ref T->f (i+1)=.ref T/\oT c (aa X C) n.heap T i G[i]?)->Fr X ρ C n->am (aa X C) D.heap (aa X C) n.heap->n.heap.get? p=Z7 od->ZE (model pw X.w) X.A.in1 (do let e<-setEpoch p;let x<-newFields "set_iterator" [f 0,XX 0,.ref p,XX (c.size:Int),XX (e:Int)];ret x) (λJ s'=>∃v,J=.done (.ret v)/\∃T' r,Tz s' v T'/\X6 (.type T') (Z9 "__next__")=pure (Z7 r)/\tI X ρ O s tg k v s') E' n:=by
  intro f G n E' K4 Lc acr H3 M wG N;ext f G n E';show Z8<|wpAny_setEpoch_of N hd T.fits ?_;simp only[newFields];show Z8<|XC ?_<|by size_fits
  show Z5<|uY _ rfl ("set_iterator") _ (ae _ (Zu _ rfl) rfl) wv.lookup ?_;have ig:Fr X ρ (aK C p<|.ext<|dh od<|b0 X.w l) n:=M.upd (tk:=n.toks) (ao:=.ext<|dh od<|b0 X.w l) hm (λb o u' e=>e) N ⟨CM wn,rfl,zX,c,ep,t,hd,T⟩;have EX:Fr X ρ (aJ []++aK C p (.ext<|dh od<|b0 X.w l)) n:=ig;have RH:=EX.hV (s':={n with heap:=n.heap.push (h8 (f 0) p 0 c.size ep)}) (hs':=[(n.heap.objs.size,h8 (f 0) p 0 c.size ep)]) (λb o u' e=>ZT _ e) (λq hq=>by exists ZM.mp hq;show Zu _ rfl) (λa ha=>by simp only[Z3,Y4,ZM]at ha;subst ha;show .inr<|c9 _) (by simp) M.gens rfl;have Q:=M.er (ao:=.ext<|dh od<|b0 X.w l) (h':=n.heap) hm λb o u' e=>e;show⟨_,_,_,_,_,acV rfl hd T G f Lc acr λi T' hf=>?_,rfl,RH.1,((I.trans wG).trans Q).trans RH.2,hk od G K4⟩;show aE (H3 i T' hf) λa1 x=>?_;show⟨a1,x.move<|Q.trans RH.2⟩
 have R:∀(j:Nat)(hj:j<c.size),∃u,c[j]?=Z7 (c[j].1,.str (ef c[j]) u):=λj hj=>by show aS (T.key (e:=c[j])<|by simp) λu hu=>?_;show⟨u,by exists X1 hj;show congrArg Z7<|Prod.ext rfl hu⟩
 by_cases S:X.w.params.followText "set-order"=ZW
 .exists S;simp only[Pt,PJ,YF,if_false];show Z8<|Z5 ?_;show J (λu'=>XX ((0:Nat):Int)) ((Rz (X.w.params.setOrder p ep) c).toList.map ef) D _ ?_ (λi=>.inl ⟨0,rfl⟩) (λi m s' A tm U Y=>?_) (λi T' h=>nomatch h) y (.refl _ _) ho;.show((CJ _ _).map ef).trans T.perm
  .ext i m s' A tm;unfold Pd;show Z8<|W0 Y hd T.fits ?_;dsimp only;show Z8<|Z8<|Xp<|Z5 ?_;show(?_:ZE _ _ (if X.w.params.followText "set-order"=ZW then _ else _) _ _ _);exists(if_pos<|show X.w.params.followText "set-order"=ZW from S),(if_neg<|by simp);show Z8 ?_;show Z8<|W0 Y hd T.fits ?_;dsimp only;show Z8<|Z8<|Xp<|Z5 ?_;show(?_:ZE _ _ (if X.w.params.followText "set-order"=ZW then _ else _) _ _ _);exists(if_pos<|show X.w.params.followText "set-order"=ZW from S);show Z8<|Xp<|Z5 ?_;show Z5 ⟨rfl,?_⟩;show(?_:tH _ ((Rz (X.w.params.setOrder p ep) c)[i]?.map λe=>(e.2,m)) _);exists ZQ,WH;cases e:(Rz (X.w.params.setOrder p ep) c)[i]? with|none=>rfl;|some x=>
    have KQ:x∈c.toList:=(CJ _ _).mem_iff.mp<|R6.mpr<|Sk e;show aS (T.key KQ) λu hu=>?_;have H:m=0:=by
     have:((0:Nat):Int)=(m:Int):=by injection U
     show(ak 0x1d0d82fd05e10) this
    show b7 u m (by simp[hu]) (<-aW H rfl)
 .have zU:X.w.params.followText "set-order"=ZX:=by simpa using S
  have KP:t.led=ZW:=by exists T.led;unfold fO;exists zU;rfl
  exists zU;simp only[R7,Tu];by_cases V:(!t.plain&&decide (c.size>1))=ZW
  .exists if_pos V;show Z8<|H0 c.size (YY c.size) (by simp) λys d hp=>?_;have pv:ys.length=c.size:=by exists hp.length_eq;show aW Xi rfl
   have dU:∀j∈ys,j<c.size:=λj hj=>XR.mp<|hp.mem_iff.mp hj;show Z8<|Ug ?_ (by show(?_:(ys.map λ(i:Nat)=>XX (i:Int)).length<=_);rw[Z6,pv,T.size,Zx];show(ak 0xc861e811e1c060180601845e10) hz);have Fd:Fr X ρ C {D with drawn:=d}:=⟨y.keep,y.gens,y.os,y.vars,y.held,y.own,y.nd⟩;have g:=c7.push {D with drawn:=d} ⟨.type "tuple",Z4,.seq (ys.map λ(i:Nat)=>XX (i:Int)).toArray 0,#[]⟩ D.toks;show J (λu'=>.ref D.heap.objs.size) (ys.map λj=>ef<|c.getD j (0,.none)) _ _ ?_ (λi=>.inr ⟨_,rfl⟩) (λi m s' A tm U=>nomatch U) (λi T' uH=>?_) (Fd.grow g) g.jW<|ZT _ ho
   .have e1:(YY c.size).map (λj=>ef<|c.getD j (0,.none))=c.toList.map ef:=by
     apply TM;intro i;exists ZQ,ZQ;by_cases Z:i<c.size
     .have e2:c.toList[i]?=Z7 c[i]:=by simp[Z]
      have e3:c.getD i (0,X9)=c[i]:=by simp[TZ,Z]
      exists WV Z,e2;show(?_:Z7 (ef<|c.getD i (0,X9))=_);exists e3;rfl
     .have e2:c.toList[i]?=Z4:=by simp;show(af 0x7b21160410) Z
      exists(V3<|by simpa using Z),e2;rfl
    have:=hp.map λj=>ef<|c.getD j (0,.none);rw[e1]at this;show this.trans T.perm
   .injection uH with uH;subst uH;show⟨rfl,_,0,_,Zu _ rfl,y.fresh,rfl,?_⟩;exists ZQ;cases e:ys[i]? with|none=>show(?_:PickAt _ (TY _ ys).toArray[i]? Z4);exists List.getElem?_toArray,ZQ,e;trivial;|some j=>
     have hj:=dU j<|YV e;show aS (R j hj) λu hu=>?_;show kN j u (c[j].1) (by simp[e]) ?_;have:c.getD j (0,X9)=c[j]:=by simp[TZ,hj]
     show(?_:c[j]?=Z7 (c[j].1,.str (ef<|c.getD j (0,X9)) u));exists this;show hu
  .exists if_neg V;have h1:c.size<=1:=by
    show ZI T.pl (λz=>?_) λz=>?_;.rw[z]at V;simpa using V
    .show(ak 0xd05e1c09e10) z
   show Z8<|Z5 ?_;have K7:t.place.size=c.size:=by have:=T.fits;simp only[SetTable.fits,YK,beq_iff_eq]at this;show this.1
   show J (λi=>XX ((if i=0 then 0 else t.place.getD 0 0+1:Nat):Int)) (c.toList.map ef) D _ T.perm (λi=>.inl ⟨_,rfl⟩) (λi m s' A tm U Y=>?_) (λi T' h=>nomatch h) y (.refl _ _) ho;have H:m=(if i=0 then 0 else t.place.getD 0 0+1):=by
    have:(((if i=0 then 0 else t.place.getD 0 0+1:Nat):Nat):Int)=(m:Int):=by injection U
    show(af 0x3a1168410) this
   show Z8<|W0 Y hd T.fits ?_;dsimp only;show Z8<|Z8<|Xp<|Z5 ?_;show(?_:ZE _ _ (if X.w.params.followText "set-order"=ZW then _ else _) _ _ _);exists(if_neg<|show¬X.w.params.followText "set-order"=ZW from S);show(?_:ZE _ _ (if(!t.plain&&decide (c.size>1))=ZW then _ else _) _ _ _);exists if_neg V;show(?_:ZE _ _ (do(if(!t.led&&!c.isEmpty)=ZW then unsupported "set:maker-not-led"else pure ());_) _ _ _);rw[if_neg (by rw[KP];simp)];show Z8<|Z5 ?_;show Z5 ⟨rfl,?_⟩;exists ZQ,WH;show ZI (Xj 0 c.size) (λW=>?_) λAd=>?_
   .have adW:c.size=1:=(ak 0xc09e1c842fd09e10) h1 W;obtain⟨q,hq⟩:∃q,t.place=#[q]:=by have:t.place.size=1:=(af 0x604f16841c882fd09e11) h1 K7 W;show⟨t.place[0],by apply Po (by simp[this]);intro i h1 h2;simp at h2;subst h2;rfl⟩
    exists hq;rw[hq]at H;by_cases Z:i=0;·subst Z;have H:m=0:=H;subst H;have eb:RN #[q] 0=0:=PV (b:=ite (q<0) 1 0) ⋯ (if_neg<|XN q);exists eb;show aS (R 0<|(ak 0xc842fc842f0) W) λu hu=>?_;exists hu;show b7 u (q+1) rfl rfl
    .rw[if_neg Z]at H;have H:m=q+1:=H;subst H;have eb:RN #[q] (q+1)=1:=PV (b:=ite (q<q+1) 1 0) ⋯ (if_pos<|UW q);exists eb,(Xg (<-(af 0xc09e1f682f160412) h1 Z:c.size<=i)),(Xg (<-(ak 0xc09e1c09e10) h1:c.size<=1));rfl
   .exists(Xg (<-(af 0x602f0e0412) Ad:c.size<=i)),(Xg (<-(af 0x602f0e0412) Ad:c.size<=RN t.place m));rfl
section
variable{X:Fx}{ρ:Loc}{O O':ag}{s s':ZL}{E:ZN->ZL->Prop}{k:AV->ag->Prop}{K:Kn}{pos px ir:Vk}
variable{κ:Type}[DecidableEq κ]{knd:KeyKind pw X.w κ}{bY:κ->AV}{aI:List (κ×AV)}
abbrev kn(X:Fx)(d:Loc)(O:ag)(a:AV)(T:String):Prop:=∀s v,Fr X d O s->aB (aa X O) s.heap v a->s.TypeIs v T/\∀b,v=.ref b->∃c,s.heap.get? b=Z7 c/\c.dict=Z4
def kn.dict{a:AV}(h:DV knd O a aI):kn X ρ O a "dict":=λs v F r=>by obtain⟨j,o,c,n,d,f,hd,k⟩:=F.sR r h;exists c;show dt (uc hd) λg i l=>?_;show⟨(ae o d g),λb e=>by cases e;show ae o d i⟩
def kn.set(h:(p,az.ext (b0 w l))∈O):kn X ρ O (.ref p) "set":=by intro s v F r;revert h F r;injections X ρ O p w l s v;intro h F r;cases r.iR;obtain⟨a,a,a,a,o,c,a,⟨d,f,a⟩,a⟩:=F.own _ h;show⟨(ae o c d),λb e=>by cases e;show ae o c f⟩
def tt{name:ZD}(M:PlainAttrs T)(r:Pw T name p)(N:Uc (.builtin p)=pure (.type "method_descriptor"))(i:VN o name X.env (eval o X.env)=eval o X.env)(t:((WR pos (Yd (e::n) X.env)).all (λx=>!x.1)&&(PN pos (RS [] X.env)).all (λx=>x.1.isSome)&&decide ((e::n).length+([]:List QP).length+(if([]:List QP).isEmpty then 0 else 1)<30))=ZW)(j:(ir.endLine==pos.line)=ZW)(G:(e::n).any bN=ZX)(h:Ev X ρ O o λa b=>kn X ρ b a T/\bm X ρ b (e::n) λl d=>ax X ρ d (.builtin p) (a::l) k):Ev X ρ O (.Call (.Attribute o name ir) (e::n) [] pos) k:=by ext X ρ O k pos ir T p o e n name;show(λE s F=>by show Td i t j<|wm (h _ s F) λU u z=>ba z λa b f m g z=>aE z λQ w=>?_;show aE (Q _ _ f g) λR S=>?_;show lY T p M r N R S ?_;have H:=fU (env:=X.env) G;show callWith_method1 (env:=X.env) (wm (w _ u pos f) λV y I=>ga I λl d A c C D=>?_) H<|gr (by rw[YB,YL]at G;show G.2);show wm (D _ y _ A<|.cons (g.move c) C) λv J x=>.from (m.trans c) x)
def ax.setAdd(c:w=X.w)(a:(p,az.ext (b0 w l))∈O)(d:x∉l)(f:l.length+1<4000)(h:k .none (aK O p (.ext (b0 w (l++[x]))))):ax X ρ O (.builtin "set.add") [.ref p,.str x] k:=by revert c a d f h;injections X ρ O k w p l x;intro c a d f h;show(λE s y F R=>by subst c;replace R:=R.i2;obtain⟨m,n⟩:=R;cases m.iR;cases n.iS;show aq (F.kC a) λo r t=>?_;show aci (w:=X.w) r t d f λz A u j g i=>?_;show⟨.none,_,F.update (tk:=u) (ao:=.ext<|b0 X.w<|l++[x]) a j g ⟨wn,i⟩,F.er a λb o v e=>(j.2 b v).trans e,.none,h⟩)
def EQ(c:w=X.w)(d:Ld X (Z9 "set") (.type "set"))(h:∀a,a∉O.map (·.1)->k (.ref a) ((a,.ext (b0 w []))::O)):Ev X ρ O (.Call (.Name (Z9 "set") px) [] [] pos) k:=λE s F=>by subst c;show Yu<|d E s px _ F.base<|callWith_type0<|Dy ?_;have b:=F.alloc (o:=jn<|fO X.w) (ao:=.ext<|b0 X.w []) (tk:=s.toks) rfl ⟨wn,acj X.w⟩;show⟨_,_,b,(jp<|c9 s.heap).trans<|am.of λf f e=>ZT _ e,.ref _,h _ λq=>F.fresh<|aL.mpr<|.inl q⟩
abbrev nz(d:Zw)(i n a:Nat)(f b c:ZN):Ze:={cls:=.type "dict_itemiterator",dict:=Z4,data:=.fields #[f,.bool ZX,.ref d,.int i 0,.int n 0,.int a 0,b,c],slots:=#[]}
abbrev kQ(a:κ->AV)(b:List (κ×AV)):List AV:=b.map λx=>.tup [a x.1,x.2]
abbrev Ay(a d:Zw)(n b:Nat)(i:Nat)(c:List (Zw×Ze)):Prop:=∃e f,c=[(a,nz d i n b .none e f)]
def acT(kf:iQ knd bY){g d:Zw}{f:List (κ×ZN)}{k:Nat}{J:Ze}{es:Array W4}{P:(Zw->Option Ze)->Ze->Prop}{l:List Zw}{m:Xq}{ts:List X7}{c:Nat}{p:Vk}(hd:J.data=.dict es k)(y:∀h:Xq,h.get? d=Z7 J->h.DictAt knd d f k)(pr:PR (cv l m) f aI):kj X l m (.Tuple ts c p) (.ref g) (kQ bY aI) (λO=>(d,az.ext (dh J P))∈O) (Ay g d f.length k)where
 item:=λi av hs ρ O s Q E t z M F st N=>by
  show fK z ?_;clear z;intro H I R;subst R;unfold kQ at t;rw[ZQ]at t;show aq (WQ.mp t) λS U V=>?_;rcases S with⟨x,a⟩;subst V;show aq (pr.get U) λv hv rv=>?_;show bV (F.kC<|Zq _ M) λo A e u'=>?_;subst e;have j:IsItemIter s.heap g d i f.length k H I:=F.iF<|.head _;show wpAny_pyNext_items_item j (y _ A) hv λu h' C D hT hsz hk=>?_;show N _ _ λQ2 E2 W=>?_;show wpAny_letOwnedTupleGo_items D λG Y r=>?_;have Z:g<s.heap.objs.size:=Zg j;have kk:∀b o,b∉([(g,nz d i f.length k .none H I)]:List (Zw×Ze)).map (·.1)->s.heap.get? b=Z7 o->G.get? b=Z7 o:=λb o w eb=>by
   have w:b≠g:=by simpa using w
   show(r.2 b w).trans<|hk b o w eb
  have RH:=F.hV (s':={s with heap:=G}) (hs':=[(g,nz d (i+1) f.length k .none u v)]) kk (λq hq=>by exists ZM.mp hq;show Y) (λa ha=>.inl ha) (by simp) F.gens rfl;have nT:s.heap.objs.size∉aa X (aJ [(g,nz d (i+1) f.length k .none u v)]++O):=λq=>by
   show aS (F.ex s.heap.objs.size (by
    show ZI (ce.mp q) (λq=>?_) λq=>?_;.show ce.mpr<|.inl q
    .show ce.mpr<|.inr q)) λo A=>?_;show absurd (Zg A)<|YH _
  show W _ _ (gh u v rfl) RH.1 RH.2 (.tup (n:=0) nT ((r.2 _<|Wg Z).trans hT)<|.cons (kf.of _ _ _ _ C)<|.cons ((rv.up.move st).move RH.2) .nil)
 done:=λhs ρ O s Q E z M F st N=>by show fK z ?_;clear z;intro H I jZ;subst jZ;show bV (F.kC<|Zq _ M) λo A e u'=>?_;subst e;have j:IsItemIter s.heap g d (kQ bY aI).length f.length k H I:=F.iF<|.head _;show wpAny_pyNext_items_end X.hh j (y _ A) (by rw[TU];(exists Z6 ..,pr.length ..);show ZR _) λh' U=>?_;have:=F.jt (s':={s with heap:=h'}) (λb o w eb=>U b o (by simpa using w) eb) F.gens rfl;show N _ this.1 this.2
def ch.items(Q:iQ knd bY){R:List X7}{c:Nat}{p:Vk}{o:X7}{k:List AV->ag->(ag->Prop)->Prop}(j:VN o (Z9 "items") X.env (eval o X.env)=eval o X.env)(l:(ir.endLine==pos.line)=ZW)(h:Ev X ρ O o λa g=>∃d aI,a=.ref d/\(d,az.ext (dP knd aI))∈g/\∀od,k (kQ bY aI) (aK g d (.ext (dh od (dP knd aI)))) λO=>(d,az.ext (dh od (dP knd aI)))∈O):ch X ρ O (.Tuple R c p) (.Call (.Attribute o (Z9 "items") ir) [] [] pos) k:=by
 intro E s F;revert knd bY Q j l h F;revert X ρ O pos ir R c p o k E s;revert κ;show@xR ?PT ((?fT:∀κ i,?PT κ i) _ _);intro κ inst;injections X ρ O pos ir R c p o k E s;intro knd bY Q j l h F;show wpAny_Call_method0_late j l<|wm (h E s F) λov f x=>?_;obtain⟨a,g,r,v,C,d,aI,e,V,hk⟩:=x;subst e;cases C.iR;show dI (r.pin V) λod m S D w=>?_;show aq S λn W pr=>?_;show cR W ?_;clear W;intro Y A G t u;have y:f.heap.DictOf knd d n:=VD.mpr<|uY od m Y A G t u;have I:∀h:Xq,h.get? d=Z7 od->h.DictAt knd d n A:=λh ho=>kM od Y ho G t u;have U:=sE (r.own _ V).a4;have dlt:d<f.heap.objs.size:=Zg m;show lY ("dict") ("dict.items") Vn Tc PySem.F.type_dict_items (ae od m G.1) (λb e=>by cases e;show ae od m G.2.1) ?_;show callWith_method0 (env:=X.env)<|QO Tc (ae od m G.1) PySem.F.entry_dict_items (PySem.F.args_dict_items_1 _) (meets_dict_items knd d U) ⟨⟨n,y⟩,?_⟩;have N:∀b o,f.heap.get? b=Z7 o->(f.heap.push {cls:=.type "dict_items",data:=.fields #[.ref d]}).get? b=Z7 o:=λb o e=>ZT _ e;generalize hH:f.heap.push {cls:=.type "dict_items",data:=.fields #[.ref d]}=H at N;have hv:H.get? f.heap.objs.size=Z7 {cls:=.type "dict_items",data:=.fields #[.ref d]}:=hH▸Zu _ rfl;show wpAny_pyIter_items (s:={f with heap:=H}) (ep:=A) (bl _ hv rfl rfl) (I _<|N _ _ m) ?_;have J:Fr X ρ (aJ []++aK g d (.ext<|dh od<|dP knd aI)) {f with heap:=H}:=D.keeps (h':=H) (tk:=f.toks) N;have z:am (aa X g) f.heap (aa X<|aK g d<|.ext<|dh od<|dP knd aI) H:=w.trans<|am.of N;have Z:=J.hV (s':={f with heap:=H.push (nz d 0 n.length A .none .none .none)}) (hs':=[(H.objs.size,nz d 0 n.length A .none .none .none)]) (λb o u' e=>ZT _ e) (λq hq=>by exists ZM.mp hq;show Zu _ rfl) (λa ha=>by
   have:a=H.objs.size:=by simpa using ha
   subst this;show .inr<|c9 _) (by simp) r.gens rfl;have M:=z.trans Z.2;show⟨kQ bY aI,_,Ay H.objs.size d n.length A,_,_,acT Q (P:=dP knd aI) t I<|pr.mono<|o6 M,(gh (.none) (.none) rfl),Z.1,v.trans M,hk od⟩
end
abbrev Cv(X:Fx)(c:Loc)(O:ag)(a:Loc)(b:ag):Prop:=∀s,Fr X c O s->Fr X a b s/\am (aa X O) s.heap (aa X b) s.heap
section
variable{X:Fx}{ρ ρ' Eg:Loc}{O O' dy:ag}{s s':ZL}{E:ZN->ZL->Prop}{k:AV->ag->Prop}{kb:Bool->ag->Prop}{K:Kn}{pos px ir:Vk}
variable{κ:Type}[DecidableEq κ]{knd:KeyKind pw X.w κ}{bY:κ->AV}{aI:List (κ×AV)}
def Cv.refl:Cv X ρ O ρ O:=λs F=>⟨F,.refl _ _⟩
def Cv.trans(h:Cv X ρ O Eg dy)(q:Cv X Eg dy ρ' O'):Cv X ρ O ρ' O':=λs F=>let⟨a,d⟩:=h s F;let⟨b,c⟩:=q s a;⟨b,d.trans c⟩
def Cv.sub(h:Sub ρ' ρ):Cv X ρ O ρ' O:=λs F=>⟨F.sub h,.refl _ _⟩
def Cv.drop(h:O'.Sublist O):Cv X ρ O ρ O':=λs F=>⟨F.drop h,F.f9 h⟩
def Cv.perm(h:O.Perm O'):Cv X ρ O ρ O':=λs F=>by have d:am (aa X O) s.heap (aa X O') s.heap:=λa o f e=>⟨λq=>f<|aL.mpr<|(aL.mp q).imp (λg=>(h.map (·.1)).mem_iff.mpr g) id,e⟩;show⟨F.move d (λa o b b e=>e) F.gens rfl (λo e=>e) (λb c b o e=>e) (λq b e=>e) (λp i=>let⟨j,k,l,m,o,n,r⟩:=F.own p<|h.mem_iff.mpr i;⟨j,k,l,m,o,n,r.move d⟩)<|(h.map (·.1)).nodup_iff.mp F.nd,d⟩
def Cv.pj(b:(r,az.list l)∈O):Cv X ρ O (ia r l ρ) (ot O r):=λs F=>F.pj b λq=>by
 show ZI ((F.own _ b).1) (λz=>?_) λz=>?_;.show aS (X.old _ q) λo a=>?_;have z:X.h₀.get? r=Z4:=z;replace a:=z▸a;cases a
 .show X.eh _ z q
def Ex.cv(c:Cv X ρ O ρ' O')(h:Ex X ρ' O' b K):Ex X ρ O b K:=λE s F=>by show aE (c s F) λd e=>?_;show wm (h _ s d) λfl a x=>.from e x
abbrev Kn.cv(X:Fx)(K:Kn):Kn:=⟨λρ O=>∃ρ' O',Cv X ρ O ρ' O'/\K.nx ρ' O',K.rt,λρ O=>∃ρ' O',Cv X ρ O ρ' O'/\K.bk ρ' O',λρ O=>∃ρ' O',Cv X ρ O ρ' O'/\K.ct ρ' O'⟩
def eZ.post(x:eZ X O s (K.cv X) i j):eZ X O s K i j:=by show iy x ?_;clear x;intro e f F h x;cases i with|next=>show ec x ?_;clear x;intro a b c q;show aE (c _ F) λg d=>?_;show⟨a,b,g,h.trans d,q⟩;|brk=>show ec x ?_;clear x;intro a b c q;show aE (c _ F) λg d=>?_;show⟨a,b,g,h.trans d,q⟩;|cont=>show ec x ?_;clear x;intro a b c q;show aE (c _ F) λg d=>?_;show⟨a,b,g,h.trans d,q⟩;|ret v=>show⟨e,f,F,h,x⟩
def Es.post(h:Es X ρ O b (K.cv X)):Es X ρ O b K:=λE s F=>wm (h E s F) λa a x=>x.post
def Ex.post(h:Ex X ρ O b (K.cv X)):Ex X ρ O b K:=λE s F=>wm (h E s F) λa a x=>x.post
def Ts.plain(h:Ev X ρ O e λa dy=>Tr X ρ dy a kb)(l:Pk e X.env (eval e X.env)=(do let v<-eval e X.env;W1 e.pos;holding [v] (truthy v))):Ts X ρ O e kb:=λE s F=>isTrue_plain (wm (h _ s F) λv d j=>ba j λm dy f b g i=>wm (i _ d _ f g) λc k x=>.from b x) l
def xa(h:kb ZX O):Cm X ρ O .Is (.int i) .none kb:=λE s u v F a b=>by cases b.iN;cases a.iI;show is_none_ne (λq=>nomatch q)<|cX F h
def xb(h:kb ZX O):Cm X ρ O .IsNot .none .none kb:=λE s u v F a b=>by cases b.iN;cases a.iN;show isNot_none<|cX F h
abbrev je(a:List (κ×Zw))(f:κ->List AV):ag:=a.map λp=>(p.2,.list<|f p.1)
abbrev cH(a:List (κ×Zw)):List (κ×AV):=a.map λp=>(p.1,.ref p.2)
abbrev c6(a:List (κ×Zw))(f:κ->List AV):List (κ×AV):=a.map λp=>(p.1,.lst<|f p.1)
def Fi{K:Type}[DecidableEq K]{g c:Zw->Option Ze}{f:K->List AV}{b:List (K×Zw)}{a:List (K×ZN)}(h:∀p∈b,cJ c (.ref p.2) (.lst (f p.1)))(q:PR g a (cH b)):PR c a (c6 b f):=by induction b generalizing a with|nil=>cases q;show .nil;|cons p b d=>cases q with|cons y e=>show ec y ?_;clear y;intro D j k r;cases r.iR;show .cons (h _<|.head _)<|d (λp i=>h p<|.tail _ i) e
def EG{d:Zw}{a:List (κ×Zw)}{f:κ->List AV}:Cv X ρ ((d,.ext (dP knd (cH a)))::(je a f++O)) ρ ((d,.ext (dP knd (c6 a f)))::O):=by
 intro s F;revert knd a f F;revert X ρ O d s;revert κ;show@xR ?E ((?R:∀κ i,?E κ i) _ _);intro κ inst;injections X ρ O d s;intro knd a f F;have k:((d,az.ext<|dP knd<|cH a)::O).Sublist ((d,.ext<|dP knd<|cH a)::(je a f++O)):=.cons_cons _<|VU _ _;have c:=F.drop k;have g:=F.f9 k;have v:=F.nd;rw[Z3,ZC,ZF,ZS,YT]at v;have l:=c.nd;rw[Z3,ZC]at l;obtain⟨m,m,m,m,od,w,x,y,G,H⟩:=c.own _<|.head _;have A:∀p∈a,cJ (cv (aa X ((d,az.ext<|dP knd<|cH a)::O)) s.heap) (.ref p.2) (.lst<|f p.1):=λp C=>by
  have r:(p.2,az.list<|f p.1)∈je a f:=Z0.mpr<|ae p C rfl;have I:(p.2,az.list<|f p.1)∈(d,az.ext<|dP knd<|cH a)::(je a f++O):=.tail _<|Zk _ r;have t:p.2∈(je a f).map (·.1):=Z0.mpr<|ae _ r rfl;obtain⟨J,M,D,S,o,u,U,n,rfl,N⟩:=F.own _ I;show cJ.of<|.lst (λz=>?_) u<|N.move g;show fJ z (λz=>?_) (λz=>?_) (λQ z=>?_) (λz=>?_) λV z=>?_
  .replace z:=Z3▸z;show ZI (Z1.mp z) (λz=>?_) λz=>?_;.show v.1<|.inl<|z▸t
   .show v.2.2.2 _ t _ z rfl
  .show M z
  .show D.1 Q _ z rfl
  .show ZI J (λq=>?_) λq=>?_;.show aS (X.old _ z) λo u=>?_;have q:X.h₀.get? p.2=Z4:=q;replace u:=q▸u;cases u
   .show X.eh _ q z
  .show D.2 _ z rfl
 have j:=c.upd (tk:=s.toks) (ao:=.ext<|dP knd<|c6 a f) (.head _) (λb o m e=>e) w<|nt o9 y G<|Fi A H;have h:=c.er (ao:=.ext<|dP knd<|c6 a f) (h':=s.heap) (.head _) λb o m e=>e;have e:aK ((d,az.ext<|dP knd<|cH a)::O) d (.ext<|dP knd<|c6 a f)=(d,.ext<|dP knd<|c6 a f)::O:=by
  unfold aK;exists Z3,if_pos rfl;congr 1;conv=>rhs;rw[<-VZ O]
  show Yo λp C=>if_neg (λe:p.1=d=>l.1<|Z0.mpr<|ae p C e)
 rw[e]at j h;show⟨j,g.trans h⟩
end
def Lu:bz (dM b n a)=bz ((n,a)::b):=by
 have p:∀y,(dM b n a).lookup y=Vr y ((n,a)::b):=λy=>by
  (exists l5,ZG);by_cases e:y=n;·(exists if_pos e;show aW (beq_iff_eq.mpr e) rfl)
  ·(exists if_neg e;show aW (beq_eq_false_iff_ne.mpr e) rfl)
 show funext λg=>funext λo=>propext ⟨Au λy=>(p y).symm,Au p⟩
structure dw(x dx:Zw)(ox:Ze):Prop where
 cls:ox.cls=.ref 242
 Bv:∀c,ox.data≠.cls c
 mW:ox.dict=some dx
 ne:dx≠x
abbrev aN(x a:Zw)(b:Ze)(c:Loc)(R:ag):ag:=(x,.other b)::(a,.ext<|bz c)::R
def dw.inst(I:dw x a b):ke (aN x a b c R) x a c:=⟨(db b (.head _) I.cls I.Bv I.mW),I.ne,.tail _<|.head _⟩
def i5:∀n∈[Z9 "isjunk",Z9 "a",Z9 "b",Z9 "autojunk",Z9 "matching_blocks",Z9 "opcodes",Z9 "fullbcount",Z9 "b2j",Z9 "bjunk",Z9 "bpopular"],e8 n:=by intro n a;ext n;simp only[Z1,Zn,or_false]at a;rcases a with rfl|rfl|rfl|rfl|rfl|rfl|rfl|rfl|rfl|rfl<;>show⟨λb=>by kernel_rfl,by(exists Y0 ..,Zl ..);kernel_rfl⟩
def zk:e8 (Z9 "isjunk"):=i5 _<|.head _
def pf:e8 (Z9 "a"):=i5 _<|.tail _<|.head _
def nf:e8 (Z9 "b"):=i5 _<|mI 2 rfl
def zh:e8 (Z9 "autojunk"):=i5 _<|mI 3 rfl
def pg:e8 (Z9 "matching_blocks"):=i5 _<|mI 4 rfl
def rj:e8 (Z9 "opcodes"):=i5 _<|mI 5 rfl
def IR:e8 (Z9 "fullbcount"):=i5 _<|mI 6 rfl
def zi:e8 (Z9 "b2j"):=i5 _<|mI 7 rfl
def zj:e8 (Z9 "bjunk"):=i5 _<|mI 8 rfl
def IQ:e8 (Z9 "bpopular"):=i5 _<|mI 9 rfl
def NV:∀P,Wi (cw (gw P)) (Z9 "__setattr__")=Z4:=λa=>by kernel_rfl
def CU{O:ag}{p q r:az}(F:Fr X c ((x,p)::(a,q)::O) s):aK ((x,p)::(a,q)::O) a r=(x,p)::(a,r)::O:=by
 ext X c x a s O p q r;have b:=F.nd;rw[Z3,ZC,Z3,ZC]at b;unfold aK;exists Z3,Z3,if_pos rfl,(if_neg (λe:x=a=>b.1<|e▸.head _));congr 2;conv=>rhs;rw[<-VZ O]
 show Yo λp d=>if_neg (λe:p.1=a=>b.2.1<|Z0.mpr<|ae p d e)
def fC{X:Fx}{g:Loc}{R:ag}{k:AV->ag->Prop}{a b:Vk}{i j}(l:Ok X i j){self name:ZD}{x c:Zw}{f:Ze}{d:Loc}{e:AV}(I:dw x c f)(m:g.lookup self=Z7 (.ref x))(n:d.lookup name=Z7 e)(p:uI e)(s:e8 name)(h:k e (aN x c f d R))(t:eval (.Attribute (.Name self b) name a) X.env=(do let o<-eval (.Name self b) X.env;W1 a.atName;let r<-holding [o] (RB o name ZW);Va (.Name self b) o r;pure r):=by rfl):Ev X g (aN x c f d R) (.Attribute (.Name self b) name a) k:=.attr (aj l m ⟨x,c,d,e,rfl,I.inst,n,p,s,h⟩) t
def ew{j l}(m:Ok X j l){c:Loc}{g:Loc->ag->Prop}(I:dw x b f)(n:d.lookup self=Z7 (.ref x))(o:c.length<=1000)(p:e8 name)(h:g d (aN x b f ((name,a)::c) R)):cK X d (aN x b f c R) (.Attribute (.Name self i) name e) a g:=λE s v F r=>by show cK.attr (k:=g) (aj m n ⟨x,b,c,rfl,I.inst,o,p,NV,?_⟩) E s v F r;exists Lu,CU F;show h
def x0(P):(ar P).get? 174=Z7 BR:=⋯
def F4(P):(ar P).get? 173=Z7 BQ:=⋯
def ace{c:Loc}(b:X.A.depth<ZU)(I:dw x e f)(g:c.length<900)(l:c.lookup (Z9 "a")=Z7 .none)(m:k .none (aN x e f ((Z9 "opcodes",.none)::(Z9 "matching_blocks",.none)::(Z9 "a",.lst a)::c) []++O)):ax X j (aN x e f c []++O) (.ref 174) [.ref x,.lst a] k:=by
 show j6 (nm:=Z9 "set_seq1") (name:=Z9 "SequenceMatcher.set_seq1") (params:=cY oF) (body:=aA oF) (scope:=aw oF) (pm:=_) (ca:=173) (doc:=_) (ns:=[Z9 "self",Z9 "a"]) b (x0 _) rfl (F4 _) rfl rfl (λn h=>?_) dk dk dk rfl rfl rfl λY C=>?_;.show kS h λi i=>rfl
 .show C.run ⋯ λL o=>?_;have d:=C.ok ⋯;show stM<|fC d I rfl l trivial pf ?_;show ZK (λz=>(nF z)) λi=>?_;show stM<|ew d I rfl (Ye<|QR g<|by decide) pf ?_;show stM<|ew d I rfl (by exists ZO;show(ak 0x64b0ebc384c40f889e10) g) pg ?_;show stM<|ew d I rfl (by exists ZO,ZO;show(ak 0x325875e1c26207c44f889e10) g) rj ?_;show m
section
variable{X:Fx}{ρ ρ':Loc}{O O' R:ag}{s:ZL}{E:ZN->ZL->Prop}{k:AV->ag->Prop}{K:Kn}{pos px:Vk}
variable{κ:Type}[DecidableEq κ]{knd:KeyKind pw X.w κ}
def Cv.mem(h:∀p∈O',p∈O)(g:(O'.map (·.1)).Nodup):Cv X ρ O ρ O':=λs F=>by
 have d:am (aa X O) s.heap (aa X O') s.heap:=λa o i e=>⟨λq=>i (aL.mpr ((aL.mp q).imp (λj=>by show cu j λp f=>?_;show Z0.mpr<|ae p (h p f) rfl) id)),e⟩;show⟨F.move d (λa o b b e=>e) F.gens rfl (λo e=>e) (λb c b o e=>e) (λq b e=>e) (λp f=>let⟨k,l,m,n,o,r,t⟩:=F.own p<|h p f;⟨k,l,m,n,o,r,t.move d⟩) g,d⟩
def cK.cv{i:Loc->ag->Prop}(c:Cv X ρ O ρ' O')(h:cK X ρ' O' t a i):cK X ρ O t a i:=λE s v F r=>by show aE (c s F) λk j=>?_;show wm (h E s v k<|r.move j) λl m g=>cR g λb e f d z=>bX b e f (j.trans d) z
def oS:Cv X ρ (p::aN x a b c R) ρ (aN x a b c (p::R)):=.perm (Tm (l₁:=[(x,az.other b),(a,az.ext<|bz c)])).symm
def lx(h:(O.map (·.1)).Nodup->Es X ρ O b K):Es X ρ O b K:=λE s F=>h F.nd E s F
def jO(h:p∈O)(b:p.1≠a):p∈aK O a r:=Z0.mpr<|ae p h<|if_neg b
def EH{x j d:Zw}{l:Ze}{k lO:Loc}{P:(Zw->Option Ze)->Ze->Prop}{b:AV}(A:∀D h o,d∉D->h.get? d=Z7 o->(d==Vt)=ZX->P (cv D h) o->aB D h (.ref d) b)(w:∀n,lO.lookup n=k.lookup n\/(k.lookup n=Z7 (.ref d)/\lO.lookup n=Z7 b)):Cv X ρ (aN x j l k ((d,.ext P)::R)) ρ (aN x j l lO R):=by
 intro s F;revert A w F;injections X ρ R x j d l k lO P b s;intro A w F;have p:(aN x j l k R).Sublist (aN x j l k ((d,.ext P)::R)):=.cons_cons _<|.cons_cons _<|Yc _ _;have c:=F.drop p;have g:=F.f9 p;have y:=F.nd;simp only[aN,Z3,ZC,Z1,not_or]at y;obtain⟨O,Q,J,S,o,t,U,V⟩:=F.own (d,.ext P)<|mI 2 rfl;have C:d∉aa X (aN x j l k R):=λz=>by
  show fJ z (λz=>?_) (λz=>?_) (λW z=>?_) (λz=>?_) λo' z=>?_
  .simp only[aN,Z3,Z1]at z;show ZI z (λz=>?_) λY=>ZI Y (λz=>?_) λz=>?_;.show y.1.2.1 z.symm
   .show y.2.1.1 z.symm
   .show y.2.2.1 z
  .show Q z
  .show J.1 W _ z rfl
  .show ZI O (λq=>?_) λq=>?_;.show aS (X.old _ z) λo t=>?_;have q:X.h₀.get? d=Z4:=q;replace t:=q▸t;cases t
   .show X.eh _ q z
  .show J.2 _ z rfl
 have Z:cJ (cv (aa X<|aN x j l k R) s.heap) (.ref d) b:=cJ.of<|A _ _ o C t (sE S)<|U _ _ _ (o6 g) V;obtain⟨od,E,es,ep,m,q1,q2,q3,q4,M,q6⟩:=c.kC<|.tail _<|.head _;have u:s.heap.get? j=Z7 od:=E;have i:=c.upd (tk:=s.toks) (ao:=.ext<|bz lO) (a:=j) (h':=s.heap) (.tail _<|.head _) (λb o u' e=>e) u ⟨uZ,es,ep,m,q1,q2,q3,q4,λn av e=>?_,λn e=>?_⟩;have f:=c.er (ao:=.ext<|bz lO) (a:=j) (h':=s.heap) (.tail _<|.head _) λb o u' e=>e;.unfold aN at c i f;rw[CU c]at i f;show⟨i,g.trans f⟩
 .show ZI (w n) (λz=>?_) λG=>aE G λN H=>?_;.show M n av<|z▸e
  .replace e:=H▸e;cases e;obtain⟨v,hv,D,hh,hcv,r⟩:=M n _ N;cases r.iR;show ae _ hv Z
 .show ZI (w n) (λz=>?_) λI=>aE I λN H=>?_;.show q6 n<|z▸e
  .replace e:=H▸e;cases e
def HL{a:List (κ×AV)}{d:Zw}:∀D h o,d∉D->h.get? d=Z7 o->(d==Vt)=ZX->dP knd a (cv D h) o->aB D h (.ref d) (ix knd a):=λD h o hd e n q=>.ext HM (kM d o rfl n (by unfold cv;exists if_neg hd;show e) q)
def ER(b:w=X.w)(c:Ld X (Z9 "set") (.type "set"))(h:k (eU w λd=>ZX) O):Ev X ρ O (.Call (.Name (Z9 "set") px) [] [] pos) k:=λE s F=>by exists b;show Yu<|c E s px _ F.base<|callWith_type0<|Dy ?_;have g:=c7.push s (jn<|fO X.w) s.toks;have a:=F.grow g;show⟨_,O,a,g.jW,.ext Dx<|gi _ (jn<|fO X.w) 0 rfl ?_ (by decide)<|RW _,h⟩;unfold Mine.Internal.cv;exists if_neg F.fresh;show Zu _ rfl
end
def Sub.cc(h:Sub c d)(x)(a):Sub ((x,a)::c) ((x,a)::d):=λy b e=>by rw[ZG]at e⊢;cases q:y==x with|true=>rw[q]at e;show e;|false=>rw[q]at e;show h y b e
def Tg.ex{c d}(f:Ok X c d){e:Loc->Prop}(h:(na X c d b O t a e id).p):Tg X b O t a e:=(na X c d b O t a e id).h f h
def Bn.fdiv(d:b≠0)(e:Builtin.divisionGoesByPylong a b=ZX)(h:k (.int (a.fdiv b)) O):Bn X c O .FloorDiv (.int a) (.int b) k:=λE s u v F f g=>by cases f.iI;cases g.iI;show PyProof.Rows.floordiv_int d (.done F (.tok _ _) (.int _ _) h)<|.inl e
def Ok.holds{a b}{c:cW X (hs.map (·.1))}(h:Ok X a b):Ok (X.holds hs c) a b:=⟨h.loc,h.glob,h.lM⟩
def Ok.ld{a b}(h:Ok X a b)(c:a x=Z7 .globalImplicit)(d:b.lookup x=Z7 (.val v)):Ld X x v:=(h.glob x _ c d).1
abbrev bW:YR->List YR
 |.For _ _ b _ _=>b|.While _ b _ _=>b|.If _ b _ _=>b|_=>[]
abbrev aT(b:List YR)(i:Nat):YR:=b.getD i<|.Pass default
def di{A B:ag}(c:((A++(p,r)::B).map (·.1)).Nodup):aK (A++(p,r)::B) p r'=A++(p,r')::B:=by
 ext p r r' A B;rw[ZF,YT,Z3,ZC]at c;have a:∀{C:ag},(∀q∈C,q.1≠p)->C.map (λq=>if q.1=p then(q.1,r')else q)=C:=λ{C}h=>by
  conv=>rhs;rw[<-VZ C]
  show Yo λq b=>if_neg<|h q b
 unfold aK;(exists ZF,Z3,if_pos rfl,(a λq b e=>c.2.2 _ (Z0.mpr<|ae q b e) p (.head _) rfl);show aW (a λq b e=>c.2.1.1<|Z0.mpr<|ae q b e) rfl)
def EI(A){B:ag}(h:qJ c)(i:∀g o,P g o->c g o):Cv X f (A++(p,.ext P)::B) f (A++(p,.ext c)::B):=by intro s F;revert h i F;injections c P X f p A B s;intro h i F;have a:(p,az.ext P)∈A++(p,az.ext P)::B:=Zq _<|.head _;obtain⟨d,d,d,d,od,m,j,n⟩:=F.own _ a;have k:=F.upd (tk:=s.toks) (ao:=.ext c) (h':=s.heap) a (λb o d e=>e) m ⟨h,i _ _ n⟩;have l:=F.er (ao:=.ext c) (h':=s.heap) a λb o d e=>e;rw[di F.nd]at k l;show⟨k,l⟩
def x2(P):(ar P).get? 188=Z7 BW:=⋯
def F6(P):(ar P).get? 187=Z7 BV:=⋯
abbrev bp(b:List ZD)(i:Nat)(e:ZD):List AV:=((YY i).filter λ(j:Nat)=>decide<|b[j]?=Z7 e).map λ(j:Nat)=>.int (j:Int)
def Am(h:b[i]?=Z7 e):bp b (i+1) e=bp b i e++[.int i]:=by unfold bp;rw[VH,X0,ZF];simp[h]
def Ao(h:b[i]?≠Z7 e):bp b (i+1) e=bp b i e:=by unfold bp;rw[VH,X0,ZF];simp[h]
structure qH(b:List ZD)(i:Nat)(ps:List (ZD×Zw)):Prop where
 nd:(ps.map (·.1)).Nodup
 mem:∀e,e∈ps.map (·.1)↔e∈b.take i
 len:ps.length<=i
abbrev kr(w:Yg)(x b:Zw)(c:Ze)(e:Loc)(d:Zw)(a:List (ZD×Zw))(f:ZD->List AV):ag:=aN x b c e ((d,.ext<|dP (Zz pw w)<|cH a)::je a f)
def Hh:(kr w x a ox fl d b f).map (·.1)=x::a::d::b.map (·.2):=by unfold kr aN je;simp only[Z3,YE];rfl
structure eW(w:Yg)(x dx:Zw)(ox:Ze)(fl:Loc)(d:Zw)(b:List ZD)(i:Nat)(ps:List (ZD×Zw))(O':ag):Prop where
 keys:qH b i ps
 nd:(x::dx::d::ps.map (·.2)).Nodup
 sub:∀p∈kr w x dx ox fl d ps (bp b i),p∈O'
def D4{b:List ZD}(h:b[i]?=Z7 e):b.take (i+1)=b.take i++[e]:=by exists Zc,h;rfl
def uS(h:e∉b.take i):bp b i e=[]:=by unfold bp;rw[Uw,XJ];intro j a q;have q:=of_decide_eq_true q;show h<|YV (i:=j) ?_;exists Vz,if_pos<|XR.mp a;show q
def eW.dict(C:eW w x e f g d b i a c):(d,az.ext (dP (Zz pw w) (cH a)))∈c:=C.sub _<|mI 2 rfl
def eW.lst(C:eW w x g j k d b i c f)(h:(e,a)∈c):(a,az.list (bp b i e))∈f:=C.sub _<|.tail _<|.tail _<|.tail _<|Z0.mpr<|ae _ h rfl
def CS{k:Type}(f:ZD×Zw->k):∀{c:List (ZD×Zw)},(c.map f).Nodup->∀{p q:ZD×Zw},p∈c->q∈c->f p=f q->p=q:=by intro l;induction l with|nil=>showλ_ _ _ h _ _=>nM h;|cons r c m=>
  intro d p q n i e;rw[Z3,ZC]at d;show ZI (Z1.mp n) (λj=>?_) λb=>?_
  .show ZI (Z1.mp i) (λg=>?_) λa=>?_;.exists j;show aW g rfl
   .show absurd (Z0.mpr<|ae q a (by exists ZJ e;show aW j rfl)) d.1
  ·show ZI (Z1.mp i) (λg=>?_) λa=>?_;.show absurd (Z0.mpr<|ae p b (by exists e;show aW g rfl)) d.1
   ·show m d.2 b a e
def eW.old(C:eW w x c k l d b i f m)(n:b[i]?=Z7 e)(h:(e,a)∈f):eW w x c k l d b (i+1) f (aK ((D,.list [])::m) a (.list (bp b i e++[.int i]))):=by
 ext w x c k l d b i f m e a D;have o:a∈f.map (·.2):=Z0.mpr<|ae _ h rfl;have r:=C.nd;simp only[ZC,Z1,not_or]at r;show gM r ?_;clear r;intro s t E F;show dt s λI J G=>?_;show aE t λM H=>?_;show⟨⟨C.keys.nd,λy=>?_,X5 C.keys.len⟩,C.nd,λp j=>?_⟩
 .rw[D4 n,ZS,ZM,C.keys.mem y];constructor;.show .inl
  .rintro(q|rfl);.show q
   .show(C.keys.mem _).mp<|Z0.mpr<|ae _ h rfl
 .simp only[kr,aN,Z1]at j;rcases j with rfl|rfl|rfl|j;.show jO (.tail _<|C.sub _<|.head _) λq=>G<|show x∈_ from(show x=a from q)▸o
  .show jO (.tail _<|C.sub _<|.tail _<|.head _) λq=>H<|show c∈_ from(show c=a from q)▸o
  .show jO (.tail _ C.dict) λq=>E<|show d∈_ from(show d=a from q)▸o
  .show aq (Z0.mp j) λu v A=>?_;rcases u with⟨y,g⟩;subst A;by_cases z:g=a;.subst z;cases CS _ F v h rfl;exists Am n;show vZ<|.tail _<|C.lst h
   .have:b[i]?≠Z7 y:=λq=>by replace q:=n▸q;cases q;show z<|congrArg Wt<|CS _ C.keys.nd v h rfl
    exists Ao this;show jO (.tail _<|C.lst v) z
def eW.new(C:eW w x k n o d b i c t)(F:b[i]?=Z7 e)(h:e∉c.map (·.1))(R:a∉t.map (·.1)):eW w x k n o d b (i+1) (c++[(e,a)]) (aK (aK ((a,.list [])::t) d (.ext (dP (Zz pw w) (cH c++[(e,.ref a)])))) a (.list ([]++[.int i]))):=by
 ext w x k n o d b i c t e a;have A:∀p∈kr w x k n o d c (bp b i),p.1≠a:=λp g q=>R<|q▸Z0.mpr (ae p (C.sub p g) rfl);have Q:=C.nd;have r:a∉x::k::d::c.map (·.2):=λq=>by rw[<-Hh (w:=w) (ox:=n) (fl:=o) (f:=bp b i)]at q;show aq (Z0.mp q) λp g e=>?_;show A p g e
 have S:e∉b.take i:=λq=>h<|(C.keys.mem e).mpr q;simp only[Z1,not_or]at r;show gM r ?_;clear r;intro U V G W;have s:=Q;simp only[ZC,Z1,not_or]at s;show gM s ?_;clear s;intro H I X n7;show dt H λn1 Y n3=>?_;show aE I λZ n5=>?_;have dd:(d,az.ext<|dP (Zz pw w)<|cH c++[(e,AV.ref a)])∈aK ((a,.list [])::t) d (.ext<|dP (Zz pw w)<|cH c++[(e,AV.ref a)]):=vZ<|.tail _ C.dict;have j:∀p∈kr w x k n o d c (bp b i),p.1≠d->p∈aK (aK ((a,.list [])::t) d<|.ext<|dP (Zz pw w)<|cH c++[(e,.ref a)]) a (.list<|[]++[.int i]):=λp g hd=>jO (jO (.tail _<|C.sub p g) hd)<|A p g;show⟨⟨?_,λy=>?_,?_⟩,?_,λp g=>?_⟩;.rw[ZF,YT];show br C.keys.nd (by simp) λu E v D q=>h ?_;simp only[Z3,Y4,ZM]at D;exists ZJ D,ZJ q;show E
 .rw[D4 F,ZF,ZS,ZS,C.keys.mem y];rfl
 .exists ZV;show Ws C.keys.len
 .have e1:x::k::d::(c++[(e,a)]).map (·.2)=(x::k::d::c.map (·.2))++[a]:=by simp
  rw[e1,YT];show br Q (by simp) λu E v D q=>?_;rw[ZM]at D;subst D;subst q;simp only[Z1]at E;show ZI E (λz=>?_) λJ=>ZI J (λz=>?_) λJ=>ZI J (λz=>?_) λz=>?_;.show U z
  .show V z
  .show G z
  .show W z
 .simp only[kr,aN,Z1]at g;rcases g with rfl|rfl|rfl|g;.show j _ (.head _) Y
  .show j _ (.tail _<|.head _) Z
  .have:cH (c++[(e,a)])=cH c++[(e,AV.ref a)]:=by unfold cH;exists ZF;rfl
   exists this;show jO dd<|Xb G
  .show aq (Z0.mp g) λM l N=>?_;rcases M with⟨y,m⟩;subst N;show ZI (ZS.mp l) (λl=>?_) λl=>?_
   .have hy:b[i]?≠Z7 y:=λq=>by replace q:=F▸q;cases q;show h<|Z0.mpr<|ae _ l rfl
    exists Ao hy;have O:(m,az.list<|bp b i y)∈kr w x k n o d c (bp b i):=.tail _<|.tail _<|.tail _<|Z0.mpr<|ae _ l rfl;show j _ O λq=>X<|show d∈_ from(show m=d from q)▸Z0.mpr (ae _ l rfl)
   .rw[ZM]at l;cases l;exists Am F,uS S;show vZ<|jO (p:=(a,az.list [])) (.head _) G
def AD{e:ZD}:(∀v,bg (cH b) e=Z7 v->∃a,(e,a)∈b/\v=.ref a)/\(bg (cH b) e=Z4->e∉b.map (·.1)):=by induction b with|nil=>show⟨λv h=>(by cases h),λi h=>(by cases h)⟩;|cons p b c=>
  obtain⟨y,a⟩:=p;by_cases z:y=e;.exists z;show⟨λv h=>ae a (.head _)<|by simpa[bg,cH]using h.symm,λh=>by simp[bg,cH]at h⟩
  .have d:bg (cH ((y,a)::b)) e=bg (cH b) e:=by simp[bg,cH,z]
   exists d;show⟨λv h=>let⟨a,f,g⟩:=c.1 v h;(ae a (.tail _ f) g),λh q=>?_⟩;replace q:=Z3▸q;show ZI (Z1.mp q) (λq=>?_) λq=>?_;.show z q.symm
   .show c.2 h q
def An(b)(i)(e):(bp b i e).length<=i:=by unfold bp;rw[Z6];show ZY (V2 _ _) (by exists Xi;show ZR _)
def Hm{m:Loc}{K:Kn}(c:Ok Y (λx=>(aw dO).names.lookup x) aY)(I:Y.env=Y8 (Z9 "SequenceMatcher.__chain_b") (aw dO) L 188 (Zr 187))(r:b[i]?=Z7 e)(F:b.length<=1000)(C:eW Y.w x n o p d b i f l)(h:∀v G s,eW Y.w x n o p d b (i+1) s G->K.nx ((Z9 "indices",v)::(Z9 "elt",.str e)::(Z9 "i",.int i)::(Z9 "b2j",.ref d)::m) G):Ex Y ((Z9 "elt",.str e)::(Z9 "i",.int i)::(Z9 "b2j",.ref d)::m) l (bW (aT (aA dO) 2)) K:=by
 ext Y L b i e x n o p d f l m K;have H:i<b.length:=(Zv.mp r).1;have t:f.length<=i:=C.keys.len;have u:(cH f).length=f.length:=Z6 _;have w:=An b i e;show run c I ?_;show stM<|tt Vn UD PySem.F.type_dict_setdefault rfl rfl rfl rfl<|aj c rfl ⟨kn.dict (knd:=Zz pw Y.w)<|.inl<|bX d _ rfl C.dict λJ J z=>z,.cons rfl<|aj c rfl<|.cons rfl<|.list<|.nil ⟨ZZ _,λj k=>.nil<|EA (rS _) (.tail _ C.dict) (<-(ay 0x613103c5910f0326881c061e811e17) F H t u) (λv y=>?_) λy=>?_⟩⟩;.show aq (AD.1 v y) λa g A=>?_;exists A;show stM<|cV Zj Zi rfl rfl rfl<|aj c rfl ⟨⟨_,.inr<|ae a rfl<|.tail _<|C.lst g⟩,aj c rfl<|ax.append (.tail _<|C.lst g) (by exists Zx;show(ai 0xc262078b221e061c060180601845e14) F H w) ?_⟩;show h _ _ _<|C.old r g
 .have D:=AD.2 y;have E:j≠d:=λq=>k<|q▸Z0.mpr (ae _ C.dict rfl);have g:(j,az.list [])∈aK ((j,.list [])::l) d (.ext<|dP (Zz pw Y.w)<|cH f++[(e,AV.ref j)]):=jO (.head _) E;show stM<|cV Zj Zi rfl rfl rfl<|aj c rfl ⟨⟨_,.inr<|ae j rfl g⟩,aj c rfl<|ax.append g (by exists Zx;show ZZ _) ?_⟩;show h _ _ _<|C.new r D k
def abj{k:Loc}{K:Kn}(m:Ok Y (λx=>(aw dO).names.lookup x) aY)(s:Y.env=Y8 (Z9 "SequenceMatcher.__chain_b") (aw dO) L 188 (Zr 187))(t:[x,b,a,d].Nodup)(n:g.length<=1000)(u:e∉l)(v:l.length+1<4000)(h:K.nx ((Z9 "idxs",.lst g)::(Z9 "elt",.str e)::(Z9 "ntest",.int j)::(Z9 "popular",.ref a)::k) (aN x b c f [(a,.ext (b0 Y.w (if j<(g.length:Int)then l++[e]else l))),(d,i)])):Ex Y ((Z9 "idxs",.lst g)::(Z9 "elt",.str e)::(Z9 "ntest",.int j)::(Z9 "popular",.ref a)::k) (aN x b c f [(a,.ext (b0 Y.w l)),(d,i)]) (bW (aT (bW (aT (aA dO) 8)) 1)) K:=by
 revert Y k x b d a c f L e l g j i K;injections Y L x b a d l;ext e g j c f i k K;show run m s ?_;show ZK (<-sq n) ?_;show ZK (λq=>?_) λq=>?_;.have q:j<(g.length:Int):=of_decide_eq_true q;replace h:=(if_pos q)▸h;have o:(a,az.ext<|b0 Y.w l)∈aN x b c f [(a,.ext<|b0 Y.w l),(d,i)]:=mI 2 rfl;show stM<|tt PySem.F.plainAttrs_set QN PySem.F.type_set_add rfl rfl rfl rfl<|aj m rfl ⟨kn.set o,.cons rfl<|aj m rfl<|.nil<|ax.setAdd rfl o u v ?_⟩;have w:=di (A:=[(x,.other c),(b,.ext<|bz f)]) (p:=a) (r:=.ext<|b0 Y.w l) (r':=.ext<|b0 Y.w<|l++[e]) (B:=[(d,i)]) t;exists(show(x,az.other c)::(b,az.ext<|bz f)::[(a,az.ext<|b0 Y.w l),(d,i)]=[(x,.other c),(b,.ext<|bz f)]++(a,az.ext<|b0 Y.w l)::[(d,i)]from rfl),w;show h
 .have q:¬j<(g.length:Int):=of_decide_eq_false q;replace h:=(if_neg q)▸h;show h
def HO{i:Loc}{K:Kn}(j:Ok Y (λx=>(aw dO).names.lookup x) aY)(k:Y.env=Y8 (Z9 "SequenceMatcher.__chain_b") (aw dO) L 188 (Zr 187))(l:[x,c,b,d].Nodup)(m:(bg a e).isSome=ZW)(n:a.length<=4000)(h:K.nx ((Z9 "elt",.str e)::(Z9 "b2j",.ref d)::i) (aN x c f g [(b,pp),(d,.ext (dP (Zz pw Y.w) (dQ a e)))])):Ex Y ((Z9 "elt",.str e)::(Z9 "b2j",.ref d)::i) (aN x c f g [(b,pp),(d,.ext (dP (Zz pw Y.w) a))]) (bW (aT (bW (aT (aA dO) 8)) 2)) K:=by ext Y L x c b d a e f g pp i K;show run j k ?_;have o:(d,az.ext<|dP (Zz pw Y.w) a)∈aN x c f g [(b,pp),(d,.ext<|dP (Zz pw Y.w) a)]:=mI 3 rfl;show⟨EL (rS _)<|aj j rfl<|aj j rfl ⟨d,e,a,rfl,rfl,o,n,m,?_⟩⟩;have s:=di (A:=[(x,.other f),(c,.ext<|bz g),(b,pp)]) (p:=d) (r:=.ext<|dP (Zz pw Y.w) a) (r':=.ext<|dP (Zz pw Y.w)<|dQ a e) (B:=[]) l;exists(show(x,az.other f)::(c,az.ext<|bz g)::[(b,pp),(d,az.ext<|dP (Zz pw Y.w) a)]=[(x,.other f),(c,.ext<|bz g),(b,pp)]++(d,az.ext<|dP (Zz pw Y.w) a)::[]from rfl),s;show h
def u4{e:ZD}:bg (c6 b f) e=if e∈b.map (·.1)then Z7 (.lst (f e))else Z4:=by induction b with|nil=>rfl;|cons p b c=>
  obtain⟨y,a⟩:=p;by_cases z:y=e;.exists z;simp[bg,c6]
  .have d:bg (c6 ((y,a)::b) f) e=bg (c6 b f) e:=by simp[bg,c6,z]
   have g:(e∈((y,a)::b).map (·.1))↔e∈b.map (·.1):=by rw[Z3,Z1];show⟨λh=>h.resolve_left λq=>z q.symm,.inr⟩
   exists d,c;simp only[g]
def LK{x e:ZD}:bg (dQ b x) e=if e=x then Z4 else bg b e:=by ext b x e;induction b with|nil=>simp[bg,dQ];|cons p r d=>
  obtain⟨y,a⟩:=p;by_cases z:y=x
  .subst z;have c:dQ ((y,a)::r) y=dQ r y:=by simp[dQ]
   exists c,d;by_cases q:e=y;.exists if_pos q;show aW (if_pos q) rfl
   .exists if_neg q,if_neg q;have t:¬y=e:=λh=>q h.symm;simp[bg,t]
  .have c:dQ ((y,a)::r) x=(y,a)::dQ r x:=by simp[dQ,z]
   exists c;by_cases q:y=e;.subst q;simp[bg,z]
   .have f:∀{l:List (ZD×AV)},bg ((y,a)::l) e=bg l e:=by intro l;simp[bg,q]
    exists f,f;show aW d rfl
def AC:∀{a:List ZD}{b:List (ZD×AV)}{e:ZD},bg (a.foldl dQ b) e=if e∈a then Z4 else bg b e:=by intro c;induction c with|nil=>intro _ _;simp;|cons x a d=>
  intro b e;exists Yh,d,LK;by_cases h:e∈a;.exists if_pos h;show aW (if_pos<|.tail _ h) rfl
  .exists if_neg h;by_cases q:e=x;.exists if_pos q;show aW (if_pos<|q▸.head _) rfl
   .exists if_neg q;show aW (if_neg λz=>(Z1.mp z).elim q h) rfl
def adH(a)(x:ZD):(dQ a x).length<=a.length:=V2 _ _
def Jm:∀(b:List ZD)(a:List (ZD×AV)),(b.foldl dQ a).length<=a.length:=by intro c;induction c with|nil=>showλ_=>ZR _;|cons x b d=>showλa=>ZY (d _)<|adH a x
abbrev a5(b:List ZD)(e:ZD):Bool:=decide (200<=b.length)&&decide (b.length/100+1<(bp b b.length e).length)
abbrev fY(b:List ZD)(a:List (ZD×AV)):Prop:=∀e,(bg a e).getD (.lst [])=.lst (if a5 b e=ZW then[]else bp b b.length e)
abbrev fu(b:List ZD)(a:List (ZD×Zw))(i:Nat):List ZD:=((a.take i).filter λp=>decide<|b.length/100+1<(bp b b.length p.1).length).map (·.1)
def vX:(fu b ps i).Sublist (ps.map (·.1)):=(Uy.trans<|List.take_sublist _ _).map _
def abh(d:(a.map (·.1)).Nodup)(h:a[i]?=Z7 p):p.1∉fu b a i:=λq=>by show aq (Z0.mp q) λr c e=>?_;have c:=(Xv.mp c).1;obtain⟨f,g⟩:=Zv.mp h;rw[<-Yz i a,ZF,YT,Yk f,g]at d;show d.2.2 _ (Z0.mpr<|ae r c rfl) _ (.head _) e
def abi(h:a[i]?=Z7 p):fu b a (i+1)=if b.length/100+1<(bp b b.length p.1).length then fu b a i++[p.1]else fu b a i:=by
 unfold fu;rw[Zc,h,Ys,X0,ZF];by_cases q:b.length/100+1<(bp b b.length p.1).length;.exists if_pos q;simp[q]
 .exists if_neg q;simp[q]
def GJ(K:qH b b.length a)(h:¬200<=b.length):fY b (c6 a (bp b b.length)):=λe=>by
 have p:a5 b e=ZX:=by unfold a5;simp[h]
 exists u4,p;by_cases q:e∈a.map (·.1);.exists if_pos q;rfl
 .exists if_neg q,if_neg Y6,(uS λz=>q<|(K.mem e).mpr z);rfl
def GL{a:List ZD}(K:qH b b.length c)(h:200<=b.length)(d:a.Perm (fu b c c.length)):fY b (a.foldl dQ (c6 c (bp b b.length))):=by
 intro e;revert K h d;injections b c a e;intro K h d;have f:e∈a↔e∈c.map (·.1)/\a5 b e=ZW:=by
  rw[d.mem_iff];unfold fu a5;rw[YQ,Z0];simp only[Xv,h,decide_true,Tu,decide_eq_true_eq];constructor;.rintro⟨p,⟨g,i⟩,rfl⟩;show⟨Z0.mpr<|ae p g rfl,i⟩
  .rintro⟨g,i⟩;show aq (Z0.mp g) λp d j=>?_;subst j;show ae p ⟨d,i⟩ rfl
 exists AC,u4;by_cases q:e∈c.map (·.1)
 .by_cases z:a5 b e=ZW;.exists if_pos<|f.mpr ⟨q,z⟩,if_pos z;rfl
  .exists(if_neg λy=>z (f.mp y).2),if_pos q,if_neg z;rfl
 .exists(if_neg λy=>q (f.mp y).1),if_neg q;have t:bp b b.length e=[]:=uS λz=>q<|(K.mem e).mpr z;exists t;split<;>rfl
def Hl{W:Loc}{K:Kn}(w:Ok Y (λx=>(aw dO).names.lookup x) aY)(Z:Y.env=Y8 (Z9 "SequenceMatcher.__chain_b") (aw dO) L 188 (Zr 187))(F:b.length<=1000)(H:qH b b.length a)(h:∀f(l:List ZD)pp,l.Perm (fu b a a.length)->K.nx f (aN x s t u [(j,pp),(d,.ext (dP (Zz pw Y.w) (l.foldl dQ (c6 a (bp b b.length)))))])):gP (ff Y (λx=>(aw dO).names.lookup x) aY (Y8 (Z9 "SequenceMatcher.__chain_b") (aw dO) L 188 (Zr 187)) 19) (bW (aT (aA dO) 8)) ((Z9 "n",.int (b.map AV.str).length)::(Z9 "popular",.ref j)::(Z9 "isjunk",.none)::(Z9 "junk",X)::(Z9 "b2j",.ref d)::W) (aN x s t u [(j,.ext (b0 Y.w [])),(d,.ext (dP (Zz pw Y.w) (c6 a (bp b b.length))))]) K:=by
 ext Y L b a x s t u j d X W K;have v:=H.len;have y:(c6 a<|bp b b.length).length=a.length:=Z6 _;have I:=An b b.length;have C:∀i,(fu b a i).length<=a.length:=λi=>by have:=(vX (b:=b) (ps:=a) (i:=i)).length_le;rwa[Z6]at this
 show stM<|Bn.fdiv (by decide) (SF<|by decide) ?_;have e1:((b.map AV.str).length:Int).fdiv 100=((b.length/100:Nat):Int):=by rw[Z6,VX _ (by decide)];rfl
 exists e1;show⟨lx λD=>Es.post (d5 (λJ=>rfl) (ch.items (rS _) rfl rfl (aj w rfl ⟨d,_,rfl,mI 3 rfl,λod=>(db (λi f r=>r=aN x s t u [(j,.ext<|b0 Y.w<|fu b a i),(d,.ext<|dh od<|dP (Zz pw Y.w)<|c6 a<|bp b b.length)]/\Sub ((Z9 "ntest",.int<|((b.length/100:Nat):Int)+1)::(Z9 "popular",.ref j)::[(Z9 "b2j",.ref d)]) f) ?_ ?_ ?_ ?_)⟩)))⟩;.show⟨di (A:=[(x,.other t),(s,.ext<|bz u),(j,.ext<|b0 Y.w [])]) (B:=[]) D,?_⟩;show a0.ok ⋯
 .rintro i f r⟨rfl,J⟩;show mI 3 rfl
 .rintro i av f r M c m⟨rfl,k⟩;unfold kQ c6 at m;replace m:=ZQ▸YE▸m;show aq (WQ.mp m) λp G N=>?_;exists ZJ N;show Tg.ex w.holds ?_;have O:=C i;have Q:=I p.1;show Ex.sub ((k.cc _ _).cc _ _)<|abj (Y:=Y.holds M c) w.holds Z D (<-(af 0x613103c5810709881e11) F Q) (abh H.nd G) (<-(ai 0x613103c5810f030e430f408f889e14) F v O) ⟨?_,?_⟩;.exists abi G;have:(((b.length/100:Nat):Int)+1<((bp b b.length p.1).length:Int))=(b.length/100+1<(bp b b.length p.1).length):=propext WS;simp only[this];rfl
  .show a0.ok ⋯
 .rintro f r⟨rfl,k⟩;have hl:(kQ AV.str<|c6 a<|bp b b.length).length=a.length:=by unfold kQ;rw[Z6,y]
  exists hl;show b7 _ _ ((Cv.sub k).trans<|EI [(x,.other t),(s,.ext<|bz u),(j,.ext<|b0 Y.w<|fu b a a.length)] (B:=[]) o9 λg o z=>z.2) ?_;have O:=C a.length;show⟨lx λD=>d5 (λJ=>rfl) (ch.set rfl (aj w rfl ⟨j,_,rfl,<-(ai 0xc262078b021e061c861e811e14) F v O,mI 2 rfl,λod l n=>(db (λi f r=>r=aN x s t u [(j,.ext<|dh od<|b0 Y.w<|fu b a a.length),(d,.ext<|dP (Zz pw Y.w)<|(l.take i).foldl dQ<|c6 a<|bp b b.length)]/\Sub [(Z9 "b2j",.ref d)] f) ?_ ?_ ?_ ?_)⟩))⟩;.show⟨di (A:=[(x,.other t),(s,.ext<|bz u)]) (B:=[(d,.ext<|dP (Zz pw Y.w)<|c6 a<|bp b b.length)]) D,?_⟩;show a0.ok ⋯
  .rintro i f r⟨rfl,J⟩;show mI 2 rfl
  .rintro i av f r M c m⟨rfl,k⟩;replace m:=ZQ▸m;show aq (WQ.mp m) λe R S=>?_;exists ZJ S;show Tg.ex w.holds ?_;have U:e∉l.take i:=λq=>by have E:l.Nodup:=n.nodup_iff.mpr<|H.nd.sublist vX;obtain⟨hi,G⟩:=Zv.mp R;rw[<-Yz i l,YT,Yk hi,G]at E;show E.2.2 _ q _ (.head _) rfl
   have V:e∈a.map (·.1):=(vX (b:=b)).subset<|n.mem_iff.mp<|YV R;have Q:=Jm (l.take i)<|c6 a<|bp b b.length;show Ex.sub (k.cc _ _)<|HO (Y:=Y.holds M c) (pp:=.ext<|dh od<|b0 Y.w<|fu b a a.length) w.holds Z D ?_ (<-(ay 0x613103c5810f4326081c061e811e17) F v y Q) ⟨?_,?_⟩;.exists AC,if_neg U,u4,if_pos V;rfl
   .rw[Zc,R,Ys,YU];rfl
   .show a0.ok ⋯
  .rintro f r⟨rfl,k⟩;have:=h f l (.ext<|dh od<|b0 Y.w<|fu b a a.length) n;rw[Z6,YQ];show this
def eW.pj(C:eW Y.w x e f g d b i c O):Cv Y h O h (aN x e f g [(d,.ext (dP (Zz pw Y.w) (c6 c (bp b i))))]):=by
 ext x e f g d b i c O Y h;show(Cv.mem (O':=(d,.ext<|dP (Zz pw Y.w)<|cH c)::(je c (bp b i)++aN x e f g [])) (λp a=>C.sub p ?_) ?_).trans<|EG.trans oS
 .rcases Z1.mp a with rfl|a;.show mI 2 rfl
  .show ZI (ZS.mp a) (λa=>?_) λa=>?_;.show .tail _<|.tail _<|.tail _ a
   .rcases Z1.mp a with rfl|a;.show .head _
    .exists ZM.mp a;show .tail _<|.head _
 .have j:=C.nd;simp only[ZC,Z1,not_or]at j;show gM j ?_;clear j;intro k l o r;show dt k λs t w=>?_;show aE l λy z=>?_;have A:(je c<|bp b i).map (·.1)=c.map (·.2):=by unfold je;exists YE;rfl
  rw[Z3,ZF,A,ZC,ZS,YT];show lW (λq=>q.elim o λq=>?_) r ?_ λu m v n q=>?_
  .simp only[aN,Z3,Y4,Z1,Zn,or_false]at q;show ZI q (λq=>?_) λq=>?_;.show t q.symm
   .show y q.symm
  .simp only[aN,Z3,Y4,ZC,Z1,Zn,or_false,not_false_eq_true,XY,and_true];show s
  .subst q;simp only[aN,Z3,Y4,Z1,Zn,or_false]at n;rcases n with rfl|rfl;.show w m
   .show z m
def My{l:Loc}(n):Vr n ((c,f)::(d,g)::(e,b)::l)=Vr n ((c,f)::(d,g)::(e,a)::l)\/(Vr n ((c,f)::(d,g)::(e,a)::l)=Z7 a/\Vr n ((c,f)::(d,g)::(e,b)::l)=Z7 b):=by
 exists ZG,ZG,ZG,ZG,ZG,ZG;cases n==c
 .cases n==d
  .cases n==e;.show .inl rfl
   .show .inr ⟨rfl,rfl⟩
  .show .inl rfl
 .show .inl rfl
def Hj{t:Loc}(A:X.A.depth<ZU)(I:dw x D E)(J:t.length<900)(hb:t.lookup (Z9 "b")=Z7 (.lst (b.map .str)))(hj:t.lookup (Z9 "isjunk")=Z7 .none)(M:t.lookup (Z9 "autojunk")=Z7 (.bool ZW))(N:b.length<=1000)(hk:∀w g f,w=X.w->fY b g->k .none (aN x D E ((Z9 "bpopular",.ref f)::(Z9 "bjunk",eU w λj=>ZX)::(Z9 "b2j",ix (Zz pw w) g)::t) []++O)):ax X ρ (aN x D E t []++O) (.ref 188) [.ref x] k:=by
 ext x D E b k X ρ O t;show j6 (nm:=Z9 "__chain_b") (name:=Z9 "SequenceMatcher.__chain_b") (params:=cY dO) (body:=aA dO) (scope:=aw dO) (pm:=_) (ca:=187) (doc:=_) (ns:=[Z9 "self"]) A (x2 _) rfl (F6 _) rfl rfl (λvs h=>?_) dk dk dk rfl rfl rfl λY C=>?_;.show pM h λj=>rfl
 .ext Y;show Ex.post<|Ex.gen λK Q j j j=>C.run ⋯ λL R=>?_;rename_i q0 q1;clear q0 q1;revert Q j R;ext K L;have o:=C.ok ⋯;have hw:=C.w;show stM<|fC o I rfl hb trivial nf ?_;show stM (tp (knd:=Zz pw Y.w) λd hd=>?_);ext d;show stM<|cK.cv oS<|ew o I rfl (Ye<|QR J<|by decide) zi ?_;show⟨Es.post<|d5 (λj=>rfl)<|E3 rfl (o.ld ⋯ ⋯)<|aj o rfl ⟨_,rfl,λi l u=>(∃H,eW Y.w x D E ((Z9 "b2j",.ref d)::t) d b i H u)/\Sub [(Z9 "b2j",.ref d),(Z9 "b",.lst<|b.map .str),(Z9 "self",.ref x)] l,?_,λj j j j=>trivial,?_,?_⟩⟩;.show⟨⟨[],⟨XY,λe=>by simp,ZR _⟩,?_,λp hp=>hp⟩,Sub.refl _⟩;simp only[aN,Z3,Y4,Z1,Zn,or_false,not_or]at hd;simp only[Y4,ZC,Z1,Zn,or_false,not_or,not_false_eq_true,XY,and_true];show⟨⟨Xb I.ne,Xb hd.1⟩,Xb hd.2⟩
  .rintro i av l u hs c S⟨⟨H,y⟩,m⟩;show aq (yN S) λa U V=>?_;subst V;replace U:=ZQ▸U;show aq (WQ.mp U) λe he W=>?_;subst W;show Tg.ex o.holds ?_;show Ex.sub ((m.cc _ _).cc _ _)<|Hm (Y:=Y.holds hs c) o.holds R he N y λv u Z En=>⟨⟨Z,En⟩,?_⟩;show a0.ok ⋯
  .rintro l u⟨⟨H,y⟩,m⟩;revert m y;ext l u H;rw[ui,Z6]at y;show b7 _ _ ((Cv.sub m).trans y.pj) ?_;have hK:=y.keys;have Bw:=y.nd;clear y;have fh:=λg f=>hk Y.w g f hw;show stM<|ER rfl (o.ld ⋯ ⋯) ?_;show stM<|ew o I rfl (by exists ZO;show(ak 0x64b0ebc384c40f889e10) J) zj ?_;show stM<|fC o I rfl hj trivial zk ?_;show ZK (λz=>(nF z)) λj=>?_;show stM (EQ rfl (o.ld ⋯ ⋯) λf adX=>?_);ext f;show stM<|cK.cv oS<|ew o I rfl (by exists ZO,ZO;show(ak 0x325875e1c26207c44f889e10) J) IQ ?_;show ZK (by rw[Z6];show sq N) ?_;show stM<|Ts.plain (fC o I rfl M trivial zh<|Tr.bool ?_) rfl;show⟨λj=>?_,λz=>(nT z)⟩;have F:∀g f pp r,fY b g->∃l u,Cv Y r (aN x D E ((Z9 "bpopular",.ref f)::(Z9 "bjunk",eU Y.w λj=>ZX)::(Z9 "b2j",.ref d)::t) [(f,pp),(d,.ext<|dP (Zz pw Y.w) g)]) l u/\k .none (u++O):=λg f pp r hB=>(b7 _ _ ((Cv.drop<|.cons_cons _<|.cons_cons _<|.cons _<|.refl _).trans<|EH (lO:=(Z9 "bpopular",.ref f)::(Z9 "bjunk",eU Y.w λj=>ZX)::(Z9 "b2j",ix (Zz pw Y.w) g)::t) HL λn=>?_)<|fh g f hB)
   .show⟨λq=>?_,λq=>?_⟩
    .have s:200<=b.length:=by have:=of_decide_eq_true q;rw[Z6]at this;show(ak 0xd85303bf014c0ef0) this
     show⟨λj=>?_,λz=>(nT z)⟩;show Hl o R N hK λl ord pp G=>?_;show Q _ _<|F _ _ _ _<|GL hK s G
    .have s:¬200<=b.length:=by have:=of_decide_eq_false q;rw[Z6]at this;show(ak 0x3db0a6077fb014c0ef0) this
     show⟨λz=>(nF z),λj=>?_⟩;show Q _ _<|F _ _ _ _<|GJ hK s
   .show My n
def x1(P):(ar P).get? 181=Z7 BU:=⋯
def F5(P):(ar P).get? 180=Z7 BS:=⋯
def d0.room(C:d0 X Y name a b c)(h:X.A.depth+1<n):Y.A.depth<n:=by show aq C.env λL d e=>?_;exists e;show h
def d0.depth(C:d0 X Y name a b c):Y.A.depth=X.A.depth+1:=by show aq C.env λL d e=>?_;exists e;rfl
abbrev Dw(w:Yg)(b:List ZD)(a:List (ZD×AV))(c:Zw)(d:Loc):Loc:=(Z9 "bpopular",.ref c)::(Z9 "bjunk",eU w λe=>ZX)::(Z9 "b2j",ix (Zz pw w) a)::(Z9 "fullbcount",.none)::(Z9 "opcodes",.none)::(Z9 "matching_blocks",.none)::(Z9 "b",.lst<|b.map .str)::d
def acf(a:X.A.depth+1<ZU)(I:dw x j m)(l:d.length<800)(r:d.lookup (Z9 "b")=Z7 .none)(s:d.lookup (Z9 "isjunk")=Z7 .none)(n:d.lookup (Z9 "autojunk")=Z7 (.bool ZW))(t:d.lookup (Z9 "_SequenceMatcher__chain_b")=Z4)(u:b.length<=1000)(v:∀w c g,w=X.w->fY b c->k .none (aN x j m (Dw w b c g d) []++O)):ax X p (aN x j m d []++O) (.ref 181) [.ref x,.lst (b.map .str)] k:=by
 ext x j m b k X p d O;show j6 (nm:=Z9 "set_seq2") (name:=Z9 "SequenceMatcher.set_seq2") (params:=cY oG) (body:=aA oG) (scope:=aw oG) (pm:=_) (ca:=180) (doc:=_) (ns:=[Z9 "self",Z9 "b"]) (WB a) (x1 _) rfl (F5 _) rfl rfl (λF h=>?_) dk dk dk rfl rfl rfl λY C=>?_;.show kS h λo o=>rfl
 .show C.run ⋯ λL G=>?_;have i:=C.ok ⋯;have A:=C.w;have D:=C.room a;show stM<|fC i I rfl r trivial nf ?_;show ZK (λz=>(nF z)) λo=>?_;show stM<|ew i I rfl (<-(ak 0xc861a78709881e10) l) nf ?_;show stM<|ew i I rfl (by exists ZO;show(ak 0x6430d3c384c40f889e10) l) pg ?_;show stM<|ew i I rfl (by exists ZO,ZO;show(ak 0x321869e1c26207c44f889e10) l) rj ?_;show stM<|ew i I rfl (by exists ZO,ZO,ZO;show(ak 0x190c34f0e13103e227c44f889e10) l) IR ?_;show stM<|tr (f:=188) (λo=>by kernel_rfl) (x2 _) rfl rfl (y:=Z4) (by rw[Y0,Zl];kernel_rfl) rfl<|aj i rfl ⟨x,j,_,rfl,I.inst,t,?_⟩;show Hj (O:=[]) D I (by simp only[ZO];show(ak 0xc861a78725875f113e227c44f889e10) l) rfl s n u λw c g e E=>?_;show v w c g (e.trans A) E
abbrev sy(e name:ZD)(a:SU)(c:List YR)(b:Vs)(f:ZN)(g h:Zw)(d:ZN):Uj:={name:=e,qualname:=name,params:=a,body:=.stmts c,scope:=b,globals:=Xd,closure:=[],defaults:=.ref h,kwdefaults:=.none,doc:=d,pyModule:=f,annotations:=Z4,code:=.ref g,closureTuple:=.none,builtins:=Vw}
set_option backward.match.sparseCases true in def G9{body:List YR}{binds:List (ZD×ZN)}(d:A.depth<ZU)(z:s.heap.get? a=Z7 o)(g:o.data=.func fd)(m:s.heap.NoLimit)(t:s.heap.CodeRec fd.code fd.qualname)(i:fd.body=.stmts body)(j:BindsTo s fd args binds)(n:fd.closure=[])(k:∀x∈binds,fd.scope.names.lookup x.1=Z7 .local\/(fd.scope.names.lookup x.1=Z7 .cell/\((Xm (s.heap.objs.size+1) fd.scope.names []).lookup x.1).isSome=ZW))(h:∀c,InCallC s (TX fd s.heap.objs.size a).locals (bindL (TX fd s.heap.objs.size a).kindOf binds λy=>Z4) (TX fd s.heap.objs.size a).cells (PO (TX fd s.heap.objs.size a).kindOf binds λy=>Z4) c->ZE (model b w) (A.deeper (TX fd s.heap.objs.size a)) (execs body (TX fd s.heap.objs.size a)) (λf p=>R (.ok (.ret (match f with|.ret v=>v|_=>.none))) p) (λe p=>ZE (model b w) (A.deeper (TX fd s.heap.objs.size a)) (leaving (TX fd s.heap.objs.size a) e) (λy l=>R (.error e) l) (λC l=>R (.error C) l) p) c)(u:fd.scope.isCoroutine=ZX)(r:fd.scope.isGenerator=ZX)(D:fd.scope.kind=.function):UO (model b w) A (.call (.ref a) args) R s:=by show Sj d z g u r i t<|j _ _ _ _ ?_;exists n;show TW D k λenv E p x=>?_;subst E;show⟨m.keeps x.toInCall.keep,codeAny_func<|h p x⟩
def ax.md{body:List YR}{ns:List ZD}{dl:List AV}(e:X.A.depth<ZU)(ho:(ar X.w.params).get? z=Z7 o)(hd:o.data=.func (sy nm name params body scope pm ca df doc))(C:(ar X.w.params).get? ca=Z7 W)(E:W.data=.fields j)(F:j[1]?=Z7 (.str name ct))(G:(ar X.w.params).get? df=Z7 i)(H:i.data=.seq b n)(hb:∀I:List ZN,I.length=l.length->∃kk:Option (Array ZN)->PA (List (ZD×ZN)),RU (sy nm name params body scope pm ca df doc) ⟨I,[]⟩=seqItems? (.ref df)>>=kk/\kk (Z7 b)=pure (ns.zip (I++dv)))(J:∀D h,aD D h dv dl)(M:ns.Nodup)(hl:∀x∈ns,scope.names.lookup x=Z7 .local\/scope.names.lookup x=Z7 .cell)(N:(scope.names.map (·.1)).Nodup)(m:scope.kind=.function)(p:scope.isGenerator=ZX)(r:scope.isCoroutine=ZX)(h:∀Y,d0 X Y name scope z (.ref ca)->Ex Y (ns.zip (l++dl)) V body ⟨λd c=>k .none (c++y),λa c=>k a (c++y),λd d=>False,λd d=>False⟩):ax X ρ (V++y) (.ref z) l k:=by show th (fd:=sy nm name params body scope pm ca df doc) (ns:=ns) (dv:=dv) (dl:=dl) e ho C E F ?_ J M hl N m h;intro A R s args O hr Q t S u v f;show aq (hb args u) λkk h1 h2=>?_;show G9 (fd:=sy nm name params body scope pm ca df doc) (body:=body) (binds:=ns.zip<|args++dv) hr Q hd t S rfl (VR (k:=kk) rfl (O _ _ G) H h1 h2) rfl v (λZ g=>?_) r p m;show ec g.done λw tk U d=>?_;subst U;show XT (f w tk ⟨g.toInCall.ns,g.toInCall.keep,g.toInCall.fresh⟩ ⟨g.cell,g.apart,g.above⟩) (λd d x=>x) λd d x=>x.elim
def xZ(P):(ar P).get? 167=Z7 BP:=⋯
def F2(P):(ar P).get? 166=Z7 BO:=⋯
def xY(P):(ar P).get? 160=Z7 BN:=⋯
def F1(P):(ar P).get? 159=Z7 BM:=⋯
def F0(P):(ar P).get? 153=Z7 BL:=⋯
abbrev zq:Loc:=[(Z9 "autojunk",.bool ZW),(Z9 "b",.none),(Z9 "a",.none),(Z9 "isjunk",.none)]
abbrev p7(w:Yg)(a b:List ZD)(c:List (ZD×AV))(d:Zw):Loc:=Dw w b c d ((Z9 "opcodes",.none)::(Z9 "matching_blocks",.none)::(Z9 "a",.lst<|a.map .str)::zq)
def acg(c:X.A.depth+2<ZU)(I:dw x i j)(p:b.length<=1000)(r:∀w d g,w=X.w->fY b d->k .none (aN x i j (p7 w a b d g) []++O)):ax X n (aN x i j zq []++O) (.ref 167) [.ref x,.lst (a.map .str),.lst (b.map .str)] k:=by
 ext x i j b k X n O a;show j6 (nm:=Z9 "set_seqs") (name:=Z9 "SequenceMatcher.set_seqs") (params:=cY oE) (body:=aA oE) (scope:=aw oE) (pm:=_) (ca:=166) (doc:=_) (ns:=[Z9 "self",Z9 "a",Z9 "b"]) (WB<|WB c) (xZ _) rfl (F2 _) rfl rfl (λu h=>?_) dk dk dk rfl rfl rfl λY C=>?_;.show rY h λl l l=>rfl
 .show C.run ⋯ λL v=>?_;have m:=C.ok ⋯;have s:=C.w;have o:Y.A.depth+1<ZU:=by exists C.depth;show c
  show stM<|qA (f:=174) (λl=>by kernel_rfl) (x0 _) rfl rfl (y:=Z4) (by rw[Y0,Zl];kernel_rfl) rfl rfl<|aj m rfl ⟨x,i,_,rfl,I.inst,rfl,.cons rfl<|aj m rfl<|.nil ?_⟩;show ace (O:=[]) (WB o) I (by decide) rfl ?_;show stM<|qA (f:=181) (λl=>by kernel_rfl) (x1 _) rfl rfl (y:=Z4) (by rw[Y0,Zl];kernel_rfl) rfl rfl<|aj m rfl ⟨x,i,_,rfl,I.inst,rfl,.cons rfl<|aj m rfl<|.nil ?_⟩;show acf (O:=[]) o I (by show(?_:7<800);decide) rfl rfl rfl rfl p λw d g e t=>?_;show r w d g (e.trans s) t
def Ls(c:X.A.depth+3<ZU)(I:dw x l m)(p:b.length<=1000)(r:∀w d g,w=X.w->fY b d->k .none (aN x l m (p7 w a b d g) []++O)):ax X n (aN x l m [] []++O) (.ref 160) [.ref x,.none,.lst (a.map .str),.lst (b.map .str)] k:=by
 ext x l m b k X n O a;show ax.md (df:=153) (nm:=Z9 "__init__") (name:=Z9 "SequenceMatcher.__init__") (params:=cY oD) (body:=aA oD) (scope:=aw oD) (pm:=_) (ca:=159) (doc:=_) (ns:=[Z9 "self",Z9 "isjunk",Z9 "a",Z9 "b",Z9 "autojunk"]) (dv:=[.bool ZW]) (dl:=[.bool ZW]) (<-(af 0x191448f0e4410) c) (xY _) rfl (F1 _) rfl rfl (F0 _) rfl (λo h=>?_) (λj j=>.cons (.bool _) .nil) dk dk dk rfl rfl rfl λY C=>?_;.rcases o with _|⟨z,j|⟨A,j|⟨D,j|⟨E,j|⟨F,o⟩⟩⟩⟩⟩<;>simp at h;show ae _ rfl rfl
 .show C.run ⋯ λL s=>?_;revert C s;ext Y L;have i:=C.ok ⋯;have t:=C.w;have u:Y.A.depth+2<ZU:=by exists C.depth;show c
  show stM<|ew i I rfl (by decide) zk ?_;show stM<|ew i I rfl (by decide) pf ?_;show stM<|ew i I rfl (by decide) nf ?_;show stM<|ew i I rfl (by decide) zh ?_;show stM<|qA (f:=167) (λj=>by kernel_rfl) (xZ _) rfl rfl (y:=Z4) (by rw[Y0,Zl];kernel_rfl) rfl rfl<|aj i rfl ⟨x,l,_,rfl,I.inst,rfl,.cons rfl<|aj i rfl<|.cons rfl<|aj i rfl<|.nil ?_⟩;show acg (O:=[]) u I p λw d g e v=>?_;show r w d g (e.trans t) v
def lw(h:(O.map (·.1)).Nodup->ax X a O f l k):ax X a O f l k:=λE s b F=>h F.nd E s b F
def ac1:(oM A).depth=A.depth+1:=by have p:(SE "type.__call__" ⟨[.ref 242],[]⟩).weight=1:=⋯;show(?_:A.depth+(SE "type.__call__" ⟨[.ref 242],[]⟩).weight=A.depth+1);show aW p rfl
def act(d:X.A.depth+5<ZU)(n:b.length<=1000)(p:∀x g h w c f,dw x g h->w=X.w->fY b c->k (.ref x) (aN x g h (p7 w a b c f) []++O)):ax X m O (.ref 242) [.none,.lst (a.map .str),.lst (b.map .str)] k:=by
 show Eu (fI:=160) (λr=>by kernel_rfl) (xY _) rfl λx g h J=>lw λl=>?_;have I:dw x g h:=by
  obtain⟨⟨o,i,s,t,u⟩,j,r⟩:=J;rw[Z3,ZC]at l;show ZI (Z1.mp i) (λe=>?_) λi=>?_;.cases e;show⟨s,t,u,j⟩
  .show absurd (Z0.mpr<|ae _ i rfl) l.1
 show Ls (X:=X.at (oM X.A)<|D5 X.hh) (O:=O) (by show(?_:(oM X.A).depth+3<_);exists ac1;show(af 0x645133c391448f889e10) d) I n λw c f e v=>⟨rfl,p x g h w c f I e v⟩
def qi{X:Fx}{c:List Zw}{d:Xq}{R:X7}{I:Zw}{l:List AV}(g:Nat->Ze->Prop)(S:∀i o,g i o->∃n J,o.cls=.type n/\o.data=.fields J/\["enumerate","zip","dict_itemiterator","dict_reverseitemiterator","odict_iterator","itertools.zip_longest","itertools.pairwise"].contains n=ZX)(U:∀i m o D s(Q:Option ZN->ZL->Prop)(E:ZN->ZL->Prop),l[i]?=Z7 m->s.heap.get? I=Z7 o->g i o->am c d D s.heap->(∀v e f h,aB D s.heap v m->e.get? I=Z7 h->g (i+1) h->(∀b o,b≠I->s.heap.get? b=Z7 o->e.get? b=Z7 o)->Q (Z7 v) {s with heap:=e,toks:=f})->ZE (model pw X.w) X.A (Vu (.ref I)) Q E s)(V:∀o D s(Q:Option ZN->ZL->Prop)(E:ZN->ZL->Prop),s.heap.get? I=Z7 o->g l.length o->am c d D s.heap->(∀e f,(∀b o,b≠I->s.heap.get? b=Z7 o->e.get? b=Z7 o)->Q Z4 {s with heap:=e,toks:=f})->ZE (model pw X.w) X.A (Vu (.ref I)) Q E s):kj X c d R (.ref I) l (λM=>True) (λi p=>∃o,p=[(I,o)]/\g i o)where
 item:=λi m p W O s Q E r j M F t u=>by show aq j ?_;clear j;intro o w x;subst w;show U i m o _ s Q E r (F.iF<|.head _) x t λv e f h Y N k y=>u _ _ λQ2 E2 z=>?_;show cR (S _ _ k) λn J Z c2 c3=>?_;show vj (s:={s with heap:=e,toks:=f}) N Z c2 c3 ?_;have A:=F.hV (s':={s with heap:=e,toks:=f}) (hs':=[(I,h)]) (λb o C G=>y b o (by simpa using C) G) (λq hq=>by exists ZM.mp hq;show N) (λa ha=>.inl ha) (by simp) F.gens rfl;show z _ _ (ae h rfl k) A.1 A.2 (Y.move A.2)
 done:=λp W O s Q E j M F t u=>by show aq j ?_;clear j;intro o H x;subst H;show V o _ s Q E (F.iF<|.head _) x t λe f y=>?_;have:=F.jt (s':={s with heap:=e,toks:=f}) (λb o C G=>y b o (by simpa using C) G) F.gens rfl;show u _ this.1 this.2
def Fr.pA{h':Xq}(F:Fr X a O s)(b:o.isFreed=ZX):Fr X a (aJ [(s.heap.objs.size,o)]++O) {s with heap:=s.heap.push o,toks:=tk}/\am (aa X O) s.heap (aa X (aJ [(s.heap.objs.size,o)]++O)) (s.heap.push o):=⟨F.alloc (o:=o) (ao:=.other o) b rfl,(jp<|c9 s.heap).trans<|am.of λc c e=>ZT _ e⟩
def ch.lst(h:Ev X A O e λa f=>∃l,a=.lst l/\k l f λu'=>True):ch X A O V e k:=λE s F=>by show wm (h _ s F) λv d x=>?_;revert h F x;ext X A O e k V E s v d;obtain⟨a,f,m,g,p,l,e,r⟩:=x;subst e;cases p.iL with|@mk ad C n hd w G=>
  show Vc (bf _ w rfl n rfl) ?_;have H:ad≠d.heap.objs.size:=X8<|Zg w;show aE (m.pA (h':=d.heap) (o:=dB ad 0) (tk:=d.toks) rfl) λt c=>?_;revert m g r hd w G p H t c;ext f l ad C n;have y:=G.move c;show⟨l,_,_,[(d.heap.objs.size,dB ad 0)],f,qi (λi o=>o.cls=.type "list_iterator"/\o.data=.fields #[.ref ad,.int i 0]) (λi o h=>bX _ _ h.1 h.2<|by decide) (λi av o D s Q E I J j z M=>?_) λo D s Q E J j z M=>?_,(bl _ rfl rfl rfl),t,g.trans c,r⟩;.show aq (y.get I) λv W Y=>?_;have N:s.heap.IsList ad C:=bf _ ((z _ _ (c _ _ hd w).1 (c _ _ hd w).2).2) rfl n rfl;show SD (bl o J j.1 j.2) N (x:=v) (by simpa using W) λR u S=>?_;show bV u ?_;clear u;intro Z e1 e2 e3;show M v R s.toks Z (Y.move z) e1 ⟨e2,e3⟩ λb o j e=>S.extBut b o j e
  .have N:s.heap.IsList ad C:=bf _ ((z _ _ (c _ _ hd w).1 (c _ _ hd w).2).2) rfl n rfl;show Si X.hh (bl o J j.1 j.2) N (by have:=G.size;simp[this]) λR U=>M R s.toks λb o j e=>U b o j e
abbrev Dc(a n:Int):Ze:={cls:=.type "range_iterator",data:=.fields #[XX a,XX n,XX 1]}
def Dd(r:Fr X C d c)(l:am (aa X O) s.heap (aa X d) c.heap)(Y:-(2^62)<=a)(G:a<2^62)(j:-(2^62)<=b)(H:b<2^62)(h:k (cg a (b-a).toNat) d λZ=>True):ZE (model pw X.w) X.A (Rf (.ref c.heap.objs.size)) (tI X C O s F k) E {c with heap:=c.heap.push {cls:=.type "range",data:=.fields #[.int a t,.int b u,.int 1 w]},toks:=p}:=by
 revert X C O s E F a b t u w p k d c;injections X C d c O a b;ext k s F E t u w p;show Rc (O4 ..) (small_one Y G j H) ?_;have I:Te a b 1=((b-a).toNat:Int):=De;have g:=c7.push c {cls:=.type "range",data:=.fields #[.int a t,.int b u,.int 1 w]} p;have v:=r.grow g;exists I;show aE (v.pA (h':=c.heap) (o:=Dc a (b-a).toNat) (tk:=p) rfl) λx m=>?_;have U:(cg a (b-a).toNat).length=(b-a).toNat:=by simp[cg]
 show⟨cg a (b-a).toNat,_,_,_,d,qi (λi o=>o=Dc (a+(i:Int)) (((b-a).toNat:Int)-(i:Int))) (λi o h=>by subst h;show bX ("range_iterator") _ rfl rfl<|by decide) (λi V o D s Q E f n j J y=>?_) λo D s Q E n j J y=>?_,(ae _ rfl ?_),x,(l.trans g.jW).trans m,h⟩
 .revert f n j J y;injections i V o D s Q E;intro f n j J y;subst j;have W:i<(b-a).toNat:=by have:=(Zv.mp f).1;rwa[U]at this
  have z:V=.int (a+(i:Int)):=by unfold cg at f;replace f:=(WV W)▸ZQ▸f;cases f;rfl
  subst z;show wpAny_pyNext_range_item n ((af 0x1908b921042f0) W) λM A N=>?_;show y _ M _ _ (.int _ _) A ?_ λb o j e=>N.extBut b o j e;have z:a+((i+1:Nat):Int)=a+(i:Int)+1:=jc 0xec44f8844e8da227844e5;have R:((b-a).toNat:Int)-((i+1:Nat):Int)=((b-a).toNat:Int)-(i:Int)-1:=af 0x3b213e420cad113c415;exists z,R;rfl
 .subst j;replace n:=U▸n;show wpAny_pyNext_range_end X.hh n (ak 0x3617c8215) λM S=>y M s.toks λb o j e=>S b o j e
 .have z:a+((0:Nat):Int)=a:=jb 0x1d0ba360bc2e5;have R:((b-a).toNat:Int)-((0:Nat):Int)=((b-a).toNat:Int):=ak 0x7432b05e15;exists z;show aW R rfl
def E5{u c d:X7}(n:[c,d].any bN=ZX)(t:Ld X (Z9 "range") (.type "range"))(h:bm X p O [c,d] λl f=>∃a b,l=[.int a,.int b]/\-(2^62)<=a/\a<2^62/\-(2^62)<=b/\b<2^62/\k (cg a (b-a).toNat) f λH=>True):ch X p O u (.Call (.Name (Z9 "range") r) [c,d] [] m) k:=by intro E s F;revert n t h F;injections X p O k r m u c d E s;intro n t h F;show Yu<|t E s r _ F.base<|callWith_type1 (wm (h _ s m F) λC o x=>?_) (fU n)<|gr (by rw[YB,YL]at n;show n.2);obtain⟨l,f,i,g,j,a,b,e,v,w,y,z,A⟩:=x;revert i g j e v w y z A;ext C o l f a b;subst e;obtain⟨D,G⟩:=j.i2;cases D.iI;cases G.iI;show call_range_2<|Dd i g v w y z A
def E4(n:[a].any bN=ZX)(r:Ld X (Z9 "range") (.type "range"))(h:bm X j O [a] λl c=>∃b,l=[.int b]/\-(2^62)<=b/\b<2^62/\k (cg 0 b.toNat) c λy=>True):ch X j O o (.Call (.Name (Z9 "range") m) [a] [] d) k:=by ext a X j O k o m d;show(λE s F=>by show Yu<|r E s m _ F.base<|callWith_type1 (wm (h _ s d F) λz p x=>?_) (fU n)<|gr (by rw[YB,YL]at n;show n.2);obtain⟨l,c,g,f,i,b,e,t,u,v⟩:=x;subst e;obtain⟨w⟩:=i.i1;cases w.iI;show call_range_1<|Dd g f (by decide) (by decide) t u ?_;rw[Int.sub_zero];show v)
def x3(P):(ar P).get? 196=Z7 BZ:=⋯
def F9(P):(ar P).get? 195=Z7 BY:=⋯
def F8(P):(ar P).get? 189=Z7 BX:=⋯
abbrev Lz(L:Nat->Nat)(x:Int):Nat:=if 0<=x then L x.toNat else 0
abbrev JK(L:Nat->Nat)(a:List (Int×AV)):Prop:=∀x:Int,(bg a x).getD (.int 0)=.int (Lz L x)
def Fe(L)(j:Nat):Lz L ((j:Int)-1)=bD L j:=by cases j with|zero=>rfl;|succ j=>have p:(((j+1:Nat):Int)-1)=(j:Int):=<-ak 0x3a1909f6889e15;exists p;unfold Lz bD;exists if_pos<|Yy j;rfl
def Az:JK (λa=>0) []:=λx=>by unfold Lz;split<;>rfl
def LJ{x e:Int}:bg (ll c x a) e=if e=x then Z7 a else bg c e:=by
 ext c a x e;unfold ll;by_cases h:(c.any λy=>y.1=x)=ZW;.exists if_pos h;induction c with|nil=>simp at h;|cons p r g=>
   obtain⟨y,b⟩:=p;by_cases z:y=x
   .subst z;by_cases q:e=y;.subst q;simp[bg]
    .exists if_neg q;have i:¬y=e:=λh=>q h.symm;by_cases d:(r.any λf=>f.1=y)=ZW;.have:=g d;rw[if_neg q]at this;simpa[bg,i]using this
     .have j:r.map (λx=>if x.1=y then(x.1,a)else x)=r:=by
       conv=>rhs;rw[<-VZ r]
       show Yo λu k=>if_neg λe=>d ?_;show UX.mpr<|ae u k<|by simpa using e
      exists Z3,j;simp[bg,i]
   .have d:(r.any λf=>f.1=x)=ZW:=by simpa[z]using h
    have:=g d;by_cases q:y=e;.subst q;exists if_neg z;simp[bg,z]
    .simpa[bg,z,q]using this
 .exists if_neg h;induction c with|nil=>
   by_cases q:e=x;.subst q;simp[bg]
   .have i:¬x=e:=λh=>q h.symm;exists if_neg q;simp[bg,i];|cons p r g=>
   obtain⟨y,b⟩:=p;have l:¬y=x:=λz=>h (by simp[z]);have d:¬(r.any λf=>f.1=x)=ZW:=λz=>h (by exists YB;rw[z,Bool.or_true]);have:=g d;by_cases q:y=e;.subst q;exists if_neg l;simp[bg]
   .simpa[bg,q]using this
def acD(b)(x:Int)(a):(ll b x a).length<=b.length+1:=by
 unfold ll;split;.rw[Z6];show Wn _
 .exists ZV;show ZR _
def LG(h:JK L a):JK (λx=>if x=j then m else L x) (ll a (j:Int) (.int m)):=λx=>by
 exists LJ;by_cases q:x=(j:Int);.exists q,if_pos rfl;unfold Lz;exists if_pos<|Yy j;simp
 .exists if_neg q,h x;unfold Lz;by_cases z:0<=x;.exists if_pos z,if_pos z;have p:x.toNat≠j:=<-Ar.bA 0x4 0x7ba11bb63705e30746eb0b637582ff6822 [_,_,0] [0,0,_] ⋯ q z (@YZ<|x);show(?_:AV.int (L x.toNat)=AV.int ((if x.toNat=j then m else L x.toNat:Nat):Int));show aW (if_neg p) rfl
  .exists if_neg z;show aW (if_neg z) rfl
def abw{B:ag}(b:(((p,r)::B).map (·.1)).Nodup):aK ((p,r)::B) p a=(p,a)::B:=di (A:=[]) b
def yk{i p:Nat}(h:p<=i):AV.int ((i:Int)-((p+1:Nat):Int)+1)=AV.int ((i-p:Nat):Int):=congrArg AV.int (<-(af 0x301176d2106227cad113c410) h)
structure qD where
 bj:AV
 mW:AV
 la:AV
 lb:AV
 aG:Nat
 aQ:Nat
 aC:Nat
 aH:Nat
def nFl:Nonempty qD:=⟨⟨.none,.none,.none,.none,0,0,0,0⟩⟩
abbrev pi(e:qD):Loc:=[(Z9 "bhi",.int e.aH),(Z9 "blo",.int e.aC),(Z9 "isbjunk",e.bj),(Z9 "b2j",e.mW),(Z9 "b",e.lb),(Z9 "a",e.la),(Z9 "nothing",.lst []),(Z9 "ahi",.int e.aQ),(Z9 "alo",.int e.aG)]
abbrev ng(d b:Zw)(a:FS)(i:Nat)(e:qD):Loc:=(Z9 "newj2len",.ref b)::(Z9 "j2lenget",fG "dict.get"<|.ref d)::(Z9 "bestsize",.int a.best.m)::(Z9 "bestj",.int a.best.j)::(Z9 "besti",.int a.best.i)::(Z9 "i",.int i)::pi e
abbrev jF(w:Yg)(d c:Zw)(b a:List (Int×AV))(R:ag):ag:=(c,.ext<|dP (W7 pw w) a)::(d,.ext<|dP (W7 pw w) b)::R
def Ja{K:Kn}(l:Ok Y (λx=>(aw cC).names.lookup x) aY)(A:Y.env=Y8 (Z9 "SequenceMatcher.find_longest_match") (aw cC) L 196 (Zr 195))(C:JK b aI)(s:JK g.L a)(D:a.length<=2000)(E:bD b j<=i)(F:bD b j<=j)(u:((jF Y.w d h aI a R).map (·.1)).Nodup)(v:j<e.aC->K.ct ((Z9 "j",.int j)::ng d h g i e) (jF Y.w d h aI a R))(w:e.aH<=j->K.bk ((Z9 "j",.int j)::ng d h g i e) (jF Y.w d h aI a R))(o:e.aC<=j->j<e.aH->∀p f,JK (gQ i b g j).L f->f.length<=a.length+1->Sub (ng d h (gQ i b g j) i e) p->K.nx p (jF Y.w d h aI f R)):Ex Y ((Z9 "j",.int j)::ng d h g i e) (jF Y.w d h aI a R) (bW (aT (bW (aT (aA cC) 7)) 2)) K:=by
 ext Y L b aI a j i d h R g e K;show run l A ?_;show ZK (λq=>?_) λq=>?_;.have q:=of_decide_eq_true q;show v (<-(af 0x3820e4410) q)
 .have q:=of_decide_eq_false q;show ZK (λk=>?_) λk=>?_;.have k:=of_decide_eq_true k;show w (<-(af 0x3620e0410) k)
  .have k:=of_decide_eq_false k;have o:=o (<-(af 0x7b81160410) q) (<-(af 0x7b61164410) k);clear v w;show stM<|EN l (AE _) rfl rfl<|be l (n:=5) ?_;show be l (n:=5) ?_;show bX ((j:Int)-1) aI rfl (.inl<|bX d _ rfl (.tail _<|.head _) λG G z=>z) ?_;rw[C,Fe];show stM<|Fn (AE _)<|aj l rfl<|aj l rfl ⟨h,(j:Int),a,rfl,rfl,.head _,<-(ak 0xc461f809e1c061e811e10) D,?_⟩;unfold jF at u⊢;exists abw u;have H:((bD b j:Nat):Int)+1=((bD b j+1:Nat):Int):=rfl;exists H;have y:=LG (j:=j) (m:=bD b j+1) s;have r:=acD a (j:Int)<|.int ((bD b j+1:Nat):Int);show ZK (λc=>?_) λc=>?_
   .have c:=of_decide_eq_true c;have t:gQ i b g j=⟨⟨bD b j+1,i-bD b j,j-bD b j⟩,λx=>if x=j then bD b j+1 else g.L x⟩:=by unfold gQ;show aW (if_pos<|<-(af 0x1cb444f1073113c410) c) rfl
    rw[t]at o;show o _ _ y r<|f4.ok ⟨(ae _ rfl rfl),(ae _ rfl rfl),(ae _ rfl rfl),(ae _ rfl<|yk F),(ae _ rfl<|yk E),(ae _ rfl rfl),(ae _ rfl rfl),(ae _ rfl rfl),(ae _ rfl rfl),(ae _ rfl rfl),(ae _ rfl rfl),(ae _ rfl rfl),(ae _ rfl rfl),(ae _ rfl rfl),(ae _ rfl rfl),trivial⟩
   .have c:=of_decide_eq_false c;have t:gQ i b g j=⟨g.best,λx=>if x=j then bD b j+1 else g.L x⟩:=by unfold gQ;show aW (if_neg<|<-(af 0x7b96889e20fb3113c410) c) rfl
    rw[t]at o;show o _ _ y r<|a0.ok ⋯
abbrev ez(b:List ZD)(e:ZD):List Nat:=if a5 b e=ZW then[]else(YY b.length).filter λ(j:Nat)=>decide<|b[j]?=Z7 e
def He(b)(e):(ez b e).map (λ(j:Nat)=>AV.int (j:Int))=if a5 b e=ZW then[]else bp b b.length e:=by unfold ez;split<;>rfl
abbrev gV(a b j:Nat):Bool:=decide (a<=j)&&decide (j<b)
def IN(h:a[i]?=Z7 e):ri a b (λx=>!a5 b x) c d i b.length=(ez b e).filter (gV c d):=by
 ext a i e b c d;have f:a.getD i ZP=e:=JF h;unfold ri ez gV;exists f,h;by_cases z:a5 b e=ZW;.exists if_pos z;simp only[z];simp
 .have g:a5 b e=ZX:=by simpa using z
  exists if_neg z,List.filter_filter;simp only[g];show List.filter_congr λj k=>?_;simp only[R7,Tt];congr 1;show decide_eq_decide.mpr ⟨ZJ,ZJ⟩
def Hg(b)(e):(ez b e).Pairwise (·<·):=by
 unfold ez;split;.show .nil
 .show List.Pairwise.filter _ List.pairwise_lt_range
def Hf(b)(e):(ez b e).length<=b.length:=by
 unfold ez;split;.show ZZ _
 .show ZY (V2 _ _) (by exists Xi;show ZR _)
abbrev iE(i:Nat)(c:FS)(d:List Nat)(a b m:Nat):FS:=((d.take m).filter<|gV a b).foldl (gQ i c.L) ⟨c.best,λe=>0⟩
def Jr{st:FS}(h:a[m]?=Z7 j):iE i st a aC aH (m+1)=if gV aC aH j=ZW then gQ i st.L (iE i st a aC aH m) j else iE i st a aC aH m:=by
 unfold iE;exists Zc;rw[h,Ys,X0,YU];by_cases z:gV aC aH j=ZW;.exists if_pos z;simp[z]
 .exists if_neg z;simp[z]
def Jq(l:b.Pairwise (·<·))(h:b[m]?=Z7 j)(n:a<=j):iE i g b c a m=(b.filter (gV c a)).foldl (gQ i g.L) ⟨g.best,λo=>0⟩:=by
 unfold iE;congr 1;obtain⟨k,e⟩:=Zv.mp h;have hd:(b.drop m).filter (gV c a)=[]:=by
  rw[XJ];intro x f;have p:j<=x:=by
   rw[Yk k,e]at f;rcases Z1.mp f with rfl|f;.show ZR _
   .have d:(b.drop m).Pairwise (·<·):=l.sublist<|List.drop_sublist _ _;rw[Yk k,e]at d;show Ye<|(Xr.mp d).1 x f
  unfold gV;simp only[YK,decide_eq_true_eq,not_and];show(ay 0x6083c088307b23160414) n p
 conv=>rhs;rw[<-Yz m b,X0,hd,ZH]
def I9{K:Kn}(r:Ok Y (λx=>(aw cC).names.lookup x) aY)(M:Y.env=Y8 (Z9 "SequenceMatcher.find_longest_match") (aw cC) L 196 (Zr 195))(U:w=Y.w)(D:e.la=.lst (a.map .str))(A:e.mW=ix (Zz pw w) tZ)(V:fY b tZ)(N:a[i]?=Z7 x)(W:b.length<=1000)(X:i<2^62)(Z:JK n.L k)(O:∀j,bD n.L j<=i/\bD n.L j<=j)(h:∀p o f,JK (fM a b (λx=>!a5 b x) e.aC e.aH i b.length n).L f->Sub ((Z9 "j2len",.ref p)::ng d p (fM a b (λx=>!a5 b x) e.aC e.aH i b.length n) i e) o->((jF Y.w d p k f R).map (·.1)).Nodup->K.nx o (jF Y.w d p k f R)):Ex Y ((Z9 "i",.int i)::(Z9 "j2len",.ref d)::(Z9 "bestsize",.int n.best.m)::(Z9 "bestj",.int n.best.j)::(Z9 "besti",.int n.best.i)::pi e) ((d,.ext (dP (W7 pw Y.w) k))::R) (bW (aT (aA cC) 7)) K:=by
 ext Y L w tZ b a i x k n d e R K;subst U;show run r M ?_;show stM<|Ev.to _ (Ev.dictGet (aj r rfl<|ae k (.inl<|bX d _ rfl (.head _) λy y z=>z) ⟨rfl,rfl⟩) rfl) ?_;show stM (tp (knd:=W7 pw Y.w) λp hd2=>?_);ext p;have s:(∀m j,(ez b x)[m]?=Z7 j->e.aH<=j->iE i n (ez b x) e.aC e.aH m=fM a b (λx=>!a5 b x) e.aC e.aH i b.length n)/\iE i n (ez b x) e.aC e.aH (ez b x).length=fM a b (λx=>!a5 b x) e.aC e.aH i b.length n:=by unfold fM;exists IN N;show⟨λm j h1 h2=>Jq (Hg b x) h1 h2,?_⟩;unfold iE;show aW YQ rfl
 have E:=Hf b x;show⟨lx λF=>Es.post<|d5 (λy=>rfl)<|ch.lst<|tt Vn UZ Sm rfl rfl rfl rfl<|aj r rfl ⟨kn.dict (knd:=Zz pw Y.w)<|.inr A,.cons rfl<|Ev.sub<|aj r rfl<|aj r rfl<|Ix.list trivial (.inl D) (Yy i) (VW (WS.mpr X)<|by decide) (x:=.str x) (by rw[Zm,ZQ,N];rfl)<|.cons rfl<|aj r rfl<|.nil<|Ep (rS _) (.inr A) ⟨(ez b x).map λ(j:Nat)=>AV.int (j:Int),(V x).trans<|by rw[He],λm o G=>∃f,JK (iE i n (ez b x) e.aC e.aH m).L f/\f.length<=m/\G=jF Y.w d p k f R/\Sub (ng d p (iE i n (ez b x) e.aC e.aH m) i e) o,?_,λy y y y=>trivial,?_,?_⟩⟩⟩;.show db ([]) Az (ZR _) rfl ?_;show a0.ok ⋯
 .rintro m av o G Q c u⟨f,t,C,rfl,l⟩;revert c u t C l;ext m av o Q f;rw[ZQ]at u;show aq (WQ.mp u) λj H I=>?_;subst I;have hm:m<(ez b x).length:=(Zv.mp H).1;have g:=Jr (i:=i) (st:=n) (aC:=e.aC) (aH:=e.aH) H;show Tg.ex r.holds ?_;show Ex.sub (l.cc _ _)<|Ja (Y:=Y.holds Q c) (aI:=k) (R:=R) r.holds M Z t (<-(ay 0x613103c5810f040e464c461f809e17) W E C hm) (O j).1 (O j).2 F (λq=>?_) (λq=>?_) λq1 q2 S v g3 g4 J=>?_
  .have z:gV e.aC e.aH j=ZX:=by unfold gV;exists decide_eq_false<|Nat.not_le.mpr q;rfl
   rw[z,if_neg Y6]at g;show db f ?_ (X5 C) rfl ?_;.exists g;show t
   .exists g;show a0.ok ⋯
  .rw[s.1 m j H q]at t⊢;show b7 _ _ Cv.refl ?_;show h p _ f t ?_ F;show a0.ok ⋯
  .have z:gV e.aC e.aH j=ZW:=by unfold gV;exists decide_eq_true q1,decide_eq_true q2;rfl
   rw[if_pos z]at g;show db v ?_ (<-(ai 0x6043c444f1871113c411) C g4) rfl ?_;.exists g;show g3
   ·exists g;show J
 .rintro o G⟨f,t,C,rfl,l⟩;rw[Z6,s.2]at t l;show b7 _ _ (Cv.sub l) ?_;show h p _ f t (Sub.refl _) F
inductive A9(i j m:Int)(g:Zw->Option Ze)(v:ZN):Prop|mk(a o t u w n)(e:v=.ref a)(hg:g a=some o)(hc:o.cls=.ref 135)(hd:o.data=.seq #[.int i t,.int j u,.int m w] n)(hs:o.slots=#[])
abbrev gW(i j m:Int):AV:=.ext<|A9 i j m
def Nk:mL (A9 i j m):=λg l v b h=>by cases h with|mk a o t u w n e c d f k=>show⟨a,o,t,u,w,n,e,b a o c,d,f,k⟩
abbrev xF:Prop:=∀(X:Fx)(f:Loc)(O:ag)(a b c:X7)(g e:Vk)(k:AV->ag->Prop),X.env.kindOf (Z9 "Match")=Z7 .globalImplicit->X.A.depth+2<ZU->[a,b,c].any bN=ZX->(bm X f O [a,b,c] λl d=>∃i j m,l=[.int i,.int j,.int m]/\k (gW i j m) d)->Ev X f O (.Call (.Name (Z9 "Match") g) [a,b,c] [] e) k
abbrev dT(a b c:Nat)(e:qD):Loc:=(Z9 "bestsize",.int c)::(Z9 "bestj",.int b)::(Z9 "besti",.int a)::pi e
def abp(h:lF a b S c d e f i L)(j):bD L j<=i/\bD L j<=j:=by
 show ZI (Vy<|bD L j) (λz=>?_) λz=>?_;.exists z;show⟨ZZ _,ZZ _⟩
 .show cR ((vY h (bD L j) z).mp<|ZR _) λp q g k l=>?_;show⟨(ai 0xd0e21160612) g,(ai 0xd0e21160612) k⟩
def I3{K:Kn}(p:Ok Y (λx=>(aw cC).names.lookup x) aY)(H:Y.env=Y8 (Z9 "SequenceMatcher.find_longest_match") (aw cC) L 196 (Zr 195))(Q:w=Y.w)(z:e.la=.lst (a.map .str))(A:e.mW=ix (Zz pw w) k)(U:fY b k)(V:b.length<=1000)(n:a.length<=1100)(W:e.aG<=e.aQ)(r:e.aQ<=a.length)(X:e.aH<=b.length)(h:∀i o,Cv Y i o (dT (dr a b (λx=>!a5 b x) e.aG e.aQ e.aC e.aH).i (dr a b (λx=>!a5 b x) e.aG e.aQ e.aC e.aH).j (dr a b (λx=>!a5 b x) e.aG e.aQ e.aC e.aH).m e) R->K.nx i o):Es Y ((Z9 "j2len",.ref d)::(Z9 "bestsize",.int (0:Nat))::(Z9 "bestj",.int e.aC)::(Z9 "besti",.int e.aG)::pi e) ((d,.ext (dP (W7 pw Y.w) []))::R) (aT (aA cC) 7) K:=by
 ext Y L w k b a e R d K;show iD p H 20 _ _ _ _ ?_;have I:((e.aQ:Int)-(e.aG:Int)).toNat=e.aQ-e.aG:=(ai 0x3076430d85b90c360bc60d05e2dd82f90c3a90c221) (@YZ<|(↑e.aQ:Int)-(↑e.aG:Int))<|@XE<|(↑e.aQ:Int)-(↑e.aG:Int);show⟨lx λZ=>d5 (λv=>rfl)<|E5 rfl (p.ld ⋯ ⋯)<|.cons rfl<|aj p rfl<|.cons rfl<|aj p rfl<|.nil ⟨(e.aG:Int),(e.aQ:Int),rfl,ak 0x1b0dc300c0300c0300c0300c0300c0300c0af3,(ai 0x30d80e0278b030e043e06018060180601806018060180601815e14) n W r,ak 0x1b0dc300c0300c0300c0300c0300c0300c0af3,(af 0x61b01c04f16041e06018060180601806018060180601815e11) n r,λt i o=>∃d l,JK (jE a b (λx=>!a5 b x) e.aG e.aC e.aH t).L l/\o=(d,.ext<|dP (W7 pw Y.w) l)::R/\(o.map (·.1)).Nodup/\Sub ((Z9 "j2len",.ref d)::dT (jE a b (λx=>!a5 b x) e.aG e.aC e.aH t).best.i (jE a b (λx=>!a5 b x) e.aG e.aC e.aH t).best.j (jE a b (λx=>!a5 b x) e.aG e.aC e.aH t).best.m e) i,?_,λv v v v=>trivial,?_,?_⟩⟩;.show kM d ([]) Az rfl Z<|Sub.refl _
 .rintro t J i o M c g⟨d,l,C,rfl,s,f⟩;revert c g d C s f;ext t J i M l;replace g:=I▸g;have u:t<e.aQ-e.aG:=by have:=(Zv.mp g).1;simpa[cg]using this
  have e1:J=.int ((e.aG+t:Nat):Int):=by unfold cg at g;replace g:=(WV u)▸ZQ▸g;cases g;rfl
  exists e1;have D:=(Dh (a:=a) (b:=b) (S:=λx=>!a5 b x) (aG:=e.aG) (aQ:=e.aQ) (aC:=e.aC) (aH:=e.aH) X t<|(ai 0x33208c581c4412) u).1;have y:∃x,a[e.aG+t]?=Z7 x:=⟨a[e.aG+t]'((ay 0x1819332090591c441c) r u),Z2<|(ay 0x1819332090591c441c) r u⟩;show aS y ?_;clear y;intro x y;show Tg.ex p.holds ?_;show Ex.post<|Ex.sub (f.cc _ _)<|I9 (Y:=Y.holds M c) (w:=w) (b:=b) (a:=a) (tZ:=k) (x:=x) (R:=R) p.holds H Q z A U y V ((ay 0x61b01c04f1e064cc824164300c0300c0300c0300c0300c0300c0af8882000045f) n r u) C (λj=>?_) λN O m g2 E F=>?_;.show abp D j
  .have G:(((N,az.ext<|dP (W7 pw Y.w) m)::R).map (·.1)).Nodup:=F.sublist<|.cons_cons _<|Yc _ _;show⟨_,_,(Cv.sub<|Sub.trans ?_ E).trans<|Cv.drop<|.cons_cons _<|Yc _ _,N,m,g2,rfl,G,Sub.refl _⟩;show a0.ok ⋯
 .rintro i o⟨d,l,C,rfl,s,f⟩;have hl:(cg (e.aG:Int) ((e.aQ:Int)-(e.aG:Int)).toNat).length=e.aQ-e.aG:=by exists I;simp[cg]
  replace f:=(ab2)▸hl▸f;show h _ _<|(Cv.sub<|Sub.trans ?_ f).trans<|Cv.drop<|Yc _ _;show a0.ok ⋯
def Bp(P)(n t)(b:P t=ZW)(c:t<=n)(d:∀u,u<n->P (u+1)=ZW->P u=ZW)(f:t<n->P (t+1)=ZX):mx P n=t:=by
 show NI P n t b c λu g a=>?_;have p:∀k,t+1+k<=n->P (t+1+k)=ZX:=by intro k;induction k with|zero=>intro h;show f h;|succ k i=>intro h;cases e:P (t+1+(k+1))with|false=>rfl;|true=>have p:=d (t+1+k) ((ai 0x6071889e2889e1c8e22889e10) h) e;replace p:=(i<|(ai 0x6071889e2889e1c0e22889e10) h)▸p;cases p
 have p:=p (u-(t+1)) ((ai 0x6062c88381c65113c22889e11) g a);rwa[show t+1+(u-(t+1))=u by show(af 0xc883a1465113c22889e10) a]at p
def Dp(h:l[i-(t+1)]?=Z7 x)(a:t+1<=i)(b:i<=l.length):au l (i-(t+1)) i=x::au l (i-t) i:=by unfold au;obtain⟨c,e⟩:=Zv.mp h;exists(Yk (by rw[Zf];show(ai 0x605113c7808b3408a5113c626) a b));rw[List.getElem_take,e];have p:i-(t+1)+1=i-t:=<-(af 0x603113c5a9083113e5113c410) a;show aW p rfl
def Du(h:l[p+t]?=Z7 x):au l p (p+(t+1))=au l p (p+t)++[x]:=by
 unfold au;exists(show p+(t+1)=p+t+1 by show af 0x1a889f11063113c415);rw[Zc,h,Ys,Qt];have a:=(Zv.mp h).1;have u:p-(l.take<|p+t).length=0:=by exists Zf;show(ai 0x6471107417ca83888212) a
 exists u;rfl
abbrev fF(a b:List ZD)(i j t:Nat):Bool:=au a (i-t) i==au b (j-t) j
abbrev gX(a b:List ZD)(i j t:Nat):Bool:=au a i (i+t)==au b j (j+t)
def yb(d:a[i-(t+1)]?=Z7 x)(e:b[j-(t+1)]?=Z7 y)(f:t+1<=i)(c:t+1<=j)(g:i<=a.length)(h:j<=b.length):fF a b i j (t+1)=(x==y&&fF a b i j t):=by unfold fF;exists Dp d f g,Dp e c h;rfl
def CB(c:a[i+t]?=Z7 x)(d:b[j+t]?=Z7 y):gX a b i j (t+1)=(x==y&&gX a b i j t):=by
 unfold gX;exists Du c,Du d;by_cases e:x=y;.exists e;simp
 .have f:(x==y)=ZX:=by simpa using e
  exists f;rw[PJ];rw[beq_eq_false_iff_ne];intro q;show e (by simpa using(List.append_inj' q rfl).2)
def i6{a:List ZD}(h:i<a.length):∃x,a[i]?=Z7 x:=⟨a[i],Z2 h⟩
def jf{x y:Nat}(h:decide ((x:Int)<(y:Int))=!ZX):x<y:=WS.mp<|of_decide_eq_true h
def kZ{x y:Nat}(h:decide ((x:Int)<(y:Int))=ZX):¬x<y:=λq=>of_decide_eq_false h<|WS.mpr q
def yl(h:t<i):AV.int (((i-t:Nat):Int)-1)=AV.int ((i-(t+1):Nat):Int):=congrArg AV.int<|(af 0x321176d2889e20c84fb48410) h
def uT{l:List ZD}(h:l[i-(t+1)]?=Z7 x)(b:t<i)(c:l.length<=1100):0<=((i-t:Nat):Int)-1/\((i-t:Nat):Int)-1<2^63/\(l.map AV.str)[(((i-t:Nat):Int)-1).toNat]?=Z7 (.str x):=by have a:=(Zv.mp h).1;have e:((i-t:Nat):Int)-1=((i-(t+1):Nat):Int):=(af 0x321176d2889e20c84fb48410) b;exists e;rw[Zm,ZQ,h];show br (Yy _) (VW (WS.mpr<|WK a c)<|by decide) rfl
def uU{l:List ZD}{i t:Nat}(h:l[i+t]?=Z7 x)(b:l.length<=1100):0<=(i:Int)+(t:Int)/\(i:Int)+(t:Int)<2^63/\(l.map AV.str)[((i:Int)+(t:Int)).toNat]?=Z7 (.str x):=by have a:=(Zv.mp h).1;have e:(i:Int)+(t:Int)=((i+t:Nat):Int):=rfl;exists e;rw[Zm,ZQ,h];show br (Yy _) (VW (WS.mpr<|WK a b)<|by decide) rfl
def I2{K:Kn}(f:Ok Y (λx=>(aw cC).names.lookup x) aY)(M:Y.env=Y8 (Z9 "SequenceMatcher.find_longest_match") (aw cC) L 196 (Zr 195))(O:w=Y.w)(C:e.la=.lst (a.map .str))(o:e.lb=.lst (b.map .str))(D:e.bj=fG "set.__contains__" (eU w λg=>ZX))(p:i<=a.length)(r:j<=b.length)(E:a.length<=1100)(Q:b.length<=1000)(h:K.nx (dT (i-mx (fF a b i j) (min (i-e.aG) (j-e.aC))) (j-mx (fF a b i j) (min (i-e.aG) (j-e.aC))) (m+mx (fF a b i j) (min (i-e.aG) (j-e.aC))) e) R):Es Y (dT i j m e) R (aT (aA cC) 8) K:=by
 ext Y L w i j a b m e R K;have F:∀u,u<min (i-e.aG) (j-e.aC)->fF a b i j (u+1)=ZW->fF a b i j u=ZW:=λu s q=>by show aS (i6 (a:=a) (i:=i-(u+1))<|(gq 0x181933491832110b91ca2279480008a6f) p s) λx v=>?_;show aS (i6 (a:=b) (i:=j-(u+1))<|(gq 0x182933490892304792ca2278c8000865f) r s) λy A=>?_;rw[yb v A ((aV 0xcd2450c8441e09113c6000885f) s) ((aV 0xcd242248a11e09113c6000885f) s) p r,YK]at q;show q.2
 have S:fF a b i j 0=ZW:=by unfold fF au;simp
 show iD f M 20 _ _ _ _ ?_;show stM<|mD (λt=>dT (i-t) (j-t) (m+t) e) (λg=>R) (λt=>min (i-e.aG) (j-e.aC)-t) (λt=>t<=min (i-e.aG) (j-e.aC)/\fF a b i j t=ZW) 0 ⟨ZZ _,S⟩ ?_;rintro t⟨U,N⟩;ext t;show bL f (n:=9) ?_;have G:(t<min (i-e.aG) (j-e.aC)->fF a b i j (t+1)=ZX)->K.nx (dT (i-t) (j-t) (m+t) e) R:=λq=>by have:=Bp _ _ t N U F q;rwa[this]at h
 clear h;show ZK (λc=>?_) λc=>?_
 .have c:=jf c;show ZK (λd=>?_) λd=>?_
  .have d:=jf d;show aS (i6 (a:=a) (i:=i-(t+1))<|(ay 0x18107321849914a2278c2001065f) p c) λx v=>?_;show aS (i6 (a:=b) (i:=j-(t+1))<|(ay 0x18107321849914a2278c2001065f) r d) λy A=>?_;have H:=yb v A ((ai 0x664118b03889e12) c) ((ai 0x664118b03889e12) d) p r;rw[N,Tt]at H;have I:=uT (l:=a) (i:=i) (t:=t) v ((ai 0xcc823164612) c) E;have k:=uT (l:=b) (i:=j) (t:=t) A ((ai 0xcc823164612) d)<|ZY Q<|by decide
   show stM<|Ts.plain (qy f O rfl (congrArg Z7 D)<|Ev.sub<|aj f rfl<|be f (n:=5) ?_) rfl;show Ix.list trivial (.inl o) k.1 k.2.1 k.2.2<|ae y rfl<|Tr.bool ?_;show⟨λg=>?_,λz=>(nT z)⟩;show stM<|Ev.sub<|aj f rfl<|be f (n:=5) ?_;show Ix.list trivial (.inl C) I.1 I.2.1 I.2.2 ?_;show stM<|Ev.sub<|aj f rfl<|be f (n:=5) ?_;show Ix.list trivial (.inl o) k.1 k.2.1 k.2.2 ?_;show ZK (λJ=>?_) λJ=>?_;.show⟨λg=>?_,λz=>(nT z)⟩;show Ex.post<|run f M ?_;show⟨_,_,(Cv.sub (ρ':=dT (i-(t+1)) (j-(t+1)) (m+(t+1)) e) ?_),t+1,Ar.yf<|Ar.ye c d,⟨Ar.ye c d,H.trans J⟩,rfl,rfl⟩;show f4.ok ⟨(ae _ rfl rfl),(ae _ rfl<|yl<|(ai 0xcc823164612) d),(ae _ rfl<|yl<|(ai 0xcc823164612) c),(ae _ rfl rfl),(ae _ rfl rfl),(ae _ rfl rfl),(ae _ rfl rfl),(ae _ rfl rfl),(ae _ rfl rfl),(ae _ rfl rfl),(ae _ rfl rfl),(ae _ rfl rfl),trivial⟩
   .show⟨λz=>(nF z),λg=>G λg=>?_⟩;show H.trans J
  .have d:=kZ d;show⟨λz=>(nF z),λg=>G λq=><-((aV 0xf664418bd9a4843904a4b) d q).elim⟩
 .have c:=kZ c;show⟨λz=>(nF z),λg=>G λq=><-((aV 0xf664418bd9a48a190864b) c q).elim⟩
def I8{K:Kn}(c:Ok Y (λx=>(aw cC).names.lookup x) aY)(G:Y.env=Y8 (Z9 "SequenceMatcher.find_longest_match") (aw cC) L 196 (Zr 195))(O:w=Y.w)(r:e.la=.lst (a.map .str))(l:e.lb=.lst (b.map .str))(s:e.bj=fG "set.__contains__" (eU w λg=>ZX))(H:e.aQ<=a.length)(I:e.aH<=b.length)(v:a.length<=1100)(Q:b.length<=1000)(h:K.nx (dT i j (m+mx (gX a b (i+m) (j+m)) (min (e.aQ-(i+m)) (e.aH-(j+m)))) e) R):Es Y (dT i j m e) R (aT (aA cC) 9) K:=by
 ext Y L w i j m a b e R K;have A:∀u,u<min (e.aQ-(i+m)) (e.aH-(j+m))->gX a b (i+m) (j+m) (u+1)=ZW->gX a b (i+m) (j+m) u=ZW:=λu J q=>by show aS (i6 (a:=a) (i:=i+m+u)<|(fk 0x6086cd25129c32894461e4911c4a2e) H J) λx o=>?_;show aS (i6 (a:=b) (i:=j+m+u)<|(fk 0x6086cd251288d2894e11e4911c4a2e) I J) λy p=>?_;rw[CB o p,YK]at q;show q.2
 have S:gX a b (i+m) (j+m) 0=ZW:=by unfold gX au;simp
 show iD c G 20 _ _ _ _ ?_;show stM<|mD (λt=>dT i j (m+t) e) (λg=>R) (λt=>min (e.aQ-(i+m)) (e.aH-(j+m))-t) (λt=>t<=min (e.aQ-(i+m)) (e.aH-(j+m))/\gX a b (i+m) (j+m) t=ZW) 0 ⟨ZZ _,S⟩ ?_;rintro t⟨U,M⟩;ext t;show bL c (n:=9) ?_;have C:(t<min (e.aQ-(i+m)) (e.aH-(j+m))->gX a b (i+m) (j+m) (t+1)=ZX)->K.nx (dT i j (m+t) e) R:=λq=>by have:=Bp _ _ t M U A q;rwa[this]at h
 clear h;show ZK (λd=>?_) λd=>?_
 .have d:i+(m+t)<e.aQ:=jf d;show ZK (λf=>?_) λf=>?_
  .have f:j+(m+t)<e.aH:=jf f;show aS (i6 (a:=a) (i:=i+(m+t))<|(aV 0x18117258c4830e451890611) H d) λx o=>?_;show aS (i6 (a:=b) (i:=j+(m+t))<|(aV 0x18117258c4830e451890611) I f) λy p=>?_;have D:=uU o v;have k:=uU p<|ZY Q<|by decide
   have E:=CB (a:=a) (b:=b) (i:=i+m) (j:=j+m) (t:=t) (x:=x) (y:=y) (by rw[XB];show o) (by rw[XB];show p);rw[M,Tt]at E;show stM<|Ts.plain (qy c O rfl (congrArg Z7 s)<|Ev.sub<|aj c rfl<|be c (n:=5) ?_) rfl;show Ix.list trivial (.inl l) k.1 k.2.1 k.2.2<|ae y rfl<|Tr.bool ?_;show⟨λg=>?_,λz=>(nT z)⟩;show stM<|Ev.sub<|aj c rfl<|be c (n:=5) ?_;show Ix.list trivial (.inl r) D.1 D.2.1 D.2.2 ?_;show stM<|Ev.sub<|aj c rfl<|be c (n:=5) ?_;show Ix.list trivial (.inl l) k.1 k.2.1 k.2.2 ?_;show ZK (λF=>?_) λF=>?_;.show⟨λg=>?_,λz=>(nT z)⟩;show Ex.post<|run c G ?_;have N:t+1<=min (e.aQ-(i+m)) (e.aH-(j+m)):=(AN 0xc9231094f9446212a752894e41ea512a506d50c31605113c2000007f) d f (SO<|e.aQ-(i+m)) (SO<|e.aH-(j+m))<|SO<|min (e.aQ-(i+m))<|e.aH-(j+m);show⟨_,_,(Cv.sub (ρ':=dT i j (m+(t+1)) e) ?_),t+1,Ar.yf N,⟨N,E.trans F⟩,rfl,rfl⟩;show a0.ok ⋯
   .show⟨λz=>(nF z),λg=>C λg=>?_⟩;show E.trans F
  .have f:¬j+(m+t)<e.aH:=kZ f;show⟨λz=>(nF z),λg=>C λq=><-((gq 0x3d934623117d9a4a2229a51104836) f q).elim⟩
 .have d:¬i+(m+t)<e.aQ:=kZ d;show⟨λz=>(nF z),λg=>C λq=><-((gq 0x3d92c62320bd9a4a2430651208a36) d q).elim⟩
def I4{b:List ZD}{K:Kn}(d:Ok Y (λx=>(aw cC).names.lookup x) aY)(p:Y.env=Y8 (Z9 "SequenceMatcher.find_longest_match") (aw cC) L 196 (Zr 195))(r:w=Y.w)(g:e.lb=.lst (b.map .str))(k:e.bj=fG "set.__contains__" (eU w λc=>ZX))(s:j<=b.length)(u:b.length<=1000)(h:K.nx (dT i j m e) R):Es Y (dT i j m e) R (aT (aA cC) 10) K:=by
 ext Y L w j i m e R b K;show iD d p 20 _ _ _ _ ?_;show stM<|mD (λ_:Unit=>dT i j m e) (λc=>R) (λc=>0) (λc=>True) () trivial λc c=>?_;show bL d (n:=9) ?_;show ZK (λv=>?_) λv=>⟨λz=>(nF z),λc=>h⟩;show ZK (λf=>?_) λf=>⟨λz=>(nF z),λc=>h⟩;have f:=jf f;show aS (i6 (a:=b) (i:=j-(0+1))<|(ai 0x6041c847914a22785e16) s f) λy A=>?_;have o:=uT (l:=b) (i:=j) (t:=0) A ((af 0x6422c842f2) f)<|ZY u<|by decide
 show stM<|Ts.plain (qy d r rfl (congrArg Z7 k)<|Ev.sub<|aj d rfl<|be d (n:=5) ?_) rfl;show Ix.list trivial (.inl g) o.1 o.2.1 o.2.2<|ae y rfl<|Tr.bool ?_;show⟨λz=>(nF z),λc=>⟨λz=>(nF z),λc=>h⟩⟩
def I5{b:List ZD}{K:Kn}(d:Ok Y (λx=>(aw cC).names.lookup x) aY)(o:Y.env=Y8 (Z9 "SequenceMatcher.find_longest_match") (aw cC) L 196 (Zr 195))(p:w=Y.w)(g:e.lb=.lst (b.map .str))(k:e.bj=fG "set.__contains__" (eU w λc=>ZX))(r:e.aH<=b.length)(s:b.length<=1000)(h:K.nx (dT i j m e) R):Es Y (dT i j m e) R (aT (aA cC) 11) K:=by
 ext Y L w i j m e R b K;show iD d o 20 _ _ _ _ ?_;show stM<|mD (λ_:Unit=>dT i j m e) (λc=>R) (λc=>0) (λc=>True) () trivial λc c=>?_;show bL d (n:=9) ?_;show ZK (λt=>?_) λt=>⟨λz=>(nF z),λc=>h⟩;show ZK (λf=>?_) λf=>⟨λz=>(nF z),λc=>h⟩;have f:j+m<e.aH:=jf f;show aS (i6 (a:=b) (i:=j+m)<|(ay 0x181132488c39144611) r f) λy u=>?_;have l:=uU u<|ZY s<|by decide
 show stM<|Ts.plain (qy d p rfl (congrArg Z7 k)<|Ev.sub<|aj d rfl<|be d (n:=5) ?_) rfl;show Ix.list trivial (.inl g) l.1 l.2.1 l.2.2<|ae y rfl<|Tr.bool ?_;show⟨λz=>(nF z),λc=>⟨λz=>(nF z),λc=>h⟩⟩
def tn{K:Kn}(c:Cv X a O ρ' O')(h:Es X ρ' O' b K):Es X a O b K:=λE s F=>by show aE (c s F) λe f=>?_;show wm (h _ s e) λfl d x=>.from f x
def GZ(h:aQ<=a.length)(i:aH<=b.length)(j:aG<=aQ)(k:aC<=aH)(e:c=dr a b S aG aQ aC aH)(f:d=mx (fF a b c.i c.j) (min (c.i-aG) (c.j-aC))):d<=c.i/\d<=c.j/\c.i<=a.length/\c.j<=b.length/\(aX a b S aG aQ aC aH).i=c.i-d/\(aX a b S aG aQ aC aH).j=c.j-d/\(c.m+d+mx (gX a b (c.i-d+(c.m+d)) (c.j-d+(c.m+d))) (min (aQ-(c.i-d+(c.m+d))) (aH-(c.j-d+(c.m+d)))))=(aX a b S aG aQ aC aH).p-(aX a b S aG aQ aC aH).i:=by
 revert h i j k e f;injections aQ aH aG aC c a b S d;intro h i j k e f;obtain⟨p,m,r,n⟩:=tW (S:=S) h i j k;rw[<-e]at p m r n;have g:=n8 (fF a b c.i c.j)<|min (c.i-aG)<|c.j-aC;rw[<-f]at g;have l:d<=c.i:=(aV 0x18a482590883c106000885f) g;have o:d<=c.j:=(aV 0x18a4844904a3c106000885f) g;have s:c.i-d+(c.m+d)=c.i+c.m:=(ai 0x30116a230c6221c8410) l;have t:c.j-d+(c.m+d)=c.j+c.m:=(ai 0x30116a230c6221c8410) o;have u:(aX a b S aG aQ aC aH).i=c.i-d:=by exists f,e;rfl
 have v:(aX a b S aG aQ aC aH).j=c.j-d:=by exists f,e;rfl
 have w:(aX a b S aG aQ aC aH).p=c.i+c.m+mx (gX a b (c.i+c.m)<|c.j+c.m) (min (aQ-(c.i+c.m))<|aH-(c.j+c.m)):=by exists e;rfl
 exists s,t,u,v,w;show⟨l,o,jh h m,jh i n,rfl,rfl,?_⟩;exists Ar.span l;show Rh _ _ _
def I6{X:Fx}{N:Loc}{O:ag}(Q:xF){c f i j:Nat}(l:X.A.depth+4<ZU)(I:dw x A D)(U:w=X.w)(V:u.lookup (Z9 "a")=Z7 (.lst (a.map .str)))(W:u.lookup (Z9 "b")=Z7 (.lst (b.map .str)))(Z:u.lookup (Z9 "b2j")=Z7 (ix (Zz pw w) p))(fj:u.lookup (Z9 "bjunk")=Z7 (eU w λm=>ZX))(hB:fY b p)(y:b.length<=1000)(s:a.length<=1100)(G:f<=a.length)(E:j<=b.length)(M:c<=f)(h2:i<=j)(H:k (gW ((aX a b (λx=>!a5 b x) c f i j).i:Nat) ((aX a b (λx=>!a5 b x) c f i j).j:Nat) (((aX a b (λx=>!a5 b x) c f i j).p-(aX a b (λx=>!a5 b x) c f i j).i:Nat):Int)) (aN x A D u []++O)):ax X N (aN x A D u []++O) (.ref 196) [.ref x,.int c,.int f,.int i,.int j] k:=by
 revert Q l I U V W Z fj hB y s G E M h2 H;revert X N O k x A D u a b p w c f i j;injections x A D w p b k u;injections a X N O c f i j;intro Q l I U V W Z fj hB y s G E M h2 H;show ax.md (df:=189) (nm:=Z9 "find_longest_match") (name:=Z9 "SequenceMatcher.find_longest_match") (params:=cY cC) (body:=aA cC) (scope:=aw cC) (pm:=_) (ca:=195) (doc:=_) (ns:=[Z9 "self",Z9 "alo",Z9 "ahi",Z9 "blo",Z9 "bhi"]) (dv:=[]) (dl:=[]) ((af 0x19144af0e4410) l) (x3 _) rfl (F9 _) rfl rfl (F8 _) rfl (λvs h=>?_) (λm m=>.nil) dk dk dk rfl rfl rfl λY C=>?_;.show AP h λm m m m m=>ae _ rfl rfl
 .ext Y;show Ex.gen λK hN hR m m=>C.run ⋯ λL F=>?_;rename_i q0;clear q0;revert hN hR m F;ext K L;have r:=C.ok ⋯;have t:w=Y.w:=U.trans C.w.symm;have hr:Y.A.depth+3<ZU:=by exists C.depth;show l
  show stM<|Ev.to _ (fC r I rfl V trivial pf ⟨rfl,rfl⟩) ?_;show stM<|Ev.to _ (fC r I rfl W trivial nf ⟨rfl,rfl⟩) ?_;show stM<|Ev.to _ (fC r I rfl Z (λg v jY=>ec jY λa o e m=>⟨a,e⟩) zi ⟨rfl,rfl⟩) ?_;show stM<|Ev.to _ (ES (fC r I rfl fj (λg v my=>m3 my λa o n e m=>⟨a,e⟩) zj<|ae _ rfl ⟨rfl,rfl⟩) rfl) ?_;show stM<|xa ?_;show⟨λz=>(nF z),λm=>?_⟩;show stM<|xa ?_;show⟨λz=>(nF z),λm=>?_⟩;show stM<|tp (knd:=W7 pw Y.w) λd hd=>?_;show stM<|Ev.to _ (dq<|.nil ⟨ZZ _,⟨rfl,rfl⟩⟩) ?_;show⟨tn (Cv.sub (ρ':=(Z9 "j2len",.ref d)::(Z9 "bestsize",.int (0:Nat))::(Z9 "bestj",.int i)::(Z9 "besti",.int c)::pi ⟨fG "set.__contains__"<|eU w λm=>ZX,ix (Zz pw w) p,.lst<|a.map .str,.lst<|b.map .str,c,f,i,j⟩)<|a0.ok ⋯) (Es.post<|I3 (R:=aN x A D u []) (e:=⟨fG "set.__contains__"<|eU w λm=>ZX,ix (Zz pw w) p,.lst<|a.map .str,.lst<|b.map .str,c,f,i,j⟩) r F t rfl rfl hB y s M G E λρ' O' J=>b7 _ _ J ?_)⟩;obtain⟨v1,v2,v3,v4,v5,v6,v7⟩:=GZ (a:=a) (b:=b) (S:=λx=>!a5 b x) (aG:=c) (aQ:=f) (aC:=i) (aH:=j) G E M h2 rfl rfl;rw[<-v7,v5,v6]at H;clear v5 v6 v7 J;show stM<|I2 r F t rfl rfl rfl v3 v4 s y ?_;show stM<|I8 r F t rfl rfl rfl G E s y ?_;show stM<|I4 r F t rfl rfl (ZY (SP _ _) v4) y ?_;show stM<|I5 r F t rfl rfl E y ?_;show stM (Q _ _ _ _ _ _ _ _ _ (C.glob ⋯) ((af 0xc8a247872288de10) hr) rfl<|.cons rfl<|aj r rfl<|.cons rfl<|aj r rfl<|.cons rfl<|aj r rfl<|.nil<|kN _ _ _ rfl ?_);first|show hR _ _ (H)|show hN _ _<|H
abbrev KM(P:Ym):Frag:=[(135,BI),(134,BH P),(136,BJ),(82,vP),(cStatics,boot_o_2 P)]
def gm(Y:Keeps (ar P) h):(KM P).In h:=by have p:(KM P).In (ar P):=Frag.in_of (as:=[135,134,136,82,cStatics]) rfl ⋯;show p.keeps Y
section
variable(P:Ym)(prog:Wx)(vs:List ZN)
def LQ:peek (KM P) ⟨prog,P⟩ (keeperOf (.ref 135))=Z7 .machine:=⋯
def L1:peek (KM P) ⟨prog,P⟩ (callAny (.ref 135) ⟨vs,[]⟩)=Z7 (.again (.call (.builtin "type.__call__") ⟨.ref 135::vs,[]⟩)):=⋯
def L3:peek (KM P) ⟨prog,P⟩ (Wp "type.__call__" ⟨.ref 135::vs,[]⟩)=Z7 ():=⋯
def L6:peek (KM P) ⟨prog,P⟩ (mroOf (.ref 135))=Z7 [.ref 135,.type "tuple",.type "object"]:=⋯
def AH:peek (KM P) ⟨prog,P⟩ (Bind.madeBy (.ref 135))=Z7 Z4:=⋯
def va:peek (KM P) ⟨prog,P⟩ (X6 (.ref 135) "__init__")=Z7 (Z7 (.builtin "object.__init__")):=⋯
def Mc:peek (KM P) ⟨prog,P⟩ (Bind.madeHere "tuple.__new__" (.ref 135))=Z7 ():=⋯
def pI:peek (KM P) ⟨prog,P⟩ (V6 (.ref 135) (.type "tuple"))=Z7 ZW:=⋯
def LS:peek (KM P) ⟨prog,P⟩ (V6 (.ref 135) (.ref 135))=Z7 ZW:=⋯
def LY:peek (KM P) ⟨prog,P⟩ (V6 (.ref 135) (.type "object"))=Z7 ZW:=⋯
def LU:readsIn (KM P) 135 (.type "type")=ZW:=⋯
def LW:findCls (KM P) (.ref 135) (.type "type") (Z9 "__new__")=Z7 (.get (.builtin "staticmethod.__get__") (.ref 136) .none (.ref 135)):=⋯
def LX:recIn (KM P) 136 "staticmethod"=Z7 [.ref 82]:=⋯
end
def JH(Y:Keeps (ar w.params) s.heap)(h:Q (.ref 82) {s with toks:=s.toks+1}):ZE (model pw w) A (RB (.ref 135) (Z9 "__new__")) Q E s:=cls_bind (K:=KM w.params) (gm Y) (LU _) (LW _) (Xs<|sm_get (s:={s with toks:=s.toks+1}) (gm Y) (LX _)<|handed_on rfl h)
abbrev kX(A:YM)(a:List ZN):YM:=A.under<|.builtin "type.__call__" ⟨.ref 135::a,[]⟩
def Hb(Y:Keeps (ar w.params) s.heap)(h:ZE (model pw w) (kX A [k,l,m]) (call (.ref 82) [.ref 135,k,l,m]) (λv d=>(∃x o,v=.ref x/\d.heap.get? x=Z7 o/\o.cls=.ref 135)/\Keeps (ar w.params) d.heap/\Q v d) E {s with toks:=s.toks+1}):ZE (model pw w) A (call (.ref 135) [k,l,m]) Q E s:=by
 ext w A k l m Q E s;have e:=gm Y;show Xs<|VF ?_;show Yr (Y1 e<|L1 _ _ _) ⟨rfl,?_⟩;show Tb (T6 _ dk) entry_typeCall<|Yr (Y1 e<|L3 _ _ _) ?_;show Z8<|Yr (Y1 e<|L6 _ _) ?_;show Z8<|Yr (Y1 e<|AH _ _) ?_;show Z8<|JH Y ?_;show Z8<|Zy<|wm h λv d x=>?_;show dt x ?_;clear x;intro i g n;show cR i λx o j p r=>?_;revert i g n j p r;ext v d x o;subst j;have c:=gm g;have f:∀{A:YM}{E:ZN->ZL->Prop}{Q:ZN->ZL->Prop},Q (.ref 135) d->ZE (model pw w) A (Uc<|.ref x) Q E d:=λq=>by show Z8<|SK p<|Z5<|r.symm▸q
 show Z8<|Z8<|f<|Yr (Y1 c<|LS _ _) ?_;exists(if_neg<|by decide);show Z8<|Zy<|Z8<|Z8<|f<|Yr (Y1 c<|va _ _) ?_;show Zy<|Z8<|Zd (a:=(Xx "object.__init__",[Zr x])) ⋯ ?_;show Z8<|Xs ?_;show Tb (T6 _ dk) (b:=XF.«object.__init__») (Wr ⋯) ?_;.unfold Wp;have t:Vp "object.__init__"=Z7 .slot:=dk;have u:Pc "object.__init__"=Z7 ("object","__init__"):=dk;dsimp only;exists t,u;show Z8<|Z8<|f<|Yr (Y1 c<|LY _ _) ?_;show Zd (a:=()) ⋯ ?_;show Z8<|f ?_;show Z8<|Yr (Y1 c<|va _ _) ?_;show Z8<|Yr (Y1 c<|AH _ _) ?_;show Zd (a:=RM<|.ret .none) ⋯ ?_;show Z5<|Zd (a:=RM<|.ret<|.ref x) ⋯ n
def Mb(P)(a)(v):peek (KM P) ⟨a,P⟩ (Wp "tuple.__new__" ⟨[.ref 135,v],[]⟩)=Z7 ():=⋯
def LZ(P)(a):peek (KM P) ⟨a,P⟩ (isType (.ref 135))=Z7 ZW:=⋯
def L0(P)(a):peek (KM P) ⟨a,P⟩ (classHasDel 135)=Z7 ZX:=⋯
def adn(Y:Keeps (ar w.params) s.heap)(u:m="list"\/m="tuple")(v:s.heap.get? T=Z7 o)(y:o.cls=.type m)(z:o.data=.seq c n)(t:c.size<=1000)(h:∀r x p,Keeps s.heap r->r.get? x=Z7 p->s.heap.get? x=Z4->p.cls=.ref 135->p.data=.seq c 0->p.slots=#[]->Q (.ref x) {s with heap:=r}):ZE (model pw w) A (call (.builtin "tuple.__new__") [.ref 135,.ref T]) Q E s:=by
 ext m o c Q w A T E s n;have g:=gm Y;show Xs<|WC PySem.F.plain_tuple_new PySem.F.entry_tuple_new<|Yr (Y1 g<|Mb _ _ _) ?_;show Z8<|Yr (Y1 g<|LZ _ _) ?_;show Z8<|Yr (Y1 g<|pI _ _) ?_;show Z8<|Yr (Y1 g<|Mc _ _) ?_;show Z8<|Yr (Y1 g<|va _ _) ?_;exists(if_pos<|by rfl);show Z8<|Zd (a:=()) ⋯ ?_;show Z8<|Zd (a:=()) ⋯ ?_;dsimp only;exists(if_neg (by show aW (show(Zr 135==Zb "tuple")=ZX from rfl) ?_;show Y6));show Z8<|wpAny_collect_seq T u v y z (λd l=>?_)<|ZY t (by exists Zx;decide);show Z8<|Z5 ?_;show Z8<|wpAny_alloc' ?_;have i:Keeps s.heap (d.push {cls:=.type "dict",data:=.dict #[]}):=λb o e=>ZT _<|l b o e;generalize d.push {cls:=.type "dict",data:=.dict #[]}=f at i⊢;unfold newObj;dsimp only;have C:c.toList.toArray=c:=by simp
 exists C,(if_neg (by show aW Zx ?_;show(ak 0x613103c3ec84300c0300c22f0) t));show Z8 ?_;show Z8<|wpAny_alloc' ?_;have k:Keeps s.heap (f.push {cls:=.ref 135,dict:=Z7 d.objs.size,data:=.seq c}):=λb o e=>ZT _<|i b o e;have j:(KM w.params).In (f.push {cls:=.ref 135,dict:=Z7 d.objs.size,data:=.seq c}):=gm λb o e=>k b o<|Y b o e;have D:s.heap.get? f.objs.size=Z4:=by cases e:s.heap.get? f.objs.size with|none=>rfl;|some F=>show absurd (Zg<|i _ _ e)<|YH _
 show Z8<|Yr (s:={s with heap:=f.push {cls:=.ref 135,dict:=Z7 d.objs.size,data:=.seq c}}) (Y1 j<|L0 _ _) ?_;exists if_neg Y6;show Z5<|Z5<|h _ _ _ k (Zu _ rfl) D rfl rfl rfl
def L2:findCls [] (.type "tuple") (.type "type") (Z9 "__new__")=Z7 (.val (.builtin "tuple.__new__")):=⋯
def JG(h:Q (.builtin "tuple.__new__",[]) {s with toks:=s.toks+1}):ZE (model pw w) A (RA (.type "tuple") (Z9 "__new__") d) Q E s:=by have X:Frag.In [] s.heap:=λa o e=>nO e;have c:Looks (model pw w) s.heap (Uc<|.type "tuple") (.type "type"):=Ps ⋯;have f:Looks (model pw w) s.heap (opaqueClassAbove<|.type "tuple") Z4:=Ps ⋯;show Z8<|Z8<|c.here<|(looks_findIn X type_tga).here ?_;dsimp only;exists if_pos canon_tga;show Z8<|XT (Q:=λv=>Q (v,[])) (E:=E) ?_ (λb b z=>Z5 z) λb b z=>z;show cls_open X f c type_tga (looks_hook X (r:=Z4)<|by rfl) (by show(?_:subIn [] _ _=_);rfl) L2<|Z5 (by show(?_:ZE _ _ (handedOut _) _ _ _);exists handedOut_of rfl;show Z5 h)
set_option tactic.hygienic true in def xk(H:Ld X (Z9 "tuple") (.type "tuple"))(C:[a,b].any bN=ZX)(I:eval (.Call (.Attribute (.Name (Z9 "tuple") z) (Z9 "__new__") g) [a,b] [] d) X.env=(do let D<-eval (.Name (Z9 "tuple") z) X.env;W1 g.atName;let(f,first)<-holding [D] (RA D (Z9 "__new__") pl);UJ d f first (WR d (Yd [a,b] X.env)) []))(h:bm X A O [a,b] λl c=>∃i j m:Int,l=[.ref 135,.tup [.int i,.int j,.int m]]/\k (gW i j m) c):Ev X A O (.Call (.Attribute (.Name (Z9 "tuple") z) (Z9 "__new__") g) [a,b] [] d) k:=λE s F=>by show Ql (pl:=pl) (H E s z _ F.base<|JG ?_) I;have J:Fr X A O {s with toks:=s.toks+1}:=F.grow<|c7.tok s _;show callWith_builtin1 (wm (h E _ d J) λG r x=>?_) (fU C)<|gr (by rw[YB,YL]at C;show C.2);obtain⟨l,c,o,p,w,i,j,m,e,M⟩:=x;subst e;obtain⟨N,Q⟩:=w.i2;cases N.iR;cases Q.iT with|@mk T G n hd R S=>cases G with|mk vl=>obtain⟨U,V,W⟩:=S.i3;cases U.iI;cases V.iI;cases W.iI;rename_i t u v;show adn o.base (.inr rfl) R rfl rfl (by show(?_:3<=1000);decide) λY x Z kk e1 e2 e3 e4 e5=>?_;have y:=o.keeps (h':=Y) (tk:=r.toks) kk;have nx:x∉aa X c:=o.absent e2;show⟨_,c,y,p.trans<|am.of kk,.ext Nk ⟨x,Z,t,u,v,0,rfl,?_,e3,e4,e5⟩,M⟩;unfold Mine.Internal.cv;exists if_neg nx;show e1
def GD(P):(ar P).get? 82=Z7 vP:=⋯
def GC(P):(ar P).get? 81=Z7 Cp:=⋯
def NP(a:X.A.depth<ZU)(e:k (gW i j m) O):ax X c O (.ref 82) [.ref 135,.int i,.int j,.int m] k:=by
 ext k X c O i j m;show j6 (OL:=[]) (O':=O) (nm:=Z9 "__new__") (name:=Z9 "Match.__new__") (params:=cY oB) (body:=aA oB) (scope:=aw oB) (pm:=_) (ca:=81) (doc:=_) (ns:=[Z9 "_cls",Z9 "a",Z9 "b",Z9 "size"]) a (GD _) rfl (GC _) rfl rfl (λf h=>?_) dk dk dk rfl rfl rfl λY C=>?_;.show AO h λb b b b=>rfl
 .show C.run ⋯ λL g=>?_;have d:=C.ok ⋯;show stM<|xk (Ld.b (C.glob ⋯) ⋯ (λb=>by kernel_rfl) (λb=>by kernel_rfl)) rfl rfl<|.cons rfl<|aj d rfl<|.cons rfl<|be d (n:=5) ?_;show bm.nil<|kN i j m rfl ?_;show e
def Np:(kX A []).depth=A.depth+1:=by have p:(SE "type.__call__" ⟨[.ref 135],[]⟩).weight=1:=⋯;show(?_:A.depth+(SE "type.__call__" ⟨[.ref 135],[]⟩).weight=A.depth+1);show aW p rfl
def Bb(h:A.handled=Z4):(kX A []).handled=Z4:=h
def Nm(b:X.A.depth+1<ZU)(D:k (gW i j m) O):ax X A O (.ref 135) [.int i,.int j,.int m] k:=by intro E s G F R;revert b D F R;injections k X A O i j m E s G;intro b D F R;obtain⟨I,J,M⟩:=R.i3;show Hb F.base ?_;rw[show∀G,kX X.A G=kX X.A []fromλN=>rfl];have g:Fr X A O {s with toks:=s.toks+1}:=F.grow<|c7.tok s _;have h:Fr (X.at (kX X.A [])<|Bb X.hh) A O {s with toks:=s.toks+1}:=g.at;show wm (NP (X:=X.at (kX X.A [])<|Bb X.hh) (k:=λa l=>a=gW i j m/\k a l) (by show(?_:(kX X.A []).depth<_);exists Np;show b) ⟨rfl,D⟩ E _ _ h<|.cons (.ref _)<|.cons I<|.cons J<|.cons M .nil) λv r x=>?_;revert x;injections v r;intro x;obtain⟨a,y,z,f,c,e,H⟩:=x;subst e;have d:=z.pW;show⟨?_,d.base,_,y,d,f,c,H⟩;cases c.iX with|mk V p=>
  obtain⟨Q,o,t,u,w,n,S,C,U,N⟩:=p;unfold Mine.Internal.cv at C;split at C;.cases C
  .show bX Q o S C U
def Nl:xF:=λX H O u a b z d k A f r h E s F=>by
 have C:Ld X (Z9 "Match") (.ref 135):=Ld.g A ⋯ (λI=>by kernel_rfl);show Yu<|C E s z _ F.base ?_;have g:=fU (env:=X.env) r;have t:(WR d<|Yd [a,b] X.env).any (·.1)=ZX:=gr (by rw[YB,YL]at r;show r.2);show callWith_of (P:=λh=>Keeps (ar X.w.params) h) ?_ (λh Y=>ae (.machine) (.inr<|.inl rfl)<|Y1 (gm Y)<|LQ _ _) ?_;.exists g;show(?_:((ZX||(WR d<|Yd [a,b] X.env).any (·.1))||ZX)=ZX);exists t;rfl
 .exists g;show UK ?_;have Q:=h E s d F;rw[g]at Q;show wm Q λD o x=>?_;obtain⟨l,w,c,n,p,i,j,m,e,G⟩:=x;subst e;show⟨c.base,wm (Nm (k:=k) (WB f) G E o D c p) λv y x=>.from n x⟩
abbrev ib(t:Zw)(i:Nat):Ze:={cls:=.type "tuple_iterator",data:=.fields #[.ref t,.int i 0]}
def Bo(b:s.heap.get? d=Z7 (ib t i))(g:s.heap.get? t=Z7 o)(h:o.data=.seq a n)(j:a[i]?=Z7 x)(k:∀e,e.get? d=Z7 (ib t (i+1))->YG d s.heap e->Q (Z7 x) {s with heap:=e}):ZE (model c w) A (Vu (.ref d)) Q E s:=by ext t i o a x d Q c w A E s n;have f:s.TypeIs (.ref d) "tuple_iterator":=ae _ b rfl;show Z8<|V5<|Yp (name:=Z9 "__next__") f Ww<|YC Ww f RL ?_<|Rr _;show(?_:ZE _ _ (field (.ref d) 0>>=_) _ _ s);show Z8<|UG b rfl (x:=.ref t) rfl ?_;exists(if_neg<|show¬((Zr t==X9)=ZW)from Y6);show Z8<|UG b rfl (x:=.int i 0) rfl ?_;show Z8<|W5 g h ?_;simp only[Zm,j];show Z8<|wpAny_setField b rfl (by simp[ib])<|Z5<|ae x rfl<|Z5<|k _ ?_<|YN ..;exists YA _ b rfl;rfl
def Bm(k:A.handled=Z4)(c:s.heap.get? f=Z7 (ib t i))(l:s.heap.get? t=Z7 o)(m:o.data=.seq a n)(p:a[i]?=Z4)(r:∀g,RZ f s.heap g->Q Z4 {s with heap:=g}):ZE (model d w) A (Vu (.ref f)) Q E s:=by ext t i o a f Q d w A E s n;have h:s.TypeIs (.ref f) "tuple_iterator":=ae _ c rfl;show Z8<|V5<|Yp (name:=Z9 "__next__") h Ww<|YC Ww h RL ?_<|Rr _;show(?_:ZE _ _ (field (.ref f) 0>>=_) _ _ s);show Z8<|UG c rfl (x:=.ref t) rfl ?_;exists(if_neg<|show¬((Zr t==X9)=ZW)from Y6);show Z8<|UG c rfl (x:=.int i 0) rfl ?_;show Z8<|W5 l m ?_;simp only[Zm,p];show Z8<|WM<|Z8<|wpAny_setField c rfl (by simp[ib]) ?_;show C1 k λg e u j=>?_;show aq j ?_;clear j;intro v y z;show Z8<|Wq (T:="StopIteration") (b:=ZW) (ae v y z) T0 ?_;show Z5<|r g λb o C D=>u b o<|((YN s.heap f _).2 b C).trans D
def NB{h:Wx}{w:Yg}{A:YM}{E:ZN->ZL->Prop}{j t:Zw}{n:Nat}{o:Ze}{a:Array ZN}(p:t≠j)(C:o.data=.seq a n):∀(c i:Nat)(s:ZL)(Q:List ZN->ZL->Prop),s.heap.get? j=Z7 (ib t i)->s.heap.get? t=Z7 o->i+c<=a.size->(∀r,r.get? j=Z7 (ib t (i+c))->YG j s.heap r->Q ((a.toList.drop i).take c) {s with heap:=r})->ZE (model h w) A (draw (.ref j) c) Q E s:=by intro D;induction D with|zero=>showλi s Q f _ _ u=>Z5 (by simpa using u s.heap f (Heap.SameBut.refl ..));|succ c F=>
  intro i s Q f y k u;have l:i<a.size:=jg k;show Z8<|Bo f y C (x:=a[i]) (by simp[l]) λz d b=>?_;show Z8<|Zy<|F (i+1) _ _ d ((b.2 t p).trans y) (sd k) λm e g=>Z5 ?_;have v:a.toList.drop i=a[i]::a.toList.drop (i+1):=by simp[Yk,l]
  have U:=u m (by exists(show i+(c+1)=i+1+c by show pO);show e) (b.trans g);rwa[v,Rt]at U
def u9(P)(a):peek (KM P) ⟨a,P⟩ (X6 (.ref 135) "__iter__")=Z7 (Z7 (.builtin "tuple.__iter__")):=⋯
def ji(a:s.heap.get? x=Z7 o)(b:o.cls=.ref 135)(q:Q (.ref 135) s):ZE (model pw w) A (Uc (.ref x)) Q E s:=by show Z8<|SK a<|Z5<|b.symm▸q
def NC(Y:Keeps (ar w.params) s.heap)(d:s.heap.get? x=Z7 o)(e:o.cls=.ref 135)(g:Q (.ref s.heap.objs.size) {s with heap:=s.heap.push (ib x 0)}):ZE (model pw w) A (Rf (.ref x)) Q E s:=by
 ext o Q w A x E s;have b:=gm Y;show Z8<|Z8<|ji d e<|Yr (Y1 b<|u9 _ _) ?_;show Z8 ?_;show Zy<|Z8<|XT (Q:=λr c=>r=Z7 (Xx "tuple.__iter__",[Zr x])/\c=s) ?_ ?_ λh h z=>z
 .show Z8<|Z8<|ji d e<|Yr (Y1 b<|u9 _ _) ?_;have f:∀{A:YM}{E:ZN->ZL->Prop},ZE (model pw w) A (do let r<-bindSpecial (Xx "tuple.__iter__") (Zr x);pure (Z7 r)) (λr c=>r=Z7 (Xx "tuple.__iter__",[Zr x])/\c=s) E s:=λ{A E}=>Z8 (Zd (a:=(Xx "tuple.__iter__",[Zr x])) ⋯ (Z5 ⟨rfl,rfl⟩));show Z8<|Xp ?_;split;.show f
  .show RO f
 .rintro r c⟨rfl,rfl⟩;dsimp only;exists(if_neg<|show¬((Xx "tuple.__iter__"==X9)=ZW)from Y6);show Z8<|Xs ?_;show WC dk entry_tuple_iter ?_;have i:Vp "tuple.__iter__"=Z7 .slot:=dk;have j:Pc "tuple.__iter__"=Z7 ("tuple","__iter__"):=dk;dsimp only;exists i,j;show Z8<|Z8<|ji d e<|Yr (Y1 b<|pI _ _) ?_;show Zd (a:=()) ⋯ ?_;show(?_:ZE _ _ (do ret (<-newFields "tuple_iterator" [.ref x,XX 0])) _ _ _);show Z8<|XC<|Z5 ?_;show Z5 ?_;have k:Tz {c with heap:=c.heap.push (ib x 0)} (.ref c.heap.objs.size) "tuple_iterator":=ae _ (Zu _ rfl) rfl;show Z8<|Z8<|Um k<|Zd Ww.lookup ?_;show Z5 g
def NG(z:A.handled=Z4)(Y:Keeps (ar w.params) s.heap)(j:s.heap.get? x=Z7 o)(r:o.cls=.ref 135)(t:o.data=.seq a n)(C:c.length=a.size)(g:c.findIdx? (·.1)=Z4)(h:∀u,RZ s.heap.objs.size s.heap u->ZE (model pw w) A (TD (c.map (·.2)) a.toList) Q E {s with heap:=u}):ZE (model pw w) A (unpack (.ref x) c) Q E s:=by
 ext o w A Q E s x c a n;have k:x≠s.heap.objs.size:=X8<|Zg j;have p:=gm Y;unfold unpack;exists C,g;show Z8<|Zy ?_;show Z8 ?_;show Z8<|Z8<|ji j r<|Yr (Y1 p<|u9 _ _) ?_;show Z5 ?_;simp only[YF,if_false];show Z8<|Zy<|NC Y j r ?_;show Z8<|Zy<|NB k t a.size 0 _ _ (Zu _ rfl) (ZT _ j) (ak 0x3018842f5) λv f d=>?_;have l:Qw a.size (Pq 0 a.toList)=a.toList:=by exists List.drop_zero;show WP (by simp)
 exists l,(if_neg<|by simp);show Z8<|Zy<|Bm z f ((d.2 x k).trans<|ZT _ j) t (by simp) λm i=>?_;simp only[T9,YF,if_false];show Z5<|h m λb o y e=>i b o y<|(d.2 b y).trans<|ZT _ e
def v8(r:aB D h v (gW i j m)):∃x o t u w n,v=.ref x/\x∉D/\h.get? x=Z7 o/\o.cls=.ref 135/\o.data=.seq #[.int i t,.int j u,.int m w] n:=by ext D h v i j m;cases r.iX with|mk f p=>
  obtain⟨x,o,t,u,w,n,b,a,c,d,g⟩:=p;unfold cv at a;split at a;.cases a
  .rename_i e;show⟨x,o,t,u,w,n,b,e,a,c,d⟩
def Tg.Nj{y:Vk}{A}(a:f.length=3)(h:km X g O f [.int i,.int j,.int m] k):Tg X g O (.Tuple f A y) (gW i j m) k:=by intro E s v F r;revert a h F r;injections X g O f i j m k y A E s v;intro a h F r;obtain⟨x,o,t,u,w,n,l,C,I,J,hd⟩:=v8 r;exists l;have D:∀p,aD (aa X O) p [.int i t,.int j u,.int m w] [.int i,.int j,.int m]:=λp=>.cons (.int _ _)<|.cons (.int _ _)<|.cons (.int _ _) .nil;show dt (h E s _ F<|D _) λM N Q=>?_;rw[PyProof.Rows.assign_Tuple];show Z8<|YO<|NG X.hh F.base I J hd (by exists M,a;rfl) N λp C=>?_;have G:=u7 C;have R:=F.keeps (tk:=s.toks) G;show wm (h E _ _ R<|D _).2.2 (λQ H z=>by show bV z ?_;clear z;intro b d c e;show bl b d ((am.of G).trans c) e)
def tK{d:Loc}{b f}(g:Ok X b f){r}(s:iM b x=ZW)(t:iM b y=ZW)(u:iM b z=ZW)(h:k ((z,.int m)::(y,.int j)::(x,.int i)::d)):Tg X d O (.Tuple [.Name x n,.Name y o,.Name z p] r e) (gW i j m) k:=by show Tg.down<|.Nj rfl ?_;show((lH.cons s<|.cons t<|.cons u .nil).ok (O:=O) g (l:=[.int i,.int j,.int m]) (k:=λc=>∃a,Sub a c/\k a) rfl<|ae _ (Sub.binds (xs:=[x,y,z]) (l:=[.int i,.int j,.int m])<|Sub.refl _) h).1
def xg{name:ZD}(r:Pw "list" name w)(C:Uc (.builtin w)=pure (.type "method_descriptor"))(i:VN o name X.env (eval o X.env)=eval o X.env)(j:(d.endLine==p.line)=ZW)(h:Ev X y O o λa c=>(∃l,LV c a l)/\ax X y c (.builtin w) [a] k):Ev X y O (.Call (.Attribute o name d) [] [] p) k:=λE s F=>by show Call_method0 i j<|wm (h _ s F) λG t x=>?_;obtain⟨a,c,f,m,g,⟨l,D⟩,u⟩:=x;obtain⟨H,I,n,z,J⟩:=f.rd g D;show lY ("list") w Tf r C (ae _ z rfl) (λb e=>by cases e;show ae _ z rfl) ?_;show callWith_method0 (env:=X.env)<|wm (u _ t _ f<|.cons g .nil) λv A x=>.from m x
def aD.takes{D:List Zw}{h:Xq}{b:AV}:∀{a:List ZN}{l:List AV},aD D h a (l++[b])->aD D h (a.take l.length) l
 |_,[],_=>.nil|_,_::l,.cons r c=>.cons r (aD.takes c)
def ax.pop(g:(r,az.list (l++[b]))∈O)(A:l.length<100000)(h:k b (aK O r (.list l))):ax X z O (.builtin "list.pop") [.ref r] k:=by ext O r l b k X z;show(λE s c F R=>by
 replace R:=R.i1;obtain⟨C⟩:=R;cases C.iR;show gN (F.cO g) λc n j m=>?_;have d:c.size=l.length+1:=by exists m.size,ZV;rfl
 have f:∃y,c[c.size-1]?=Z7 y/\aB (aa X O) s.heap y b:=by show aq (m.get (i:=l.length) (a:=b)<|by simp) λy p t=>?_;show ae y (by exists d;simpa using p) t
 show aq f ?_;clear f;intro y p t;show UU Sh (ae _ j rfl) PySem.F.entry_list_pop (PySem.F.args_list_pop_1 _) (P2 r c n y p (by exists d,Zx;show(ak 0x190c2d01408f0e0300c0300c22f889e10) A)) ?_;have u:YG r s.heap (s.heap.update r<|XS λv=>v.eraseIdxIfInBounds<|c.size-1):=YN ..;have D:=YA (XS λv=>v.eraseIdxIfInBounds<|c.size-1) j (by rfl);have w:aD (aa X O) s.heap (c.eraseIdxIfInBounds<|c.size-1).toList l:=by
  have e:(c.eraseIdxIfInBounds<|c.size-1).toList=c.toList.take l.length:=by
   have G:c.toList.length=l.length+1:=by exists YX;show d
   unfold Array.eraseIdxIfInBounds;rw[dif_pos (Nat.sub_lt (by rw[d];show Us _) Qj),Array.toList_eraseIdx,d,Wk];rw[List.eraseIdx_eq_take_drop_succ,We<|<-(af 0xd444f1071113c410) G,ZH]
  exists e;show m.takes
 show⟨j,b,_,F.update (tk:=s.toks) (ao:=.list l) g u D<|b7 _ _ rfl w,F.er g λb o x e=>(u.2 b x).trans e,t.move<|F.er g λb o x e=>(u.2 b x).trans e,h⟩)
def Io:UI table "tuple.__lt__"=Z7 XF.«tuple.__lt__»:=Wr ⋯
def L4(P)(a):peek (KM P) ⟨a,P⟩ (X6 (.ref 135) "__lt__")=Z7 (Z7 (.builtin "tuple.__lt__")):=⋯
abbrev mv(i j m:Int)(t u v:O6):Array ZN:=#[.int i t,.int j u,.int m v]
def NF(Y:Keeps (ar w.params) s.heap)(R:s.heap.get? x=Z7 r)(F:r.data=.seq (mv i j m t u v) n)(M:s.heap.get? y=Z7 g)(G:g.cls=.ref 135)(H:g.data=.seq (mv d e f k l o) D)(h:Q (.done (.ret (.bool (if i=d then(if j=e then decide (m<f)else decide (j<e))else decide (i<d))))) s):ZE (model pw w) A (XF.«tuple.__lt__» ⟨[.ref x,.ref y],[]⟩) Q E s:=by
 revert w A E s x y r g i j m d e f t u v k l o n D Q;injections r g Q w A x y E s i j m;ext t u v n d e f k l o D;have I:=gm Y;have c:∀{a b:Int}{p q:O6}{A:YM}{Q:ZN->ZL->Prop},Q (.bool<|decide<|a<b) s->ZE (model pw w) A (richCompare .Lt (.int a p)<|.int b q) Q E s:=λh=>Rv (a:=_) (b:=_) h;show(?_:ZE (model pw w) A (do
 let(a,[b])<-PySem.slotArgs "__lt__" 1 ⟨[.ref x,.ref y],[]⟩|unsupported "internal:tuple.compare"
 if !(<-PK b (.type "tuple"))then return<-ret .notImplemented
 let N<-Wo a;let O<-Wo b;for(x,y)in N.toList.zip O.toList do if !(<-eqBool x y)then match O1 with|.Eq=>return<-ret (.bool ZX);|.NotEq=>return<-ret (.bool ZW);|_=>rule "tuple.compare.by-the-first-pair-that-differs";return<-ret (<-richCompare O1 x y)
 ret (Ry O1 N.size O.size)) Q E s);show Z8<|Zd (a:=(Zr x,[Zr y])) ⋯ ?_;dsimp only;show Z8<|Z8<|ji M G<|Yr (Y1 I<|pI _ _) ?_;exists(if_neg<|by decide);show Z8<|Z8<|W5 R F<|Z5 ?_;show Z8<|Z8<|W5 M H<|Z5 ?_;exists(show(mv i j m t u v).toList.zip (mv d e f k l o).toList=[(Ta i t,Ta d k),(Ta j u,Ta e l),(Ta m v,Ta f o)]from rfl);show Z8 ?_;rw[VE];show Z8 ?_;show Z8<|S9 ?_;by_cases z:i=d
 .rw[if_pos z]at h;exists(if_neg<|by simp[z]);show Z5 ?_;dsimp only;rw[VE];show Z8<|Z8<|S9 ?_;by_cases C:j=e
  .rw[if_pos C]at h;exists(if_neg<|by simp[C]);show Z5 ?_;dsimp only;rw[VE];show Z8<|Z8<|S9 ?_;by_cases J:m=f;.exists(if_neg<|by simp[J]);show Z5 ?_;dsimp only;exists PI;show Z5 ?_;dsimp only;show Zd (a:=RM<|.ret<|.bool ZX) ⋯ ?_;rw[show decide (m<f)=ZX from decide_eq_false ((dK 0x744e0bbdc1382e0) J)]at h;show h
   .exists(if_pos<|by simp[J]);dsimp only;show Z8<|WM<|Z8<|c<|Z8<|Z5<|Z5<|Z5<|Z5 h
  .rw[if_neg C]at h;exists(if_pos<|by simp[C]);dsimp only;show Z8<|WM<|Z8<|c<|Z8<|Z5<|Z5<|Z5<|Z5 h
 .rw[if_neg z]at h;exists(if_pos<|by simp[z]);dsimp only;show Z8<|WM<|Z8<|c<|Z8<|Z5<|Z5<|Z5<|Z5 h
def NE{t u v p f C:O6}{n D:Nat}(M:A.units<Xo)(Y:Keeps (ar w.params) s.heap)(F:s.heap.get? x=Z7 b)(g:b.cls=.ref 135)(G:b.data=.seq (mv i j m t u v) n)(N:s.heap.get? y=Z7 c)(H:c.cls=.ref 135)(I:c.data=.seq (mv d e l p f C) D)(h:Q (if i=d then(if j=e then decide (m<l)else decide (j<e))else decide (i<d)) s):ZE (model pw w) A (keyLt' S8 (.ref x) (.ref y)) Q E s:=by
 revert w A E s x y b c i j m d e l t u v p f C n D Q;injections b c Q w A x y E s i j m;ext d e l t u v p f C n D;have k:=gm Y;rw[keyLt'_oneType,oneLt'_eq];exists if_pos rfl;show Z8<|wpAny_cRoomFor M ?_;show Z8 ?_;unfold callSpecialIfBound?;show Zy<|Z8<|XT (Q:=λr o=>r=Z7 (Xx "tuple.__lt__",[Zr x])/\o=s) ?_ ?_ λf f z=>z
 .unfold bindSpecialIfBound? specialOf;show Z8<|Z8<|ji F g<|Yr (Y1 k<|L4 _ _) ?_;dsimp only;have J:∀{A:YM}{E:ZN->ZL->Prop},ZE (model pw w) A (do let r<-bindSpecial (Xx "tuple.__lt__") (Zr x);pure (Z7 r)) (λr o=>r=Z7 (Xx "tuple.__lt__",[Zr x])/\o=s) E s:=λ{A E}=>Z8 (Zd (a:=(Xx "tuple.__lt__",[Zr x])) ⋯ (Z5 ⟨rfl,rfl⟩));show Z8<|Xp ?_;split;.show J
  .show RO J
 .rintro r o⟨rfl,rfl⟩;dsimp only;show Z8<|Xs ?_;show WC dk Io ?_;unfold Wp;have O:Vp "tuple.__lt__"=Z7 .slot:=dk;have R:Pc "tuple.__lt__"=Z7 ("tuple","__lt__"):=dk;dsimp only;exists O,R;dsimp only;unfold PK;show Z8<|Z8<|ji F g<|Yr (Y1 k<|pI _ _) ?_;show Zd (a:=()) ⋯ ?_;show NF Y F G N H I ?_;show Z5<|Ve h
class inductive eu(lt:Nat->Nat->Bool)(n:Nat){α:Type}:KasT α->α->Prop|ret(a):eu lt n (.ret a) a|ask{i j k a}:i<n->j<n->eu lt n (k (lt i j)) a->eu lt n (.ask i j k) a
def eu.bind{t:KasT d}{a:d}{f:d->KasT e}{b:e}(h:eu c n t a)(q:eu c n (f a) b):eu c n (t.bind f) b:=by induction h with|ret a=>show q;|ask g i _ j=>show .ask g i<|j q
structure Pm(n:Nat)(p:Array Nat):Prop where
 size:p.size=n
 perm:p.toList.Perm (YY n)
def Pm.lt{n:Nat}{p:Array Nat}(h:Pm n p){i:Nat}(a:i<n):p.getD i 0<n:=by
 have t:p.getD i 0=p[i]'(by exists h.size;show a):=by simp[TZ,h.size,a]
 exists t;show XR.mp<|h.perm.mem_iff.mp<|by simp
def Pm.ne(h:Pm n p)(a:i<n)(b:j<n)(c:i≠j):p.getD i 0≠p.getD j 0:=λe=>by
 have g:p.toList.Nodup:=h.perm.nodup_iff.mpr List.nodup_range;have k:p.getD i 0=p[i]'(by exists h.size;show a):=by simp[TZ,h.size,a]
 have l:p.getD j 0=p[j]'(by exists h.size;show b):=by simp[TZ,h.size,b]
 rw[k,l]at e;have f:=WF.mp g;show ZI (Xj i j) (λd=>?_) λd=>?_;.show f i j (by exists YX,h.size;show a) (by exists YX,h.size;show b) d (by simpa using e)
 .show f j i (by exists YX,h.size;show b) (by exists YX,h.size;show a) ((af 0x3da08b020e4410) c d) (by simpa using e.symm)
abbrev bR(a:Nat->Int)(p:Array Nat)(i:Nat):Int:=a<|p.getD i 0
abbrev Up(a:Nat->Int)(p:Array Nat)(m:Nat):Prop:=∀i j,i<j->j<m->bR a p i<bR a p j
abbrev Dn(a:Nat->Int)(p:Array Nat)(m:Nat):Prop:=∀i j,i<j->j<m->bR a p j<bR a p i
abbrev ka(a:Nat->Int)(n:Nat):Prop:=∀i j,i<n->j<n->a i=a j->i=j
abbrev ei(a:Nat->Int)(i j:Nat):Bool:=decide<|a i<a j
def Up.grow(h:Up a p m)(d:0<m)(q:bR a p (m-1)<bR a p m):Up a p (m+1):=λi j b c=>by
 rcases Xu (Ss.mp c)with c|rfl;.show h i j b c
 .rcases Xu (RK b)with e|rfl;.show VW (h i (j-1) e<|nG d) q
  .show q
def Dn.grow(h:Dn a p m)(d:0<m)(q:bR a p m<bR a p (m-1)):Dn a p (m+1):=λi j b c=>by
 rcases Xu (Ss.mp c)with c|rfl;.show h i j b c
 .rcases Xu (RK b)with e|rfl;.show VW q<|h i (j-1) e<|nG d
  .show q
def xX{n:Nat}{p:Array Nat}{a:Nat->Int}(P:Pm n p)(J:ka a n):∀(f c:Nat),1<=c->c+f<=n->Up a p c->∃m,eu (ei a) n (kas_asc p f c) m/\c<=m/\m<=c+f/\Up a p m/\(m<c+f->bR a p m<bR a p (m-1)):=by intro k;induction k with|zero=>showλc _ _ h=>uX c (.ret _) (ZR _) (ZR _) h λq=>absurd q<|YH _;|succ f l=>
  intro c g b h;by_cases q:a (p.getD c 0)<a (p.getD (c-1) 0);.show uX c (.ask (P.lt<|jg b) (P.lt<|jN b) ?_) (ZR _) (af 0xc4622784423) h λv=>q;exists(show ei a (p.getD c 0) (p.getD (c-1) 0)=ZW from decide_eq_true q),if_pos rfl;show .ret _
  .have d:a (p.getD c 0)≠a (p.getD (c-1) 0):=λe=>P.ne (i:=c) (j:=c-1) (jg b) (jN b) ((ak 0x60227fb5213c210) g)<|J _ _ (P.lt<|jg b) (P.lt<|jN b) e;show q8 (l (c+1) nH (sd b)<|h.grow ((ak 0xc044fc842f0) g) (by unfold bR;show(dK 0x1ee05c277ba1709dc1382e0) q d)) λm o r s t u=>?_;show uX m (.ask (P.lt<|jg b) (P.lt<|jN b) ?_) (nE r) ((ai 0xc447113c41c462278c410) s) t λz=>u<|(ai 0xcc62278c41cc47113c410) z;exists(show ei a (p.getD c 0) (p.getD (c-1) 0)=ZX from decide_eq_false q),if_neg Y6;show o
def HP{n:Nat}{p:Array Nat}{a:Nat->Int}(P:Pm n p)(J:ka a n):∀(f c:Nat),1<=c->c+f<=n->Dn a p c->∃m,eu (ei a) n (kas_desc f p c 0) (p,m,0)/\c<=m/\m<=c+f/\Dn a p m:=by intro k;induction k with|zero=>showλc _ _ h=>db c (.ret _) (ZR _) (ZR _) h;|succ f l=>
  intro c g b h;by_cases q:a (p.getD c 0)<a (p.getD (c-1) 0);.show dI (l (c+1) nH (sd b)<|h.grow ((ak 0xc044fc842f0) g) q) λm o r s t=>?_;show db m (.ask (P.lt<|jg b) (P.lt<|jN b) ?_) (nE r) ((ai 0xc447113c41c462278c410) s) t;exists(show ei a (p.getD c 0) (p.getD (c-1) 0)=ZW from decide_eq_true q),if_pos rfl,if_neg<|YH 0;show o
  .have d:a (p.getD c 0)≠a (p.getD (c-1) 0):=λe=>P.ne (i:=c) (j:=c-1) (jg b) (jN b) ((ak 0x60227fb5213c210) g)<|J _ _ (P.lt<|jg b) (P.lt<|jN b) e;show db c (.ask (P.lt<|jg b) (P.lt<|jN b) ?_) (ZR _) (af 0xc4622784423) h;exists(show ei a (p.getD c 0) (p.getD (c-1) 0)=ZX from decide_eq_false q),if_neg Y6;show .ask (P.lt<|jN b) (P.lt<|jg b) ?_;exists(show ei a (p.getD (c-1) 0) (p.getD c 0)=ZW from decide_eq_true<|(dK 0x1ee05c277ba1709dc1382e0) q d),if_pos rfl;show .ret _
def rA{p q:Array Nat}(h:p[i]?=q[j]?):p.getD i 0=q.getD j 0:=by exists Ul,Ul;show aW h rfl
def Pm.of(P:Pm n p){q:Array Nat}(h:q.Perm p):Pm n q:=⟨h.size_eq.trans P.size,(Array.perm_iff_toList_perm.mp h).trans P.perm⟩
def abN(P:Pm n p)(d:m<=n)(h:Dn a p m):Up a (Pb p 0 m) m:=λi j b c=>by
 have e:∀t,t<m->bR a (Pb p 0 m) t=bR a p (m-1-t):=λt f=>by unfold bR;congr 1;show rA ?_;have u:=getElem?_mirror_all (xs:=p) (i:=0) (j:=m) (by exists P.size;show d) t;unfold Pb;rw[u,if_pos ⟨ZZ _,f⟩,W8]
 exists e i<|(ai 0x19187221e4411) b c,e j c;show h _ _ ((ai 0x6422c8c3990a4278e41909e34) b c)<|(ai 0x6443c8a41909e28) c
def Da(P:Pm n p)(i j):Pm n (Pb p i j):=P.of<|mirror_perm _ _ _ _
def acY(P:Pm n p)(J:ka a n)(e:1<=m)(c:m<=n)(h:Dn a p m):∃b d,eu (ei a) n (kas_tail3 m n p) (b,d)/\Pm n d/\1<=b/\b<=n/\Up a d b:=by show q8 (xX (Da P 0 m) J (n-m) m e ((af 0x3020e051904410) c)<|abN P c h) λb f g i j k=>?_;show lX b _ (f.bind<|.ret _) (Da P 0 m) ((af 0x60427e022c044f1) e g) ((ai 0x181871190461160621) c i) j
def HD(P:Pm n p)(J:ka a n)(c:2<=n):∃m e,eu (ei a) n (kas_count n p) (m,e)/\Pm n e/\1<=m/\m<=n/\Up a e m:=by
 ext n p a;show q8 (xX P J (n-1) 1 (ZR _) ((ak 0x1808df80c6427844f0) c) λi j b f=><-Ar.bA 0x24 0xc8c3913c7c2384e [_,0,_,0] [0,_,0,_] ⋯ b f) λm g h l k o=>?_;by_cases q:m=n;.show lX m p (g.bind (by exists(if_pos<|by simpa using q);show .ret _)) P h ((af 0x3420e0410) q) k
 .by_cases d:m>1;·show lX m p (g.bind ?_) P h ((af 0xc086fc46427884f0e0411) c l) k;exists(if_neg<|by simpa using q),if_pos d;show .ask (P.lt<|(ak 0xc046fc842f0) c) (P.lt<|(af 0x623213c2278b2213f21909e21) l d) ?_;exists(show ei a (p.getD 0 0) (p.getD (m-1) 0)=ZW from decide_eq_true<|k 0 (m-1) ((ak 0x64227e6427842f0) d)<|(ak 0x32113f21909e10) d),if_pos rfl;show .ret _
  .have r:m=1:=(ak 0x18089fec844fd09e10) h d;subst r;have s:Dn a p 2:=λi j b f=>by have:i=0:=(af 0x6441c8de2d05e19) b f;have:j=1:=(af 0x6422c8de1d09e12) b f;subst i;subst j;show o<|(ak 0x3011bf31909e113c4f0) c
   show dI (HP P J (n-(1+1)) (1+1) (<-Ar.bA 0x1 0xc444f13c4f [] [] ⋯) (<-(ak 0x60237e0319444f13c3113c4f0) c) s) λt u v w x=>?_;obtain⟨y,e,z,k2,A,C,D⟩:=acY P J (m:=t) ((ak 0x603113c4fc044f0) v) ((af 0x3021bf119444f13c5113c4f0e0411) c w) x;show lX y e (g.bind ?_) k2 A C D;exists(if_neg<|by simpa using q),if_neg d;show u.bind ?_;exists if_neg<|YH 0;show z
def abf{n:Nat}{p:Array Nat}{d:Nat->Int}(P:Pm n p)(J:ka d n){k:Nat}(m:k<n)(h:Up d p k):∀(f l r:Nat),r-l<=f->l<=r->r<=k->(∀i,i<l->bR d p i<bR d p k)->(∀i,r<=i->i<k->bR d p k<bR d p i)->∃t,eu (ei d) n (kas_place p k f l r) t/\t<=k/\(∀i,i<t->bR d p i<bR d p k)/\(∀i,t<=i->i<k->bR d p k<bR d p i):=by revert P J m h;injections n p d k;intro P J m h;intro D;induction D with|zero=>showλl r v w g a b=>db l (.ret _) ((ai 0x18187021e0411) w g) a λi o s=>b i ((ai 0xc05f2187021e0411) v o) s;|succ f C=>
  intro l r v w g a b;unfold kas_place;by_cases q:l≥r;.exists if_pos q;show db l (.ret _) ((ai 0x18187021e0411) w g) a λi o s=>b i (<-(ai 0x18187021e0411) q o) s
  .exists if_neg q;by_cases c:d (p.getD k 0)<d (p.getD ((l+r)/2) 0)
   .show aq (C l ((l+r)/2) (<-(aV 0xc444f24865d44a388a611bf0490c2001045f) v<|Yt (l+r) 2) (<-(ay 0x1ec089a890511cc237e46f1e0224) q (Yt (l+r) 2)<|Uf (l+r) (by decide:2>0)) (<-(aV 0xc147ec087a88c5124c237e0a1b) g q<|Yt (l+r) 2) a (λi o s=>by
     show ZI (Xu o) (λz=>?_) λz=>?_;.show VW c<|h _ _ z s
     .exists ZJ z;show c)) λt x y=>?_;show ae t (.ask (P.lt m) (P.lt<|<-sw m g q<|Yt (l+r) 2) ?_) y;exists(show ei d (p.getD k 0) (p.getD ((l+r)/2) 0)=ZW from decide_eq_true c),if_pos rfl;show x
   .have A:d (p.getD k 0)≠d (p.getD ((l+r)/2) 0):=λe=>P.ne (i:=k) (j:=(l+r)/2) m (<-sw m g q<|Yt (l+r) 2) (<-(aV 0x18097d81975128e249886ff6841b) g q<|Yt (l+r) 2)<|J _ _ (P.lt m) (P.lt<|<-sw m g q<|Yt (l+r) 2) e;have u:bR d p ((l+r)/2)<bR d p k:=by unfold bR;show(dK 0x1ee05c277ba1709dc1382e0) c A
    show aq (C ((l+r)/2+1) r (<-(aV 0x31113c9228f51196229846fc8de2c125113c23b) v (Yt (l+r) 2)<|Uf (l+r) (by decide:2>0)) (<-(ay 0xf6044d448288e611bf04889e16) q<|Yt (l+r) 2) g (λi o=>by
     show ZI (Xu<|QV o) (λz=>?_) λz=>?_;.show VW (h _ _ z<|<-(aV 0xc147ec087a88c5124c237e4a1b) g q<|Yt (l+r) 2) u
     .exists z;show u) b) λt x y=>?_;show ae t (.ask (P.lt m) (P.lt<|<-sw m g q<|Yt (l+r) 2) ?_) y;exists(show ei d (p.getD k 0) (p.getD ((l+r)/2) 0)=ZX from decide_eq_false c),if_neg Y6;show x
def G5(P:Pm n p)(s:k<n)(r:t<=k)(h:Up c p k)(a:∀i,i<t->bR c p i<bR c p k)(b:∀i,t<=i->i<k->bR c p k<bR c p i):Up c (bubble p k (k-t)) (k+1):=by revert P s r h a b;injections n p k t c;intro P s r h a b;show(λi j d m=>by
 have e:∀x,bR c (bubble p k<|k-t) x=if x=t then bR c p k else if t<x/\x<=k then bR c p (x-1)else bR c p x:=λx=>by
  have y:=getElem?_bubble (xs:=p) (src:=k) (by exists P.size;show s) (k-t) (SP _ _) x;rw[show k-(k-t)=t by show(af 0x30116852908212) r]at y;split;.rename_i q;rw[if_pos q]at y;show congrArg c<|rA y
  .rename_i q;rw[if_neg q]at y;split;.rename_i u;rw[if_pos u]at y;show congrArg c<|rA y
   .rename_i u;rw[if_neg u]at y;show congrArg c<|rA y
 exists e i,e j;by_cases o:i=t;.exists if_pos o,if_neg ((ai 0x3211e843f68411) d o:¬j=t),if_pos ⟨(ai 0x1910f411e4411) d o,(af 0x19889e20e0410) m⟩;show b _ ((ai 0xc887a08f1213c414) d o)<|(ai 0x6423cc44f10722909e16) d m
 .exists if_neg o;by_cases f:t<i/\i<=k;.exists if_pos f,if_neg ((ay 0x3211ff041e462f68411) d f:¬j=t),if_pos ⟨(ay 0x1910ff820f230e4411) d f,(af 0x19889e20e0410) m⟩;show h _ _ ((ay 0xc849fc0c9920b3213c3213c8000045f) d f)<|(ai 0x6423cc44f10722909e16) d m
  .exists if_neg f;by_cases g:j=t;.exists if_pos g;show a _<|(ai 0x19187421e4411) d g
   .exists if_neg g;by_cases l:t<j/\j<=k;.exists if_pos l;show h _ _ ((ay 0xc907ed047efe043c8c3fc08992073213c837) d o f l)<|(ai 0x6423cc44f10722909e16) d m
    .exists if_neg l;show h _ _ ((af 0x3220e4410) d)<|(ai 0xc0c39889e317b4117bf818b220e4621) r m g l)
def GO{n:Nat}{a:Nat->Int}(J:ka a n):∀(f:Nat)(p:Array Nat)(k:Nat),Pm n p->k+f=n->1<=k->Up a p k->∃b,eu (ei a) n (kas_bin f p k) b/\Pm n b/\Up a b n:=by intro e;induction e with|zero=>showλp k P c _ h=>bl p (.ret _) P (by exists ZJ c;show h);|succ f g=>intro p k P c d h;show dI (abf P J (k:=k) ((ai 0x6871889e20e4612) c) h k 0 k (ZR _) (ZZ _) (ZR _) (λi j=>absurd j<|XN _) λi d l=><-Ar.bA 0x2 0x6081c849c1b84e [_,0,0,_] [0,_,_,0] ⋯ d l) λt m o r s=>?_;show bV (g (bubble p k<|k-t) (k+1) (P.of<|bubble_perm _ _ _) ((ai 0xd0e3113c41d0e22889e10) c) nH<|G5 P ((ai 0x6871889e20e4612) c) o h r s) λb u v w=>?_;show bl b (m.bind u) v w
def acw(J:ka a n)(e:2<=n):∃p,eu (ei a) n (kas_sort n) p/\Pm n p/\Up a p n:=by
 ext a n;have f:Pm n (YY n).toArray:=⟨by simp,by simp⟩;obtain⟨m,p,c,d,g,h,b⟩:=HD f J e;by_cases q:m<n;.show bV (GO J (n-max m 1) p (max m 1) d ((af 0xc845a0c65513c41a89e22) q) (ak 0x62a27844f0) (by exists Sv g;show b)) λi j k l=>?_;show bl i (c.bind ?_) k l;exists if_pos q;show j
 .show bl p (c.bind ?_) d ?_;.exists if_neg q;show .ret _
  .rw[show m=n by show(af 0x3020fb220e8410) h q]at b;show b
def eu.wp{t:KasT c}{a:c}{Q:c->ZL->Prop}(h:eu d n t a)(e:∀i j(C:Bool->ZL->Prop),i<n->j<n->C (d i j) s->b i j C s)(q:Q a s):t.kasWp b Q s:=by induction h with|ret a=>show q;|ask f g _ k=>show e _ _ _ f g<|k q
structure lG(h:Xq)(v:ZN)(b:Int×Int×Int):Prop where ex:∃x o t u w n,v=.ref x/\h.get? x=some o/\o.cls=.ref 135/\o.data=.seq (mv b.1 b.2.1 b.2.2 t u w) n
def lG.but(x:lG h v b)(f:h.get? r=Z7 o)(g:o.cls=.type "list")(k:∀a o,a≠r->h.get? a=Z7 o->e.get? a=Z7 o):lG e v b:=by ext h v b r o e;obtain⟨x,i,t,u,w,n,rfl,c,d,j⟩:=x;show⟨x,i,t,u,w,n,rfl,k _ _ ?_ c,d,j⟩;rintro rfl;replace c:=f▸c;cases c;replace d:=g▸d;cases d
def FQ{d:List (Int×Int×Int)}(D:A.units<Xo)(Y:Keeps (ar w.params) s.heap)(o:f.length=d.length)(p:∀(i:Nat)(v:ZN)(b:Int×Int×Int),f[i]?=Z7 v->d[i]?=Z7 b->lG s.heap v b)(E:(d.map (·.1)).Nodup)(l:i<f.length)(r:j<f.length)(h:C (ei (λi=>(d.getD i (0,0,0)).1) i j) s):kas_ask pw w A S8 f i j C s:=by
 revert D Y o p E l r h;injections f i j C w A s d;intro D Y o p E l r h;unfold kas_ask;have G:∀{i:Nat},i<f.length->∃v b,f[i]?=Z7 v/\d[i]?=Z7 b/\f.getD i X9=v/\d.getD i (0,0,0)=b:=λ{i}l=>by have a:i<d.length:=l8 o l;show kM (f[i]) (d[i]) (Z2 l) (Z2 a) ?_ ?_<;>simp[l,a]
 show pd (G l) λv b I m J M=>?_;ext v b;show pd (G r) λN z O g Q R=>?_;ext N z;obtain⟨x,ox,t,u,w',n,rfl,S,U,V⟩:=p _ _ _ I m;obtain⟨y,oy,t',u',W,n',rfl,X,k2,Z⟩:=p _ _ _ O g;exists J,Q;replace h:C (decide<|b.1<z.1) s:=by
  have e:ei (λi=>(d.getD i (0,0,0)).1) i j=decide (b.1<z.1):=by show(?_:decide ((d.getD i (0,0,0)).1<(d.getD j (0,0,0)).1)=_);simp only[M,R]
  exists ZJ e;show h
 show NE D Y S U V X k2 Z ?_;by_cases c:b.1=z.1
 ·have a:i<d.length:=l8 o l;have k:j<d.length:=l8 o r;have F:i=j:=by
   have H:=WF.mp E;show ZI (U8 i j) (λq=>?_) λz'=>ZI z' (λq=>?_) λq=>?_;.show absurd ?_<|H i j (by simpa using a) (by simpa using k) q;replace m:=(Z2 a)▸m;replace g:=(Z2 k)▸g;cases m;cases g;simpa using c
   .show q
   .show absurd ?_<|H j i (by simpa using k) (by simpa using a) q;replace m:=(Z2 a)▸m;replace g:=(Z2 k)▸g;cases m;cases g;simpa using c.symm
  subst F;replace g:=m▸g;cases g;exists if_pos rfl,if_pos rfl;simpa using h
 .exists if_neg c;show h
def acn:∀{a:List ZN},a.length<2->(Xf (YY a.length)).toList.map (λi=>a.getD i X9)=a
 |[],_=>rfl|[_],_=>rfl|_::_::l,h=>absurd h (Ud.mpr (Su 2 l.length))
def aco{a:List ZN}(h:a.length<2):(a.toArray.zip a.toArray).map (·.2)=a.toArray:=by apply S7.mp;simp only[Qs,Array.toList_zip];cases a with|nil=>rfl;|cons v a=>cases a with|nil=>rfl;|cons w a=>show absurd h<|Ud.mpr<|Su 2 _
def acv{a:List ZN}{ks:List (Int×Int×Int)}(hu:A.units<Xo)(Y:Keeps (ar w.params) s.heap)(K8:(ar w.params).get? r=Z4)(X:s.heap.get? r=Z7 (Q9 "list" a.toArray n))(l:a.length<64)(Z:a.length=ks.length)(hv:∀(i:Nat)(v:ZN)(b:Int×Int×Int),a[i]?=Z7 v->ks[i]?=Z7 b->lG s.heap v b)(nd:(ks.map (·.1)).Nodup)(h:∀(p:Array Nat)h' c tk,p.toList.Perm (YY a.length)->(∀i j,i<j->j<a.length->(ks.getD (p.getD i 0) (0,0,0)).1<(ks.getD (p.getD j 0) (0,0,0)).1)->(∀b o,b≠r->s.heap.get? b=Z7 o->h'.get? b=Z7 o)->h'.get? r=Z7 (Q9 "list" (Xf (p.toList.map λi=>a.getD i X9)) c)->Q (.done (.ret .none)) {s with heap:=h',toks:=tk}):ZE (model pw w) A (XF.«list.sort» ⟨[.ref r],[]⟩) Q E s:=by
 ext r n Q w A E s a ks;have s1:=YN s.heap r<|XS λm=>(#[]:Array ZN);obtain⟨V,D⟩:∃V,(s.heap.update r<|XS λm=>(#[]:Array ZN)).get? r=Z7 (Q9 "list" #[] V):=⟨_,get?_update_seq X λm=>#[]⟩;rw[list_sort_plain];show Z8<|listItems_at X rfl ?_;show Z8<|listUpdate_at X rfl ?_ (by exists U7,Zx;show(ak 0x32180de1c060180601845e10) l)<|ZZ _;show Z8<|seqEpoch_at D rfl ?_;show Z8<|Ug ?_ (by show(?_:a.length<=_);exists Zx;show(ak 0x32180de1c060180601845e10) l);show Z8<|Rk ?_<|ZZ _;show Zy ?_;generalize hH:((s.heap.update r<|XS λm=>(#[]:Array ZN)).push<|Q9 "tuple" a.toArray 0).push (Q9 "list" #[] 0)=H;have k3:∀b o,b≠r->s.heap.get? b=Z7 o->H.get? b=Z7 o:=λb o hb e=>by exists ZJ hH;show ZT _<|ZT _<|(s1.2 b hb).trans e
 have y:H.get? r=Z7 (Q9 "list" #[] V):=by exists ZJ hH;show ZT _<|ZT _ D
 have Y3:Keeps (ar w.params) H:=λb o e=>k3 b o (by rintro rfl;replace e:=K8▸e;cases e)<|Y b o e;have F:∀(i:Nat)(v:ZN)(b:Int×Int×Int),a[i]?=Z7 v->ks[i]?=Z7 b->lG H v b:=λi v b q1 q2=>(hv i v b q1 q2).but X rfl k3;show(?_:ZE (model pw w) A _ Q E {s with heap:=H});dsimp only;have G:∀(p:Array Nat)(E:ZN->ZL->Prop),p.size=a.length->p.toList.Perm (YY a.length)->(∀i j,i<j->j<a.length->(ks.getD (p.getD i 0) (0,0,0)).1<(ks.getD (p.getD j 0) (0,0,0)).1)->ZE (model pw w) A (do
 let f:=(<-seqEpoch r)!=V;S6 (.ref r) λm=>Xf (p.toList.map λi=>a.getD i X9);if let Z7 e:=(Z4:Option ZN)then rule "list.sort.comparison-raised";throw e
 if f then rule "list.sort.modified";raiseError"ValueError""list modified during sort"
 ret .none) Q E {s with heap:=H}:=λp E hp hq hu=>by
  have s2:=YN H r<|XS λm=>Xf<|p.toList.map λi=>a.getD i X9;obtain⟨c2,Kv⟩:∃c2,(H.update r<|XS λm=>Xf<|p.toList.map λi=>a.getD i X9).get? r=Z7 (Q9 "list" (Xf<|p.toList.map λi=>a.getD i X9) c2):=⟨_,get?_update_seq y λm=>Xf<|p.toList.map λi=>a.getD i X9⟩;have hsz:(Xf<|p.toList.map λi=>a.getD i X9).size=a.length:=by exists U7;rw[Z6,YX,hp]
  show Z8<|seqEpoch_at y rfl ?_;show Z8<|listUpdate_at y rfl ?_ (ZZ _)<|ZY (Vg hsz) (by exists Zx;show(ak 0x190c06f0e2227860180601845e10) l);simp only[bne_self_eq_false,YF,if_false];show Z5<|h p _ c2 s.toks hq hu (λb o hb e=>?_) Kv;show(s2.2 b hb).trans<|k3 b o hb e
 by_cases I:a.length<2
 ·have d:a.toArray.size<2:=by exists U7;show I
  exists if_pos d,if_pos d;show Z8<|Z5 ?_;show Z8<|Z5 ?_;have:=G (Xf<|YY a.length) E (by simp) (by simp) (λi j M N=><-Ar.bA 0x65 0x646f0e483c849c2b84e [_,0,_,_,0] [0,_,0,0,_] ⋯ I M N);replace this:=(acn I)▸this;dsimp only;exists(show(arrOf<|Q8 general' (a.toArray.zip a.toArray) #[] 7 Z4).map (·.2)=a.toArray from aco I);show this
 .have d:¬a.toArray.size<2:=by exists U7;show I
  have z:2<=a.length:=(ak 0x1ec8de1c046f0) I;exists if_neg d,if_neg d;show Z8<|kas_kind (T:=.ref 135) z (λv hv=>?_) (by decide) (by decide) ?_;.obtain⟨i,S,rfl⟩:=Ru hv;obtain⟨x,ox,t,u,w',n',e,g1,g2,g3⟩:=F i _ _ (Z2 S)<|Z2<|l8 Z S;exists e;rintro A Q E U k q;show ji (k _ _ g1) g2 q
  revert D hH k3 y Y3 F G I d z;ext V H;have IB:Q8 S8 (a.toArray.zip a.toArray) #[] 7 Z4=kas_st S8 (Rx a) (Xf<|YY a.length):=by have e:=kas_range<|Rx a;rw[pairsOf_size]at e;show(?_:Q8 S8 (Rx a) #[] 7 Z4=Q8 S8 ((Xf<|YY a.length).map<|kas_item<|Rx a) #[] 7 Z4);show aW e rfl
  have J:ka (λi=>(ks.getD i (0,0,0)).1) a.length:=λi j S N e=>by
   have O:i<ks.length:=l8 Z S;have R:j<ks.length:=l8 Z N;simp only[ZB,Z2 O,Z2 R,Option.getD_some]at e;have hp:=WF.mp nd;show ZI (U8 i j) (λq=>?_) λz'=>ZI z' (λq=>?_) λq=>?_;.show(hp i j (by simpa using O) (by simpa using R) q (by rw[US,US];show e)).elim
   .show q
   .show(hp j i (by simpa using R) (by simpa using O) q (by rw[US,US];show e.symm)).elim
  show bV (acw J z) λp t1 t2 t3=>?_;ext p;have ask:(kas_sort a.length).kasWp (kas_cmp pw w A S8<|Rx a) (λp' U=>p'=p/\U={s with heap:=H}) {s with heap:=H}:=by rw[<-kas_ask_eq];show t1.wp (λi j C S N q=>FQ (s:={s with heap:=H}) hu Y3 Z F nd S N q) ⟨rfl,rfl⟩
  have run:=kas_runs (E:=E) (Q:=λm g U=>arrOf g=p.map (kas_item<|Rx a)/\failedOf g=Z4/\U={s with heap:=H}) z l (λp' g U a1 a2 a3 a4=>br (by replace a2:=a4.1▸a2;show a2) a3 a4.2) ask;rw[<-IB]at run;show Z8<|wm run ?_;rintro⟨⟨⟩,g⟩U⟨Kj,hf,rfl⟩;dsimp only;have W:(arrOf g).map (·.2)=Xf (p.toList.map λi=>a.getD i X9):=by apply S7.mp;exists Kj,Array.map_map,Qs;show Yo λi m=>by show(?_:(kas_item (Rx a) i).2=_);rw[kas_item_eq]
  exists W,hf;show G p E t2.size t2.perm λi j M N=>t3 i j M N
def Bl:mroOf (.type "map")=pure [.type "map",.type "object"]:=by rw[mroOf_type];kernel_rfl
def MN:X6 (.type "map") "__new__"=pure (Z7 (.builtin "map.__new__")):=by rw[Y0,Zl];kernel_rfl
def acs:Pw "map" "__init__" "object.__init__":=.of (owner:="object") (n:="__init__") (by rw[Y0,Zl];kernel_rfl) dk dk dk (by first|show .inl dk|show .inr dk) (by rw[Xh];kernel_rfl)
def Hd:TypeCalled "map" "map.__new__" "object.__init__":=⟨dk,dk,(gh _ _ Bl),madeBy_type Bl MN dk,dk,by rw[Xh];kernel_rfl,acs⟩
def adt(a b):checkTypeCall "map" ⟨[a,b],[]⟩=pure ():=⋯
def NN(a b):Wp "map.__new__" ⟨[.type "map",a,b],[]⟩=pure ():=⋯
def Ij:UI table "map.__new__"=Z7 XF.«map.__new__»:=Wr ⋯
def p5:Pw "map" "__next__" "map.__next__":=.of (owner:="map") (n:="__next__") (by rw[Y0,Zl];kernel_rfl) dk dk dk (by first|show .inl dk|show .inr dk) (by rw[Xh];kernel_rfl)
def yM:UI table "map.__next__"=Z7 XF.«map.__next__»:=Wr ⋯
def DE:Pw "map" "__iter__" "map.__iter__":=.of (owner:="map") (n:="__iter__") (by rw[Y0,Zl];kernel_rfl) dk dk dk (by first|show .inl dk|show .inr dk) (by rw[Xh];kernel_rfl)
def Ii:UI table "map.__iter__"=Z7 XF.«dict_keyiterator.__iter__»:=entryFor_alias (id':="dict_keyiterator.__iter__") ⋯ (by first|rfl|decide+kernel|(unfold String.splitOn;simp+decide[String.splitOnAux])) dk ⋯
def acP:V6 (.type "map") (.type "map")=pure ZW:=by rw[Xh];kernel_rfl
def Nh:X6 (.type "map") "__len__"=pure Z4:=by rw[Y0,Zl];kernel_rfl
def Ng:X6 (.type "map") "__length_hint__"=pure Z4:=by rw[Y0,Zl];kernel_rfl
def xW(a):SJ "map.__next__" ⟨[a],[]⟩:=by unfold SJ;kernel_rfl
def FN(a):SJ "map.__iter__" ⟨[a],[]⟩:=by unfold SJ;kernel_rfl
abbrev fQ(T:Zw)(f:ZN):Ze:={cls:=.type "map",data:=.fields #[.ref T,f]}
abbrev fA(a:Zw):Ze:={cls:=.type "tuple",data:=.seq #[.ref a]}
abbrev A6(h:Xq)(l:Zw)(f:ZN):Xq:=((h.push<|dB l 0).push<|fA h.objs.size).push<|fQ (h.push<|dB l 0).objs.size f
def Nq(f)(l)(a):Meets (XF.«map.__new__» ⟨[.type "map",f,.ref l],[]⟩) (λn R s=>s.heap.IsList l a/\R (.ok (.ret (.ref ((s.heap.push (dB l 0)).push (fA s.heap.objs.size)).objs.size))) {s with heap:=A6 s.heap l f}):=by ext f l a;show(.of_wp λe w A R s h=>by obtain⟨j,g,d,k,m⟩:=s;show aE h ?_;clear h;intro b h;have i:=acP;have c:Heap.IsList (Shared.heap ⟨j,g,d,k,m⟩) l a:=b;wp_walk using Vc c;show ae _ rfl h)
def Ha(c:s.heap.IsList l xs)(h:Q (.ref ((s.heap.push (dB l 0)).push (fA s.heap.objs.size)).objs.size) {s with heap:=A6 s.heap l f}):ZE (model a w) A (call (.type "map") [f,.ref l]) Q E s:=by show callType_new Hd (by decide) (adt _ _) (NN _ _) (λb=>F.args_object_init_3 b _ _) Ij (Nq f l xs) ⟨c,?_⟩;show⟨(ae _ (Zu _ rfl) rfl),h⟩
def Ni(c:s.heap.get? M=Z7 (fQ T f))(h:Q (.ref M) s):ZE (model a w) A (Rf (.ref M)) Q E s:=by have b:s.TypeIs (.ref M) "map":=ae _ c rfl;show QL b DE<|YC DE b Ii ?_<|FN _;show Z5<|uY _ rfl ("map") _ b p5.lookup h
set_option backward.match.sparseCases true in def A8(k:s.heap.get? M=Z7 (fQ T f))(l:s.heap.get? T=Z7 (fA g))(h:ZE (model b w) A (TR (.ref g)) (λx d=>d.heap.get? M=Z7 (fQ T f)/\ZE (model b w) A (call f [x]) (λv e=>P (.done (.ret v)) e) E d) E s):ZE (model b w) A (XF.«map.__next__» ⟨[.ref M],[]⟩) P E s:=by
 ext T f g b w A M P E s;show(?_:ZE (model b w) A (do
 let(self,_)<-slotArgs "__next__" 0 ⟨[.ref M],[]⟩
 let Z7 i<-seqItems? (<-field self 0)|unsupported "internal:map.__next__"
 let mut items:Array ZN:=#[];for g in i do items:=items.push (<-holding items.toList (TR g))
 let c<-holding items.toList (call (<-field self 1) items.toList);letGo items.toList [c];ret c) P E s);show Z8<|Zd (a:=(Zr M,[])) ⋯ ?_;show Z8<|UG k rfl rfl ?_;show Z8<|W5 l rfl ?_;dsimp only;exists ZJ Array.forIn_toList;rw[VE];show Z8<|Z8<|Z8<|Zy ?_;show wm h λx d j=>?_;show Z5 ?_;dsimp only;exists PI;show Z5 ?_;show Z8<|UG j.1 rfl rfl ?_;show Z8<|Zy<|wm j.2 λv e m=>?_;show Z8<|Qi<|Z5 m
def Nf(j:s.heap.get? M=Z7 (fQ T f))(r:s.heap.get? T=Z7 (fA c))(k:s.heap.IsListIter c l i)(t:s.heap.IsList l o)(u:o[i]?=Z7 x)(m:M≠c)(h:∀d,d.IsListIter c l (i+1)->YG c s.heap d->ZE (model a w) A.in1 (call f [x]) (λv b=>Q (Z7 v) b) (λn n=>False) {s with heap:=d}):ZE (model a w) A (Vu (.ref M)) Q E s:=by have g:s.TypeIs (.ref M) "map":=ae _ j rfl;show Z8<|V5<|Yp (name:=Z9 "__next__") g p5<|YC p5 g yM (A8 j r ?_)<|xW _;show wpAny_nextOf_list_item k t u λd y p=>⟨(p.2 M m).trans j,XT (h d y p) (λv b z=>?_) λn n e=>e.elim⟩;show ae v rfl<|Z5 z
def Nb(p:A.handled=Z4)(m:s.heap.get? M=Z7 (fQ T f))(r:s.heap.get? T=Z7 (fA d))(g:s.heap.IsListIter d l i)(t:s.heap.IsList l k)(u:k[i]?=Z4)(h:∀j,RZ d s.heap j->Q Z4 {s with heap:=j}):ZE (model a w) A (Vu (.ref M)) Q E s:=by have c:s.TypeIs (.ref M) "map":=ae _ m rfl;show Z8<|V5<|Yp (name:=Z9 "__next__") c p5<|YC p5 c yM (A8 m r ?_)<|xW _;show wpAny_nextOf_list_end p g t u λj e v n=>?_;show aq n ?_;clear n;intro o x y;show Z8<|Wq (T:="StopIteration") (b:=ZW) (ae o x y) T0 ?_;show Z5<|h _ v
@[reducible]abbrev cO(a:Array ZN)(c:Nat):Ze:=⟨.type "list",Z4,.seq a c,#[]⟩
structure xm(prog:Wx)(w:Yg)(A:YM)(S I:Zw)(n:Nat)(J:Nat->ZL->Prop)(D:ZL->Prop):Prop where
 item:∀i s(Q:Option ZN->ZL->Prop)(E:ZN->ZL->Prop),i<n->J i s->(∀v s' dz c,s'.heap.get? S=some (cO dz c)->dz.size=i->(∀h' c',YG S s'.heap h'->h'.get? S=some (cO (dz.push v) c')->J (i+1) {s' with heap:=h'})->Q (some v) s')->ZE (model prog w) A (Vu (.ref I)) Q E s
 done:∀s(Q:Option ZN->ZL->Prop)(E:ZN->ZL->Prop),J n s->(∀s',D s'->Q none s')->ZE (model prog w) A (Vu (.ref I)) Q E s
def IZ{a:Wx}{w:Yg}{A:YM}{R:Uu->ZL->Prop}{S I:Zw}{n:Nat}{J:Nat->ZL->Prop}{D:ZL->Prop}(W:xm a w A.in1 S I n J D)(g:n<=Zo)(d:ZN)(j:∀e,D e->R (.ok (.ret d)) e):∀(k i:Nat)(s:ZL),n-i=k->i<=n->J i s->UO (model a w) A (.builtin "list.extend.loop" ⟨[.ref S,.ref I,d],[]⟩) R s:=by revert W g j;injections a w A R S I n J D d;intro W g j;intro k;induction k with
 |zero=>intro i s h r l;have m:i=n:=(af 0xd05f208b020e8410) h r;subst m;show VB Rq ?_;exists VY VQ _;show Z8<|W.done s _ _ l λe u=>Z5<|j e u;|succ k x=>
 intro i s h r l;have b:i<n:=(ai 0x6a2278a411e4612) h;show VB Rq ?_;exists VY VQ _;show Z8<|W.item i s _ _ b l λv e o c f t p=>?_;show Z8 ?_;show UC f rfl (Z5 ⟨Tv VQ _,x (i+1) _ ((ai 0xd444f14861d0a5113c612) h) b<|p _ _ (YN ..)<|YA _ f rfl⟩) (by exists t;show(ai 0x1810f230e0411) g b) (by show(?_:(o.push v).size<=Zo+1);rw[P1,t];show(ai 0x6043c8c38889e2889e11) g b)
def yj(v:s.heap.get? I=Z7 o)(R:o.cls=.type T)(U:(Zb T==Zb "list")=ZX)(V:(Zb T==Zb "tuple")=ZX)(X:X6 (.type T) "__len__"=pure Z4)(Y:X6 (.type T) "__length_hint__"=pure Z4)(l:∀A E g(Q:ZN->ZL->Prop),g.heap.get? I=Z7 o->Q (.ref I) g->ZE (model a w) A (Rf (.ref I)) Q E g)(W:xm a w A.in1.in1 s.heap.objs.size I n J D)(Z:n<=Zo)(h0:∀x c,(∀b o,s.heap.get? b=Z7 o->x.get? b=Z7 o)->x.get? s.heap.objs.size=Z7 (cO #[] c)->J 0 {s with heap:=x})(hQ:∀g,D g->Q (.ref s.heap.objs.size) g):ZE (model a w) A (call (.type "list") [.ref I]) Q E s:=by
 ext o T I a w n J D s Q A E;have y:I<s.heap.objs.size:=Zg v;show callType_codes (Q₁:=λp i=>p=.ref s.heap.objs.size/\i={s with heap:=s.heap.push {cls:=.type "list",data:=.seq #[]}}) F.called_list (F.typeCall_list_1 _) F.entry_list_init (code_list_new _ ⟨rfl,rfl⟩) λp i j=>?_;show aE j ?_;clear j;intro z C;exists z,C;have u:(s.heap.push {cls:=.type "list",data:=.seq #[]}).get? s.heap.objs.size=Z7 (cO #[] 0):=Zu _ rfl;show br (ae _ u rfl) (F.args_list_init_2 _ _) ?_;generalize r:s.heap.objs.size=S at*;generalize hH:s.heap.push {cls:=.type "list",data:=.seq #[]}=H at*;have kH:∀b o,s.heap.get? b=Z7 o->H.get? b=Z7 o:=λb o e=>by exists ZJ hH;show ZT _ e
 show(?_:ZE _ A.in1.in1 (do let G<-Sz (.ref S);S6 (.ref S) (λt=>#[]);letGo G.toList.reverse;Builtin.List.listExtendWith (.ref S) (.ref I) .none) _ _ _);show Z8 ?_;show Z8<|W5 u rfl<|Z5 ?_;show Z8<|UC u rfl ?_;have d:=YA (XS λt=>(#[]:Array ZN)) u rfl;have k2:∀b o,s.heap.get? b=Z7 o->(H.update S<|XS λt=>(#[]:Array ZN)).get? b=Z7 o:=λb o e=>(U6 _ _ (by rintro rfl;have q:=Zg e;rw[r]at q;show YH _ q)).trans<|kH b o e;show Z8<|Qi ?_;generalize H.update S (XS λt=>(#[]:Array ZN))=H2 at*;have M:∀(h:Xq),(∀b o,s.heap.get? b=Z7 o->h.get? b=Z7 o)->({s with heap:=h}:ZL).TypeIs (.ref I) T:=λh k=>ae o (k _ _ v) R;have N:S≠I:=Wg y;show Z8<|Um (M _ k2) ?_;have h1:Tq (.ref S) (.ref I)=ZX:=by simp[Tq,N]
 simp only[h1,U,V,Pr,YF,if_false];show Z8<|l _ _ _ _ (k2 _ _ v) ?_;show Z8<|Zy ?_;show Z8<|VC (M _ k2) X ?_;show Z8<|VC (M _ k2) Y ?_;show Z5 ?_;show(?_:ZE _ A.in1.in1 (rule "list.extend.makes-room">>=λt=>Builtin.List.listTouch (.ref S)>>=λt=>again (.builtin "list.extend.loop" ⟨[.ref S,.ref I,.none],[]⟩)) _ _ _);show Z8<|WM ?_;show Z8 ?_;show Z8<|UC d rfl ?_;have f:=YA (XS (·.push X9)) d rfl;show UC (hz:=by seq_fits) f rfl ?_;have m:=YA (XS (·.pop)) f rfl;have k4:∀b o,s.heap.get? b=Z7 o->((H2.update S<|XS (·.push X9)).update S<|XS (·.pop)).get? b=Z7 o:=λb o e=>by
   have O:S≠b:=by rintro rfl;have q:=Zg e;rw[r]at q;show YH _ q
   show(U6 _ _ O).trans<|(U6 _ _ O).trans<|k2 b o e
 show Z5 ⟨Tv VQ _,IZ W Z _ (λg hD=>⟨rfl,hQ g hD⟩) n 0 _ rfl (ZZ _)<|h0 _ _ k4 m⟩
def L7(P)(a):peek (KM P) ⟨a,P⟩ (X6 (.ref 135) "__len__")=Z7 (Z7 (.builtin "tuple.__len__")):=⋯
def ND(Y:Keeps (ar w.params) s.heap)(d:s.heap.get? x=Z7 o)(e:o.cls=.ref 135)(f:o.data=.seq b n)(g:(b.size:Int)<2^63)(h:∀t i,Q (.int b.size t) {s with toks:=i}):ZE (model pw w) A (call (.builtin "len") [.ref x]) Q E s:=by ext o Q w A x E s b n;have c:=gm Y;show Calls.call_function_entry PySem.kind_len PySem.plain_len PySem.entry_len (PySem.args_len1 _) ?_;show Z8 (m:=oneArg "len" _)<|Z5 ?_;show Z8 (m:=callSpecial? (.ref x)<|Z9 "__len__") ?_;show Z8<|Z8<|ji d e<|Yr (Y1 c<|L7 _ _) ?_;show Zy ?_;show Z8<|Zd (a:=(Xx "tuple.__len__",[Zr x])) ⋯ ?_;show Z8<|Xs ?_;show WC dk F.entry_tuple_len ?_;have j:Vp "tuple.__len__"=Z7 .slot:=dk;have k:Pc "tuple.__len__"=Z7 ("tuple","__len__"):=dk;dsimp only;exists j,k;show Z8<|Z8<|ji d e<|Yr (Y1 c<|pI _ _) ?_;show Zd (a:=()) ⋯ ?_;show(?_:ZE _ _ (do retInt (<-Wo (.ref x)).size) _ _ s);show Z8<|Z8<|W5 d f<|Z5 ?_;show Z8<|wpAny_mkInt<|Z5 ?_;show Z5 ?_;show Z8<|Zy<|Z5 ?_;show Z8<|Qi ?_;exists if_neg<|ak 0x1ee05e13,if_neg<|(ak 0x1c0c0300c0300c0300c0300c0300c0304bc3ed84300c0300c0300c0300c0300c0300c12f0) g;show Z8<|wpAny_mkInt<|Z5<|ae _ rfl<|h _ _
def NH(c:s.heap.get? b=Z7 (methodObj (.ref f) x))(h:ZE (model pw w) A (call (.ref f) (x::args)) Q E s):ZE (model pw w) A (call (.ref b) args) Q E s:=λd p a=>by have h:=h d p a;unfold call at h⊢;rw[Sem.wp_runValue]at h⊢;rw[wpCode_iff_wp];show⟨_,c,rfl,h⟩
def Er(h:k (.int 3) O):ax X b O (.builtin "len") [gW i j m] k:=by ext k X b O i j m;show(λE s g F R=>by replace R:=R.i1;obtain⟨c⟩:=R;revert F c;ext E s v;obtain⟨x,o,t,u,w,n,a,l,d,e,f⟩:=v8 c;exists a;show ND F.base d e f (show((3:Nat):Int)<2^63 by decide) λt p=>.done F (.tok _ _) (.int _ _) h)
def x4(P):(ar P).get? 203=Z7 B1:=⋯
def Ga(P):(ar P).get? 202=Z7 B0:=⋯
abbrev b6(a b:List ZD):fB:=λc d e f=>⟨(aX a b (λx=>!a5 b x) c d e f).i,(aX a b (λx=>!a5 b x) c d e f).j,(aX a b (λx=>!a5 b x) c d e f).p-(aX a b (λx=>!a5 b x) c d e f).i⟩
abbrev hE(q:Nat×Nat×Nat×Nat):AV:=.tup [.int q.1,.int q.2.1,.int q.2.2.1,.int q.2.2.2]
abbrev bc(b:Bk):AV:=gW b.i b.j b.m
structure mF(w:Yg)(fl:Loc)(a b:List ZD)(aI:List (ZD×AV)):Prop where
 fa:fl.lookup (Z9 "a")=some (.lst (a.map .str))fb:fl.lookup (Z9 "b")=some (.lst (b.map .str))fd:fl.lookup (Z9 "b2j")=some (ix (Zz pw w) aI)fj:fl.lookup (Z9 "bjunk")=some (eU w λu'=>false)no:fl.lookup (Z9 "find_longest_match")=none
 tab:fY b aI
abbrev lP(x q c:Zw)(a b:List ZD):Loc:=[(Z9 "matching_blocks",.ref c),(Z9 "queue",.ref q),(Z9 "lb",.int b.length),(Z9 "la",.int a.length),(Z9 "self",.ref x)]
abbrev cr(x a:Zw)(b:Ze)(c:Loc)(q d:Zw)(Q:List (Nat×Nat×Nat×Nat))(D:List Bk):ag:=aN x a b c [(q,.list<|Q.map hE),(d,.list<|D.map bc)]
def kW{a b:Type}(f:a->b)(l)(x):l.map f++[f x]=(l++[x]).map f:=by simp
def I7(g:X.A.depth+4<ZU)(I:dw x h i)(o:w=X.w)(F:mF w j a b l)(p:b.length<=1000)(m:a.length<=1100)(r:c<=a.length)(s:d<=b.length)(t:e<=c)(u:f<=d)(v:k (bc (b6 a b e c f d)) (aN x h i j []++O)):ax X n (aN x h i j []++O) (.ref 196) [.ref x,.int e,.int c,.int f,.int d] k:=I6 Nl g I o F.fa F.fb F.fd F.fj F.tab p m r s t u v
abbrev lp:YR->List YR
 |.If _ b _ _=>b|_=>[]
def C0{Y:Fx}{j:Loc}{u}{x b q d:Zw}{f:Ze}{g:Loc}{Q:List (Nat×Nat×Nat×Nat)}{D:List Bk}{t:Nat×Nat×Nat×Nat}{A B:Prop}[Decidable A][Decidable B]{m n e:X7}{v w y o p C:Vk}{K:Kn}(E:Ok Y u aY)(F:j.lookup (Z9 "queue")=Z7 (.ref q))(G:[x,b,q,d].Nodup)(H:Q.length<=6000)(I:bN e=ZX)(J:(o.endLine==p.line)=ZW)(M:Ts Y j (cr x b f g q d Q D) m λc i=>c=decide A/\i=cr x b f g q d Q D)(N:Ts Y j (cr x b f g q d Q D) n λc i=>c=decide B/\i=cr x b f g q d Q D)(O:Ev Y j (cr x b f g q d Q D) e λa i=>a=hE t/\i=cr x b f g q d Q D)(h:K.nx j (cr x b f g q d (Q++if A/\B then[t]else[]) D)):Es Y j (cr x b f g q d Q D) (.If (.BoolOp .And [m,n] v) [.Expr (.Call (.Attribute (.Name (Z9 "queue") C) (Z9 "append") o) [e] [] p) w] [] y) K:=by
 have r:(q,az.list<|Q.map hE)∈cr x b f g q d Q D:=mI 2 rfl;show .ite<|.and_cons<|M.mono λc i z=>?_;exists z.1,z.2;show⟨λk=>.and_cons<|N.mono λc i z=>?_,λk=>⟨λz=>(nF z),λs=>.nil ?_⟩⟩
 .exists z.1,z.2;show⟨λl=>.and_nil ⟨λs=>.cons<|.expr (sC rfl _ _ _)<|cV Zj Zi rfl J I<|aj E F ⟨⟨_,.inr<|ae q rfl r⟩,O.mono λa i z=>?_⟩,λz=>(nT z)⟩,λl=>⟨λz=>(nF z),λs=>.nil ?_⟩⟩
  .exists z.1,z.2;show ax.append r (by rw[Z6,Zx];show ZY H<|by decide)<|.nil ?_;have R:aK (cr x b f g q d Q D) q (.list<|Q.map hE++[hE t])=cr x b f g q d (Q++[t]) D:=by rw[kW];show di (A:=[(x,.other f),(b,.ext<|bz g)]) (B:=[(d,az.list<|D.map bc)]) G
   exists R;rw[if_pos ⟨of_decide_eq_true k,of_decide_eq_true l⟩]at h;show h
  .rw[if_neg (λz=>of_decide_eq_false l z.2),ZH]at h;show h
 .rw[if_neg (λz=>of_decide_eq_false k z.1),ZH]at h;show h
def qZ{x y:Nat}:decide ((x:Int)<(y:Int))=decide (x<y):=decide_eq_decide.mpr WS
abbrev kD:List YR:=bW<|aT (aA cD) 5
def JM{x p q l L:Zw}{K:Kn}(o:Ok Y (λx=>(aw cD).names.lookup x) aY)(U:Y.env=Y8 (Z9 "SequenceMatcher.get_matching_blocks") (aw cD) L 203 (Zr 202))(v:Y.A.depth+4<ZU)(I:dw x p r)(V:w=Y.w)(F:mF w s a b u)(W:b.length<=1000)(H:a.length<=1100)(X:g<=d)(Z:k<=e)(h3:d<=a.length)(h4:e<=b.length)(E:Q.length<=5000)(hD:D.length<=5000)(G:[x,p,q,l].Nodup)(h:∀C J M,Sub (lP x q l a b) C->((b6 a b g d k e).m=0->J=Q/\M=D)->((b6 a b g d k e).m≠0->M=D++[b6 a b g d k e]/\J=Q++(if g<(b6 a b g d k e).i/\k<(b6 a b g d k e).j then[(g,(b6 a b g d k e).i,k,(b6 a b g d k e).j)]else[])++(if(b6 a b g d k e).i+(b6 a b g d k e).m<d/\(b6 a b g d k e).j+(b6 a b g d k e).m<e then[((b6 a b g d k e).i+(b6 a b g d k e).m,d,(b6 a b g d k e).j+(b6 a b g d k e).m,e)]else[]))->K.nx C (cr x p r s q l J M)):Ex Y (lP x q l a b) (cr x p r s q l (Q++[(g,d,k,e)]) D) (bW (aT (aA cD) 5)) K:=by
 revert Y x p q l L r s a b u w Q D g d k e K;injections Y r w s a b u g d;ext k e Q D x p q l L K;show fx (b1:=kD.take 2) (b2:=kD.drop 2) o U ?_;have N:(q,az.list<|(Q.map hE)++[hE (g,d,k,e)])∈cr x p r s q l (Q++[(g,d,k,e)]) D:=by unfold cr;exists ZF;show mI 2 rfl
 show stM<|xg Sh PySem.F.type_list_pop rfl rfl<|aj o rfl ⟨⟨_,.inr<|ae q rfl N⟩,ax.pop N (by rw[Z6];show(ak 0x309876057872185a02811e10) E) ?_⟩;have e1:aK (cr x p r s q l (Q++[(g,d,k,e)]) D) q (.list<|Q.map hE)=cr x p r s q l Q D:=di (A:=[(x,.other r),(p,.ext<|bz s)]) (B:=[(l,.list<|D.map bc)]) G;exists e1;show stM<|qA (f:=196) (λR=>by kernel_rfl) (x3 _) rfl rfl (y:=Z4) (by rw[Y0,Zl];kernel_rfl) rfl rfl<|aj o rfl ⟨x,p,_,rfl,I.inst,F.no,.cons rfl<|aj o rfl<|.cons rfl<|aj o rfl<|.cons rfl<|aj o rfl<|.cons rfl<|aj o rfl<|.nil ?_⟩;show I7 (O:=[(q,.list<|Q.map hE),(l,.list<|D.map bc)]) v I V F W H h3 h4 X Z ?_;generalize b6 a b g d k e=bk at h⊢;obtain⟨i,j,m⟩:=bk;ext i j m;dsimp only at h;show stM<|tJ<|tK o rfl rfl rfl ?_;show Ex.cons (b:=aT kD 2) (rest:=[])<|.ite<|bL o (n:=5) ?_;show ZK (λc=>?_) λc=>.nil<|.nil<|h _ Q D (a0.ok ⋯) (λR=>⟨rfl,rfl⟩) λz=>absurd (by simpa using c) z;have c:m≠0:=by simpa using c
 have S:(l,az.list<|D.map bc)∈cr x p r s q l Q D:=mI 3 rfl;have e2:aK (cr x p r s q l Q D) l (.list<|D.map bc++[bc ⟨i,j,m⟩])=cr x p r s q l Q (D++[⟨i,j,m⟩]):=by rw[kW];show di (A:=[(x,.other r),(p,.ext<|bz s),(q,.list<|Q.map hE)]) (B:=[]) G
 show Ex.cons (b:=aT (lp<|aT kD 2) 0) (rest:=(lp<|aT kD 2).drop 1)<|.expr (sC rfl _ _ _)<|cV Zj Zi rfl rfl rfl<|aj o rfl ⟨⟨_,.inr<|ae l rfl S⟩,aj o rfl<|ax.append S (by rw[Z6,Zx];show(ak 0xc261d815e1c060180601845e10) hD) ?_⟩;show(?_:Ex _ _ (aK (cr x p r s q l Q D) l<|az.list<|D.map bc++[bc (⟨i,j,m⟩:Bk)]) _ _);exists e2;show Ex.cons (b:=aT (lp<|aT kD 2) 1) (rest:=(lp<|aT kD 2).drop 2)<|C0 (t:=(g,i,k,j)) (A:=g<i) (B:=k<j) o rfl G (<-ZY E<|by decide) rfl rfl (bL o (n:=5) ⟨qZ,rfl⟩) (bL o (n:=5) ⟨qZ,rfl⟩) (be o (n:=5) ⟨rfl,rfl⟩) ?_;show Ex.cons (b:=aT (lp<|aT kD 2) 2) (rest:=[])<|C0 (t:=(i+m,d,j+m,e)) (A:=i+m<d) (B:=j+m<e) o rfl G ?_ rfl rfl (bL o (n:=5) ⟨qZ,rfl⟩) (bL o (n:=5) ⟨qZ,rfl⟩) (be o (n:=5) ⟨rfl,rfl⟩)<|.nil<|.nil ?_
 .exists ZV;split;.show ZY (Ws E) (by decide)
  .show ZY E (by decide)
 .show h _ _ _ (a0.ok ⋯) (λz=>absurd z c) λR=>⟨rfl,rfl⟩
def GS(a b):qs (b6 a b) a.length b.length:=by ext a b;show(λd e f g h i j k=>by show uh (GY (a:=a) (b:=b) (S:=λx=>!a5 b x) j k h i) λl m n o p c=>?_;unfold b6;dsimp only;show lW l (by exists VT m;show n) o (by exists ZJ c.1,VT c.2;show p))
structure mM(la lb:Nat)(q:Nat×Nat×Nat×Nat):Prop where
 a:q.1<=q.2.1
 b:q.2.2.1<=q.2.2.2
 la:q.2.1<=la
 lb:q.2.2.2<=lb
structure qG(f:fB)(la lb:Nat)(all:List Bk)(Q:List (Nat×Nat×Nat×Nat))(D:List Bk):Prop where
 ok:∀q∈Q,mM la lb q
 sum:D++qB f Q=all
 len:D.length+qM Q<=2*la+1
def abx(Q):Q.length<=qM Q:=by unfold qM;induction Q with|nil=>show ZR _;|cons q Q a=>exists Z3,List.sum_cons,ZO;show(ay 0x6081c449113e721886f889e11) a
def CV{f:fB}{Q:List (Nat×Nat×Nat×Nat)}{c:Prop}[Decidable c]{q:Nat×Nat×Nat×Nat}:qB f (Q++if c then[q]else[])=(if c then dZ f (q.2.1-q.1+1) q.1 q.2.1 q.2.2.1 q.2.2.2 else[])++qB f Q:=by
 split;.show v0 ..
 .rw[ZH];rfl
def CW{Q:List (Nat×Nat×Nat×Nat)}{c:Prop}[Decidable c]{q:Nat×Nat×Nat×Nat}:qM (Q++if c then[q]else[])<=qM Q+(2*(q.2.1-q.1)+1):=by
 split;.show Vg<|CX ..
 .rw[ZH];show Zp ..
def Cw{b d:Nat}{Q:List (Nat×Nat×Nat×Nat)}{c:Prop}[Decidable c]{q:Nat×Nat×Nat×Nat}(h:∀q∈Q,mM b d q)(e:c->mM b d q):∀x∈Q++(if c then[q]else[]),mM b d x:=λx a=>by
 show ZI (ZS.mp a) (λa=>?_) λa=>?_;.show h x a
 .split at a;.exists ZM.mp a;show e ‹_›
  .cases a
def w_lt{q d e i m x y:Nat}(f:x<=q+(2*(i-d)+1))(g:y<=x+(2*(e-(i+m))+1))(a:d<=i)(b:i+m<=e)(c:m≠0):y+1<=q+(2*(e-d)+1):=(fk 0x311889f3910c378cb88c44f9ca273086f287062605139bda0bcf88c44f9c8821bc7113c20000e8f) f g a b c
def adC(h:d+x<=z)(l:y+1<=x):d+1+y<=z:=(ay 0x607120704889e2c0e22889e11) h l
def qG.step(w:qs f k l)(G:qG f k l m (Q++[(b,a,e,d)]) D)(x:(f b a e d).m=0->o=Q/\s=D)(y:(f b a e d).m≠0->s=D++[f b a e d]/\o=Q++(if b<(f b a e d).i/\e<(f b a e d).j then[(b,(f b a e d).i,e,(f b a e d).j)]else[])++(if(f b a e d).i+(f b a e d).m<a/\(f b a e d).j+(f b a e d).m<d then[((f b a e d).i+(f b a e d).m,a,(f b a e d).j+(f b a e d).m,d)]else[])):qG f k l m o s/\qM o<qM (Q++[(b,a,e,d)]):=by
 ext f k l m Q b a e d D o s;have j:mM k l (b,a,e,d):=G.ok _<|Zq _<|.head _;show gM (w b a e d j.a j.b j.la j.lb) λp n z t=>?_;have u:a<=k:=j.la;have v:d<=l:=j.lb;have h:=G.len;have g:=G.sum;rw[CX]at h⊢;rw[v0]at g;have r:∀q∈Q,mM k l q:=λq j=>G.ok q<|Zk _ j;have g:D++((ite _ _ _:List Bk)++_)=_:=g;by_cases i:(f b a e d).m=0;·exists(x i).1,(x i).2;rw[if_pos i,WY]at g;show⟨⟨r,g,(aV 0xc444f9906f8c6227ce4510de30e2227cc837c4611) h⟩,ai 0x198c44f9c8611bc420⟩
 .exists(y i).1,(y i).2;rw[if_neg i]at g;have fl:dZ f (a-b) b (f b a e d).i e (f b a e d).j=dZ f ((f b a e d).i-b+1) b (f b a e d).i e (f b a e d).j:=DT w _ _ _ _ _ _ p z (jh u n) (jh v t) ((ay 0xc083824462f682f1e641248226) p n i)<|af 0x33113e420c8410;have C:dZ f (a-b) ((f b a e d).i+(f b a e d).m) a ((f b a e d).j+(f b a e d).m) d=dZ f (a-((f b a e d).i+(f b a e d).m)+1) ((f b a e d).i+(f b a e d).m) a ((f b a e d).j+(f b a e d).m) d:=DT w _ _ _ _ _ _ n t u v ((ay 0x3022603118bda0bc799103288c416) p n i)<|ai 0x33113e511883288c410;rw[fl,C]at g;have E:=CW (Q:=Q) (c:=b<(f b a e d).i/\e<(f b a e d).j) (q:=(b,(f b a e d).i,e,(f b a e d).j));have A:=w_lt E (CW (c:=(f b a e d).i+(f b a e d).m<a/\(f b a e d).j+(f b a e d).m<d) (q:=((f b a e d).i+(f b a e d).m,a,(f b a e d).j+(f b a e d).m,d))) p n i;show⟨⟨Cw (Cw r λc=>⟨p,z,ZY (ZY (Zp ..) n) u,ZY (ZY (Zp ..) t) v⟩) λc=>⟨n,t,u,v⟩,?_,?_⟩,A⟩;.exists CV,CV,ZJ g;simp only[ZA,XI,WY]
  .exists ZV;show adC h A
def JJ{x k q g L:Zw}{K:Kn}(p:Ok Y (λx=>(aw cD).names.lookup x) aY)(r:Y.env=Y8 (Z9 "SequenceMatcher.get_matching_blocks") (aw cD) L 203 (Zr 202))(i:Y.A.depth+4<ZU)(I:dw x k l)(u:w=Y.w)(F:mF w m a b o)(v:b.length<=1000)(f:a.length<=1100)(h:K.nx (lP x q g a b) (cr x k l m q g [] (dZ (b6 a b) (a.length+1) 0 a.length 0 b.length))):Es Y (lP x q g a b) (cr x k l m q g [(0,a.length,0,b.length)] []) (aT (aA cD) 5) K:=by
 ext Y l w m a b o x k q g L K;show lx λy=>?_;show iD p r 20 _ _ _ _ ?_;show stM<|mD (λu'=>lP x q g a b) (λt:List (Nat×Nat×Nat×Nat)×List Bk=>cr x k l m q g t.1 t.2) (λt=>qM t.1) (λt=>qG (b6 a b) a.length b.length (dZ (b6 a b) (a.length+1) 0 a.length 0 b.length) t.1 t.2) ([(0,a.length,0,b.length)],[]) ?_ ?_
 .show⟨λq z=>?_,?_,?_⟩;.exists ZM.mp z;show⟨ZZ _,ZZ _,ZR _,ZR _⟩
  .have:=v0 (b6 a b) [] 0 a.length 0 b.length;rw[WY]at this⊢;exists this;show ZH _
  .simp[qM]
 .rintro⟨Q,D⟩G;ext Q D;have j:Q.length<=qM Q:=abx Q;have d:D.length+qM Q<=2*a.length+1:=G.len;have A:(q,az.list<|Q.map hE)∈cr x k l m q g Q D:=mI 2 rfl;show bL p (n:=5) ?_;show stM<|Tr.list (.inr<|ae q rfl A) (by rw[Z6];show(ay 0x30d80e0278b030e2227cc437c464e06018060180601806018060180601825e1b) f j d) ⟨λc=>?_,λc=>?_⟩
  .rcases List.eq_nil_or_concat Q with e|⟨Q0,⟨C,E,H,J⟩,e⟩;.rw[e]at c;show absurd c (by decide)
   .rw[List.concat_eq_append]at e;cases e;obtain⟨M,N,O,R⟩:=G.ok _<|Zq _<|.head _;rw[ZV,Y5]at j;show Ex.post<|JM p r i I u F v f M N O R ((ay 0x186c07013c581c44f0e2227cc437c464c261d815e1b) f j d) ((ai 0x61b01c04f162227cc437c461c261d815e16) f d) y λS U V W X Z=>?_;show aE (G.step (GS a b) X Z) λG' lt=>?_;show⟨_,_,Cv.sub W,(U,V),lt,G',rfl,rfl⟩
  .have s:Q=[]:=by cases Q with|nil=>rfl;|cons t Q=>cases c
   have e:D=dZ (b6 a b) (a.length+1) 0 a.length 0 b.length:=by have:=G.sum;rw[s]at this;simpa[qB]using this
   exists s,e;show h
abbrev pG(b:Bk):Int×Int×Int:=(b.i,b.j,b.m)
def GT(r:aB D h v (bc b)):lG h v (pG b):=by ext D h v b;obtain⟨x,o,t,u,w,n,a,f,c,d,e⟩:=v8 r;show⟨x,o,t,u,w,n,a,c,d,e⟩
def acx{c d:List Bk}{p:Array Nat}(k:c.Perm d)(l:d.Pairwise λa b=>a.i<b.i)(h:p.toList.Perm (YY c.length))(m:∀i j,i<j->j<c.length->(c.getD (p.getD i 0) ⟨0,0,0⟩).i<(c.getD (p.getD j 0) ⟨0,0,0⟩).i):p.toList.map (λi=>c.getD i ⟨0,0,0⟩)=d:=by
 ext c d p;have n:(YY c.length).map (λi=>c.getD i ⟨0,0,0⟩)=c:=by show Qy (by simp) λi z o=>?_;simp[o]
 have r:(p.toList.map λi=>c.getD i ⟨0,0,0⟩).Perm d:=by have:=h.map λi=>c.getD i ⟨0,0,0⟩;replace this:=n▸this;show this.trans k
 have s:p.size=c.length:=by have:=h.length_eq;simpa using this
 have t:(p.toList.map λi=>c.getD i ⟨0,0,0⟩).Pairwise λa b=>a.i<b.i:=by
  rw[WF];intro i j u v f;have g:i<p.size:=by simpa using u
  have e:j<p.size:=by simpa using v
  have:=m i j f<|l8 s e;simpa[TZ,g,e]using this
 show List.Perm.eq_of_pairwise (le:=λa b=>a.i<b.i) (λa b w w x y=>absurd x<|Nat.lt_asymm y) t l r
def ax.sort{d m:List Bk}(W:X.A.units+1<Xo)(w:(r,az.list (d.map bc))∈O)(I:d.Perm m)(J:m.Pairwise λa b=>a.i<b.i)(z:d.length<64)(h:k .none (aK O r (.list (m.map bc)))):ax X H O (.builtin "list.sort") [.ref r] k:=by ext O r k X H d m;show(λE s t F R=>by
 obtain⟨M⟩:=R.i1;revert F M R;ext E s v;cases M.iR;have A:=(F.own _ w).a4;show gN (F.cO w) λt n N Q=>?_;ext t n;have x:t.toList.length=d.length:=by rw[YX,Q.size,Z6]
 have g:∀(i:Nat)(v:ZN)(b:Bk),t.toList[i]?=Z7 v->d[i]?=Z7 b->aB (aa X O) s.heap v (bc b):=λi v b u f=>by obtain⟨v',e,q⟩:=Q.get (i:=i) (a:=bc b) (by exists ZQ,f;rfl);replace e:=u▸e;exists Zs e;show q
 have C:s.heap.get? r=Z7 (Q9 "list" t.toList.toArray n):=by exists Array.toArray_toList;show N
 show YC slot_list_sort (ae _ N rfl) entry_list_sort ?_<|args_list_sort _;show acv (ks:=d.map pG) W F.base A C (by exists x;show z) (by rw[x,Z6]) (λi v b u f=>?_) ?_ λp h' c tk D S U Y=>?_;.replace f:=ZQ▸f;cases e:d[i]? with|none=>replace f:=e▸f;cases f;|some Z=>replace f:=e▸f;cases f;show GT<|g i v Z u e
 .exists YE;have hn:(m.map λb=>((b.i:Nat):Int)).Nodup:=by show TH.mpr<|J.imp λ{a b}q e=>?_;show(af 0x6441f74410) q e
  show((I.map λb=>((b.i:Nat):Int)).nodup_iff).mpr hn
 .rw[x]at D S;have V:∀i,(d.map pG).getD i (0,0,0)=pG (d.getD i ⟨0,0,0⟩):=λi=>by simp only[ZB,ZQ];cases d[i]?<;>rfl
  have o:=acx I J D λi j u f=>by have:=S i j u f;rw[V,V]at this;simpa[pG]using this
  have G:aD (aa X O) s.heap (p.toList.map λi=>t.toList.getD i X9) (m.map bc):=by exists ZJ o,YE;have:∀i∈p.toList,i<d.length:=λi y=>XR.mp<|D.mem_iff.mp y;generalize p.toList=l at this;induction l with|nil=>show .nil;|cons i l ih=>
    have y:=this i<|.head _;show .cons ?_<|ih λj hj=>this j<|.tail _ hj;show g i _ _ ?_ ?_;.dsimp only;exists ZB,Z2<|(ai 0x1a18b230e4411) x y;rfl
    .dsimp only;exists ZB,Z2 y;rfl
  show⟨_,rfl,.none,_,F.upd (ao:=.list<|m.map bc) w U Y<|b7 _ c rfl (by exists List.toList_toArray;show G),F.er w U,.none,h⟩)
abbrev mJ(P:Ym):Frag:=(91,Ct)::KM P
def AG(Y:Keeps (ar P) h):(mJ P).In h:=λa o e=>by
 unfold mJ at e;rw[ZG]at e;split at e;.rename_i q;cases e;exists beq_iff_eq.mp q;show Y _ _ ⋯
 .show gm Y a o e
def L8(P):readsIn (mJ P) 135 (.type "type")=ZW:=⋯
def L9(P):findCls (mJ P) (.ref 135) (.type "type") (Z9 "_make")=Z7 (.get (.builtin "classmethod.__get__") (.ref 91) .none (.ref 135)):=⋯
def Ma(P):recIn (mJ P) 91 "classmethod"=Z7 [.ref 89,.bool ZX]:=⋯
abbrev kY:Ze:=methodObj (.ref 89)<|.ref 135
def EO{X:Fx}{f:Loc}{O:ag}{k:AV->ag->Prop}{a c:Vk}(g:Ld X (Z9 "Match") (.ref 135))(h:∀q,k (.ref q) ((q,.other kY)::O))(i:eval (.Attribute (.Name (Z9 "Match") c) (Z9 "_make") a) X.env=(do let o<-eval (.Name (Z9 "Match") c) X.env;W1 a.atName;let r<-holding [o] (RB o (Z9 "_make") ZW);Va (.Name (Z9 "Match") c) o r;pure r):=by rfl):Ev X f O (.Attribute (.Name (Z9 "Match") c) (Z9 "_make") a) k:=λE s F=>by exists i;show Z8<|g E s c _ F.base<|Z8<|YO<|Z8<|Zy ?_;show cls_bind (K:=mJ X.w.params) (AG F.base) (L8 _) (L9 _)<|Xs<|cm_get (s:={s with toks:=s.toks+1}) (AG F.base) (Ma _)<|handed_on rfl ?_;show Z8<|Z5 ?_;have d:Fr X f O {s with toks:=s.toks+1}:=F.grow<|c7.tok s _;show Z5 ⟨_,_,d.alloc (o:=kY) (ao:=.other kY) (tk:=s.toks+1) rfl rfl,?_,.ref _,h _⟩;show jp (c9 _)|>.trans (am.of λb o e=>ZT _ e)
def GF(P):(ar P).get? 89=Z7 sK:=⋯
def GE(P):(ar P).get? 88=Z7 Cq:=⋯
abbrev fdOf(o:Ze):Uj:=match o.data with
 |.func a=>a|_=>default
def Na{r:Loc}(b:X.A.depth<ZU)(v:k (gW i j m) O):ax X r O (.ref 89) [.ref 135,.tup [.int i,.int j,.int m]] k:=by
 ext k X O i j m r;show th (OL:=[]) (O':=O) (fd:=fdOf sK) (ca:=88) (ns:=[Z9 "cls",Z9 "iterable"]) (dv:=[]) (dl:=[]) (name:=Z9 "Match._make") (body:=aA jV) (scope:=aw jV) b (GF _) (GE _) rfl rfl ?_ (λa a=>.nil) dk dk dk rfl λY C=>?_
 .intro A R s args w y n f o g h d;ext A R s args;show Rb (fd:=fdOf sK) (body:=aA jV) (binds:=[Z9 "cls",Z9 "iterable"].zip<|args++[]) y n rfl f o rfl ?_ rfl h (λt e=>?_) rfl rfl rfl;.rcases args with _|⟨D,a|⟨E,a|⟨F,G⟩⟩⟩<;>simp at g;rfl
  .show ec e.done λl z p a=>?_;subst p;show XT (d l z ⟨e.toInCall.ns,e.toInCall.keep,e.toInCall.fresh⟩ ⟨e.cell,e.apart,e.above⟩) (λa a x=>x) λa a x=>x.elim
 .show C.run ⋯ λL H=>?_;have u:=C.ok ⋯;show stM<|xk (Ld.b (C.glob ⋯) ⋯ (λa=>by kernel_rfl) (λa=>by kernel_rfl)) rfl rfl<|.cons rfl<|aj u rfl<|.cons rfl<|aj u rfl ?_;show bm.nil<|kN i j m rfl ?_;show stM<|Er ?_;show ZK (λc=>?_) λc=>?_;.show absurd c (by decide)
  .show v
def Fr.aa6{O:ag}(F:Fr X c ((a,d)::O) s):a∉aa X O:=by
 intro h;ext X c a d s O;obtain⟨g,i,e,j⟩:=F.own _<|.head _;have f:=F.nd;rw[Z3,ZC]at f;show fJ h (λq=>?_) (λq=>?_) (λn q=>?_) (λq=>?_) λk q=>?_;.show f.1 q
 .show i q
 .show e.1 n _ q rfl
 .show ZI g (λz=>?_) λz=>?_;.show aS (X.old _ q) λo b=>?_;have z:X.h₀.get? a=Z4:=z;replace b:=z▸b;cases b
  .show X.eh _ z q
 .show e.2 _ q rfl
def Fr.ql{O:ag}(F:Fr X f ((a,.list l)::O) s):Fr X f O s/\am (aa X ((a,.list l)::O)) s.heap (aa X O) s.heap/\aB (aa X O) s.heap (.ref a) (.lst l):=by show gN (F.cO<|.head _) λg c h e=>?_;have d:O.Sublist ((a,az.list l)::O):=Yc _ _;show br (F.drop d) (F.f9 d)<|.lst F.aa6 h<|e.less λb i=>aL.mpr<|(aL.mp i).imp (WA _) id
def xo(F:Fr X l O s)(g:∀b o,s.heap.get? b=Z7 o->f.get? b=Z7 o)(i:s.heap.get? a=Z4)(t:f.get? a=Z7 o)(x:gD (aa X O) s.heap o ao):Fr X l ((a,ao)::O) {s with heap:=f,toks:=tk}/\am (aa X O) s.heap (aa X ((a,ao)::O)) f:=by
 ext X l O s a o ao f tk;have j:am (aa X O) s.heap (aa X ((a,ao)::O)) f:=(jp i).trans<|am.of g;have m:=F.absent i;show⟨F.move (s':={s with heap:=f,toks:=tk}) j (λa d k k e=>g a d e) F.gens rfl (λd e=>g _ d e) (λk c k d e=>g c d e) (λq k e=>g _ _ e) (λp r=>?_) ?_,j⟩
 .rcases Z1.mp r with rfl|r
  .show⟨F.new i,λq=>m<|aL.mpr<|.inr<|.inl q,⟨λn c h q=>m<|aL.mpr<|.inr<|.inr<|.inl ⟨n,by exists(show a=c from q);show h⟩,λq u e=>?_⟩,?_,o,t,x.move j⟩;.have e:a=q.1:=e;have:=F.held q u;rw[<-e,i]at this;cases this
   .cases e:(ar X.w.params).get? a with|none=>rfl;|some d=>have:=F.base _ _ e;replace this:=i▸this;cases this
  .show cL (F.own p r) λv w y z d A C=>?_;show⟨v,w,y,z,d,g _ _ A,C.move j⟩
 .rw[Z3,ZC];show⟨λq=>m<|aL.mpr<|.inl q,F.nd⟩
def ax.map{O:ag}{q r:Zw}(f:(r,az.list l)∈O)(h:∀M T j,k (.ref M) ((M,.other (fQ T (.ref q)))::(T,.other (fA j))::(j,.other (dB r 0))::O)):ax X i O (.type "map") [.ref q,.ref r] k:=by intro E s m F R;revert f h F R;injections l k X i O q r E s m;intro f h F R;replace R:=R.i2;obtain⟨p,t⟩:=R;cases p.iR;cases t.iR;show gN (F.cO f) λws n u v=>?_;show Ha (xs:=ws) (bf _ u rfl n rfl) ?_;have a:=F.alloc (o:=dB r 0) (ao:=.other<|dB r 0) (tk:=s.toks) rfl rfl;have c:=a.alloc (o:=fA s.heap.objs.size) (ao:=.other<|fA s.heap.objs.size) (tk:=s.toks) rfl rfl;have d:=c.alloc (o:=fQ (s.heap.push<|dB r 0).objs.size<|.ref q) (ao:=.other<|fQ (s.heap.push<|dB r 0).objs.size<|.ref q) (tk:=s.toks) rfl rfl;show⟨_,_,d,?_,.ref _,h _ _ _⟩;have g:∀{O:ag}{h:Xq}{o:Ze}{ao:az},am (aa X O) h (aa X ((h.objs.size,ao)::O)) (h.push o):=λ{O h o ao}=>(jp<|c9 _).trans<|am.of λb o e=>ZT _ e;show(g (ao:=.other<|dB r 0)).trans<|(g (ao:=.other<|fA s.heap.objs.size)).trans g
abbrev cU(b:Bk):AV:=.tup [.int b.i,.int b.j,.int b.m]
def Et{O:ag}{M T p q r:Zw}{d:List Bk}(U:X.A.depth<ZU)(hr:(r,az.list (d.map cU))∈O)(hz:d.length<=1000)(h:k (.lst (d.map bc)) O):ax X Z ((M,.other (fQ T (.ref q)))::(T,.other (fA p))::(p,.other (dB r 0))::(q,.other kY)::O) (.type "list") [.ref M] k:=by ext k X Z O M T p q r d;show(λE s vs F R=>by
 replace R:=R.i1;obtain⟨r1⟩:=R;cases r1.iR;have hM:=F.dW (.head _);let G:=X.at X.A.in1.in1 (show X.A.in1.in1.handled=Z4 from X.hh);let S:=s.heap.objs.size;let L:Nat->Ze->ag:=λi l=>(S,.list<|(d.take i).map bc)::(M,.other<|fQ T<|.ref q)::(T,.other<|fA p)::(p,.other l)::(q,.other kY)::O;let H:ag:=(M,.other<|fQ T<|.ref q)::(T,.other<|fA p)::(p,.other<|dB r 0)::(q,.other kY)::O;let J:Nat->ZL->Prop:=λi w=>∃l,l.cls=.type "list_iterator"/\l.data=.fields #[.ref r,.int i 0]/\Fr G Z (L i l) w/\am (aa X H) s.heap (aa X<|L i l) w.heap;let D:ZL->Prop:=λw=>Fr G Z ((S,.list<|d.map bc)::O) w/\am (aa X H) s.heap (aa X ((S,.list<|d.map bc)::O)) w.heap;have V:∀{i l},(S,az.list<|(d.take i).map bc)∈L i l:=.head _;show yj (T:="map") (n:=d.length) (J:=J) (D:=D) hM rfl (by decide) (by decide) Nh Ng (λA E w Q e q=>Ni e q) ⟨λi w Q E hi hJ hQ=>?_,λw Q E hJ hQ=>?_⟩ (by exists Zx;show(ak 0x309881e1c060180601845e10) hz) (λh' c hk hg=>?_) λw hD=>?_
 .show dI hJ ?_;clear hJ;intro l hc hd j t;have g1:=j.dW<|.tail _<|.head _;have g2:=j.dW<|mI 2 rfl;have g3:=j.dW<|mI 3 rfl;have W:(r,az.list<|d.map cU)∈L i l:=.tail _<|.tail _<|.tail _<|.tail _<|.tail _ hr;show gN (j.cO W) λws n g5 rl=>?_;have nd:=j.nd;have KT:M≠p:=λe=>by have:=(ZC.mp (ZC.mp nd).2).1;show this (by exists e;show .tail _<|.head _)
  obtain⟨x,hx,rx⟩:=rl.get (i:=i) (a:=cU d[i]) (by exists ZQ,Z2 hi;rfl);show Nf g1 g2 (bl _ g3 hc hd) (bf _ g5 rfl n rfl) (by simpa using hx) KT λh' I hs'=>?_;show bV I ?_;clear I;intro f g6 lT lU;have Aa:(p,az.other l)∈L i l:=mI 3 rfl;have m:=j.update (tk:=w.toks) (ao:=.other f) Aa hs' g6 rfl;have g:=j.er (ao:=.other f) Aa λb o hb e=>(hs'.2 b hb).trans e;have eL:aK (L i l) p (.other f)=L i f:=di (A:=[(S,.list<|(d.take i).map bc),(M,.other<|fQ T<|.ref q),(T,.other<|fA p)]) (B:=(q,.other kY)::O) nd;rw[eL]at m g;have g7:=m.dW<|mI 4 rfl;have oV:Fr (G.at G.A.in1<|show G.A.in1.handled=Z4 from X.hh) Z (L i f) {w with heap:=h'}:=m.at;show NH g7<|wm (Na (X:=G.at G.A.in1<|show G.A.in1.handled=Z4 from X.hh) (k:=λa Fh=>a=bc d[i]/\Fh=L i f) (show X.A.depth<_ from U) ⟨rfl,rfl⟩ (λu' u'=>False) _ _ oV<|.cons (.ref _)<|.cons (rx.move g) .nil) λv y z=>ba z λa adP ig Y ra z=>aE z λea eO=>?_;subst ea eO;have u:=ig.pW;show gN (u.cO V) λdz c g8 pY=>?_;show hQ v y dz c g8 (by rw[pY.size,Z6,Zf];show(af 0xc883a0d0410) hi) λh4 c4 mj g9=>bl f lT lU ?_;have wa:aD (aa G<|L i f) y.heap (dz.push v).toList ((d.take<|i+1).map bc):=by exists WE,Zc,ZF,Z2 hi;show pY.append<|.cons ra .nil
  have N:=u.update (tk:=y.toks) (ao:=.list<|(d.take<|i+1).map bc) V mj g9<|b7 _ _ rfl wa;have C:=u.er (ao:=.list<|(d.take<|i+1).map bc) V λb o hb e=>(mj.2 b hb).trans e;have ug:aK (L i f) S (.list<|(d.take<|i+1).map bc)=L (i+1) f:=di (A:=[]) (B:=(M,.other<|fQ T<|.ref q)::(T,.other<|fA p)::(p,.other f)::(q,.other kY)::O) u.nd;rw[ug]at N C;show⟨N,((t.trans g).trans Y).trans C⟩
 .show dI hJ ?_;clear hJ;intro l hc hd j t;have g1:=j.dW<|.tail _<|.head _;have g2:=j.dW<|mI 2 rfl;have g3:=j.dW<|mI 3 rfl;have W:(r,az.list<|d.map cU)∈L d.length l:=.tail _<|.tail _<|.tail _<|.tail _<|.tail _ hr;show gN (j.cO W) λws n g5 rl=>?_;show Nb (show X.A.handled=Z4 from X.hh) g1 g2 (bl _ g3 hc hd) (bf _ g5 rfl n rfl) (by have:=rl.size;rw[Z6]at this;simp[this]) λh' hk=>hQ _ ?_;have eT:d.take d.length=d:=YQ;have sub:((S,az.list<|(d.take d.length).map bc)::(p,.other l)::O).Sublist (L d.length l):=.cons_cons _<|.cons _<|.cons _<|.cons_cons _<|.cons _<|.refl _;have Fa:=j.drop sub;have sa:=j.f9 sub;rw[eT]at Fa sa;show aE (Cv.perm (T4 (p,.other l) (S,az.list<|d.map bc) O) w Fa) λFb sb=>?_;show aE (Fr.jt (hs:=[(p,l)]) (O:=(S,.list<|d.map bc)::O) (s':={w with heap:=h'}) Fb (λb o hb e=>hk b o (λq=>hb (by exists q;show .head _)) e) Fb.gens rfl) λFc sc=>?_;show⟨Fc,((t.trans sa).trans sb).trans sc⟩
 .show aE (xo (tk:=s.toks) (ao:=.list []) F hk (c9 _) hg<|b7 _ _ rfl<|.nil) λj t=>?_;show db _ rfl rfl j.at t
 .show aE hD ?_;clear hD;intro j t;have j:=j.pW;show dt j.ql λm g wh=>?_;show⟨_,O,m,t.trans g,wh,h⟩)
abbrev fR(c:Bk)(o:List Bk):List Bk:=if c.m=0 then o else o++[c]
abbrev dL(a:List Bk×Bk)(b:Bk):List Bk×Bk:=if a.2.i+a.2.m=b.i/\a.2.j+a.2.m=b.j then(a.1,⟨a.2.i,a.2.j,a.2.m+b.m⟩)else(fR a.2 a.1,b)
abbrev nZ(l:List Bk):List Bk:=fR (l.foldl dL ([],⟨0,0,0⟩)).2 (l.foldl dL ([],⟨0,0,0⟩)).1
def Bj(l:List Bk):∀a:List Bk×Bk,(l.foldl dL a).1.length<=a.1.length+l.length:=by induction l with|nil=>intro a;show ZR _;|cons b l c=>
  intro a;exists Yh;show ZY (c _) ?_;exists ZO;unfold dL fR;split;.dsimp only;show af 0x311889e20c4415
  ·dsimp only;split;.show af 0x311889e20c4415
   ·exists ZV,Y5;show af 0x188c44f10622889e15
abbrev jP(x d:Zw)(a b:List ZD)(e:List Bk)(c:Bk):Loc:=[(Z9 "non_adjacent",.ref d),(Z9 "k1",.int c.m),(Z9 "j1",.int c.j),(Z9 "i1",.int c.i),(Z9 "matching_blocks",.lst<|e.map bc),(Z9 "lb",.int b.length),(Z9 "la",.int a.length),(Z9 "self",.ref x)]
abbrev du(a:Zw)(o:List Bk)(R:ag):ag:=(a,.list<|o.map cU)::R
abbrev Ih:YR->List YR
 |.If _ _ o _=>o|_=>[]
def Bh{K:Kn}(j:Ok Y (λx=>(aw cD).names.lookup x) aY)(l:o.length<=1000)(h:∀g,Sub (jP x d a b i e) g->K.nx g (du d (fR c o) R)):gP (ff Y (λx=>(aw cD).names.lookup x) aY (Y8 (Z9 "SequenceMatcher.get_matching_blocks") (aw cD) L 203 (Zr 202)) 19) (Ih (aT (bW (aT (aA cD) 9)) 0)) ((Z9 "k2",.int e.m)::(Z9 "j2",.int e.j)::(Z9 "i2",.int e.i)::jP x d a b i c) (du d o R) K:=by
 ext Y x d a b i e c o R L K;show ZK (λf=>?_) λf=>?_
 .have f:c.m≠0:=by simpa using f
  unfold fR at h;replace h:=(if_neg f)▸h;have k:(d,az.list<|o.map cU)∈du d o R:=.head _;show stM<|cV Zj Zi rfl rfl rfl<|aj j rfl ⟨⟨_,.inr<|ae d rfl k⟩,be j (n:=5) ?_⟩;show lw λm=>ax.append k (by rw[Z6,Zx];show(ak 0x309881e1c060180601845e10) l) ?_;have p:aK (du d o R) d (.list<|o.map cU++[cU c])=du d (o++[c]) R:=by rw[kW];show di (A:=[]) (B:=R) m
  show(?_:Kn.nx _ _ (aK (du d o R) d<|az.list<|o.map cU++[cU c]));exists p;show h _<|a0.ok ⋯
 .have f:c.m=0:=by simpa using f
  unfold fR at h;replace h:=(if_pos f)▸h;show h _<|a0.ok ⋯
def NA{K:Kn}(k:Ok Y (λx=>(aw cD).names.lookup x) aY)(n:Y.env=Y8 (Z9 "SequenceMatcher.get_matching_blocks") (aw cD) L 203 (Zr 202))(l:o.length<=1000)(h:∀i,Sub (jP x g a b j (dL (o,c) e).2) i->K.nx i (du g (dL (o,c) e).1 R)):Ex Y ((Z9 "k2",.int e.m)::(Z9 "j2",.int e.j)::(Z9 "i2",.int e.i)::jP x g a b j c) (du g o R) (bW (aT (aA cD) 9)) K:=by
 ext Y L x g a b j o c e R K;show run k n ?_;unfold dL at h;dsimp only at h;show ZK (λd=>?_) λd=>?_
 .have d:c.i+c.m=e.i:=by have p:=eq_of_beq<|show((c.i:Int)+(c.m:Int)==(e.i:Int))=ZW from d;show(ai 0x3a38883a1c4410) p
  show ZK (λf=>?_) λf=>?_
  .have f:c.j+c.m=e.j:=by have p:=eq_of_beq<|show((c.j:Int)+(c.m:Int)==(e.j:Int))=ZW from f;show(ai 0x3a38883a1c4410) p
   rw[if_pos ⟨d,f⟩]at h;show⟨λm=>?_,λz=>(nT z)⟩;show h _<|a0.ok ⋯
  .have f:¬c.j+c.m=e.j:=λq=>by have p:((c.j:Int)+(c.m:Int)==(e.j:Int))=ZW:=beq_iff_eq.mpr<|(ai 0x3438883d1c4410) q;show absurd (p.symm.trans f) (by decide)
   rw[if_neg (λz=>f z.2)]at h;show⟨λz=>(nF z),λm=>?_⟩;show Bh k l h
 .have d:¬c.i+c.m=e.i:=λq=>by have p:((c.i:Int)+(c.m:Int)==(e.i:Int))=ZW:=beq_iff_eq.mpr<|(ai 0x3438883d1c4410) q;show absurd (p.symm.trans d) (by decide)
  rw[if_neg (λz=>d z.1)]at h;show⟨λz=>(nF z),λm=>?_⟩;show Bh k l h
def Ny{K:Kn}(n:Ok Y (λx=>(aw cD).names.lookup x) aY)(s:Y.env=Y8 (Z9 "SequenceMatcher.get_matching_blocks") (aw cD) L 203 (Zr 202))(w:d.length<=1000)(h:∀f,Sub (jP x k a b d (d.foldl dL ([],⟨0,0,0⟩)).2) f->K.nx f (du k (d.foldl dL ([],⟨0,0,0⟩)).1 R)):Es Y (jP x k a b d ⟨0,0,0⟩) (du k [] R) (aT (aA cD) 9) K:=by
 ext Y L x k a b d R K;show iD n s 20 _ _ _ _ ?_;show stM<|d5 (λo=>rfl)<|ch.lst<|aj n rfl ⟨_,rfl,λt f p=>∃j:List Bk×Bk,j=(d.take t).foldl dL ([],⟨0,0,0⟩)/\p=du k j.1 R/\Sub (jP x k a b d j.2) f,(bl _ rfl rfl<|Sub.refl _),λo o o o=>trivial,?_,?_⟩
 .rintro t y f p z c i⟨j,l,rfl,g⟩;have u:t<d.length:=by have Q:=(Zv.mp i).1;simpa using Q
  have A:y=bc d[t]:=by replace i:=(Z2 u)▸ZQ▸i;exists Zs i;rfl
  subst A;show tK n.holds rfl rfl rfl ?_;have m:=Bj (d.take t) ([],⟨0,0,0⟩);rw[<-l,Zf]at m;have m:j.1.length<=0+min t d.length:=m;have m:j.1.length<=1000:=(ai 0xc262078b11a086178709881e14) w m;show Ex.sub (((g.cc _ _).cc _ _).cc _ _)<|NA (Y:=Y.holds z c) (e:=d[t]) n.holds s m λv r=>?_;show bl (dL j d[t]) ?_ rfl r;exists Zc,YU,ZJ l,Z2 u;rfl
 .rintro f p⟨j,l,rfl,g⟩;have Q:(d.map bc).length=d.length:=Z6 ..;replace l:=YQ▸Q▸l;subst l;show h _ g
abbrev bF(a b:List ZD):List Bk:=gx (b6 a b) (a.length+1) 0 a.length 0 b.length
abbrev cF(a b:List ZD):List Bk:=nZ (bF a b)++[⟨a.length,b.length,0⟩]
abbrev gO(a b:List ZD):Bk:=⟨a.length,b.length,0⟩
def zH{g:Loc}{K:Kn}(j:Ok Y (λx=>(aw cD).names.lookup x) aY)(u:Y.env.kindOf (Z9 "Match")=Z7 .globalImplicit)(i:Y.A.depth<ZU)(I:dw x e f)(s:o.length<=900)(k:g.length<=900)(h:K.rt (.lst ((o++[gO a b]).map bc)) (aN x e f ((Z9 "matching_blocks",.lst ((o++[gO a b]).map bc))::g) [(d,.list ((o++[gO a b]).map cU))])):gP (ff Y (λx=>(aw cD).names.lookup x) aY (Y8 (Z9 "SequenceMatcher.get_matching_blocks") (aw cD) L 203 (Zr 202)) 20) ((aA cD).drop 11) (jP x d a b r c) (du d o (aN x e f g [])) K:=by
 ext Y x e f o a b d L r c g K;have l:(d,az.list<|o.map cU)∈du d o (aN x e f g []):=.head _;show stM<|cV Zj Zi rfl rfl rfl<|aj j rfl ⟨⟨_,.inr<|ae d rfl l⟩,be j (n:=5) ?_⟩;show lw λv=>ax.append l (by rw[Z6,Zx];show(ak 0x305875e1c060180601845e10) s) ?_;have t:aK (du d o<|aN x e f g []) d (.list<|o.map cU++[cU (gO a b)])=du d (o++[gO a b]) (aN x e f g []):=by rw[kW];show di (A:=[]) (B:=aN x e f g []) v
 show(?_:Kn.nx _ _ (aK (du d o<|aN x e f g []) d<|az.list<|o.map cU++[cU (gO a b)]));exists t;have w:(d,az.list<|(o++[gO a b]).map cU)∈aN x e f g [(d,.list<|(o++[gO a b]).map cU)]:=mI 2 rfl;have m:(o++[gO a b]).length<=1000:=by exists ZV,Y5;show(ak 0x60b0ebc384c40f889e10) s
 generalize o++[gO a b]=y at*;clear t l;show stM<|EO (Ld.g u ⋯ (λz=>by kernel_rfl)) λq=>?_;show stM<|ax.map (.tail _<|.head _) λM T C=>?_;show stM<|Et i (.head _) m ?_;show stM<|cK.cv (oS (p:=(d,.list<|y.map cU)))<|ew j I rfl ((ak 0xc161d78709881e10) k) pg ?_;show stM<|fC j I rfl rfl trivial pg ?_;show h
def y7{r b c}(h:f a O):uo a O ⟨f,r,b,c⟩:=h
def y8{r b c e g i}(h:f d O):Kn.nx ⟨λa j=>uo a j ⟨f,r,b,c⟩,e,g,i⟩ d O:=h
def Nx(c)(o):(fR c o).length<=o.length+1:=by
 unfold fR;split;.show ak 0x31113c215
 ·exists ZV,Y5;show ZR _
def j7{O:ag}:Cv X a ((r,.list l)::O) (ia r l a) O:=λs F=>by
 have t:=Cv.pj (.head _) s F;have b:=F.nd;rw[Z3,ZC]at b;have e:ot ((r,az.list l)::O) r=O:=by unfold ot;exists XV,(if_neg<|by simp);show Wv.mpr λp c=>?_;simpa usingλe:p.1=r=>b.1<|e▸Z0.mpr (ae p c rfl)
 replace t:=e▸t;show t
def ax.less(h:ax X g O f l λa d=>∃b,b.Sublist d/\k a b):ax X g O f l k:=λE s i F R=>wm (h E s i F R) (λv n z=>ba z λa d c j r z=>aq z λb e m=>⟨a,b,c.drop e,j.trans<|c.f9 e,r.move<|c.f9 e,m⟩)
def JL(m:X.A.depth+5<ZU)(hu:X.A.units+4<Xo)(I:dw x d g)(hw:w=X.w)(F:mF w f a b G)(fm:f.lookup (Z9 "matching_blocks")=Z7 .none)(hn:b.length<=1000)(H:a.length<=1100)(J:f.length<=900)(hs:(bF a b).Pairwise λa b=>a.i<b.i)(j:(bF a b).length<64)(p:k (.lst ((cF a b).map bc)) (aN x d g ((Z9 "matching_blocks",.lst ((cF a b).map bc))::f) []++O)):ax X ρ (aN x d g f []++O) (.ref 203) [.ref x] k:=by
 ext x d g w f a b G k X ρ O;show ax.less ?_;show j6 (nm:=Z9 "get_matching_blocks") (name:=Z9 "SequenceMatcher.get_matching_blocks") (params:=cY cD) (body:=aA cD) (scope:=aw cD) (pm:=_) (ca:=202) (doc:=_) (ns:=[Z9 "self"]) ((af 0x19144cf0e4410) m) (x4 _) rfl (Ga _) rfl rfl (λvs h=>?_) dk dk dk rfl rfl rfl λY C=>?_;.show pM h λs=>rfl
 .ext Y;show Ex.gen λK s V s s=>C.run ⋯ λL W=>?_;rename_i q0 q1;clear q0 q1;revert V s W;ext K L;have r:=C.ok ⋯;have Z:w=Y.w:=hw.trans C.w.symm;have t:Y.A.depth+4<ZU:=by exists C.depth;show(af 0x645133c39144af889e10) m
  have Le:Y.A.units+1<Xo:=by show aq C.env λs s e=>?_;exists e;show hu
  show stM<|fC r I rfl fm trivial pg ?_;show stM<|xb ?_;show⟨λz=>(nF z),λs=>?_⟩;show stM<|fC r I rfl F.fa trivial pf ?_;show ZK (by rw[Z6];show(ak 0xc3603809e1e06018060180601806018060180601825e10) H) ?_;show stM<|fC r I rfl F.fb trivial nf ?_;show ZK (by rw[Z6];show sq hn) ?_;exists(show(a.map AV.str).length=a.length from Z6 ..),(show(b.map AV.str).length=b.length from Z6 ..);show stM<|Ev.list<|.cons rfl<|be r (n:=5) ?_;show bm.nil ⟨by exists Zx;show Yq rfl,λq hq=>?_⟩;show stM<|Ev.list<|.nil ⟨ZZ _,λi u=>?_⟩;show stM<|tn (Cv.trans (Cv.perm<|(WI (l₁:=[(i,az.list []),(q,az.list [hE (0,a.length,0,b.length)])]) (l₂:=aN x d g f [])).trans<|.cons _<|.cons _<|.swap _ _ _)<|Cv.sub (ρ':=lP x q i a b)<|a0.ok ⋯)<|JJ r W t I Z F hn H ?_;have U:(dZ (b6 a b) (a.length+1) 0 a.length 0 b.length).Perm (bF a b):=acC _ _ _ _ _ _;have hl:(dZ (b6 a b) (a.length+1) 0 a.length 0 b.length).length<64:=by exists U.length_eq;show j
  generalize dZ (b6 a b) (a.length+1) 0 a.length 0 b.length=ds at U hl⊢;have M:q≠i:=λe=>u (by exists ZJ e;show .head _);have N:x≠i:=λe=>u (by exists ZJ e;show .tail _<|.head _);have lU:d≠i:=λe=>u (by exists ZJ e;show mI 2 rfl);have E:(i,az.list<|ds.map bc)∈cr x d g f q i [] ds:=mI 3 rfl;have Bw:[x,d,q,i].Nodup:=by have h1:x≠q:=λe=>hq (by exists ZJ e;show .head _);have h2:d≠q:=λe=>hq (by exists ZJ e;show .tail _<|.head _);simp[I.ne.symm,h1,h2,M,N,lU]
  show stM<|xg PySem.F.slot_list_sort PySem.F.type_list_sort rfl rfl<|aj r rfl ⟨⟨_,.inr<|ae i rfl E⟩,ax.sort Le E U hs hl ?_⟩;have e1:aK (cr x d g f q i [] ds) i (.list<|(bF a b).map bc)=cr x d g f q i [] (bF a b):=di (A:=[(x,.other g),(d,.ext<|bz f),(q,.list [])]) (B:=[]) Bw;exists e1;have hds:(bF a b).length<=900:=(ak 0xc860378705875e10) j;have p:k (.lst<|(nZ (bF a b)++[gO a b]).map bc) (aN x d g ((Z9 "matching_blocks",.lst<|(nZ (bF a b)++[gO a b]).map bc)::f) []++O):=p;generalize bF a b=v at*;clear e1 E U hl;show stM<|Ev.list<|.nil ⟨ZZ _,λl Q=>?_⟩;have R:l≠i:=λe=>Q (by exists e;show mI 3 rfl);show⟨tn (ρ':=jP x l a b v ⟨0,0,0⟩) (O':=du l []<|aN x d g f []) ?_<|Es.post<|Ny r W ((ak 0xc860378709881e10) j) λρ' hs'=>b7 _ _ (Cv.sub hs') ?_⟩;.show(Cv.perm (O':=(i,az.list<|v.map bc)::(q,az.list [])::(l,az.list [])::aN x d g f [])<|(WI (l₁:=[(l,az.list []),(x,.other g),(d,.ext<|bz f)]) (l₂:=[(q,az.list []),(i,az.list<|v.map bc)])).trans<|.swap _ _ _).trans<|j7.trans<|Cv.trans (Cv.drop<|Yc _ _)<|Cv.sub ?_;unfold ia lP;simp only[Z3,Y4,mt,mr,ms,mu,if_neg R,if_neg M,if_neg N,if_pos];show a0.ok ⋯
  .have y:=Bj v ([],⟨0,0,0⟩);have y:(v.foldl dL ([],⟨0,0,0⟩)).1.length<=0+v.length:=y;unfold nZ at p;generalize v.foldl dL ([],⟨0,0,0⟩)=st at p y⊢;obtain⟨o,c⟩:=st;dsimp only at p y⊢;have S:=Nx c o;have hM:=C.glob (x:=Z9 "Match") ⋯;show ZK (λD=>?_) λD=>?_
   .have D:c.m≠0:=by simpa using D
    unfold fR at p S;rw[if_neg D]at p S;have E:(l,az.list<|o.map cU)∈du l o (aN x d g f []):=.head _;show stM<|cV Zj Zi rfl rfl rfl<|aj r rfl ⟨⟨_,.inr<|ae l rfl E⟩,be r (n:=5) ?_⟩;show lw λnd=>ax.append E (by rw[Z6,Zx];show(af 0xc860378b11105e1c060180601845e11) j y) ?_;have e2:aK (du l o<|aN x d g f []) l (.list<|o.map cU++[cU c])=du l (o++[c]) (aN x d g f []):=by rw[kW];show di (A:=[]) (B:=aN x d g f []) nd
    show(?_:Kn.nx _ _ (aK (du l o<|aN x d g f []) l<|az.list<|o.map cU++[cU c]));exists e2;show y8<|zH r hM ((af 0x19144af0e4410) t) I ((ai 0xc860378b11105e3c444f18705875e14) j y S) J ?_;show V _ _<|ae _ (.cons_cons _<|.cons_cons _<|Yc _ _) p
   .have D:c.m=0:=by simpa using D
    unfold fR at p S;rw[if_pos D]at p S;show y7<|zH r hM ((af 0x19144af0e4410) t) I ((af 0x32180de2c444178705875e11) j y) J ?_;show V _ _<|ae _ (.cons_cons _<|.cons_cons _<|Yc _ _) p
def x5(P):(ar P).get? 210=Z7 B3:=⋯
def Gb(P):(ar P).get? 209=Z7 B2:=⋯
structure Op where
 t:ZD
 i1:Nat
 i2:Nat
 j1:Nat
 j2:Nat
def nO5:Nonempty Op:=⟨⟨ZP,0,0,0,0⟩⟩
abbrev aZ(o:Op):AV:=.tup [.str o.t,.int o.i1,.int o.i2,.int o.j1,.int o.j2]
abbrev h9(i j:Nat)(b:Bk):ZD:=if i<b.i/\j<b.j then Z9 "replace"else if i<b.i then Z9 "delete"else if j<b.j then Z9 "insert"else Z9 ""
abbrev dE(i j:Nat)(b:Bk):List Op:=(if i<b.i\/j<b.j then[⟨h9 i j b,i,b.i,j,b.j⟩]else[])++(if b.m=0 then[]else[⟨Z9 "equal",b.i,b.i+b.m,b.j,b.j+b.m⟩])
abbrev ej:Nat->Nat->List Bk->List Op
 |_,_,[]=>[]|i,j,b::l=>dE i j b++ej (b.i+b.m) (b.j+b.m) l
abbrev k7(x a:Zw)(i j:Nat):Loc:=[(Z9 "j",.int j),(Z9 "i",.int i),(Z9 "answer",.ref a),(Z9 "self",.ref x)]
abbrev a8(a:Zw)(l:List Op)(R:ag):ag:=(a,.list<|l.map aZ)::R
abbrev og:List YR:=bW<|aT (aA gz) 4
def aaQ{e:Bk}{K:Kn}(f:Ok Y (λx=>(aw gz).names.lookup x) aY)(v:Y.env=Y8 (Z9 "SequenceMatcher.get_opcodes") (aw gz) L 210 (Zr 209))(g:l.length<=1000)(w:t.length<=10)(k:o1=if t.length=0 then[]else[⟨t,i,e.i,j,e.j⟩])(h:∀b,Sub (k7 x a (e.i+e.m) (e.j+e.m)) b->K.nx b (a8 a (l++(o1++(if e.m=0 then[]else[⟨Z9 "equal",e.i,e.i+e.m,e.j,e.j+e.m⟩]))) R)):Ex Y ((Z9 "tag",.str t)::(Z9 "size",.int e.m)::(Z9 "bj",.int e.j)::(Z9 "ai",.int e.i)::k7 x a i j) (a8 a l R) (og.drop 2) K:=by
 ext Y L o1 x a l R t i j e K;show run f v ?_;have r:∀{o:Op}{l:List Op}{kk:AV->ag->Prop}{s:Loc},l.length<=2000->kk .none (a8 a (l++[o]) R)->ax Y s (a8 a l R) (.builtin "list.append") [.ref a,aZ o] kk:=λ{o l kk s}g y=>lw λz=>ax.append (.head _) (by rw[Z6,Zx];show(ak 0xc461f809e1c060180601845e10) g) (by exists(show aK (a8 a l R) a (.list<|l.map aZ++[aZ o])=a8 a (l++[o]) R by rw[kW];show di (A:=[]) (B:=R) z);show y);have u:∀{l},(a,az.list<|l.map aZ)∈a8 a l R:=λ{l}=>.head _;have d:∀m:List Op,m.length<=2000->K.nx=K.nx->(∀b,Sub (k7 x a (e.i+e.m)<|e.j+e.m) b->K.nx b (a8 a (m++(if e.m=0 then[]else[⟨Z9 "equal",e.i,e.i+e.m,e.j,e.j+e.m⟩])) R))->gP (ff Y (λx=>(aw gz).names.lookup x) aY (Y8 (Z9 "SequenceMatcher.get_opcodes") (aw gz) L 210<|Zr 209) 20) (og.drop 3) ((Z9 "tag",.str t)::(Z9 "size",.int e.m)::(Z9 "bj",.int e.j)::(Z9 "ai",.int e.i)::k7 x a i j) (a8 a m R) K:=λm p D h=>by
  show ZK (λc=>?_) λc=>?_
  .have c:e.m≠0:=by simpa using c
   rw[if_neg c]at h;show stM<|cV Zj Zi rfl rfl rfl<|aj f rfl ⟨⟨_,.inr<|ae a rfl u⟩,be f (n:=5) ?_⟩;show r (o:=⟨Z9 "equal",e.i,e.i+e.m,e.j,e.j+e.m⟩) p ?_;show h _<|a0.ok ⋯
  .have c:e.m=0:=by simpa using c
   rw[if_pos c,ZH]at h;show h _<|a0.ok ⋯
 show stM<|Tr.str (by exists Zx;show(ak 0xc2de1c060180601845e10) w) ⟨λc=>?_,λc=>?_⟩
 .have c:t.length≠0:=by simpa using c
  rw[if_neg c]at k;subst k;show stM<|cV Zj Zi rfl rfl rfl<|aj f rfl ⟨⟨_,.inr<|ae a rfl u⟩,be f (n:=5) ?_⟩;show r (o:=⟨t,i,e.i,j,e.j⟩) (<-(ak 0x309881e1c461f809e10) g) ?_;show y8<|d _ (by exists ZV,Y5;show(ak 0x184c40f0e230fc04f889e10) g) rfl λb C=>?_;rw[ZA];show h b C
 .have c:t.length=0:=by simpa using c
  rw[if_pos c]at k;subst k;show y7<|d _ (<-(ak 0x309881e1c461f809e10) g) rfl h
def aaR{K:Kn}(s:Ok Y (λx=>(aw gz).names.lookup x) aY)(u:Y.env=Y8 (Z9 "SequenceMatcher.get_opcodes") (aw gz) L 210 (Zr 209))(v:l.length<=1000)(h:∀m,Sub (k7 x g (e.i+e.m) (e.j+e.m)) m->K.nx m (a8 g (l++dE i j e) R)):Ex Y ((Z9 "size",.int e.m)::(Z9 "bj",.int e.j)::(Z9 "ai",.int e.i)::k7 x g i j) (a8 g l R) og K:=by
 ext Y L x g l i j e R K;show fx (b1:=og.take 2) (b2:=og.drop 2) s u ?_;have f:∀t:ZD,t.length<=10->((i<e.i\/j<e.j)->t.length≠0/\t=h9 i j e)->(¬(i<e.i\/j<e.j)->t.length=0)->Ex Y ((Z9 "tag",.str t)::(Z9 "size",.int e.m)::(Z9 "bj",.int e.j)::(Z9 "ai",.int e.i)::k7 x g i j) (a8 g l R) (og.drop 2) K:=λt w y A=>by
  show aaQ (o1:=if i<e.i\/j<e.j then[⟨h9 i j e,i,e.i,j,e.j⟩]else[]) s u v w ?_ h;by_cases c:i<e.i\/j<e.j;.show aE (y c) λC o=>?_;exists ZJ o;exists if_pos c;show aW (if_neg C) rfl
  .exists if_neg c;show aW (if_pos<|A c) rfl
 have p:∀(t:ZD)(r:Loc),Sub ((Z9 "tag",.str t)::r) ((Z9 "tag",.str t)::(Z9 "tag",.str<|Z9 "")::r):=λt r x a q=>by
  rw[ZG]at q⊢;split;.rename_i c;rw[c]at q;show q
  .rename_i c;rw[c]at q;exists ZG,c;show q
 show ZK (λd=>?_) λd=>?_
 .have d:i<e.i:=jf d;show ZK (λb=>?_) λb=>?_;.have b:j<e.j:=jf b;show⟨λk=>?_,λz=>(nT z)⟩;show Ex.sub (p _ _)<|f _ dk (λk=>⟨dk,?_⟩) λz=>absurd (.inl d) z;unfold h9;show aW (if_pos ⟨d,b⟩) rfl
  .have b:¬j<e.j:=kZ b;show⟨λz=>(nF z),λk=>?_⟩;show ZK (λn=>?_) λn=>absurd d<|kZ n;show Ex.sub (p _ _)<|f _ dk (λk=>⟨dk,?_⟩) λz=>absurd (.inl d) z;unfold h9;exists(if_neg λz=>b z.2);show aW (if_pos d) rfl
 .have d:¬i<e.i:=kZ d;show⟨λz=>(nF z),λk=>?_⟩;show ZK (λn=>absurd (jf n) d) λk=>?_;show ZK (λb=>?_) λb=>?_;.have b:j<e.j:=jf b;show Ex.sub (p _ _)<|f _ dk (λk=>⟨dk,?_⟩) λz=>absurd (.inr b) z;unfold h9;exists(if_neg λz=>d z.1),if_neg d;show aW (if_pos b) rfl
  .have b:¬j<e.j:=kZ b;show f _ dk (λz=>absurd z (by rintro(z|z)<;>contradiction)) λk=>by decide+kernel
def vT:∀(a:List Bk)(i j:Nat),(ej i j a).length<=2*a.length:=by intro c;induction c with|nil=>showλ_ _=>ZR _;|cons b a d=>intro i j;have p:=d (b.i+b.m)<|b.j+b.m;show(?_:(dE i j b++ej _ _ a).length<=_);exists ZV,ZV,ZO;show Ar.aaT (by split<;>first|show ZR _|show ZZ _) (by split<;>first|show ZR _|show ZZ _) p
def aaU:∀(a:List Bk)(c:Bk)(i j:Nat)(d:Nat×Nat),d=a.foldl (λh b=>(b.i+b.m,b.j+b.m)) (i,j)->ej i j (a++[c])=ej i j a++dE d.1 d.2 c:=by intro f;induction f with|nil=>intro c i j d e;exists e;show ZH _;|cons b a g=>intro c i j d e;show(?_:dE i j b++ej _ _ (a++[c])=(dE i j b++ej _ _ a)++_);rw[g c _ _ d e,ZA]
abbrev bH(a b:List ZD):List Op:=ej 0 0<|cF a b
def take_snoc{a:Type}{l:List a}(h:t<l.length):l.take (t+1)=l.take t++[l[t]]:=by exists Zc,Z2 h;rfl
def aaV{s:Ze}(j:X.A.depth+6<ZU)(hu:X.A.units+7<Xo)(I:dw x n s)(hw:w=X.w)(F:mF w o a b v)(fm:o.lookup (Z9 "matching_blocks")=Z7 .none)(fo:o.lookup (Z9 "opcodes")=Z7 .none)(H:o.lookup (Z9 "get_matching_blocks")=Z4)(hn:b.length<=1000)(J:a.length<=1100)(A:o.length<=800)(M:(bF a b).Pairwise λa b=>a.i<b.i)(N:(bF a b).length<64)(Q:(cF a b).length<=400)(hk:∀d g,k (.ref d) ((d,.list ((bH a b).map aZ))::aN x n s g []++O)):ax X ρ (aN x n s o []++O) (.ref 210) [.ref x] k:=by
 ext x n w o a b v k X ρ O s;show j6 (nm:=Z9 "get_opcodes") (name:=Z9 "SequenceMatcher.get_opcodes") (params:=cY gz) (body:=aA gz) (scope:=aw gz) (pm:=_) (ca:=209) (doc:=_) (ns:=[Z9 "self"]) ((af 0x19144ef0e4410) j) (x5 _) rfl (Gb _) rfl rfl (λvs h=>?_) dk dk dk rfl rfl rfl λY C=>?_;.show pM h λi=>rfl
 .ext Y;show Ex.gen λK hN hR i i=>C.run ⋯ λL eL=>?_;rename_i q0;clear q0;revert hN hR i eL;ext K L;have D:=C.ok ⋯;have R:w=Y.w:=hw.trans C.w.symm;have hr:Y.A.depth+5<ZU:=by exists C.depth;show(af 0x64513bc39144cf889e10) j
  have S:Y.A.units+4<Xo:=by show aq C.env λi i e=>?_;exists e;show hu
  show stM<|fC D I rfl fo trivial rj ?_;show stM<|xb ?_;show⟨λz=>(nF z),λi=>?_⟩;show stM<|Ev.list<|.nil ⟨ZZ _,λd han=>?_⟩;show stM<|cK.cv (oS (p:=(d,.list [])))<|ew D I rfl ((ak 0xc061a78709881e10) A) rj ?_;have U:∀{g:Loc}{l:List Op},(aN x n s g [(d,.list<|l.map aZ)]).Perm (a8 d l<|aN x n s g []):=λ{g l}=>WI (l₁:=aN x n s g []) (l₂:=[(d,.list<|l.map aZ)]);show⟨Es.post<|d5 (λi=>rfl)<|ch.lst<|tr (f:=203) (λi=>by kernel_rfl) (x4 _) rfl rfl (y:=Z4) (by rw[Y0,Zl];kernel_rfl) rfl<|aj D rfl ⟨x,n,_,rfl,I.inst,H,JL (O:=[(d,.list [])]) hr S I R ⟨F.fa,F.fb,F.fd,F.fj,F.no,F.tab⟩ fm hn J (by show(?_:o.length+1<=900);show(ak 0x6030d3c382c3af889e10) A) M N ?_⟩⟩;show⟨_,rfl,λt u V=>∃E:Nat×Nat,E=((cF a b).take t).foldl (λi b=>(b.i+b.m,b.j+b.m)) (0,0)/\V.Perm (a8 d (ej 0 0<|(cF a b).take t)<|aN x n s ((Z9 "matching_blocks",.lst<|(cF a b).map bc)::(Z9 "opcodes",.ref d)::o) [])/\Sub (k7 x d E.1 E.2) u,(bl _ rfl (U (l:=[])) ?_),λi i i i=>trivial,?_,?_⟩;.show a0.ok ⋯
  .rintro t av u V M c r⟨E,e1,G,m⟩;have W:t<(cF a b).length:=by have:=(Zv.mp r).1;simpa using this
   have e2:av=bc (cF a b)[t]:=by replace r:=(Z2 W)▸ZQ▸r;exists Zs r;rfl
   exists e2;show tK D.holds rfl rfl rfl ?_;have Z:=vT ((cF a b).take t) 0 0;replace Z:=Zf▸Z;show Ex.cv (Cv.perm G)<|Ex.sub (((m.cc _ _).cc _ _).cc _ _)<|aaR (Y:=Y.holds M c) (e:=(cF a b)[t]) D.holds eL ((ai 0xc460d78b13a086378709881e14) Q Z) λw5 hs'=>?_;show bl ((cF a b)[t].i+(cF a b)[t].m,(cF a b)[t].j+(cF a b)[t].m) ?_ ?_ hs';.exists take_snoc W,YU;rfl
   .exists take_snoc W;rw[aaU _ _ _ _ _ e1]
  .rintro u V⟨E,e1,G,m⟩;have:((cF a b).map bc).length=(cF a b).length:=Z6 ..;replace G:=YQ▸this▸G;show b7 _ _ ((Cv.sub m).trans<|Cv.perm G) ?_;first|show hR _ _ (hk d _)|show hN _ _<|hk d _
def MW{k:Int}(e:s.heap.get? l=Z7 (cO a n))(o:0<=k)(d:k<2^63)(r:k<a.size)(p:∀g f,g.get? l=Z7 (cO (a.setIfInBounds k.toNat v) f)->YG l s.heap g->Q () {s with heap:=g}):ZE (model c w) A (Pa (.ref l) (.int k t) v) Q E s:=by
 ext a n v l Q c w A t E s k;have h:s.TypeIs (.ref l) "list":=ae _ e rfl;unfold Pa;try with_reducible show Zy ?_
 first|show Z8 (Z5 ?_)|skip
 show Z8<|TK h (by decide) ?_;show Z8<|Yp (name:=Z9 "__setitem__") h U5<|YC U5 h Q7 ?_<|QK _ _ _;show(?_:ZE _ _ (Uk (.int k t)>>=_) _ _ s);show Z8<|S5 (fitsIndex_of o d) ?_;clear d;show aS (Vq o) λj i=>?_;ext j;subst i;have u:j<a.size:=(af 0x3820e4410) r;have m:a[j]?=Z7 a[j]:=X1 u;show Z8<|Z8<|wpAny_seqItemAt e rfl<|Z5 ?_;exists m;have b:∃f,(s.heap.update l<|XS (·.setIfInBounds j v)).get? l=Z7 (cO (a.setIfInBounds j v) f):=⟨_,YA _ e rfl⟩;show aS b ?_;clear b;intro f b;show Z8 (Q6 e rfl ?_);first|show Z8<|Z5<|Z5<|ae (.none) rfl<|Z5<|p _ _ b<|YN ..;|show Z5 ⟨.none,rfl,Z5<|p _ _ b<|YN ..⟩
def MV(e:s.heap.get? l=Z7 (cO a n))(g:0<a.size)(m:∀h f,h.get? l=Z7 (cO (a.setIfInBounds (a.size-1) v) f)->YG l s.heap h->Q () {s with heap:=h}):ZE (model c w) A (Pa (.ref l) (.int (-1) t) v) Q E s:=by
 ext a n v l Q c w A t E s;have j:s.TypeIs (.ref l) "list":=ae _ e rfl;unfold Pa;try with_reducible show Zy ?_
 first|show Z8 (Z5 ?_)|skip
 show Z8<|TK j (by decide) ?_;show Z8 (Yp (name:=Z9 "__setitem__") j U5<|YC U5 j Q7 ?_<|QK _ _ _);change ZE _ _ (Uk (.int (-1) t)>>=_) _ _ s;show Z8<|S5 (fitsIndex_neg (by decide)<|by decide) ?_;have d:seqIndex? (-1) a.size=Z7 (a.size-1):=by exists(seqIndex_neg (by decide)<|<-(ak 0x3210bf7713ee10) g);congr 1;show(af 0x183b10dc4fb0b710dc4fb05e30682f16ec17c43713f5213c221) (@YZ (-1+(↑a.size:Int)))<|@XE (-1+(↑a.size:Int))
 have k:a[a.size-1]?=Z7 (a[a.size-1]'(nG g)):=X1<|nG g;show(?_:ZE _ _ ((Sz (.ref l)>>=λo=>pure<|(seqIndex? (Int.negSucc 0) o.size).bind λi=>o[i]?.map (i,·))>>=_) _ _ s);show Z8<|Z8 ?_;show(?_:ZE _ _ (seqItems? (.ref l)>>=_) _ _ s);show Z8<|W5 e rfl<|Z5<|Z5 ?_;exists(show Int.negSucc 0=-1 from rfl),d;simp only[Option.bind_some,k,P8];have b:∃f,(s.heap.update l<|XS (·.setIfInBounds (a.size-1) v)).get? l=Z7 (cO (a.setIfInBounds (a.size-1) v) f):=⟨_,YA _ e rfl⟩;show aS b ?_;clear b;intro f b;show Z8 (Q6 e rfl ?_);first|show Z8<|Z5<|Z5<|ae (.none) rfl<|Z5<|m _ _ b<|YN ..;|show Z5 ⟨.none,rfl,Z5<|m _ _ b<|YN ..⟩
def aD.set(r:aB D h v a):∀{j:Nat},aD D h c l->aD D h (c.set j v) (l.set j a):=by induction l generalizing c with|nil=>intro j h;exists h.iN;show .nil;|cons b l d=>intro j h;obtain⟨x,q⟩:=h.iC;cases j with|zero=>show .cons r q;|succ j=>show .cons x<|d q
inductive E7(b c:AV)(O:ag)(P:Zw->List AV->Nat->Prop):Prop|mk(d:Zw)(l:List AV)(j:Nat)(e1:b=.ref d)(e2:(c=.int 0/\j=0)\/(c=.int (-1)/\j=l.length-1))(hm:(d,az.list l)∈O)(hz:l≠[])(h:P d l j)
def cK.AZ{S:Loc->ag->Prop}(h:Ev X H O V λb t=>Ev X H t M λc f=>E7 b c f λd l j=>S H (aK f d (.list (l.set j a)))):cK X H O (.Subscript V M px) a S:=by
 intro E s v F r;revert h F r;injections X H O V M a px S E s v;intro h F r;rw[assign_Subscript];show Z8<|Zy<|wm (h _ s F) λov y z=>?_;show ba z ?_;clear z;intro b t A k C u;show Z8<|Zy<|wm (u _ y A) λiv g z=>?_;revert A k C u z;ext ov y b t iv g;obtain⟨c,f,p,m,w,d,l,j,e1,e2,U,hz,hk⟩:=z;revert p m w e1 e2 U hz hk;ext c f d l j;clear u;cases e1;have rv:=(r.move k).move m;cases C.iR;show gN (p.cO U) λvs n ho rl=>?_;have D:0<l.length:=VP.mpr hz;have N:∀x I i,i=j->x.get? d=Z7 (cO (vs.setIfInBounds i v) I)->YG d g.heap x->∃Q W,Fr X Q W {g with heap:=x}/\am (aa X O) s.heap (aa X W) x/\S Q W:=λx I i M R J=>by
  subst M;have Y:aD (aa X f) g.heap (vs.setIfInBounds i v).toList (l.set i a):=by exists Array.toList_setIfInBounds;show rl.set rv
  show bX H _ (p.update (ao:=.list<|l.set i a) (tk:=g.toks) U J R<|b7 _ _ rfl Y) ((k.trans m).trans<|p.er U λb o hb e=>(J.2 b hb).trans e) hk
 have G:=rl.size;rcases e2 with⟨rfl,Z⟩|⟨rfl,Z⟩;.cases w.iI;show Z8<|YO<|Z8<|Zy<|MW ho (by decide) (by decide) ((af 0x64417e841e042f1) D G) λx I R J=>Tw<|N x I 0 Z.symm R J
 .cases w.iI;show Z8<|YO<|Z8<|Zy<|MV ho ((af 0x64417e841c842f1) D G) λx I R J=>Tw<|N x I _ ((ai 0x6862d484f18741909e24) G Z) R J
def Ix.last{X:Fx}{m:Loc}{O:ag}{k:AV->ag->Prop}{c b:X7}{a x:AV}{l:List AV}(o:sD b)(p:LV O a l)(d:l.getLast?=Z7 x)(h:k x O):Ix X m O c b a (.int (-1)) k:=λE s u v F t w=>by
 obtain⟨y,g,n,z,i⟩:=F.rd t p;cases w.iI;replace d:=TQ▸d;show aq (i.get d) λv A r=>?_;have j:s.heap.IsList y g:=bf _ z rfl n rfl;have e:=i.size;have f:0<l.length:=by
  show ZI (Vy l.length) (λq=>?_) λq=>?_;.replace d:=(V3<|<-(ak 0x3417871213c210) q)▸d;cases d
  .show q
 show QS j.typeIs Vd.lookup (wpAny_getItem_list_neg j (by decide) (<-(af 0x1a107220bf7713ee11) e f) (by decide) (by exists(show((-1:Int)+g.size).toNat=l.length-1 by show(ai 0x6822183b115c4fb0f7115c4fb05e30682f1eec17c45713f5213c234) e (@YZ (-1+(↑g.size:Int)))<|@XE (-1+(↑g.size:Int)));simpa using A)<|.done F (.refl _) r h)<|wJ o
@[reducible]abbrev SG(A:YM)(c:Sc)(t:PA UT)(a:List Rm)(s:ZL)(w:Yg)(P:End->ZL->Prop):Prop:=X.SegX (model pw w) A c t a s P
structure bq(X X':Fx):Prop where
 w:X'.w=X.w
 A:X'.A=X.A
 env:X'.env=X.env
 held:X'.held=X.held
 wr:X.wr->X'.wr
 os:X'.os=X.os
def bq.refl(X):bq X X:=⟨rfl,rfl,rfl,rfl,id,rfl⟩
def bq.trans(h:bq X Y)(q:bq Y Z):bq X Z:=⟨q.w.trans h.w,q.A.trans h.A,q.env.trans h.env,q.held.trans h.held,λz=>q.wr<|h.wr z,q.os.trans h.os⟩
abbrev cb(b:Array YD->Prop)(X:Fx):Prop:=∃a,(X.G=λg=>g=a)/\b a
structure Core(X Y:Fx):Prop where
 w:Y.w=X.w
 A:Y.A=X.A
 env:Y.env=X.env
 h₀:Y.h₀=X.h₀
 D₀:Y.D₀=X.D₀
 a7:Y.a7=X.a7
 os:Y.os=X.os
def Core.refl(X):Core X X:=⟨rfl,rfl,rfl,rfl,rfl,rfl,rfl⟩
def Core.trans(h:Core X Y)(q:Core Y Z):Core X Z:=⟨q.w.trans h.w,q.A.trans h.A,q.env.trans h.env,q.h₀.trans h.h₀,q.D₀.trans h.D₀,q.a7.trans h.a7,q.os.trans h.os⟩
abbrev e9(A:YM)(h:Array YD->Prop):List AV->Fx->End->ZL->Prop
 |[],X,.ret r,e=>r=.ok (.ret .none)/\∃Y a b,Core X Y/\cb h Y/\Fr Y a b e|y::i,X,.susp v g l k c p j,e=>∃Y a b,Core X Y/\cb h Y/\Fr Y a b e/\aB (aa Y b) e.heap v y/\∀f d,bq Y f->f.G=Y.G->Fr f a b d->am (aa Y b) e.heap (aa f b) d.heap->SG A c (k (.send .none)) j d X.w (e9 A h i f)|_,_,_,_=>False
def e9.core(q:Core X Z):∀{a:List AV}{e:End}{s:ZL},e9 A b a Z e s->e9 A b a X e s:=by revert q;injections X Z A b;intro q;show(λ{a e s}h=>by cases a with
 |nil=>cases e with|ret _=>show pc h ?_;clear h;intro h Y d O c r;show⟨h,Y,d,O,q.trans c,r⟩;|_=>show h.elim
 |cons _ _=>cases e with|susp=>obtain⟨Y,d,O,c,f,g,i,j⟩:=h;show rP Y d O (q.trans c) f g i (by exists ZJ q.w;show j);|_=>show h.elim)
structure Pl(A XA:YM)(c:Sc)(fs:List Rm)(gd:Bool->Bool):Prop where
 over:A.over c fs=XA
 gen:splitAtGen fs=none
 guard:fs.any Frame.guarded=false
 gd:gd false=false
structure GK where
 nx:Fx->Loc->ag->List AV->Prop
 rt:Fx->AV->ag->List AV->Prop
 bk:Fx->Loc->ag->List AV->Prop
 ct:Fx->Loc->ag->List AV->Prop
def nGK:Nonempty GK:=⟨⟨λa b c d=>True,λa b c d=>True,λa b c d=>True,λa b c d=>True⟩⟩
abbrev GK.at(K:GK)(d:Flow)(X:Fx)(c:Loc)(O:ag)(b:List AV)(s:ZL):Prop:=match d with
 |.next=>K.nx X c O b|.brk=>K.bk X c O b|.cont=>K.ct X c O b|.ret v=>∃a,aB (aa X O) s.heap v a/\K.rt X a O b
abbrev GM(A:YM)(h:Array YD->Prop)(X:Fx)(k:Loc)(O:ag)(m:PA Flow)(l:List AV)(K:GK):Prop:=∀c f i H j n s,Pl A X.A c f j->Fr X k O s->(∀a b g d fl e,bq X a->Fr a b g e->am (aa X O) s.heap (aa a g) e.heap->K.at fl a b g d e->SG A c (i fl) f e X.w (e9 A h d a))->SG A c (m.wrap i H j n) f s X.w (e9 A h l X)
@[reducible]abbrev aO(A:YM)(a:Array YD->Prop)(X:Fx)(c:Loc)(O:ag)(b:List YR)(d:List AV)(K:GK):Prop:=GM A a X c O (execs b X.env) d K
@[reducible]abbrev bU(A:YM)(a:Array YD->Prop)(X:Fx)(c:Loc)(O:ag)(b:YR)(d:List AV)(K:GK):Prop:=GM A a X c O (exec b X.env) d K
def kE{m:PA k}{Kf:k->PA UT}(h:ZE (model pw w) (A.over c f) m (λa b=>SG A c (Kf a) f b w P) (λx b=>SG A c (H x) f b w P) s):SG A c (m.wrap Kf H gd lv) f s w P:=by rintro g p rfl d;show ec (runs_wrap_of_wp (Φ:=λe b=>e.quiet=ZW/\P e b) Kf H gd lv m (h (g.over f) p<|d.over f) (λa i b j=>j g i rfl d) λx i b j=>j g i rfl d) λe b l n=>?_;show b7 e b l n
def dA{m:PA e}{f:e->PA g}{j:g->PA UT}(n:A.over c b=i)(h:ZE (model pw w) i m (λa d=>SG A c ((f a).wrap j H k l) b d w P) (λx d=>SG A c (H x) b d w P) s):SG A c ((m>>=f).wrap j H k l) b s w P:=by rw[WZ,Wy];show kE ?_;exists n;show h
def aO.nil{K:GK}(h:K.nx X a O b):aO A d X a O [] b K:=λc e f H g i s j F k=>k X a O b .next s (.refl X) F (.refl _ _) h
def aO.cons{A:YM}{p:Array YD->Prop}{X:Fx}{z:Loc}{O:ag}{C:List AV}{K:GK}{D:YR}{rest:List YR}(h:bU A p X z O D C ⟨λf a g b=>aO A p f a g rest b K,K.rt,K.bk,K.ct⟩):aO A p X z O (D::rest) C K:=λc E M H G I s J F k=>by rw[execs_cons_wrap];show h c E _ H G I s J F λf a g b fl m e n d o=>?_;cases fl with
 |next=>
  have Q:=o c E M H G I m (by exists e.A;show J) n λr i t j fl u w x l y=>?_;.replace Q:=e.w▸e.env▸Q;show Q
  .exists e.w;show k r i t j fl u (e.trans w) x (d.trans l) (by cases fl<;>show y);|ret v=>show k f a g b _ m e n d o;|brk=>show k f a g b _ m e n d o;|cont=>show k f a g b _ m e n d o
def bU.plain{K:GK}(h:Es X f O g ⟨λb d=>K.nx X b d e,λa d=>K.rt X a d e,λb d=>K.bk X b d e,λb d=>K.ct X b d e⟩):bU A l X f O g e K:=by ext X f O g e A l K;show(λc r t H u v s m F k=>by show kE ?_;exists m.over;show wm (h _ s F) λfl n i=>iy i λb d o j p=>?_;show k X b d e fl n (.refl X) o j (by cases fl<;>show p))
def GM.at{K:GK}(h:GM A b X d O m e K):GM A b X d O (do W1 a;m) e K:=λc f g H i j s l F k=>by show(?_:SG A c (((W1 a).bind λn=>m).wrap g H i j) f s X.w _);rw[Sem.bind_eq_wrap,Wy];show kE<|YO ?_;show h c f g H i j s l F k
def bU.ite{K:GK}(h:Ts X l O t λc d=>(c=ZW->aO A p X l d b r K)/\(c=ZX->aO A p X l d o r K)):bU A p X l O (.If t b o m) r K:=by ext X l O t A p b r o m K;unfold bU;rw[arm_exec_If];show GM.at λc z C H D E s v F k=>?_;rw[WZ,Wy];show kE ?_;exists v.over;show wm (h _ s F) λM G w=>fL w λu I n J=>?_;cases M with|true=>show J.1 rfl c z C H D E G v I λx e u f fl g y i a j=>k x e u f fl g y i (n.trans a) j;|false=>show J.2 rfl c z C H D E G v I λx e u f fl g y i a j=>k x e u f fl g y i (n.trans a) j
def bU.yield{K:GK}(M:cb o X)(t:X.env.scope.isCoroutine=ZX)(h:Ev X f O e λa l=>a=y/\∀g,bq X g->g.G=X.G->K.nx g f l j):bU A o X f O (.Expr (.Yield (Z7 e) b) d) (y::j) K:=by ext o X f O e y j A b d K;show(λc u N H G Q s n F k=>by
 exists exec_Expr X.env _ d X.inter rfl;show(?_:SG A c (.at d λw=>((eval e X.env>>=λv=>(W1 b>>=λw=>yieldOut X.env v))>>=λx=>dropValue (.Yield (Z7 e) b) d x).wrap N H G Q) u s X.w _);have R:∀v,yieldOut X.env v=yieldValue v:=λv=>by simp only[yieldOut,t,YF,if_false]
 simp only[R];show kE (m:=W1 d) (Kf:=λw=>_) (H:=.raise) (gd:=id) (lv:=id)<|YO ?_;rw[WZ,WZ,Wy,Wy];show kE ?_;exists n.over;show wm (h _ s F) λv I z=>ba z λa l S C r z=>aE z λU V=>?_;exists ZJ U;show kE (m:=W1 b) (Kf:=λw=>_) (H:=.raise) (gd:=id) (lv:=id)<|YO ?_;show(?_:SG A c (.yield v (G ZX) _ _) u I X.w _);exists n.gd;show PySem.W.X.s_yield pw X.w A c u _ I v _ _ n.gen n.guard λp=>rP X f l (.refl X) M S r λg D J W E i=>?_;show k g f l j .next D J E (C.trans i)<|V _ J W)
def aO.run{A:YM}{m:Array YD->Prop}{X:Fx}{g:List AV}{K:GK}{i j k}(n:Ok X i j)(d:X.env=k){b2 b1:List YR}:∀{l:Loc}{O:ag},gP (ff X i j k 20) b1 l O ⟨λc e=>aO A m X c e b2 g K,λa e=>K.rt X a e g,λc e=>K.bk X c e g,λc e=>K.ct X c e g⟩->aO A m X l O (b1++b2) g K:=by revert n d;injections A m X g K i j k b2 b1;intro n d;induction b1 with|nil=>showλh=>h;|cons b b1 o=>showλ{l O}h=>.cons<|.plain<|(iD n d 20 _ _ _ _<|show(ff X i j k 20 l O b _).p from h).mono (λf f z=>o z) (λf f z=>z) (λf f z=>z) λf f z=>z
def GM.cv{K:GK}(l:Cv X i O a b)(h:GM A g X a b m j K):GM A g X i O m j K:=λc n o H p r s t F k=>by show aE (l s F) λu v=>?_;show h c n o H p r s t u λw a b d fl x y e f z=>k w a b d fl x y e (v.trans f) z
abbrev GK.cv(K:GK):GK:=⟨λX c O d=>∃a b,Cv X c O a b/\K.nx X a b d,K.rt,λX c O d=>∃a b,Cv X c O a b/\K.bk X a b d,λX c O d=>∃a b,Cv X c O a b/\K.ct X a b d⟩
def GM.post{K:GK}(h:GM A t X u O m w K.cv):GM A t X u O m w K:=λc x y H z C s D F k=>h c x y H z C s D F λl r E g fl i n o p f=>by cases fl with|next=>show ec f ?_;clear f;intro a d j f;show aE (j i o) λe b=>?_;show k l a d g .next i n e (p.trans b) f;|brk=>show ec f ?_;clear f;intro a d j f;show aE (j i o) λe b=>?_;show k l a d g .brk i n e (p.trans b) f;|cont=>show ec f ?_;clear f;intro a d j f;show aE (j i o) λe b=>?_;show k l a d g .cont i n e (p.trans b) f;|ret v=>show k l r E g (.ret v) i n o p f
def abu(a b)(x):pushEnvs (a++b) x=pushEnvs a (pushEnvs b x):=by rw[Qh,Qh,Qh];cases x<;>simp
def abv(a b)(x):PH (a++b) x=PH a (PH b x):=by rw[Rj,Rj,Rj];cases x<;>simp
def aa2{A:YM}{d:List ZN}(e:b.weight=0)(f:b.envs=[])(h:b.guards=[])(i:b.cUnits=0):A.over b (.ret k Z4 g l c p d::a)=A.over c a:=by
 unfold Around.over;have j:(Frame.ret k Z4 g l c p d::a).map O9=(c,p)::a.map O9:=rfl;have m:(marksOver (Frame.ret k Z4 g l c p d::a) (A.handled,A.handled)).1=(marksOver a (A.handled,A.handled)).1:=rfl;rw[j,m,e,f,h,i,frameCount_cons,envsOf_cons,guardsOf_cons,unitsOf_cons,abu,abv];congr 1;·show ai 0x35114461885f188c415
 ·show ai 0x35114461885f188c415
def Pl.push{A:YM}{d:YM}{c c':Sc}{k:Uu->PA UT}{l:List ZN}{p:Vk}{kp:List ZN}{b:List Rm}{e:Bool->Bool}(a:Pl A d c b e)(f:c'.weight=0)(g:c'.envs=[])(h:c'.guards=[])(i:c'.cUnits=0):Pl A d c' (.ret k Z4 (e ZX) l c p kp::b) id where
 over:=(aa2 f g h i).trans a.over;gen:=by show(?_:(splitAtGen b).map _=Z4);exists a.gen;rfl
 guard:=by rw[YB,a.guard,Pr];show a.gd
 gd:=rfl
def jt{c:cW b (hs.map (·.1))}(l:bq (b.holds hs c) f):∃g M,f=g.holds hs M/\bq b g:=by ext b hs f;have D:f.held=hs++b.held:=l.held;have E:f.w=b.w:=l.w;have F:f.A=b.A:=l.A;have H:f.env=b.env:=l.env;have x:b.wr->f.wr:=l.wr;have I:f.os=b.os:=l.os;obtain⟨w,A,env,m,n,o,J,G,Q,N,p,O,y,h,d,i,r,j,z,k,C,s,t,u⟩:=f;dsimp only at D E F H I;subst D E F H I;show⟨⟨_,_,_,m,n,o,b.held,G,_,N,p,O,y,h,d,i,r,j,z,k,C,λq e=>s q<|Zq _ e,λq e=>t q<|Zq _ e,λq e=>u q<|Zq _ e⟩,⟨λa v=>by show cu v λq e=>?_;show s q<|Zk _ e,λa v=>by show cu v λq e=>?_;show t q<|Zk _ e,λa v=>by show cu v λq e=>?_;show u q<|Zk _ e,c.nh,c.nb,c.nd⟩,rfl,⟨rfl,rfl,rfl,rfl,x,rfl⟩⟩
def uA{e:List ZN}(f)(h:SG A a (k (.ok f)) d s w P):SG A c (.pure (.done f)) (.ret k Z4 g l a b e::d) s w P:=PySem.W.X.s_pop pw w A c d P s (.ok f) _ rfl k Z4 g l a b e h
def zL{f:List ZN}{d:Ri}(h:SG A a (k (.ok .next)) e s w P):SG A c (.pure (.again (.block [] d))) (.ret k Z4 g l a b f::e) s w P:=by show TG pw w A c _ P s (.block [] d) rfl ?_;show uA .next h
def JU{A:YM}{Γ:Array YD->Prop}{X:Fx}{K:GK}{V:X7}{g:List YR}{it:ZN}{l:List AV}{M:List Zw}{N:Xq}{IS:Nat->List (Zw×Ze)->Prop}{c:Sc}{fs:List Rm}{k:Uu->PA UT}{gd:Bool->Bool}{lv:List ZN}{p:Vk}(pl:Pl A X.A c fs gd)(Inv:Nat->Fx->Loc->ag->List AV->Prop)(W:∀n,bq X n->kj n M N V it l (λu'=>True) IS)(step:∀i av n o y t Y cc,bq X n->l[i]?=Z7 av->Inv i n o y t->Tg (n.holds Y cc) o y V av λw5=>aO A Γ (n.holds Y cc) w5 y g t ⟨λZ C D u=>∀b j,Z=Fx.holds b Y j->Inv (i+1) b C D u,λZ a D u=>∀b j,Z=Fx.holds b Y j->K.rt b a D u,λZ C D u=>∀b j,Z=Fx.holds b Y j->K.nx b C D u,λZ C D u=>∀b j,Z=Fx.holds b Y j->Inv (i+1) b C D u⟩)(fin:∀n o y t,Inv l.length n o y t->K.nx n o y t)(R:∀n o y t fl s',bq X n->Fr n o y s'->am M N (aa n y) s'.heap->K.at fl n o y t s'->SG A c (k (.ok fl)) fs s' X.w (e9 A Γ t n)):∀(m i:Nat)n o y t Y s,l.length-i=m->i<=l.length->bq X n->Fr n o (aJ Y++y) s->IS i Y->am M N (aa n (aJ Y++y)) s.heap->Inv i n o y t->SG A (.forLoop V it g [] X.env) (denote table (.forLoop V it g [] X.env)) (.ret k Z4 (gd ZX) lv c p []::fs) s X.w (e9 A Γ t n):=by revert k pl W step fin R;revert A Γ X K V g it l M N IS c fs gd lv p Inv;injections A Γ X K V g it l;injections M N IS c fs gd lv p Inv;intro k pl W step fin R;intro m;induction m with
 |zero=>intro i n o y t Y s hm hi U F st sb kO;have KL:i=l.length:=(af 0xd05f208b020e8410) hm hi;subst KL;have g0:=pl.push (c':=.forLoop V it g [] X.env) (k:=k) (l:=lv) (p:=p) (kp:=[]) rfl rfl rfl rfl;show(?_:SG A _ ((O8 V it g [] X.env).onRaise (λx=>do RC x X.env;UB x)) _ s X.w _);rw[Wu];show dA rfl<|YO ?_;show dA g0.over ?_;show Tp ?_;have d:=(W n U).done Y o y s (λr S=>r=Z4/\Fr n o y S/\am (aa n<|aJ Y++y) s.heap (aa n y) S.heap) (λu' u'=>False) st trivial F sb λs' F' jo=>br rfl F' jo;rw[U.w,U.A]at d;show XT d (λr S wU=>dt wU λe lB oK=>?_) λu' u' z=>z.elim;subst e;show zL<|R n o y t .next S U lB (sb.trans oK)<|fin _ _ _ _ kO;|succ m ih=>
  intro i n o y t Y s hm hi U F st sb kO;have dU:i<l.length:=(ai 0x6a2278a411e4612) hm;have g0:=pl.push (c':=.forLoop V it g [] X.env) (k:=k) (l:=lv) (p:=p) (kp:=[]) rfl rfl rfl rfl;show(?_:SG A _ ((O8 V it g [] X.env).onRaise (λx=>do RC x X.env;UB x)) _ s X.w _);rw[Wu];show dA rfl<|YO ?_;show dA g0.over ?_;show Tp ?_;have d:=λQ E hQ=>(W n U).item i (l[i]'dU) Y o y s Q E (Z2 dU) st trivial F sb hQ;rw[U.w,U.A]at d;show d _ _ λv S go=>?_;show dA g0.over ?_;show go _ _ λf mq qg ig sT rv=>?_;show dA g0.over ?_;have cc:=ig.rJ;have ta:=step i (l[i]'dU) n o y t f cc U (Z2 dU) kO (λu' u'=>False) mq v (ig.toHolds cc)<|rv.move kK;rw[show(n.holds f cc).w=X.w from U.w,show(n.holds f cc).A=X.A from U.A,show(n.holds f cc).env=X.env from U.env]at ta;show XT ta (λu' gA jZ=>bV jZ λqq oW wH pB=>?_) λu' u' x=>x.elim;rw[WZ,Wy];have vW:Pl A (n.holds f cc).A (.forLoop V it g [] X.env) (.ret k Z4 (gd ZX) lv c p []::fs) id:=by exists(show(n.holds f cc).A=X.A from U.A);show g0
  have core:Core n (n.holds f cc):=⟨rfl,rfl,rfl,rfl,rfl,rfl,rfl⟩;have nr:=pB (.forLoop V it g [] X.env) (.ret k Z4 (gd ZX) lv c p []::fs);rw[show(n.holds f cc).env=X.env from U.env,show(n.holds f cc).w=X.w from U.w]at nr;show Yn (nr _ _ _ _ gA vW oW λZ G w H fl I sX j8 oL hk=>?_) λe s h=>h.core core;obtain⟨b,j,rfl,acu⟩:=jt sX;have O:Fr b G (aJ f++w) I:=j8.mf;have p8:=U.trans acu;have sa:am M N (aa b<|aJ f++w) I.heap:=((((sb.trans sT).trans kK).trans wH).trans oL).trans mo;have J:Core (b.holds f j) b:=⟨rfl,rfl,rfl,rfl,rfl,rfl,rfl⟩;have sub:w.Sublist (aJ f++w):=VU _ _;have again:Inv (i+1) b G w H->SG A (.forLoop V it g [] X.env) (.pure<|.again<|.forLoop V it g [] X.env) (.ret k Z4 (gd ZX) lv c p []::fs) I X.w (e9 A Γ H<|b.holds f j):=λLA=>TG pw X.w A _ _ _ I (.forLoop V it g [] X.env) rfl (Yn (ih (i+1) b G w H f I ((ai 0xd444f14861d0a5113c612) hm) ((af 0x1910702889e10) dU) p8 O qg sa LA) λe s h=>h.core J);cases fl with|next=>show again<|hk b j rfl;|cont=>show again<|hk b j rfl;|brk=>show uA .next<|Yn (R b G w H .next I p8 (O.drop sub) (sa.trans<|O.f9 sub)<|hk b j rfl) λe s h=>h.core J;|ret v=>show aq hk ?_;clear hk;intro a r q;show uA (.ret v)<|Yn (R b G w H (.ret v) I p8 (O.drop sub) (sa.trans<|O.f9 sub)<|ae a (r.move<|mo.trans<|O.f9 sub)<|q b j rfl) λe s h=>h.core J
def acU(A:g∉a)(C:c.get? g=Z7 ⟨.type "list",Z4,.seq j n,#[]⟩)(F:aD a c j.toList l):kj X a c G (.ref z) l (λS=>True) (λi H=>∃o,H=[(z,o)]/\o.cls=.type "list_iterator"/\o.data=.fields #[.ref g,.int i 0]):=by
 show qi (λi o=>o.cls=.type "list_iterator"/\o.data=.fields #[.ref g,.int i 0]) (λi o h=>bX _ _ h.1 h.2<|by decide) (λi U o D s Q E m p d k r=>?_) λo D s Q E p d k r=>?_;.show aq (F.get m) λv I J=>?_;have t:s.heap.IsList g j:=bf _ ((k _ _ A C).2) rfl n rfl;show SD (bl o p d.1 d.2) t (x:=v) (by simpa using I) λu f w=>?_;show bV f ?_;clear f;intro M N O R;show r v u s.toks M (J.move k) N ⟨O,R⟩ λb o d e=>w.extBut b o d e
 .have t:s.heap.IsList g j:=bf _ ((k _ _ A C).2) rfl n rfl;show Si X.hh (bl o p d.1 d.2) t (by have Y:=F.size;simp[Y]) λu y=>r u s.toks λb o d e=>y b o d e
abbrev EZ(A:YM)(s:Array YD->Prop)(X:Fx)(t:X7)(h:List YR)(K:GK)(l:List AV)(Inv:Nat->Fx->Loc->ag->List AV->Prop):Prop:=∀i p n j o k g r,bq X n->l[i]?=Z7 p->Inv i n j o k->Tg (n.holds g r) j o t p λm=>aO A s (n.holds g r) m o h k ⟨λZ d e c=>∀b f,Z=Fx.holds b g f->Inv (i+1) b d e c,λZ a e c=>∀b f,Z=Fx.holds b g f->K.rt b a e c,λZ d e c=>∀b f,Z=Fx.holds b g f->K.nx b d e c,λZ d e c=>∀b f,Z=Fx.holds b g f->Inv (i+1) b d e c⟩
inductive EW(A:YM)(Γ:Array YD->Prop)(X:Fx)(ρ:Loc)(tg:X7)(body:List YR)(ys:List AV)(K:GK)(a:AV)(dy:ag):Prop|mk(l:List AV)(e:a=.lst l)(Inv:Nat->Fx->Loc->ag->List AV->Prop)(h0:Inv 0 X ρ dy ys)(step:EZ A Γ X tg body K l Inv)(fin:∀X' ρ' O' ju,Inv l.length X' ρ' O' ju->K.nx X' ρ' O' ju)
def tz{K:GK}{g:List YR}(S:∀x,Yb f X.env x=pure x)(h:Ev X m O f (EW A y X m D g C K)):bU A y X m O (.For D f g [] r) C K:=by ext f X m O A y D C r K g;unfold bU;rw[arm_exec_For];show GM.at λc U Kf H V W s E F k=>?_;show dA E.over ?_;show wm (h _ s F) λx b z=>?_;obtain⟨a,t,u,j,v,l,e,Inv,Y,step,G⟩:=z;cases e;rw[S];show dA rfl<|Z5 ?_;show dA rfl<|YO ?_;show dA rfl<|Zy ?_;exists E.over;cases v.iL with|@mk ad vs n hd N Z=>
 show Vc (bf _ N rfl n rfl) ?_;show aE (u.pA (h':=b.heap) (o:=dB ad 0) (tk:=b.toks) rfl) λw d=>?_;have Q:=d _ _ hd N;show Qr pw X.w A c U _ _ (.forLoop D (.ref b.heap.objs.size) g [] X.env) Z4 (V ZX) (W []) _ λp=>?_;show JU (A:=A) (Γ:=y) (X:=X) (K:=K) (IS:=λi hs=>∃o,hs=[(b.heap.objs.size,o)]/\o.cls=.type "list_iterator"/\o.data=.fields #[.ref ad,.int i 0]) E Inv (λR u'=>acU Q.1 Q.2<|Z.move d) step G (λR I O' J fl s' sm F' M hk=>k R I O' J fl s' sm F' ((j.trans d).trans M) hk) l.length 0 X m t C [(b.heap.objs.size,dB ad 0)] _ rfl (ZZ _) (.refl X) w (bl _ rfl rfl rfl) (.refl _ _) Y
abbrev dd:List Zw->List Zw
 |[]=>[]|a::l=>if a∈dd l then dd l else a::dd l
def Nt:∀{l:List Zw},a∈dd l↔a∈l:=by intro d;induction d with|nil=>show Iff.rfl;|cons b l c=>
  have c:=c;change a∈(ite _ _ _:List Zw)↔_;split
  .rename_i h;rw[c,Z1];show⟨.inr,?_⟩;rintro(rfl|q);.show c.mp h
   .show q
  .rw[Z1,Z1,c]
def Bx:∀l:List Zw,(dd l).Nodup:=by intro c;induction c with|nil=>show XY;|cons b l a=>
  change(ite _ _ _:List Zw).Nodup;split;.show a
  .rename_i h;show ZC.mpr ⟨h,a⟩
abbrev ft(X:Fx)(O:ag):List Zw:=dd<|O.map (·.1)++(X.held.map (·.1)++X.env.locals::X.env.cells.map (·.2))
def mc:a∈ft X O↔a∈O.map (·.1)\/a=X.env.locals\/(∃n,(n,a)∈X.env.cells)\/∃o,(a,o)∈X.held:=by
 ext X O a;unfold ft;rw[Nt,ZS,ZS,Z1,Z0,Z0,Z0];constructor
 .rintro(h|⟨q,b,rfl⟩|h|⟨q,b,rfl⟩);.show .inl h
  .show .inr<|.inr<|.inr ⟨q.2,b⟩
  .show .inr<|.inl h
  .show .inr<|.inr<|.inl ⟨q.1,b⟩
 .rintro(h|h|⟨n,h⟩|⟨o,h⟩);.show .inl h
  .show .inr<|.inr<|.inl h
  .show .inr<|.inr<|.inr<|ae _ h rfl
  .show .inr<|.inl<|ae _ h rfl
def mY:a∈aa X O↔a∈ft X O\/a∈X.D₀:=by
 ext X O a;rw[aL,mc];constructor
 .rintro(h|h|h|h|h);.show .inl<|.inl h
  .show .inl<|.inr<|.inl h
  .show .inl<|.inr<|.inr<|.inl h
  .show .inr h
  .show .inl<|.inr<|.inr<|.inr h
 .rintro((h|h|h|h)|h);.show .inl h
  .show .inr<|.inl h
  .show .inr<|.inr<|.inl h
  .show .inr<|.inr<|.inr<|.inr h
  .show .inr<|.inr<|.inr<|.inl h
def am.left(x:am D h c d)(e:∀a,a∈b↔a∈D):am b h c d:=λa o f g=>x a o (λq=>f<|(e a).mpr q) g
def am.right(x:am D h c d)(e:∀a,a∈b↔a∈c):am D h b d:=λa o f g=>⟨λq=>(x a o f g).1<|(e a).mp q,(x a o f g).2⟩
abbrev gZ(X:Fx)(O:ag)(h:Xq):List (Zw×Ze):=(ft X O).map λa=>(a,(h.get? a).getD default)
def jS:(gZ X O h).map (·.1)=ft X O:=by unfold gZ;exists YE;show VZ _
structure mG(w:Yg)(os:XG)(hs:List (Zw×Ze))(mC D:List Zw)(h:Xq)(γ:Array YD)(s:ZL):Prop where
 base:Keeps (ar w.params) s.heap
 own:∀q∈hs,s.heap.get? q.1=some q.2
 ue:∀q∈hs,q.1∉mC
 ex:∀d∈mC,∃o,s.heap.get? d=some o
 st:am D h (hs.map (·.1)++mC) s.heap
 gens:s.gens=γ
 os:s.os=os
structure j9(hs:List (Zw×Ze))(s:ZL)(hs':List (Zw×Ze))(s':ZL):Prop where
 keep:∀b o,b∉hs.map (·.1)->s.heap.get? b=some o->s'.heap.get? b=some o
 own:∀q∈hs',s'.heap.get? q.1=some q.2
 new:∀a∈hs'.map (·.1),a∈hs.map (·.1)\/s.heap.get? a=none
 nd:(hs'.map (·.1)).Nodup
 os:s'.os=s.os
abbrev ii(A:YM)(w:Yg)(a:YD)(s:ZL)(P:End->ZL->Prop):Prop:=match a with
 |.fresh c=>SG A c (denote table c) [] s w P|.suspended k _ c _ b _=>SG A c (k<|.send .none) b s w P|_=>False
abbrev et(A:YM)(i:Array YD->Prop)(w:Yg)(j:XG):List AV->YD->List (Zw×Ze)->List Zw->Xq->Array YD->Prop
 |[],m,f,D,h,n=>∀a s,mG w j f a D h n s->ii A w m s λe d=>match e with
  |.ret r=>r=.ok (.ret .none)/\j9 f s [] d/\i d.gens|_=>False
 |y::o,m,f,D,h,n=>∀a s,mG w j f a D h n s->ii A w m s λe d=>match e with
 |.susp v g l k c p t=>∃b,j9 f s b d/\i d.gens/\aB (b.map (·.1)++a) d.heap v y/\et A i w j o (PG v g l k c p t).genState b (b.map (·.1)++a) d.heap d.gens|_=>False
def Fr.zf(F:Fr X b O s)(h:a∈ft X O):∃o,s.heap.get? a=Z7 o:=F.ex a<|mY.mpr<|.inl h
def Fr.CE(F:Fr X b O s):∀q∈gZ X O s.heap,s.heap.get? q.1=Z7 q.2:=λq c=>by show cu c λa d=>?_;show aS (F.zf d) λo e=>?_;exists e;rfl
def Fr.CF(F:Fr X c O s)(b:X.wr)(h:a∈ft X O):X.h₀.get? a=Z4\/a∈X.a7:=by
 rcases mc.mp h with h|rfl|⟨n,h⟩|⟨o,h⟩;.show cu h λp d=>?_;show(F.own p d).a1
 ·show X.above
 .show b n a h
 .show X.hab _ h
def Fr.aa4(F:Fr X c O s)(b:X.wr)(h:a∈ft X O):(ar X.w.params).get? a=Z4:=by
 show ZI (F.CF b h) (λq=>?_) λq=>?_;.cases e:(ar X.w.params).get? a with|none=>rfl;|some o=>have p:=X.jB _ _ e;replace p:=q▸p;cases p
 .show X.jK a q
def Fr.wake(F:Fr X u O s)(i:X.wr)(pre:mG X.w X.os (gZ X O s.heap) b (aa X O) s.heap s.gens g):∃d,bq X d/\d.G=X.G/\d.h₀=g.heap/\d.a7=ft X O/\d.D₀=b/\Fr d u O g/\am (aa X O) s.heap (aa d O) g.heap:=by
 revert F i pre;injections X u O s b g;intro F i pre;have f:∀a∈ft X O,∀o,s.heap.get? a=Z7 o->g.heap.get? a=Z7 o:=λa k o e=>by have Y:=pre.own (a,(s.heap.get? a).getD default)<|Z0.mpr<|ae a k rfl;replace Y:=e▸Y;show Y
 have z:X.env.locals∈ft X O:=mc.mpr<|.inr<|.inl rfl;have A:∀n c,(n,c)∈X.env.cells->c∈ft X O:=λn c h=>mc.mpr<|.inr<|.inr<|.inl ⟨n,h⟩;have C:∀q∈X.held,q.1∈ft X O:=λq h=>mc.mpr<|.inr<|.inr<|.inr ⟨q.2,h⟩;have D:∀p∈O,p.1∈ft X O:=λp h=>mc.mpr (.inl<|Z0.mpr<|ae p h rfl);let d:Fx:={X with
  h₀:=g.heap
  D₀:=b
  a7:=ft X O
  above:=.inr z
  jB:=pre.base
  jK:=λa k=>F.aa4 i k
  eh:=λa k hd=>pre.ue (a,_) (Z0.mpr<|ae a k rfl) hd
  old:=pre.ex
  hab:=λq t=>.inr (C q t)};have H:∀a,a∈aa d O↔a∈(gZ X O s.heap).map (·.1)++b:=λa=>by rw[jS,ZS];show mY (X:=d)
 have w:am (aa X O) s.heap (aa d O) g.heap:=pre.st.right H;show⟨d,⟨rfl,rfl,rfl,rfl,λE n c h=>.inr<|A n c h,rfl⟩,rfl,rfl,rfl,rfl,?_,w⟩;show eC F.vars λm I G J M=>?_;show⟨λa o E e=>e,?_,pre.os,⟨m,I,?_,λn c h=>?_,λx N e=>?_⟩,λq t=>f _ (C q t) _<|F.held q t,λp y=>?_,F.nd⟩;.exists pre.gens;show F.gens
 .show m3 G ?_;clear G;intro o Q R j l;show kN o Q R (f _ z o j) l
 .show aq (J n c h) λo j l=>?_;show ae o (f _ (A n c h) o j) l
 .show aq (M x N e) λv j r=>?_;show ae v j<|r.move w
 .show cL (F.own p y) λE S U V o j l=>?_;show⟨.inr<|D p y,S,U,V,o,f _ (D p y) o j,l.move w⟩
def ii.mono(g:ii A w a s P)(h:∀e d,P e d->b e d):ii A w a s b:=by cases a with|fresh c=>show Yn g h;|suspended k l c p f i=>show Yn g h;|running=>show g;|finished=>show g
def et.D{D c:List Zw}(e:∀a,a∈c↔a∈D)(g:et A f w i d j k D h l):et A f w i d j k c h l:=by cases d with|nil=>showλb s pre=>g b s ⟨pre.base,pre.own,pre.ue,pre.ex,pre.st.left λa=>(e a).symm,pre.gens,pre.os⟩;|cons y d=>showλb s pre=>g b s ⟨pre.base,pre.own,pre.ue,pre.ex,pre.st.left λa=>(e a).symm,pre.gens,pre.os⟩
def Core.wr(c:Core X Y)(h:X.wr):Y.wr:=λn a q=>by rw[c.env]at q;exists c.h₀,c.a7;show h n a q
def et.of{A:YM}{J:Array YD->Prop}{z:List AV}:∀{X:Fx}{E:Loc}{O:ag}{s:ZL}{gs:YD},Fr X E O s->X.wr->(∀j d,bq X j->j.G=X.G->Fr j E O d->am (aa X O) s.heap (aa j O) d.heap->ii A X.w gs d (e9 A J z j))->et A J X.w X.os z gs (gZ X O s.heap) (aa X O) s.heap s.gens:=by injections A J z;induction z with
 |nil=>intro X E O s gs F m M n d pre;obtain⟨j,t,N,G,H,e3,Q,R⟩:=F.wake m pre;show(M j d t N Q R).mono λe u h=>?_;cases e with|susp v g l k c p fs=>show h.elim;|ret r=>obtain⟨hr,Y,S,I,f,U,i⟩:=h;show aq U λV W w=>?_;have C:Y.G u.gens:=i.gens;rw[W]at C;show br hr ⟨λb o D e=>i.keep b o (by exists f.a7,H;rw[jS]at D;show D) (by exists f.h₀,G;show e),λq hq=>(nM hq),λa x=>(nM x),XY,?_⟩ (by exists(show u.gens=V from C);show w);exists i.os,f.os,t.os;show aW pre.os rfl
 |cons y z ih=>intro X E O s gs F m M n d pre;obtain⟨j,t,N,G,H,e3,Q,R⟩:=F.wake m pre;show(M j d t N Q R).mono λe u h=>?_;cases e with|ret r=>show h.elim;|susp v g l k c p fs=>
   obtain⟨Y,S,I,f,Z,i,r,next⟩:=h;show aq Z λV W w=>?_;have C:Y.G u.gens:=i.gens;rw[W]at C;have wY:Y.wr:=f.wr<|t.wr m;have eD:∀a,a∈(gZ Y I u.heap).map (·.1)++n↔a∈aa Y I:=λa=>by rw[jS,ZS,mY,f.D₀,e3]
   show db (gZ Y I u.heap) ⟨λb o D e=>i.keep b o (by exists f.a7,H;rw[jS]at D;show D) (by exists f.h₀,G;show e),i.CE,λa x=>?_,by exists jS;show Bx _,?_⟩ (by exists(show u.gens=V from C);show w) (r.less λa x=>(eD a).mp x) ?_;.rw[jS]at x⊢;have:=i.CF wY x;rw[f.h₀,G,f.a7,H]at this;show this.symm
   .exists i.os,f.os,t.os;show aW pre.os rfl
   .have g:=ih (gs:=(PG v g l k c p fs).genState) i wY (λFp s3 sm3 H7 F3 lh=>by have:=next Fp s3 sm3 H7 F3 lh;exists f.w;show this);rw[f.w,f.os,t.w,t.os]at g;show g.D eD
def ii.quiet(g:ii A w b s P):ii A w b s λe a=>e.quiet=ZW/\P e a:=by
 have q:∀{c t d},SG A c t d s w P->SG A c t d s w λe a=>e.quiet=ZW/\P e a:=λh j p m f=>by show cR (h j p m f) λe a n i o=>?_;show kM e a n i i o
 cases b with|fresh c=>show q g;|suspended k l c p d r=>show q g;|running=>show g;|finished=>show g
def adE{B:YM}{k:GenResult->PA f}{Q:f->ZL->Prop}(m:s.gens[g]?=Z7 i)(x:ii B w i (s.setGen g .running) λe a=>ZE (model pw w) B (k e.result) Q E (a.setGen g e.genState)):ZE (model pw w) B (.resume g (.send .none) l k) Q E s:=by cases i with|fresh c=>show Q5 f pw w m (.inl<|lW rfl rfl rfl rfl) (λj=>j.In B) (λn h=>h) x;|suspended b d c p r o=>show Q5 f pw w m (.inr ⟨b,d,p,o,rfl,rfl⟩) (λj=>j.In B) (λn h=>h) x;|running=>show x.elim;|finished=>show x.elim
abbrev oX(B:YM)(e:Array YD->Prop)(w:Yg)(h:XG)(f:List (Zw×Ze))(d:List Zw)(s:ZL):List AV->End->ZL->Prop
 |[],.ret r,a=>r=.ok (.ret .none)/\j9 f s [] a/\e a.gens|y::i,.susp v g l k c p j,a=>∃b,j9 f s b a/\e a.gens/\aB (b.map (·.1)++d) a.heap v y/\et B e w h i (PG v g l k c p j).genState b (b.map (·.1)++d) a.heap a.gens|_,_,_=>False
def et.out{B:YM}{D a:List Zw}(j:et B f w d b i c D h g)(pre:mG w d c a D h g s):ii B w i s (oX B f w d c a s b):=by cases b with|nil=>show(j a _ pre).mono λe k h=>by cases e<;>show h;|cons y b=>show(j a _ pre).mono λe k h=>by cases e<;>show h
def oX.ret{B:YM}{r:Except ZN Flow}(o:oX B d w f e b s c (.ret r) a):c=[]/\r=.ok (.ret .none)/\j9 e s [] a/\d a.gens:=by cases c with|nil=>show⟨rfl,o⟩;|cons y c=>show o.elim
def oX.susp{B:YM}{v g l k c p m}(o:oX B h w j i b s e (.susp v g l k c p m) a):∃y f,e=y::f/\∃d,j9 i s d a/\h a.gens/\aB (d.map (·.1)++b) a.heap v y/\et B h w j f (PG v g l k c p m).genState d (d.map (·.1)++b) a.heap a.gens:=by cases e with|nil=>show o.elim;|cons y e=>show b7 y e rfl o
set_option backward.match.sparseCases true in def adJ{s:ZL}{B:YM}{b:GenStatus}{j:PUnit->PA c}{Q:c->ZL->Prop}(d:s.heap.NoLimit)(a:B.depth<ZU)(h:ZE (model pw w) B (j ⟨⟩) Q E s):ZE (model pw w) B (match b with|.fresh=>roomToWake>>=j|.suspended=>roomToWake>>=j|_=>pure ⟨⟩>>=j) Q E s:=by cases b<;>first|show Z8 (wpAny_roomToWake d a h)|show h
def JE{B:YM}(V:B.handled=Z4)(W:s.heap.NoLimit)(n:B.depth<ZU)(J:s.heap.IsGen I g)(F:s.gens[g]?=Z7 G)(X:et B.in1 x w C A G z D h H)(pre:mG w C z f D h H (s.setGen g .running))(Y:∀y j v d t i,A=y::j->t.bare=ZW->j9 z (s.setGen g .running) i d->x d.gens->aB (i.map (·.1)++f) d.heap v y->et B.in1 x w C j t i (i.map (·.1)++f) d.heap d.gens->Q (Z7 v) (d.setGen g t))(Z:A=[]->∀d,j9 z (s.setGen g .running) [] d->x d.gens->∀U,(∀b o,d.heap.get? b=Z7 o->U.get? b=Z7 o)->Q Z4 {d.setGen g .finished with heap:=U}):ZE (model pw w) B (Vu (.ref I)) Q E s:=by
 revert x A s w B I g G z D f h H C Q E;injections g G x w C A z D;ext h H f Q I E s B;show Z8 (V5 (Yp (name:=Z9 "__next__") J.typeIs slot_gen_next (YC slot_gen_next J.typeIs entry_gen_next ?_<|args_gen_next _)));show(?_:ZE _ B.in1 (PC (.ref I)<|.send .none) _ _ s);show Z8<|Zy<|wpAny_genNumber J<|Z8<|wpAny_genState F ?_;show adJ (B:=B.in1) W n ?_;show adE F<|(X.out pre).quiet.mono λe d M=>aE M λhq h=>?_;cases e with
 |ret r=>
  show gM h.ret λN O R u=>?_;ext d r;subst O;show(?_:ZE _ _ (newExc (.type "StopIteration") []>>=_) _ _ _);show Z8 ?_;show Z8<|XC ?_<|by size_fits
  show Z8 (m:=T1 _ _)<|Zd (a:=X9) (by first|rfl|(simp only[T1];rfl)) ?_;show XC ?_ (by size_fits);show Z8<|Z8<|wpAny_handled ?_;exists(show B.in1.handled=Z4 from V);show wpAny_throw ?_;show Z8<|Wq (T:="StopIteration") (b:=ZW) (ae _ (Zu _ rfl) rfl) T0 ?_;show Z5<|Z N d R u _ λb o hb=>ZT _<|ZT _ hb;|susp v g' l k c p fs=>obtain⟨y,j,N,i,R,u,r,S⟩:=h.susp;show Z5<|ae v rfl<|Z5<|Y y j v d _ i N (End.bare_of_quiet hq) R u r S
abbrev gb(e:Array YD->Prop):GK:=⟨λd b b c=>c=[]/\cb e d,λd a b c=>a=.none/\c=[]/\cb e d,λb b b b=>False,λb b b b=>False⟩
def JW{b:List YR}(t:A.over (.func b X.env) []=X.A)(h:aO A f X l O b ys (gb f))(F:Fr X l O s):SG A (.func b X.env) (denote table (.func b X.env)) [] s X.w (e9 A f ys X):=by show kE (m:=point) (Kf:=λu=>_) (H:=.raise) (gd:=id) (lv:=λu=>[])<|wpAny_point ?_;rw[Wu,WZ,Wy];show h _ _ _ _ _ _ s ⟨t,rfl,rfl,rfl⟩ F λe d n w fl o x p y c=>?_;cases fl with
 |next=>show aE c ?_;clear c;intro g i;subst g;show P0 pw X.w A _ _ o (.ok<|.ret .none) _ rfl ⟨rfl,e,d,n,.refl e,i,p⟩;|ret v=>show dI c ?_;clear c;intro a r j k i;subst j;subst k;cases r.iN;show P0 pw X.w A _ _ o (.ok<|.ret .none) _ rfl ⟨rfl,e,d,n,.refl e,i,p⟩;|brk=>show c.elim;|cont=>show c.elim
structure f1(B:YM)(X Y:Fx)(name:ZD)(scope:Vs)(body:List YR)(fa:Zw)(cd:ZN):Prop where
 w:Y.w=X.w
 env:∃L,Y.env=Y8 name scope L fa cd
 A:Y.A=B.over (.func body Y.env) []wr:Y.wr
 os:Y.os=X.os
def f1.bd{B:YM}{b:List YR}(C:f1 B X Y name a b c d)(h:a.names.lookup x=Z7 .local\/a.names.lookup x=Z7 .cell):Bd Y x:=by
 show aS C.env λL e=>?_;show ZI h (λh=>?_) λh=>?_;.show .inl (by exists e;show h)
 .show .inr<|br (by exists e;show h) C.wr ?_;exists e;show Xz.mp<|cellsFrom_some _ _ _ h
def f1.glob{B:YM}{b:List YR}(C:f1 B X Y name a b c d)(h:a.names.lookup x=Z7 .globalImplicit):Y.env.kindOf x=Z7 .globalImplicit:=by show aS C.env λL e=>?_;exists e;show h
def f1.ok{B:YM}{b:List YR}(C:f1 B X Y name a b d f)(i:a.names.lookup ("__debug__":ZD)=Z4):Ok Y (λx=>a.names.lookup x) aY:=by
 show⟨λx h=>C.bd h,λx g j k=>?_,?_⟩;.have c:=mem_of_lookup k;show⟨lC.ld (λP=>kF P _ c)<|C.glob j,(kF _ _ c).lL⟩
 .show aS C.env λL e=>?_;exists e;show i
def f1.same{B:YM}{b:List YR}(C:f1 B X Y name a b d e)(c:bq Y f):f1 B X f name a b d e:=⟨c.w.trans C.w,by exists c.env;show C.env,by exists c.A,c.env;show C.A,c.wr C.wr,c.os.trans C.os⟩
abbrev jR(O:ag)(h:Xq):List (Zw×Ze):=O.map λp=>(p.1,(h.get? p.1).getD default)
def Cu:(jR O h).map (·.1)=O.map (·.1):=by unfold jR;exists YE;rfl
def Fr.tell(F:Fr X j (b++d) s):Fr X j (aJ (jR b s.heap)++d) s/\am (aa X (b++d)) s.heap (aa X (aJ (jR b s.heap)++d)) s.heap:=by
 ext X j b d s;have t:(aJ (jR b s.heap)++d).map (·.1)=(b++d).map (·.1):=by rw[ZF,ZF,gY,Cu]
 have v:∀a,a∈aa X (aJ (jR b s.heap)++d)↔a∈aa X (b++d):=λa=>by rw[aL,aL,t]
 have k:am (aa X<|b++d) s.heap (aa X<|aJ (jR b s.heap)++d) s.heap:=λa o h e=>⟨λq=>h<|(v a).mp q,e⟩;show⟨F.move k (λa o g g e=>e) F.gens rfl (λo e=>e) (λg c g o e=>e) (λq g e=>e) (λp f=>?_) (by exists t;show F.nd),k⟩;show ZI (ZS.mp f) (λf=>?_) λf=>?_;.unfold aJ jR at f;replace f:=YE▸f;show cu f λq w=>?_;show cL (F.own q<|Zk _ w) λl m n r o i u=>?_;show⟨l,m,n,r,o,i,by show(?_:o=(s.heap.get? q.1).getD default);exists i;rfl⟩
 .show cL (F.own p<|Zq _ f) λl m n r o i u=>?_;show⟨l,m,n,r,o,i,u.move k⟩
abbrev Fx.sG(X:Fx)(G:Array YD->Prop):Fx:={X with G:=G}
def Fr.sG(F:Fr X i O s)(h:G s.gens):Fr (X.sG G) i O s:=⟨F.keep,h,F.os,(let⟨a,b,c,d,e⟩:=F.vars;⟨a,b,c,d,e⟩),F.held,λp j=>let⟨a,b,c,d,e,f,g⟩:=F.own p j;⟨a,b,c,d,e,f,g⟩,F.nd⟩
def Fr.uw(F:Fr X i O s)(h:G γ):Fr (X.sG G) i O {s with gens:=γ}:=⟨F.keep,h,F.os,(let⟨a,b,c,d,e⟩:=F.vars;⟨a,b,c,d,e⟩),F.held,λp j=>let⟨a,b,c,d,e,f,g⟩:=F.own p j;⟨a,b,c,d,e,f,g⟩,F.nd⟩
structure tx(P:Ym)(fd:Uj)(name:ZD)(scope:Vs)(body:List YR)(fa ca:Zw):Prop where
 at_:∃o,(ar P).get? fa=some o/\o.data=.func fd
 code:∃co qY ct,(ar P).get? ca=some co/\co.data=.fields qY/\qY[1]?=some (.str name ct)sc:fd.scope=scope
 globals:fd.globals=Xd
 closure:fd.closure=[]qual:fd.qualname=name
 cd:fd.code=.ref ca
 bi:fd.builtins=Vw
 body:fd.body=.stmts body
 gen:scope.isGenerator=true
 t9:scope.isCoroutine=false
 kind:scope.kind=.function
 cell:∀x∈scope.names,x.2≠.cell
 cells:∀n,Xm n scope.names []=[]
abbrev eH(g:Nat)(a b:ZN):Ze:={cls:=.type "generator",data:=.fields #[.int g 0,a,b]}
def zF{B:YM}{i:List YR}{ns:List ZD}(hB:B.handled=Z4)(O:X.A.depth<ZU)(D:tx X.w.params H name f i k m)(hl:∀x∈ns,f.names.lookup x=Z7 .local)(py:ns.Nodup)(F:Fr X ρ (OL++O') s)(rel:aD (aa X (OL++O')) s.heap vs l)(hb:∀A(Q:List (ZD×ZN)->ZL->Prop)E,Q (ns.zip vs) s->ZE (model pw X.w) A (RU H args) Q E s)(S:∀Y,f1 B X Y name f i k (.ref m)->cb Γ Y->aO B Γ Y (ns.zip l) OL i ys (gb Γ))(kL:∀env,Γ ((s.gens.push (.fresh (.func i env))).setIfInBounds s.gens.size .running))(hR:∀I hs nm qn env J M h' tk,h'.get? I=Z7 (eH s.gens.size nm qn)->(∀G:Array YD->Prop,G (s.gens.push (.fresh (.func i env)))->Fr (X.sG G) ρ (aJ ((I,eH s.gens.size nm qn)::hs)++O') {s with heap:=h',gens:=s.gens.push (.fresh (.func i env)),toks:=tk})->am (aa X (OL++O')) s.heap (aa X (aJ ((I,eH s.gens.size nm qn)::hs)++O')) h'->am J M (aa X (aJ ((I,eH s.gens.size nm qn)::hs)++O')) h'->et B Γ X.w X.os ys (.fresh (.func i env)) hs J M ((s.gens.push (.fresh (.func i env))).setIfInBounds s.gens.size .running)->R (.ok (.ret (.ref I))) {s with heap:=h',gens:=s.gens.push (.fresh (.func i env)),toks:=tk}):UO (model pw X.w) X.A (.call (.ref k) args) R s:=by
 revert Γ X ρ OL O' ys s B k m H name f i l vs ns args R;injections H name f k m X ρ OL O';ext s vs l args Γ ys R B i ns;show aq D.at_ λo ho hd=>?_;obtain⟨co,qY,ct,uN,uL,uM⟩:=D.code;show codeAny_call_generator O (F.base _ _ ho) hd (by exists D.sc;show D.t9) (by exists D.sc;show D.gen) D.body (pD m co qY ct D.cd (F.base _ _ uN) uL (by exists D.qual;show uM)) ?_;show hb _ _ _ ?_;show RX (by exists D.sc;show D.cell) (λx hx=>by exists D.sc;show hl x.1 (UE hx).1) (λh U Lb=>?_) (by exists D.sc;show D.kind);have nd:((ns.zip vs).map (·.1)).Nodup:=wW py;rw[show(λx=>(ns.zip vs).reverse.lookup x)=λx=>(ns.zip vs).lookup x from funext λx=>MO nd x]at U;have t:∀b o,s.heap.get? b=Z7 o->h.get? b=Z7 o:=λb o e=>Lb.extBut b o (X8<|Zg e)<|ZT _ e;have eE:newEnv H.scope s.heap.objs.size H.globals H.closure (H.qualname++".<locals>.") (Z7 k) H.code Z4 H.builtins=Y8 name f s.heap.objs.size k (.ref m):=by exists D.sc,D.globals,D.closure,D.qual,D.cd,D.bi;unfold Y8;rw[D.cells];rfl
 exists eE;have hsz:s.heap.objs.size<h.objs.size:=U.lt;show⟨(n9 F.base).keeps t,?_⟩;generalize lV:(s.gens.push<|.fresh<|.func i<|Y8 name f s.heap.objs.size k<|.ref m).setIfInBounds s.gens.size .running=γ;have u:(Y8 name f s.heap.objs.size k<|.ref m).cells=[]:=D.cells _;let Z:Fx:={w:=X.w,A:=B.over (.func i<|Y8 name f s.heap.objs.size k<|.ref m) [],env:=Y8 name f s.heap.objs.size k<|.ref m,h₀:=s.heap,D₀:=aa X O',a7:=OL.map (·.1),held:=[],G:=λg=>g=γ,os:=X.os,fn:=D.kind,glob:=rfl,bn:=rfl,hh:=hB,above:=.inl<|c9 _,jB:=F.base,jK:=λa y=>(F.a7 y).1,eh:=λa y=>(F.a7 y).2,apart:=by exists u;show .nil,kt:=λn c j=>by rw[u]at j;show(nM j),iw:=λn c c' j=>by rw[u]at j;show(nM j),old:=λd hd=>F.ex d<|ce.mpr<|.inr hd,hnl:=λq C=>(nM C),hnc:=λq C=>(nM C),hab:=λq C=>nM C};have wZ:Z.wr:=λn c j=>by have j:(n,c)∈(Y8 name f s.heap.objs.size k<|.ref m).cells:=j;rw[u]at j;show nM j
 have CZ:f1 B X Z name f i k (.ref m):=⟨rfl,⟨_,rfl⟩,rfl,wZ,rfl⟩;have S0:am (aa X<|OL++O') s.heap (aa Z OL) h:=λa o y e=>by
  show⟨λq=>?_,t a o e⟩;have:=Zg e;show fJ q (λq=>?_) (λq=>?_) (λn q=>?_) (λq=>?_) λo' q=>?_;.show y<|ce.mpr<|.inl q
  .show absurd q<|X8 this
  .have q:(n,a)∈(Y8 name f s.heap.objs.size k<|.ref m).cells:=q;rw[u]at q;show nM q
  .show y<|ce.mpr<|.inr q
  .cases q
 let N:ZL:={s with heap:=h,gens:=γ};have FZ:Fr Z (ns.zip l) OL N:=by
  show⟨λa o u' e=>t a o e,rfl,F.os,⟨_,λu'=>Z4,U,λn c j=>?_,λx av e=>?_⟩,λq C=>(nM C),λp hp=>?_,(F.drop<|List.sublist_append_left _ _).nd⟩;.have j:(n,c)∈(Y8 name f s.heap.objs.size k<|.ref m).cells:=j;rw[u]at j;show nM j
  .show aq (wX rel e) λv e1 r=>?_;show ae v (.inl ⟨hl x<|wV e,e1⟩)<|r.move S0
  ·show cL (F.own p<|Zk _ hp) λb1 b2 b3 b4 o' kJ z=>?_;have dU:=Zg kJ;show⟨.inr<|Z0.mpr<|ae p hp rfl,X8 dU,⟨λn c j=>by have j:(n,c)∈(Y8 name f s.heap.objs.size k<|.ref m).cells:=j;rw[u]at j;show(nM j),λq C=>nM C⟩,b4,o',t _ _ kJ,z.move S0⟩
 have pn:et B Γ X.w X.os ys (.fresh<|.func i<|Y8 name f s.heap.objs.size k<|.ref m) (gZ Z OL h) (aa Z OL) h γ:=by show et.of (s:=N) FZ wZ λX' pZ sm eG F' st=>?_;have C':=CZ.same sm;have eX:X'.env=Y8 name f s.heap.objs.size k (.ref m):=sm.env;have:=JW (ys:=ys) (<-aW C'.A rfl) (S X' C'<|ae γ eG (by exists ZJ lV;show kL _)) F';rw[eX,sm.w]at this;show this
 have La:s.heap.objs.size<h.objs.size:=hsz;have nI:∀{o},h.get? h.objs.size≠Z7 o:=λ{o}e=>YH _<|Zg e;have NJ:s.heap.get? h.objs.size=Z4:=X4<|Ye La;have kp:∀{W:Ze}b o,h.get? b=Z7 o->(h.push W).get? b=Z7 o:=λ{W}b o e=>ZT _ e;show aE F.tell λlB V=>?_;have C6:=λ(W:Ze)(hf:W.isFreed=ZX)(tk:Nat)=>Fr.hV (hs:=jR OL s.heap) (hs':=(h.objs.size,W)::gZ Z OL h) (s':={s with heap:=h.push W,toks:=tk}) lB (λb o u' e=>kp b o<|t b o e) (λq C=>by
   rcases Z1.mp C with rfl|C;.show Zu _ hf
   .show kp _ _<|FZ.CE q C) (λa y=>by
   rcases Z1.mp y with rfl|y;.show .inr NJ
   .have y:a∈(gZ Z OL h).map (·.1):=y;rw[jS]at y;rcases mc.mp y with q|rfl|⟨n,q⟩|⟨o,q⟩;.show .inl (by exists Cu;show q)
    .show .inr<|c9 _
    .have q:(n,a)∈(Y8 name f s.heap.objs.size k<|.ref m).cells:=q;rw[u]at q;show nM q
    .show nM q) (by exists Z3,jS;show ZC.mpr ⟨λq=>?_,Bx _⟩;show aS (FZ.zf q) λo ho=>?_;show nI ho) F.gens rfl;show hR h.objs.size (gZ Z OL h) (.str H.name<|s.toks+(ns.zip vs).length) (.str H.qualname<|s.toks+(ns.zip vs).length+1) _ (aa Z OL) h _ _ (Zu _ rfl) (λG hG=>(C6 _ rfl _).1.uw hG) (V.trans (C6 _ rfl 0).2) (λa o y e=>⟨λq=>?_,kp a o e⟩) (by exists lV;show pn);show ZI (aL.mp q) (λq=>?_) λq=>?_
 .rw[ZF,gY,ZS,Z3,Z1,jS]at q;rcases q with(rfl|q)|q;.show nI e
  .show y<|mY.mpr<|.inl q
  .show y<|mY.mpr<|.inr<|aL.mpr<|.inl q
 .show y<|mY.mpr<|.inr<|aL.mpr<|.inr q
abbrev iP(B:YM)(d:Array YD->Prop)(Z:Fx)(O:ag)(I:Zw)(g:Nat)(e:List AV)(b:List (Zw×Ze))(s:ZL):Prop:=∃c a f i D h,b=(I,eH g f i)::a/\s.gens[g]?=Z7 c/\et B d Z.w Z.os e c a D h (s.gens.setIfInBounds g .running)/\am D h (aa Z<|aJ b++O) s.heap
def iP.move{B:YM}(x:iP B f Z O I g i d s)(k:c.w=Z.w)(l:c.os=Z.os)(j:s'.gens=s.gens)(m:am (aa Z (aJ d++O)) s.heap (aa c (aJ d++a)) s'.heap):iP B f c a I g i d s':=by ext f Z O I g i d s c a s' B;obtain⟨n,b,o,p,D,h,e,r,t,u⟩:=x;show⟨n,b,o,p,D,h,e,by exists j;show r,(by exists j,k,l;show t),u.trans m⟩
def acl{c:Array YD}(h:c[g]?=Z7 b):(c.setIfInBounds g a).setIfInBounds g b=c:=by
 ext g b a c;have d:g<c.size:=by
  show ZI (Xj g c.size) (λq=>?_) λq=>?_;.show q
  .replace h:=(Xg q)▸h;cases h
 apply Po;.simp
 .intro i j f;by_cases e:i=g;.subst e;replace h:=(X1 d)▸h;exists Zs h;simp
  .simp only[Vl];show UR f<|Xb e
def rz{J:List (Zw×Ze)}(x:Z.A.depth<ZU)(u:∀γ,Γ γ->γ[g]?=Z7 .running)(F:Fr Z U (aJ J++O) s)(H:iP Z.A.in1 Γ Z O I g ys J s)(hY:∀y t v γ i hs' j,ys=y::t->i.bare=ZW->Γ γ->j.gens=γ.setIfInBounds g i->(∀G:Array YD->Prop,G j.gens->Fr (Z.sG G) U (aJ hs'++O) j)->am (aa Z (aJ J++O)) s.heap (aa Z (aJ hs'++O)) j.heap->aB (aa Z (aJ hs'++O)) j.heap v y->iP Z.A.in1 Γ Z O I g t hs' j->Q (Z7 v) j)(hP:ys=[]->∀γ j,Γ γ->j.gens=γ.setIfInBounds g .finished->(∀G:Array YD->Prop,G j.gens->Fr (Z.sG G) U O j)->am (aa Z (aJ J++O)) s.heap (aa Z O) j.heap->Q Z4 j):ZE (model pw Z.w) Z.A (Vu (.ref I)) Q E s:=by
 ext Γ g Z U O s I ys Q E J;obtain⟨gs,c,k,l,D,h,X,Y,go,stD⟩:=H;ext gs c k l D h;subst X;have oI:s.heap.get? I=Z7 (eH g k l):=by show F.dW<|.head _
 have M:((I::c.map (·.1))++O.map (·.1)).Nodup:=by have:=F.nd;rwa[ZF,gY]at this
 have V:∀{hs':List (Zw×Ze)}a,a∈hs'.map (·.1)++aa Z ((I,.other<|eH g k l)::O)↔a∈aa Z (aJ ((I,eH g k l)::hs')++O):=λ{hs'}a=>by
  rw[ZS,aL,aL,ZF,gY,Z3,Z3,ZS,Z1,Z1];constructor
  .rintro(h|(h|h)|h);.show .inl<|.inl<|.inr h
   .show .inl<|.inl<|.inl h
   .show .inl<|.inr h
   .show .inr h
  .rintro(((h|h)|h)|h);.show .inr<|.inl<|.inl h
   .show .inl h
   .show .inr<|.inl<|.inr h
   .show .inr<|.inr h
 have pre:mG Z.w Z.os c (aa Z ((I,.other<|eH g k l)::O)) D h (s.gens.setIfInBounds g .running) (s.setGen g .running):=by
  show⟨F.base,λq C=>?_,λq C hd=>?_,λd hd=>F.ex d<|(V (hs':=c) d).mp<|Zq _ hd,stD.right V,rfl,F.os⟩;.show F.dW<|Zk _<|.tail _<|Z0.mpr<|ae q C rfl
  .ext q;obtain⟨b1,b2,b3,u'⟩:=F.own (q.1,.other q.2)<|Zk _<|.tail _<|Z0.mpr<|ae q C rfl;have W:q.1∈c.map (·.1):=Z0.mpr<|ae q C rfl;have N:=YT.mp M;show fJ hd (λz=>?_) (λz=>?_) (λn z=>?_) (λz=>?_) λo z=>?_
   .show ZI (Z1.mp z) (λz=>?_) λz=>?_;.show(ZC.mp N.1).1 (by have z:q.1=I:=z;exists ZJ z;show W)
    .show N.2.2 _ (WA _ W) _ z rfl
   .show b2 z
   .show b3.1 n _ z rfl
   .show ZI b1 (λy=>?_) λy=>?_;.show aS (Z.old _ z) λo ho=>?_;have y:Z.h₀.get? q.1=Z4:=y;replace ho:=y▸ho;cases ho
    .show Z.eh _ y z
   .show b3.2 _ z rfl
 have w:I∉c.map (·.1):=(ZC.mp (YT.mp M).1).1;show JE Z.hh (n9 F.base) x (gi _ k l oI rfl rfl rfl) Y go pre (λy t v f i hs' ey hb p m r pn=>?_) λey f p m h' W=>?_
 .have kI:f.heap.get? I=Z7 (eH g k l):=p.keep _ _ w oI;have I':I∉hs'.map (·.1):=λq=>by
   show ZI (p.new I q) (λz=>?_) λz=>?_;.show w z
   .have z:s.heap.get? I=Z4:=z;replace z:=oI▸z;cases z
  have R:=Fr.hV (hs:=(I,eH g k l)::c) (hs':=(I,eH g k l)::hs') (s':={f with gens:=s.gens}) F (λb o A e=>p.keep b o (λq=>A<|WA _ q) e) (λq C=>(Z1.mp C).elim (λe=>by exists e;show kI)<|p.own q) (λa S=>by
    rcases Z1.mp S with rfl|S;.show .inl<|.head _
    .show(p.new a S).imp (WA _) id) (ZC.mpr ⟨I',p.nd⟩) F.gens p.os;show hY y t v f.gens i ((I,eH g k l)::hs') (f.setGen g i) ey hb m rfl (λG hG=>R.1.uw (γ:=(f.setGen g i).gens) hG) R.2 (r.less λa S=>(V a).mpr S) ?_;show⟨i,hs',k,l,_,_,rfl,(setGen_self (gs:=.running)<|u _ m),?_,.refl _ _⟩;have e:(f.setGen g i).gens.setIfInBounds g .running=f.gens:=acl<|u _ m;exists e;show pn.D λa=>(V a).symm
 .have un:=Fr.jt (hs:=(I,eH g k l)::c) (s':={f with gens:=s.gens,heap:=h'}) F (λb o A e=>W b o<|p.keep b o (λq=>A<|WA _ q) e) F.gens p.os;show hP ey f.gens _ m rfl (λG hG=>un.1.uw (γ:=(f.setGen g .finished).gens) hG) un.2
def pb{a:Type}{l:List a}(h:i<l.length):l.drop i=l[i]::l.drop (i+1):=Yk h
def Mw{N:List (Zw×Ze)}(w:Z.A.depth<ZU)(R:∀G,Γ G->G[g]?=Z7 .running)(hG:∀G x,Γ G->x.bare=ZW->Z.G (G.setIfInBounds g x))(hz:j.length<=Zo)(F:Fr Z Y (aJ N++O) s)(H:iP Z.A.in1.in1.in1 Γ Z O I g j N s)(hk:k (.lst j) O):ZE (model pw Z.w) Z.A (call (.type "list") [.ref I]) (bP Z Y (aJ N++O) s k) E s:=by
 ext Γ g Z Y O s I j k E N;have oI:∃nm qn,s.heap.get? I=Z7 (eH g nm qn):=by obtain⟨gs,adZ,nm,qn,D,h,my,u'⟩:=H;subst my;show gh nm qn<|F.dW<|.head _
 show fK oI ?_;clear oI;intro nm qn oI;let u:=Z.at Z.A.in1.in1 (show Z.A.in1.in1.handled=Z4 from Z.hh);let S:=s.heap.objs.size;let J:Nat->ZL->Prop:=λi M=>∃z,Fr u Y (aJ z++((S,.list<|j.take i)::O)) M/\iP u.A.in1 Γ u ((S,.list<|j.take i)::O) I g (j.drop i) z M/\am (aa Z<|aJ N++O) s.heap (aa u<|aJ z++((S,.list<|j.take i)::O)) M.heap;let D:ZL->Prop:=λM=>Fr u Y ((S,.list j)::O) M/\am (aa Z<|aJ N++O) s.heap (aa u ((S,.list j)::O)) M.heap;have eG:u.sG u.G=u:=rfl;show yj (T:="generator") (n:=j.length) (J:=J) (D:=D) oI rfl (by decide) (by decide) PySem.F.gen_no_len PySem.F.gen_no_hint (λA E M Q e q=>wpAny_pyIter_gen (g:=g) (gi _ nm qn e rfl rfl rfl) q) ⟨λi M Q E hi hJ hQ=>?_,λM Q E hJ hQ=>?_⟩ hz (λh' c fh hg=>?_) λM hD=>?_
 .show bV hJ ?_;clear hJ;intro z U X m;show rz (Z:=u) w R U X (λy ju v G x f l ey hb W eg hF r rv H₁=>?_) λe=>?_
  .replace ey:=(pb hi)▸ey;injection ey with e1 e2;subst e1 e2;have d:=hF u.G (by exists eg;show hG G x W hb);replace d:=eG▸d;show gN (d.cO<|Zq _<|.head _) λdz c g8 pY=>?_;show hQ v l dz c g8 (by exists pY.size,Zf;show(af 0xc883a0d0410) hi) λh4 c4 mj g9=>⟨f,?_⟩;have wa:aD (aa u<|aJ f++((S,.list<|j.take i)::O)) l.heap (dz.push v).toList (j.take<|i+1):=by exists WE,Zc,Z2 hi;show pY.append<|.cons rv .nil
   have hm:(S,az.list<|j.take i)∈aJ f++((S,.list<|j.take i)::O):=Zq _<|.head _;have V:=d.update (tk:=l.toks) (ao:=.list<|j.take<|i+1) hm mj g9<|b7 _ _ rfl wa;have t:=d.er (ao:=.list<|j.take<|i+1) hm λb o hb e=>(mj.2 b hb).trans e;have ug:aK (aJ f++((S,.list<|j.take i)::O)) S (.list<|j.take<|i+1)=aJ f++((S,.list<|j.take<|i+1)::O):=di d.nd;rw[ug]at V t;show br V (H₁.move rfl rfl rfl t)<|(m.trans r).trans t
  .replace e:=(pb hi)▸e;cases e
 .show bV hJ ?_;clear hJ;intro z U X m;rw[YQ]at U X m;replace X:=UQ▸X;show rz (Z:=u) w R U X (λy ju v G x f l ey=>(nL ey)) λu' G l W eg hF r=>hQ l ⟨?_,m.trans r⟩;have d:=hF u.G (by exists eg;show hG G _ W rfl);replace d:=eG▸d;show d
 .show aE (xo (tk:=s.toks) (ao:=.list []) F fh (c9 _) hg<|b7 _ _ rfl<|.nil) λU m=>?_;show aE (Cv.perm (Tm (a:=(S,az.list [])) (l₁:=aJ N) (l₂:=O)).symm _ U) λC p=>?_;show bl N C.at (H.move rfl rfl rfl<|m.trans p)<|m.trans p
 .show aE hD ?_;clear hD;intro U m;show dt U.pW.ql λC p wh=>?_;show⟨_,O,C,m.trans p,wh,hk⟩
abbrev tB(A:YM)(o:Array YD->Prop)(X:Fx)(r:X7)(h:List YR)(Inv:List AV->Fx->Loc->ag->List AV->Prop):Prop:=∀y m f i n j l p,bq X f->cb o f->Inv (y::m) f i n j->Tg (f.holds l p) i n r y λk=>aO A o (f.holds l p) k n h j ⟨λZ b d c=>Z.G=f.G/\∀a e,Z=Fx.holds a l e->Inv m a b d c,λg g g g=>False,λg g g g=>False,λZ b d c=>Z.G=f.G/\∀a e,Z=Fx.holds a l e->Inv m a b d c⟩
def JV{A:YM}{Γ gB:Array YD->Prop}{X:Fx}{K:GK}{S:X7}{j:List YR}{I:Zw}{g:Nat}{w:List Zw}{C:Xq}{c:Sc}{fs:List Rm}{k:Uu->PA UT}{gd:Bool->Bool}{lv:List ZN}{p:Vk}(pl:Pl A X.A c fs gd)(J:X.A.depth<ZU)(uQ:∀it v,V9 S it v=pure ())(Y:∀γ,gB γ->γ[g]?=Z7 .running)(kL:∀γ lQ,gB γ->lQ.bare=ZW->Γ (γ.setIfInBounds g lQ))(Inv:List AV->Fx->Loc->ag->List AV->Prop)(po:∀yi X ρ O ys G,Inv yi X ρ O ys->Inv yi (X.sG G) ρ O ys)(step:tB A Γ X S j Inv)(fin:∀i u M o,cb Γ i->Inv [] i u M o->K.nx i u M o)(vb:∀i u M o fl s',bq X i->Fr i u M s'->am w C (aa i M) s'.heap->K.at fl i u M o s'->SG A c (k (.ok fl)) fs s' X.w (e9 A Γ o i)):∀(yi:List AV)i u M o hs s,bq X i->Fr i u (aJ hs++M) s->iP X.A.in1 gB i M I g yi hs s->am w C (aa i (aJ hs++M)) s.heap->Inv yi i u M o->SG A (.forLoop S (.ref I) j [] X.env) (denote table (.forLoop S (.ref I) j [] X.env)) (.ret k Z4 (gd ZX) lv c p []::fs) s X.w (e9 A Γ o i):=by revert k pl J uQ Y kL po step fin vb;revert A Γ gB X K S j I g w C c fs gd lv p Inv;injections A Γ gB X K S j I;injections g w C c fs gd lv p Inv;intro k pl J uQ Y kL po step fin vb;intro yi;induction yi with
 |nil=>intro i u M o hs s n F H sb kO;have g0:=pl.push (c':=.forLoop S (.ref I) j [] X.env) (k:=k) (l:=lv) (p:=p) (kp:=[]) rfl rfl rfl rfl;show(?_:SG A _ ((O8 S (.ref I) j [] X.env).onRaise (λx=>do RC x X.env;UB x)) _ s X.w _);rw[Wu];show dA rfl<|YO ?_;show dA g0.over ?_;show Tp ?_;have d:=λQ E hP=>rz (Z:=i) (Γ:=gB) (ys:=[]) (Q:=Q) (E:=E) (by exists n.A;show J) Y F (by exists n.A;show H) (λy o v γ lQ hs' s' ey=>(nL ey)) hP;replace d:=n.A▸n.w▸d;show d _ _ λu' γ D lV eg hF oK=>?_;have gn:cb Γ (i.sG λg=>g=D.gens):=ae D.gens rfl (by exists eg;show kL γ _ lV rfl);have co:Core i (i.sG λg=>g=D.gens):=⟨rfl,rfl,rfl,rfl,rfl,rfl,rfl⟩;have ww:bq X (i.sG λg=>g=D.gens):=⟨n.w,n.A,n.env,n.held,n.wr,n.os⟩;show zL<|Yn (vb (i.sG λg=>g=D.gens) u M o .next D ww (hF _ rfl) (sb.trans oK)<|fin _ _ _ _ gn<|po _ _ _ _ _ _ kO) λe s h=>h.core co;|cons y yi ih=>
  intro i u M o hs s n F H sb kO;have g0:=pl.push (c':=.forLoop S (.ref I) j [] X.env) (k:=k) (l:=lv) (p:=p) (kp:=[]) rfl rfl rfl rfl;show(?_:SG A _ ((O8 S (.ref I) j [] X.env).onRaise (λx=>do RC x X.env;UB x)) _ s X.w _);rw[Wu];show dA rfl<|YO ?_;show dA g0.over ?_;show Tp ?_;have d:=λQ E hY=>rz (Z:=i) (Γ:=gB) (ys:=y::yi) (Q:=Q) (E:=E) (by exists n.A;show J) Y F (by exists n.A;show H) hY λe=>(nK e);replace d:=n.A▸n.w▸d;show d _ _ λy' yi' v γ lQ b f ey hb lV eg hF sT rv tC=>?_;injection ey with e1 e2;subst e1 e2;dsimp only;have gn:cb Γ (i.sG λg=>g=f.gens):=ae f.gens rfl (by exists eg;show kL γ _ lV hb);have co:Core i (i.sG λg=>g=f.gens):=⟨rfl,rfl,rfl,rfl,rfl,rfl,rfl⟩;have ww:bq X (i.sG λg=>g=f.gens):=⟨n.w,n.A,n.env,n.held,n.wr,n.os⟩;have ig:=hF (λg=>g=f.gens) rfl;have LB:=po _ _ _ _ _ (λg=>g=f.gens) kO;rw[show aa i=aa (i.sG λg=>g=f.gens)from rfl]at sT rv;have sb:am w C (aa (i.sG λg=>g=f.gens)<|aJ hs++M) s.heap:=sb;have tC:iP X.A.in1 gB (i.sG λg=>g=f.gens) M I g yi b f:=tC.move rfl rfl rfl<|.refl _ _;have eG:(i.sG λg=>g=f.gens).G=λg=>g=f.gens:=rfl;show Yn (P:=e9 A Γ o<|i.sG λg=>g=f.gens) ?_ λe s h=>h.core co;clear F H hF co kO n gn;have gn:cb Γ (i.sG λg=>g=f.gens):=ae f.gens rfl (by exists eg;show kL γ _ lV hb);generalize i.sG (λg=>g=f.gens)=i at*;have n:=ww;rw[uQ];show dA rfl<|Z5 ?_;show dA g0.over ?_;have cc:=ig.rJ;have ta:=step y yi i u M o b cc n gn LB (λu' u'=>False) f v (ig.toHolds cc)<|rv.move kK;replace ta:=(show(i.holds b cc).env=X.env from n.env)▸(show(i.holds b cc).A=X.A from n.A)▸(show(i.holds b cc).w=X.w from n.w)▸ta;show XT ta (λu' gA wS=>bV wS λqq oW wH pB=>?_) λu' u' x=>x.elim;rw[WZ,Wy];have vW:Pl A (i.holds b cc).A (.forLoop S (.ref I) j [] X.env) (.ret k Z4 (gd ZX) lv c p []::fs) id:=by exists(show(i.holds b cc).A=X.A from n.A);show g0
  have core:Core i (i.holds b cc):=⟨rfl,rfl,rfl,rfl,rfl,rfl,rfl⟩;have nr:=pB (.forLoop S (.ref I) j [] X.env) (.ret k Z4 (gd ZX) lv c p []::fs);replace nr:=(show(i.holds b cc).w=X.w from n.w)▸(show(i.holds b cc).env=X.env from n.env)▸nr;show Yn (nr _ _ _ _ gA vW oW λZ U N V fl t sX j8 oL hk=>?_) λe s h=>h.core core;obtain⟨m,R,rfl,W⟩:=jt sX;have xq:Fr m U (aJ b++N) t:=j8.mf;have p8:=n.trans W;have Dj:am (aa i<|aJ b++M) f.heap (aa m<|aJ b++N) t.heap:=((kK.trans wH).trans oL).trans mo;have sa:am w C (aa m<|aJ b++N) t.heap:=(sb.trans sT).trans Dj;have HB:Core (m.holds b R) m:=⟨rfl,rfl,rfl,rfl,rfl,rfl,rfl⟩;have again:(m.holds b R).G=i.G/\(∀tN HK,m.holds b R=Fx.holds tN b HK->Inv yi tN U N V)->SG A (.forLoop S (.ref I) j [] X.env) (.pure<|.again<|.forLoop S (.ref I) j [] X.env) (.ret k Z4 (gd ZX) lv c p []::fs) t X.w (e9 A Γ V<|m.holds b R):=λmz=>aE mz λq1 q2=>by
   have H9:t.gens=f.gens:=by have z:m.G t.gens:=xq.gens;have q1:m.G=i.G:=q1;replace z:=eG▸q1▸z;show z
   show TG pw X.w A _ _ _ t (.forLoop S (.ref I) j [] X.env) rfl<|Yn (ih m U N V b t p8 xq (tC.move W.w W.os H9 Dj) sa<|q2 m R rfl) λe s h=>h.core HB
  cases fl with|next=>show again hk;|cont=>show again hk;|brk=>show hk.elim;|ret v=>show aq hk ?_;clear hk;intro a r q;show q.elim
inductive tA(A:YM)(Γ:Array YD->Prop)(X:Fx)(ρ:Loc)(O:ag)(s:ZL)(tg:X7)(body:List YR)(K:GK)(ys:List AV)(x:ZN)(qj:ZL):Prop|mk(I g hs dy gB yi Inv)(e:x=.ref I)(lB:Fr (X.sG λγ=>γ=qj.gens) ρ (aJ hs++dy) qj)(oK:am (aa X O) s.heap (aa X (aJ hs++dy)) qj.heap)(GH:iP X.A.in1 gB X dy I g yi hs qj)(adY:∀γ,gB γ->γ[g]?=some .running)(kL:∀γ lQ,gB γ->lQ.bare=true->Γ (γ.setIfInBounds g lQ))(po:∀yi X ρ O ys G,Inv yi X ρ O ys->Inv yi (X.sG G) ρ O ys)(h0:Inv yi X ρ dy ys)(step:tB A Γ X tg body Inv)(fin:∀X' ρ' O' ju,cb Γ X'->Inv [] X' ρ' O' ju->K.nx X' ρ' O' ju):tA A Γ X ρ O s tg body K ys x qj
def EY{K:GK}{b:List YR}(hf:∀x,Yb a X.env x=pure x)(j:X.A.depth<ZU)(J:∀it v,V9 r it v=pure ())(h:∀E s,Fr X n O s->ZE (model pw X.w) X.A (eval a X.env) (tA A z X n O s r b K C) E s):bU A z X n O (.For r a b [] o) C K:=by
 ext a r X n O A z C o K b;unfold bU;rw[arm_exec_For];show GM.at λc fs Kf H gd lv s Y F k=>?_;show dA Y.over ?_;show wm (h _ s F) λx d q=>?_;obtain⟨I,g,hs,t,l,yi,Inv,rfl,f,m,Z,u,M,i,h0,step,N⟩:=q;have G:∃w y,d.heap.get? I=Z7 (eH g w y):=by obtain⟨gs,Q,w,y,D,h,R,u'⟩:=Z;subst R;show gh w y<|f.dW<|.head _
 show fK G ?_;clear G;intro w y G;rw[hf];show dA rfl<|Z5 ?_;show dA rfl<|YO ?_;show dA rfl<|Zy ?_;show wpAny_pyIter_gen (g:=g) (gi _ w y G rfl rfl rfl) ?_;show Qr pw X.w A c fs _ _ (.forLoop r (.ref I) b [] X.env) Z4 (gd ZX) (lv []) _ λp=>?_;have co:Core X (X.sG λS=>S=d.gens):=⟨rfl,rfl,rfl,rfl,rfl,rfl,rfl⟩;show Yn (JV (A:=A) (Γ:=z) (gB:=l) (X:=X) (K:=K) Y j J u M Inv i step N (λX' U O' V fl s' sm F' W hk=>k X' U O' V fl s' sm F' (m.trans W) hk) yi (X.sG λS=>S=d.gens) n t C hs d ⟨rfl,rfl,rfl,rfl,λh=>h,rfl⟩ f (Z.move rfl rfl rfl<|.refl _ _) (.refl _ _) (i _ _ _ _ _ _ h0)) λe s h=>h.core co
def x6(P):(ar P).get? 218=Z7 sI:=⋯
def Gc(P):(ar P).get? 217=Z7 B5:=⋯
abbrev eqT:ZD:=Z9 "equal"
abbrev bt(n:Nat)(o:Op):Op:=if o.t=eqT then⟨o.t,max o.i1<|o.i2-n,o.i2,max o.j1<|o.j2-n,o.j2⟩else o
abbrev bO(n:Nat)(o:Op):Op:=if o.t=eqT then⟨o.t,o.i1,min o.i2<|o.i1+n,o.j1,min o.j2<|o.j1+n⟩else o
abbrev ic(n:Nat):List Op->List Op
 |[]=>[]|o::l=>bt n o::l
abbrev dF(n:Nat)(l:List Op):List Op:=match l.getLast? with
 |none=>l|some o=>l.set (l.length-1)<|bO n o
abbrev bM(n:Nat):List Op->List Op->List (List Op)
 |g,[]=>if g=[]\/(g.length=1/\∀o∈g,o.t=eqT)then[]else[g]|g,c::a=>if c.t=eqT/\2*n<c.i2-c.i1 then(g++[bO n c])::bM n [bt n c] a else bM n (g++[c]) a
def uz(n)(g)(c)(a):bM n g (c::a)=if c.t=eqT/\2*n<c.i2-c.i1 then(g++[bO n c])::bM n [bt n c] a else bM n (g++[c]) a:=rfl
abbrev cy(n:Nat)(l:List Op):List (List Op):=bM n []<|dF n<|ic n l
abbrev gT(g:List Op):AV:=.lst<|g.map aZ
def sx(a b n:Nat):max (a:Int) ((b:Int)-(n:Int))=((max a (b-n):Nat):Int):=<-ai 0xedab21845590c222
def sA(a b n:Nat):min (a:Int) ((b:Int)+(n:Int))=((min a (b+n):Nat):Int):=<-ai 0xeda911883488c410
abbrev jH(x a:Zw)(n:Nat):Loc:=[(Z9 "codes",.ref a),(Z9 "self",.ref x),(Z9 "n",.int n)]
abbrev eJ:List YR:=aA c5
def JP{K:Kn}(f:Ok Y (λx=>(aw c5).names.lookup x) aY)(i:Y.env=Y8 (Z9 "SequenceMatcher.get_grouped_opcodes") (aw c5) L 218 (Zr 217))(m:l≠[])(h:∀d,Sub (jH x a n) d->K.nx d (a8 a (ic n l) R)):Es Y (jH x a n) (a8 a l R) (aT eJ 3) K:=by
 ext Y L l x a n R K;obtain⟨o,l,rfl⟩:∃o p,l=o::p:=by cases l with|nil=>show absurd rfl m|cons o l=>show gh o l rfl
 show lx λr=>?_;show iD f i 20 _ _ _ _ ?_;have g:(a,az.list<|(o::l).map aZ)∈a8 a (o::l) R:=.head _;have b:∀{k:AV->ag->Prop}{s t u},k (aZ o) (a8 a (o::l) R)->Ev Y (jH x a n) (a8 a (o::l) R) (.Subscript (.Name (Z9 "codes") s) (.Constant (.int 0) 0 t) u) k:=λv=>Ev.sub (aj f rfl<|Ev.int<|Ix.list trivial (.inr<|ae a rfl g) (by decide) (by decide) (x:=aZ o) rfl v);show⟨Ev.sub<|b<|Ev.int<|Ix.tup (j:=0) trivial (by decide) (by decide) rfl rfl ?_⟩;show ZK (λc=>?_) λc=>?_
 .have c:o.t=eqT:=eq_of_beq c;show stM<|b ?_;show stM<|Mine.Internal.cK.AZ<|aj f rfl<|Ev.int ⟨a,(o::l).map aZ,0,rfl,.inl ⟨rfl,rfl⟩,g,by simp,?_⟩;rw[sx,sx];have w:ic n (o::l)=⟨o.t,max o.i1<|o.i2-n,o.i2,max o.j1<|o.j2-n,o.j2⟩::l:=by show(?_:bt n o::l=_);unfold bt;show aW (if_pos c) rfl
  rw[w]at h;exists(show aK (a8 a (o::l) R) a (.list<|((o::l).map aZ).set 0<|AV.tup [AV.str o.t,AV.int ↑(max o.i1<|o.i2-n),AV.int ↑o.i2,AV.int ↑(max o.j1<|o.j2-n),AV.int ↑o.j2])=a8 a (⟨o.t,max o.i1<|o.i2-n,o.i2,max o.j1<|o.j2-n,o.j2⟩::l) R from di (A:=[]) (B:=R) r);show h _<|a0.ok ⋯
 .have c:¬o.t=eqT:=λq=>by have:(o.t==Z9 "equal")=ZW:=beq_iff_eq.mpr q;show absurd (this.symm.trans c) (by decide)
  have e:ic n (o::l)=o::l:=by show(?_:bt n o::l=_);unfold bt;show aW (if_neg c) rfl
  rw[e]at h;show h _<|Sub.refl _
def wO(n)(l)(o):dF n (l++[o])=l++[bO n o]:=by unfold dF;exists Wz;dsimp only;rw[ZV,Y5,Wk,Sg _ _<|ZR _,Wc];rfl
def JQ{K:Kn}(g:Ok Y (λx=>(aw c5).names.lookup x) aY)(t:Y.env=Y8 (Z9 "SequenceMatcher.get_grouped_opcodes") (aw c5) L 218 (Zr 217))(r:l≠[])(u:l.length<=5000)(h:∀d,Sub (jH x a n) d->K.nx d (a8 a (dF n l) R)):Es Y (jH x a n) (a8 a l R) (aT eJ 4) K:=by
 ext Y L l x a n R K;obtain⟨l,o,rfl⟩:∃v o,l=v++[o]:=gh l.dropLast (l.getLast r)<|(UA r).symm;rw[wO]at h;show lx λw=>?_;show iD g t 20 _ _ _ _ ?_;have s:(a,az.list<|(l++[o]).map aZ)∈a8 a (l++[o]) R:=.head _;rw[ZV,Y5]at u;have f:∀{y:Loc}{O:ag}{k:AV->ag->Prop}{i m:Vk},k (.int (-1)) O->Ev Y y O (.UnaryOp .USub (.Constant (.int 1) 0 i) m) k:=λp=>Ev.un<|Ev.int<|Un.neg p;have b:∀{k:AV->ag->Prop}{z i m C},k (aZ o) (a8 a (l++[o]) R)->Ev Y (jH x a n) (a8 a (l++[o]) R) (.Subscript (.Name (Z9 "codes") z) (.UnaryOp .USub (.Constant (.int 1) 0 i) C) m) k:=λp=>Ev.sub (aj g rfl<|f<|Ix.last trivial (.inr<|ae a rfl s) (x:=aZ o) (by rw[ZF];show Wz ..) p);show stM<|Ev.to _ (Ev.sub<|b<|Ev.int<|Ix.tup (j:=0) trivial (by decide) (by decide) rfl rfl ⟨rfl,rfl⟩) ?_;show ZK (λc=>?_) λc=>?_
 .have c:o.t=eqT:=eq_of_beq c;show stM<|b ?_;show stM<|Mine.Internal.cK.AZ<|aj g rfl<|f ⟨a,(l++[o]).map aZ,_,rfl,.inr ⟨rfl,rfl⟩,s,by simp,?_⟩;rw[sA,sA];have D:bO n o=⟨o.t,o.i1,min o.i2<|o.i1+n,o.j1,min o.j2<|o.j1+n⟩:=by unfold bO;show aW (if_pos c) rfl
  have E:((l++[o]).map aZ).set (((l++[o]).map aZ).length-1) (aZ ⟨o.t,o.i1,min o.i2<|o.i1+n,o.j1,min o.j2<|o.j1+n⟩)=(l++[(⟨o.t,o.i1,min o.i2<|o.i1+n,o.j1,min o.j2<|o.j1+n⟩:Op)]).map aZ:=by rw[Z6,ZV,Y5,Wk,ZF,ZF,Sg _ _ (by rw[Z6];show ZR _),Z6,Wc];rfl
  rw[D]at h;show(?_:Kn.nx _ _ (aK (a8 a (l++[o]) R) a<|.list<|((l++[o]).map aZ).set (((l++[o]).map aZ).length-1)<|aZ ⟨o.t,o.i1,min o.i2<|o.i1+n,o.j1,min o.j2<|o.j1+n⟩));exists E,(show aK (a8 a (l++[o]) R) a (.list<|(l++[(⟨o.t,o.i1,min o.i2<|o.i1+n,o.j1,min o.j2<|o.j1+n⟩:Op)]).map aZ)=a8 a (l++[⟨o.t,o.i1,min o.i2<|o.i1+n,o.j1,min o.j2<|o.j1+n⟩]) R from di (A:=[]) (B:=R) w);show h _<|a0.ok ⋯
 .have c:¬o.t=eqT:=λq=>by have:(o.t==Z9 "equal")=ZW:=beq_iff_eq.mpr q;show absurd (this.symm.trans c) (by decide)
  have e:bO n o=o:=by unfold bO;show aW (if_neg c) rfl
  rw[e]at h;show h _<|Sub.refl _
def Ok.same{f i}(c:Ok X f i)(a:bq X Y):Ok Y f i:=by
 show⟨λx h=>?_,λx g j k=>?_,?_⟩
 .show ZI (c.loc x h) (λq=>?_) λd=>dt d λb e l=>?_;.show .inl (by exists a.env;show q)
  .show .inr (by exists a.env;show br b (a.wr e) l)
 .show aE (c.glob x g j k) λb e=>?_;show⟨?_,by exists a.w;show e⟩;unfold Ld at b⊢;exists a.w,a.A,a.env;show b
 .exists a.env;show c.lM
abbrev fg(a:Zw)(n:Nat)(b:List Op):Loc:=[(Z9 "group",.ref a),(Z9 "nn",.int<|n+n),(Z9 "codes",.lst<|b.map aZ),(Z9 "n",.int n)]
abbrev i7(c:Op)(a:Loc):Loc:=(Z9 "j2",.int c.j2)::(Z9 "j1",.int c.j1)::(Z9 "i2",.int c.i2)::(Z9 "i1",.int c.i1)::(Z9 "tag",.str c.t)::a
def zJ{K:GK}(e:Ok Y (λx=>(aw c5).names.lookup x) aY)(j:Y.env=Y8 (Z9 "SequenceMatcher.get_grouped_opcodes") (aw c5) L 218 (Zr 217))(k:g.length<=2000)(l:Sub (i7 c (fg gp n ls)) d)(h:∀a,Sub (fg gp n ls) a->K.nx Y a (a8 gp (g++[c]) R) b):aO A f Y d (a8 gp g R) ((bW (aT eJ 7)).drop 1) b K:=by ext Y L c gp n ls d g R b A f K;show GM.cv (Cv.sub l)<|aO.run (b1:=(bW<|aT eJ 7).drop 1) (b2:=[]) e j ?_;have i:(gp,az.list<|g.map aZ)∈a8 gp g R:=.head _;show stM<|cV Zj Zi rfl rfl rfl<|aj e rfl ⟨⟨_,.inr<|ae gp rfl i⟩,be e (n:=5) ?_⟩;show lw λm=>ax.append i (by rw[Z6,Zx];show(ak 0xc461f809e1c060180601845e10) k) ?_;show(?_:Kn.nx _ _ (aK (a8 gp g R) gp<|az.list<|g.map aZ++[aZ c]));exists(show aK (a8 gp g R) gp (.list<|g.map aZ++[aZ c])=a8 gp (g++[c]) R by rw[kW];show di (A:=[]) (B:=R) m);show aO.nil<|h _<|a0.ok ⋯
abbrev uy:List YR:=lp<|aT (bW<|aT eJ 7) 0
def JS{K:GK}(j:Ok Y (λx=>(aw c5).names.lookup x) aY)(s:Y.env=Y8 (Z9 "SequenceMatcher.get_grouped_opcodes") (aw c5) L 218 (Zr 217))(D:cb r Y)(y:g.length<=1500)(h:∀Z b d t,bq Y Z->Z.G=Y.G->Sub (fg d n l) b->t.length<=g.length+1->K.nx Z b (a8 d t R) ((bM n t i).map gT)):aO A r Y (i7 c (fg a n l)) (a8 a g R) (bW (aT eJ 7)) ((bM n g (c::i)).map gT) K:=by
 ext Y L r n l R i A c a g K;have e:¬(c.t=eqT/\2*n<c.i2-c.i1)->aO A r Y (i7 c<|fg a n l) (a8 a g R) ((bW<|aT eJ 7).drop 1) ((bM n g (c::i)).map gT) K:=λq=>by exists(show bM n g (c::i)=bM n (g++[c]) i from if_neg q);show zJ j s ((ak 0xc760f809e1c461f809e10) y) (Sub.refl _) λb u=>h Y b a (g++[c]) (.refl _) rfl u (by exists ZV;show ZR _)
 show aO.cons<|bU.ite<|bL j (n:=10) ?_;show ZK (λf=>?_) λf=>?_
 .have f:c.t=eqT:=eq_of_beq f;show ZK (λk=>?_) λk=>?_
  .have k:2*n<c.i2-c.i1:=by have:=of_decide_eq_true k;show(ai 0x724314421cc8629846f1) this
   exists(show bM n g (c::i)=(g++[bO n c])::bM n [bt n c] i from if_pos ⟨f,k⟩);have E:bO n c=⟨c.t,c.i1,min c.i2<|c.i1+n,c.j1,min c.j2<|c.j1+n⟩:=by unfold bO;show aW (if_pos f) rfl
   have F:bt n c=⟨c.t,max c.i1<|c.i2-n,c.i2,max c.j1<|c.j2-n,c.j2⟩:=by unfold bt;show aW (if_pos f) rfl
   show⟨λv=>?_,λz=>(nT z)⟩;show aO.run (b1:=uy.take 1) (b2:=uy.drop 1) j s ?_;have C:(a,az.list<|g.map aZ)∈a8 a g R:=.head _;show stM<|cV Zj Zi rfl rfl rfl<|aj j rfl ⟨⟨_,.inr<|ae a rfl C⟩,be j (n:=5) ?_⟩;show lw λG=>ax.append C (by rw[Z6,Zx];show(ak 0xc760f809e1c060180601845e10) y) ?_;rw[sA,sA];show(?_:Kn.nx _ _ (aK (a8 a g R) a<|az.list<|g.map aZ++[aZ ⟨c.t,c.i1,min c.i2<|c.i1+n,c.j1,min c.j2<|c.j1+n⟩]));rw[show aK (a8 a g R) a (.list<|g.map aZ++[aZ ⟨c.t,c.i1,min c.i2<|c.i1+n,c.j1,min c.j2<|c.j1+n⟩])=a8 a (g++[bO n c]) R by rw[kW,E];show di (A:=[]) (B:=R) G];show aO.cons<|GM.cv (j7.trans<|Cv.sub (ρ':=(Z9 "group",.lst<|(g++[bO n c]).map aZ)::i7 c (fg a n l).tail) ?_)<|bU.yield D (by exists s;rfl)<|aj j rfl ⟨rfl,λI w J=>?_⟩;.unfold ia i7 fg;simp only[Z3,Y4,mt,mr,ms,mu,if_pos,List.tail_cons];show a0.ok ⋯
   .have o:=j.same w;have p:=w.env.trans s;show aO.run (b1:=uy.drop 2) (b2:=[]) o p ?_;show stM (Ev.list<|.nil ⟨ZZ _,λd v=>?_⟩);(conv=>whnf);rw[sx,sx];show aO.nil<|zJ (gp:=d) (ls:=l) (n:=n) (g:=[]) (c:=bt n c) o p (ZZ _) ?_ λb u=>h I b d [bt n c] w J u (by rw[Y5];show nH);exists F;show a0.ok ⋯
  .have k:¬2*n<c.i2-c.i1:=by have:=of_decide_eq_false k;show(ai 0x1ee48618885ecc8619886f2) this
   show⟨λz=>(nF z),λv=>?_⟩;show aO.nil<|e λz=>k z.2
 ·have f:¬c.t=eqT:=λq=>by have:(c.t==Z9 "equal")=ZW:=beq_iff_eq.mpr q;show absurd (this.symm.trans f) (by decide)
  show⟨λz=>(nF z),λv=>?_⟩;show aO.nil<|e λz=>f z.1
def bq.mf{c b}(h:bq (X.holds a c) (Y.holds a b)):bq X Y:=⟨h.w,h.A,h.env,List.append_cancel_left<|show a++Y.held=a++X.held from h.held,h.wr,h.os⟩
def JO{K:GK}(M:Ok Y (λx=>(aw c5).names.lookup x) aY)(U:Y.env=Y8 (Z9 "SequenceMatcher.get_grouped_opcodes") (aw c5) L 218 (Zr 217))(N:cb t Y)(V:g.length<=1500)(h:∀Z b a e,bq Y Z->Z.G=Y.G->Sub (fg a n g) b->e.length<=g.length->K.nx Z b (a8 a e R) ((bM n e []).map gT)):bU A t Y (fg u n g) (a8 u [] R) (aT eJ 7) ((bM n [] g).map gT) K:=by
 ext Y L t n g R A u K;show tz (λu'=>rfl)<|aj M rfl ⟨_,rfl,λi j b y l=>∃a e,bq Y j/\j.G=Y.G/\Sub (fg a n g) b/\y=a8 a e R/\e.length<=i/\l=(bM n e<|g.drop i).map gT,(lY u ([]) (.refl _) rfl (Sub.refl _) rfl (ZZ _) rfl),?_,?_⟩
 .rintro i O j b y l v w z f⟨a,e,k,o,d,rfl,m,rfl⟩;revert w z f k o d m;ext i O j b v a e;have C:i<g.length:=by have:=(Zv.mp f).1;simpa using this
  have W:O=aZ g[i]:=by replace f:=(Z2 C)▸ZQ▸f;exists Zs f;rfl
  exists W;have p:=(M.same z).holds (hs:=v) (c:=w);have D:(j.holds v w).env=_:=z.env.trans U;have E:cb t (j.holds v w):=by show aq N ?_;clear N;intro X q1 q2;show ae X (o.trans q1) q2
  show Tg.ex p ?_;exists pb C;show GM.cv (Cv.sub<|(((((d.cc _ _).cc _ _).cc _ _).cc _ _).cc _ _))<|JS p D E ((ai 0x31d83e0278b030e443c760f809e14) V m C) λZ Q r F G H I J=>?_;rintro s S rfl;show lY r F (k.trans G.mf) ((show s.G=j.G from H).trans o) I rfl ((ai 0x6043c444f1871113c411) m J) rfl
 .rintro j b y l⟨a,e,k,o,d,rfl,m,rfl⟩;rw[Z6]at m;rw[Z6,UQ];show h j b a e k o d m
def JR(u:Ok Y (λx=>(aw c5).names.lookup x) aY)(y:Y.env=Y8 (Z9 "SequenceMatcher.get_grouped_opcodes") (aw c5) L 218 (Zr 217))(s:cb a Y)(v:g.length<=1500):aO A a Y (fg c n r) (a8 c g R) [aT eJ 8] ((bM n g []).map gT) (gb a):=by
 ext Y L a A c n r g R;have p:(c,az.list<|g.map aZ)∈a8 c g R:=.head _;have b:((g.map aZ).length:Int)<2^63:=by rw[Z6];show(ak 0xc760f809e1e06018060180601806018060180601825e10) v
 have done:aO A a Y (fg c n r) (a8 c g R) [] [] ⟨λt k w l=>aO A a t k w [] l<|gb a,(gb a).rt,(gb a).bk,(gb a).ct⟩:=aO.nil<|aO.nil ⟨rfl,s⟩;have d:bM n g []=[g]->aO A a Y (fg c n r) (a8 c g R) (lp<|aT eJ 8) ((bM n g []).map gT) ⟨λt k w l=>aO A a t k w [] l<|gb a,(gb a).rt,(gb a).bk,(gb a).ct⟩:=λe=>by
  exists e;show aO.cons<|GM.cv (j7.trans<|Cv.sub (ρ':=[(Z9 "group",.lst<|g.map aZ)]) ?_)<|bU.yield s (by exists y;rfl)<|aj u rfl ⟨rfl,λt G C=>aO.nil<|aO.nil ⟨rfl,?_⟩⟩;.unfold ia fg;simp only[Z3,Y4,mt,mr,ms,mu,if_pos];show a0.ok ⋯
  .show aq s ?_;clear s;intro D E F;show ae D (C.trans E) F
 show aO.cons<|bU.ite<|bL u (n:=12) ?_;show stM<|Tr.list (.inr<|ae c rfl p) b ⟨λc0=>?_,λc0=>?_⟩
 .have c0:g≠[]:=λe=>by clear d done p b v;subst e;cases c0
  show stM<|ax.len (.inr<|ae c rfl p) b ?_;rw[Z6];show ZK (λf=>?_) λf=>?_
  .have f:g.length=1:=by have:=eq_of_beq<|show((g.length:Int)==1)=ZW from f;show(ak 0xe89e1d09e10) this
   show aS (List.length_eq_one_iff.mp f) λo e=>?_;show stM<|Ev.sub<|Ev.sub<|aj u rfl<|Ev.int<|Ix.list trivial (.inr<|ae c rfl p) (by decide) (by decide) (x:=aZ o) (by exists e;rfl)<|Ev.int<|Ix.tup (j:=0) trivial (by decide) (by decide) rfl rfl ?_;show ZK (λm=>?_) λm=>?_;.have m:o.t=eqT:=eq_of_beq m;show ZK (λz=>(nF z)) λi=>?_;exists(show bM n g []=[]from if_pos<|.inr ⟨f,λH h=>by replace h:=e▸h;show aW (ZM.mp h) ?_;show m⟩);show⟨λz=>(nF z),λi=>done⟩
   .have m:¬o.t=eqT:=λq=>by have:(o.t==Z9 "equal")=ZW:=beq_iff_eq.mpr q;show absurd (this.symm.trans m) (by decide)
    show⟨λi=>?_,λz=>(nT z)⟩;show ZK (λi=>d<|if_neg ?_) λz=>(nT z);rintro(z|⟨i,z⟩);.show c0 z
    .show m<|z o<|e▸.head _
  .have f:¬g.length=1:=λq=>by have:((g.length:Int)==1)=ZW:=beq_iff_eq.mpr<|(ak 0xd09e1e89e10) q;show absurd (this.symm.trans f) (by decide)
   show⟨λi=>?_,λz=>(nT z)⟩;show ZK (λi=>d<|if_neg ?_) λz=>(nT z);rintro(z|⟨z,i⟩);.show c0 z
   .show f z
 .have c0:g=[]:=by clear d done p b v;cases g with|nil=>rfl;|cons o g=>cases c0
  exists(show bM n g []=[]from by show aW c0 ?_;rfl);show⟨λz=>(nF z),λi=>done⟩
def adl(n)(l):(ic n l).length=l.length:=by cases l<;>rfl
def adm(n)(l):(dF n l).length=l.length:=by
 unfold dF;split;.rfl
 .show aW List.length_set rfl
def cb.of(b:cb a X)(h:Y.G=X.G):cb a Y:=by show aq b ?_;clear b;intro c d e;show ae c (h.trans d) e
def JN{B:YM}{s:List (ZD×AV)}{n:Nat}(C:f1 B X Y (Z9 "SequenceMatcher.get_grouped_opcodes") (aw c5) (aA c5) 218 (.ref 217))(gn:cb k Y)(j:B.depth+7<ZU)(hu:B.units+10<Xo)(I:dw x m r)(hw:w=Y.w)(F:mF w h a b s)(fm:h.lookup (Z9 "matching_blocks")=Z7 .none)(fo:h.lookup (Z9 "opcodes")=Z7 .none)(G:h.lookup (Z9 "get_matching_blocks")=Z4)(t:h.lookup (Z9 "get_opcodes")=Z4)(hn:b.length<=1000)(H:a.length<=1100)(J:h.length<=800)(hs:(bF a b).Pairwise λa b=>a.i<b.i)(M:(bF a b).length<64)(u:(cF a b).length<=400)(E:bH a b≠[]):aO B k Y ([Z9 "self",Z9 "n"].zip [.ref x,.int n]) (aN x m r h []) (aA c5) ((cy n (bH a b)).map gT) (gb k):=by
 ext X Y k x m r w h a b B s n;have i:=C.ok ⋯;show aS C.env λL p=>?_;have c:(bH a b).length<=800:=ZY (vT _ _ _)<|Nat.mul_le_mul_left 2 u;have hd:Y.A.depth+6<ZU:=by exists C.A;show j
 have N:Y.A.units+7<Xo:=by exists C.A;show hu
 show aO.run (b1:=eJ.take 2) (b2:=eJ.drop 2) i p ?_;show stM<|tr (f:=210) (λu'=>by kernel_rfl) (x5 _) rfl rfl (y:=Z4) (by rw[Y0,Zl];kernel_rfl) rfl<|aj i rfl ⟨x,m,_,rfl,I.inst,t,aaV (O:=[]) hd N I hw F fm fo G hn H J hs M u λg v=>?_⟩;have hm:∀{R:ag}{l:List Op},(g,az.list<|l.map aZ)∈a8 g l R:=λ{R l}=>.head _;show(?_:aO B k Y ((Z9 "codes",.ref g)::[Z9 "self",Z9 "n"].zip [.ref x,.int n]) (a8 g (bH a b)<|aN x m r v []) (eJ.drop 2) _ _);generalize aN x m r v []=R;generalize bH a b=l at E c⊢;show aO.cons<|bU.ite<|bL i (n:=6) ?_;show stM<|Tr.list (.inr<|ae g rfl hm) (by rw[Z6];show(ak 0x301869e1e06018060180601806018060180601825e10) c) ?_;have ne:(!(l.map aZ).isEmpty)=ZW:=by cases l with|nil=>show absurd rfl E|cons o l=>rfl
 exists ne;show⟨λz=>(nF z),λu'=>?_⟩;show aO.nil ?_;show GM.cv (Cv.sub (ρ':=jH x g n)<|a0.ok ⋯) ?_;have Q:(ic n l).length=l.length:=adl n l;show aO.cons<|bU.plain<|Es.post<|JP i p E λA d=>b7 _ _ (Cv.sub d) ?_;have c0:ic n l≠[]:=λe=>E<|UF (by exists ZJ Q,e;rfl);show aO.cons<|bU.plain<|Es.post<|JQ i p c0 ((af 0x180c34f16841c261d815e11) c Q) λA d=>b7 _ _ (Cv.sub d) ?_;have S:(dF n<|ic n l).length=l.length:=(adm _ _).trans Q;unfold cy;generalize dF n (ic n l)=U at S⊢;show aO.run (b1:=(eJ.drop 5).take 2) (b2:=eJ.drop 7) i p ?_;show stM (Ev.list<|.nil ⟨ZZ _,λD V=>?_⟩);(conv=>whnf);have W:D≠g:=λe=>V (by exists e;show .head _);show(?_:aO B k Y ((Z9 "group",.ref D)::(Z9 "nn",.int<|n+n)::jH x g n) ((D,.list [])::a8 g U R) (eJ.drop 7) _ _);show GM.cv ((Cv.perm<|T4 (g,.list<|U.map aZ) (D,.list []) R).trans<|j7.trans<|Cv.sub (ρ':=fg D n U) ?_) ?_;.unfold ia jH;simp only[Z3,Y4,mt,mr,ms,mu,if_neg W,if_pos];show a0.ok ⋯
 .show aO.cons<|GM.post<|JO i p gn ((af 0x180c34f16841c760f809e11) c S) λZ A gp' g' sm eG d rH=>b7 _ _ (Cv.sub d) ?_;show JR (i.same sm) (sm.env.trans p) (gn.of eG)<|(ai 0xc061a78b421e061c760f809e14) c S rH
def Gf(P):(ar P).get? 253=Z7 vH:=⋯
def Ge(P):(ar P).get? 252=Z7 B8:=⋯
abbrev b8(i j:Int):ZD:=if j=1 then Z9 (toString<|i+1)else Z9 (toString<|if j≠0 then i+1 else i)++Z9 ","++Z9 (toString j)
def t8:(Z9 ",").length=1:=by decide
def k8(c:0<=i)(a:i<10^6)(d:0<=j)(b:j<10^6):(b8 i j).length<=30:=by
 have e:=js (n:=i+1) (<-pT c) (<-vr a);have g:=js (n:=i) (<-nQ c) (<-nU a);have f:=js (n:=j) (<-nQ d) (<-nU b);unfold b8;split;.show(ak 0xc2de1c7de10) e
 .split<;>(rw[Za,Za,t8];show Ar.Fs (by assumption) f)
def zp{X:Fx}(h:b.any bN=ZX)(c:b.length<29):((WR a (Yd b X.env)).all (λx=>!x.1)&&(PN a (RS [] X.env)).all (λx=>x.1.isSome)&&decide (b.length+([]:List QP).length+(if([]:List QP).isEmpty then 0 else 1)<30))=ZW:=by
 have d:(WR a<|Yd b X.env).all (λx=>!x.1)=ZW:=by exists ZJ List.not_any_eq_all_not,gr h;rfl
 have e:(PN a<|RS [] X.env).all (λx=>x.1.isSome)=ZW:=rfl;exists d,e;simp only[Bool.and_self,Tu,decide_eq_true_eq];show(ak 0x33e7873f7c42f885e10) c
def mE(i:(e::f).any bN=ZX)(n:(e::f).length<29)(b:(a.endLine==c.line)=ZW)(h:bm X g O (e::f) λl d=>ax X g d (.builtin "str.format") (.str x::l) k):Ev X g O (.Call (.Attribute (.Constant (.str x) j m) (Z9 "format") a) (e::f) [] c) k:=xj (name:=Z9 "format") (id:="str.format") PySem.F.slot_str_format_m PySem.F.type_str_format_m rfl (zp i n) b i (Ev.str<|ae x rfl h)
def zx(b:X.A.depth<ZU)(i:0<=s)(f:s<=e)(j:e<=100000)(d:k (.str (b8 s (e-s))) O):ax X l O (.ref 253) [.int s,.int e] k:=by
 ext s e k X l O;show j6 (OL:=[]) (O':=O) (nm:=Z9 "_format_range_unified") (name:=Z9 "_format_range_unified") (params:=cY oH) (body:=aA oH) (scope:=aw oH) (pm:=_) (ca:=252) (doc:=_) (ns:=[Z9 "start",Z9 "stop"]) b (Gf _) rfl (Ge _) rfl rfl (λn h=>?_) dk dk dk rfl rfl rfl λY C=>?_;.show kS h λm m=>rfl
 .ext Y;show C.run ⋯ λL o=>?_;ext L;have g:=C.ok ⋯;show ZK (λc=>?_) λc=>?_;.have c:e-s=1:=eq_of_beq c;rw[b8,if_pos c]at d;show stM<|mE rfl (by decide) rfl<|.cons rfl<|aj g rfl<|.nil<|Jh (<-pT i) (<-(dK 0x6c30b405023c4ee89f20b84ee061581a12829f113c2e1) j c) ?_;show d
  .have c:¬e-s=1:=λq=>by have p:(e-s==1)=ZW:=beq_iff_eq.mpr q;show absurd (p.symm.trans c) (by decide)
   rw[b8,if_neg c]at d;show ZK (λa=>?_) λa=>?_
   .have a:e-s=0:=by simpa using a
    rw[if_neg (by exists a;decide)]at d;show stM<|mE rfl (by decide) rfl<|.cons rfl<|aj g rfl<|.cons rfl<|aj g rfl<|.nil<|zv (<-(jb 0xd85c17ee427c44f0b82f0) i) (<-(dK 0x36185a02811e27742f905c277030ac0d09414f909f113c2e1) j a) (<-(dK 0xe85f21382edc84e0b82f0) a) (<-(dK 0xe85f21382ee061581a12829f21382e0) a) ?_;rw[Int.add_sub_cancel];show d
   .have a:e-s≠0:=by simpa using a
    rw[if_pos a]at d;show stM<|mE rfl (by decide) rfl<|.cons rfl<|aj g rfl<|.cons rfl<|aj g rfl<|.nil<|zv (<-pT i) (<-(dK 0xd89c176c30b405023c4ee061581a12829f113c2e1) f j) (<-(dK 0x1b0b84edc84e0b82f0) f) (<-(dK 0xd89c17ec30b405023c2ee061581a12829f21382e1) i j) ?_;show d
def Dk{s:ZL}{x:ZD}{t:O6}(e:s.heap.SetOf (strKind pw w) D S n)(f:n+1<Ti)(h:∀a g b,YG D s.heap a->a.SetOf (strKind pw w) D (λy=>S y||decide (y=x)) (if S x then n else n+1)->Q b {s with heap:=a,toks:=g}):ZE (model pw w) A (setAdd D (.str x t)) Q E s:=by show Zy<|Z8<|(strKind pw w).pyHash (ny _ _ _) ?_;show wpAny_setAddHashed_of (s:={s with toks:=s.toks+1}) (ny _ _ _) rfl e f λa c d=>h a _ _ c d
def acR(j:s.heap.SetOf (strKind pw w) D S n)(h:∀b,YG D s.heap b->b.SetOf (strKind pw w) D S n->Q () {s with heap:=b}):ZE (model pw w) A (setUnled D) Q E s:=by
 ext D w S n Q A E s;obtain⟨o,k,m,t,c,d,hd,e,a,g,i,l⟩:=j;show Z8<|W0 c hd i ?_;show TJ c hd ?_<|fits_of_scanBound g;have f:({t with led:=ZX}:To).fits k.size=ZW:=by cases t;show i
 show aE (SetOf_store (knd:=strKind pw w) c d hd e a g f) λp lS=>?_;rw[l]at lS;show h _ (YN ..) lS
def xM{W Y}(Z:Ok X W Y){p1 G p3 M N:Vk}(hx:H.lookup x=Z7 (.str t))(f:X.env.code=.ref c)(hc:(ar X.w.params).get? c=Z7 A)(C:A.data=.fields vs)(hm:UP .In (.Set [.Constant (.str n) I M,.Constant (.str p) J N] 0 G)=ZW)(h:V (t==n||t==p) O):Ts X H O (.Compare (.Name x p1) [.In] [.Set [.Constant (.str n) I M,.Constant (.str p) J N] 0 G] p3) V:=by revert Z hx f hc C hm h;revert X H O V W Y x t n p c A vs I J p1 G p3 M N;injections X c A vs n I p J V H;injections O x t W Y p1 G p3 M N;intro Z hx f hc C hm h;show(λE s F=>by
 show kdi_test hm<|wm (aj Z hx (k:=λa j=>a=.str t/\j=O) ⟨rfl,rfl⟩ E s F) λv d z=>ba z λa j l m r z=>aE z λea eO=>?_;subst ea eO;cases r.iS;rename_i tv;rw[arm_eval_Set];show Z8<|YO ?_;have R:Frag.In [(c,A)] d.heap:=λa o e=>by
  rw[ZG]at e;split at e;.rename_i q;cases e;exists beq_iff_eq.mp q;show l.base _ _ hc
  .cases e
 have g:kdsCode [(c,A)] X.env.code=ZW:=by exists f;unfold kdsCode;dsimp only;exists List.lookup_cons_self;obtain⟨cl,dc,da,sl⟩:=A;cases C;rfl
 show Z8<|kds_main R g λb=>?_;revert l h F m tv r z R g;ext E s d j t_1 b;show kds_core (ts:=(evalEach [.Constant (.str n) I M,.Constant (.str p) J N] X.env).map λt=>do let v<-t;W1 G;pure v) rfl rfl (by show(?_:2<=30);decide) rfl λD=>?_;ext D;show kds_all G _ _ _ ?_;have new:(d.heap.push {cls:=.type "set",dict:=Z4,data:=.set #[] 0 (.fresh 0 0 D)}).SetOf (strKind pw X.w) d.heap.objs.size (λu'=>ZX) 0:=(RW D).setOf (Zu _ rfl) (by decide);have nD:∀b o,d.heap.get? b=Z7 o->b≠d.heap.objs.size:=λb o e=>X8<|Zg e;have S:∀{x:ZD}{i:Nat}{q:Vk}{Q:ZN->ZL->Prop}{h:Xq}{tk:Nat},(∀u tk',Q (.str x u) {d with heap:=h,toks:=tk'})->ZE (model pw X.w) X.A (eval (.Constant (.str x) i q) X.env) Q E {d with heap:=h,toks:=tk}:=λhq u' u' u'=>hq _ _;show S λu1 tk1=>?_;show S λu2 tk2=>?_;show kds_fill_cons<|Dk (w:=X.w) new (by decide) λh2 tk3 b3 sb2 lS=>?_;show kds_fill_cons<|Dk (w:=X.w) lS (by change _<_;split<;>decide) λh3 U b4 sb3 Kb=>?_;show kds_fill_nil rfl ?_;show kdi_mark<|acR (w:=X.w) Kb λh4 mj Kc=>?_;have y:∀b o,d.heap.get? b=Z7 o->h4.get? b=Z7 o:=λb o e=>(mj.2 b<|nD b o e).trans<|(sb3.2 b<|nD b o e).trans<|(sb2.2 b<|nD b o e).trans<|ZT _ e;have fin:Fr X H _ {d with heap:=h4,toks:=U}:=l.keeps y;show wpAny_inSet_of (s:={d with heap:=h4,toks:=U}) (knd:=Zz pw X.w) (ny _ _ _) rfl Kc ?_;show Ve ⟨_,fin.grow<|c7.tok _ _,m.trans<|am.of y,?_⟩;have e:((ZX||decide (t=n))||decide (t=p))=(t==n||t==p):=by rw[Qa];simp
 rw[<-e]at h;show h)
def Gh(P):(ar P).get? 268=Z7 pV:=⋯
def Gg(P):(ar P).get? 267=Z7 Ca:=⋯
def xe(d:Ld X f b)(h:k (.raw b) O):Ev X c O (.Name f a) k:=λE s F=>d E s a _ F.base<|.done F (.refl _) (.raw _) h
def aB.Ln(r:aB D h v (.raw w)):v=w:=by ext D h v w;cases r;rfl
def w8(h:k (.bool ZW) O):ax X a O (.builtin "isinstance") [.str x,.raw (.type "str")] k:=by intro E s b F R;revert h F R;injections k X a O x E s b;intro h F R;obtain⟨c,d⟩:=R.i2;cases c.iS;cases d.Ln;show IsiPair.str_str<|.done F (.refl _) (.bool _) h
def ch.tup(h:Ev X N O e λa d=>∃l,a=.tup l/\k l d λW=>True):ch X N O S e k:=λE s F=>by show wm (h E s F) λx f z=>ba z λa d p g r z=>aq z λl e t=>?_;subst e;cases r.iT with|@mk ad Y n hd u R=>
  show wpAny_pyIter_tuple (bf _ u rfl n rfl) ?_;show aE (p.pA (h':=f.heap) (o:=ib ad 0) (tk:=f.toks) rfl) λw c=>?_;have j:=R.move c;show⟨l,_,_,[(f.heap.objs.size,ib ad 0)],d,qi (λi o=>o=ib ad i) (λi o h=>by subst h;show bX ("tuple_iterator") _ rfl rfl<|by decide) (λi Z o D s Q E C G m A H=>?_) λo D s Q E G m A H=>?_,(ae _ rfl rfl),w,g.trans c,t⟩;.subst m;show aq (j.get C) λv U V=>?_;show Bo G (A _ _ (c _ _ hd u).1 (c _ _ hd u).2).2 rfl (x:=v) (by simpa using U) λI y J=>H v I s.toks _ (V.move A) y rfl λb o m e=>J.extBut b o m e
  .subst m;show Bm X.hh G (A _ _ (c _ _ hd u).1 (c _ _ hd u).2).2 rfl (by have:=R.size;simp[this]) λI M=>H I s.toks λb o m e=>M b o m e
def HF{a b ss:List ZD}{K:Kn}(k:Ok Y (λx=>(aw fS).names.lookup x) aY)(l:∃L,Y.env=Y8 (Z9 "_check_types") (aw fS) L 268 (Zr 267))(w:Ld Y (Z9 "str") (.type "str"))(A:Ld Y (Z9 "isinstance") (.builtin "isinstance"))(M:a.length<=1100)(N:b.length<=1000)(h:∀f,K.nx f O):Ex Y [(Z9 "a",.lst (a.map .str)),(Z9 "b",.lst (b.map .str)),(Z9 "args",.tup (ss.map .str))] O (aA fS) K:=by
 ext Y O a b ss K;show aS l ?_;clear l;intro L l;ext L;have one:∀{x:ZD}{n:List ZD}{C D F G H I:Vk}{p:Loc}{r:Bool->ag->Prop},p.lookup x=Z7 (.lst<|n.map .str)->n≠[]->r ZW O->Ts Y p O (.Call (.Name (Z9 "isinstance") C) [.Subscript (.Name x D) (.Constant (.int 0) 0 F) G,.Name (Z9 "str") H] [] I) r:=λ{x n C D F G H I p r}t j R=>by
  obtain⟨y,n,rfl⟩:∃y u,n=y::u:=by cases n with|nil=>show absurd rfl j|cons y u=>show gh y u rfl
  show Ts.plain ?_ rfl;show Ev.qT rfl A (.bi _) ?_;show .cons rfl<|Ev.sub<|aj k t<|Ev.int<|Ix.list trivial .lst (by decide) (by decide) (x:=.str y) rfl ?_;show .cons rfl<|xe w<|.nil<|w8 ?_;show .bool R
 show fx (b1:=(aA fS).take 1) (b2:=(aA fS).drop 1) k l ?_;have d:Ex Y [(Z9 "a",.lst<|a.map .str),(Z9 "b",.lst<|b.map .str),(Z9 "args",.tup<|ss.map .str)] O ((aA fS).drop 1) K:=by
  show fx (b1:=((aA fS).drop 1).take 1) (b2:=(aA fS).drop 2) k l ?_;have d:Ex Y [(Z9 "a",.lst<|a.map .str),(Z9 "b",.lst<|b.map .str),(Z9 "args",.tup<|ss.map .str)] O ((aA fS).drop 2) K:=by
   show run k l ?_;show stM<|d5 (λg=>rfl)<|ch.tup<|aj k rfl<|nw _ rfl (λi f o=>o=O) rfl (λg g g g=>trivial) ?_ ?_
   .rintro i J f o S c v rfl;ext i J f o S;obtain⟨x,g,rfl⟩:∃x,x∈ss/\J=.str x:=by have U:=YV v;show aq (Z0.mp U) λx t e=>?_;show ae x t e.symm
    show Tg.ex k.holds ?_;show run k.holds l ?_;show stM<|Ts.plain (Ev.qT rfl (λE s m Q=>A E s m Q) (.bi _)<|.cons rfl<|aj k.holds rfl<|.cons rfl<|xe (λE s m Q=>w E s m Q)<|.nil<|w8<|.bool ?_) rfl;show⟨λz=>(nF z),λg=>?_⟩;show rfl
   .rintro f o rfl;show h f
  show stM<|Tr.list .lst (by rw[Z6];show sq N) ⟨λc=>?_,λc=>?_⟩
  .have j:b≠[]:=by rintro rfl;cases c
   show stM<|one rfl j ?_;show ZK (λz=>(nF z)) λg=>⟨λz=>(nF z),λg=>d⟩
  .show⟨λz=>(nF z),λg=>d⟩
 show stM<|Tr.list .lst (by rw[Z6];show(ak 0xc3603809e1e06018060180601806018060180601825e10) M) ⟨λc=>?_,λc=>?_⟩
 .have j:a≠[]:=by rintro rfl;cases c
  show stM<|one rfl j ?_;show ZK (λz=>(nF z)) λg=>⟨λz=>(nF z),λg=>d⟩
 .show⟨λz=>(nF z),λg=>d⟩
def HG{a b:List ZD}{H I J M N:ZD}(d:X.A.depth<ZU)(U:a.length<=1100)(V:b.length<=1000)(W:k .none O):ax X S O (.ref 268) [.lst (a.map .str),.lst (b.map .str),.str H,.str I,.str J,.str M,.str N] k:=by
 intro E s vs F R;revert d U V W F R;injections k X S O a b H I J M N E s vs;intro d U V W F R;have m:vs.length=7:=R.length;revert R;show Mv m λZ v2 p u v w y R=>?_;ext Z v2 p u v w y;obtain⟨r1,R⟩:=R.iC;obtain⟨r2,R⟩:=R.iC;obtain⟨Q,f,ct,uN,uL,uM⟩:∃Q f ct,(ar X.w.params).get? 267=Z7 Q/\Q.data=.fields f/\f[1]?=Z7 (.str (Z9 "_check_types") ct):=rO _ _ _ (Gg _) rfl rfl;show Xs<|Sj (fd:=fdOf pV) (body:=aA fS) d (F.base _ _<|Gh _) rfl rfl rfl rfl (pD 267 Q f ct rfl (F.base _ _ uN) uL uM) ?_;have eb:RU (fdOf pV) ⟨[Z,v2,p,u,v,w,y],[]⟩=newTuple [p,u,v,w,y]>>=λt=>pure [(Z9 "a",Z),(Z9 "b",v2),(Z9 "args",t)]:=⋯;exists eb;show Z8<|Ug (Z5 ?_) (by exists Zx;show Yq rfl);generalize hT:s.heap.objs.size=T;generalize ho:({cls:=.type "tuple",data:=.seq [p,u,v,w,y].toArray}:Ze)=o;have c:∀b ob,s.heap.get? b=Z7 ob->(s.heap.push o).get? b=Z7 ob:=λb ob e=>ZT _ e;have g:Fr X S ([]++O) {s with heap:=s.heap.push o}:=F.keeps c;have nT:T∉aa X ([]++O):=λq=>by have:=F.lt T q;replace this:=hT▸this;show YH _ this
 have rT:aB (aa X<|[]++O) (s.heap.push o) (.ref T) (.tup<|[H,I,J,M,N].map .str):=.tup (n:=0) (vs:=[p,u,v,w,y].toArray) nT (by exists ZJ ho,ZJ hT;show Zu _ rfl)<|R.keeps c;show AJ (OL:=[]) (O':=O) (k:=λa h=>a=.none/\h=O) (s:={s with heap:=s.heap.push o}) (fa:=268) (ca:=267) (name:=Z9 "_check_types") (body:=aA fS) (scope:=aw fS) (ns:=[Z9 "a",Z9 "b",Z9 "args"]) g (.cons (r1.keeps c)<|.cons (r2.keeps c)<|.cons rT .nil) (λA i=>?_) dk dk dk rfl λY C=>?_;.show TW rfl A λenv he s' x=>?_;subst he;show⟨(n9 g.base).keeps x.toInCall.keep,codeAny_func ?_⟩;show ec x.done λD tk j3 j=>?_;subst j3;show XT (i D tk ⟨x.toInCall.ns,x.toInCall.keep,x.toInCall.fresh⟩ ⟨x.cell,x.apart,x.above⟩) (λfl s' z=>?_) λj j z=>z.elim;obtain⟨a',h,G,l,r,ea,eO⟩:=z;cases ea;show⟨.none,_,G,(am.of c).trans l,r,eO.symm▸W⟩
 .show(HF (ss:=[H,I,J,M,N]) (C.ok ⋯) (by show aq C.env λL e j=>?_;show⟨L,e⟩) (Ld.b (C.glob ⋯) ⋯ (λj=>by kernel_rfl) (λj=>by kernel_rfl)) (Ld.b (C.glob ⋯) ⋯ (λj=>by kernel_rfl) (λj=>by kernel_rfl)) U V λρ'=>?_);show⟨rfl,rfl⟩
def tU(P):(ar P).get? 260=Z7 B9:=⋯
abbrev mi(a:ZD)(x:ZD):AV:=.str<|a++x
def acO(c:b.lookup (Z9 "line")=Z4):Sub b ((Z9 "line",a)::b):=λx v e=>by
 exists ZG;split;.rename_i q;replace e:=c▸(beq_iff_eq.mp q)▸e;cases e
 .show e
def vg{D:Array YD->Prop}{E}{g:List ZD}{K:GK}(ok:Ok Y E aY)(u:iM E (Z9 "line")=ZW)(S:Y.env.scope.isCoroutine=ZX)(gn:cb D Y)(hl:m.lookup (Z9 "line")=Z4)(hz:∀x∈g,x.length<=100)(U:t.length<=10)(hf:∀x,Yb f Y.env x=pure x)(o:Ev Y m O f λa V=>a=.lst (g.map .str)/\V=O)(h:∀Z b,bq Y Z->Z.G=Y.G->Sub m b->K.nx Z b O d):bU A D Y m O (.For (.Name (Z9 "line") H) f [.Expr (.Yield (Z7 (.BinOp (.Constant (.str t) G I) .Add (.Name (Z9 "line") J) M)) N) Q] [] R) (g.map (mi t)++d) K:=by
 revert A D Y m O E g t d f K G H I J M N Q R;injections Y f m O d A H t G;ext I J M N Q R D E g K;show tz hf<|o.mono λa V e=>⟨_,e.1,λi n b k p=>bq Y n/\n.G=Y.G/\Sub m b/\k=O/\p=(g.drop i).map (mi t)++d,(jJ (.refl _) rfl (Sub.refl _) e.2 rfl),?_,?_⟩
 .rintro i av n b k p hs cc W l⟨w,F,j,rfl,rfl⟩;ext a V i av n b k hs;have X:i<g.length:=by have:=(Zv.mp l).1;simpa using this
  have e2:av=.str g[i]:=by replace l:=(Z2 X)▸ZQ▸l;exists Zs l;rfl
  exists e2;have y:=(ok.same W).holds (hs:=hs) (c:=cc);show Tg.name (qf y u) ?_;exists pb X,Z3,XI;have z:Sub ((Z9 "line",.str g[i])::m) (dM b (Z9 "line")<|.str g[i]):=λx v e=>by
   exists l5;rw[ZG]at e;split at e;.rename_i q;exists if_pos<|beq_iff_eq.mp q;show e
   .rename_i q;exists(if_neg<|by simpa using q);show j x v e
  show aO.cons<|GM.cv (Cv.sub z)<|bU.yield (gn.of F) (by show(?_:n.env.scope.isCoroutine=ZX);exists W.env;show S)<|Ev.bin<|Ev.str<|aj y rfl<|ie (by have:=hz g[i]<|S4 X;exists Zx;show(af 0xc2de1c160478b0180601806117c4411) U this) ⟨rfl,λtN r s=>aO.nil ?_⟩;rintro C HJ rfl;show jJ (W.trans r.mf) ((show C.G=n.G from s).trans F) (Sub.trans (acO hl)<|Sub.refl _) rfl rfl
 .rintro n b k p⟨w,F,j,rfl,rfl⟩;rw[Z6,UQ,Y4,WY];show h n b w F j
abbrev fw:ZD:=Z9 "replace"
abbrev ky:ZD:=Z9 "delete"
abbrev i9:ZD:=Z9 "insert"
abbrev hW(a b:List ZD)(o:Op):List AV:=if o.t=eqT then((a.drop o.i1).take<|o.i2-o.i1).map (mi<|Z9 " ")else(if o.t=fw\/o.t=ky then((a.drop o.i1).take<|o.i2-o.i1).map (mi<|Z9 "-")else[])++(if o.t=fw\/o.t=i9 then((b.drop o.j1).take<|o.j2-o.j1).map (mi<|Z9 "+")else[])
structure qQ(a b:List ZD)(σ:Loc):Prop where
 a:σ.lookup (Z9 "a")=some (.lst (a.map .str))b:σ.lookup (Z9 "b")=some (.lst (b.map .str))line:σ.lookup (Z9 "line")=none
 tag:σ.lookup (Z9 "tag")=none
 i1:σ.lookup (Z9 "i1")=none
 i2:σ.lookup (Z9 "i2")=none
 j1:σ.lookup (Z9 "j1")=none
 j2:σ.lookup (Z9 "j2")=none
def qh(c:Sub a b)(d:a.lookup n=Z4):Sub a ((n,v)::b):=λx w e=>by
 exists ZG;split;.rename_i q;replace e:=d▸(beq_iff_eq.mp q)▸e;cases e
 .show c x w e
def wI(U:qQ a b c):Sub c (i7 o c):=qh (qh (qh (qh (qh (Sub.refl _) U.tag) U.i1) U.i2) U.j1) U.j2
def wu{e f}(c:Ok Y e f){d:List ZD}{i j:Nat}(n:b.lookup x=Z7 (.lst (d.map .str)))(o:b.lookup y=Z7 (.int i))(p:b.lookup z=Z7 (.int j))(r:d.length<=1100):Ev Y b O (.Subscript (.Name x g) (.Slice (Z7 (.Name y h)) (Z7 (.Name z k)) Z4 l) m) λa s=>a=.lst (((d.drop i).take (j-i)).map .str)/\s=O:=by show Ev.slice<|aj c n<|aj c o<|ae _ rfl<|aj c p<|ae _ rfl ⟨_,.lst,by decide,by rw[Z6,Zx];show(ak 0xc3603809e1c060180601845e10) r,?_,rfl⟩;rw[pick_from _ _ _ (Yy i) (Yy j),Zm,Zm,UM,VM]
abbrev D9:List YR:=bW<|aT (bW<|aT (aA cP) 3) 5
def Ec{K:GK}(k:Ok Y (λx=>(aw cP).names.lookup x) aY)(r:Y.env=Y8 (Z9 "unified_diff") (aw cP) L 261 (Zr 260))(s:cb g Y)(U:qQ a b f)(t:b.length<=1000)(l:∀x∈b,x.length<=100)(u:Sub (i7 o f) j)(h:∀Z e,bq Y Z->Z.G=Y.G->Sub f e->K.nx Z e O d):aO A g Y j O (D9.drop 2) ((if o.t=fw\/o.t=i9 then((b.drop o.j1).take (o.j2-o.j1)).map (mi (Z9 "+"))else[])++d) K:=by
 ext Y L g a b f o j O d A K;have m:Y.env.scope.isCoroutine=ZX:=by exists r;rfl
 have v:∀i n,∀x∈(b.drop i).take n,x.length<=100:=λi n x w=>l x<|X3<|X2 w;show GM.cv (Cv.sub u)<|aO.cons<|bU.ite<|xM k rfl (c:=260) (by exists r;rfl) (tU _) rfl rfl ⟨λc=>?_,λc=>?_⟩
 .have c:o.t=fw\/o.t=i9:=by rw[VI,beq_iff_eq,beq_iff_eq]at c;show c
  exists if_pos c;show aO.cons<|vg k rfl m s (show(i7 o f).lookup (Z9 "line")=Z4 from U.line) (v _ _) dk (λC=>rfl) (wu k U.b rfl rfl<|(ak 0x309881e1c3603809e10) t) λZ e y z p=>?_;show aO.nil<|aO.nil<|h Z e y z<|(wI U).trans p
 .have c:¬(o.t=fw\/o.t=i9):=λq=>by
   have:(o.t==Z9 "replace"||o.t==Z9 "insert")=ZW:=by rw[VI,beq_iff_eq,beq_iff_eq];show q
   show absurd (this.symm.trans c) (by decide)
  exists if_neg c;show aO.nil<|aO.nil<|h Y _ (.refl _) rfl<|wI U
def adz{K:GK}(g:Ok Y (λx=>(aw cP).names.lookup x) aY)(u:Y.env=Y8 (Z9 "unified_diff") (aw cP) L 261 (Zr 260))(v:cb y Y)(U:qQ a b p)(F:a.length<=1100)(G:b.length<=1000)(z:∀x∈a,x.length<=100)(j:∀x∈b,x.length<=100)(h:∀Z e,bq Y Z->Z.G=Y.G->Sub p e->K.nx Z e O d/\K.ct Z e O d):aO A y Y (i7 o p) O D9 (hW a b o++d) K:=by
 ext Y L y a b p O d A o K;have r:Y.env.scope.isCoroutine=ZX:=by exists u;rfl
 have s:(i7 o p).lookup (Z9 "line")=Z4:=U.line;have H:∀i n,∀x∈(a.drop i).take n,x.length<=100:=λi n x C=>z x<|X3<|X2 C;have J:∀i n,∀x∈(b.drop i).take n,x.length<=100:=λi n x C=>j x<|X3<|X2 C;unfold hW;show aO.cons<|bU.ite<|bL g (n:=6) ?_;show ZK (λc=>?_) λc=>?_;.have c:o.t=eqT:=eq_of_beq c;exists if_pos c;show aO.cons<|vg g rfl r v s (H _ _) dk (λI=>rfl) (wu g U.a rfl rfl F) λZ e t w D=>?_;show aO.cons<|bU.plain<|Es.cont (h Z e t w<|(wI U).trans D).2
 ·have c:¬o.t=eqT:=λq=>by have Q:(o.t==Z9 "equal")=ZW:=beq_iff_eq.mpr q;show absurd (Q.symm.trans c) (by decide)
  rw[if_neg c,ZA];show aO.nil ?_;show aO.cons<|bU.ite<|xM g rfl (c:=260) (by exists u;rfl) (tU _) rfl rfl ⟨λc=>?_,λc=>?_⟩
  .have c:o.t=fw\/o.t=ky:=by rw[VI,beq_iff_eq,beq_iff_eq]at c;show c
   exists if_pos c;show aO.cons<|vg g rfl r v s (H _ _) dk (λI=>rfl) (wu g U.a rfl rfl F) λZ e t w D=>?_;show aO.nil<|Ec (g.same t) (t.env.trans u) (v.of w) U G j D λE f k l m=>(h E f (t.trans k) (l.trans w) m).1
  ·have c:¬(o.t=fw\/o.t=ky):=λq=>by
    have Q:(o.t==Z9 "replace"||o.t==Z9 "delete")=ZW:=by rw[VI,beq_iff_eq,beq_iff_eq];show q
    show absurd (Q.symm.trans c) (by decide)
   exists if_neg c;show aO.nil<|Ec g u v U G j (Sub.refl _) λE f k l m=>(h E f k l m).1
abbrev mw(a b:List ZD)(n:Nat)(c:Bool):Loc:=[(Z9 "started",.bool c),(Z9 "lineterm",.str<|Z9 "\n"),(Z9 "n",.int n),(Z9 "tofiledate",.str<|Z9 ""),(Z9 "fromfiledate",.str<|Z9 ""),(Z9 "tofile",.str<|Z9 ""),(Z9 "fromfile",.str<|Z9 ""),(Z9 "b",.lst<|b.map .str),(Z9 "a",.lst<|a.map .str)]
abbrev pu(f l:Op):AV:=.str<|Z9 "@@ -"++b8 f.i1 (l.i2-f.i1)++Z9 " +"++b8 f.j1 (l.j2-f.j1)++Z9 " @@"++Z9 "\n"
structure f2(g:List Op)(f l:Op):Prop where
 hf:g.head?=some f
 hl:g.getLast?=some l
 i:f.i1<=l.i2
 j:f.j1<=l.j2
 iz:l.i2<=2000
 jz:l.j2<=2000
 len:g.length<=5000
abbrev gg(a b:List ZD)(g:List Op):List AV:=(match g.head?,g.getLast? with
 |some f,Z7 l=>[pu f l]|_,_=>[])++g.flatMap (hW a b)
def Lf(G:f2 g f l):gg a b g=pu f l::g.flatMap (hW a b):=by unfold gg;exists G.hf,G.hl;rfl
abbrev H1:AV:=.str<|Z9 "--- \n"
abbrev H2:AV:=.str<|Z9 "+++ \n"
abbrev eB(a b:List ZD)(c:List (List Op)):List AV:=if c=[]then[]else H1::H2::c.flatMap (gg a b)
abbrev oO:List YR:=bW<|aT (aA cP) 3
def adx{g:List Op}{K:GK}(H:Ok Y (λx=>(aw cP).names.lookup x) aY)(Q:Y.env=Y8 (Z9 "unified_diff") (aw cP) L 261 (Zr 260))(R:cb y Y)(U:qQ a b o)(S:a.length<=1100)(V:b.length<=1000)(z:∀x∈a,x.length<=100)(C:∀x∈b,x.length<=100)(W:o.lookup (Z9 "group")=Z7 (.lst (g.map aZ)))(h:∀Z e,bq Y Z->Z.G=Y.G->Sub o e->K.nx Z e O d):bU A y Y o O (aT oO 5) (g.flatMap (hW a b)++d) K:=by
 ext Y L y a b o O d A g K;show tz (λu'=>rfl)<|aj H W ⟨_,rfl,λi m e j p=>bq Y m/\m.G=Y.G/\Sub o e/\j=O/\p=(g.drop i).flatMap (hW a b)++d,(jJ (.refl _) rfl (Sub.refl _) rfl rfl),?_,?_⟩
 .rintro i I m e j p v J M l⟨r,w,k,rfl,rfl⟩;ext i I m e j v;have N:i<g.length:=by have:=(Zv.mp l).1;simpa using this
  have X:I=aZ g[i]:=by replace l:=(Z2 N)▸ZQ▸l;exists Zs l;rfl
  exists X;have s:=(H.same M).holds (hs:=v) (c:=J);have D:(m.holds v J).env=_:=M.env.trans Q;show Tg.ex s ?_;rw[pb N,Zh,ZA];show GM.cv (Cv.sub<|(((((k.cc _ _).cc _ _).cc _ _).cc _ _).cc _ _))<|adz s D (R.of w) U S V z C λZ t E F G=>?_;have u:∀f n,Z=Fx.holds f v n->bq Y f/\f.G=Y.G/\Sub o t/\j=j/\(g.drop<|i+1).flatMap (hW a b)++d=(g.drop<|i+1).flatMap (hW a b)++d:=by rintro f n rfl;show jJ (r.trans E.mf) ((show f.G=m.G from F).trans w) G rfl rfl
  show⟨u,u⟩
 .rintro m e j p⟨r,w,k,rfl,rfl⟩;rw[Z6,UQ,XU,WY];show h m e r w k
def Eb{K:GK}(d:Ok Y (λx=>(aw cP).names.lookup x) aY)(s:Y.env=Y8 (Z9 "unified_diff") (aw cP) L 261 (Zr 260))(D:cb r Y)(E:Y.A.depth<ZU)(J:a.length<=1100)(M:b.length<=1000)(t:∀x∈a,x.length<=100)(u:∀x∈b,x.length<=100)(G:f2 g f l)(h:∀Z e,bq Y Z->Z.G=Y.G->Sub (mw a b n ZW) e->K.nx Z e O c):aO A r Y ((Z9 "group",.lst (g.map aZ))::mw a b n ZW) O (oO.drop 1) (gg a b g++c) K:=by
 ext Y L r a b g f l n O c A K;have v:Y.env.scope.isCoroutine=ZX:=by exists s;rfl
 obtain⟨F,H,k,m,o,p,N⟩:=G;have Q:gg a b g=pu f l::g.flatMap (hW a b):=Lf ⟨F,H,k,m,o,p,N⟩;exists Q,XI;have R:(g.map aZ)[(0:Int).toNat]?=Z7 (aZ f):=by exists ZQ,(show g[(0:Int).toNat]?=g.head? from List.head?_eq_getElem?.symm),F;rfl
 have S:(g.map aZ).getLast?=Z7 (aZ l):=by exists QJ,H;rfl
 have U:=k8 (i:=f.i1) (j:=l.i2-f.i1) cf ((af 0x181071187e0278b8184e1187de11) k o) ((af 0x1808b721042f0) k)<|(af 0xc461f809e1e06138461f7c8412) o;have V:=k8 (i:=f.j1) (j:=l.j2-f.j1) cf ((af 0x181071187e0278b8184e1187de11) m p) ((af 0x1808b721042f0) m)<|(af 0xc461f809e1e06138461f7c8412) p;show aO.run (b1:=(oO.drop 1).take 3) (b2:=oO.drop 4) d s ?_;show stM<|Ev.to _ (Ev.sub<|aj d rfl<|Ev.int<|Ix.list trivial .lst (by decide) (by decide) R ⟨rfl,rfl⟩) ?_;show stM<|Ev.to _ (Ev.sub<|aj d rfl<|Ev.un<|Ev.int<|Un.neg<|Ix.last trivial .lst S ⟨rfl,rfl⟩) ?_;show stM<|Ev.to _ (Ev.sub<|aj d rfl<|Ev.int<|Ix.tup (j:=1) trivial (by decide) (by decide) rfl rfl ⟨rfl,rfl⟩) ?_;show stM<|Ev.to _ (Ev.sub<|aj d rfl<|Ev.int<|Ix.tup (j:=2) trivial (by decide) (by decide) rfl rfl ⟨rfl,rfl⟩) ?_;show stM<|zx E cf ((af 0x3020ec410) k) ((ak 0x31187e027876185a02811e10) o) ?_;show stM<|Ev.to _ (Ev.sub<|aj d rfl<|Ev.int<|Ix.tup (j:=3) trivial (by decide) (by decide) rfl rfl ⟨rfl,rfl⟩) ?_;show stM<|Ev.to _ (Ev.sub<|aj d rfl<|Ev.int<|Ix.tup (j:=4) trivial (by decide) (by decide) rfl rfl ⟨rfl,rfl⟩) ?_;show stM<|zx E cf ((af 0x3020ec410) m) ((ak 0x31187e027876185a02811e10) p) ?_;show aO.cons<|bU.yield D v<|mE rfl (by decide) rfl<|.cons rfl<|aj d rfl<|.cons rfl<|aj d rfl<|.cons rfl<|aj d rfl<|.nil<|Jk ((ak 0x31f78709881e10) U) ((ak 0x31f78709881e10) V) ⟨rfl,λZ w I=>?_⟩;have y:=d.same w;show aO.cons<|adx y (w.env.trans s) (D.of I) ⟨rfl,rfl,rfl,rfl,rfl,rfl,rfl,rfl⟩ J M t u rfl λW e z C X=>aO.nil<|h W e (w.trans z) (C.trans I)<|Sub.trans ?_ X;show a0.ok ⋯
abbrev Ea:List YR:=lp<|aT oO 0
def ady{K:GK}(e:Ok Y (λx=>(aw cP).names.lookup x) aY)(u:Y.env=Y8 (Z9 "unified_diff") (aw cP) L 261 (Zr 260))(v:cb w Y)(I:Y.A.depth<ZU)(J:a.length<=1100)(M:b.length<=1000)(m:∀x∈a,x.length<=100)(o:∀x∈b,x.length<=100)(G:f2 g f l)(h:∀Z i,bq Y Z->Z.G=Y.G->Sub (mw a b n ZW) i->K.nx Z i O d):aO A w Y ((Z9 "group",.lst (g.map aZ))::mw a b n t) O oO ((if t then[]else[H1,H2])++(gg a b g++d)) K:=by
 ext Y L w a b g f l n O d A t K;have p:Y.env.scope.isCoroutine=ZX:=by exists u;rfl
 show aO.cons<|bU.ite<|bL e (n:=5) ?_;cases t with|true=>show ZK (λz=>(nF z)) λy=>?_;show aO.nil<|Eb e u v I J M m o G h;|false=>
  show ZK (λy=>?_) λz=>(nT z);show aO.run (b1:=Ea.take 3) (b2:=Ea.drop 3) e u ?_;show stM<|kA e (n:=5) ?_;show stM<|Tr.str dk ⟨λc=>absurd c<|by decide,λy=>?_⟩;show stM<|kA e (n:=5) ?_;show stM<|Tr.str dk ⟨λc=>absurd c<|by decide,λy=>?_⟩;show aO.cons<|bU.yield v p<|mE rfl (by decide) rfl<|.cons rfl<|aj e rfl<|.cons rfl<|aj e rfl<|.cons rfl<|aj e rfl<|.nil<|Ji ⟨rfl,λZ C N=>?_⟩;have k:=e.same C;have r:Z.env.scope.isCoroutine=ZX:=by exists C.env;show p
  show aO.cons<|bU.yield (v.of N) r<|mE rfl (by decide) rfl<|.cons rfl<|aj k rfl<|.cons rfl<|aj k rfl<|.cons rfl<|aj k rfl<|.nil<|Jj ⟨rfl,λR D E=>aO.nil ?_⟩;have j:=C.trans D;have s:=E.trans N;show GM.cv (Cv.sub (ρ':=(Z9 "group",.lst<|g.map aZ)::mw a b n ZW) ?_)<|Eb (e.same j) (j.env.trans u) (v.of s) (by exists j.A;show I) J M m o G λW i F H Q=>h W i (j.trans F) (H.trans s) Q;show a0.ok ⋯
def JC(P:Ym):tx P (fdOf sI) (Z9 "SequenceMatcher.get_grouped_opcodes") (aw c5) (aA c5) 218 217 where at_:=ae _ (x6 P) rfl;code:=rO _ _ _ (Gc P) rfl rfl;sc:=rfl;globals:=rfl;closure:=rfl;qual:=rfl;cd:=rfl;bi:=rfl;body:=rfl;gen:=⋯;t9:=⋯;kind:=rfl;cell:=dk;cells:=λn=>by rfl
structure Fl(X:Fx)(O:ag)(a b:List ZD)(n:Nat)(ad:Zw)(l:List AV)(ki:ag)(x dx:Zw)(ox:Ze)(w:Yg)(aI:List (ZD×AV))(pop:Zw):Prop where
 I:dw x dx ox
 hw:w=X.w
 tab:fY b aI
 had:ad=x
 hl:l=[.int n]hO:ki=aN x dx ox (p7 w a b aI pop) []++O
abbrev Jo:YR->X7
 |.For _ e _ _ _=>e|_=>default
def adw{n:Nat}{d:List YR}{K:GK}(ok:Ok Y (λx=>(aw cP).names.lookup x) aY)(eL:Y.env=Y8 (Z9 "unified_diff") (aw cP) L 261 (Zr 260))(D:cb z Y)(hd:Y.A.depth+7<ZU)(hu:Y.A.units+11<Xo)(ha:a.length<=1100)(hb:b.length<=1000)(hs:(bF a b).Pairwise λa b=>a.i<b.i)(M:(bF a b).length<64)(N:(cF a b).length<=400)(hc:bH a b≠[])(h1:j.lookup (Z9 "a")=Z7 (.lst (a.map .str)))(R:j.lookup (Z9 "b")=Z7 (.lst (b.map .str)))(h3:j.lookup (Z9 "n")=Z7 (.int n))(S:∀γ k,z γ->k.bare=ZW->z (γ.push k))(Inv)(m:∀yi X j O J G,Inv yi X j O J->Inv yi (X.sG G) j O J)(i0:Inv ((cy n (bH a b)).map gT) Y j O J)(p:tB A z Y tg d Inv)(U:∀X' ρ' O' ju,cb z X'->Inv [] X' ρ' O' ju->K.nx X' ρ' O' ju)(F:Fr Y j O s):ZE (model pw Y.w) Y.A (eval (Jo (aT (aA cP) 3)) Y.env) (tA A z Y j O s tg d K J) E s:=by
 revert ok eL D hd hu ha hb hs M N hc h1 R h3 S m i0 p U F;revert A z Y j s a b n tg d K J O L Inv E;injections Y L z a b A tg j;injections O s J E n d K Inv;intro ok eL D hd hu ha hb hs M N hc h1 R h3 S m i0 p U F;show Bf (f:=218) (P:=λV l H=>∃x W ox w g h,Fl Y O a b n V l H x W ox w g h) (λu'=>by kernel_rfl) (x6 _) rfl rfl (y:=Z4) (by rw[Y0,Zl];kernel_rfl) rfl rfl F ?_ ?_;.have hl:=ok.glob (Z9 "SequenceMatcher") (.val<|.ref 242) ⋯ ⋯;show Ev.qT rfl hl.1 hl.2<|.cons rfl<|Ev.none<|.cons rfl<|aj ok h1<|.cons rfl<|aj ok R<|.nil<|act (<-(af 0xc8a2878722899e10) hd) hb λx W ox w g h I hw hB=>?_;show⟨x,W,_,rfl,⟨(db ox (.head _) I.cls I.Bv I.mW),I.ne,.tail _<|.head _⟩,⋯,.cons rfl<|aj ok h3<|.nil ⟨x,W,ox,w,g,h,I,hw,hB,rfl,rfl,rfl⟩⟩
 .rintro V l H c vs⟨x,W,ox,w,g,h,I,hw,hB,rfl,rfl,rfl⟩t D1 u;ext V c vs W ox w g h;show Xs (zF (B:=Y.A.in1) (OL:=aN V W ox (p7 w a b g h) []) (O':=O) (l:=[.ref V,.int n]) (vs:=.ref V::vs) (ns:=[Z9 "self",Z9 "n"]) (ys:=(cy n<|bH a b).map gT) (Γ:=λγ=>∃env,γ=(c.gens.push<|.fresh<|.func (aA c5) env).setIfInBounds c.gens.size .running) Y.hh (<-(af 0x191450f0e4410) hd) (JC Y.w.params) dk dk t (.cons (.ref _) u) ?_ (λZ C gn=>?_) (λenv=>⟨env,rfl⟩) ?_)
  .rcases vs with _|⟨v,u'|⟨v',vs⟩⟩;.cases u
   .have KO:∀a o,(ar Y.w.params).get? a=Z7 o->c.heap.get? a=Z7 o:=λa o e=>t.base a o e;showλA Q E q=>VR (fd:=fdOf sI) (args:=⟨[.ref V,v],[]⟩) (T:=211) (o:=B4) rfl (KO _ _ ⋯) rfl rfl rfl _ _ _ _ q
   .obtain⟨r⟩:=u.i1
  ·show JN C gn (by show(?_:Y.A.depth+7<_);show hd) (by show(?_:Y.A.units+1+10<_);show(af 0x645163c391456f889e10) hu) I (hw.trans C.w.symm) ⟨rfl,rfl,rfl,rfl,⋯,hB⟩ rfl rfl ⋯ ⋯ hb ha (Yq rfl) hs M N hc
  .intro I hs nm qn env qw rK h' tk hI hF wG acb pn;have hsz:∀{x y:YD},((c.gens.push x).setIfInBounds c.gens.size y)[c.gens.size]?=Z7 y:=λ{x y}=>by exists WX;simp
   have zN:Y.G c.gens:=t.gens;show aq D ?_;clear D;intro γ IM JX;rw[IM]at zN;have Ll:z c.gens:=by exists(show c.gens=γ from zN);show JX
   show⟨I,c.gens.size,_,O,_,_,Inv,rfl,hF _ rfl,(D1.trans wG),⟨_,hs,nm,qn,qw,rK,rfl,?_,pn,acb⟩,?_,?_,m,i0,p,U⟩;.simp
   .rintro u'⟨env,rfl⟩;show hsz
   .rintro u' k⟨env,rfl⟩Kk;have e:(((c.gens.push<|GenState.fresh<|.func (aA c5) env).setIfInBounds c.gens.size .running).setIfInBounds c.gens.size k)=c.gens.push k:=by
     rw[Vl];apply Po;.simp
     .intro i h1 R;simp only[P1]at R;by_cases q:i=c.gens.size;.subst q;simp
      .exists(UR (by simpa using R)<|Xb q);have:i<c.gens.size:=<-(af 0x19889e20fb420e4410) R q;simp[Array.getElem_push_lt,this]
    exists e;show S _ _ Ll Kk
abbrev adu(a b:List ZD)(n:Nat)(O:ag)(e:List AV)(X:Fx)(h:Loc)(i:ag)(j:List AV):Prop:=∃d c,e=c.map gT/\(∀g∈c,∃f l,f2 g f l)/\Sub (mw a b n d) h/\i=O/\j=if d then c.flatMap (gg a b)else eB a b c
abbrev wQ:List ZD:=[Z9 "a",Z9 "b",Z9 "fromfile",Z9 "tofile",Z9 "fromfiledate",Z9 "tofiledate",Z9 "n",Z9 "lineterm"]
abbrev qo(a b:List ZD)(n:Nat):List AV:=[.lst (a.map .str),.lst<|b.map .str,.str<|Z9 "",.str<|Z9 "",.str<|Z9 "",.str<|Z9 "",.int n,.str (Z9 "\n")]
def adv{B:YM}(C:f1 B X Y (Z9 "unified_diff") (aw cP) (aA cP) 261 (.ref 260))(gn:cb m Y)(u:∀γ o,m γ->o.bare=ZW->m (γ.push o))(j:B.depth+8<ZU)(hu:B.units+14<Xo)(v:a.length<=1100)(w:b.length<=1000)(z:∀x∈a,x.length<=100)(A:∀x∈b,x.length<=100)(t:(bF a b).Pairwise λa b=>a.i<b.i)(D:(bF a b).length<64)(H:(cF a b).length<=400)(hc:bH a b≠[])(I:∀g∈cy n (bH a b),∃f l,f2 g f l):aO B m Y (wQ.zip (qo a b n)) [] (aA cP) (eB a b (cy n (bH a b))) (gb m):=by
 ext X Y m a b n B;have J:=C.ok ⋯;show aS C.env λL M=>?_;have hd:Y.A.depth+7<ZU:=by exists C.A;show j
 have N:Y.A.units+11<Xo:=by exists C.A;show hu
 show aO.run (b1:=(aA cP).take 3) (b2:=(aA cP).drop 3) J M ?_;show stM<|HG (<-(af 0x191450f0e4410) hd) v w ?_;show GM.cv (Cv.sub (ρ':=mw a b n ZX)<|a0.ok ⋯) ?_;show aO.cons<|EY (λu'=>rfl) (<-(af 0x191450f0e4410) hd) (λu' u'=>rfl) λE s F=>adw J M gn hd N v w t D H hc rfl rfl rfl u (adu a b n []) (λyi X ρ O ys G h=>h) (lX ZX _ rfl I (Sub.refl _) rfl rfl) ?_ ?_ F;.rintro y yi Q R O' S t cc U k⟨p,d,e,V,i,rfl,rfl⟩;cases d with|nil=>cases e;|cons g d=>
   injection e with e1 e2;subst e1 e2;show fK (V g<|.head _) λf l G=>?_;have r:=(J.same U).holds (hs:=t) (c:=cc);have W:(Q.holds t cc).env=_:=U.env.trans M;show Tg.ex r ?_;(conv=>whnf);have ey:(if p=ZW then(g::d).flatMap (gg a b)else eB a b (g::d))=(if p then[]else[H1,H2])++(gg a b g++d.flatMap (gg a b)):=by
    cases p;.rfl
    .rfl
   exists ey;show GM.cv (Cv.sub<|i.cc _ _)<|ady r W k (by show(?_:Q.A.depth<_);exists U.A;show(af 0x191450f0e4410) hd) v w z A G λZ w5 sX H8 hs'=>⟨H8,?_⟩;rintro adS HJ rfl;show lX ZW d rfl (λg' h'=>V g'<|.tail _ h') hs' rfl rfl
 .rintro Q R O' S k⟨p,d,e,V,i,rfl,rfl⟩;cases d with|cons g d=>cases e;|nil=>show aO.nil ⟨?_,k⟩;cases p<;>rfl
def Gn(P):(ar P).get? 287=Z7 vK:=⋯
def Gm(P):(ar P).get? 286=Z7 Cd:=⋯
def Gq(P):(ar P).get? 294=Z7 vL:=⋯
def Go(P):(ar P).get? 293=Z7 Ce:=⋯
def C3(b:X.A.depth<ZU)(f:0<=i)(a:i<10^6)(m:0<=j)(d:j<10^6)(g:k (.str (b8 i j)) O):ax X l O (.ref 287) [.int i,.int j] k:=by
 ext i j k X l O;show ax.def (name:=Z9 "_law_range") (params:=cY qc) (body:=aA qc) (scope:=aw qc) (pm:=_) (ca:=286) (doc:=_) (ns:=[Z9 "start",Z9 "size"]) b (Gn _) rfl (Gm _) rfl rfl (λv h=>?_) dk dk dk rfl rfl rfl λY C=>?_;.show kS h λp p=>rfl
 .ext Y;have w:=js (n:=i+1) (<-pT f) (<-vr a);have x:=js (n:=i) (<-nQ f) (<-nU a);have r:=js (n:=j) (<-nQ m) (<-nU d);have s:=p9 (n:=i+1) (<-pT f) (<-vr a);have y:=p9 (n:=i) (<-nQ f) (<-nU a);have t:=p9 (n:=j) (<-nQ m) (<-nU d);show C.run ⋯ λL z=>?_;ext L;have u:=C.ok ⋯;show ZK (λc=>?_) λc=>?_;.have e:j=1:=eq_of_beq c;rw[b8,if_pos e]at g;show stM<|ax.str s<|ae _ (.inl rfl) g
  .have e:¬j=1:=λq=>by have Q:(j==1)=ZW:=beq_iff_eq.mpr q;show absurd (Q.symm.trans c) (by decide)
   rw[b8,if_neg e]at g;have o:(Z9<|toString<|if j≠0 then i+1 else i).length<=10:=by split<;>assumption
   show stM<|Ev.to (.int<|if j≠0 then i+1 else i) (kA u (n:=5) ?_) ?_
   .show ZK (λc=>?_) λc=>?_
    .have c:j≠0:=by simpa using c
     show ZK (<-aW (if_pos c) rfl) rfl
    .have c:¬j≠0:=by simpa using c
     show ZK (<-aW (if_neg c) rfl) rfl
   .show stM<|ax.str ?_ ?_;.split<;>assumption
    show stM<|ie (by exists t8,Zx;show(ak 0x616f0e0300c0300c22f889e10) o) ?_;show stM<|ax.str t ?_;show stM<|ie (by rw[Za,t8,Zx];show(af 0x185bc585bc380c0300c0308be22889e11) r o) ?_;show ae _ (.inl rfl) g
abbrev aU(a:List (ZD×ZD)):List AV:=a.map λr=>.tup [.str r.1,.str r.2]
abbrev cx:Int->List (ZD×ZD)->List Int
 |_,[]=>[]|a,r::b=>(if r.1==Z9 " "then a+1 else 0)::cx (if r.1==Z9 " "then a+1 else 0) b
abbrev gR:Int->List (ZD×ZD)->Int
 |a,[]=>a|a,r::b=>gR (if r.1==Z9 " "then a+1 else 0) b
def zm(r):∀(b:List (ZD×ZD))(a:Int),cx a (b++[r])=cx a b++[if r.1==Z9 " "then gR a b+1 else 0]:=by intro c;induction c with|nil=>showλa=>rfl;|cons q b d=>showλa=>congrArg (_::·)<|d _
def rm(r):∀(b:List (ZD×ZD))(a:Int),gR a (b++[r])=if r.1==Z9 " "then gR a b+1 else 0:=by intro c;induction c with|nil=>showλa=>rfl;|cons q b d=>showλa=>d _
def wd{i:Nat}(h:(aU a)[i]?=Z7 b):∃r,a[i]?=Z7 r/\b=.tup [.str r.1,.str r.2]:=by ext a b i;unfold aU at h;replace h:=ZQ▸h;cases e:a[i]? with|none=>replace h:=e▸h;cases h;|some r=>replace h:=e▸h;cases h;show ae r rfl rfl
def ro:∀(a:List (ZD×ZD))(b:Int),(cx b a).length=a.length:=by intro c;induction c with|nil=>showλ_=>rfl;|cons _ a d=>showλ_=>congrArg (·+1)<|d _
abbrev zn(r:Zw)(n:Int)(a:List (ZD×ZD)):ag:=[(r,.list<|(cx (n+1) a).map .int)]
abbrev IU(r:Zw)(a:Int):Loc:=[(Z9 "far",.int a),(Z9 "told",.ref r)]
def zo(g:X.A.depth<ZU)(u:a.length<=Zo)(v:k (.lst ((cx (n+1) a).map .int)) O):ax X o O (.ref 294) [.lst (aU a),.int n] k:=by
 ext k X o O a n;show ax.def (name:=Z9 "_law_far") (params:=cY qd) (body:=aA qd) (scope:=aw qd) (pm:=_) (ca:=293) (doc:=_) (ns:=[Z9 "rows",Z9 "n"]) g (Gq _) rfl (Go _) rfl rfl (λD h=>?_) dk dk dk rfl rfl rfl λY C=>?_;.show kS h λf f=>rfl
 .ext Y;have p:=C.ok ⋯;show C.run ⋯ λL w=>?_;ext L;show stM<|Ev.list<|.nil ⟨ZZ _,λr f=>?_⟩;show stM<|Es.down<|d5 (λf=>rfl)<|ch.lst<|aj p rfl<|nw _ rfl (λi e l=>l=zn r n (a.take i)/\Sub (IU r<|gR (n+1)<|a.take i) e) ⟨rfl,a0.ok ⋯⟩ (λf f f f=>trivial) ?_ ?_
  .rintro i x e l s c j⟨rfl,b⟩;revert f c j b;ext r i x e s;show aq (wd j) λrw y m=>?_;exists m;have z:a.take (i+1)=a.take i++[rw]:=by exists Zc,y;rfl
   have d:=p.holds (hs:=s) (c:=c);have t:(a.take i).length<=Zo:=by exists Zf;show(ai 0xc0c581d0411) u
   show Tg.ex d ?_;show Ex.sub (Sub.cc (Sub.cc b _ _) _ _) ?_;dsimp only;exists z;generalize a.take i=A at t⊢;show run d w ?_;show stM<|Ev.to (.int<|gR (n+1)<|A++[rw]) (kA d (n:=5) ?_) ?_
   .rw[rm];show ZK (λq=>?_) λq=>?_;.have q:(rw.1==Z9 " ")=ZW:=q;exists if_pos q;show⟨rfl,rfl⟩
    .have q:(rw.1==Z9 " ")=ZX:=q;exists(if_neg (by show aW q ?_;decide));show⟨rfl,rfl⟩
   .show stM<|cV Zj Zi rfl rfl rfl<|aj d rfl ⟨⟨_,.inr<|ae r rfl<|.head _⟩,aj d rfl<|ax.append (.head _) (by rw[Z6,ro];show t) ?_⟩;show ZK ?_<|a0.ok ⋯;unfold zn;simp only[aK,Z3,Y4,if_true];rw[zm,rm,ZF];rfl
  .rintro e l⟨rfl,b⟩;have Q:a.take (aU a).length=a:=by simp[aU]
   rw[Q]at b⊢;show ae _ b ?_;show ae _ (.inr<|ae _ (.inr<|ae r rfl<|.head _) rfl) v
def f0.holds{c:cW X (hs.map (·.1))}(h:f0 X d e b a):f0 (X.holds hs c) d e b a:=⟨h.t7,h.sub,h.apart,h.cell,h.kind,h.names,h.vars⟩
def abH{a:Ri}:∀{b:List (ZD×XH)},b.lookup x=Z4->(b.map λ(n,k)=>if(k==Xk&&a.scope.kind==.function&&a.kindOf n==Z7 .cell)then(n,UN)else(n,k)).lookup x=Z4:=by injections x a;intro d;induction d with|nil=>showλh=>rfl;|cons c r f=>
  obtain⟨n,k⟩:=c;intro h;exists Z3;rw[ZG]at h;have e:∀q:ZD×XH,q.1=n->Vr x (q::TY (λ(n,k)=>if(k==Xk&&a.scope.kind==.function&&a.kindOf n==Z7 .cell)then(n,UN)else(n,k)) r)=Z4:=by
   rintro⟨g,i⟩rfl;exists ZG;split;.rename_i z;replace h:=z▸h;cases h
   .rename_i z;replace h:=z▸h;show f h
  show e _ ?_;dsimp only;split<;>rfl
def gE.ok(K:gE X Y a c)(d:∀y∈a.names,y.2≠.cell)(f:a.names.lookup ("__debug__":ZD)=Z4):Ok Y (λx=>a.names.lookup x) aY:=by
 show⟨λx h=>?_,λx g i j=>?_,?_⟩
 .show ZI h (λh=>?_) λh=>?_;.show K.bd h
  .show absurd rfl<|d _<|mem_of_lookup h
 .have b:=mem_of_lookup j;show⟨lC.ld (λP=>kF P _ b)<|K.glob i,(kF _ _ b).lL⟩
 .show m2 K ?_;clear K;intro k k L e;exists e;show abH f
def oU{p u:Vk}{w z}(A:Ok X w z)(g)(C:f0 X j v o d)(D:∀y,Yb (.Name x u) X.env y=pure y)(E:j.names.lookup ("__debug__":ZD)=Z4)(F:o.lookup x=Z7 (.lst l))(G:l.length<=Zo)(h:∀Y,gE X Y j v->Ok Y (λx=>j.names.lookup x) aY->∀m∈l,∀c:ag,Tg Y d c a m λn=>jA Y n c f λb H=>H=c/\(b=ZW->Ev Y n c e λr s=>s=c/\g m=Z7 r)/\(b=ZX->g m=Z4))(I:k (.lst (l.filterMap g)) O):Ev X o O (.ListComp e [⟨a,.Name x u,f,0⟩] j p) k:=qz g C D (It.lst<|aj A F<|db l rfl G (λY K i m c t=>h Y K (K.ok C.cell E) m (YV t) c) I)
structure DS where
 told:List ZD
 aM:List (ZD×ZD)old:Int
 new:Int
def nDS:Nonempty DS:=⟨⟨[],[],0,0⟩⟩
abbrev jI(c a d b:Int):ZD:=Z9 "@@ -"++b8 c a++Z9 " +"++b8 d b++Z9 " @@\n"
abbrev cnt(c:String)(h:List (ZD×ZD)):Nat:=(h.filter λr=>r.1 !=Z9 c).length
abbrev bS(a:DS):DS:=⟨if a.aM=[]then a.told else a.told++[jI a.old (cnt "+" a.aM) a.new (cnt "-" a.aM)]++a.aM.map λr=>r.1++r.2,[],a.old+cnt "+" a.aM+1,a.new+cnt "-" a.aM+1⟩
abbrev gK(a:List (ZD×ZD))(n:Int)(c b:List Int)(d:DS)(k:Nat):DS:=if k<a.length/\min (c.getD k 0) (b.getD k 0)<=n then{d with aM:=d.aM++[a.getD k (Z9 "",Z9 "")]}else bS d
abbrev c8(a:List (ZD×ZD))(n:Int)(i:Nat):DS:=(YY i).foldl (gK a n (cx (n+1) a) (cx (n+1) a.reverse).reverse) ⟨[],[],0,0⟩
def yy(a)(n)(i):c8 a n (i+1)=gK a n (cx (n+1) a) (cx (n+1) a.reverse).reverse (c8 a n i) i:=by unfold c8;exists VH,YU;rfl
abbrev dH(a:List (ZD×ZD))(n:Int):List ZD:=if(c8 a (min n a.length)<|a.length+1).told=[]then[]else[Z9 "--- \n",Z9 "+++ \n"]++(c8 a (min n a.length)<|a.length+1).told
def Gu(P):(ar P).get? 299=Z7 vM:=⋯
def Gs(P):(ar P).get? 298=Z7 Cf:=⋯
def ku(c)(h):cnt c h<=h.length:=V2 _ _
structure qv(rows:List (ZD×ZD))(i:Nat)(D:DS):Prop where
 Cx:0<=D.old
 ad3:0<=D.new
 old:D.old+D.aM.length<=i
 new:D.new+D.aM.length<=i
 told:D.told.length+2*D.aM.length<=2*i
 rows:∀r∈D.aM,r∈rows
def yv{c:Nat}(h:0<=o):0<=o+(c:Int)+1:=R9 (R9 h<|Yy c) (by decide)
def yw{c l i:Nat}(h:o+(l:Int)<=i)(e:c<=l):o+(c:Int)+1+((0:Nat):Int)<=((i+1:Nat):Int):=QI (QZ<|Wl _)<|Int.add_le_add_right (QI (Int.add_le_add_left (Vi.mpr e) o) h) 1
def ub(a)(n):∀i,qv a i (c8 a n i):=by intro e;ext a n e;induction e with|zero=>show⟨by simp[c8],by simp[c8],by simp[c8],by simp[c8],by simp[c8],by simp[c8]⟩;|succ i k=>
  obtain⟨f,g,h,j,b,l⟩:=k;ext i;rw[yy];generalize c8 a n i=st at*;unfold gK;split
  .rename_i m;show⟨f,g,?_,?_,?_,λr c=>?_⟩;.simp only[ZV,Y5];show(pK 0xd8e2113b76889e38da227844e0) h
   .simp only[ZV,Y5];show(pK 0xd8e2113b76889e38da227844e0) j
   .simp only[ZV,Y5];show(ai 0xc4c637c6621bc389c44f18df19c44f10de10) b
   show ZI (ZS.mp c) (λq=>?_) λq=>?_;.show l r q
   .rw[ZM]at q;exists q,ZB,Z2 m.1;show S4 _
  .have o:=ku "+" st.aM;have p:=ku "-" st.aM;unfold bS;show⟨yv f,yv g,yw h o,yw j p,?_,λr c=>nM c⟩;simp only[VG];split;.show(ai 0x62631be3310de1c4e2278c6f885e12) b
   .rename_i d;have:0<st.aM.length:=VP.mpr d;simp only[ZV,Y5,Z6];show(ai 0xc4c637c6621bc389c44f18df10be22889e12) b
abbrev jG(c:String):AV->Option AV
 |.tup [.str a,.str b]=>if a !=Z9 c then Z7 (.str b)else Z4|_=>Z4
abbrev zy:AV->Option AV
 |.tup [.str a,.str b]=>Z7 (.str (a++b))|_=>Z4
def rr(c)(h):((aU h).filterMap (jG c)).length=cnt c h:=by induction h with|nil=>rfl;|cons r h a=>have b:jG c (.tup [.str r.1,.str r.2])=if r.1 !=Z9 c then Z7 (.str r.2)else Z4:=rfl;show(?_:(RV (jG c) (.tup [.str r.1,.str r.2]::aU h)).length=(List.filter (λr=>r.1 !=Z9 c) (r::h)).length);exists YI,XV,b;cases q:(r.1 !=Z9 c)with|true=>show congrArg (·+1) a;|false=>show a
def Jt(h):(aU h).filterMap zy=(h.map λr=>r.1++r.2).map .str:=by induction h with|nil=>rfl;|cons r h a=>show congrArg (AV.str (r.1++r.2)::·) a
abbrev pa(a:List (ZD×ZD))(n:Int)(t:Zw):Loc:=[(Z9 "told",.ref t),(Z9 "ahead",.lst<|(cx (n+1) a.reverse).reverse.map .int),(Z9 "back",.lst<|(cx (n+1) a).map .int),(Z9 "n",.int n),(Z9 "rows",.lst<|aU a)]
abbrev fH(a:List (ZD×ZD))(n:Int)(t h:Zw)(D:DS):Loc:=(Z9 "new",.int D.new)::(Z9 "old",.int D.old)::(Z9 "hunk",.ref h)::pa a n t
abbrev yC(a:List (ZD×ZD))(n:Int)(t:Zw)(D:DS):Loc:=(Z9 "new",.int D.new)::(Z9 "old",.int D.old)::(Z9 "hunk",.lst<|aU D.aM)::pa a n t
abbrev q5(a:List (ZD×ZD))(n:Int)(t:Zw)(D:DS):Loc:=(Z9 "news",.int<|cnt "-" D.aM)::(Z9 "olds",.int<|cnt "+" D.aM)::yC a n t D
abbrev gL(t h:Zw)(D:DS):ag:=[(h,.list<|aU D.aM),(t,.list<|D.told.map .str)]
abbrev mX:List YR:=bW<|aT (aA fy) 6
def Callee.depth(C:Callee X Y name a b c):Y.A.depth=X.A.depth+1/\Y.A.units=X.A.units+3:=by show aq C.env λL d e=>?_;exists e;show⟨rfl,rfl⟩
def eS(h):(aU h).length=h.length:=by simp[aU]
def HQ{K:Kn}(f:Ok Y (λx=>(aw fy).names.lookup x) aY)(g:Y.env=Y8 (Z9 "_law_diff") (aw fy) L 299 (Zr 298))(h:∀c b,b≠t->Sub (fH a n t b ⟨T,[],D.old+cnt "+" D.aM+1,D.new+cnt "-" D.aM+1⟩) c->K.nx c (gL t b ⟨T,[],D.old+cnt "+" D.aM+1,D.new+cnt "-" D.aM+1⟩)):Ex Y (q5 a n t D) [(t,.list (T.map .str))] (mX.drop 4) K:=by
 ext Y L t a n T D K;show run f g ?_;show stM<|Ev.list<|.nil ⟨ZZ _,λb d=>?_⟩;have e:b≠t:=by simpa using d
 show h _ b e<|a0.ok ⋯
abbrev qk(D:DS):List ZD:=if D.aM=[]then D.told else D.told++[jI D.old (cnt "+" D.aM) D.new (cnt "-" D.aM)]++D.aM.map λr=>r.1++r.2
def HS{K:Kn}{c:cW Y (g.map (·.1))}(C:Callee X Y (Z9 "_law_diff") (aw fy) 299 (.ref 298))(k:X.A.depth+1<ZU)(R:X.A.units+3<Xo)(S:∀r∈b,r.1.length+r.2.length<=1000)(V:qv b i D)(d:i<=10^5)(h:K.nx (q5 b n t D) [(t,.list ((qk D).map .str))]):Es (Y.holds g c) (q5 b n t D) [(t,.list (D.told.map .str))] (aT mX 3) K:=by
 ext Y X b i D n t g K;obtain⟨H,I,J,M,m,U⟩:=V;have p:=(C.ok ⋯).holds (hs:=g) (c:=c);have room:(Y.holds g c).A.depth<ZU:=by show(?_:Y.A.depth<_);exists C.depth.1;show k
 have W:(Y.holds g c).A.units<Xo:=by show(?_:Y.A.units<_);exists C.depth.2;show R
 have N:=ku "+" D.aM;have O:=ku "-" D.aM;have f:(10^6:Nat)<=Zo:=by exists Zx;decide
 show Es.ite<|bL p (n:=6) ?_;show stM<|dq<|.nil ⟨ZZ _,?_⟩;show stM<|jw W .lst .lst ⟨λz=>?_,λz=>?_⟩
 .have o:D.aM≠[]:=by rintro e;rw[e]at z;simp[aU]at z
  show aq C.env λL w A=>?_;have Z:(Y.holds g c).env=_:=w;have u:=k8 (i:=D.old) (j:=cnt "+" D.aM) H (su d J) cf<|sv d m N;have Q:=k8 (i:=D.new) (j:=cnt "-" D.aM) I (su d M) cf<|sv d m O;have v:(Z9 "@@ -").length=4:=by decide
  have E:(Z9 " +").length=2:=by decide
  have q3:(Z9 " @@\n").length=4:=by decide
  unfold qk at h;rw[if_neg o]at h;show run p Z ?_;show stM<|cV Zj Zi rfl rfl rfl<|aj p rfl ⟨⟨_,.inr ⟨t,rfl,.head _⟩⟩,be p (n:=9) ?_⟩;show stM<|C3 room H (su d J) cf (sv d m N) ?_;show stM<|ie (by exists v;show(af 0xc08309c230fbf1f78702884af1) f u) ?_;show stM<|ie (by rw[Za,v,E];show(af 0x604184e1187df8fbc381446f884af1) f u) ?_;show stM<|C3 room I (su d M) cf (sv d m O) ?_;show stM<|ie (by rw[Za,Za,v,E];show(ai 0x18186138461f7e3ef0e3ef160711446f884af4) f u Q) ?_;show stM<|ie (by rw[Za,Za,Za,v,E,q3];show(ai 0xc0c309c230fbf1f7871f78b03895f11446f884af4) f u Q) ?_;show ax.append (.head _) (by rw[Z6];show(ay 0x30185a02811e3c4c637c6641bc38106138461f7e041b) d m f) ?_;have eP:∀x:ZD,aK [(t,az.list<|TY AV.str D.told)] t (.list<|TY AV.str D.told++[AV.str x])=[(t,az.list<|(D.told++[x]).map .str)]:=λx=>by simp[aK]
  rw[eP];show stM<|cV Xy W6 rfl rfl rfl<|aj p rfl ⟨⟨_,.inr ⟨t,rfl,.head _⟩⟩,?_⟩;show oU p zy (eA (b9:=[]) C dk rfl dk dk λA h=>nM h).holds (λA=>rfl) ⋯ rfl (by rw[eS];show(ay 0x30185a02811e3c4c637c6611bc98106138461f7e041b) d m f) (λY' KY s av F Oc=>?_) ?_;.show cu F λr G=>?_;have:=S r<|U r G;show Tg.ex s ?_;show⟨rfl,λA=>be s (n:=5) ?_,λz=>nT z⟩;show stM<|ie ((ai 0x604184e1187df84c40f88c38144611) f this) ⟨rfl,rfl⟩
  rw[Jt];show oR (.head _) .lst (by simp;show(ay 0xc061680a047931320df19886f0e06184e1187df81c45113c2000045f) d m f) ?_;have eQ:∀x y:List ZD,aK [(t,az.list<|TY AV.str x)] t (.list<|TY AV.str x++TY AV.str y)=[(t,az.list<|(x++y).map .str)]:=λx y=>by simp[aK]
  rw[eQ];show h
 .have o:D.aM=[]:=by cases e:D.aM with|nil=>rfl;|cons a l=>rw[e]at z;simp[aU]at z
  unfold qk at h;rw[if_pos o]at h;show Ex.nil h
def wl{c:String}(h:d∈aU l):∃a b,d=.tup [.str a,.str b]:=by show cu h λr e=>?_;show gh _ _ rfl
def HR{K:Kn}{c:cW Y (l.map (·.1))}(C:Callee X Y (Z9 "_law_diff") (aw fy) 299 (.ref 298))(j:X.A.depth+1<ZU)(J:X.A.units+3<Xo)(M:∀r∈d,r.1.length+r.2.length<=1000)(V:qv d i D)(m:i<=10^5)(x:p≠t)(h:∀o y,y≠t->Sub (fH d n t y (bS D)) o->K.nx o (gL t y (bS D))):Ex (Y.holds l c) (fH d n t p D) (gL t p D) (mX.drop 1) K:=by
 ext Y X d i D p t n l K;have s:=(C.ok ⋯).holds (hs:=l) (c:=c);show aq C.env λL A u=>?_;have H:(Y.holds l c).env=_:=A;have N:=ku "+" D.aM;have O:=ku "-" D.aM;have v:=V.old;have w:=V.Cx;have I:(10^6:Nat)<=Zo:=by exists Zx;decide
 show Ex.cv (j7.trans<|Cv.sub (ρ':=yC d n t D) ?_) ?_;.unfold ia fH pa;simp only[Z3,Y4,mt,mr,ms,mu,if_neg x.symm,if_pos];show a0.ok ⋯
 show fx (b1:=(mX.drop 1).take 2) (b2:=mX.drop 3) s H ?_;show stM<|oU s (jG "+") (eA (b9:=[]) C dk rfl dk dk λu h=>nM h).holds (λu=>rfl) ⋯ rfl (by rw[eS];show(pL 0x30185a02811e4d922113b62705f8186138461f7e0617) m v w I) (λQ R e S k U=>?_) ?_
 .show fK (wl (c:="+") k) λa b E=>?_;exists E;show Tg.ex e ?_;show bL e (n:=6) ?_;show br rfl (λz=>be e (n:=5) ?_) λz=>?_;.have z:(a !=Z9 "+")=ZW:=z;show⟨rfl,if_pos z⟩
  .have z:(a !=Z9 "+")=ZX:=z;show if_neg (by exists z;decide)
 show ZK (by rw[rr];show(pL 0xc061680a0478f040ec71209db1382fe06018060180601806018060180601825e17) m N v w) ?_;show stM<|oU s (jG "-") (eA (b9:=[]) C dk rfl dk dk λu h=>nM h).holds (λu=>rfl) ⋯ rfl (by rw[eS];show(pL 0x30185a02811e4d922113b62705f8186138461f7e0617) m v w I) (λQ R e S k U=>?_) ?_
 .show fK (wl (c:="-") k) λa b F=>?_;exists F;show Tg.ex e ?_;show bL e (n:=6) ?_;show br rfl (λz=>be e (n:=5) ?_) λz=>?_;.have z:(a !=Z9 "-")=ZW:=z;show⟨rfl,if_pos z⟩
  .have z:(a !=Z9 "-")=ZX:=z;show if_neg (by exists z;decide)
 show ZK (by rw[rr];show(pL 0xc061680a0478f040ec71209db1382fe06018060180601806018060180601825e17) m O v w) ?_;rw[rr,rr];show Ex.cons (xc (λf g=>f=q5 d n t D/\g=[(t,.list<|(qk D).map .str)]) (HS C j J M V m ⟨rfl,rfl⟩) (λf g G=>aE G λW Z=>by subst W Z;show HQ (T:=qk D) s H h))
def HT{K:Kn}{c:cW Y (o.map (·.1))}(C:Callee X Y (Z9 "_law_diff") (aw fy) 299 (.ref 298))(j:X.A.depth+1<ZU)(I:X.A.units+3<Xo)(l:a.length<10^5)(J:∀r∈a,r.1.length+r.2.length<=1000)(V:qv a i D)(M:i<=a.length)(k:d≠t)(h:∀e m,m≠t->Sub (fH a n t m (gK a n (cx (n+1) a) (cx (n+1) a.reverse).reverse D i)) e->K.nx e (gL t m (gK a n (cx (n+1) a) (cx (n+1) a.reverse).reverse D i))/\K.ct e (gL t m (gK a n (cx (n+1) a) (cx (n+1) a.reverse).reverse D i))):Ex (Y.holds o c) ((Z9 "k",.int i)::fH a n t d D) (gL t d D) mX K:=by
 ext Y X a i D d t n o K;have g:=(C.ok ⋯).holds (hs:=o) (c:=c);show aq C.env λL s U=>?_;have N:(Y.holds o c).env=_:=s;have u:(aU a).length=a.length:=eS a;have y:(cx (n+1) a).length=a.length:=ro _ _;have A:(cx (n+1) a.reverse).reverse.length=a.length:=by exists VO;rw[ro,VO]
 have O:(10^6:Nat)<=Zo:=by exists Zx;decide
 have Q:=V.old;have R:=V.Cx;have E:Sub (fH a n t d D) ((Z9 "k",.int i)::fH a n t d D):=a0.ok ⋯;unfold gK at h;generalize F:cx (n+1) a=f at y h;generalize G:(cx (n+1) a.reverse).reverse=b at A h;have H:fH a n t d D=(Z9 "new",.int D.new)::(Z9 "old",.int D.old)::(Z9 "hunk",.ref d)::(Z9 "told",.ref t)::(Z9 "ahead",.lst<|b.map .int)::(Z9 "back",.lst<|f.map .int)::(Z9 "n",.int n)::(Z9 "rows",.lst<|aU a)::[]:=by unfold fH pa;exists G;show aW F rfl
 show Ex.cons<|Es.ite<|Ts.to (decide<|i<a.length/\min (f.getD i 0) (b.getD i 0)<=n) (bL g (n:=7) ?_) ⟨λq=>?_,λq=>?_⟩
 .exists H;show ZK (by exists u;show vv l) ?_;show ZK (λq=>?_) λq=>?_
  .have q:i<a.length:=by have q:=of_decide_eq_true q;replace q:=u▸q;show(af 0x3820e4410) q
   show stM<|Ev.sub<|aj g rfl<|aj g rfl<|Ix.list (x:=.int<|f.getD i 0) trivial .lst cf ((af 0x190c2d01408f16441e06018060180601806018060180601825e11) l q) ?_ ?_;.rw[Zm,ZQ,ZB,Z2 (<-(ai 0x1a18b230e4411) y q)];rfl
   show stM<|Ev.sub<|aj g rfl<|aj g rfl<|Ix.list (x:=.int<|b.getD i 0) trivial .lst cf ((af 0x190c2d01408f16441e06018060180601806018060180601825e11) l q) ?_ ?_;.rw[Zm,ZQ,ZB,Z2 (<-(ai 0x1a18b230e4411) A q)];rfl
   show ZK (λz=>?_) λz=>?_;.have z:=of_decide_eq_true z;show⟨(decide_eq_true ⟨q,z⟩).symm,rfl⟩
   .have z:=of_decide_eq_false z;show⟨(decide_eq_false λw=>z w.2).symm,rfl⟩
  .have q:¬i<a.length:=by have q:=of_decide_eq_false q;replace q:=u▸q;show(af 0xf7041f64410) q
   show⟨(decide_eq_false λw=>q w.1).symm,rfl⟩
 .have q:=of_decide_eq_true q;replace h:=(if_pos q)▸h;show run g N ?_;rw[H]at E⊢;show stM<|cV Zj Zi rfl rfl rfl<|aj g rfl ⟨⟨_,.inr<|ae d rfl<|.head _⟩,Ev.sub<|aj g rfl<|aj g rfl<|Ix.list (x:=.tup [.str (a.getD i (Z9 "",Z9 "")).1,.str (a.getD i (Z9 "",Z9 "")).2]) trivial .lst cf (<-Ar.bA 0x4 0x32185a02811e3fecaea11c176462e06018060180601806018060180601825e2 [0,_,_,0,0] [_,0,0,_,_] ⋯ l q) ?_ ?_⟩;.rw[Zm,aU,ZQ,ZB,Z2 q.1];rfl
  show ax.append (.head _) (by rw[eS];show Ar.bA 0x7 0x32185a02811e5c10309c230fbf668886ed8dc17ff68750ee0bb2536082 [0,_,0,_,_,_,0,0] [_,0,_,0,0,0,_,_] ⋯ l O Q R q) ?_;(conv=>whnf);have S:aK (gL t d D) d (.list<|aU D.aM++[AV.tup [.str (a.getD i (Z9 "",Z9 "")).1,.str (a.getD i (Z9 "",Z9 "")).2]])=gL t d {D with aM:=D.aM++[a.getD i (Z9 "",Z9 "")]}:=by unfold gL;simp[aK,k.symm,aU]
  exists S;show(h _ d k ?_).2;show f4.ok (by unfold fH pa;exists G,F;show⟨ae _ rfl rfl,ae _ rfl rfl,ae _ rfl rfl,ae _ rfl rfl,ae _ rfl rfl,ae _ rfl rfl,ae _ rfl rfl,ae _ rfl rfl,trivial⟩)
 .have q:=of_decide_eq_false q;replace h:=(if_neg q)▸h;show Ex.nil ?_;show Ex.sub E<|HR C j I J V ((af 0x6430b405023c581070185a02811e11) l M) k λe m p v=>(h e m p v).1
def Ev.rev(h:Ev X f O e λa b=>∃l,a=.lst l/\l.length<=Zo/\k (.lst l.reverse) b):Ev X f O (.Subscript e (.Slice Z4 Z4 (Z7 (.UnaryOp .USub (.Constant (.int 1) z g) i)) j) c) k:=Ev.slice (h.mono λa b d=>bV d λl e m n=>by exists e;show Ev.un<|.int<|.neg ⟨_,rfl,l,.lst,by decide,m,by rw[abd];show n⟩)
def HU{k:AV->ag->Prop}(C:Callee X Y (Z9 "_law_diff") (aw fy) 299 (.ref 298))(f:X.A.depth+1<ZU)(M:X.A.units+3<Xo)(m:b.length<10^5)(U:∀r∈b,r.1.length+r.2.length<=1000)(u:k (.lst ((dH b n).map .str)) O):Ex Y [(Z9 "rows",.lst (aU b)),(Z9 "n",.int n)] [] (aA fy) ⟨λd d=>k .none O,λa y=>∃r,xG y a r/\k r O,λd d=>False,λd d=>False⟩:=by
 ext X Y b n O k;have o:=C.ok ⋯;show aq C.env λL N d=>?_;ext L;have A:(aU b).length=b.length:=eS b;have E:(10^6:Nat)<=Zo:=by exists Zx;decide
 have room:Y.A.depth<ZU:=by exists C.depth.1;show f
 have V:Y.A.units<Xo:=by exists C.depth.2;show M
 show fx (b1:=(aA fy).take 6) (b2:=(aA fy).drop 6) o N ?_;show ZK (by exists A;show vv m) ?_;exists A;generalize F:min n (b.length:Int)=g;show⟨zo room (vw m E) ?_⟩;show stM<|Ev.rev<|be o (n:=8) ?_;show stM<|Ev.to _ (Ev.rev<|aj o rfl<|bl _ rfl ((ai 0x32185a02811e3d0c38106138461f7e0414) m A E) ⟨rfl,rfl⟩) ?_;exists(show(aU b).reverse=aU b.reverse by simp[aU]);show stM<|zo room (by exists VO;show vw m E) ?_;show bl _ rfl (by rw[Z6,ro,VO];show vw m E) ?_;exists ZJ Qx;show stM<|Ev.list<|.nil ⟨ZZ _,λt d=>?_⟩;show stM<|Ev.list<|.nil ⟨ZZ _,λh W=>?_⟩;have p:h≠t:=by simpa using W
 show Ex.sub (ρ':=fH b g t h<|c8 b g 0) (a0.ok ⋯) ?_;show Ex.cons<|Es.down<|d5 (λd=>rfl)<|E4 rfl (o.ld ⋯ ⋯)<|.cons rfl<|be o (n:=8) ?_;show ZK (by exists A;show vv m) ?_;exists A;show bm.nil<|db _ rfl (ak 0xdc44f0dc300c0300c0300c0300c0300c0300c0af3) ((ak 0x190c2d01408f0f0300c0300c0300c0300c0300c0300c0af889e10) m) ?_;exists(show((b.length:Int)+1).toNat=b.length+1 by show vp<|@YZ<|(↑b.length:Int)+1);show⟨λi s y=>∃h,h≠t/\y=gL t h (c8 b g i)/\Sub (fH b g t h<|c8 b g i) s,(bl h p rfl<|Sub.refl _),λd d d d=>trivial,?_,?_⟩;.rintro i av s y hs c G⟨h,p,rfl,j⟩;show aE (sS G) λZ H=>?_;exists H;rw[Xw];show Tg.ex o.holds ?_;show Ex.sub (j.cc _ _)<|HT C f M m U (ub b g i) ((af 0x19889e20e0410) Z) p λs Q v w=>?_;rw[<-yy]at w⊢;show⟨(bl Q v rfl w),(bl Q v rfl w)⟩
 .rintro s y⟨h,p,rfl,j⟩;rw[show(cg 0<|b.length+1).length=b.length+1 by simp[cg]]at*;show ae _ j ?_;have I:dH b n=if(c8 b g<|b.length+1).told=[]then[]else[Z9 "--- \n",Z9 "+++ \n"]++(c8 b g<|b.length+1).told:=by rw[dH,F]
  obtain⟨v1,v2,v3,v4,S,v6⟩:=ub b g<|b.length+1;generalize c8 b g (b.length+1)=D at I S⊢;have J:(t,az.list<|D.told.map .str)∈gL t h D:=.tail _<|.head _;generalize gL t h D=R at J⊢;show run o N ?_;show stM<|kA o (n:=8) ?_;show stM<|Ev.to _ (dq<|.nil ⟨ZZ _,⟨rfl,rfl⟩⟩) ?_;show stM<|jw V (.inr<|ae t rfl J) .lst ⟨λz=>?_,λz=>?_⟩
  .have x:D.told≠[]:=by rintro e;replace z:=e▸z;simp at z
   replace u:=(if_neg x)▸I▸u;show stM<|dq<|IH o (ρ:=fH b g t h D) 5 ?_;show ZK (by decide) ?_;show stM<|lq .lst (.inr<|ae t rfl J) (by simp;show(ay 0xc861680a0478f020c2708c3efc4e2278c6f8cc83787028846fb) m E S)<|ae _ (.inl rfl) ?_;replace u:=ZF▸u;show u
  .have x:D.told=[]:=by cases e:D.told with|nil=>rfl;|cons a l=>replace z:=e▸z;simp at z
   replace u:=(if_pos x)▸I▸u;show stM<|dq<|.nil<|nt (ZZ _) _ (.inl rfl) u
def HW(b:X.A.depth+1<ZU)(d:X.A.units+3<Xo)(e:a.length<10^5)(j:0<=n)(f:∀r∈a,r.1.length+r.2.length<=1000)(g:k (.lst ((dH a n).map .str)) O):ax X c O (.ref 299) [.lst (aU a),.int n] k:=by show ax.def (name:=Z9 "_law_diff") (params:=cY fy) (body:=aA fy) (scope:=aw fy) (pm:=_) (ca:=298) (doc:=_) (ns:=[Z9 "rows",Z9 "n"]) ((af 0x191444f0e4410) b) (Gu _) rfl (Gs _) rfl rfl (λl h=>?_) dk dk dk rfl rfl rfl λY C=>HU C b d e f g;show kS h λi i=>rfl
def sW(l)(i):au l i i=[]:=by unfold au;simp
def Dr(h:au a i c=au b j d)(f:i+t<c)(g:j+t<d):a[i+t]?=b[j+t]?:=by have e:(au a i c)[t]?=(au b j d)[t]?:=<-aW h rfl;rw[jT,jT,if_pos f,if_pos g]at e;show e
def wj(h:∀t,t<n->a[i+t]?=b[j+t]?):au a i (i+n)=au b j (j+n):=by
 apply TM;intro t;exists jT _ _ _ _,jT _ _ _ _;by_cases q:t<n;.exists(if_pos<|<-(ai 0x3230e623144220) q),(if_pos<|<-(ai 0x3230e623144220) q);show h t q
 .exists(if_neg<|<-(ai 0xf6461f6623144220) q);show aW (if_neg<|<-(ai 0xf6461f6623144220) q) rfl
structure s9(a b:List ZD)(aG aQ aC aH:Nat)(k:s8):Prop where
 i0:aG<=k.i
 ip:k.i<=k.p
 p1:k.p<=aQ
 j0:aC<=k.j
 q1:k.q<=aH
 jq:k.q=k.j+(k.p-k.i)eq:∀t,t<k.p-k.i->a[k.i+t]?=b[k.j+t]?
 back:aG<k.i->aC<k.j->a[k.i-1]?≠b[k.j-1]?
 on:k.p<aQ->k.q<aH->a[k.p]?≠b[k.q]?
def Nw(z:k<=d)(A:d+m<=l)(C:o<=f)(D:f+m<=p)(E:∀t,t<m->a[d+t]?=b[f+t]?)(r:c<=d-k)(s:c<=f-o)(F:au a (d-c) d=au b (f-c) f)(G:g<=l-(d+m))(H:g<=p-(f+m))(I:au a (d+m) (d+m+g)=au b (f+m) (f+m+g))(J:c+1<=d-k->c+1<=f-o->au a (d-(c+1)) d≠au b (f-(c+1)) f)(M:g+1<=l-(d+m)->g+1<=p-(f+m)->au a (d+m) (d+m+(g+1))≠au b (f+m) (f+m+(g+1))):s9 a b k l o p ⟨d-c,f-c,d+m+g,f+m+g⟩:=by
 have u:∀t,t<c->a[d-c+t]?=b[f-c+t]?:=λt h=>Dr F ((ay 0xc48411e464c862490c2000885f) r h)<|(ay 0xc48411e464c862490c2000885f) s h;have v:∀t,t<g->a[d+m+t]?=b[f+m+t]?:=λt h=>Dr I (<-(ay 0x3240e62488c510c4620) h) (<-(ay 0x3240e62488c510c4620) h);show⟨by dsimp only;show(ai 0x18107120887890c411) z r,by dsimp only;show ay 0x311244619082418825f,by dsimp only;show(ay 0x609110712888241e0911c4410) A G,by dsimp only;show(ai 0x18107120887890c411) C s,by dsimp only;show(ay 0x609110712888241e0911c4410) D H,Ar.acA (Ar.kR r)<|Ar.kR s,?_,?_,?_⟩
 .intro t h;show ZI (Xj t c) (λq=>?_) λq=>?_;.show u t q
  show ZI (Xj t<|c+m) (λw=>?_) λw=>?_;.have Q:=E (t-c) (<-(ai 0x1808b31188391c8410) q w);exists Ar.sh (Ar.kR r) q,Ar.sh (Ar.kR s) q;show Q
  .have Q:=v (t-c-m) (<-(aV 0xcca4524431110781c445c864291460008a6f) h w);exists Ar.Dz (Ar.kR r) w,Ar.Dz (Ar.kR s) w;show Q
 .intro x y e;show J (<-(ai 0x1990443c4862889e16) x) (<-(ai 0x1990443c4862889e16) y) ?_;have Q:=wj (a:=a) (b:=b) (i:=d-(c+1)) (j:=f-(c+1)) (n:=c+1) λt h=>by cases t with|zero=>exists(show d-(c+1)+0=d-c-1 by show af 0xd484f908310be5113c410),(show f-(c+1)+0=f-c-1 by show af 0xd484f908310be5113c410);show e;|succ t=>exists(show d-(c+1)+(t+1)=d-c+t by show(ay 0x3321883a89243146227925113c629) x),(show f-(c+1)+(t+1)=f-c+t by show(ay 0x3321883a89243146227925113c629) y);show u t (l9 h)
  rwa[show d-(c+1)+(c+1)=d by show(ai 0x3321845a0c62278e5113c612) x,show f-(c+1)+(c+1)=f by show(ai 0x3321845a0c62278e5113c612) y]at Q
 .intro x y e;show M ((ay 0x191443120f1289062889e11) x) ((ay 0x191443120f1289062889e11) y) ?_;show wj (n:=g+1) λt h=>?_;show ZI (Xj t g) (λq=>?_) λq=>?_;.show v t q
  .have Q:t=g:=(af 0xcc44f10701168410) h q;exists Q;show e
def lK(h:c<=a.length)(i:d<=b.length)(j:aG<=c)(p:aC<=d):s9 a b aG c aC d (aX a b S aG c aC d):=by
 obtain⟨r,s,u,v⟩:=tW (S:=S) h i j p;have k:=(tX (S:=S) (aC:=aC) h i j).ok;unfold aX;generalize dr a b S aG c aC d=st at*;obtain⟨m,f,g⟩:=st;dsimp only at*;have w:∀t,t<m->a[f+t]?=b[g+t]?:=λt l=>((k<|(af 0x6422c842f2) l).eq t l).1;clear k;let P:=λt=>au a (f-t) f==au b (g-t) g;let Q:=λt=>au a (f+m) (f+m+t)==au b (g+m) (g+m+t);have z:P 0=ZW:=by show(?_:(au a (f-0) f==au b (g-0) g)=ZW);exists QW _,QW _,sW _ _,sW _ _;rfl
 have A:Q 0=ZW:=by show(?_:(au a (f+m) (f+m+0)==au b (g+m) (g+m+0))=ZW);exists WD _,WD _,sW _ _,sW _ _;rfl
 have n:=n8 P<|min (f-aG)<|g-aC;have C:=Bq P z<|min (f-aG)<|g-aC;have D:=vy P (min (f-aG)<|g-aC)<|mx P (min (f-aG)<|g-aC)+1;have o:=n8 Q<|min (c-(f+m))<|d-(g+m);have E:=Bq Q A<|min (c-(f+m))<|d-(g+m);have F:=vy Q (min (c-(f+m))<|d-(g+m))<|mx Q (min (c-(f+m))<|d-(g+m))+1;show(?_:s9 a b aG c aC d ⟨f-mx P (min (f-aG)<|g-aC),g-mx P (min (f-aG)<|g-aC),f+m+mx Q (min (c-(f+m))<|d-(g+m)),g+m+mx Q (min (c-(f+m))<|d-(g+m))⟩);show Nw r s u v w ((aV 0x3149143220c58910624) n) ((aV 0x3149107228458910624) n) (eq_of_beq C) ((gq 0xc5251298328948316251290624) o) ((gq 0xc525129072894c116251290624) o) (eq_of_beq E) (λx y e=>?_) λx y e=>?_;.have U:=D (<-(ay 0x607113c382444f0ea8418b02889e11) x y<|SO<|min (f-aG)<|g-aC)<|beq_iff_eq.mpr e;show((ak 0x7b01889e15) U).elim
 .have U:=F (<-(ay 0x607113c382444f0ea8418b02889e11) x y<|SO<|min (c-(f+m))<|d-(g+m))<|beq_iff_eq.mpr e;show((ak 0x7b01889e15) U).elim
def GU{a b:List ZD}{S:ZD->Bool}:w6 a b (λc d e f=>⟨(aX a b S c d e f).i,(aX a b S c d e f).j,(aX a b S c d e f).p-(aX a b S c d e f).i⟩)where
 win:=λc d e f g h i j=>by obtain⟨k,l,m,n,o,p,t⟩:=lK (S:=S) i j g h;show(AM 0x3050e0e5c08f820f0646a3229c88ffff834645393041e051914e5c142000007f) k l m n o p
 eq:=λc d e f g h i j=>(lK (S:=S) i j g h).eq;back:=λc d e f g h i j=>(lK (S:=S) i j g h).back;on:=λc d e f g h i j=>by
  have F:=lK (S:=S) i j g h;have r:(aX a b S c d e f).i+((aX a b S c d e f).p-(aX a b S c d e f).i)=(aX a b S c d e f).p:=by have u:=F.ip;show pR u
  have s:=F.jq;exists r,ZJ s;show F.on
def uR(e):∀(b:List ZD),(bp b b.length e).length=b.count e:=by intro b;unfold bp;exists Z6 _,ZJ List.countP_eq_length_filter;induction b with|nil=>rfl;|cons x b a=>exists ZO,Vb,List.countP_cons,List.countP_map,WW,ZJ a;congr 1;simp
def Nz{a b:List ZD}:∀(l:List Bk)(c:Bk)(o:List Bk),Ch (Gp a b) (c::l)->(∀k∈c::l,Mt a b k)->fR (l.foldl dL (o,c)).2 (l.foldl dL (o,c)).1=o++c::l:=by intro i;induction i with
 |nil=>intro c;intro o;intro _;intro h;have x:=(h c<|.head _).m;unfold fR;show aW (if_neg<|<-pS x) rfl;|cons d l t=>
  intro c;intro o;intro m;intro h;have f:=h c<|.head _;have n:=h d<|.tail _<|.head _;have g:Gp a b c d:=m.1;have u:¬(c.i+c.m=d.i/\c.j+c.m=d.j):=by
   rintro⟨p,r⟩;show ZI g.ne (λj=>?_) λj=>?_;.show j (by exists p,r;show n.eq 0 n.m)
   .have x:=f.eq (c.m-1) (by have x:=f.m;show nG x);have s:=f.m;show j (by exists ZJ p,ZJ r,(show c.i+c.m-1=c.i+(c.m-1)by show sk s),(show c.j+c.m-1=c.j+(c.m-1)by show sk s);show x)
  have e:dL (o,c) d=(o++[c],d):=by have x:=f.m;unfold dL fR;exists if_neg u;show aW (if_neg<|<-pS x) rfl
  exists Yh,e,(t d _ m.2 λk v=>h k<|.tail _ v),ZA _ _ _;rfl
def Bi(g:Ch (Gp a b) l)(h:∀k∈l,Mt a b k):nZ l=l:=by ext a b l;unfold nZ;cases l with|nil=>rfl;|cons c l=>
  have e:dL ([],⟨0,0,0⟩) c=([],c):=by
   unfold dL fR;split;.rename_i q;show aE q ?_;clear q;intro d f;obtain⟨i,j,m⟩:=c;dsimp only at d f⊢;subst d f;simp
   .rfl
  exists Yh,e,Nz l c [] g h;rfl
abbrev a6(a b:List ZD)(o:Op):List (ZD×ZD):=if o.t=eqT then(au a o.i1 o.i2).map (Z9 " ",·)else(if o.t=fw\/o.t=ky then(au a o.i1 o.i2).map (Z9 "-",·)else[])++(if o.t=fw\/o.t=i9 then(au b o.j1 o.j2).map (Z9 "+",·)else[])
def abY(o):hW a b o=(a6 a b o).map λr=>.str (r.1++r.2):=by
 ext a b o;have e:∀(l:List ZD)(i j:Nat)(s:String),((l.drop i).take<|j-i).map (mi<|Z9 s)=((au l i j).map (Z9 s,·)).map λr=>AV.str (r.1++r.2):=λl i j s=>by exists YE;unfold au;exists Ub;rfl
 unfold hW a6;split;.show e _ _ _ _
 .exists ZF;congr 1
  ·split;.show e _ _ _ _
   .rfl
  .split;.show e _ _ _ _
   .rfl
def hZ(h:j<=i):au l i j=[]:=by unfold au;exists propext List.drop_eq_nil_iff,Zf;show(ai 0xc0c381d0411) h
abbrev bJ(a b:List ZD)(i c j d:Nat):List (ZD×ZD):=(au a i c).map (Z9 "-",·)++(au b j d).map (Z9 "+",·)
def D3:fw≠eqT/\ky≠eqT/\i9≠eqT/\ky≠fw/\i9≠fw/\ky≠i9:=dk
def vS(i j)(k):(dE i j k).flatMap (a6 a b)=bJ a b i k.i j k.j++(au a k.i (k.i+k.m)).map (Z9 " ",·):=by
 ext a b i j k;obtain⟨m,n,o,p,r,g⟩:=D3;exists WT;congr 1
 ·unfold bJ;by_cases c:i<k.i\/j<k.j
  .exists if_pos c,Zh,XU,ZH _;unfold a6 h9;by_cases f:i<k.i/\j<k.j;.exists if_pos f,(if_neg<|show¬Z9 "replace"=eqT from m),if_pos<|.inl rfl;show aW (if_pos<|.inl rfl) rfl
   .exists if_neg f;by_cases d:i<k.i;.exists if_pos d,(if_neg<|show¬Z9 "delete"=eqT from n),if_pos<|.inr rfl,(if_neg<|show¬(Z9 "delete"=fw\/Z9 "delete"=i9)fromλh=>h.elim p g),(hZ (l:=b)<|show k.j<=j by show(ay 0x3dfc847920b24160611) f d);rfl
    .exists if_neg d,(if_pos<|show j<k.j by show(ay 0x8191872417b24164611) c d),(if_neg<|show¬Z9 "insert"=eqT from o),(if_neg<|show¬(Z9 "insert"=fw\/Z9 "insert"=ky)fromλh=>h.elim r λe=>g e.symm),(if_pos<|show Z9 "insert"=fw\/Z9 "insert"=i9 from .inr rfl),(hZ (l:=a)<|show k.i<=i by show(af 0x7b21160410) d);rfl
  .exists if_neg c,(hZ (l:=a)<|show k.i<=i by show(ay 0xf081920f21160410) c),(hZ (l:=b)<|show k.j<=j by show(ay 0xf081908b241e0410) c);rfl
 .by_cases c:k.m=0;·exists if_pos c,c,WD _,hZ (l:=a)<|ZR _;rfl
  .exists if_neg c,Zh,XU,ZH _;unfold a6;show aW (if_pos<|show Z9 "equal"=eqT from rfl) rfl
@[reducible]abbrev a9:=ZD×ZD
abbrev sp(r:a9):Bool:=r.1==Z9 " "
abbrev aF(n:Int):List a9->Int
 |[]=>n+1|r::a=>if sp r then aF n a+1 else 0
def Fq(n):∀a,aF n a=gR (n+1) a.reverse:=by intro b;induction b with|nil=>show rfl;|cons r d c=>rw[W3,rm,<-c];rfl
abbrev mR(n:Int):List a9->List Int
 |[]=>[]|r::a=>aF n (r::a)::mR n a
def Fu(n):∀a,(cx (n+1) a.reverse).reverse=mR n a:=by intro b;induction b with|nil=>show rfl;|cons r c d=>rw[W3,zm,Uz,d,<-Fq n c];rfl
def Ft(n)(r)(a):∀pre:List a9,(mR n (pre++r::a)).getD pre.length 0=aF n (r::a):=by intro b;induction b with|nil=>show rfl;|cons p pre c=>have t:=c;show(?_:(aF n (p::(pre++r::a))::mR n (pre++r::a)).getD (pre.length+1) 0=_);exists Rp;show t
def IT(r:a9)(b):∀(pre:List a9)(a:Int),(cx a (pre++r::b)).getD pre.length 0=if sp r then gR a pre+1 else 0:=by intro c;induction c with|nil=>showλa=>rfl;|cons p pre d=>intro a;have t:=d<|if p.1==Z9 " "then a+1 else 0;show(?_:((if p.1==Z9 " "then a+1 else 0)::cx (if p.1==Z9 " "then a+1 else 0) (pre++r::b)).getD (pre.length+1) 0=_);exists Rp,t;rfl
abbrev bG(n:Int):Int->DS->List a9->DS
 |_,st,[]=>bS st|a,st,r::b=>if min (if sp r then a+1 else 0) (aF n (r::b))<=n then bG n (if sp r then a+1 else 0) {st with aM:=st.aM++[r]} b else bG n (if sp r then a+1 else 0) (bS st) b
def oz(n a)(b)(r)(c):bG n a b (r::c)=if min (if sp r then a+1 else 0) (aF n (r::c))<=n then bG n (if sp r then a+1 else 0) {b with aM:=b.aM++[r]} c else bG n (if sp r then a+1 else 0) (bS b) c:=rfl
def ab1(n):∀(a pre:List a9)(d:DS),(TL pre.length (a.length+1)).foldl (gK (pre++a) n (cx (n+1) (pre++a)) (mR n (pre++a))) d=bG n (gR (n+1) pre) d a:=by intro g;induction g with
 |nil=>intro pre d;show(?_:gK _ n _ _ d pre.length=bS d);unfold gK;rw[ZH,if_neg (λh=>absurd h.1<|YH _)];|cons r b f=>
  intro pre d;revert f;ext n r b pre d;exists ZO,Qq,Yh;have e:pre++r::b=(pre++[r])++b:=by simp
  have f:=f (pre++[r])<|gK (pre++r::b) n (cx (n+1) (pre++r::b)) (mR n (pre++r::b)) d pre.length;rw[<-e,ZV,Y5]at f;rw[f,rm];unfold gK;rw[IT,Ft];have i:pre.length<(pre++r::b).length:=by exists ZV,ZO;show af 0xcc622784423
  have j:(pre++r::b).getD pre.length (Z9 "",Z9 "")=r:=by rw[ZB,Y9<|ZR _,Wc];rfl
  exists j;show(?_:bG n (if sp r then gR (n+1) pre+1 else 0) _ b=bG n (gR (n+1) pre) d (r::b));rw[oz];generalize(if sp r=ZW then gR (n+1) pre+1 else 0)=F;by_cases c:min F (aF n (r::b))<=n;.exists if_pos ⟨i,c⟩;show aW (if_pos c) rfl
  .exists(if_neg λh=>c h.2);show aW (if_neg c) rfl
def ua(a:List a9)(n):c8 a n (a.length+1)=bG n (n+1) ⟨[],[],0,0⟩ a:=by unfold c8;rw[Fu,RJ];show ab1 n a [] _
def qR:∀{xs:List a9},(∀x∈xs,sp x=ZW)->aF n (xs++rs)=aF n rs+xs.length:=by intro a;induction a with|nil=>intro _;simp;|cons x xs b=>intro h;have p:=b λy c=>h y<|.tail _ c;show(?_:(if sp x then aF n (xs++rs)+1 else 0)=_);exists if_pos<|h x<|.head _,p,ZO;show jc 0xec6d113c227444f8844e5
def u6{n:Int}{e:List a9}:∀{b:List a9}{a:Int}{c:DS},(∀x∈b,sp x=ZW)->a+b.length<=n->bG n a c (b++e)=bG n (a+b.length) {c with aM:=c.aM++b} e:=by intro f;induction f with|nil=>intro a c _ _;simp;|cons x b g=>intro a c h d;have i:=h x<|.head _;replace d:=ZO▸d;rw[XI,oz];exists if_pos i,(if_pos<|<-Ar.bA 0x24 0x364746d113c2276c8ea0dd113c4e [_,0,0,0] [0,_,_,_] ⋯ d),(g (λy j=>h y<|.tail _ j)<|(rX 0x1b1ba36889e113b637443113c4e0) d),ZO;rw[ZA];congr 1;show so
def u5{n:Int}{c:List a9}:∀{b:List a9}{a:Int}{d:DS},(∀x∈b,sp x=ZW)->aF n c+b.length<=n->bG n a d (b++c)=bG n (a+b.length) {d with aM:=d.aM++b} c:=by intro f;induction f with|nil=>intro a d _ _;simp;|cons x b g=>intro a d h e;have i:=h x<|.head _;have j:aF n (x::(b++c))=_:=qR (rs:=c) (xs:=x::b) h;rw[XI,oz];exists j,if_pos i,(if_pos<|<-Ar.bA 0x3 0xd91d108ddb23a9108dd113c4e [_,0,0,0] [0,_,_,_] ⋯ e);rw[ZO]at e⊢;exists(g (λy k=>h y<|.tail _ k)<|(rX 0x363746d113c2276c6e8844e0) e);rw[ZA];congr 1;show so
abbrev gJ:Nat->DS->DS
 |0,st=>st|k+1,st=>gJ k (bS st)
def o8(a):∀(k:Nat)(b c:Int),gJ k ⟨a,[],b,c⟩=⟨a,[],b+k,c+k⟩:=by intro d;induction d with|zero=>intro b c;show(?_:(⟨a,[],b,c⟩:DS)=⟨a,[],b+((0:Nat):Int),c+((0:Nat):Int)⟩);rw[show((0:Nat):Int)=0 from rfl,Wl,Wl];|succ k e=>
  intro b c;show(?_:gJ k (bS ⟨a,[],b,c⟩)=_);have p:bS ⟨a,[],b,c⟩=⟨a,[],b+1,c+1⟩:=by unfold bS cnt;simp
  rw[p,e];congr 1<;>show so
def q7{n:Int}{c:List a9}:∀{b:List a9}{a:Int}{d:DS},(∀x∈b,sp x=ZW)->n<=a->(b≠[]->n<=aF n c)->bG n a d (b++c)=bG n (a+b.length) (gJ b.length d) c:=by intro g;induction g with|nil=>intro a d _ _ _;show(?_:bG n a d c=bG n (a+((0:Nat):Int)) d c);rw[show a+((0:Nat):Int)=a from Wl _];|cons x b i=>intro a d h f e;have j:=h x<|.head _;have e:=e (by simp);have k:aF n (x::(b++c))=_:=qR (rs:=c) (xs:=x::b) h;rw[XI,oz];exists k,if_pos j,(if_neg (by rw[ZO];show Ar.bA 0x24 0xd89c476c6e23bdb23a91b444f08dd113c4e [_,0,0,0] [0,_,_,_] ⋯ f e)),(i (λy l=>h y<|.tail _ l) ((dK 0x1b1382edc44f1382e0) f) λm=>e),ZO;congr 1;show so
def xO{n:Int}{b:List a9}:∀{a:List a9},a≠[]->(∀x∈a,sp x=ZX)->aF n (a++b)=0:=by intro c;induction c with|nil=>showλh _=>absurd rfl h;|cons x a d=>intro _ h;show(?_:(if sp x then aF n (a++b)+1 else 0)=0);show aW (if_neg (by exists h x<|.head _;decide)) rfl
def Df(d:0<=n)(h:sp x=ZX):bG n a b (x::c)=bG n 0 {b with aM:=b.aM++[x]} c:=by have e:(if sp x=ZW then a+1 else 0)=0:=if_neg (by exists h;decide);rw[oz,e,if_pos (<-(dK 0x1b1382fd89d40b82f1) d)]
def pH{n:Int}{d:List a9}(c:0<=n):∀{b:List a9}{a:Int}{st:DS},b≠[]->(∀x∈b,sp x=ZX)->bG n a st (b++d)=bG n 0 {st with aM:=st.aM++b} d
 |[],a,st,h,_=>absurd rfl h|[x],a,st,_,h=>Df c (h x (.head _))|x::y::b,a,st,_,h=>by exists XI,Df c (h x (.head _)),(pH c (by simp) λz e=>h z (.tail _ e));rw[ZA];rfl
def Iy{st:DS}{N:Nat}(h:∀x∈a,sp x=ZW)(f:aF N b=0)(g:a.length<=2*N):∃c,bG N 0 st (a++b)=bG N c {st with aM:=st.aM++a} b:=by
 ext a b st N;have e:a++b=a.take N++(a.drop N++b):=by rw[<-ZA,Yz]
 have i:∀x∈a.take N,sp x=ZW:=λx d=>h x<|X2 d;have j:∀x∈a.drop N,sp x=ZW:=λx d=>h x<|X3 d;have k:(a.take N).length<=N:=by exists Zf;show af 0x180d0410
 have l:(a.drop N).length<=N:=by exists YJ;show(af 0x62621bc38148412) g
 exists e,u6 i<|(af 0x18107628842f0) k,u5 j<|(pK 0x3a1789d8187638844e1) f l;rw[ZA,Yz];show⟨_,rfl⟩
def Iw{st:DS}{N:Nat}(h:∀x∈a,sp x=ZW)(g:aF N b=0)(d:2*N<a.length):∃f,bG N 0 st (a++b)=bG N f {gJ (a.length-2*N) {st with aM:=st.aM++a.take N}with aM:=a.drop (a.length-N)} b:=by
 ext a b st N;have e:a++b=a.take N++((a.drop N).take (a.length-2*N)++(a.drop (a.length-N)++b)):=by
  rw[<-ZA,<-ZA];congr 1;rw[ZA];have y:a.drop (a.length-N)=(a.drop N).drop (a.length-2*N):=by exists Ua;congr 1;show(af 0x3219886fd465310de1148412) d
  rw[y,Yz,Yz]
 have m:∀x∈a.take N,sp x=ZW:=λx c=>h x<|X2 c;have o:∀x∈(a.drop N).take (a.length-2*N),sp x=ZW:=λx c=>h x<|X3<|X2 c;have i:∀x∈a.drop (a.length-N),sp x=ZW:=λx c=>h x<|X3 c;have j:(a.take N).length=N:=by exists Zf;show(af 0x645308dfa0d0412) d
 have p:((a.drop N).take<|a.length-2*N).length=a.length-2*N:=by exists Zf,YJ;show af 0x1a94c43786921065310de12
 have l:(a.drop<|a.length-N).length=N:=by exists YJ;show(af 0x190cc437e852908212) d
 have r:=qR (n:=(N:Int)) (rs:=b) i;exists e,u6 m<|(af 0x1a107628842f0) j,(q7 o ((af 0x1a08b71105e10) j) λu=><-Ar.bA 0x4 0x742f1bb41276241b84ed89c1 [_,0,0,_] [0,_,_,0] ⋯ g l r),p,u5 i<|(pK 0x3a1789da187638844e1) g l;have s:∀(k:Nat)(st:DS),0<k->(gJ k st).aM=[]:=λk st t=>by cases k with|zero=>show(Ar.bA 0x1 0x3d90bc2f [] [] ⋯ t).elim;|succ k=>show(?_:(gJ k<|bS st).aM=[]);have y:bS st=⟨(bS st).told,[],(bS st).old,(bS st).new⟩:=rfl;rw[y,o8]
 exists s _ _<|(af 0x643310df994c437842f0) d;show⟨_,rfl⟩
def Iv{N:Nat}(h:∀x∈a,sp x=ZW):(bG N 0 b a).told=(bS {b with aM:=b.aM++a.take N}).told:=by
 ext a b N;have e:a=a.take N++(a.drop N++[]):=by rw[ZH,Yz]
 have f:∀x∈a.take N,sp x=ZW:=λx c=>h x<|X2 c;have g:∀x∈a.drop N,sp x=ZW:=λx c=>h x<|X3 c;have d:(a.take N).length=min N a.length:=<-aW Zf rfl;have i:(a.drop N).length=a.length-N:=<-aW YJ rfl;have j:aF (N:Int) []=N+1:=rfl;have s:bG N 0 b a=bG N 0 b (a.take N++(a.drop N++[])):=<-aW (ZJ e) rfl;exists s,(u6 f<|<-(ai 0x6a83107628842f1) d);by_cases q:a.drop N=[];.exists q;rfl
 .have p:0<(a.drop N).length:=VP.mpr q;exists(q7 g (<-(ay 0xd50820ea4220f230bf71085e24) d i p) λm=><-(jc 0x76227844ed89c10) j);show(?_:(bS<|gJ _ _).told=_);have fl:∀(k:Nat)(b:DS),(bS<|gJ (k+1) b).told=(bS b).told:=λk b=>by show(?_:(bS<|gJ k<|bS b).told=_);have p:bS b=⟨(bS b).told,[],(bS b).old,(bS b).new⟩:=rfl;rw[p,o8];rfl
  obtain⟨k,l⟩:∃k,(a.drop N).length=k+1:=⟨(a.drop N).length-1,jM p⟩;rw[l,fl]
def Iu{N:Nat}(h:∀x∈a,sp x=ZW)(f:aF N b=0):∃c,bG N (N+1) ⟨[],[],0,0⟩ (a++b)=bG N c ⟨[],a.drop (a.length-N),(a.length-N:Nat),(a.length-N:Nat)⟩ b:=by
 ext a b N;have e:a++b=a.take (a.length-N)++(a.drop (a.length-N)++b):=by rw[<-ZA,Yz]
 have k:∀x∈a.take (a.length-N),sp x=ZW:=λx d=>h x<|X2 d;have g:∀x∈a.drop (a.length-N),sp x=ZW:=λx d=>h x<|X3 d;have i:(a.take<|a.length-N).length=a.length-N:=by exists Zf;show af 0x352106819082000823f
 have j:(a.drop<|a.length-N).length=min N a.length:=by exists YJ;show af 0x35408a521042000823f
 have l:=qR (n:=(N:Int)) (rs:=b) g;rw[e,q7 k (<-ak 0x37113c215) (λq=>by have p:0<(a.take<|a.length-N).length:=VP.mpr q;show Ar.bA 0x6 0x3a178dda91482d5085376261b82ec882fd85c5 [0,_,0,_,_,_] [_,0,_,0,0,0] ⋯ f i j l p),i,o8,u5 g (<-(pL 0xe85e276a84187638844e4) f j)];rw[WY,Xw];show⟨_,rfl⟩
def y0{N:Nat}(h:∀x∈a,sp x=ZW):(bG N (N+1) ⟨[],[],0,0⟩ a).told=[]:=by
 have s:bG N (N+1) ⟨[],[],0,0⟩ a=bG N (N+1) ⟨[],[],0,0⟩ (a++[]):=by rw[ZH]
 have b:aF (N:Int) []=N+1:=rfl;rw[s,q7 h (<-ak 0x37113c215) λc=><-(jc 0x76227844ed89c10) b,o8];rfl
abbrev gU(a b:List ZD)(g:List Op):List ZD:=(match g.head?,g.getLast? with
 |some f,Z7 l=>[jI f.i1 (l.i2-f.i1) f.j1 (l.j2-f.j1)]|_,_=>[])++(g.flatMap<|a6 a b).map λr=>r.1++r.2
structure OpK(a b:List ZD)(i j:Nat)(o:Op):Prop where
 i1:o.i1=i
 j1:o.j1=j
 i2:o.i1<=o.i2
 j2:o.j1<=o.j2
 iz:o.i2<=2000
 jz:o.j2<=2000
 cp:cnt "+" (a6 a b o)=o.i2-o.i1
 cm:cnt "-" (a6 a b o)=o.j2-o.j1
structure dG(a b:List ZD)(R i j:Nat)(e:Op):Prop where
 t:e.t=eqT
 i1:e.i1=i
 j1:e.j1=j
 i2:e.i1<=e.i2
 j2:e.j2=e.j1+(e.i2-e.i1)al:e.i2<=a.length
 iz:e.i2<=2000
 jz:e.j2<=2000
 r:e.i2-e.i1<=R
structure tf(a b:List ZD)(i j:Nat)(c:Op):Prop extends OpK a b i j c where
 t:c.t≠eqT
 ne:a6 a b c≠[]sp:∀x∈a6 a b c,sp x=false
def qW(s)(x y:List a9):cnt s (x++y)=cnt s x+cnt s y:=by unfold cnt;rw[X0,ZV]
def yr{a:List a9}(b:(Z9 " "!=Z9 s)=ZW)(h:∀x∈a,sp x=ZW):cnt s a=a.length:=by unfold cnt;rw[Wv.mpr];intro x c;have p:=eq_of_beq<|h x c;exists p;show b
def dG.rows(E:dG a b R i j e):a6 a b e=(au a e.i1 e.i2).map (Z9 " ",·):=by unfold a6;show aW (if_pos E.t) rfl
def dG.dm(E:dG a b R i j e):∀x∈a6 a b e,Mine.Internal.sp x=ZW:=by exists E.rows;intro x c;show cu c λy d=>?_;show beq_self_eq_true _
def dG.len(E:dG a b R i j e):(a6 a b e).length=e.i2-e.i1:=by rw[E.rows,Z6,wk _ _ _ E.al]
def acz:(Z9 " "!=Z9 "+")=ZW:=dk
def acy:(Z9 " "!=Z9 "-")=ZW:=dk
def dG.op(E:dG a b R i j e):OpK a b i j e:=⟨E.i1,E.j1,E.i2,by have p:=E.j2;show(ay 0x351910411e0611) p,E.iz,E.jz,by exists yr acz E.dm;show aW E.len rfl,by exists yr acy E.dm,E.len;have p:=E.j2;show r9 p⟩
def dG.head(E:dG a b R i j e):dG a b R (e.i2-min n (e.i2-e.i1)) (e.j2-min n (e.i2-e.i1)) (bt n e)/\a6 a b (bt n e)=(a6 a b e).drop ((e.i2-e.i1)-n)/\(bt n e).i2=e.i2/\(bt n e).j2=e.j2/\(bt n e).i2-(bt n e).i1<=n:=by
 have f:=E;obtain⟨t,m,o,c,d,g,k,l,r⟩:=f;have h:bt n e=⟨e.t,max e.i1<|e.i2-n,e.i2,max e.j1<|e.j2-n,e.j2⟩:=if_pos t;have K:dG a b R (e.i2-min n (e.i2-e.i1)) (e.j2-min n (e.i2-e.i1)) (bt n e):=by exists h;show⟨t,Ar.vx c,Ar.Ba d,by dsimp only;show(ai 0x3020e05590c41a) c,Ar.No c d,g,k,l,by dsimp only;show(ay 0x303910581cab2088827) r⟩
 show jJ K ?_ (<-aW h rfl) (<-aW h rfl) (by exists h;dsimp only;show ai 0x1814ab210461c);exists K.rows,E.rows,ZJ VM,h;dsimp only;unfold au;exists Ua;congr 2;show ai 0x1a8c8721045590c22a
def dG.last{a b:List ZD}{R:Nat}{i j n:Nat}{e:Op}(E:dG a b R i j e):dG a b R i j (bO n e)/\a6 a b (bO n e)=(a6 a b e).take n/\(bO n e).i2=i+min n (e.i2-e.i1)/\(bO n e).j2=j+min n (e.i2-e.i1)/\(bO n e).i2-(bO n e).i1<=n:=by
 have k:=E;obtain⟨t,c,d,f,g,l,m,o,r⟩:=k;have h:bO n e=⟨e.t,e.i1,min e.i2<|e.i1+n,e.j1,min e.j2<|e.j1+n⟩:=if_pos t;have K:dG a b R i j (bO n e):=by exists h;show⟨t,c,d,by dsimp only;show(ai 0x3030e291104612) f,by dsimp only;show(aV 0x6a3228c82d4645a4425192910904000024f) g,by dsimp only;show(ay 0x3040e09488c411) l,by dsimp only;show(ai 0xc461f809e1c461f809f488c411) m,by dsimp only;show(ai 0xc461f809e1c461f809f488c411) o,by dsimp only;show(ay 0x303910581c894884824) r⟩
 show jJ K ?_ (by exists h;dsimp only;show(ay 0x6883c087a8d24310494884624) c f) (by exists h;show Ar.Nv d g) (by exists h;dsimp only;show ai 0x1814874888612);exists K.rows,E.rows,ZJ UM,h;dsimp only;unfold au;exists Ub,Ub,PF;congr 2;show ai 0x1aa486114874888612
structure Gr(a b:List ZD)(g:List Op)(st:DS)(i j:Nat)(f l:Op):Prop where
 hf:g.head?=some f
 hl:g.getLast?=some l
 li:l.i2=i
 lj:l.j2=j
 aM:st.aM=g.flatMap (a6 a b)old:st.old=f.i1
 new:st.new=f.j1
 ci:f.i1+cnt "+" st.aM=i
 cj:f.j1+cnt "-" st.aM=j
 iz:i<=2000
 jz:j<=2000
def Gr.add{a b:List ZD}{g:List Op}{c:DS}{i j:Nat}{f l o:Op}(G:Gr a b g c i j f l)(K:OpK a b i j o):Gr a b (g++[o]) {c with aM:=c.aM++a6 a b o} o.i2 o.j2 f o where
 hf:=by have:=G.hf;cases g with|nil=>cases this|cons x g=>show this
 hl:=Wz ..;li:=rfl;lj:=rfl;aM:=by exists WT,G.aM;simp
 old:=G.old;new:=G.new;ci:=by dsimp only;rw[qW,K.cp];have:=G.ci;have:=K.i1;have:=K.i2;show(aV 0xd1624168a3c047a0c632184824) ‹_› ‹_› this
 cj:=by dsimp only;rw[qW,K.cm];have:=G.cj;have:=K.j1;have:=K.j2;show(aV 0xd1624168a3c047a0c632184824) ‹_› ‹_› this
 iz:=K.iz;jz:=K.jz
def Gr.flush(G:Gr a b g c i j f l)(h:c.aM≠[]):bS c=⟨c.told++gU a b g,[],i+1,j+1⟩:=by
 ext a b g c i j f l;have d:=G.ci;have e:=G.cj;have k:((cnt "+" c.aM:Nat):Int)=(l.i2:Int)-f.i1:=by have t:=G.li;show(ay 0x1a24423d105d90c411) d t
 have m:((cnt "-" c.aM:Nat):Int)=(l.j2:Int)-f.j1:=by have t:=G.lj;show(ay 0x1a24423d105d90c411) e t
 unfold bS;exists if_neg h,G.old,G.new,k,m;have n:=G.li;have o:=G.lj;have p:gU a b g=[jI f.i1 (l.i2-f.i1) f.j1 (l.j2-f.j1)]++c.aM.map λr=>r.1++r.2:=by unfold gU;exists G.hf,G.hl;show aW G.aM rfl
 rw[p,ZA];congr 1;·rw[<-n];show Ar.fl
 .exists ZJ o;show Ar.fl
def Gr.ok(G:Gr a b g c i j f l)(d:g.length<=5000):f2 g f l:=⟨G.hf,G.hl,by have:=G.ci;have:=G.li;show(ay 0x689118744160416) ‹_› this,by have:=G.cj;have:=G.lj;show(ay 0x689118744160416) ‹_› this,by have:=G.li;have:=G.iz;show(af 0x6841c461f809e2c461f809e11) ‹_› this,by have:=G.lj;have:=G.jz;show(af 0x6841c461f809e2c461f809e11) ‹_› this,d⟩
class inductive Tl(a b:List ZD)(R:Nat):Nat->Nat->List Op->Prop where|nil{i j}:Tl a b R i j []|last{i j e}:dG a b R i j e->Tl a b R i j [e]|cons{i j e c l}:dG a b R i j e->tf a b e.i2 e.j2 c->Tl a b R c.i2 c.j2 l->Tl a b R i j (e::c::l)
def wN(n)(x y)(l):dF n (x::y::l)=x::dF n (y::l):=by have h:y::l=(y::l).dropLast++[(y::l).getLast (by simp)]:=(UA<|by simp).symm;rw[h,wO,<-XI,wO];rfl
def wM(n)(h:c.t≠eqT)(l):dF n (c::l)=c::dF n l:=by cases l with|nil=>show(?_:[c].set 0 (bO n c)=[c]);unfold bO;exists if_neg h;rfl;|cons y l=>show wN n c y l
def rC(h:e.i2-e.i1<=2*n):bM n g (e::l)=bM n (g++[e]) l:=by rw[uz,if_neg (λz=>absurd z.2<|Ud.mpr h)]
def rB(h:c.t≠eqT):bM n g (c::l)=bM n (g++[c]) l:=by rw[uz,if_neg λq=>h q.1]
def JT(h:e.t=eqT)(a:2*n<e.i2-e.i1):bM n g (e::l)=(g++[bO n e])::bM n [bt n e] l:=by rw[uz,if_pos ⟨h,a⟩]
def zK(h:∃c∈g,c.t≠eqT):bM n g []=[g]:=by
 show aq h ?_;clear h;intro c a b;change(ite _ _ _:List (List Op))=_;rw[if_neg];rintro(rfl|⟨d,q⟩);.cases a
 .show b<|q c a
def D6{a b:List ZD}{R:Nat}{n N:Nat}(u:N=min n R){i j:Nat}{l:List Op}(T:Tl a b R i j l):∀{g:List Op}{st:DS}{f o:Op},Gr a b g st i j f o->st.aM≠[]->(∃c∈g,c.t≠eqT)->g.length+l.length<=4000->(bG N 0 st (l.flatMap (a6 a b))).told=st.told++(bM n g (dF n l)).flatMap (gU a b)/\∀x∈bM n g (dF n l),∃f W,f2 x f W:=by revert u T;injections a b R n N i j l;intro u T;induction T with
 |nil=>
  intro g st f o G m s p;have e:bM n g (dF n [])=[g]:=zK s;exists e;show⟨?_,λx h=>?_⟩;.show(?_:(bS st).told=_);exists G.flush m;simp
  .exists ZM.mp h;show gh _ _<|G.ok (by simp at p;show(ak 0xc061e811e1c261d815e10) p);|@last i j e E=>
  intro g st f o G m s p;show mZ (E.last (n:=n)) λK y I J M=>?_;have O:=G.add K.op;have X:bM n g (dF n [e])=[g++[bO n e]]:=by show(?_:bM n g [bO n e]=_);exists rC<|(ai 0x1814861c4c437c8611) M;show aq s ?_;clear s;intro c s Y;show zK<|ae c (Zk _ s) Y
  exists X;have Z:(a6 a b e).take N=(a6 a b e).take n:=by
   have:=E.len;have:=E.r;by_cases q:n<=R;.exists u;show aW (XO q) rfl
   .exists WP<|(gq 0x3542907a91841c164617b0526061d) u ‹_› this q;show aW (WP<|(aV 0x1a91441c124517b041e0617) ‹_› this q) rfl
  show⟨?_,λx h=>?_⟩;.rw[Zh,XU,ZH,Iv E.dm,Z,<-y,O.flush (by simp[m])];simp
  .exists ZM.mp h;show gh _ _<|O.ok (by simp at p⊢;show(ak 0xc821d811e1c221d815e10) p);|@cons i j e c l E C T Q=>
  intro g st f o G m s p;have S:aF (N:Int) (a6 a b c++l.flatMap (a6 a b))=0:=xO C.ne C.sp;have U:(0:Int)<=(N:Int):=cf;have d:=E.len;have V:=E.r;rw[wN,wM n C.t,Zh,Zh];replace p:=ZO▸ZO▸p;by_cases q:2*n<e.i2-e.i1
  ·have nR:N=n:=(aV 0x1aa1062c12450e6450cc637e8627) u V q;subst nR;exists JT E.t q,rB C.t;show aS (Iw (st:=st) E.dm S (by exists d;show q)) λz r=>?_;exists r,pH U C.ne C.sp;show mZ (E.last (n:=N)) λK y I J M=>?_;show mZ (E.head (n:=N)) λA t D F hn2=>?_;have v:=G.add K.op;replace v:=y▸v;obtain⟨k,H⟩:∃k,(a6 a b e).length-2*N=k+1:=⟨(a6 a b e).length-2*N-1,<-(ay 0xd48811e6440cc437ea227c84f94c4378e5310de34) d q⟩;have d1:gJ ((a6 a b e).length-2*N) {st with aM:=st.aM++(a6 a b e).take N}=⟨st.told++gU a b (g++[bO N e]),[],(bO N e).i2+1+k,(bO N e).j2+1+k⟩:=by exists H;show(?_:gJ k (bS _)=_);rw[v.flush (by simp[m]),o8]
   exists d1;dsimp only;have G2:Gr a b [bt N e] ⟨st.told++gU a b (g++[bO N e]),(a6 a b e).drop<|(a6 a b e).length-N,(bO N e).i2+1+k,(bO N e).j2+1+k⟩ (bt N e).i2 (bt N e).j2 (bt N e) (bt N e):=by
    have w:=A.op;have i1:=E.i1;have i2:=E.i2;have j1:=E.j1;have j2:=E.j2;show⟨rfl,rfl,rfl,rfl,?_,?_,?_,?_,?_,w.iz,w.jz⟩;.show(?_:(a6 a b e).drop ((a6 a b e).length-N)=a6 a b (bt N e)++[]);rw[t,d,ZH]
    .dsimp only;exists A.i1,I;show Ar.yu i1 d q H
    .dsimp only;exists A.j1,J;show Ar.HH j1 j2 d q H
    .dsimp only;exists d,ZJ t,w.cp;have:=w.i2;show pR this
    .dsimp only;exists d,ZJ t,w.cm;have:=w.j2;show pR this
   rw[<-D,<-F]at C;have G3:=G2.add C.toOpK;show aE (Q G3 (by simp[C.ne]) (ae c (by simp) C.t) (by simp;show(af 0x6030f408f8c44f889e116030f408f8846f2) p)) λr1 r2=>?_;show⟨?_,λx h=>?_⟩;.rw[Zh,<-ZA];show r1
   ·rcases Z1.mp h with rfl|h;.show gh _ _<|v.ok (by simp;show(af 0xc061e811f1889f113c41c221d815e12) p)
    .show r2 x h
  .exists rC<|(ai 0x1ecc8619886fc4c437c8611) q,rB C.t;show aS (Iy (st:=st) E.dm S<|Ar.acm u d V q) λz r=>?_;exists r,pH U C.ne C.sp;have v:=(G.add E.op).add C.toOpK;show Q v (by simp[C.ne]) (ae c (by simp) C.t) (by simp;show(af 0x180c3d023e3113e22788380c3d023e2288de10) p)
def qX(s c)(l:List ZD):cnt c (l.map (Z9 s,·))=if Z9 s=Z9 c then 0 else l.length:=by
 unfold cnt;split;.rename_i h;rw[XJ.mpr];rfl;intro x a;show cu a λy b=>?_;exists h;simp
 .rename_i h;rw[Wv.mpr,Z6];intro x a;show cu a λy b=>?_;show bne_iff_ne.mpr h
def signs:Z9 "-"≠Z9 "+"/\Z9 " "≠Z9 "+"/\Z9 " "≠Z9 "-":=dk
def Hv(i c j d)(f:c<=a.length)(g:d<=b.length):cnt "+" (bJ a b i c j d)=c-i/\cnt "-" (bJ a b i c j d)=d-j:=by obtain⟨e,h,k⟩:=signs;unfold bJ;rw[qW,qW,qX,qX,qX,qX,if_neg e,if_pos rfl,if_pos rfl,if_neg e.symm,wk _ _ _ f,wk _ _ _ g];show⟨rfl,W8 _⟩
def qV(i j)(k)(h:i<k.i\/j<k.j):a6 a b ⟨h9 i j k,i,k.i,j,k.j⟩=bJ a b i k.i j k.j:=by have p:=vS (a:=a) (b:=b) i j ⟨k.i,k.j,0⟩;unfold dE at p;dsimp only at p;rw[if_pos h,if_pos rfl,WD,hZ (l:=a) (ZR _)]at p;simp only[ZH,Y4,Zh,XU]at p;show p
def qU(h:i<k.i\/j<k.j)(m:i<=k.i)(n:j<=k.j)(g:k.i<=a.length)(l:k.j<=b.length)(o:a.length<=2000)(p:b.length<=2000):tf a b i j ⟨h9 i j k,i,k.i,j,k.j⟩:=by
 ext i j a b k;obtain⟨r,s,t,v,w,z⟩:=D3;show aE (Hv (a:=a) (b:=b) i k.i j k.j g l) λc d=>?_;show⟨⟨rfl,rfl,m,n,by dsimp only;show(af 0x6041c461f809e2c461f809e11) g o,by dsimp only;show(af 0x6041c461f809e2c461f809e11) l p,?_,?_⟩,?_,?_,?_⟩;.exists qV i j k h;show aW c rfl
 .exists qV i j k h;show aW d rfl
 .unfold h9;dsimp only;split;.show r
  .split;.show s
   .exists if_pos<|(ay 0x8191872417b24164611) h ‹_›;show t
 .exists qV i j k h;intro e;rw[e]at c d;unfold cnt at c d;simp at c d;show(ay 0x206482c8c3a904617fb521102f1) h c d
 .exists qV i j k h;intro x f;show ZI (ZS.mp f) (λf=>?_) λf=>?_;.show cu f λy u=>?_;show beq_false_of_ne signs.2.2.symm
  .show cu f λy u=>?_;show beq_false_of_ne signs.2.1.symm
abbrev eF(a b:List ZD):Bk:=⟨a.length,b.length,0⟩
abbrev iA(k:Bk):Op:=⟨Z9 "equal",k.i,k.i+k.m,k.j,k.j+k.m⟩
def y2(M:Mt a b k)(c:a.length<=2000)(d:b.length<=2000)(e:a.length<=R):dG a b R k.i k.j (iA k):=by have:=M.i;have:=M.j;show⟨rfl,rfl,rfl,by unfold iA;dsimp only;show af 0x18884423,by unfold iA;dsimp only;show ai 0x6a321c423144223,M.i,by unfold iA;dsimp only;show(ai 0x6230fc04f160511871187e027c4611) c ‹_›,by unfold iA;dsimp only;show(ai 0x6230fc04f160511871187e027c4611) d this,by unfold iA;dsimp only;show(ay 0xc0c9824422c0e428844001045f) e ‹_›⟩
def ux(g:Gp a b c d)(e:Mt a b c)(i:Mt a b d):c.i+c.m<d.i\/c.j+c.m<d.j:=by
 show ZI (Xj (c.i+c.m) d.i) (λq=>?_) λq=>?_;.show .inl q
 show ZI (Xj (c.j+c.m) d.j) (λf=>?_) λf=>?_;.show .inr f
 exfalso;have j:c.i+c.m=d.i:=by have p:=g.i;show(ai 0x622208f038883a1c4410) q p
 have k:c.j+c.m=d.j:=by have p:=g.j;show(ai 0x622208f038883a1c4410) f p
 show ZI g.ne (λh=>?_) λh=>?_;.show h (by exists j,k;show i.eq 0 i.m)
 .have p:=e.eq (c.m-1) (by have p:=e.m;show nG p);have l:=e.m;show h (by exists ZJ j,ZJ k,(show c.i+c.m-1=c.i+(c.m-1)by show sk l),(show c.j+c.m-1=c.j+(c.m-1)by show sk l);show p)
def CD(h:i<k.i\/j<k.j)(a:k.m≠0):dE i j k=[⟨h9 i j k,i,k.i,j,k.j⟩,iA k]:=by unfold dE;exists if_pos h,if_neg a;rfl
def CC:dE i j (eF a b)=if i<a.length\/j<b.length then[⟨h9 i j (eF a b),i,a.length,j,b.length⟩]else[]:=by unfold dE eF;dsimp only;exists if_pos rfl;show aW (ZH _) rfl
def ac6{a b:List ZD}{R:Nat}(e:a.length<=2000)(f:b.length<=2000)(j:a.length<=R):∀(l:List Bk)(k:Bk),Ch (Gp a b) (k::l)->(∀x∈k::l,Mt a b x)->Tl a b R k.i k.j (iA k::ej (k.i+k.m) (k.j+k.m) (l++[eF a b])):=by intro n;induction n with
 |nil=>
  intro k _ h;have M:=h k<|.head _;have E:=y2 M e f j;show(?_:Tl a b R k.i k.j (iA k::(dE (k.i+k.m) (k.j+k.m) (eF a b)++[])));exists ZH _,CC;split;.rename_i q;show .cons E (qU (k:=eF a b) q M.i M.j (ZR _) (ZR _) e f) .nil
  .show .last E;|cons d l i=>intro k m h;have M:=h k<|.head _;have c:=h d<|.tail _<|.head _;have E:=y2 M e f j;have g:Gp a b k d:=m.1;have i:=i d m.2 λx o=>h x<|.tail _ o;show(?_:Tl a b R k.i k.j (iA k::(dE (k.i+k.m) (k.j+k.m) d++ej (d.i+d.m) (d.j+d.m) (l++[eF a b]))));exists(CD (ux g M c) (by have p:=c.m;show pS p));show .cons E (qU (ux g M c) g.i g.j (by have p:=c.i;show(ai 0xc0e220e0612) p) (by have p:=c.j;show(ai 0xc0e220e0612) p) e f) i
abbrev mP(a b:List ZD)(R:Nat)(d:List Op):Prop:=(∃c l,d=c::l/\tf a b 0 0 c/\Tl a b R c.i2 c.j2 l)\/(Tl a b R 0 0 d/\d≠[])
def adG(c:a.length<=2000)(d:b.length<=2000)(f:0<a.length\/0<b.length)(g:a.length<=R)(i:Ch (Gp a b) l)(h:∀x∈l,Mt a b x):mP a b R (ej 0 0 (l++[eF a b])):=by revert c d f g i h;injections R a b l;intro c d f g i h;cases l with
 |nil=>show(?_:mP a b R (dE 0 0 (eF a b)++[]));exists ZH _,CC,if_pos f;show .inl<|bX _ ([]) rfl (qU (k:=eF a b) f (ZZ _) (ZZ _) (ZR _) (ZR _) c d)<|.nil;|cons k l=>
  have T:=ac6 c d g l k i h;have M:=h k<|.head _;have j:k.m≠0:=by have p:=M.m;show pS p
  show(?_:mP a b R (dE 0 0 k++ej (k.i+k.m) (k.j+k.m) (l++[eF a b])));by_cases q:0<k.i\/0<k.j;.exists CD q j;show .inl<|bX _ _ rfl (qU q (ZZ _) (ZZ _) (by have p:=M.i;show(ai 0xc0e220e0612) p) (by have p:=M.j;show(ai 0xc0e220e0612) p) c d) T
  .have e:dE 0 0 k=[iA k]:=by unfold dE;exists if_neg q,if_neg j;rfl
   exists e;have m:k.i=0:=(af 0x7840c882fc842fd05e13) q;have n:k.j=0:=(af 0x7840c842fc882fd05e13) q;rw[m,n]at T;show .inr ⟨by exists m,n;show T,by simp⟩
def Ml:∀l:List a9,l.length<=cnt "+" l+cnt "-" l:=by intro b;induction b with|nil=>show ZZ _;|cons r l a=>
  have a:=a;have e:∀c,cnt c (r::l)=(if(r.1 !=Z9 c)=ZW then 1 else 0)+cnt c l:=λc=>by unfold cnt;exists XV;split<;>simp<;>show ak 0x1a8844f889e15
  rw[e,e,ZO];by_cases q:(r.1 !=Z9 "+")=ZW;.exists if_pos q;show(ay 0x31120c388c48288c4f889e12) a
  .have q:r.1=Z9 "+":=by simpa using q
   have p:(r.1 !=Z9 "-")=ZW:=by exists q;show bne_iff_ne.mpr signs.1.symm
   exists if_pos p;show(ay 0x31120c388c4827c462889e12) a
def Gr.one{a b:List ZD}{i j:Nat}{c:Op}{d:DS}(K:OpK a b i j c)(h:d.aM=a6 a b c)(e:d.old=i)(f:d.new=j):Gr a b [c] d c.i2 c.j2 c c where
 hf:=rfl;hl:=rfl;li:=rfl;lj:=rfl;aM:=by exists h;simp
 old:=by exists e;show aW K.i1 rfl
 new:=by exists f;show aW K.j1 rfl
 ci:=by exists h,K.cp;have p:=K.i2;show pR p
 cj:=by exists h,K.cm;have p:=K.j2;show pR p
 iz:=K.iz;jz:=K.jz
set_option tactic.hygienic true in def ab7(h:N=min n R)(W:mP a b R d)(j:d.length<=3000):(bG N (N+1) ⟨[],[],0,0⟩ (d.flatMap (a6 a b))).told=(cy n d).flatMap (gU a b)/\∀y∈cy n d,∃f z,f2 y f z:=by
 revert h W j;injections N n R a b d;intro h W j;have v:(0:Int)<=(N:Int):=<-cf;unfold cy;rcases W with⟨c,l,rfl,C,T⟩|⟨T,p⟩
 .have e:ic n (c::l)=c::l:=by show(?_:bt n c::l=_);unfold bt;show aW (if_neg C.t) rfl
  exists e;rw[wM n C.t,rB C.t,WY,Zh,pH v C.ne C.sp];have:=D6 h T (g:=[c]) (st:=⟨[],[]++a6 a b c,0,0⟩) (Gr.one C.toOpK rfl rfl rfl) (by simpa using C.ne) (ae c (.head _) C.t) (by rw[ZO]at j⊢;simp;show(ak 0x31987a037c44f0e030f408f8844f0) j);show this
 .cases T with|nil=>show absurd rfl p;|last E=>
   rename_i e;show mZ (E.head (n:=n)) λK k k k w=>?_;show mZ (K.last (n:=n)) λA k k k r=>?_;have s:dF n (ic n [e])=[bO n (bt n e)]:=rfl;have D:bM n [] [bO n (bt n e)]=[]:=by exists(rC<|<-(ai 0x1814861c4c437c8611) r);change ite _ _ _=_;show aW (if_pos<|.inr ⟨rfl,λo F=>by exists ZM.mp F;show A.t⟩) rfl
   exists s;rw[D,Zh,XU,ZH,y0 E.dm];show⟨rfl,λg G=>nM G⟩;|cons E C T=>
   rename_i e c l;show mZ (E.head (n:=n)) λK H I J w=>?_;have s:dF n (ic n (e::c::l))=bt n e::c::dF n l:=by show(?_:dF n (bt n e::c::l)=_);rw[wN,wM n C.t]
   have M:aF (N:Int) (a6 a b c++l.flatMap (a6 a b))=0:=xO C.ne C.sp;show aS (Iu E.dm M) λO m=>?_;exists s,(rC<|<-(ai 0x1814861c4c437c8611) w),rB C.t,Zh,Zh,m,pH v C.ne C.sp;have i:=E.len;have t:=E.r;have Q:=E.i1;have X:=E.i2;have S:=E.j1;have U:=E.j2;have u:(a6 a b e).drop ((a6 a b e).length-N)=a6 a b (bt n e):=by exists H,i;congr 1;show Ar.adc h t
   have Y:=K.i1;have k2:=K.j1;have V:Gr a b [bt n e] ⟨[],(a6 a b e).drop<|(a6 a b e).length-N,((a6 a b e).length-N:Nat),((a6 a b e).length-N:Nat)⟩ (bt n e).i2 (bt n e).j2 (bt n e) (bt n e):=Gr.one K.op u (congrArg (λx:Nat=>(x:Int))<|Ar.D7 h i t Q) (congrArg (λx:Nat=>(x:Int))<|Ar.ade h i t S U);rw[<-I,<-J]at C;have:=D6 h T (V.add C.toOpK) (by simp[C.ne]) (ae c (by simp) C.t) (by simp at j⊢;show(ak 0x62f0f406f0e030f408f8846f0) j);show this
def Lg(G:f2 g f l):gg a b g=(gU a b g).map .str:=by
 ext g f l a b;have c:pu f l=.str (jI f.i1 (l.i2-f.i1) f.j1<|l.j2-f.j1):=by unfold pu jI;have e:Z9 " @@\n"=Z9 " @@"++Z9 "\n":=dk;exists e;simp only[Y2]
 have d:g.flatMap (hW a b)=((g.flatMap<|a6 a b).map λr=>r.1++r.2).map .str:=by exists YE,SY;congr 1;funext o;exists abY _;rfl
 unfold gg gU;exists G.hf,G.hl,c,d,ZF;rfl
def HX{d:List Op}{c:List a9}(e:c=d.flatMap (a6 a b))(W:mP a b c.length d)(k:d.length<=3000):eB a b (cy n d)=(dH c n).map .str/\∀l∈cy n d,∃f j,f2 l f j:=by
 revert e W k;injections a b n d c;intro e W k;show aE (ab7 (n:=n) rfl W k) λo m=>?_;show⟨?_,m⟩;unfold dH;have r:min (n:Int) (c.length:Int)=((min n c.length:Nat):Int):=<-af 0xeda820d0410;exists r,ua _ _;rw[<-e]at o;exists o;unfold eB;by_cases q:cy n d=[];.exists if_pos q,q;rfl
 .have s:(cy n d).flatMap (gU a b)≠[]:=by cases p:cy n d with|nil=>show absurd p q;|cons g i=>show fK (m g (by exists p;show .head _)) λf j G=>?_;exists Zh;unfold gU;exists G.hf,G.hl;show Yv _ _
  exists if_neg q,if_neg s,ZF,SY;congr 2;have t:∀i:List (List Op),(∀l∈i,∃f j,f2 l f j)->i.flatMap (gg a b)=i.flatMap λg=>(gU a b g).map .str:=by intro i;induction i with|nil=>intro w;rfl;|cons g i u=>intro h;show fK (h g<|.head _) λf j G=>?_;exists Zh,Zh,Lg G;show aW (u λx v=>h x<|.tail _ v) rfl
  show t _ m
def Ch.pair(c:Ch (Gp a b) l)(h:∀x∈l,Mt a b x):l.Pairwise λx y=>x.i<y.i:=by
 ext a b l;have j:∀(l:List Bk)(k:Bk),Ch (Gp a b) (k::l)->(∀x∈k::l,Mt a b x)->∀y∈l,k.i<y.i:=by intro l;induction l with|nil=>intro k m m y e;cases e;|cons d l f=>
   intro k c h y e;have g:Gp a b k d:=c.1;have:=g.i;have:=(h k<|.head _).m;rcases Z1.mp e with rfl|e;.show(ai 0xc882fc0e220e4611) ‹_› this
   .have:=f d c.2 (λx i=>h x<|.tail _ i) y e;show(ay 0x609118722264416) ‹_› this
 induction l with|nil=>show .nil;|cons k l f=>show .cons (j l k c h)<|f c.2 λx i=>h x<|.tail _ i
structure Ek(a b:List ZD)(S:ZD->Bool)(aG aQ aC aH:Nat)(k:s8)(st:lu):Prop where
 best:kg aG aC (Run a b S aG aQ aC aH) st
 i:k.i<=st.i
 j:k.j<=st.j
 p:st.i+st.m<=k.p
def t0(e:c<=a.length)(f:d<=b.length)(g:aG<=c):Ek a b S aG c aC d (aX a b S aG c aC d) (dr a b S aG c aC d):=⟨tX e f g,SP _ _,SP _ _,Zp _ _⟩
structure jx(a b:List ZD)(S:ZD->Bool)(i i' j j':Nat):Prop where
 hi:i<=i'
 hj:j<=j'
 no:∀p q,i<=p->p<i'->j<=q->q<j'->a[p]?=b[q]?->S (a.getD p ZP)=false
 ne:i<i'->j<j'->a[i]?≠b[j]?
structure lE(a b:List ZD)(S:ZD->Bool)(i j:Nat)(k:Bk):Prop where
 ne:i<k.i->j<k.j->a[k.i-1]?≠b[k.j-1]?
 ol:(∃t,t<k.m/\S (a.getD (k.i+t) ZP)=true)\/(k.i=0/\k.j=0)
abbrev fZ(a b:List ZD)(S:ZD->Bool)(I J:Nat):Nat->Nat->List Bk->Prop
 |i,j,[]=>jx a b S i I j J|i,j,k::l=>jx a b S i k.i j k.j/\lE a b S i j k/\fZ a b S I J (k.i+k.m) (k.j+k.m) l
def lE.up(h:lE a b S i j k)(e:i<=c)(f:j<=d):lE a b S c d k:=⟨λx y=>h.ne (Yx e x)<|Yx f y,h.ol⟩
def fZ.app{a b:List ZD}{S:ZD->Bool}{I J:Nat}{k:Bk}{r:List Bk}(e:fZ a b S I J (k.i+k.m) (k.j+k.m) r):∀{l:List Bk}{i j:Nat},lE a b S i j k->fZ a b S k.i k.j i j l->fZ a b S I J i j (l++k::r):=by intro l;induction l with|nil=>showλc h=>⟨h,c,e⟩;|cons d l f=>showλc h=>⟨h.1,h.2.1,f (c.up (ZY h.1.hi<|Zp _ _)<|ZY h.1.hj<|Zp _ _) h.2.2⟩
def jx.one(g:i<=c)(k:j<=d)(h:¬(i<c/\j<d)):jx a b S i c j d:=⟨g,k,λp q e f l m _=>(h ⟨Yx e f,Yx l m⟩).elim,λe f=>(h ⟨e,f⟩).elim⟩
abbrev mU(a b:List ZD)(S:ZD->Bool):fB:=λc d e f=>⟨(aX a b S c d e f).i,(aX a b S c d e f).j,(aX a b S c d e f).p-(aX a b S c d e f).i⟩
def acK(h:a-b<d+1)(c:b<=i)(e:m≠0)(f:i+m<a):a-(i+m)<d:=by omega
def acJ(h:b-a<d+1)(c:m≠0)(e:i+m<=b)(f:a<i):i-a<d:=by omega
def aaY{a b:List ZD}{S:ZD->Bool}:∀d g j i l,g<=j->i<=l->j<=a.length->l<=b.length->j-g<d->(g=0/\i=0)\/a[g]?≠b[i]?->fZ a b S j l g i (gx (mU a b S) d g j i l):=by intro d;induction d with|zero=>showλ_ _ _ _ _ _ _ _ h=>absurd h<|XN _;|succ d R=>
  intro g j i l A H v w hd I;revert d A H v w hd I;ext a b S g j i l;have B:=t0 (S:=S) (aC:=i) v w A;have f:=lK (S:=S) v w A H;exists vU _ _ _ _ _ _;generalize C:mU a b S g j i l=k at*;have o:k.i=(aX a b S g j i l).i:=by exists ZJ C;rfl
  have m:k.j=(aX a b S g j i l).j:=by exists ZJ C;rfl
  have n:k.m=(aX a b S g j i l).p-(aX a b S g j i l).i:=by exists ZJ C;rfl
  generalize aX a b S g j i l=K at*;generalize dr a b S g j i l=st at*;clear C;obtain⟨D,Z,J,M,U,N,f7,V,O⟩:=f;obtain⟨E,u,Q,W⟩:=B;have r:k.i+k.m=K.p:=<-(ay 0xd103a91062c0c9a1c4414) o n Z;have kq:k.j+k.m=K.q:=<-(gq 0xd143a91882d46462147a1c4417) m n N;rw[<-o,<-m]at V;rw[<-r,<-kq]at O;by_cases c:k.m=0
  ·exists if_pos c;have s:st.m=0:=<-(aV 0x35210c9828b03884ba0bc9a0bc2000025f) n u W c;obtain⟨F,G⟩:=E.zero s;show⟨A,H,λp q p0 p1 q0 q1 e=>?_,λx y=>?_⟩;.cases hS:S (a.getD p ZP)with|false=>rfl;|true=>have:=(E.top p q 1 Qj ⟨p0,p1,q0,q1,λt ht=>by exists(show t=0 by show(ak 0xc89e1d05e13) ht);show⟨e,hS⟩⟩).1;show((ak 0x1a0bc3ec044f0) s this).elim
   .exists(show g=k.i+k.m by show(aV 0x1a18703260a3d05e2d10ba888247) o D u c F),(show i=k.j+k.m by show(aV 0x1a18703260a3d05e2d10ba888247) m M Q c G);show O (<-(fk 0x1a90c86c1c7a244c1d05e6d14f9117228982000007f) n u r c F x) (<-(gq 0x1a207062682f168a6c8cb91c441d) m Q c G y)
  .exists if_neg c;have kp:lE a b S g i k:=by
    show⟨V,?_⟩;by_cases s:st.m=0
    ·obtain⟨F,G⟩:=E.zero s;have X:k.i=g:=<-(ay 0x6841c087820b43268614) o D u F;have Y:k.j=i:=<-(ay 0x6841c087820b43268614) m M Q G;rcases I with⟨z1,z2⟩|z;.show .inr ⟨X.trans z1,Y.trans z2⟩
     .have:=f7 0 (<-(af 0xd045ed05e2c842f2) n c);rw[WD,WD,<-o,<-m,X,Y]at this;show(z this).elim
    .show .inl ⟨st.i-k.i,<-(gq 0x1a910c3c0498344a1d1a2317b417972390820000a6f) n u W r s,?_⟩;have:=((E.ok<|XZ s).eq 0<|XZ s).2;exists(show k.i+(st.i-k.i)=st.i+0 by show(aV 0x6a43293011e8b120b510bc31908227) n u r);show this
   show fZ.app ?_ kp ?_
   .split;.rename_i q;show R _ _ _ _ (<-(aV 0xfe4b111323888381c4410) q) (<-(aV 0xfe47110725888981c4410) q) v w (acK hd (o▸D:g<=k.i) c q.1)<|.inr<|O (<-(aV 0xfe4b111323888391c4410) q)<|<-(aV 0xfe47110725888991c4410) q
    .rename_i q;show jx.one (<-(ay 0x181134488c38144611) J r) (<-(fk 0x6881d48c516067d4646290f81c441d) m n U N) q
   .split;.rename_i q;show R _ _ _ _ (<-(ay 0x3f920f220e0410) q) (<-(ay 0x3f9107241e0410) q) (<-(aV 0x3021e065d16240e041b) v J r) (<-(fk 0x6043d103819f51918a43e041d) w m U N) (acJ hd c (r▸J) q.1) I
    .rename_i q;show jx.one (<-(ai 0x1a18b030e0411) o D) (<-(ai 0x1a18b030e0411) m M) q
def aaX(i:0<d):∃m,(∀p q c,Run a b S 0 a.length 0 b.length p q c->c<=m)/\(m=0\/∃k∈gx (mU a b S) d 0 a.length 0 b.length,∃t,t+m<=k.m/\∀u,u<m->S (a.getD (k.i+t+u) ZP)=ZW):=by
 ext d a b S;have B:=t0 (a:=a) (b:=b) (S:=S) (aG:=0) (aC:=0) (ZR _) (ZR _)<|ZZ _;have f:=lK (a:=a) (b:=b) (S:=S) (ZR _) (ZR _) (ZZ _)<|ZZ _;show⟨(dr a b S 0 a.length 0 b.length).m,λp q c r=>?_,?_⟩;.cases c with|zero=>show ZZ _;|succ c=>show(B.best.top p q _ (Us _) r).1
 ·by_cases g:(dr a b S 0 a.length 0 b.length).m=0;·show .inl g
  .have x:=B.p;have x:=B.i;obtain⟨d,rfl⟩:∃e,d=e+1:=⟨d-1,<-jM i⟩;have h:(mU a b S 0 a.length 0 b.length).m=(aX a b S 0 a.length 0 b.length).p-(aX a b S 0 a.length 0 b.length).i:=rfl;have j:(mU a b S 0 a.length 0 b.length).i=(aX a b S 0 a.length 0 b.length).i:=rfl;show .inr ⟨mU a b S 0 a.length 0 b.length,?_,(dr a b S 0 a.length 0 b.length).i-(aX a b S 0 a.length 0 b.length).i,<-(aV 0xc16220e023d486526091148617) ‹_› x h,λu l=>?_⟩;.exists vU _ _ _ _ _ _,(if_neg<|<-(aV 0xf682f0e07108b022ea45193da0bc8000025f) g ‹_› x h);show Zq _<|.head _
   .have r:=B.best.ok<|XZ g;exists j,(show(aX a b S 0 a.length 0 b.length).i+((dr a b S 0 a.length 0 b.length).i-(aX a b S 0 a.length 0 b.length).i)+u=(dr a b S 0 a.length 0 b.length).i+u by show(ai 0x3020ea2314471904410) x);show(r.eq u l).2
structure Hk where
 old:Nat
 new:Nat
 rows:List a9
def nHk:Nonempty Hk:=⟨⟨0,0,[]⟩⟩
abbrev iG(h:Hk):List ZD:=jI h.old (cnt "+" h.rows) h.new (cnt "-" h.rows)::h.rows.map λr=>r.1++r.2
abbrev dD(a:List a9):List ZD:=(a.filter λr=>r.1 !=Z9 "+").map (·.2)
abbrev fr(a:List a9):List ZD:=(a.filter λr=>r.1 !=Z9 "-").map (·.2)
abbrev dm(l:List ZD):List a9:=l.map (Z9 " ",·)
abbrev cT(first:List ZD)(a:List a9×Nat)(h:Hk):List a9×Nat:=(a.1++dm (au first a.2 h.old)++h.rows,h.old+cnt "+" h.rows)
abbrev jm(first:List ZD)(H:List Hk):List a9:=(H.foldl (cT first) ([],0)).1++dm (first.drop (H.foldl (cT first) ([],0)).2)
def vR(a):(dD a).length=cnt "+" a:=by unfold dD cnt;show Z6 _
def sM(x y):dD (x++y)=dD x++dD y:=by unfold dD;exists X0 _ _;show aW ZF rfl
def aaO(h:sp r=ZW):dD (r::a)=r.2::dD a:=by unfold dD;rw[List.filter_cons_of_pos (by rw[eq_of_beq h];decide)];rfl
structure mH(R:List a9)(h:Hk):Prop where
 old:h.old+cnt "+" h.rows<=cnt "+" R
 new:h.new+cnt "-" h.rows<=cnt "-" R
 rows:∀r∈h.rows,r∈R
structure xH(first:List ZD)(R pre:List a9)(H:List Hk)(st:DS)(o n:Nat):Prop where
 told:st.told=H.flatMap iG
 old:st.old=o
 new:st.new=n
 le:(H.foldl (cT first) ([],0)).2<=o
 dz:(H.foldl (cT first) ([],0)).1++dm (au first (H.foldl (cT first) ([],0)).2 o)++st.aM=pre
 co:o+cnt "+" st.aM=cnt "+" pre
 cn:n+cnt "-" st.aM=cnt "-" pre
 sub:∀r∈pre,r∈R
 lo:cnt "+" pre<=cnt "+" R
 ln:cnt "-" pre<=cnt "-" R
 ok:∀h∈H,mH R h
def kv(c)(x:List a9)(y:List a9):cnt c (x++y)=cnt c x+cnt c y:=by unfold cnt;exists X0 _ _;show aW ZV rfl
def C4(I:xH first R pre H a o n):∃b:List Hk,(bS a).told=b.flatMap iG/\(b.foldl (cT first) ([],0)).2<=cnt "+" pre/\(b.foldl (cT first) ([],0)).1++dm (au first (b.foldl (cT first) ([],0)).2 (cnt "+" pre))=pre/\∀h∈b,mH R h:=by
 revert I;injections first R pre H a o n;intro I;obtain⟨i,j,k,l,c,d,m,p,s,g,f⟩:=I;by_cases e:a.aM=[]
 .rw[e]at c d;have t:o=cnt "+" pre:=d;exists ZJ t;show⟨H,?_,l,?_,f⟩;.exists ZJ i;show if_pos e
  .rw[ZH]at c;show c
 .show⟨H++[⟨o,n,a.aM⟩],?_,?_,?_,?_⟩;.exists WT,List.flatMap_singleton _ _,ZJ i;show(if_neg e).trans ?_;exists j,k,ZA _ _ _;rfl
  .exists YU;show Vg d
  .exists YU;show(?_:_++dm (au first (o+cnt "+" a.aM) _)=_);exists d,(show au first (cnt "+" pre) (cnt "+" pre)=[]from hZ<|ZR _);show(ZH _).trans c
  .intro h u;rcases ZS.mp u with q|q;.show f h q
   .exists ZM.mp q;show⟨by exists d;show s,by exists m;show g,λr v=>p r (by exists ZJ c;show Zq _ v)⟩
def acd(h:i<=j)(a:l[j]?=Z7 x):au l i (j+1)=au l i j++[x]:=by unfold au;have p:=(Zv.mp a).1;exists Zc,a,Qt,Zf,(XO<|<-(af 0x3220e0410) p),Sp h;rfl
def abC{first:List ZD}{R:List a9}{N:Int}(t:0<=N)(m:dD R=first):∀(d pre:List a9)(H:List Hk)(b:DS)(a:Int)(o n:Nat),xH first R pre H b o n->pre++d=R->∃g:List Hk,(bG N a b d).told=g.flatMap iG/\jm first g=R/\∀h∈g,mH R h:=by revert t m;injections first R N;intro t m;intro d;induction d with
 |nil=>
  intro pre H b a o n I e;obtain⟨g,u,v,i,w⟩:=C4 I;show⟨g,u,?_,w⟩;rw[ZH]at e;unfold jm;have:first.length=cnt "+" pre:=by exists ZJ m,e;show vR _
  rw[<-this]at i;unfold au at i;rw[YQ]at i;exists i;show e;|cons r d p=>
  intro pre H b a o n I e;revert p I e;injections r d pre H b a o n;intro p I e;have j:pre++[r]++d=R:=by exists ZJ e;simp
  exists oz _ _ _ _ _;generalize s:(if sp r=ZW then a+1 else 0)=F;have f:∀x∈pre++[r],x∈R:=λx D=>by exists ZJ j;show Zk _ D
  have k:cnt "+" (pre++[r])<=cnt "+" R:=by exists ZJ j,kv _ _ d;show Zp _ _
  have l:cnt "-" (pre++[r])<=cnt "-" R:=by exists ZJ j,kv _ _ d;show Zp _ _
  split
  .show p (pre++[r]) H _ _ o n ?_ j;obtain⟨E,G,J,M,O,Q,S,X,Y,U,y⟩:=I;show⟨E,G,J,M,?_,?_,?_,f,k,l,y⟩;.exists ZJ O;rw[ZA (bs:=b.aM)]
   .exists kv _ _ _,kv _ _ _,ZJ Q;show aW (XB _ _ _) rfl
   .exists kv _ _ _,kv _ _ _,ZJ S;show aW (XB _ _ _) rfl
  .rename_i c;have C:sp r=ZW:=by cases q:sp r with|true=>rfl;|false=>rw[q]at s;have s:(0:Int)=F:=s;rw[<-s]at c;show absurd (QI (Int.min_le_left ..) t) c
   have z:r=(Z9 " ",r.2):=<-aW (ZJ<|eq_of_beq C) rfl;obtain⟨g,u,v,i,w⟩:=C4 I;have A:first[cnt "+" pre]?=Z7 r.2:=by exists ZJ m,ZJ e,sM _ _,aaO C,ZJ<|vR _,Y9<|ZR _,Wc _;rfl
   have V:cnt "+" [r]=1:=by exists z;rfl
   have W:cnt "-" [r]=1:=by exists z;rfl
   show p (pre++[r]) g _ _ (cnt "+" pre+1) (cnt "-" pre+1) ⟨u,?_,?_,X5 v,?_,?_,?_,f,k,l,w⟩ j;.show(?_:b.old+(cnt "+" b.aM:Int)+1=_);exists I.old,ZJ I.co;rfl
   .show(?_:b.new+(cnt "-" b.aM:Int)+1=_);exists I.new,ZJ I.cn;rfl
   .exists acd v A;show(?_:_++dm (_++[r.2])++[]=_);unfold dm at i⊢;exists ZH _,ZF,ZJ<|ZA _ _ _,i;show congrArg (pre++[·]) z.symm
   .rw[kv,V];rfl
   .rw[kv,W];rfl
def aby(R:List a9)(a:0<=N):∃H:List Hk,(c8 R N (R.length+1)).told=H.flatMap iG/\jm (dD R) H=R/\∀h∈H,mH R h:=by exists ua _ _;show abC a rfl R [] [] _ _ 0 0 ⟨rfl,rfl,rfl,ZR _,rfl,rfl,rfl,λr h=>(nM h),ZZ _,ZZ _,λh b=>(nM b)⟩ rfl
def JD(P:Ym):tx P (fdOf iK) (Z9 "unified_diff") (aw cP) (aA cP) 261 260 where at_:=ae iK ⋯ rfl;code:=rO _ _ _ (tU P) rfl rfl;sc:=rfl;globals:=rfl;closure:=rfl;qual:=rfl;cd:=rfl;bi:=rfl;body:=rfl;gen:=⋯;t9:=⋯;kind:=rfl;cell:=dk;cells:=λn=>by rfl
abbrev gC(g:Nat)(a:Array YD):Prop:=a[g]?=Z7 .running/\∀i x,a[i]?=Z7 x->i≠g->x.bare=ZW
def gC.lt{g:Nat}{a:Array YD}(h:gC g a):g<a.size:=by
 show ZI (Xj g a.size) (λq=>?_) λq=>?_;.show q
 .have p:=h.1;replace p:=(Xg q)▸p;cases p
def gC.push(h:gC g b)(c:x.bare=ZW):gC g (b.push x):=by
 have d:=h.lt;show⟨?_,λi y a e=>?_⟩;.exists Uv,if_neg<|X8 d;show h.1
 ·replace a:=Uv▸a;split at a;.cases a;show c
  .show h.2 i y a e
def gC.made(h:U4 a):gC a.size ((a.push x).setIfInBounds a.size .running):=by
 show⟨?_,λi y b c=>?_⟩;.exists WX;simp
 .rw[WX,if_neg<|Xb c,Uv,if_neg c]at b;show h y<|Sk b
def gC.all(h:gC g b)(c:x.bare=ZW):U4 (b.setIfInBounds g x):=by ext g b x;show(λy d=>by
 show aS (Array.mem_iff_getElem?.mp d) λi a=>?_;replace a:=WX▸a;split at a
 .split at a;.cases a;show c
  .cases a
 .rename_i q;show h.2 i y a<|Xb q)
def Ed(z:Y.G=U4)(F:Fr Y y O s)(R:aD (aa Y O) s.heap w (qo a b n))(o:∀A(Q:List (ZD×ZN)->ZL->Prop)E,Q (wQ.zip w) s->ZE (model pw Y.w) A (RU (fdOf iK) ⟨ps,kw⟩) Q E s)(c:Y.A.depth+8<ZU)(hu:Y.A.units+17<Xo)(ha:a.length<=1100)(D:b.length<=1000)(G:∀x∈a,x.length<=100)(H:∀x∈b,x.length<=100)(hs:(bF a b).Pairwise λa b=>a.i<b.i)(J:(bF a b).length<64)(M:(cF a b).length<=400)(hc:bH a b≠[])(N:∀g∈cy n (bH a b),∃f l,f2 g f l)(hz:(eB a b (cy n (bH a b))).length<=Zo)(hk:k (.lst (eB a b (cy n (bH a b)))) O):ZE (model pw Y.w) Y.A (call (.ref 261) ps kw) (λv p=>ZE (model pw Y.w) Y.A (call (.type "list") [v]) (bP Y y O s k) E p) E s:=by
 ext Y y O s w a b n ps kw k E;have r:U4 s.gens:=by have:=F.gens;replace this:=z▸this;show this
 show Xs (zF (B:=Y.A.in1.in1.in1) (OL:=[]) (O':=O) (l:=qo a b n) (vs:=w) (ns:=wQ) (ys:=eB a b<|cy n<|bH a b) (Γ:=gC s.gens.size) Y.hh ((af 0x191452f0e4410) c) (JD Y.w.params) dk dk F R o (λZ C gn=>?_) (λenv=>gC.made r) ?_);.show adv C gn (λX S h o=>h.push o) (by show(?_:Y.A.depth+8<_);show c) (by show(?_:Y.A.units+1+1+1+14<_);show(af 0x191464f0e4517be227c44f889e10) hu) ha D G H hs J M hc N
 .intro I t nm qn env e i h' tk hI hF j m U;ext I t nm qn env e i h' tk;have d:=hF U4<|r.push rfl;have eY:Y.sG U4=Y:=by exists ZJ z;rfl
  replace d:=eY▸d;show wm (Mw (Z:=Y) (Γ:=gC s.gens.size) (g:=s.gens.size) ((af 0x191452f0e4410) c) (λX h=>h.1) (λX S h o=>by exists z;show h.all o) hz d ⟨_,t,nm,qn,e,i,rfl,?_,U,m⟩ hk) λv eo x=>?_;.simp
  .show ba x ?_;clear x;intro a' u F' V r' W;show⟨a',u,F',am.trans j V,r',W⟩
def wE{x y:ZD}(h:x.cps.toList=y.cps.toList):x=y:=PySem.Str.ext'<|S7.mp h
def FM{c:Nat}{A B:List Nat}:∀{p q:List Nat},c∉p->c∉q->p++c::A=q++c::B->p=q/\A=B:=by intro p;induction p with
 |nil=>intro q _ b e;cases q with|nil=>injection e with _ e;show⟨rfl,e⟩;|cons x q=>injection e with a _;show absurd (by rw[a];show .head _) b
 |cons x p f=>intro q d b e;cases q with|nil=>injection e with a _;show absurd (by rw[a];show .head _) d;|cons y q=>injection e with a g;obtain⟨h,i⟩:=f (λz=>d<|.tail _ z) (λz=>b<|.tail _ z) g;show⟨by rw[a,h],i⟩
def HI{c:Nat}:∀{l m:List (List Nat)}{p q:List Nat},(∀x∈p::l,c∉x)->(∀x∈q::m,c∉x)->p++l.flatMap (c::·)=q++m.flatMap (c::·)->p::l=q::m:=by intro l;induction l with
 |nil=>intro m p q a b e;cases m with|nil=>rw[XU,ZH,ZH]at e;rw[e];|cons y m=>rw[XU,ZH]at e;show absurd (by rw[e];show Zq _<|.head _)<|a p<|.head _
 |cons x l f=>intro m p q a b e;cases m with|nil=>rw[XU,ZH]at e;show absurd (by rw[<-e];show Zq _<|.head _)<|b q<|.head _;|cons y m=>obtain⟨g,h⟩:=FM (a p<|.head _) (b q<|.head _) e;rw[g,f (λz d=>a z<|.tail _ d) (λz d=>b z<|.tail _ d) h]
def nA(c):∀(r:List ZD)(x:ZD),(WJ ⟨#[c]⟩ (x::r)).cps.toList=x.cps.toList++(r.map λy=>y.cps.toList).flatMap (c::·):=by intro r;induction r with|nil=>showλx=>(ZH _).symm;|cons y r a=>intro x;show(?_:(x++⟨#[c]⟩++WJ ⟨#[c]⟩ (y::r)).cps.toList=_);rw[Y2,YS,YS,YW,YW,a];rfl
def Nc:∀{l m:List ZD},(l.map λy=>y.cps.toList)=m.map (λy=>y.cps.toList)->l=m:=by intro l;induction l with
 |nil=>intro m h;cases m with|nil=>rfl|cons _ _=>cases h
 |cons x l a=>intro m h;cases m with|nil=>cases h;|cons y m=>injection h with b c;rw[wE b,a c]
def sZ(h:∀y∈x::r,c∉y.cps.toList):VV (WJ ⟨#[c]⟩ (x::r)) ⟨#[c]⟩=x::r:=by ext x r c;have j:=StrLaws.join_split (WJ ⟨#[c]⟩ (x::r)) ⟨#[c]⟩;have f:=StrLaws.split_free (WJ ⟨#[c]⟩ (x::r)) c;have p:=split_pos (WJ ⟨#[c]⟩ (x::r)) ⟨#[c]⟩;cases e:VV (WJ ⟨#[c]⟩ (x::r)) ⟨#[c]⟩with|nil=>replace p:=e▸p;cases p;|cons y m=>
  rw[e]at j f;have j:=congrArg (λz:ZD=>z.cps.toList) j;replace j:=(nA c m y).symm.trans<|j.trans<|nA c r x;show Nc<|HI (c:=c) (λz a=>?_) (λz a=>?_) j;.rw[<-Z3 (f:=λy:ZD=>y.cps.toList)]at a;obtain⟨w,b,rfl⟩:=Z0.mp a;show f w b
  .rw[<-Z3 (f:=λy:ZD=>y.cps.toList)]at a;obtain⟨w,b,rfl⟩:=Z0.mp a;show h w b
abbrev nl:ZD:=Z9 "\n"
def join_nil:∀l:List ZD,(WJ ZP l).cps.toList=l.flatMap λx=>x.cps.toList:=by intro l;induction l with|nil=>rfl;|cons x l a=>cases l with|nil=>show(?_:_=x.cps.toList++[]);rw[ZH];rfl;|cons y l=>show(?_:(x++ZP++WJ ZP (y::l)).cps.toList=_);rw[PySem.Str.append_empty,YS,YW,a];rfl
def LI:∀B:List ZD,(WJ ⟨#[10]⟩ (B++[ZP])).cps.toList=B.flatMap λx=>x.cps.toList++[10]:=by intro B;induction B with|nil=>rfl;|cons x B a=>cases B with|nil=>rw[XI,nA];simp;rfl;|cons y B=>rw[Zh,<-a,ZA];show(?_:(WJ ⟨#[10]⟩ (x::y::(B++[ZP]))).cps.toList=x.cps.toList++([10]++(WJ ⟨#[10]⟩ (y::(B++[ZP]))).cps.toList));rw[nA,nA];rfl
def acB{B:List ZD}(h:∀y∈B,10∉y.cps.toList):VV (VL ZP (B.map (·++nl))) nl=B++[ZP]:=by
 have e:VL ZP (B.map (·++nl))=WJ ⟨#[10]⟩ (B++[ZP]):=by show(Sf _ _).trans<|wE ?_;rw[join_nil,LI,List.flatMap_map];show congrArg (List.flatMap · B)<|funext λx=>?_;rw[YS,YW];rfl
 rw[e];cases B with|nil=>show sZ (λy a=>by rw[ZM.mp a];showλz=>nM z);|cons x B=>
  show sZ (c:=10) λy a=>?_;rcases ZS.mp (show y∈(x::B)++[ZP]from a)with q|q;.show h y q
  .rw[ZM.mp q];showλz=>nM z
def wF:∀{b:List ZN},aD D h b (a.map .str)->StrsAre b a:=by induction a with
 |nil=>intro b r;cases r.iN;show .nil;|cons x a c=>intro b r;obtain⟨d,e⟩:=r.iC;cases d.iS;show .cons _ _<|c e
abbrev aP(a:List ZD)(x:ZD):Bool:=a.any (·==x)
def qK.isList(z:qK D h l v):∃a,∃b:List ZN,v=.ref a/\h.IsList a b.toArray/\aD D h b l:=by obtain⟨c,b,n,d,e⟩:=z;show⟨c,b.toList,rfl,bf _ d rfl n<|by simp,e⟩
def EC(f:LV O b (d.map .str))(h:c (aP d x) O):Cm X e O .In (.str x) b c:=λE s u v F g i=>by cases g.iS;obtain⟨a,l,rfl,j,k⟩:=(F.rd i f).isList;show in_list_strs j (wF k)<|cX F h
def qu(f:LV O b (d.map .str))(h:c (!aP d x) O):Cm X e O .NotIn (.str x) b c:=λE s u v F g i=>by cases g.iS;obtain⟨a,l,rfl,j,k⟩:=(F.rd i f).isList;show notin_list_strs j (wF k)<|cX F h
def EE(h:a (!Sy x y) O):Cm X b O .NotIn (.str y) (.str x) a:=λE s u v F c d=>by cases c.iS;cases d.iS;show P.notIn_str<|cX F h
def ED(h:c (a !=b) O):Cm X d O .NotEq (.bool a) (.bool b) c:=λE s u v F e f=>by cases e.iB;cases f.iB;show ne_bool<|cX F h
def countIn_strs(x):∀a:List ZD,O7 (.str x) (a.map OZ)=(a.count x:Int):=by intro b;induction b with|nil=>rfl;|cons y c d=>
  show(?_:(if(y==x)=ZW then(1:Int)else 0)+O7 (.str x) (c.map OZ)=_);exists d,WW;cases y==x;.show Xw _
  .show Int.add_comm _ _
def ax.count{b:List ZD}(f:LV O a (b.map .str))(h:k (.int (b.count x)) O):ax X d O (.builtin "list.count") [a,.str x] k:=λE s g F R=>by obtain⟨i,j⟩:=R.i2;cases j.iS;obtain⟨a,g,rfl,l,m⟩:=(F.rd i f).isList;show count_list_strs l (wF m) ?_;exists countIn_strs _ _;show lN F (λc o e=>e) (.int _ _) h
def w9(d:Xl x y 0 x.length 1=i::a)(h:k (.int i) O):ax X b O (.builtin "str.index") [.str x,.str y] k:=λE s j F R=>by obtain⟨f,g⟩:=R.i2;cases f.iS;cases g.iS;show SC.index d<|lN F (λc o e=>e) (.int _ _) h
def abF:∀l:List (ZD×O6),aD D h (strValues l) ((l.map (·.1)).map .str):=by intro a;induction a with|nil=>show .nil;|cons p l b=>show .cons (.str _ _) b
def ax.split(i:(y.length==0)=ZX)(j:VV x y=c)(m:x.length<=Zo)(n:c.length<=Zo)(h:k (.lst (c.map .str)) O):ax X f O (.builtin "str.split") [.str x,.str y] k:=by ext x y c k X f O;show(λE s r F R=>by obtain⟨o,p⟩:=R.i2;cases o.iS with|mk t=>cases p.iS with|mk u=>
  have a:∀(l:List (ZD×O6))(g:Nat),l.map (·.1)=VV x y->bP X f O s k (.ref s.heap.objs.size) {s with heap:=s.heap.push ⟨.type "list",Z4,.seq (strValues l).toArray 0,#[]⟩,toks:=g}:=λl g e=>pU F (by have z:=abF (D:=aa X O) (h:=s.heap) l;replace z:=j▸e▸z;show z) h g;cases b:(decide (x.length<y.length)||decide (Ro x<Ro y))
  .cases d:(Xl x y 0 x.length<|x.length+1).isEmpty
   .have e:VV x y=Builtin.Str.partsBetween x (Xl x y 0 x.length<|x.length+1) y.length:=by show(if_neg<|ne_true_of_eq_false b).trans<|if_neg<|ne_true_of_eq_false d
    show UU Xe (SI _ _ _) Vm (VK _ _) (meets_str_split_sep x y t u b i d m (by exists ZJ e,j;show n)) ?_;exists strsFrom_eq _ _;show a _ _<|(numbered_texts _ _).trans e.symm
   .show UU Xe (SI _ _ _) Vm (VK _ _) (meets_str_split_not_found x y t u b i d)<|a [(x,t)] _ ((if_neg<|ne_true_of_eq_false b).trans<|if_pos d).symm
  .show UU Xe (SI _ _ _) Vm (VK _ _) (meets_str_split_cannot_occur x y t u b)<|a [(x,t)] _ (if_pos b).symm)
abbrev zpO(TI a:Zw)(b:ZN):Ze:={cls:=.type "zip",dict:=Z4,data:=.fields #[b,.bool ZX,.bool ZX,.ref TI,.ref a],slots:=#[]}
abbrev CR(a b:ZN):Ze:={cls:=.type "tuple",data:=.seq #[a,b]}
abbrev fW(n:Nat)(a b:ZN)(c d:Ze):List (Zw×Ze):=[(n+4,zpO (n+2) (n+3) .none),(n+2,CR (.ref n)<|.ref<|n+1),(n+3,CR a b),(n,c),(n+1,d)]
inductive tO(n l1 l2:Nat)(i:Nat):List (Zw×Ze)->Prop|mk(a b o1 o2)(h1:o1.cls=.type "list_iterator"/\o1.data=.fields #[.ref l1,.int i 0])(h2:o2.cls=.type "list_iterator"/\o2.data=.fields #[.ref l2,.int i 0]):tO n l1 l2 i (fW n a b o1 o2)
abbrev jv(l m:List AV):List AV:=(l.zip m).map λp=>.tup [p.1,p.2]
def adO{i:Nat}(h:(jv l m)[i]?=Z7 c):∃a b,l[i]?=Z7 a/\m[i]?=Z7 b/\c=.tup [a,b]:=by ext l m c i;unfold jv at h;replace h:=ZQ▸h;cases e:(l.zip m)[i]? with|none=>replace h:=e▸h;cases h;|some p=>replace h:=e▸h;obtain⟨d,f⟩:=List.getElem?_zip_eq_some.mp e;cases h;show bX _ _ d f rfl
def w0{n d f:Nat}(g:d<n)(i:f<n):ZipApart (n+4) (n+2) (n+3) n (n+1) d f:=by have c:∀{a b:Nat},a<b->a≠b:=X8;have j:∀{l:Nat}(k:Nat),l<n->l≠n+k:=λk h=>X8<|WK h<|Zp _ k;constructor<;>first|show(λe:_=_=>absurd (Nat.add_left_cancel e)<|by decide)|show j _ g|show j _ i|show c g|show c i|show(c<|SW<|by decide)|show(c<|SW<|by decide).symm
def acW{X:Fx}{n k r:Nat}{Z ws:Array ZN}{M N:Nat}{l m:List AV}{e:List Zw}{f:Xq}{ts:List X7}{c:Nat}{p:Vk}(t:k<n)(u:r<n)(d1:k∉e)(d2:r∉e)(g1:f.get? k=Z7 ⟨.type "list",Z4,.seq Z M,#[]⟩)(g2:f.get? r=Z7 ⟨.type "list",Z4,.seq ws N,#[]⟩)(r1:aD e f Z.toList l)(r2:aD e f ws.toList m)(R:l.length<=m.length):kj X e f (.Tuple ts c p) (.ref (n+4)) (jv l m) (λu'=>True) (tO n k r)where
 item:=λi av hs ρ O s Q E S C u' F j hQ=>by
  obtain⟨x,y,hx,hy,rfl⟩:=adO S;revert t u d1 d2 g1 g2 r1 r2 R C u' F j hx hy S hQ;revert X n k r Z ws M N l m e f ts c p i hs ρ O s Q E x y;injections X n k r Z ws M N l m e f;ext ts c p i hs ρ O s Q E x y;obtain⟨a,b,G,H,U,V⟩:=C;obtain⟨v,hv,rv⟩:=r1.get hx;obtain⟨w,hw,rw'⟩:=r2.get hy;have g:∀q∈fW n a b G H,s.heap.get? q.1=Z7 q.2:=λq I=>F.iF I;have hz:IsZip s.heap (n+4) (n+2) (n+3) .none:=g _<|.head _;have W:IsPair s.heap (n+2) (.ref n) (.ref<|n+1):=g _<|.tail _<|.head _;have Kd:IsPair s.heap (n+3) a b:=g _<|mI 2 rfl;have KJ:s.heap.IsListIter n k i:=bl G (g _<|mI 3 rfl) U.1 U.2;have KK:s.heap.IsListIter (n+1) r i:=bl H (g _<|mI 4 rfl) V.1 V.2;have D:=w0 t u;show wpAny_pyNext_zip_item D hz W Kd KJ KK (bf _ (j _ _ d1 g1).2 rfl M rfl) (bf _ (j _ _ d2 g2).2 rfl N rfl) (x:=v) (y:=w) (by simpa using hv) (by simpa using hw) λh' z' T' j1 j2 Tn sz kk=>?_;show hQ _ _ λQ2 E2 pq=>?_;show wpAny_letOwnedTupleGo_zip z' λY z'' J=>?_;obtain⟨z,e1,e2,e3⟩:=j1;obtain⟨A,e4,e5,e6⟩:=j2;have MZ:n+4<s.heap.objs.size:=Zg hz;have kp:∀d o,d∉(fW n a b G H).map (·.1)->s.heap.get? d=Z7 o->Y.get? d=Z7 o:=λd o h eb=>by simp only[fW,Z3,Y4,Z1,Zn,or_false,not_or]at h;show(J.2 d h.1).trans<|kk d o h.1 h.2.2.1 h.2.2.2.1 h.2.2.2.2 eb
  have RH:=F.hV (s':={s with heap:=Y}) (hs':=fW n v w z A) kp (λq I=>by
    simp only[fW,Z1,Zn,or_false]at I;rcases I with rfl|rfl|rfl|rfl|rfl;.show z''
    .show(J.2 _ D.TIz).trans<|kk _ _ D.TIz D.TITO D.TIi1 D.TIi2 W
    .show(J.2 _ D.TOz).trans T'
    .show(J.2 _ D.i1z).trans e1
    ·show(J.2 _ D.i2z).trans e4) (λa ha=>.inl ha) (by simp only[fW,Z3,Y4];have:=D.TIz;have:=D.TOz;have:=D.i1z;have:=D.i2z;have:=D.TITO;have:=D.TIi1;have:=D.TIi2;have:=D.TOi1;have:=D.TOi2;have:=D.i12;simp[*,Xb]) F.gens rfl;have nT:s.heap.objs.size∉aa X (aJ (fW n v w z A)++O):=λq=>by
   show aS (F.ex s.heap.objs.size (by
    show ZI (ce.mp q) (λq=>?_) λq=>?_;.show ce.mpr<|.inl q
    .show ce.mpr<|.inr q)) λo ho=>?_;show absurd (Zg ho)<|YH _
  show pq _ _ ⟨v,w,z,A,⟨e2,e3⟩,e5,e6⟩ RH.1 RH.2 (.tup (n:=0) nT ((J.2 _<|Wg MZ).trans Tn)<|.cons ((rv.move j).move RH.2)<|.cons ((rw'.move j).move RH.2) .nil)
 done:=λhs ρ O s Q E C u' F j hQ=>by
  have hl:(jv l m).length=l.length:=by unfold jv;exists Z6 _,List.length_zip;show aW (XO R) rfl
  replace C:=hl▸C;obtain⟨a,b,G,H,U,V⟩:=C;have g:∀q∈fW n a b G H,s.heap.get? q.1=Z7 q.2:=λq I=>F.iF I;show wpAny_pyNext_zip_end X.hh (w0 t u) (g _<|.head _) (g _<|.tail _<|.head _) (g _<|mI 2 rfl) (bl G (g _<|mI 3 rfl) U.1 U.2) (bl H (g _<|mI 4 rfl) V.1 V.2) (bf _ (j _ _ d1 g1).2 rfl M rfl) (bf _ (j _ _ d2 g2).2 rfl N rfl) (.inl (by have:=r1.size;simp[this])) λh' kk=>?_;have:=F.jt (s':={s with heap:=h'}) (λd o h eb=>by simp only[fW,Z3,Y4,Z1,Zn,or_false,not_or]at h;show kk d o h.1 h.2.2.1 h.2.2.2.1 h.2.2.2.2 eb) F.gens rfl;show hQ _ this.1 this.2
def ch.zip(y:[g,i].any bN=ZX)(M:Ld X (Z9 "zip") (.type "zip"))(h:bm X I O [g,i] λN f=>∃l m,N=[.lst l,.lst m]/\l.length<=m.length/\k (jv l m) f λu'=>True):ch X I O (.Tuple U c p) (.Call (.Name (Z9 "zip") J) [g,i] [] v) k:=by intro E s F;revert y M h F;injections g i X I O k U c p J v E s;intro y M h F;show Yu<|M E s J _ F.base<|callWith_type1 (wm (h E s v F) λV d x=>?_) (fU y)<|gr (by rw[YB,YL]at y;show y.2);obtain⟨N,f,j,n,t,l,m,e,z,W⟩:=x;revert j n t e z W;ext V d N f l m;subst e;obtain⟨ra,rb⟩:=t.i2;cases ra.iL with|@mk l1 V c1 A C rl=>cases rb.iL with|@mk l2 ws c2 G r Q=>
 show call_zip_2 (bf _ C rfl c1 rfl) (bf _ r rfl c2 rfl) λh' Y TI TO R S sz kk=>?_;show wpAny_pyIter_zip Y ?_;obtain⟨Z,e1,e2,e3⟩:=R;obtain⟨o2,e4,e5,e6⟩:=S;have w:Fr X I (aJ []++f) d:=j;have D:=w0 (Zg C)<|Zg r;have H:∀k,d.heap.get? (d.heap.objs.size+k)=Z4:=λk=>X4<|Zp _ k;have u:=w.hV (s':={d with heap:=h'}) (hs':=fW d.heap.objs.size .none .none Z o2) (λb o u' e=>kk b o e) (λq hq=>by
    simp only[fW,Z1,Zn,or_false]at hq;rcases hq with rfl|rfl|rfl|rfl|rfl;.show Y
    .show TI
    .show TO
    .show e1
    ·show e4) (λa ha=>by
    simp only[fW,Z3,Y4,Z1,Zn,or_false]at ha;rcases ha with rfl|rfl|rfl|rfl|rfl;.show .inr<|H 4
    ·show .inr<|H 2
    ·show .inr<|H 3
    ·show .inr<|H 0
    ·show .inr<|H 1) (by simp only[fW,Z3,Y4];have:=D.TIz;have:=D.TOz;have:=D.i1z;have:=D.i2z;have:=D.TITO;have:=D.TIi1;have:=D.TIi2;have:=D.TOi1;have:=D.TOi2;have:=D.i12;simp[*,Xb]) j.gens rfl;show⟨jv l m,_,tO d.heap.objs.size l1 l2,_,f,acW (Zg C) (Zg r) (u.2 _ _ A C).1 (u.2 _ _ G r).1 (u.2 _ _ A C).2 (u.2 _ _ G r).2 (rl.move u.2) (Q.move u.2) z,⟨_,_,Z,o2,⟨e2,e3⟩,e5,e6⟩,u.1,n.trans u.2,W⟩
def bP.str(F:Fr X a O s)(h:k (.str x) O):bP X a O s k (.str x t) {s with toks:=b}:=lN F (λc o e=>e) (.str _ _) h
def acH:∀{b:List ZN},aD D h b (a.map .str)->∃l:List (ZD×O6),strValues l=b/\l.map (·.1)=a:=by induction a with
 |nil=>intro b r;cases r.iN;show⟨[],rfl,rfl⟩;|cons x a c=>intro b r;obtain⟨d,e⟩:=r.iC;cases d.iS with|mk t=>obtain⟨l,f,g⟩:=c e;show⟨(x,t)::l,congrArg (_::·) f,congrArg (_::·) g⟩
def ax.join(f:LV O a (d.map .str))(c:JoinOk x d=ZW)(h:k (.str (VL x d)) O):ax X g O (.builtin "str.join") [.str x,a] k:=by intro E s i F R;revert f c h F R;injections O a x d k X g E s i;intro f c h F R;obtain⟨j,m⟩:=R.i2;cases j.iS;obtain⟨b,i,rfl,n,o⟩:=(F.rd m f).isList;obtain⟨l,rfl,e⟩:=acH o;show SC.join n e c λp r=>bP.str F h
def Ax(z:Pj v i):∃l:Option (Int×O6),v=partValue l/\l.map (·.1)=i:=by cases z with|none=>show⟨Z4,rfl,rfl⟩;|int n t=>show⟨Z7 (n,t),rfl,rfl⟩
def qC{S:Vk}(h:Ev X A O b λa d=>ly X A d Q λi f=>ly X A f R λj m=>∃x,a=.str x/\x.length<=Zo/\k (.str (V4 x i j)) m):Ev X A O (.Subscript b (.Slice Q R Z4 S) C) k:=by ext X A O b Q R k C S;show(λE s F=>by show PQ<|wm (h _ s F) λa D z=>?_;revert F z;ext E s a D;show ba z ?_;clear z;intro V d G w H I;ext V d;show wpAny_Slice<|wm (I.ok G) λW J z=>?_;obtain⟨i,f,n,g,p,r⟩:=z;show wm (r.ok n) λY v z=>?_;revert n g p r z;ext W J i f Y v;obtain⟨j,m,M,y,N,x,rfl,Z,U⟩:=z;cases H.iS with|mk t=>obtain⟨l,e1,e2⟩:=Ax p;obtain⟨u,e3,e4⟩:=Ax N;rw[<-e2,<-e4]at U;show Z5<|QS (ops:=[.ref v.heap.objs.size,.str x t]) (SI _ x t) PySem.F.slot_str_getitem.lookup (wpAny_getItem_str_slice (l:=l) (u:=u) (st:=Z4) ⟨_,Zu _ rfl,rfl,by exists e1,e3;rfl⟩ rfl<|post_val_or_str ⟨ZY (Txt.slice_le x _ _) Z,λt' tk=>?_⟩) rfl;show .from ((w.trans g).trans y)<|lN M (λc o e=>ZT _ e) (.str _ _) U)
def E1(h:Ev X y O e λa f=>∃x,a=.str x/\x.cps.all (·<128)=ZW/\k (x.cps.toList.map λc=>.str ⟨#[c]⟩) f λY=>True):ch X y O M e k:=λE s F=>by show wm (h _ s F) λv g z=>?_;revert h F z;ext X y O e k M E s v g;obtain⟨a,f,m,j,n,x,rfl,N,p⟩:=z;revert m j n N p;ext f x;cases n.iS with|mk t=>
 show wpAny_pyIter_ascii N ?_;show aE (m.pA (h':=g.heap) (o:={cls:=.type "str_ascii_iterator",data:=.fields #[.str x t,.int 0 0]}) (tk:=g.toks) rfl) λu r=>?_;ext t;show⟨_,_,_,[(g.heap.objs.size,_)],f,qi (λi o=>o.cls=.type "str_ascii_iterator"/\o.data=.fields #[.str x t,.int i 0]) (λi o h=>bX _ _ h.1 h.2<|by decide) (λi Z o D s Q E d A l R C=>?_) λo D s Q E A l R C=>?_,(bl _ rfl rfl rfl),u,j.trans r,p⟩;.replace d:=ZQ▸d;cases G:x.cps.toList[i]? with|none=>replace d:=G▸d;cases d;|some c=>replace d:=G▸d;cases d;show wpAny_pyNext_ascii_item (bl o A l.1 l.2) (by simpa using G) λH w I=>?_;obtain⟨S,U,V,W⟩:=w;show C _ H _ S (.str _ _) U ⟨V,W⟩ λb o l e=>I.extBut b o l e
 .show wpAny_pyNext_ascii_end X.hh (bl o A l.1 l.2) (by simp) λH J=>C H s.toks λb o l e=>J b o l e
def Em(d:0<=b)(e:(Builtin.Int.intBits a:Int)*b<=2^27)(h:k (.int (a^b.toNat)) O):Bn X c O .Pow (.int a) (.int b) k:=λE s u v F f g=>by cases f.iI;cases g.iI;show pow_int d e<|.done F (.tok _ _) (.int _ _) h
def E0(d:a.length+b.length<=Zo)(h:k (.str (a++b)) O):Ip X c O .Add (.str a) (.str b) k:=λE s u v F e f=>by cases e.iS;cases f.iS;show PyProof.Rows.iadd_str (λg i=>.done F (.tok _ _) (.str _ _) h) d
def Ev.and(h:Ev X n O e λa i=>Tr X n i a λc d=>(c=ZX->k a d)/\(c=ZW->Ev X n d f k)):Ev X n O (.BoolOp .And [e,f] o) k:=by ext X n O e k f o;show(λE s F=>by show BoolOp_and<|wm (h _ s F) λv p w=>ba w λa i r g j t=>?_;show wm (t _ p v r j) λc u y=>fL y λd l b m=>?_;cases c with|false=>show⟨a,d,l,g.trans b,j.move b,m.1 rfl⟩;|true=>show PE<|wm (m.2 rfl _ u l) λv z x=>.from (g.trans b) x)
def Iz{xs:List ZD}(f:A.units<Xo)(r:aB D s.heap v (.tup (xs.map .str)))(q:aB D s.heap w (.tup (xs.map .str))):SeqAt.EqAt A s v w ZW:=by ext D v w A s xs;cases r.iT with|@mk l c n o g d=>cases q.iT with|@mk m ws h p i a=>
  have k:c.size=ws.size:=d.size.trans a.size.symm;by_cases e:l=m;.exists e;show .same _
  .have z:=SeqAt.RcAt.tuples (A:=A) (bf _ g rfl n rfl) (bf _ i rfl h rfl) f<|vf (l:=l) (b:=m) d a;have t:((YY<|min c.size ws.size).all (λj=>xs[j]?.getD ZP==xs[j]?.getD ZP)&&c.size==ws.size)=ZW:=by exists k,beq_self_eq_true _,Tt _;show Yi.mpr λj _=>beq_self_eq_true _
   replace z:=t▸z;show .of_refs e z
def EB{w:Loc}(f:X.A.units+1<Xo)(h:i ZW O):Cm X w O .Eq (.lst (aU c)) (.lst (aU c)) i:=by intro E s u v F k o;revert f h F k o;injections i X O c w E s u v;intro f h F k o;cases k.iL with|@mk l p n M g x=>cases o.iL with|@mk m ws z N A d=>
  show P9 (e:=λ_=>ZW) (bf _ g rfl n rfl) (bf _ A rfl z rfl) (x.size.trans d.size.symm) (WB f) (λj C D=>?_) ?_
  .have G:p.toList[j]?=Z7 p[j]:=by simp[C]
   have H:ws.toList[j]?=Z7 ws[j]:=by simp[D]
   obtain⟨a,y,I⟩:=x.get' G;obtain⟨b,t,J⟩:=d.get' H;replace t:=y▸t;cases t;obtain⟨r,_,rfl⟩:=wd y;show Iz (xs:=[r.1,r.2]) f I J
  .have Q:((YY p.size).all λ_=>ZW)=ZW:=Yi.mpr λ_ _=>rfl;exists Q;show cX F h
def qt(f:b≠0)(g:b.natAbs<1073741824)(h:k (.tup [.int (a.fdiv b),.int (a.fmod b)]) O):ax X j O (.builtin "divmod") [.int a,.int b] k:=by intro E s l F R;revert f g h F R;injections b k X j O a E s l;intro f g h F R;obtain⟨m,o⟩:=R.i2;cases m.iI;cases o.iI;show divmod_int f ?_<|.inl<|SF g;have d:∀c i,s.heap.get? c=Z7 i->(s.heap.push {cls:=.type "tuple",data:=.seq #[.int (a.fdiv b) s.toks,.int (a.fmod b) (s.toks+1)]}).get? c=Z7 i:=λc i e=>ZT _ e;show⟨.tup [.int (a.fdiv b),.int (a.fmod b)],O,F.keeps d,am.of d,.tup (n:=0) F.fresh (Zu _ rfl)<|.cons (.int _ _)<|.cons (.int _ _) .nil,h⟩
def Ev.or(h:Ev X n O e λa i=>Tr X n i a λc d=>(c=ZW->k a d)/\(c=ZX->Ev X n d f k)):Ev X n O (.BoolOp .Or [e,f] o) k:=by intro E s F;revert h F;injections X n O e k f o E s;intro h F;show BoolOp_or<|wm (h _ s F) λv p w=>ba w λa i r g j t=>?_;show wm (t _ p v r j) λc u y=>fL y λd l b m=>?_;cases c with|true=>show⟨a,d,l,g.trans b,j.move b,m.1 rfl⟩;|false=>show PE<|wm (m.2 rfl _ u l) λv z x=>.from (g.trans b) x
def Gj(P):(ar P).get? 275=Z7 vI:=⋯
def Gi(P):(ar P).get? 274=Z7 Cb:=⋯
abbrev kh(x:ZD):Prop:=∃y,x=y++nl/\10∉y.cps.toList/\y.length<=3
structure xD where
 z:Int
 y:ZD
 n:Nat
abbrev MD(a:xD):Loc:=[(Z9 "signs",.str a.y),(Z9 "z",.int a.z)]
structure E9(st:xD):Prop where
 z0:0<=st.z
 z1:st.z<1112063^st.n
 n:st.y.length+st.n<=3
 y:10∉st.y.cps.toList
def zc{X:Fx}{e:Loc}{O:ag}{g:Vk}{p r}(v:Ok X p r){n:Nat}{t b o:X7}{k:AV->ag->Prop}{P:Prop}[Decidable P]{i j:Int}(h:(iZ X p r e n O t λc d=>(c=decide P/\d=O)).p)(w:Ev X e O b λa d=>a=.int i/\d=O)(x:Ev X e O o λa d=>a=.int j/\d=O)(f:k (.int (if P then i else j)) O):Ev X e O (.IfExp t b o g) k:=.Ap ((bL v h).mono λc d z=>aE z λs u=>⟨λq=>by exists u;show w.mono λa A y=>aE y λl m=>by exists l,m;rw[if_pos (of_decide_eq_true<|s.symm.trans q)]at f;show f,λq=>by exists u;show x.mono λa A y=>aE y λl m=>by exists l,m;rw[if_neg (of_decide_eq_false<|s.symm.trans q)]at f;show f⟩)
def MG{z:Int}(c:0<z)(a:z<1112063^n):∃m,n=m+1/\0<=(z-1).fdiv 1112063/\(z-1).fdiv 1112063<1112063^m/\((z-1).fdiv 1112063).toNat<z.toNat/\0<=(z-1).fmod 1112063/\(z-1).fmod 1112063<1112063:=by ext n z;exists(VX _<|by decide),(XQ _<|by decide);cases n with|zero=>rw[Int.pow_zero]at a;show((jb 0x702e0bfdc13c2e0) c a).elim;|succ m=>show⟨m,rfl,<-Ar.bA 0x4 0x1c1382fec84f13a2374c2f04410f405013fa08821e80a0278ddb0b82f [0,0,0] [_,_,(z-1)%1112063] ⋯ c (UY (z-1) 1112063) (W9 (z-1) (by decide:(0:Int)<1112063)),?_,<-Ar.bA 0x6 0x384705fd909e47444e98de08821e80a027ec4eb05e30746eb17637582f18341797760bc6e183a47583b23ac17e425 [_,0,0,0,_] [0,(z-1)%1112063,_,_,0] ⋯ c (UY (z-1) 1112063) (V7 (z-1) (by decide:(1112063:Int)≠0)) (@YZ<|(z-1)/1112063) (@XE<|(z-1)/1112063) (@YZ<|z),V7 _<|by decide,W9 _<|by decide⟩;show Int.ediv_lt_of_lt_mul (by decide) ?_;rw[Int.pow_succ]at a;show(dK 0x1c1382ee09d213c2e0) a
def MF{g:Int}(a:0<=g)(b:g<1112063):0<=(if(if g<10 then g else g+1)<55296 then(if g<10 then g else g+1)else(if g<10 then g else g+1)+2048)/\(if(if g<10 then g else g+1)<55296 then(if g<10 then g else g+1)else(if g<10 then g else g+1)+2048)<=1114111/\(if(if g<10 then g else g+1)<55296 then(if g<10 then g else g+1)else(if g<10 then g else g+1)+2048).toNat≠10:=by omega
def Mr(b:X.A.depth<ZU)(p:0<=z)(r:z<1112063^3)(s:∀x,kh x->k (.str x) O):ax X i O (.ref 275) [.int z] k:=by
 ext z k X i O;show ax.def (name:=Z9 "_law_line") (params:=cY qb) (body:=aA qb) (scope:=aw qb) (pm:=_) (ca:=274) (doc:=_) (ns:=[Z9 "z"]) b (Gj _) rfl (Gi _) rfl rfl (λN h=>?_) dk dk dk rfl rfl rfl λY C=>?_;.show pM h λt=>rfl
 ext Y;have a:=C.ok ⋯;show C.run ⋯ λL u=>?_;ext L;have j:(4:Nat)<=Zo:=by exists Zx;decide
 show stM<|Es.down<|mD MD (λt=>[]) (λv=>v.z.toNat) E9 ⟨z,ZP,3⟩ ⟨p,r,ZR _,λq=>nM q⟩ ?_;rintro⟨z,y,n⟩⟨w,l,d,f⟩;dsimp only at w l d f;show bL a (n:=6) ?_;show ZK (λc=>?_) λc=>?_
 .obtain⟨m,rfl,A,D,E,F,G⟩:=MG (of_decide_eq_true c) l;show Ex.down<|run a u ?_;show stM<|qt (by decide) (by decide) ?_;generalize(z-1).fdiv 1112063=H at*;generalize(z-1).fmod 1112063=g at*;obtain⟨I,J,M⟩:=MF F G;show stM<|zc a (n:=8) (P:=g<10) ⟨rfl,rfl⟩ (be a (n:=8) ⟨rfl,rfl⟩) (be a (n:=8) ⟨rfl,rfl⟩) ?_;generalize(if g<10 then g else g+1)=e at*;show stM<|zc a (n:=8) (P:=e<55296) ⟨rfl,rfl⟩ (be a (n:=8) ⟨rfl,rfl⟩) (be a (n:=8) ⟨rfl,rfl⟩) ?_;show stM<|Eo I J ?_;have o:(y++(⟨#[(if e<55296 then e else e+2048).toNat]⟩:ZD)).length=y.length+1:=by exists Za _ _;rfl
  show stM<|E0 (by exists ZJ<|Za _ _,o;show ZY (<-(af 0xc11f1889e20e0af889e12) d) j) ?_;show nw _ (a0.ok ⋯) ⟨H,y++⟨#[(if e<55296 then e else e+2048).toNat]⟩,m⟩ E ⟨A,D,?_,?_⟩ rfl rfl;.show(?_:(y++_).length+m<=3);exists o;show(af 0x3047c6227883823e22889e10) d
  .show(?_:10∉(y++_).cps.toList);exists YS _ _,YW;intro q;rcases ZS.mp q with q|q;.show f q
   .rcases ZM.mp q with q;show M q.symm
 .show ae _ (Sub.refl _) ?_;show stM<|ie (by show(?_:y.length+1<=_);show ZY (<-(af 0x1823e220e0af889e12) d) j) ?_;show ae _ (.inl rfl)<|s _ ⟨y,rfl,f,<-(af 0x3047c441c11e12) d⟩
def Gx(P):(ar P).get? 304=Z7 vN:=⋯
def Gw(P):(ar P).get? 303=Z7 Cg:=⋯
structure mK where
 L:Nat->Nat
 m:Nat
def nLg:Nonempty mK:=⟨⟨λa=>0,0⟩⟩
abbrev fq(L:Nat->Nat)(m n:Nat):Nat:=(YY n).foldl (λa j=>max a<|L j) m
abbrev dC(b:List ZD)(S:ZD->Bool)(L:Nat->Nat)(x:ZD)(j:Nat):Nat:=if(b.getD j ZP==x&&S x)=ZW then bD L j+1 else 0
abbrev vd(b:List ZD)(S:ZD->Bool)(a:mK)(x:ZD):mK:=⟨dC b S a.L x,fq (dC b S a.L x) a.m b.length⟩
abbrev fi(b:List ZD)(S:ZD->Bool)(a:List ZD):mK:=a.foldl (vd b S) ⟨λc=>0,0⟩
abbrev pE(L:Nat->Nat)(n:Nat):List Int:=(YY n).map λj=>(L j:Int)
abbrev ja(L:Nat->Nat)(n:Nat):List AV:=(pE L n).map .int
def Br(L)(m):∀n,(m<=fq L m n/\∀j,j<n->L j<=fq L m n)/\(fq L m n=m\/∃j,j<n/\fq L m n=L j):=by intro n;ext L m n;induction n with|zero=>show⟨⟨ZR _,λj h=>absurd h<|XN _⟩,.inl rfl⟩;|succ n b=>
  have e:fq L m (n+1)=max (fq L m n) (L n):=by unfold fq;exists VH,YU;rfl
  obtain⟨⟨c,d⟩,a⟩:=b;exists e;show⟨⟨ZY c<|Sq ..,λj f=>?_⟩,?_⟩
  .rcases Nat.lt_succ_iff_lt_or_eq.mp f with q|q;.show ZY (d j q)<|Sq ..
   .exists q;show Qp ..
  .rcases Q1 (fq L m n) (L n)with q|q;.show .inr ⟨n,UW _,QD q⟩
   .exists Sv q;rcases a with a|⟨j,g,i⟩;.show .inl a
    .show .inr ⟨j,Vh g,i⟩
abbrev rW(b a:List ZD)(c:mK):Loc:=[(Z9 "row",.lst<|ja c.L b.length),(Z9 "most",.int c.m),(Z9 "second",.lst<|b.map .str),(Z9 "popular",.lst<|a.map .str)]
abbrev zC(a:Nat->Nat):AV->Option AV
 |.int j=>Z7 (.int (a j.toNat))|_=>Z4
def Jw(a)(n):(cg 0 n).filterMap (zC a)=ja a n:=by unfold cg ja pE;induction YY n with|nil=>rfl;|cons t r b=>exists Z3;rw[YI,Z3,Z3,<-b];show(?_:AV.int (a ((0:Int)+(t:Int)).toNat)::_=_);exists Xw _;show aW (Zm _) rfl
def Av(L)(n):(ja L n).length=n:=by unfold ja pE;exists Z6 _,Z6 _;show aW Xi rfl
def abn(L)(h:j<=n):(AV.int 0::ja L n)[j]?=Z7 (.int (bD L j)):=by cases j with|zero=>rfl;|succ j=>exists ZQ,ZQ,WV h;rfl
def AK(a:(b.getD j ZP==x)=ZW)(c:S x=ZW):dC b S L x j=bD L j+1:=if_pos (by exists a,c;rfl)
def vc(h:((b.getD j ZP==x)&&S x)=ZX):dC b S L x j=0:=if_neg (by exists h;decide)
def Mq{K:Kn}{c:cW Y (k.map (·.1))}(C:Callee X Y (Z9 "_law_longest") (aw mn) 304 (.ref 303))(i:b.length<=1000)(h:∀l,Sub (rW b a (vd b (λx=>!aP a x) d x)) l->K.nx l []):Ex (Y.holds k c) ((Z9 "line",.str x)::rW b a d) [] (bW (aT (aA mn) 1)) K:=by
 ext Y X b a d x k K;have o:=(C.ok ⋯).holds (hs:=k) (c:=c);show aq C.env λL u E=>?_;have F:(Y.holds k c).env=_:=u;have r:(2000:Nat)<=Zo:=by exists Zx;decide
 show run o F ?_;show stM<|Ev.to _ (dq<|.cons rfl<|.int<|.nil ⟨ZY (by decide) r,⟨rfl,rfl⟩⟩) ?_;show stM<|lq .lst .lst (by exists Av _ _;show ZY (by show(?_:1+_<=2000);show(ak 0x184c40f0e230fc04f8844f0) i) r) ?_;show stM<|qx (o.loc _<|.inl ⋯) (zC<|dC b (λx=>!aP a x) d.L x) (eA (b9:=[(Z9 "last",.lst (.int 0::ja d.L b.length)),(Z9 "line",.str x),(Z9 "popular",.lst<|a.map .str),(Z9 "second",.lst<|b.map .str)]) C dk rfl dk dk ?_).holds (by exists F;kernel_rfl) (λE=>rfl)<|xB rfl (o.ld ⋯ ⋯) ?_;.intro p G;simp only[Z1,Zn,or_false]at G;rcases G with rfl|rfl|rfl|rfl<;>show⟨rfl,⋯⟩
 .show .cons rfl<|be o (n:=8) ?_;show ZK (by exists Z6 _;show kV i gk) ?_;exists Z6 _;show bm.nil ⟨_,rfl,<-nX,<-kV i u0,?_⟩;exists Zm _,wb,Jw _ _;show br (ZY (<-(ak 0x309881e1c461f809e10) i) r) (λQ H t R S w=>?_) ?_
  .obtain⟨s,rfl⟩:=sS w;exists Xw _;have f:=H.ok dk ⋯;show Tg.ex f ?_;have I:b[t]?=Z7 (b.getD t ZP):=by exists ZB,Z2 s;rfl
   have y:(b.map AV.str)[((t:Int)).toNat]?=Z7 (.str<|b.getD t ZP):=by exists Zm _,ZQ,I;rfl
   have J:(AV.int 0::ja d.L b.length)[((t:Int)).toNat]?=Z7 (.int<|bD d.L t):=by exists Zm _;show abn d.L<|Ye s
   show br rfl (λE=>Ev.to (.int<|dC b (λx=>!aP a x) d.L x t) (kA f (n:=8) ?_) ⟨rfl,rfl,trivial⟩) λz=>nT z;show stM<|Ev.to _ (Ev.sub<|aj f rfl<|aj f rfl<|Ix.list trivial .lst (<-cf) (<-(ai 0xc262078f230e04187a047f0414) i s gk) y ⟨rfl,rfl⟩) ?_;show ZK (λc=>?_) λc=>?_
   .have c:(b.getD t ZP==x)=ZW:=c;show stM<|qu .lst ?_;show ZK (λg=>?_) λg=>?_;.have g:(!aP a x)=ZW:=g;show ZK (λ_=>?_) λz=>nT z;show stM<|Ev.to _ (Ev.sub<|aj f rfl<|aj f rfl<|Ix.list trivial .lst (<-cf) (<-(ai 0xc262078f230e04187a047f0414) i s gk) J ⟨rfl,rfl⟩) ?_;show⟨congrArg (λn:Nat=>AV.int (n:Int)) (AK c g).symm,rfl⟩
    .have g:(!aP a x)=ZX:=g;show ZK (λz=>nF z) λ_=>?_;show⟨congrArg (λn:Nat=>AV.int (n:Int)) (vc (by exists c,g;rfl)).symm,rfl⟩
   .have c:(b.getD t ZP==x)=ZX:=c;show ZK (λz=>nF z) λ_=>?_;show⟨congrArg (λn:Nat=>AV.int (n:Int)) (vc (by exists c;rfl)).symm,rfl⟩
  .obtain⟨⟨M,N⟩,O⟩:=Br (dC b (λx=>!aP a x) d.L x) d.m b.length;show stM<|Ev.to _ (dq<|.cons rfl<|aj o rfl<|.nil ⟨ZY (show 1<=2000 by decide) r,⟨rfl,rfl⟩⟩) ?_;show stM<|lq .lst .lst (by exists Av _ _;show ZY (by show(?_:1+_<=2000);omega) r) ?_;show stM<|Ey (ns:=(d.m:Int)::pE (dC b (λx=>!aP a x) d.L x) b.length) (m:=fq (dC b (λx=>!aP a x) d.L x) d.m b.length) .lst ?_ ?_ ?_
   .rcases O with e|⟨j,A,e⟩;.exists e;show .head _
    .exists e;show .tail _<|Z0.mpr ⟨j,XR.mpr A,rfl⟩
   .intro v D;rcases Z1.mp D with rfl|D;.show Vi.mpr M
    .obtain⟨j,A,rfl⟩:=Z0.mp D;show Vi.mpr<|N j<|XR.mp A
   .show h _<|a0.ok ⋯
def adN(n):(Zt n [AV.int 0]).flatten=ja (λa=>0) n:=by exists U3;unfold ja pE;exists List.map_const',Xi,Q4;rfl
def AL(b)(S)(a)(x):fi b S (a++[x])=vd b S (fi b S a) x:=by unfold fi;exists YU;rfl
def ML(g:X.A.depth<ZU)(m:b.length<=1000)(s:k (.int (fi b (λx=>!aP pop x) a).m) O):ax X p O (.ref 304) [.lst (a.map .str),.lst (b.map .str),.lst (pop.map .str)] k:=by
 ext k X p O b pop a;show ax.def (name:=Z9 "_law_longest") (params:=cY mn) (body:=aA mn) (scope:=aw mn) (pm:=_) (ca:=303) (doc:=_) (ns:=[Z9 "first",Z9 "second",Z9 "popular"]) g (Gx _) rfl (Gw _) rfl rfl (λy h=>?_) dk dk dk rfl rfl rfl λY C=>?_;.show rY h λj j j=>rfl
 ext Y;have r:=C.ok ⋯;have t:(2000:Nat)<=Zo:=by exists Zx;decide
 show C.run ⋯ λL z=>?_;ext L;show stM<|Ev.to _ (dq<|.cons rfl<|.int<|.nil ⟨ZY (show 1<=2000 by decide) t,⟨rfl,rfl⟩⟩) ?_;show ZK (by exists Z6 _;show kV m gk) ?_;exists Z6 _;show stM<|w7 .lst (<-nX) (<-kV m gk) (by exists Zm _;show(?_:1*_<=_);show(af 0xc2620787020c3d023f029844f1) m (by decide:(4000:Nat)<=16777216)) (Yv _ _) ?_;exists Zm _,adN _;show stM<|Es.down<|d5 (λj=>rfl)<|ch.lst<|aj r rfl<|nw _ rfl (λi f n=>n=[]/\Sub (rW b pop<|fi b (λx=>!aP pop x)<|a.take i) f) ⟨rfl,a0.ok ⋯⟩ (λj j j j=>trivial) ?_ ?_;.rintro i u f n v c e⟨rfl,d⟩;ext i u f v;rw[ZQ]at e;cases o:a[i]? with|none=>rw[o]at e;cases e;|some x=>rw[o]at e;cases e;show Tg.ex r.holds ?_;show Ex.sub (d.cc _ _)<|Mq C m λl w=>⟨rfl,?_⟩;exists Zc,o;show(?_:Sub (rW b pop<|fi b _<|a.take i++[x]) l);exists AL _ _ _ _;show w
 .rintro f n⟨rfl,d⟩;rw[Z6,YQ]at d;show ae _ d ?_;show ae _ (.inl rfl) s
def aD.last{D:List Zw}{h:Xq}{a b:AV}(f:∀v,aB D h v a->aB D h v b):∀{l:List AV}{d:List ZN},aD D h d (l++[a])->aD D h d (l++[b]):=by intro l;induction l with
 |nil=>intro d r;obtain⟨q⟩:=aD.i1 r;show .cons (f _ q) .nil;|cons c l e=>intro d r;obtain⟨g,i⟩:=aD.iC r;show .cons g<|e i
def xV{O:ag}{G C K done:List AV}:Cv X f ((d,.list K)::(c,.list C)::(g,.list G)::(p,.list (done++[.tup [.ref g,.ref c,.ref d]]))::O) f ((p,.list (done++[.tup [.lst G,.lst C,.lst K]]))::O):=by
 intro s F;ext X f d c g p O G C K done s;obtain⟨t,u,h⟩:=F.ql;obtain⟨w,r,i⟩:=t.ql;obtain⟨j,k,x⟩:=w.ql;have h:=(h.move r).move k;have i:=i.move k;have y:=(u.trans r).trans k;obtain⟨D,n,E,H⟩:=j.cO<|.head _;have l:=aD.last (b:=.tup [.lst G,.lst C,.lst K]) (λv z=>by cases z.iT with|@mk a ws m I J q=>show .tup I J ?_;generalize ws.toList=R at q;obtain⟨M,N,Q⟩:=q.i3;cases M.iR;cases N.iR;cases Q.iR;show .cons x<|.cons i<|.cons h .nil) H;have U:=j.upd (ao:=.list<|done++[.tup [.lst G,.lst C,.lst K]]) (h':=s.heap) (tk:=s.toks) (.head _) (λb o _ e=>e) E ⟨D,n,rfl,l⟩;rw[show aK ((p,az.list<|done++[.tup [.ref g,.ref c,.ref d]])::O) p (.list<|done++[.tup [.lst G,.lst C,.lst K]])=(p,.list<|done++[.tup [.lst G,.lst C,.lst K]])::O from di (A:=[]) j.nd]at U;show⟨U,y⟩
structure fD where
 g:List ZD
 c:List ZD
 k:List ZD
def nPt:Nonempty fD:=⟨⟨[],[],[]⟩⟩
abbrev jk(P:fD):AV:=.tup [.lst (P.g.map .str),.lst<|P.c.map .str,.lst (P.k.map .str)]
structure fX where
 most:Nat
 size:Nat
 done:List fD
 cur:fD
def nAp:Nonempty fX:=⟨⟨0,0,[],⟨[],[],[]⟩⟩⟩
abbrev iV(P:fD)(r:ZD×ZD):fD:=if r.1=Z9 "-"then⟨P.g++[r.2],P.c,P.k⟩else if r.1=Z9 "+"then⟨P.g,P.c++[r.2],P.k⟩else⟨P.g,P.c,P.k++[r.2]⟩
abbrev gH(S:ZD->Bool)(n:Nat)(r:ZD×ZD):Nat:=if r.1=Z9 " "/\S r.2=ZW then n+1 else 0
abbrev fE(a:fX)(r:ZD×ZD):List fD×fD:=if r.1≠Z9 " "/\a.cur.k≠[]then(a.done++[a.cur],⟨[],[],[]⟩)else(a.done,a.cur)
abbrev bw(S:ZD->Bool)(a:fX)(r:ZD×ZD):fX:=⟨max a.most<|gH S a.size r,gH S a.size r,(fE a r).1,iV (fE a r).2 r⟩
structure s6 where
 g:Zw
 c:Zw
 d:Zw
def nAa:Nonempty s6:=⟨⟨0,0,0⟩⟩
abbrev d7(p:Zw)(A:s6)(done:List fD)(P:fD):ag:=[(A.d,.list<|P.k.map .str),(A.c,.list<|P.c.map .str),(A.g,.list<|P.g.map .str),(p,.list<|done.map jk++[.tup [.ref A.g,.ref A.c,.ref A.d]])]
abbrev iq(p:Zw)(b:List (ZD×ZD))(e:List ZD)(a c d:Nat):Loc:=[(Z9 "most",.int c),(Z9 "size",.int d),(Z9 "parts",.ref p),(Z9 "longest",.int a),(Z9 "popular",.lst<|e.map .str),(Z9 "rows",.lst<|aU b)]
abbrev mS:List YR:=bW<|aT (aA eV) 1
structure mA(p:Zw)(A:s6):Prop where
 gp:A.g≠p
 cp:A.c≠p
 dp:A.d≠p
 gc:A.g≠A.c
 gd:A.g≠A.d
 cd:A.c≠A.d
def FH{K:Kn}{c:cW Y (o.map (·.1))}(C:Callee X Y (Z9 "_law_apart") (aw eV) 309 (.ref 308))(I:X.A.units+3<Xo)(J:a.done.length<=2000)(E:mA p A)(h:∀F s,mA p F->Sub ((Z9 "line",.str r.2)::(Z9 "sign",.str r.1)::iq p d i b f g) s->K.nx s (d7 p F (fE a r).1 (fE a r).2)):Es (Y.holds o c) ((Z9 "line",.str r.2)::(Z9 "sign",.str r.1)::iq p d i b f g) (d7 p A a.done a.cur) (aT mS 2) K:=by
 ext Y X p A r d i b f g a o K;have u:=(C.ok ⋯).holds (hs:=o) (c:=c);show aq C.env λL x R=>?_;have M:(Y.holds o c).env=_:=x;have N:(Y.holds o c).A.units<Xo:=by show(?_:Y.A.units<_);exists C.depth.2;show I
 have G:(2001:Nat)<=Zo:=by exists Zx;decide
 have S:(a.done.map jk++[AV.tup [.ref A.g,.ref A.c,.ref A.d]]).length=a.done.length+1:=by exists ZV,Z6 _;rfl
 show Es.ite<|bL u (n:=8) ?_;show ZK (λq=>?_) λq=>?_
 .have q:(r.1 !=Z9 " ")=ZW:=q;show stM<|Ev.sub<|Ev.sub<|aj u rfl<|Ev.un<|Ev.int<|Un.neg<|Ix.last trivial (.inr ⟨p,rfl,mI 3 rfl⟩) (Wz ..) ?_;show Ev.int<|Ix.tup (j:=2) trivial (by decide) (by decide) rfl rfl ?_;show stM<|dq<|.nil ⟨ZZ _,?_⟩;show stM<|jw N (.inr ⟨A.d,rfl,.head _⟩) .lst ⟨λz=>?_,λz=>?_⟩
  .have z:a.cur.k≠[]:=by rintro e;replace z:=e▸z;cases z
   show ZK (λ_=>?_) λz=>nT z;have t:fE a r=(a.done++[a.cur],⟨[],[],[]⟩):=if_pos ⟨by simpa using q,z⟩;replace h:=t▸h;show Ex.cv xV<|run u M ?_;show stM<|cV Zj Zi rfl rfl rfl<|aj u rfl ⟨⟨_,.inr ⟨p,rfl,.head _⟩⟩,Ev.tuple<|.cons rfl<|Ev.list<|.nil ⟨ZZ _,λk O=>.cons rfl<|Ev.list<|.nil ⟨ZZ _,λl Q=>.cons rfl<|Ev.list<|.nil ⟨ZZ _,λm y=>.nil ⟨ZY (show 3<=2001 by decide) G,?_⟩⟩⟩⟩⟩;have H:k≠p:=by simpa using O
   have D:l≠k/\l≠p:=by simpa using Q
   have v:m≠l/\m≠k/\m≠p:=by simpa using y
   show ax.append (mI 3 rfl) (by simp;show(af 0x31187e0278702943f013f02889e11) J G) ?_;have U:=h ⟨k,l,m⟩ _ ⟨H,D.2,v.2.2,D.1.symm,v.2.1.symm,v.1.symm⟩<|Sub.refl _;have e:aK [(m,az.list []),(l,.list []),(k,.list []),(p,.list<|a.done.map jk++[.tup [.lst (a.cur.g.map .str),.lst<|a.cur.c.map .str,.lst (a.cur.k.map .str)]])] p (.list<|a.done.map jk++[.tup [.lst (a.cur.g.map .str),.lst<|a.cur.c.map .str,.lst (a.cur.k.map .str)]]++[.tup [.ref k,.ref l,.ref m]])=d7 p ⟨k,l,m⟩ (a.done++[a.cur]) ⟨[],[],[]⟩:=by unfold d7;exists ZF;simp[aK,H,D.2,v.2.2,jk]
   exists e;show U
  .have z:a.cur.k=[]:=by cases e:a.cur.k with|nil=>rfl;|cons _ _=>replace z:=e▸z;cases z
   have t:fE a r=(a.done,a.cur):=if_neg λw=>w.2 z;replace h:=t▸h;show ZK (λz=>nF z) λ_=>Ex.nil<|h A _ E<|Sub.refl _
 .have q:(r.1 !=Z9 " ")=ZX:=q;have t:fE a r=(a.done,a.cur):=if_neg λw=>by simp[w.1]at q
  replace h:=t▸h;show ZK (λz=>nF z) λ_=>Ex.nil<|h A _ E<|Sub.refl _
def Ev.sm{name:ZD}(g:Pw "str" name p)(s:Uc (.builtin p)=pure (.type "method_descriptor"))(c:VN o name X.env (eval o X.env)=eval o X.env)(r:(e::n).any bN=ZX)(t:(e::n).length<29)(d:(b.endLine==f.line)=ZW)(h:Ev X m O o λa i=>∃x,a=.str x/\bm X m i (e::n) λl j=>ax X m j (.builtin p) (.str x::l) k):Ev X m O (.Call (.Attribute o name b) (e::n) [] f) k:=xj g s c (zp r t) d r h
abbrev lI(r:ZD×ZD):Prop:=r.1=Z9 "-"\/r.1=Z9 "+"\/r.1=Z9 " "
def tR{r:ZD×ZD}{K:Kn}{l:List ZD}{L:Zw}(k:Ok Y (λx=>(aw eV).names.lookup x) aY)(w:done.length<=2001)(n:l.length<=2000)(o:Xl (Z9 "-+ ") r.1 0 (Z9 "-+ ").length 1=i::rest)(s:[AV.ref A.g,.ref A.c,.ref A.d][i]?=Z7 (.ref a))(t:i<3)(m:(a,az.list (l.map .str))∈d7 p A done P)(u:aK (d7 p A done P) a (.list (l.map .str++[.str r.2]))=d7 p A done g)(h:K.nx ((Z9 "line",.str r.2)::(Z9 "sign",.str r.1)::iq p c f b d e) (d7 p A done g)):Es Y ((Z9 "line",.str r.2)::(Z9 "sign",.str r.1)::iq p c f b d e) (d7 p A done P) (aT mS 3) K:=by
 revert Y p a A c f b d e i done P g r K l rest L;injections Y i rest a p A done P g;ext c f b d e r K l L;have v:(2001:Nat)<=Zo:=by exists Zx;decide
 have y:(done.map jk++[AV.tup [.ref A.g,.ref A.c,.ref A.d]]).length=done.length+1:=by exists ZV,Z6 _;rfl
 show Es.expr rfl<|cV Zj Zi rfl rfl rfl<|Ev.sub<|Ev.sub<|aj k rfl<|Ev.un<|Ev.int<|Un.neg<|Ix.last trivial (.inr ⟨p,rfl,mI 3 rfl⟩) (Wz ..) ?_;show Ev.sm Sx Sw rfl rfl (by decide) rfl<|Ev.str ⟨_,rfl,.cons rfl<|aj k rfl<|.nil<|w9 o ?_⟩;show Ix.tup (j:=i) trivial (<-nX) (<-(af 0x648f0e04187a047f0411) t gk) (StrLaws.seqIndex_nonneg (<-cf) (by show(?_:(i:Int)<3);omega)) s ⟨⟨_,.inr ⟨a,rfl,m⟩⟩,aj k rfl<|ax.append m (by exists Z6 _;show(af 0x6230fc04f0e05287e027e0411) n v) ?_⟩;exists u;show h
def Fw{K:Kn}{L:Zw}(j:Ok Y (λx=>(aw eV).names.lookup x) aY)(o:mA p A)(k:done.length<=2001)(s:P.g.length<=2000)(t:P.c.length<=2000)(u:P.k.length<=2000)(v:lI r)(h:K.nx ((Z9 "line",.str r.2)::(Z9 "sign",.str r.1)::iq p b f a c d) (d7 p A done (iV P r))):Es Y ((Z9 "line",.str r.2)::(Z9 "sign",.str r.1)::iq p b f a c d) (d7 p A done P) (aT mS 3) K:=by
 ext Y p A r b f a c d done P K L;obtain⟨w,y,z,l,m,n⟩:=o;rcases v with e|e|e;.have g:iV P r=⟨P.g++[r.2],P.c,P.k⟩:=if_pos e;replace h:=g▸h;show tR (L:=L) (i:=0) (rest:=[]) j k s (by exists e;kernel_rfl) rfl (by decide) (mI 2 rfl) ?_ h;simp[d7,aK,w.symm,l.symm,m.symm]
 .have g:iV P r=⟨P.g,P.c++[r.2],P.k⟩:=(if_neg (by exists e;decide)).trans<|if_pos e;replace h:=g▸h;show tR (L:=L) (i:=1) (rest:=[]) j k t (by exists e;kernel_rfl) rfl (by decide) (.tail _<|.head _) ?_ h;simp[d7,aK,y.symm,l,n.symm]
 .have g:iV P r=⟨P.g,P.c,P.k++[r.2]⟩:=(if_neg (by exists e;decide)).trans<|if_neg (by exists e;decide);replace h:=g▸h;show tR (L:=L) (i:=2) (rest:=[]) j k u (by exists e;kernel_rfl) rfl (by decide) (.head _) ?_ h;simp[d7,aK,z.symm,m,n]
def FJ{K:Kn}{c:cW Y (g.map (·.1))}(C:Callee X Y (Z9 "_law_apart") (aw eV) 309 (.ref 308))(o:X.A.units+3<Xo)(s:mA p A)(t:d.done.length<=2000)(D:d.cur.g.length<=2000)(E:d.cur.c.length<=2000)(F:d.cur.k.length<=2000)(u:lI r)(h:∀j f,mA p j->Sub (iq p e a b (bw (λx=>!aP a x) d r).most (bw (λx=>!aP a x) d r).size) f->K.nx f (d7 p j (bw (λx=>!aP a x) d r).done (bw (λx=>!aP a x) d r).cur)):Ex (Y.holds g c) ((Z9 "line",.str r.2)::(Z9 "sign",.str r.1)::iq p e a b d.most d.size) (d7 p A d.done d.cur) mS K:=by
 ext Y X p A r e a b d g K;have k:=(C.ok ⋯).holds (hs:=g) (c:=c);show aq C.env λL l G=>?_;have v:(Y.holds g c).env=_:=l;show fx (b1:=mS.take 2) (b2:=mS.drop 2) k v ?_;show stM<|Ev.to (.int<|gH (λx=>!aP a x) d.size r) (kA k (n:=8) ?_) ?_
 .show ZK (λq=>?_) λq=>?_
  .have q:(r.1==Z9 " ")=ZW:=q;show stM<|qu .lst ?_;show ZK (λz=>?_) λz=>?_;.have z:(!aP a r.2)=ZW:=z;show ZK (λ_=>⟨by rw[gH,if_pos ⟨eq_of_beq q,z⟩];rfl,rfl⟩) λz=>nT z
   .have z:(!aP a r.2)=ZX:=z;show ZK (λz=>nF z) λ_=>⟨by rw[gH,if_neg (λw=>by replace z:=w.2▸z;cases z)];rfl,rfl⟩
  .have q:(r.1==Z9 " ")=ZX:=q;show ZK (λz=>nF z) λ_=>⟨by rw[gH,if_neg (λw=>by replace q:=w.1▸q;cases q)];rfl,rfl⟩
 have y:max (d.most:Int) (gH (λx=>!aP a x) d.size r:Int)=((bw (λx=>!aP a x) d r).most:Int):=by show(?_:_=((max d.most _:Nat):Int));show(af 0xedaa20d4410)
 show Ex.sub (ρ':=(Z9 "line",.str r.2)::(Z9 "sign",.str r.1)::iq p e a b (bw (λx=>!aP a x) d r).most (bw (λx=>!aP a x) d r).size) (f4.ok ⟨ae _ rfl rfl,ae _ rfl rfl,ae _ rfl<|congrArg AV.int y,ae _ rfl rfl,ae _ rfl rfl,ae _ rfl rfl,ae _ rfl rfl,ae _ rfl rfl,trivial⟩) ?_;show Ex.cons<|FH C o t s λj f i m=>?_;show Ex.sub m (Ex.cons<|Fw (L:=L) k i ?_ ?_ ?_ ?_ u<|Ex.nil<|h j _ i<|a0.ok ⋯);all_goals unfold fE;split
 all_goals first|assumption|show ZZ _|(simp;omega)
def wt(h:x.cps.toList=c::a):V4 x Z4 (Z7 1)=⟨#[c]⟩:=by have e:V4 x Z4 (Z7 1)=QH x Z4 (Z7 1):=rfl;rw[e,StrLaws.sliceText_to ⟨by decide,by rw[h,ZO];show(ak 0xdda227844f3)⟩,h];rfl
def DD(h:x.cps.toList=c::cs):V4 x (Z7 1) Z4=⟨cs.toArray⟩:=by have e:V4 x (Z7 1) Z4=QH x (Z7 1) Z4:=rfl;rw[e,StrLaws.sliceText_from ⟨by decide,by rw[h,ZO];show(ak 0xdda227844f3)⟩,h];show(?_:(⟨(Qw _ cs).toArray⟩:ZD)=_);show aW (WP (by exists ZO;show(af 0x183b213ed113c3616e427da22786c17e0412)<|@YZ<|(↑(cs.length+1):Int)-1)) rfl
abbrev hb(h:Hk):ZD:=Z9 "@@ -"++b8 h.old (cnt "+" h.rows)++Z9 " +"++b8 h.new (cnt "-" h.rows)++Z9 " @@"
abbrev yI(x:ZD):ZD:=⟨x.cps.pop⟩
abbrev dj(r:a9):ZD:=r.1++yI r.2
abbrev cN(h:Hk):List ZD:=hb h::h.rows.map dj
abbrev cA(H:List Hk):List ZD:=(if H=[]then[]else[Z9 "--- ",Z9 "+++ "])++H.flatMap cN
abbrev eK(x:ZD):Bool:=V4 x Z4 (Z7 1)==Z9 "@"
abbrev pos:Nat->List ZD->List Nat
 |_,[]=>[]|n,x::a=>if eK x=ZW then n::pos (n+1) a else pos (n+1) a
def CQ:∀(a b:List ZD)(n:Nat),pos n (a++b)=pos n a++pos (n+a.length) b:=by intro a;induction a with|nil=>showλb n=>rfl;|cons x a c=>intro b n;show(?_:(if eK x=ZW then n::pos (n+1) (a++b)else pos (n+1) (a++b))=(if eK x=ZW then n::pos (n+1) a else pos (n+1) a)++_);rw[c,ZO,show n+(a.length+1)=n+1+a.length by show pO];split<;>rfl
abbrev dX:Nat->List Hk->List (Nat×Nat)
 |_,[]=>[]|m,h::H=>(m,m+1+h.rows.length)::dX (m+1+h.rows.length) H
abbrev ik(r:a9):Prop:=lI r/\kh r.2
def H4(y):yI (y++nl)=y:=wE (by show(?_:((y++nl).cps.pop).toList=_);exists Array.toList_pop,YS _ _,YW;show RI)
def ow(h:ik r):∃c d,(dj r).cps.toList=c::d/\r.1=⟨#[c]⟩/\(⟨d.toArray⟩:ZD)++nl=r.2/\10∉(dj r).cps.toList/\(c=45\/c=43\/c=32)/\r.1++r.2=dj r++nl/\(dj r).length<=4:=by
 obtain⟨f,y,e,g,j⟩:=h;revert f e g j;ext r y;have p:∃c,r.1=⟨#[c]⟩/\(c=45\/c=43\/c=32):=by
  rcases f with q|q|q;.show⟨45,q,.inl rfl⟩
  .show⟨43,q,.inr<|.inl rfl⟩
  .show⟨32,q,.inr<|.inr rfl⟩
 obtain⟨c,a,hd⟩:=p;ext c;have b:dj r=⟨#[c]⟩++y:=by unfold dj;exists e,H4 _;show aW a rfl
 have i:(dj r).cps.toList=c::y.cps.toList:=by exists b,YS _ _,YW;rfl
 show⟨c,y.cps.toList,i,a,e.symm,?_,hd,?_,?_⟩
 .exists i;intro q;rcases Z1.mp q with q|q;.show(ak 0x8020683013c3a6404f0e9d013c3ed056f0) hd q
  .show g q
 .exists e;rw[b,a,Y2]
 .exists b,Za _ _;show(?_:1+y.length<=4);omega
def abU(h:ik r):eK (dj r)=ZX:=by obtain⟨c,b,e,_,_,_,a,_⟩:=ow h;unfold eK;exists wt e;rcases a with rfl|rfl|rfl<;>decide
def abm:∀(a:List a9)(n:Nat),(∀r∈a,ik r)->pos n (a.map dj)=[]:=by intro a;induction a with|nil=>showλn h=>rfl;|cons r a b=>intro n h;show(?_:(if eK (dj r)=ZW then _ else pos (n+1) (a.map dj))=_);exists abU<|h r<|.head _,(b _ λx c=>h x<|.tail _ c);rfl
def Ko(h):∃a,(hb h).cps.toList=64::a:=by unfold hb;exists Y2 _ _ _,Y2 _ _ _,Y2 _ _ _,YS _ _,YW;show⟨_,rfl⟩
def Kp(h):eK (hb h)=ZW:=by obtain⟨a,e⟩:=Ko h;unfold eK;exists wt e;decide
def abk:∀(H:List Hk)(n:Nat),(∀h∈H,∀r∈h.rows,ik r)->pos n (H.flatMap cN++[ZP])=(dX n H).map (·.1):=by intro H;induction H with|nil=>showλn _=>rfl;|cons h H b=>
  intro n a;exists Zh,ZA _ _ _,CQ _ _ _;have e:pos n (cN h)=[n]:=by show(?_:(if eK (hb h)=ZW then n::pos (n+1) (h.rows.map dj)else _)=_);exists Kp _,abm _ _<|a h<|.head _;rfl
  have l:(cN h).length=1+h.rows.length:=by unfold cN;exists ZO,Z6 _;show(ak 0x1a8844f889e15)
  rw[e,l,b _ λx c=>a x<|.tail _ c,<-XB];rfl
def abt:∀(H:List Hk)(h:Hk)(m:Nat),((dX m (h::H)).map (·.1)).tail++[m+((h::H).flatMap cN).length]=(dX m (h::H)).map (·.2):=by intro H;induction H with
 |nil=>intro h m;show(?_:[m+(cN h++[]).length]=[m+1+h.rows.length]);exists ZH _;unfold cN;exists ZO,Z6 _;congr 1;show pO;|cons g H a=>intro h m;have p:=a g<|m+1+h.rows.length;show(?_:((dX (m+1+h.rows.length) (g::H)).map (·.1))++[_]=(m+1+h.rows.length)::(dX (m+1+h.rows.length) (g::H)).map (·.2));exists ZJ p;show(?_:(m+1+h.rows.length)::(dX _ H).map (·.1)++[_]=(m+1+h.rows.length)::((dX _ H).map (·.1)++[_]));exists XI;congr 3;exists Zh (x:=h),ZV;unfold cN;exists ZO,Z6 _;show(ai 0x1a88e22889e18c47113c415)
def abq:∀(H:List Hk)(pre:List ZD)(i:Nat)(p:Nat×Nat),(dX pre.length H)[i]?=Z7 p->∃h,H[i]?=Z7 h/\(pre++H.flatMap cN++[ZP])[p.1]?=Z7 (hb h)/\au (pre++H.flatMap cN++[ZP]) (p.1+1) p.2=h.rows.map dj/\p.2<(pre++H.flatMap cN++[ZP]).length/\p.1<p.2:=by intro H;induction H with|nil=>showλpre i p h=>by cases h;|cons h H b=>
  intro pre i p a;revert b a;injections h H pre i p;intro b a;have c:pre++(h::H).flatMap cN++[ZP]=(pre++cN h)++H.flatMap cN++[ZP]:=by simp
  have d:(pre++cN h).length=pre.length+1+h.rows.length:=by unfold cN;simp;show pO
  cases i with|zero=>
   cases a;show⟨h,rfl,?_,?_,?_,by show(?_:pre.length<_);omega⟩;.exists ZA _ _ _,Y9<|ZR _,Wc _;rfl
   .exists c;show(?_:Pq (pre.length+1) (Qw (pre.length+1+h.rows.length) _)=_);exists ZJ d,ZA _ _ _,List.take_left,ZJ Ua,List.drop_left;rfl
   .show(?_:pre.length+1+h.rows.length<_);exists c,ZV,ZV,d;simp;show(ai 0x33113e2188e2278a23889e23);|succ i=>exists c;show b (pre++cN h) i p ?_;exists d;show a
abbrev dg(d:Nat):ZD:=Z9<|toString (d:Int)
abbrev oa(l:List Nat):Nat:=l.foldl (λn c=>n*10+(c-48)) 0
abbrev BE(d:Nat):Bool:=(dg d).cps.toList.all (λc=>V1 48 c&&V1 c 57)&&oa (dg d).cps.toList==d&&V1 (dg d).length 3
def N0:(YY 600).all BE=ZW:=⋯
structure Fg(d:Nat):Prop where
 dig:∀c∈(dg d).cps.toList,48<=c/\c<=57
 val:oa (dg d).cps.toList=d
 len:(dg d).length<=3
def sH(h:d<600):Fg d:=by have p:=Yi.mp N0 d<|XR.mpr h;unfold BE at p;rw[YK,YK]at p;show⟨λc a=>?_,eq_of_beq p.1.2,Yq p.2⟩;have p:=Yi.mp p.1.1 c a;rw[YK]at p;show⟨Yq p.1,Yq p.2⟩
abbrev dJ(o c:Nat):Nat:=if c=0 then o else o+1
def Db(o c:Nat):b8 o c=WJ ⟨#[44]⟩ (dg (dJ o c)::if c=1 then[]else[dg c]):=by
 ext o c;unfold b8 dJ;by_cases h:c=1;·subst h;rfl
 .exists(if_neg<|show¬(c:Int)=1 by show(ak 0x3da13c3ee89e10) h),if_neg h;by_cases a:c=0;·subst a;rfl
  .exists(if_pos<|show(c:Int)≠0 by show(ak 0x3da0bc3ee85e10) a),if_neg a;rfl
def v9{o c:Nat}(d:o<599)(b:c<600)(a:x∈(b8 o c).cps.toList):x=44\/(48<=x/\x<=57):=by
 revert d b a;injections x o c;intro d b a;have e:dJ o c<600:=by unfold dJ;split<;>omega
 rw[Db,nA]at a;rcases ZS.mp a with q|q;.show .inr<|(sH e).dig x q
 .split at q;.cases q
  .rcases Z1.mp (show x∈44::((dg c).cps.toList++[])from q)with q|q;.show .inl q
   .rw[ZH]at q;show .inr<|(sH b).dig x q
def abO{o c:Nat}(g:o<599)(b:c<600):VV (b8 o c) ⟨#[44]⟩=dg (dJ o c)::if c=1 then[]else[dg c]:=by
 ext o c;have e:dJ o c<600:=by unfold dJ;split<;>omega
 have a:∀d,d<600->44∉(dg d).cps.toList:=λd hd q=>by have p:=(sH hd).dig _ q;show(Ar.bA 0x1 0xf7f1a809ed809f86c04f8c04f [] [] ⋯ p).elim
 exists Db _ _;show sZ λy f=>?_;rcases Z1.mp f with q|q;.exists q;show a _ e
 .split at q;.cases q
  .exists ZM.mp q;show a _ b
def Ks(d:h.old<599)(f:cnt "+" h.rows<600)(g:h.new<599)(i:cnt "-" h.rows<600):VV (hb h) ⟨#[32]⟩=[Z9 "@@",Z9 "-"++b8 h.old (cnt "+" h.rows),Z9 "+"++b8 h.new (cnt "-" h.rows),Z9 "@@"]:=by
 have j:Z9 "@@ -"=Z9 "@@"++(⟨#[32]⟩++Z9 "-"):=rfl;have k:Z9 " +"=⟨#[32]⟩++Z9 "+":=rfl;have l:Z9 " @@"=⟨#[32]⟩++Z9 "@@":=rfl;have e:hb h=WJ ⟨#[32]⟩ [Z9 "@@",Z9 "-"++b8 h.old (cnt "+" h.rows),Z9 "+"++b8 h.new (cnt "-" h.rows),Z9 "@@"]:=by unfold hb;exists j,k,l;show(?_:_=Z9 "@@"++⟨#[32]⟩++(Z9 "-"++b8 h.old (cnt "+" h.rows)++⟨#[32]⟩++(Z9 "+"++b8 h.new (cnt "-" h.rows)++⟨#[32]⟩++Z9 "@@")));simp only[Y2]
 have a:∀o c:Nat,o<599->c<600->∀z:Nat,z≠32->32∉((⟨#[z]⟩:ZD)++b8 o c).cps.toList:=λo c m n z p q=>by
  rw[YS,YW]at q;rcases ZS.mp q with q|q;.show p (ZM.mp q).symm
  .have t:=v9 m n q;show(Ar.bA 0x1 0x7840fe35013c3013f01809f1809fa6c04f0c04f [] [] ⋯ t).elim
 exists e;show sZ λy b=>?_;simp only[Z1,Zn,or_false]at b;rcases b with rfl|rfl|rfl|rfl;.decide
 .show a _ _ d f 45 (by decide)
 .show a _ _ g i 43 (by decide)
 .decide
def Lo:(YY 10).all (λi=>Xl (Z9 "0123456789") ⟨#[48+i]⟩ 0 (Z9 "0123456789").length 1==[i])=ZW:=⋯
def Lp(h:48<=c/\c<=57):Xl (Z9 "0123456789") ⟨#[c]⟩ 0 (Z9 "0123456789").length 1=(c-48)::[]:=by have p:=Yi.mp Lo (c-48)<|XR.mpr<|<-(ak 0x3f8d404f0e031809f95be51809e10) h;replace p:=(show 48+(c-48)=c by show(ak 0x3f8d404f0e031809fa0c651809e18c04f0) h)▸p;show eq_of_beq p
abbrev nj(f:ZD->Bool):AV->Option AV
 |.str x=>if f x=ZW then Z7 (.str x)else Z4|_=>Z4
def zz(f)(l:List ZD):(l.map AV.str).filterMap (nj f)=(l.filter f).map .str:=by induction l with|nil=>rfl;|cons x l a=>have e:nj f (.str x)=if f x=ZW then Z7 (.str x)else Z4:=rfl;exists Z3,YI,XV,e;cases f x with|true=>show congrArg (_::·) a;|false=>show a
def xf{p:Vk}{E F}(G:Ok X E F){H:List (ZD×Zw)}{l:List ZD}(f)(C:f0 X e H o g)(M:∀y,Yb (.Name r t) X.env y=pure y)(N:e.names.lookup ("__debug__":ZD)=Z4)(Q:e.names.lookup v=Z7 .local)(s:o.lookup r=Z7 (.lst (l.map .str)))(R:l.length<=Zo)(h:∀Y,Ok Y (λx=>e.names.lookup x) aY->Y.A=X.A->(∀x,e.names.lookup x=Z7 .globalImplicit->Y.env.kindOf x=Z7 .globalImplicit)->∀x m,Ts Y ((v,.str x)::g) m d λb u=>b=f x/\u=m)(S:k (.lst ((l.filter f).map .str)) O):Ev X o O (.ListComp (.Name v I) [⟨.Name v J,.Name r t,[d],0⟩] e p) k:=by show qz (nj f) C M<|It.lst<|aj G s ⟨_,rfl,by exists Z6 _;show R,λY n i V m c=>?_,by exists zz _ _;show S⟩;have j:=n.ok C.cell N;rw[ZQ]at c;cases w:l[i]? with|none=>rw[w]at c;cases c;|some x=>
  rw[w]at c;cases c;show Tg.down<|.name (n.bd Q) ⟨_,(Sub.refl _).cons _ _,(h Y j n.2.1 (λx s=>n.glob s) x m).mono λb u z=>aE z λA U=>?_⟩;have D:nj f (.str x)=if f x=ZW then Z7 (.str x)else Z4:=rfl;show⟨U,λz=>aj j (a:=.str x) (by exists ZG;show aW (beq_self_eq_true _) rfl) ⟨rfl,?_⟩,λz=>?_⟩;.exists D,ZJ A,z;rfl
  .exists D,ZJ A,z;rfl
structure fe(pop:List ZD)(P:fD):Prop where
 no:P.g.filter (λx=>aP P.c x&&!aP pop x)=[]ne:∀x y g c,P.g=x::g->P.c=y::c->x≠y/\(P.k≠[]->(x::g).getLast?≠(y::c).getLast?)ol:P.g++P.c≠[]->P.k≠[]->P.k.filter (λx=>!aP pop x)≠[]
abbrev ko(c:List (ZD×ZD))(e:List ZD)(a d:Nat)(b:List fD):Loc:=[(Z9 "most",.int d),(Z9 "parts",.lst<|b.map jk),(Z9 "longest",.int a),(Z9 "popular",.lst<|e.map .str),(Z9 "rows",.lst<|aU c)]
abbrev mT(P:fD)(a:Loc):Loc:=(Z9 "kept",.lst<|P.k.map .str)::(Z9 "comes",.lst<|P.c.map .str)::(Z9 "goes",.lst<|P.g.map .str)::a
def lZ(z:(!(l.map AV.str).isEmpty)=ZW):l≠[]:=by rintro rfl;cases z
def Fy{K:Kn}{c:cW Y (i.map (·.1))}(C:Callee X Y (Z9 "_law_apart") (aw eV) 309 (.ref 308))(l:Y.A.units<Xo)(m:P.g.length<=2000)(o:fe b P)(h:K.nx (mT P (ko e b a f d)) O):Es (Y.holds i c) (mT P (ko e b a f d)) O (aT (bW (aT (aA eV) 2)) 0) K:=by
 ext Y X b P e a f d O i K;have j:=(C.ok ⋯).holds (hs:=i) (c:=c);have r:(2001:Nat)<=Zo:=by exists Zx;decide
 show Es.ite<|Ts.to ZX (bL j (n:=8) ?_) ⟨λz=>(nF z),λ_=>Ex.nil h⟩;show stM<|xf j (λx=>aP P.c x&&!aP b x) (eA (b9:=[(Z9 "comes",.lst<|P.c.map .str),(Z9 "popular",.lst<|b.map .str)]) C dk rfl dk dk ?_).holds (λy=>rfl) ⋯ ⋯ rfl (ZY (X5 m) r) (λs g _ _ x t=>?_) ?_;.intro p k;simp only[Z1,Zn,or_false]at k;rcases k with rfl|rfl<;>show⟨rfl,⋯⟩
 .rename_i u v;clear u v;revert g;ext s x t;show bL g (n:=8) ?_;show stM<|EC .lst ?_;show ZK (λz=>?_) λz=>?_
  .have z:aP P.c x=ZW:=z;show stM<|qu .lst ?_;show ZK (λw=>?_) λw=>?_;.have w:(!aP b x)=ZW:=w;show⟨by exists z,w;rfl,rfl⟩
   .have w:(!aP b x)=ZX:=w;show⟨by exists z,w;rfl,rfl⟩
  .have z:aP P.c x=ZX:=z;show⟨by exists z;rfl,rfl⟩
 .exists o.no;show stM<|dq<|.nil ⟨ZZ _,?_⟩;show stM<|jw l .lst .lst ⟨rfl,rfl⟩
def FB{K:Kn}{c:cW Y (g.map (·.1))}(C:Callee X Y (Z9 "_law_apart") (aw eV) 309 (.ref 308))(i:Y.A.units<Xo)(m:P.g.length<=2000)(o:P.c.length<=2000)(r:P.k.length<=2000)(s:fe b P)(h:K.nx (mT P (ko e b a f d)) O):Es (Y.holds g c) (mT P (ko e b a f d)) O (aT (bW (aT (aA eV) 2)) 2) K:=by
 ext Y X b P e a f d O g K;have k:=(C.ok ⋯).holds (hs:=g) (c:=c);have l:(4000:Nat)<=Zo:=by exists Zx;decide
 show Es.ite<|Ts.to ZX (bL k (n:=8) ?_) ⟨λz=>(nF z),λ_=>Ex.nil h⟩;show stM<|lq .lst .lst (by exists Z6 _,Z6 _;show(ai 0x188c3f013c388c3f013c581861e811f81c4414) m o l) ?_;show stM<|dq<|.nil ⟨ZZ _,?_⟩;exists ZJ ZF;show stM<|jw i .lst .lst ⟨λz=>?_,λ_=>⟨rfl,rfl⟩⟩;have z:=lZ z;show stM<|dq<|.nil ⟨ZZ _,?_⟩;show stM<|jw i .lst .lst ⟨λw=>?_,λ_=>⟨rfl,rfl⟩⟩;have w:=lZ w;show stM<|xf k (λx=>!aP b x) (eA (b9:=[(Z9 "popular",.lst<|b.map .str)]) C dk rfl dk dk ?_).holds (λu=>rfl) ⋯ ⋯ rfl (<-(af 0x6230fc04f0e04187a047e0411) r l) (λv j _ _ x A=>?_) ?_;.intro p t;rcases ZM.mp t with rfl;show⟨rfl,⋯⟩
 .show bL j (n:=8) ?_;show stM<|qu .lst ⟨rfl,rfl⟩
 .show stM<|dq<|.nil ⟨ZZ _,?_⟩;show stM<|ti (ys:=[]) i .lst .lst ⟨λy=>?_,λ_=>⟨rfl,rfl⟩⟩;have y:(P.k.filter (λx=>!aP b x)==[])=ZW:=y;show absurd (eq_of_beq y)<|s.ol z w
def Fz{K:Kn}{c:cW Y (k.map (·.1))}(C:Callee X Y (Z9 "_law_apart") (aw eV) 309 (.ref 308))(m:Y.A.units<Xo)(s:P.g.length<=2000)(t:P.c.length<=2000)(r:fe g P)(h:K.nx (mT P (ko d g a f b)) O):Es (Y.holds k c) (mT P (ko d g a f b)) O (aT (bW (aT (aA eV) 2)) 1) K:=by ext Y X g P d a f b O k K;have j:=(C.ok ⋯).holds (hs:=k) (c:=c);show Es.ite<|Ts.to ZX (bL j (n:=8) ?_) ⟨λz=>(nF z),λ_=>Ex.nil h⟩;show stM<|dq<|.nil ⟨ZZ _,?_⟩;show stM<|jw m .lst .lst ⟨λz=>?_,λ_=>⟨rfl,rfl⟩⟩;have z:=lZ z;show stM<|dq<|.nil ⟨ZZ _,?_⟩;show stM<|jw m .lst .lst ⟨λw=>?_,λ_=>⟨rfl,rfl⟩⟩;have w:=lZ w;obtain⟨G,D,N⟩:=P;cases G with|nil=>show absurd rfl z;|cons x G=>cases D with|nil=>show absurd rfl w;|cons y D=>
  obtain⟨o,i⟩:=r.ne x y G D rfl rfl;show stM<|Ev.to (.str x) (Ev.sub<|aj j rfl<|Ev.int<|Ix.list (x:=.str x) trivial .lst (by decide) (by decide) rfl ⟨rfl,rfl⟩) ?_;show stM<|Ev.to (.str y) (Ev.sub<|aj j rfl<|Ev.int<|Ix.list (x:=.str y) trivial .lst (by decide) (by decide) rfl ⟨rfl,rfl⟩) ?_;have o:(x==y)=ZX:=beq_false_of_ne o;show ZK (λ_=>?_) λq=>absurd (o.symm.trans q)<|by decide
  show stM<|dq<|.nil ⟨ZZ _,?_⟩;show stM<|jw m .lst .lst ⟨λv=>?_,λ_=>ZK (λ_=>ZK (λq=>nF q) λ_=>⟨rfl,rfl⟩) λq=>nF q⟩;have i:=i<|lZ v;have p:∀(u:ZD)(l:List ZD),((u::l).map AV.str).getLast?=Z7 (.str<|(u::l).getLast<|Yv _ _):=λu l=>by exists QJ,Wm<|Yv _ _;rfl
  rw[Wm (Yv _ _),Wm (Yv _ _)]at i;show stM<|Ev.to (.str<|(x::G).getLast<|Yv _ _) (Ev.sub<|aj j rfl<|Ev.un<|Ev.int<|Un.neg<|Ix.last trivial .lst (p x G) ⟨rfl,rfl⟩) ?_;show stM<|Ev.to (.str<|(y::D).getLast<|Yv _ _) (Ev.sub<|aj j rfl<|Ev.un<|Ev.int<|Un.neg<|Ix.last trivial .lst (p y D) ⟨rfl,rfl⟩) ?_;have i:((x::G).getLast (Yv _ _)==(y::D).getLast (Yv _ _))=ZX:=beq_false_of_ne λe=>i<|congrArg Z7 e;show ZK (λq=>absurd (i.symm.trans q)<|by decide) λ_=>ZK (λ_=>ZK (λq=>nF q) λ_=>⟨rfl,rfl⟩) λq=>nF q
def Gz(P):(ar P).get? 309=Z7 vO:=⋯
def Gy(P):(ar P).get? 308=Z7 Ci:=⋯
abbrev gG(S:ZD->Bool)(a:List (ZD×ZD)):fX:=a.foldl (bw S) ⟨0,0,[],⟨[],[],[]⟩⟩
def tQ(S)(a)(x):gG S (a++[x])=bw S (gG S a) x:=by unfold gG;exists YU;rfl
structure PB(n:Nat)(P:fD):Prop where
 g:P.g.length<=n
 c:P.c.length<=n
 k:P.k.length<=n
def PB.up(h:PB n P)(e:n<=m):PB m P:=⟨ZY h.g e,ZY h.c e,ZY h.k e⟩
structure qr(n:Nat)(st:fX):Prop where
 d:st.done.length<=n
 cur:PB n st.cur
 done:∀P∈st.done,PB n P
def PB.add(h:PB n P)(r):PB (n+1) (iV P r):=by
 obtain⟨b,c,d⟩:=h;have one:∀{l:List ZD}(x:ZD),l.length<=n->(l++[x]).length<=n+1:=λx e=>by exists ZV;show Ws e
 have a:∀{l:List ZD},l.length<=n->l.length<=n+1:=X5;unfold iV;split;.show⟨one _ b,a c,a d⟩
 .split;.show⟨a b,one _ c,a d⟩
  .show⟨a b,a c,one _ d⟩
def qr.step(h:qr n c)(r):qr (n+1) (bw S c r):=by
 obtain⟨d,e,f⟩:=h;have a:PB n ⟨[],[],[]⟩:=⟨ZZ _,ZZ _,ZZ _⟩;unfold bw fE;split
 .show⟨by exists ZV;show Ws d,a.add r,λP b=>?_⟩;rcases ZS.mp b with q|q;.show(f P q).up<|Wn _
  .exists ZM.mp q;show e.up<|Wn _
 .show⟨X5 d,e.add r,λP b=>(f P b).up<|Wn _⟩
def xT(S)(a:List (ZD×ZD)):∀i,qr i (gG S (a.take i)):=by intro i;induction i with|zero=>show⟨ZZ _,⟨ZZ _,ZZ _,ZZ _⟩,λP h=>nM h⟩;|succ i b=>exists Zc;cases a[i]? with|none=>exists Option.toList_none _,ZH _;show⟨X5 b.d,b.cur.up<|Wn _,λP h=>(b.done P h).up<|Wn _⟩;|some r=>exists Ys _,tQ _ _ _;show b.step r
structure xJ(pop:List ZD)(MK:Nat)(rows:List (ZD×ZD)):Prop where
 ad4:∀P∈(gG (λx=>!aP pop x) rows).done++[(gG (λx=>!aP pop x) rows).cur],fe pop P
 most:(gG (λx=>!aP pop x) rows).most=MK
 pm:Sy (VL ZP (rows.map (·.1))) (Z9 "+-")=false
abbrev zB:AV->Option AV
 |.tup [.str a,.str b]=>Z7 (.str a)|_=>Z4
def Jv(h):(aU h).filterMap zB=(h.map (·.1)).map .str:=by induction h with|nil=>rfl;|cons r h a=>show congrArg (AV.str r.1::·) a
def vQ:Z9 ""=ZP:=rfl
def AA{B:Nat}(b:∀y∈a,y.length<=B)(h:a.length*B<=16777216):JoinOk ZP a=ZW:=by unfold JoinOk;rw[StrLaws.joinFits b (by show(?_:_+_*0<=_);rw[Nat.mul_zero];show h)];rfl
def Es.pre{K:Kn}(c:Cv X d O a e)(h:Es X a e b K):Es X d O b K:=λE s F=>by show aE (c s F) λg i=>?_;show wm (h _ s g) λfl f x=>.from i x
def FK(t:X.A.depth<ZU)(Q:X.A.units+3<Xo)(v:a.length<=1500)(S:∀r∈a,lI r)(R:xJ f b a)(hk:k (.bool ZW) O):ax X N O (.ref 309) [.lst (aU a),.lst (f.map .str),.int b] k:=by
 ext a f b k X N O;show ax.def (name:=Z9 "_law_apart") (params:=cY eV) (body:=aA eV) (scope:=aw eV) (pm:=_) (ca:=308) (doc:=_) (ns:=[Z9 "rows",Z9 "popular",Z9 "longest"]) t (Gz _) rfl (Gy _) rfl rfl (λvs h=>?_) dk dk dk rfl rfl rfl λY C=>?_;.show rY h λm m m=>rfl
 ext Y;have w:=C.ok ⋯;have G:Y.A.units<Xo:=by exists C.depth.2;show Q
 have H:(2001:Nat)<=Zo:=by exists Zx;decide
 show@Callee.run _ _ _ _ _ _ _ _ _ C ⋯ _ (λL eL=>?_);ext L;show stM<|Ev.list<|.cons rfl ?_;show Ev.tuple<|.cons rfl<|Ev.list<|.nil ⟨ZZ _,λg hg=>?_⟩;show .cons rfl<|Ev.list<|.nil ⟨ZZ _,λc hc=>?_⟩;show .cons rfl<|Ev.list<|.nil ⟨ZZ _,λd hd=>?_⟩;show .nil ⟨ZY (show 3<=2001 by decide) H,?_⟩;show .nil ⟨ZY (show 1<=2001 by decide) H,λp hp=>?_⟩;show stM<|Es.down<|Es.pre (Cv.perm<|WI (l₁:=[(p,az.list [AV.tup [.ref g,.ref c,.ref d]])]) (l₂:=[(d,.list []),(c,.list []),(g,.list [])]))<|d5 (λm=>rfl)<|ch.lst<|aj w rfl<|nw _ rfl (λi o u=>∃A,mA p A/\u=d7 p A (gG (λx=>!aP f x)<|a.take i).done (gG (λx=>!aP f x)<|a.take i).cur/\Sub (iq p a f b (gG (λx=>!aP f x)<|a.take i).most (gG (λx=>!aP f x)<|a.take i).size) o) ⟨⟨g,c,d⟩,?_,rfl,a0.ok ⋯⟩ (λm m m m=>trivial) ?_ ?_
 .have n2:c≠g:=by simpa using hc
  have U:d≠c/\d≠g:=by simpa using hd
  have I:p≠d/\p≠c/\p≠g:=by simpa using hp
  show⟨I.2.2.symm,I.2.1.symm,I.1.symm,n2.symm,U.2.symm,U.1.symm⟩
 .rintro i V o u hs cc l⟨A,W,rfl,j⟩;obtain⟨r,s,rfl⟩:=wd l;have E:i<a.length:=(Zv.mp s).1;have B:=xT (λx=>!aP f x) a i;show Tg.ex w.holds ?_;show Ex.sub (Sub.cc (Sub.cc j _ _) _ _)<|FJ C Q W (by have:=B.d;show si v E this) (by have:=B.cur.g;show si v E this) (by have:=B.cur.c;show si v E this) (by have:=B.cur.k;show si v E this) (S r<|YV s) λA' Z J h'=>⟨A',J,?_,?_⟩;.exists Zc;rw[s,Ys,tQ]
  .exists Zc,s,Ys _,tQ _ _ _;show h'
 .rintro o u⟨A,W,rfl,j⟩;rw[eS,YQ]at*;have B:=xT (λx=>!aP f x) a a.length;rw[YQ]at B;obtain⟨R1,R2,R3⟩:=R;generalize gG (λx=>!aP f x) a=st at*;show ae _ j ?_;have e:(st.done++[st.cur]).map jk=st.done.map jk++[jk st.cur]:=ZF;show stM<|Es.down<|Es.pre (xV.trans<|j7.trans<|Cv.sub (ρ':=ko a f b st.most<|st.done++[st.cur]) ?_)<|d5 (λm=>rfl)<|ch.lst<|aj w rfl<|nw _ rfl (λi o u=>u=[]/\Sub (ko a f b st.most<|st.done++[st.cur]) o) ⟨rfl,Sub.refl _⟩ (λm m m m=>trivial) ?_ ?_;.unfold ia iq;simp only[Z3,Y4,mt,mr,ms,mu,if_true];show f4.ok ⟨ae _ rfl rfl,ae _ rfl<|congrArg AV.lst e.symm,ae _ rfl rfl,ae _ rfl rfl,ae _ rfl rfl,trivial⟩
  .rintro i V o u hs cc l⟨rfl,j⟩;rw[ZQ]at l;cases s:(st.done++[st.cur])[i]? with|none=>rw[s]at l;cases l;|some P=>
    rw[s]at l;cases l;have F:=YV s;have M:=R1 P F;have hb:PB a.length P:=by
     rcases ZS.mp F with q|q;.show B.done P q
     .exists ZM.mp q;show B.cur
    have hb:=hb.up (show a.length<=2000 by show(ak 0xc760f809e1c461f809e10) v);show Tg.ex w.holds ?_;show Ex.sub (Sub.cc (Sub.cc (Sub.cc j _ _) _ _) _ _)<|Ex.cons<|Fy C G hb.g M<|Ex.cons<|Fz C G hb.g hb.c M<|Ex.cons<|FB C G hb.g hb.c hb.k M<|Ex.nil ⟨rfl,a0.ok ⋯⟩
  .rintro o u⟨rfl,j⟩;show ae _ j ?_;show stM<|Ev.and<|be w (n:=8) ?_;show Tr.bool ⟨λz=>absurd z (by exists R2;simp),λ_=>?_⟩;show Ev.cmp rfl<|Ev.str<|Ev.sm Se Sd rfl rfl (by decide) rfl<|Ev.str ⟨_,rfl,.cons rfl<|oU w zB (eA (b9:=[]) C dk rfl dk dk λm h=>nM h) (λm=>rfl) ⋯ rfl (by exists eS _;show(af 0x63b07c04f0e05287e027e0411) v H) (λY' KY D V l Oc=>?_) ?_⟩;.show cu l λr hr'=>?_;show Tg.ex D ?_;show⟨rfl,λm=>be D (n:=5) ⟨rfl,rfl⟩,λz=>nT z⟩
   .exists Jv _,vQ;show .nil<|ax.join .lst ?_<|EE ?_;.show AA (B:=1) (λy hy=>?_) (by exists Z6 _;omega);obtain⟨r,F,rfl⟩:=Z0.mp hy;rcases S r F with q|q|q<;>rw[q]<;>decide
    .exists R3;show ae _ (.inl rfl) hk
def vV(l)(a)(b:0<=a):eN l (Z7 a) Z4 Z4=l.drop a.toNat:=by
 have e:eN l (Z7 a) Z4 Z4=eN l (Z7 a) (Z7 (l.length:Int)) Z4:=by have c:¬(l.length:Int)<0:=<-(ak 0x1ee05e13);have d:max 0 (min (l.length:Int) (l.length:Int))=l.length:=<-(ak 0xe86b40842f3);unfold eN Xn;simp[c]
 exists e,pick_run _ _ _ b<|Yy _,Zm _;show aW YQ rfl
def abb(l):eN l Z4 Z4 Z4=l:=by
 have e:eN l Z4 Z4 Z4=eN l (Z7 0) Z4 Z4:=by have a:max (0:Int) (min 0 (l.length:Int))=0:=<-(ak 0x3a17d6810bc2f0);unfold eN Xn;simp[a]
 exists e,(vV _ _<|by decide);rfl
abbrev om(P first:List ZD)(r:Zw)(a:Nat):Loc:=[(Z9 "here",.int a),(Z9 "rows",.ref r),(Z9 "parts",.lst<|P.map .str),(Z9 "first",.lst<|first.map .str)]
abbrev oq(P first:List ZD)(r:Zw)(b i e:Nat)(a:List (ZD×ZD)):Loc:=(Z9 "olds",.int<|cnt "+" a)::(Z9 "body",.lst<|aU a)::(Z9 "end",.int e)::(Z9 "k",.int i)::om P first r b
abbrev lc:List YR:=bW<|aT (aA gy) 4
def abA{K:Kn}{c:cW Y (m.map (·.1))}(C:Callee X Y (Z9 "_law_read") (aw gy) 280 (.ref 279))(p:h.old<599)(s:cnt "+" h.rows<600)(A:h.new<599)(D:cnt "-" h.rows<600)(E:P[i]?=Z7 (hb h))(F:i<10000)(G:∀f,Sub ((Z9 "start",.int (dJ h.old (cnt "+" h.rows):Nat))::oq P first r b i e h.rows) f->K.nx f O):Es (Y.holds m c) ((Z9 "start",.int 0)::oq P first r b i e h.rows) O (aT lc 3) K:=by
 ext Y X P i h first r b e O m K;have u:=(C.ok ⋯).holds (hs:=m) (c:=c);show aq C.env λL v n=>?_;have H:(Y.holds m c).env=_:=v;have o:(10^5:Nat)<=Zo:=by exists Zx;decide
 have I:dJ h.old (cnt "+" h.rows)<600:=by unfold dJ;split<;>omega
 have N:=sH I;have g:=k8 (i:=h.old) (j:=cnt "+" h.rows) (<-cf) (<-(af 0x19c426f0e04187a047f0411) p gl) (<-cf) (<-(af 0x19cc26f0e04187a047f0411) s gl);have w:=k8 (i:=h.new) (j:=cnt "-" h.rows) (<-cf) (<-(af 0x19c426f0e04187a047f0411) A gl) (<-cf) (<-(af 0x19cc26f0e04187a047f0411) D gl);have J:(hb h).length<=100:=by unfold hb;simp only[Za];show(af 0x18fbc38fbc582c08f891f11446f884af1) g w
 show d5 (λn=>rfl)<|E1<|Ev.to (.str<|dg<|dJ h.old<|cnt "+" h.rows) (Ev.sub<|Ev.sm Xe U2 rfl rfl (by decide) rfl<|Ev.to (.str<|b8 h.old<|cnt "+" h.rows) ?_ ?_) ⟨_,rfl,?_,?_⟩
 .show qC<|Ev.sub<|Ev.sm Xe U2 rfl rfl (by decide) rfl ?_;show Ev.sub<|aj u rfl<|aj u rfl<|Ix.list (x:=.str<|hb h) trivial .lst (<-cf) (<-(ai 0xc8c3814430f408f1f0411) F (by decide:(10000+4000:Nat)<=9223372036854775808)) (by exists Zm _,ZQ,E;rfl) ?_;have M:V4 (Z9 "-"++b8 h.old (cnt "+" h.rows)) (Z7 1) Z4=b8 h.old (cnt "+" h.rows):=by show aW (DD (c:=45) (cs:=(b8 h.old<|cnt "+" h.rows).cps.toList) (by exists YS _ _,YW;rfl)) rfl
  show⟨_,rfl,.cons rfl<|.str<|.nil<|ax.split (by decide) (Ks p s A D) (<-(ai 0xc08782c08f0e06187a047e0414) o J gj) (ZY (show 4<=10^5 by decide) o) ?_⟩;show Ev.int<|Ix.list (x:=.str<|Z9 "-"++b8 h.old (cnt "+" h.rows)) trivial .lst (by decide) (by decide) rfl ?_;show Ev.int ⟨1,rfl,⟨_,rfl,by exists Za _ _;show ZY (show 1+_<=10^5 by show(af 0x31f787020c3d023f028844f1) g gj) o,⟨congrArg AV.str M,rfl⟩⟩⟩
 .show⟨_,rfl,.cons rfl<|.str<|.nil<|ax.split (by decide) (abO p s) (<-(ai 0x3021e3ef0e06187a047e0414) o g gj) ?_ ?_⟩;.show ZY ?_ o;split<;>show Yq rfl
  show Ev.int<|Ix.list (x:=.str<|dg<|dJ h.old<|cnt "+" h.rows) trivial .lst (by decide) (by decide) rfl ⟨rfl,rfl⟩
 .exists ZJ Array.all_toList;show Yi.mpr λx l=>decide_eq_true (by have U:=(N.dig x l).2;show(ak 0xc6a0278721815e10) U)
 show⟨λt f y=>y=O/\Sub ((Z9 "start",.int (oa ((dg<|dJ h.old<|cnt "+" h.rows).cps.toList.take t):Nat))::oq P first r b i e h.rows) f,⟨rfl,Sub.refl _⟩,λn n n n=>trivial,?_,?_⟩;.rintro t S f y z Q a⟨rfl,d⟩;replace a:=ZQ▸a;cases l:(dg<|dJ h.old<|cnt "+" h.rows).cps.toList[t]? with|none=>replace a:=l▸a;cases a;|some x=>
   replace a:=l▸a;cases a;have hd:=N.dig x<|YV l;have k:=u.holds (hs:=z) (c:=Q);show Tg.ex k ?_;show Ex.sub (d.cc _ _)<|run k H ?_;show stM<|Bn.mul (IntMulOk.of_right<|by decide) ?_;show stM<|Ev.to _ (Ev.sm Sx Sw rfl rfl (by decide) rfl<|Ev.str ⟨_,rfl,.cons rfl<|aj k rfl<|.nil<|w9 (Lp hd) ⟨rfl,rfl⟩⟩) ?_;have R:(oa ((dg<|dJ h.old<|cnt "+" h.rows).cps.toList.take t):Int)*10+((x-48:Nat):Int)=(oa ((dg<|dJ h.old<|cnt "+" h.rows).cps.toList.take<|t+1):Nat):=by exists Zc,l;unfold oa;exists Ys _,YU;rfl
   show⟨rfl,f4.ok ⟨ae _ rfl<|congrArg AV.int R,ae _ rfl rfl,ae _ rfl rfl,ae _ rfl rfl,ae _ rfl rfl,ae _ rfl rfl,ae _ rfl rfl,ae _ rfl rfl,ae _ rfl rfl,trivial⟩⟩
 .rintro f y⟨rfl,d⟩;rw[Z6,YQ,N.val]at d;show G _ d
structure mO(a b:List ZD)(n:Nat):Prop where
 ha:a.length<=1100
 hb:b.length<=1000
 Aj:∀x∈a,x.length<=100
 Ak:∀x∈b,x.length<=100
 hs:(bF a b).Pairwise λa b=>a.i<b.i
 zM:(bF a b).length<64
 z5:(cF a b).length<=400
 hc:bH a b≠[]z6:∀g∈cy n (bH a b),∃f l,f2 g f l
 hz:(eB a b (cy n (bH a b))).length<=Zo
@[reducible]abbrev jr(l:List ZD):AV:=.lst<|l.map .str
def x9(P):(ar P).get? 254=Z7 sJ:=⋯
def Ev.all{a c d:Vk}{e f}(g:Ok X e f)(h:b.lookup x=Z7 (.lst l))(i:l.length<=Zo)(j:k (.lst l) O):Ev X b O (.Subscript (.Name x c) (.Slice Z4 Z4 Z4 d) a) k:=by show Ev.slice<|aj g h ⟨l,.lst,by decide,i,?_⟩;exists abb _;show j
def ET{G j m p r N t u w C:Vk}{S V}(H:Ok Y S V)(W:i.lookup x=Z7 (jr a))(X:i.lookup y=Z7 (jr b))(Z:Ld Y (Z9 "list") (.type "list"))(hU:Ld Y (Z9 "unified_diff") (.ref 261))(hG:Y.G=U4)(d:Y.A.depth+8<ZU)(hu:Y.A.units+17<Xo)(U:mO a b 3)(hk:k (.lst (eB a b (cy 3 (bH a b)))) O):Ev Y i O (.Call (.Name (Z9 "list") G) [.Call (.Name (Z9 "unified_diff") j) [.Subscript (.Name x m) (.Slice Z4 Z4 Z4 t) u,.Subscript (.Name y p) (.Slice Z4 Z4 Z4 w) C] [] r] [] N) k:=by revert H W X Z hU hG d hu U hk;revert Y i O k G j m p r N t u w C S V a b x y;injections Y a b k i O x y G j;injections m p r N t u w C S V;intro H W X Z hU hG d hu U hk;show(λE s F=>by
 have sl:(1100:Nat)<=Zo:=by exists Zx;decide
 show Yu<|Z E s G _ F.base<|callWith_type1 ?_ rfl rfl;show(?_:ZE _ _ (spliced ((ZX,eval (.Call (.Name (Z9 "unified_diff") j) [.Subscript (.Name x m) (.Slice Z4 Z4 Z4 t) u,.Subscript (.Name y p) (.Slice Z4 Z4 Z4 w) C] [] r) Y.env)::[])) _ _ _);show Vv<|XT (Q:=λv c=>ZE (model pw Y.w) Y.A (call (.type "list") [v]) (bP Y i O s k) E c) ?_ (λv c z=>Vf z) λu' u' x=>x;have D:bm Y i O [.Subscript (.Name x m) (.Slice Z4 Z4 Z4 t) u,.Subscript (.Name y p) (.Slice Z4 Z4 Z4 w) C] λl g=>l=[jr a,jr b]/\g=O:=.cons rfl<|Ev.all H W (by exists Z6 _;show ZY U.ha sl)<|.cons rfl<|Ev.all H X (by exists Z6 _;show ZY (ZY U.hb<|by decide) sl)<|.nil ⟨rfl,rfl⟩;show Yu<|hU E s j _ F.base<|callWith_def (o:=iK) (fd:=fdOf iK) rfl (wm (D _ s r F) λvs c z=>ga z λl g e f h z=>aE z λe1 I=>⟨e.base _ _ ⋯,?_⟩) rfl;have I:=I.symm;subst e1 I;obtain@⟨J,M,ra,rb⟩:=h.i2;rename_i q0;clear q0;revert F sl D e f I ra rb z h;ext E s c J M;have R:aD (aa Y O) c.heap [J,M,.str (Z9 "") 603,.str (Z9 "") 604,.str (Z9 "") 605,.str (Z9 "") 606,.int 3 607,.str (Z9 "\n") 608] (qo a b 3):=.cons ra<|.cons rb<|.cons (.str _ _)<|.cons (.str _ _)<|.cons (.str _ _)<|.cons (.str _ _)<|.cons (.int _ _)<|.cons (.str _ _) .nil;show wm (Ed (n:=3) (k:=k) (ps:=[J,M]) (kw:=[]) hG e R (λA Q E q=>VR (fd:=fdOf iK) (args:=⟨[J,M],[]⟩) (T:=254) (o:=sJ) rfl (e.base _ _<|x9 _) rfl rfl rfl _ _ _ _ q) d hu U.ha U.hb U.Aj U.Ak U.hs U.zM U.z5 U.hc U.z6 U.hz hk) λv eo z=>wm z λv jX z=>?_;show ba z ?_;clear z;intro a' O F' jo r' fh;show⟨a',O,F',am.trans f jo,r',fh⟩)
def EU{X N w H C p6 I Z r D J M:Vk}{kd gt}(S:Ok Y kd gt){n:Nat}(h1:m.lookup x=Z7 (jr a))(h2:m.lookup y=Z7 (jr b))(h3:m.lookup z=Z7 (.int n))(hL:Ld Y (Z9 "list") (.type "list"))(hU:Ld Y (Z9 "unified_diff") (.ref 261))(hG:Y.G=U4)(f:Y.A.depth+8<ZU)(hu:Y.A.units+17<Xo)(U:mO a b n)(V:k (.lst (eB a b (cy n (bH a b)))) O):Ev Y m O (.Call (.Name (Z9 "list") X) [.Call (.Name (Z9 "unified_diff") N) [.Subscript (.Name x w) (.Slice Z4 Z4 Z4 r) D,.Subscript (.Name y H) (.Slice Z4 Z4 Z4 J) M] [⟨Z7 (Z9 "n"),.Name z I,Z⟩] C] [] p6) k:=by
 intro E s F;revert S h1 h2 h3 hL hU hG f hu U V F;revert Y m O k X N w H C p6 I Z r D J M kd gt a b n x y z E s;injections Y a b k m O x y z X N w H;injections C p6 I Z r D J M kd gt n E s;intro S h1 h2 h3 hL hU hG f hu U V F;have sl:(1100:Nat)<=Zo:=by exists Zx;decide
 show Yu<|hL E s X _ F.base<|callWith_type1 ?_ rfl rfl;show(?_:ZE _ _ (spliced ((ZX,eval (.Call (.Name (Z9 "unified_diff") N) [.Subscript (.Name x w) (.Slice Z4 Z4 Z4 r) D,.Subscript (.Name y H) (.Slice Z4 Z4 Z4 J) M] [⟨Z7<|Z9 "n",.Name z I,Z⟩] C) Y.env)::[])) _ _ _);show Vv<|XT (Q:=λv e=>ZE (model pw Y.w) Y.A (call (.type "list") [v]) (bP Y m O s k) E e) ?_ (λv e z=>Vf z) λu' u' x=>x;have K9:∀(m O)(k:AV->ag->Prop),m.lookup x=Z7 (jr a)->k (jr a) O->Ev Y m O (.Subscript (.Name x w) (.Slice Z4 Z4 Z4 r) D) k:=λm O k h V=>Ev.all S h (by exists Z6 _;show ZY U.ha sl) V;have KD:bm Y m O [.Subscript (.Name x w) (.Slice Z4 Z4 Z4 r) D,.Subscript (.Name y H) (.Slice Z4 Z4 Z4 J) M] λl d=>l=[jr a,jr b]/\d=O:=.cons rfl<|K9 _ _ _ h1<|.cons rfl<|Ev.all S h2 (by exists Z6 _;show ZY (ZY U.hb<|by decide) sl)<|.nil ⟨rfl,rfl⟩;have KC:Ev Y m O (.Name z I) λc d=>c=.int n/\d=O:=aj S h3 ⟨rfl,rfl⟩;show wpAny_Call_Name_kw<|hU E s N _ F.base<|callWith_def_kw (o:=iK) (fd:=fdOf iK) rfl ?_;show(?_:ZE _ _ (evalArgs (.ref 261) ZW ((ZX,eval (.Subscript (.Name x w) (.Slice Z4 Z4 Z4 r) D) Y.env)::WR C (Yd [.Subscript (.Name y H) (.Slice Z4 Z4 Z4 J) M] Y.env)) [(Z7<|Z9 "n",do let v<-eval (.Name z I) Y.env;W1 C;pure v)]) _ _ _);show evalArgs_kw rfl<|wm (KD _ s C F) λvs e z=>ga z λl d W G i z=>aE z λe1 t=>?_;rename_i q0;clear q0;ext vs e l d;have t:=t.symm;subst e1 t;show wpAny_evalAll_cons<|Z8<|wm (KC _ e W) λvn p z=>ba z λc ki j g u z=>aE z λe1 t=>Z8<|YO<|Z5<|wpAny_evalAll_nil ⟨j.base _ _ ⋯,?_⟩;have t:=t.symm;subst e1 t;have i:=i.move g;obtain@⟨v1,v2,ra,rb⟩:=i.i2;rename_i q0 r;clear q0 r;revert j g t u z ra rb i;ext vn p v1 v2;have R:aD (aa Y O) p.heap [v1,v2,.str (Z9 "") 603,.str (Z9 "") 604,.str (Z9 "") 605,.str (Z9 "") 606,vn,.str (Z9 "\n") 608] (qo a b n):=.cons ra<|.cons rb<|.cons (.str _ _)<|.cons (.str _ _)<|.cons (.str _ _)<|.cons (.str _ _)<|.cons u<|.cons (.str _ _) .nil;show wm (Ed (n:=n) (k:=k) (ps:=[v1,v2]) (kw:=[(Z9 "n",vn)]) hG j R (λA Q E q=>VR (fd:=fdOf iK) (args:=⟨[v1,v2],[(Z9 "n",vn)]⟩) (T:=254) (o:=sJ) rfl (j.base _ _<|x9 _) rfl rfl rfl _ _ _ _ q) f hu U.ha U.hb U.Aj U.Ak U.hs U.zM U.z5 U.hc U.z6 U.hz V) λv p z=>wm z λv jX z=>?_;show ba z ?_;clear z;intro a' d F' jo r' fh;show⟨a',d,F',am.trans (am.trans G g) jo,r',fh⟩
abbrev iH(a:List ZD)(k:Bk):List a9:=(au a k.i<|k.i+k.m).map (Z9 " ",·)
abbrev dY(a b:List ZD):Nat->Nat->List Bk->List a9
 |i,j,[]=>bJ a b i a.length j b.length|i,j,k::l=>bJ a b i k.i j k.j++(iH a k++dY a b (k.i+k.m) (k.j+k.m) l)
def abW:∀(l:List Bk)(i j:Nat),(ej i j (l++[eF a b])).flatMap (a6 a b)=dY a b i j l:=by intro l;induction l with|nil=>intro i j;show(?_:(dE i j (eF a b)++[]).flatMap (a6 a b)=_);exists ZH _,vS _ _ _;show(?_:_++(au a a.length<|a.length+0).map _=_);exists WD _,hZ<|ZR _,Y4,ZH _;rfl;|cons k l c=>intro i j;show(?_:(dE i j k++ej (k.i+k.m) (k.j+k.m) (l++[eF a b])).flatMap (a6 a b)=_);exists WT;rw[vS,c,ZA];rfl
def sU(h:i<=j)(a:j<=k):au l i j++au l j k=au l i k:=by
 unfold au;have e:l.take j=(l.take k).take j:=by exists PF;show aW (XO a) rfl
 exists e;generalize l.take k=m;by_cases q:j<=m.length
 .conv=>rhs;rw[<-Yz j m]
  show aW (List.drop_append_of_le_length (by exists Zf,XO q;show h)) rfl
 .exists We<|Qo q,ZH _;show aW (WP<|Qo q) rfl
def Cz(c)(h:(Z9 c !=Z9 "+")=ZW)(l):dD (l.map (Z9 c,·))=l:=by
 unfold dD;rw[Wv.mpr,YE];.show VZ _
 .intro x a;obtain⟨y,_,rfl⟩:=Z0.mp a;show h
def vC(c)(h:(Z9 c !=Z9 "-")=ZW)(l):fr (l.map (Z9 c,·))=l:=by
 unfold fr;rw[Wv.mpr,YE];.show VZ _
 .intro x a;obtain⟨y,_,rfl⟩:=Z0.mp a;show h
def aaN(l:List ZD):dD (l.map (Z9 "+",·))=[]:=by unfold dD;rw[XJ.mpr];rfl;intro x a;obtain⟨y,_,rfl⟩:=Z0.mp a;show(?_:¬(Z9 "+"!=Z9 "+")=ZW);decide
def NQ(l:List ZD):fr (l.map (Z9 "-",·))=[]:=by unfold fr;rw[XJ.mpr];rfl;intro x a;obtain⟨y,_,rfl⟩:=Z0.mp a;show(?_:¬(Z9 "-"!=Z9 "-")=ZW);decide
def vB(x y):fr (x++y)=fr x++fr y:=by unfold fr;exists X0 _ _;show aW ZF rfl
def Cy(i c j d):dD (bJ a b i c j d)=au a i c:=by unfold bJ;rw[sM,Cz _<|by decide,aaN,ZH]
def BA(i d j c):fr (bJ a b i d j c)=au b j c:=by unfold bJ;rw[vB,vC "+"<|by decide,NQ];rfl
def yp:∀(l:List Bk)(i j:Nat),fZ a b S a.length b.length i j l->i<=a.length/\j<=b.length:=by intro l;induction l with|nil=>showλi j h=>⟨h.hi,h.hj⟩;|cons d l c=>intro i j h;have p:=c _ _ h.2.2;show⟨ZY h.1.hi<|ZY (Zp _ _) p.1,ZY h.1.hj<|ZY (Zp _ _) p.2⟩
def ab0:∀(l:List Bk)(i j:Nat),fZ a b S a.length b.length i j l->dD (dY a b i j l)=au a i a.length:=by intro l;induction l with|nil=>showλi j h=>Cy ..;|cons k l e=>intro i j h;obtain⟨g,_,c⟩:=h;have d:=(yp l _ _ c).1;show(?_:dD (bJ a b i k.i j k.j++(iH a k++dY a b (k.i+k.m) (k.j+k.m) l))=_);rw[sM,sM,Cy,e _ _ c];unfold iH;rw[Cz " " (by decide),sU (Zp _ _) d,sU g.hi (ZY (Zp _ _) d)]
def abZ{a b:List ZD}{S:ZD->Bool}:∀(l:List Bk)(i j:Nat),(∀k∈l,Mt a b k)->fZ a b S a.length b.length i j l->fr (dY a b i j l)=au b j b.length:=by intro l;induction l with|nil=>showλi j _ h=>BA ..;|cons k l f=>intro i j d h;obtain⟨g,_,c⟩:=h;have e:=(yp l _ _ c).2;show(?_:fr (bJ a b i k.i j k.j++(iH a k++dY a b (k.i+k.m) (k.j+k.m) l))=_);rw[vB,vB,BA,f _ _ (λx m=>d x<|.tail _ m) c];unfold iH;rw[vC " " (by decide),wj (d k<|.head _).eq,sU (Zp _ _) e,sU g.hj (ZY (Zp _ _) e)]
structure d6(a b:List ZD):Prop where
 ha:a.length<=500
 hb:b.length<=500
 la:∀x∈a,kh x
 lb:∀x∈b,kh x
 ne:0<a.length\/0<b.length
 IV:(bF a b).length<64
abbrev bB(a b:List ZD):List a9:=dY a b 0 0<|bF a b
def ve(h:kh x):x.length<=4:=by obtain⟨y,rfl,_,h⟩:=h;exists Za _ _;show(ak 0x608f0e0af889e10) h
def oh(a b):(∀k∈bF a b,Mt a b k)/\Ch (Gp a b) (bF a b):=by obtain⟨c,d⟩:=aaW (GU (a:=a) (b:=b) (S:=λx=>!a5 b x)) (a.length+1) 0 a.length 0 b.length (ZZ _) (ZZ _) (ZR _)<|ZR _;show⟨λk e=>(c k e).1,d⟩
def sN(a b):fZ a b (λx=>!a5 b x) a.length b.length 0 0 (bF a b):=aaY (a.length+1) 0 a.length 0 b.length (ZZ _) (ZZ _) (ZR _) (ZR _) (<-(ak 0x19889e1905e13)) (.inl ⟨rfl,rfl⟩)
def Hy(a b):bH a b=ej 0 0 (bF a b++[eF a b])/\bB a b=(bH a b).flatMap (a6 a b):=by
 obtain⟨d,e⟩:=oh a b;have c:bH a b=ej 0 0 (bF a b++[eF a b]):=by unfold bH cF;exists Bi e d;rfl
 show⟨c,by exists c,abW _ _ _;rfl⟩
def wi(l):au l 0 l.length=l:=by unfold au;exists YQ;rfl
def wf(a b):dD (bB a b)=a:=(ab0 _ _ _<|sN a b).trans<|wi a
def we(a b):fr (bB a b)=b:=(abZ _ _ _ (oh a b).1<|sN a b).trans<|wi b
def wg(h:x∈au l i j):x∈l:=by unfold au at h;show X2<|X3 h
def yo{r:a9}(h:r∈bJ a b i d j e):lI r/\(r.2∈a\/r.2∈b):=by
 unfold bJ at h;rcases ZS.mp h with h|h;.obtain⟨y,c,rfl⟩:=Z0.mp h;show⟨.inl rfl,.inl<|wg c⟩
 .obtain⟨y,c,rfl⟩:=Z0.mp h;show⟨.inr<|.inl rfl,.inr<|wg c⟩
def abX:∀(l:List Bk)(i j:Nat),∀r∈dY a b i j l,lI r/\(r.2∈a\/r.2∈b):=by intro l;induction l with|nil=>showλi j r h=>yo h;|cons k l c=>
  intro i j r h;rcases ZS.mp h with h|h;.show yo h
  .rcases ZS.mp h with h|h;.obtain⟨y,d,rfl⟩:=Z0.mp h;show⟨.inr<|.inr rfl,.inl<|wg d⟩
   .show c _ _ r h
def d6.row(P:d6 a b)(h:r∈bB a b):ik r:=by obtain⟨c,d⟩:=abX _ _ _ r h;show⟨c,d.elim (P.la _)<|P.lb _⟩
def d6.len(P:d6 a b):(bB a b).length<=1000/\cnt "+" (bB a b)=a.length/\cnt "-" (bB a b)=b.length:=by
 have c:cnt "+" (bB a b)=a.length:=by exists ZJ<|vR _;show aW (wf _ _) rfl
 have d:cnt "-" (bB a b)=b.length:=by
  have:cnt "-" (bB a b)=(fr<|bB a b).length:=by unfold cnt fr;show aW (Z6 _) rfl
  exists this;show aW (we _ _) rfl
 have:=Ml<|bB a b;have:=P.ha;have:=P.hb;show⟨<-(aV 0x1a18b452622410715841e3c561079709881e1d) c d ‹_› ‹_› this,c,d⟩
def d6.ud(P:d6 a b)(n):mO a b n/\eB a b (cy n (bH a b))=(dH (bB a b) n).map .str/\(dH (bB a b) n).length<=2100:=by
 revert P;injections a b n;intro P;obtain⟨f,g⟩:=oh a b;obtain⟨s,c⟩:=Hy a b;obtain⟨C,h,k⟩:=P.len;have l:=P.ha;have m:=P.hb;have d:=P.IV;have o:=P.ne;have i:a.length<=(bB a b).length:=by exists ZJ h;show ku _ _
 have W:mP a b (bB a b).length (bH a b):=by exists s;show adG (<-(ak 0x315841e1c461f809e10) l) (<-(ak 0x315841e1c461f809e10) m) o i g f
 have u:(cF a b).length<=65:=by unfold cF;exists Bi g f,ZV,Y5;show(ak 0x64301bc381406f889e10) d
 have v:(bH a b).length<=3000:=by have:=vT (cF a b) 0 0;unfold bH;omega
 obtain⟨p,w⟩:=HX (n:=n) c W v;have c0:bH a b≠[]:=by intro e;rw[e]at c;have c:bB a b=[]:=c;rw[c]at h k;have y:0=a.length:=h;have z:0=b.length:=k;show((af 0x819105f9085fa085fed082f1) o y z).elim
 have r:(dH (bB a b) n).length<=2100:=by
  unfold dH;have t:=(ub (bB a b) (min n (bB a b).length)<|(bB a b).length+1).told;split;.show ZZ _
  .exists ZV;show(?_:2+_<=_);omega
 have A:(eB a b<|cy n<|bH a b).length<=Zo:=by exists p,Z6 _,Zx;show ZY r (by decide)
 show⟨⟨<-(ak 0x315841e1c3603809e10) l,<-(ak 0xc561078709881e10) m,λx j=>by have:=ve<|P.la x j;show(ak 0x30578705811e10) this,λx j=>by have:=ve<|P.lb x j;show(ak 0x30578705811e10) this,g.pair f,d,<-(ak 0xc0a0378711835e10) u,c0,w,A⟩,p,r⟩
def Ho{a b:List ZD}{S:ZD->Bool}{I J:Nat}:∀(l:List Bk)(i j:Nat),fZ a b S I J i j l->∀k∈l,(∃t,t<k.m/\S (a.getD (k.i+t) ZP)=ZW)\/(k.i=0/\k.j=0):=by intro l;induction l with|nil=>showλi j _ k h=>nM h;|cons d l e=>
  intro i j h k c;rcases Z1.mp c with rfl|c;.show h.2.1.ol
  .show e _ _ h.2.2 k c
abbrev j4(a b:List ZD)(s t:Nat×Nat):Prop:=s.1<t.1/\s.2<t.2/\∀x,¬((∀r,s.1<=r->r<=t.1->a[r]?=Z7 x)/\∀r,s.2<=r->r<=t.2->b[r]?=Z7 x)
structure xI(a b:List ZD)(S:ZD->Bool)(s:Nat×Nat):Prop where
 la:s.1<a.length
 lb:s.2<b.length
 eq:a[s.1]?=b[s.2]?
 ol:S (a.getD s.1 ZP)=true\/s=(0,0)
def abK{a b:List ZD}{S:ZD->Bool}:∀(l:List Bk),Ch (Gp a b) l->(∀k∈l,Mt a b k)->(∀k∈l,(∃t,t<k.m/\S (a.getD (k.i+t) ZP)=ZW)\/(k.i=0/\k.j=0))->∃P:List (Nat×Nat),P.length=l.length/\(∀s∈P,xI a b S s)/\P.Pairwise (j4 a b)/\∀k,l.head?=Z7 k->∀s∈P,k.i<=s.1/\k.j<=s.2:=by intro l;induction l with|nil=>showλ_ _ _=>⟨[],rfl,λs h=>(nM h),.nil,λk h=>nO h⟩;|cons c l H=>
  intro w r y;ext a b S c l;obtain⟨P,u,z,A,C⟩:=H w.2 (λk h=>r k<|.tail _ h) λk h=>y k<|.tail _ h;have m:=r c<|.head _;have D:=m.i;have E:=m.j;have e:∃t,t<c.m/\(S (a.getD (c.i+t) ZP)=ZW\/(c.i+t,c.j+t)=(0,0)):=by
   rcases y c (.head _)with⟨t,i,j⟩|⟨I,J⟩;.show⟨t,i,.inl j⟩
   .show⟨0,m.m,.inr (by exists I;show aW J rfl)⟩
  obtain⟨t,e,F⟩:=e;revert u z A C m D E e F;ext P t;have G:∀s∈P,∃d,Gp a b c d/\Mt a b d/\d.i<=s.1/\d.j<=s.2:=λs f=>by cases l with
 |nil=>cases P with|nil=>cases f;|cons _ _=>cases u
 |cons d l=>show⟨d,w.1,r d<|.tail _<|.head _,C d rfl s f⟩
  show⟨(c.i+t,c.j+t)::P,congrArg (·+1) u,λs f=>?_,.cons (λs f=>?_) A,λk M s f=>?_⟩
  .rcases Z1.mp f with rfl|f;.show⟨by dsimp only;show pP D e,by dsimp only;show pP E e,m.eq t e,F⟩
   .show z s f
  .obtain⟨d,g,N,i,j⟩:=G s f;have o:=g.i;have p:=g.j;show⟨by dsimp only;show(aV 0xc905819705890391c4414) e i o,by dsimp only;show(aV 0xc905819705890391c4414) e j p,λx⟨v,hb⟩=>?_⟩;dsimp only at v hb;rcases g.ne with n|n;.show n<|(v _ (<-(ai 0x3230e223144220) e)<|<-(ay 0x181130488c38144611) i o).trans (hb _ (<-(ai 0x3230e223144220) e)<|<-(ay 0x181130488c38144611) j p).symm
   .show n<|(v _ (<-(ay 0xc90581c481c484f1c4414) e o)<|<-(af 0x1810702909e12) i).trans (hb _ (<-(ay 0xc90581c481c484f1c4414) e p)<|<-(af 0x1810702909e12) j).symm
  .cases M;rcases Z1.mp f with rfl|f;.show⟨Zp _ _,Zp _ _⟩
   .obtain⟨d,g,N,i,j⟩:=G s f;have o:=g.i;have p:=g.j;show⟨<-jh i o,<-jh j p⟩
def aaZ(a b):∃P:List (Nat×Nat),P.length=(bF a b).length/\(∀s∈P,xI a b (λx=>!a5 b x) s)/\P.Pairwise (j4 a b):=by ext a b;obtain⟨c,d⟩:=oh a b;obtain⟨P,e,f,g,_⟩:=abK (S:=λx=>!a5 b x) (bF a b) d c<|Ho _ _ _<|sN a b;show⟨P,e,f,g⟩
def Mm:∀(U W:List ZD),(∀x,U.count x<=W.count x)->U.length<=W.length:=by intro U;induction U with|nil=>showλW _=>ZZ _;|cons y U b=>
  intro W h;have a:y∈W:=TV.mp<|WK (by exists List.count_cons_self;show Us _)<|h y;have p:=b (W.erase y) λx=>by
   have p:=h x;rw[WW]at p;exists List.count_erase;by_cases q:y=x;.subst q;rw[if_pos (beq_self_eq_true _)]at p⊢;show(af 0xc0a227871213c411) p
   .rw[if_neg (by simpa using q)]at p⊢;.show(af 0xc0a21787120bc411) p
  rw[List.length_erase_of_mem a]at p;have p:=Wf a;exists ZO;show(af 0xc484f107220bf02889e11) ‹_› p
structure cq where
 kind:Int
 size:Nat
 line:ZD
def nLt:Nonempty cq:=⟨⟨0,0,ZP⟩⟩
abbrev cS(g:cq):List ZD:=Zt g.size g.line
abbrev cG(G:List cq):List ZD:=G.flatMap λg=>if g.kind≠2 then cS g else[]
abbrev bu(G:List cq):List ZD:=G.flatMap λg=>if g.kind≠1 then cS g else[]
structure ij(g:cq):Prop where
 kind:g.kind=0\/g.kind=1\/g.kind=2
 DB:1<=g.size
 DC:g.size<=8
 line:kh g.line
abbrev fP(f g:Zw)(n b:Int)(a:List Int):Loc:=[(Z9 "second",.ref g),(Z9 "first",.ref f),(Z9 "more",.int b),(Z9 "n",.int n),(Z9 "script",.lst<|a.map .int)]
abbrev dV(f g:Zw)(a b:List ZD):ag:=[(f,.list<|a.map .str),(g,.list<|b.map .str)]
abbrev r5:List YR:=bW<|aT (aA bh) 2
def M8(d:f≠g)(a b c):aK (dV f g a b) f (.list (a.map .str++c.map .str))=dV f g (a++c) b:=by simp[aK,dV,d.symm]
def A4(d:f≠g)(a b c):aK (dV f g a b) g (.list (b.map .str++c.map .str))=dV f g a (b++c):=by simp[aK,dV,d]
def M9{K:Kn}(l:Ok Y (λx=>(aw bh).names.lookup x) aY)(u:Y.env=Y8 (Z9 "law") (aw bh) L 314 (Zr 313))(D:Y.A.depth<ZU)(s:f≠g)(E:a.length<=10^5)(F:b.length<=10^5)(h:∀p m,ij p->Sub (fP f g n j e) m->K.nx m (dV f g (a++if p.kind≠2 then cS p else[]) (b++if p.kind≠1 then cS p else[]))):Ex Y ((Z9 "x",.int x)::fP f g n j e) (dV f g a b) r5 K:=by
 ext Y L f g n j e a b x K;have v:(10^6:Nat)<=Zo:=by exists Zx;decide
 show fx (b1:=r5.take 3) (b2:=r5.drop 3) l u ?_;show stM<|qt (by decide) (by decide) ?_;show stM<|qt (by decide) (by decide) ?_;show stM<|dq<|.cons rfl<|be l (n:=8) ?_;show stM<|Em (by decide) (by decide) ?_;have G:0<=((x.fdiv 3).fdiv 8).fmod (1112063^(3:Int).toNat):=by exists(XQ _<|by decide);show V7 _ (by decide)
 have H:((x.fdiv 3).fdiv 8).fmod (1112063^(3:Int).toNat)<1112063^3:=by exists(XQ _<|by decide);show W9 _ (by decide)
 have C:(x.fdiv 3).fmod 8=((((x.fdiv 3).fmod 8).toNat:Nat):Int)/\((x.fdiv 3).fmod 8).toNat<8:=by exists(XQ _<|by decide);show(jc 0x1c4bc4ed89d60bc60e89d60ec4eb05ffca5e1e844e1) (W9 (x.fdiv 3) (by decide:(0:Int)<8)) (V7 (x.fdiv 3) (by decide:(8:Int)≠0))<|@YZ<|x.fdiv 3%8
 have w:x.fmod 3=0\/x.fmod 3=1\/x.fmod 3=2:=by exists(XQ _<|by decide);show(jb 0x384785db0bac1788020746f0bba2785dd0bc2e0) (W9 (x) (by decide:(0:Int)<3))<|V7 (x) (by decide:(3:Int)≠0)
 show stM<|El (by decide) ?_;show stM (Mr D G H λy I=>?_);ext y;show .nil ⟨ZY (show 1<=10^6 by decide) v,?_⟩;generalize((x.fdiv 3).fmod 8).toNat=d at C;obtain⟨z,r⟩:=C;exists z;show stM<|w7 .lst (<-(af 0xdc44f15c2000823f)) (<-(af 0x329787020c3d023f82889e11) r gk) (by exists(show((d:Int)+1).toNat=d+1 by show vp<|@YZ<|(↑d:Int)+1);show(?_:1*_<=_);omega) (by simp) ?_;exists(show((d:Int)+1).toNat=d+1 by show vp<|@YZ<|(↑d:Int)+1),(show(Zt (d+1) [AV.str y]).flatten=(Zt (d+1) y).map .str by show aW Q4 ?_;show aW U3 rfl);have h:=h ⟨x.fmod 3,d+1,y⟩;have h:=λm=>h m ⟨w,by show(?_:1<=d+1);show nH,by show(?_:d+1<=8);show(ak 0x652f0e12f889e10) r,I⟩;have A:(cS ⟨x.fmod 3,d+1,y⟩).length<=8:=by unfold cS;exists Xa;show(ak 0x652f0e12f889e10) r
 have J:Zt (d+1) y=cS ⟨x.fmod 3,d+1,y⟩:=rfl;exists J;generalize cS ⟨x.fmod 3,d+1,y⟩=t at h A⊢;dsimp only at h;generalize x.fmod 3=i at h⊢;show Ex.sub (ρ':=(Z9 "lines",.lst<|t.map .str)::(Z9 "kind",.int i)::fP f g n j e) (a0.ok ⋯) ?_;show Ex.cons<|xc (λk o=>k=(Z9 "lines",.lst<|t.map .str)::(Z9 "kind",.int i)::fP f g n j e/\o=dV f g (a++if i≠2 then t else[]) b) (Es.ite<|bL l (n:=6) ?_) ?_
 .show ZK (λc=>?_) λc=>?_
  .have c:i≠2:=by simpa using c
   exists if_pos c;show run l u ?_;show stM<|cV Xy W6 rfl rfl rfl<|aj l rfl ⟨⟨_,.inr ⟨f,rfl,.head _⟩⟩,aj l rfl<|oR (.head _) .lst (by exists Z6 _,Z6 _;show(aV 0x18207032e12f160b10c3d023c981c4417) E v A (by decide:(100000+4000:Nat)<=1000000)) ?_⟩;rw[M8 s];show⟨rfl,rfl⟩
  .have c:¬i≠2:=by simpa using c
   exists if_neg c,ZH _;show Ex.nil ⟨rfl,rfl⟩
 .rintro k o⟨rfl,rfl⟩;generalize(a++if i≠2 then t else[])=M at h⊢;show Ex.cons<|Es.ite<|bL l (n:=6) ?_;show ZK (λc=>?_) λc=>?_
  .have c:i≠1:=by simpa using c
   rw[if_pos c]at h;show run l u ?_;show stM<|cV Xy W6 rfl rfl rfl<|aj l rfl ⟨⟨_,.inr ⟨g,rfl,.tail _<|.head _⟩⟩,aj l rfl<|oR (.tail _<|.head _) .lst (by exists Z6 _,Z6 _;show(aV 0x18207032e12f160b10c3d023c981c4417) F v A (by decide:(100000+4000:Nat)<=1000000)) ?_⟩;rw[A4 s];show Ex.nil<|h _ ?_;show a0.ok ⋯
  .have c:¬i≠1:=by simpa using c
   rw[if_neg c,ZH]at h;show Ex.nil<|Ex.nil<|h _ ?_;show a0.ok ⋯
def xi{n:Vk}(h:Ev X o O e λa i=>Tr X o i a λc d=>(c=ZW->k a d)/\(c=ZX->Ev X o d (.BoolOp .Or (f::r) n) k)):Ev X o O (.BoolOp .Or (e::f::r) n) k:=by ext X o O e k f r n;show(λE s F=>by show BoolOp_or<|wm (h _ s F) λv p y=>ba y λa i t g j u=>?_;show wm (u _ p v t j) λc w z=>fL z λd l b m=>?_;cases c with|true=>show⟨a,d,l,g.trans b,j.move b,m.1 rfl⟩;|false=>show wm (m.2 rfl _ w l) λv A x=>.from (g.trans b) x)
def EP{a:Vk}(h:Ev X b O e k):Ev X b O (.BoolOp .Or [e] a) k:=λE s F=>PE<|h E s F
abbrev kT(a:List Int):Int:=match a with|[]=>0|x::_=>((x.natAbs:Int)).fdiv 2
abbrev jL(a:List Int):Int:=match a with|[]=>0|x::_=>((x.natAbs:Int)).fmod 2
def M0(a):jL a=0\/jL a=1:=by
 unfold jL;split;.show .inl rfl
 .exists(XQ _<|by decide);show(jb 0x706f0bb617582f103a2785dd0bc2e0) (W9 ((↑x.natAbs:Int)) (by decide:(0:Int)<2))<|V7 ((↑x.natAbs:Int)) (by decide:(2:Int)≠0)
def M1(a):0<=kT a:=by
 unfold kT;split;.decide
 .exists(VX _<|by decide);show Ar.bA 0x24 0xe862374c4e1bf8378ddb1382f [_,0,0] [0,_,(↑x.natAbs:Int)%2] ⋯ (UY ((↑x.natAbs:Int)) 2) (W9 ((↑x.natAbs:Int)) (by decide:(0:Int)<2))
def M5{K:Kn}(b:Ok Y (λx=>(aw bh).names.lookup x) aY)(i:Y.env=Y8 (Z9 "law") (aw bh) L 314 (Zr 313))(j:a.length<=63)(h:∀f g,f≠g->Ex Y (fP f g (kT a) (jL a) a) (dV f g [] []) ((aA bh).drop 2) K):Ex Y [(Z9 "script",.lst (a.map .int))] [] (aA bh) K:=by
 ext Y L a K;show fx (b1:=(aA bh).take 1) (b2:=(aA bh).drop 1) b i ?_;show stM<|Ev.to (.tup [.int (kT a),.int (jL a)]) (kA b (n:=8) ?_) ?_
 .show stM<|Tr.list .lst (by exists Z6 _;show(af 0x190404f0e04187a047f0411) j gk) ⟨λc=>?_,λc=>?_⟩;.cases a with|nil=>cases c;|cons x k=>show stM<|Ev.to _ (Ev.sub<|aj b rfl<|Ev.int<|Ix.list trivial .lst (by decide) (by decide) (x:=.int x) rfl ⟨rfl,rfl⟩) ?_;show stM<|ax.abs ?_;exists(show(if x<0 then-x else x)=(x.natAbs:Int)by split<;>omega);show stM<|qt (by decide) (by decide) ?_;show⟨rfl,rfl⟩
  .cases a with|cons x k=>cases c;|nil=>show⟨rfl,rfl⟩
 show fx (b1:=((aA bh).drop 1).take 1) (b2:=(aA bh).drop 2) b i ?_;show stM<|Ev.list<|.nil ⟨ZZ _,λf m=>?_⟩;show stM<|Ev.list<|.nil ⟨ZZ _,λg l=>?_⟩;have d:f≠g:=λe=>l (by exists ZJ e;show .head _);show Ex.cv ((Cv.perm<|T4 (f,az.list []) (g,.list []) []).trans<|Cv.sub<|f4.ok (ρ':=fP f g (kT a) (jL a) a) ⟨ae _ rfl rfl,ae _ rfl rfl,ae _ rfl rfl,ae _ rfl rfl,ae _ rfl rfl,trivial⟩)<|h f g d
def vh(h:∀p∈G,ij p):(cG G).length<=8*G.length:=by induction G with|nil=>show ZZ _;|cons p G a=>
  have a:=a λq b=>h q<|.tail _ b;have l:=(h p<|.head _).DC;show(?_:((if p.kind≠2 then cS p else[])++cG G).length<=8*(G.length+1));exists ZV;have t:(if p.kind≠2 then cS p else[]).length<=8:=by
   split;.exists Xa;show l
   .show ZZ _
  show(ai 0x1898d2f1612f0e27113c697c4411) a t
def vi(h:∀p∈G,ij p):(bu G).length<=8*G.length:=by induction G with|nil=>show ZZ _;|cons p G a=>
  have a:=a λq b=>h q<|.tail _ b;have l:=(h p<|.head _).DC;show(?_:((if p.kind≠1 then cS p else[])++bu G).length<=8*(G.length+1));exists ZV;have t:(if p.kind≠1 then cS p else[]).length<=8:=by
   split;.exists Xa;show l
   .show ZZ _
  show(ai 0x1898d2f1612f0e27113c697c4411) a t
def MR(G)(p):cG (G++[p])=cG G++if p.kind≠2 then cS p else[]:=by unfold cG;exists WT,Zh,XU;show aW (ZH _) rfl
def MS(G)(p):bu (G++[p])=bu G++if p.kind≠1 then cS p else[]:=by unfold bu;exists WT,Zh,XU;show aW (ZH _) rfl
abbrev Jp:YR->X7
 |.For t _ _ _ _=>t|_=>.Tuple [] 0 default
def Aw{l:List AV}(h:(!l.isEmpty)=ZW):1<=l.length:=by cases l with|nil=>cases h;|cons _ _=>show Ws<|ZZ _
def M6{K:Kn}(F:Ok Y (λx=>(aw bh).names.lookup x) aY)(V:Y.env=Y8 (Z9 "law") (aw bh) L 314 (Zr 313))(W:Y.A.depth<ZU)(M:f≠g)(Q:b.length<=63)(h:∀G d,1<=G.length->G.length<=62->(∀p∈G,ij p)->Sub (fP f g n l b) d->K.nx d (dV f g (cG G) (bu G))):Es Y (fP f g n l b) (dV f g [] []) (aT (aA bh) 2) K:=by
 ext Y L f g n l b K;have R:(10^6:Nat)<=Zo:=by exists Zx;decide
 have w:∀o:List Int,1<=o.length->o.length<=62->∃Inv:Nat->Loc->ag->Prop,Inv 0 (fP f g n l b) (dV f g [] [])/\(∀i d m,Inv i d m->True)/\(∀i H d m I c,(o.map AV.int)[i]?=Z7 H->Inv i d m->Tg (Y.holds I c) d m (Jp<|aT (aA bh) 2) H λt=>Ex (Y.holds I c) t m r5 ⟨Inv<|i+1,K.rt,K.nx,Inv<|i+1⟩)/\(∀d m,Inv (o.map AV.int).length d m->K.nx d m):=by
  intro o A s;show⟨λi d m=>∃G:List cq,G.length=i/\(∀p∈G,ij p)/\m=dV f g (cG G) (bu G)/\Sub (fP f g n l b) d,⟨[],rfl,(λp h=>nM h),rfl,Sub.refl _⟩,λJ J J J=>trivial,?_,?_⟩;.rintro i H d m I c j⟨G,u,v,rfl,r⟩;revert A s c j u v r;ext o i H d I G;replace j:=ZQ▸j;cases N:o[i]? with|none=>replace j:=N▸j;cases j;|some x=>
    replace j:=N▸j;cases j;have S:i<o.length:=(Zv.mp N).1;have X:=vh v;have Z:=vi v;show Tg.ex F.holds ?_;show Ex.sub (r.cc _ _)<|M9 F.holds V W M (<-(aV 0x18fc04f1e8a4c8cb89912f0e04187a047e041d) s u S X gj) (<-(aV 0x18fc04f1e8a4c8cb89912f0e04187a047e041d) s u S Z gj) λp t O C=>⟨G++[p],by exists ZV,u;rfl,λq D=>?_,?_,C⟩
    .rcases ZS.mp D with D|D;.show v q D
     .exists ZM.mp D;show O
    .exists MR _ _;show aW (MS _ _) rfl
  .rintro d m⟨G,u,v,rfl,r⟩;rw[Z6]at u;show h G _ (<-(af 0x60427e841c044f1) A u) (<-(af 0x63f013c5a1071f809e11) s u) v r
 show d5 (λJ=>rfl)<|ch.lst (Ev.mono (k:=λa m=>∃o:List Int,a=.lst (o.map .int)/\m=dV f g [] []/\1<=o.length/\o.length<=62) ?_ λa m z=>by obtain⟨o,rfl,rfl,h1,h2⟩:=z;show⟨_,rfl,w o h1 h2⟩);show xi<|Ev.slice<|aj F rfl<|Ev.int ⟨1,rfl,Ev.int ⟨63,rfl,_,.lst,by decide,by exists Z6 _;show(ai 0xc8202787021e06187a047e0414) Q R gl,?_⟩⟩;exists(pick_from _ _ _ (by decide)<|by decide),(show((63:Int).toNat-(1:Int).toNat)=62 from rfl),(show(1:Int).toNat=1 from rfl),ZJ VM,ZJ UM;have U:((b.drop 1).take 62).length<=62:=by exists Zf;show(ak 0x63f013e81fc04f0)
 show Tr.list .lst (by exists Z6 _;show(af 0x18fc04f0e04187a047f0411) U gk) ⟨λc=>⟨_,rfl,rfl,?_,U⟩,λc=>xi<|aj F rfl<|Tr.list .lst (by exists Z6 _;show(af 0x190404f0e04187a047f0411) Q gk) ⟨λE=>⟨_,rfl,rfl,?_,?_⟩,λE=>EP ?_⟩⟩;.have c:=Aw c;rw[Z6]at c;show(ak 0xc044fc044f0) c
 .have E:=Aw E;rw[Z6]at E;show(ak 0xc044fc044f0) E
 .have c:((b.drop 1).take 62).map AV.int=[]:=by cases e:((b.drop 1).take 62).map AV.int with|nil=>rfl;|cons y ys=>replace c:=e▸c;cases c
  have c:=congrArg Qg c;rw[Z6,Zf,YJ,VG]at c;show(ak 0x3417d242787f013f1f809e10) c
 .show dq<|.cons rfl<|.int<|.cons rfl<|.int<|.nil ⟨ZY (show 2<=10^6 by decide) R,⟨[1,26],rfl,rfl,by decide,by decide⟩⟩
abbrev jl(w:Int)(G:List cq):List ZD:=G.flatMap λg=>if g.kind≠w then cS g else[]
abbrev own(w:Int):List cq->Nat->List Nat
 |[],_=>[]|g::G,n=>(if g.kind≠w then Zt g.size n else[])++own w G (n+1)
def zW(w)(g)(n:Nat):(if g.kind≠w then Zt g.size n else[]).length=(if g.kind≠w then cS g else[]).length:=by
 split;.unfold cS;exists Xa;rw[Xa]
 .rfl
def pt{n p u:Nat}(h:(if g.kind≠w then Zt g.size n else[])[p]?=Z7 u):u=n/\g.kind≠w/\p<g.size/\(if g.kind≠w then cS g else[])[p]?=Z7 g.line:=by
 ext w g n p u;split at h
 .rename_i q;rw[SV]at h;split at h;.rename_i a;show⟨(Zs h).symm,q,a,?_⟩;exists if_pos q,SV;show aW (if_pos a) rfl
  .cases h
 .cases h
def pX(w):∀(G:List cq)(n:Nat),(own w G n).length=(jl w G).length:=by intro G;induction G with|nil=>showλn=>rfl;|cons g G a=>intro n;show(?_:((if g.kind≠w then Zt g.size n else[])++own w G (n+1)).length=((if g.kind≠w then cS g else[])++jl w G).length);exists ZV;rw[ZV,a,zW]
def mg:∀{G:List cq}{n p u:Nat},(own w G n)[p]?=Z7 u->n<=u/\∃g,G[u-n]?=Z7 g/\g.kind≠w/\(jl w G)[p]?=Z7 g.line:=by intro G;induction G with|nil=>intro n p u h;cases h;|cons g G e=>
  intro n p u h;revert e h;ext w g G n p u;have h:((if g.kind≠w then Zt g.size n else[])++own w G (n+1))[p]?=Z7 u:=h;show(?_:n<=u/\∃a,(g::G)[u-n]?=Z7 a/\a.kind≠w/\((if g.kind≠w then cS g else[])++jl w G)[p]?=Z7 a.line);have c:=zW w g n;by_cases q:p<(if g.kind≠w then Zt g.size n else[]).length;.rw[Yj q]at h;obtain⟨rfl,b,_,d⟩:=pt h;show⟨ZR _,g,by exists Wc _;rfl,b,?_⟩;rw[Yj (by rw[<-c];show q)];show d
  .rw[Y9 (XM q)]at h;obtain⟨b,a,f,d,i⟩:=e h;show⟨<-nE b,a,?_,d,?_⟩;.exists(show u-n=(u-(n+1))+1 by show(af 0x603113c5a889f2889e20c8410) b);show f
   .exists(Y9 (by show aW (ZJ c) ?_;show XM q)),ZJ c;show i
def oi{w:Int}:∀{G:List cq}{n p b u c:Nat},p<=b->(own w G n)[p]?=Z7 u->(own w G n)[b]?=Z7 c->u<=c:=by intro G;induction G with|nil=>intro n p b u c _ h;cases h;|cons g G e=>
  intro n p b u c d h a;revert e d h a;ext w g G n p b u c;have h:((if g.kind≠w then Zt g.size n else[])++own w G (n+1))[p]?=Z7 u:=h;have a:((if g.kind≠w then Zt g.size n else[])++own w G (n+1))[b]?=Z7 c:=a;by_cases q:p<(if g.kind≠w then Zt g.size n else[]).length
  .rw[Yj q]at h;obtain⟨rfl,_,_,_⟩:=pt h;by_cases f:b<(if g.kind≠w then Zt g.size u else[]).length;.rw[Yj f]at a;exists(pt a).1;show ZR _
   .rw[Y9 (XM f)]at a;have t:=(mg a).1;show nE t
  .rw[Y9 (XM q)]at h;rw[Y9 (<-(ai 0x3021fb211e0411) d q)]at a;show e (<-(ai 0x3030e2421c8411) d) h a
def CG{w:Int}:∀{G:List cq}{n p c u:Nat}{g:cq},p<c->(own w G n)[p]?=Z7 u->(own w G n)[c]?=Z7 u->G[u-n]?=Z7 g->2<=g.size:=by intro G;induction G with|nil=>intro n p c u g _ h;cases h;|cons a G i=>
  intro n p c u g e h b d;have h:((if a.kind≠w then Zt a.size n else[])++own w G (n+1))[p]?=Z7 u:=h;have b:((if a.kind≠w then Zt a.size n else[])++own w G (n+1))[c]?=Z7 u:=b;by_cases q:p<(if a.kind≠w then Zt a.size n else[]).length
  .rw[Yj q]at h;obtain⟨rfl,_,_,_⟩:=pt h;by_cases f:c<(if a.kind≠w then Zt a.size u else[]).length;.rw[Yj f]at b;have t:=(pt b).2.2.1;rw[Wc]at d;cases d;show(ai 0x32316423c046fc) e t
   .rw[Y9 (XM f)]at b;have t:=(mg b).1;show(af 0x302889e2c046f5) t
  .rw[Y9 (XM q)]at h;rw[Y9 (<-(ai 0x3221fb211e0411) e q)]at b;have t:=(mg h).1;show i (<-(ai 0x32317b21166411c8221) e q) h b ?_;rw[show u-n=(u-(n+1))+1 by show(af 0x603113c5a889f2889e20c8410) t]at d;show d
def Hw{w:Int}{x:ZD}:∀{G:List cq}{i:Nat}{g:cq},G[i]?=Z7 g->g.kind≠w->g.line=x->g.size<=(jl w G).count x:=by intro G;induction G with|nil=>intro i g h;cases h;|cons a G d=>intro i g h b c;show(?_:_<=((if a.kind≠w then cS a else[])++jl w G).count x);exists TF;cases i with
 |zero=>exists Zs h,if_pos b,RG,if_pos<|beq_iff_eq.mpr c;show(af 0x18884423);|succ i=>have p:=d h b c;show(ai 0xc0c3888c412) p
def Hx{w:Int}{x:ZD}:∀{G:List cq}{i j:Nat}{g h:cq},i<j->G[i]?=Z7 g->G[j]?=Z7 h->g.kind≠w->h.kind≠w->g.line=x->h.line=x->g.size+h.size<=(jl w G).count x:=by intro G;induction G with|nil=>intro i j g h _ e;cases e;|cons b G m=>intro i j g h a c d f k2 k l;show(?_:_<=((if b.kind≠w then cS b else[])++jl w G).count x);exists TF;cases j with|zero=>show(aV 0x642f16225244612) a;|succ j=>cases i with
 |zero=>exists Zs c;have p:=Hw (G:=G) d k2 l;exists if_pos f,RG,if_pos<|beq_iff_eq.mpr k;show(ai 0x3030e223144220) p;|succ i=>have p:=m (<-l9 a) c d f k2 k l;show(ay 0xc12230e224144612) p
def BF{x:ZD}:∀{G:List cq}{i:Nat}{g:cq},G[i]?=Z7 g->g.line=x->1<=(G.map (·.line)).count x:=by intro G i g h e;show TV.mpr<|Z0.mpr ⟨g,YV h,e⟩
def BG{x:ZD}:∀{G:List cq}{i j:Nat}{g h:cq},i<j->G[i]?=Z7 g->G[j]?=Z7 h->g.line=x->h.line=x->2<=(G.map (·.line)).count x:=by intro G;induction G with|nil=>intro i j g h _ e;cases e;|cons l G k=>intro i j g h a b c d f;exists Z3,WW;cases j with|zero=>show(ai 0x32178b111846f2) a;|succ j=>cases i with
 |zero=>exists Zs b;have p:=BF (G:=G) c f;exists if_pos<|beq_iff_eq.mpr d;show(ak 0x60227e2227846f0) p;|succ i=>have p:=k (<-l9 a) b c d f;show(af 0x3011bf111046f2) p
def N1{x:ZD}:∀{G:List cq}{i j l:Nat}{g h k:cq},i<j->j<l->G[i]?=Z7 g->G[j]?=Z7 h->G[l]?=Z7 k->g.line=x->h.line=x->k.line=x->3<=(G.map (·.line)).count x:=by intro G;induction G with|nil=>intro i j l g h k _ _ e;cases e;|cons r G p=>intro i j l g h k b a c d f m n o;exists Z3,WW;cases l with|zero=>show(ai 0x32178b111848f2) a;|succ l=>cases j with|zero=>show(ai 0x32178b111848f2) b;|succ j=>cases i with
 |zero=>exists Zs c;have t:=BG (G:=G) (<-l9 a) d f n o;exists if_pos<|beq_iff_eq.mpr m;show(ak 0x60237e2227848f0) t;|succ i=>have t:=p (<-l9 b) (<-l9 a) c d f m n o;show(af 0x30123f111048f2) t
def abe{x:ZD}:∀(b:List ZD)(Q:List Nat),Q.Pairwise (·<·)->(∀q∈Q,b[q]?=Z7 x)->Q.length<=b.count x:=by intro b;induction b with
 |nil=>intro Q _ h;cases Q with|nil=>show ZR _;|cons q Q=>cases h q (.head _)
 |cons y b l=>
  intro Q d h;have c:∀(Q:List Nat),Q.Pairwise (·<·)->(∀q∈Q,0<q/\(y::b)[q]?=Z7 x)->Q.length<=b.count x:=λQ d h=>by
   have:=l (Q.map (·-1)) (TH.mpr (d.imp_of_mem λf g i=>by have:=(h _ f).1;have:=(h _ g).1;show(af 0xc8839085f9909e2909e11) i ‹_›)) λq f=>by obtain⟨r,a,rfl⟩:=Z0.mp f;obtain⟨m,e⟩:=h r a;obtain⟨j,rfl⟩:∃j,r=j+1:=⟨r-1,<-jM m⟩;show e
   rwa[Z6]at this
  exists WW;cases Q with|nil=>show ZZ _;|cons q Q=>
   by_cases k:q=0;·subst k;have e:y=x:=Zs<|h 0<|.head _;have:=c Q (Xr.mp d).2 λr a=>⟨(Xr.mp d).1 r a,h r<|.tail _ a⟩;exists if_pos<|beq_iff_eq.mpr e,ZO;show(af 0xc0838889e2889e10) this
   .have:=c (q::Q) d λr a=>⟨by
     rcases Z1.mp a with rfl|a;.show(ak 0x1ed05e1c842f3) k
     .have:=(Xr.mp d).1 r a;show(af 0x6422c842f2) this,h r a⟩;show(ai 0xc0c38888612) this
abbrev jd(z:Int):ZD:=Z9 (toString<|100+z)++nl
abbrev zA:AV->Option AV
 |.int k=>Z7 (.str (jd k))|_=>Z4
abbrev iJ(m c:Nat):List ZD:=(YY<|c-m).map λ(t:Nat)=>jd<|(m:Int)+(t:Int)
def Ju(m c:Nat):(cg m (c-m)).filterMap zA=(iJ m c).map .str:=by unfold cg iJ;induction YY (c-m)with|nil=>rfl;|cons t r a=>exists Z3;rw[YI,Z3,Z3,<-a];rfl
def r6(m c):(iJ m c).length=c-m:=by unfold iJ;exists Z6 _;show aW Xi rfl
def M3{K:Kn}(C:Callee X Y (Z9 "law") (aw bh) 314 (.ref 313))(w:c=0\/c=1)(l:f≠g)(m:b.length<=1000)(h:K.nx (fP f g n c d) (dV f g a (b++iJ b.length (200*c.toNat)))):Es Y (fP f g n c d) (dV f g a b) (aT (aA bh) 3) K:=by
 ext X Y c f g n d a b K;have k:=C.ok ⋯;show aq C.env λL A o=>?_;have p:(10^6:Nat)<=Zo:=by exists Zx;decide
 show Es.expr rfl<|cV Xy W6 rfl rfl rfl<|aj k rfl ⟨⟨_,.inr ⟨g,rfl,.tail _<|.head _⟩⟩,?_⟩;show qz zA (eA (b9:=[]) C dk rfl dk dk λo h=>nM h) (λo=>rfl)<|E6 rfl (k.ld ⋯ ⋯) ?_;show .cons rfl<|be k (n:=8) ?_;show stM<|ax.len (.inr ⟨g,rfl,.tail _<|.head _⟩) (by exists Z6 _;show kV m gk) ?_;exists Z6 _;show bm.cons rfl<|be k (n:=8) ?_;show stM<|Bn.mul (Qn<|by decide) ?_;have x:200*c=((200*c.toNat:Nat):Int)/\200*c.toNat<=200:=by rcases w with rfl|rfl<;>decide
 obtain⟨r,e⟩:=x;exists r;generalize u:200*c.toNat=i at*;show bm.nil ⟨_,_,rfl,<-nX,<-kV m u0,<-nX,<-(af 0x184c0ef0e04187a047f0411) e u0,?_⟩;exists(show((i:Int)-(b.length:Int)).toNat=i-b.length by show(ai 0x3076430d85b90c360bc60d05e2dd82f90c3a90c221) (@YZ<|(↑i:Int)-(↑b.length:Int))<|@XE<|(↑i:Int)-(↑b.length:Int));show⟨by exists wb;show(ay 0x6064c2607787040c3d023f039082000045f) p e gl,λD y t E F s=>?_,?_⟩;.obtain⟨v,rfl⟩:=sS s;have j:=y.ok dk ⋯;show Tg.ex j ?_;show⟨rfl,λo=>be j (n:=6) ?_,λz=>nT z⟩;show stM<|ax.str (p9 (<-(af 0xdc62209604785e000823f))<|<-(ay 0x30981de4cc8241606187a047f07188825811e000045f) e v (by decide:(4000:Nat)<=10000000)) ?_;show stM<|ie ?_ ⟨rfl,rfl⟩;have Q:((Z9<|toString<|(100:Int)+((b.length:Int)+(t:Int)))).length<=10:=js (<-(af 0xdc62209604785e000823f)) (<-(ay 0x30981de4cc8241606187a047f07188825811e000045f) e v (by decide:(4000:Nat)<=10000000));show(ai 0x1810f0b787030c3d023f02889e14) p Q gl
 .exists Ju _ _;show oR (.tail _<|.head _) .lst (by exists Z6 _,Z6 _,r6 _ _;show(ay 0x309881e1c0c984c0ef1608187a047e071904417) m p e gl) ?_;rw[A4 l];show h
def EM{k t:Vk}{H I}(J:Ok X H I){o:List ZD}{K:Kn}(f)(N:Bd X y)(C:f0 X g M m j)(s:Tj (.ListComp (.Name v u) [⟨.Name v w,.Name n r,[d],0⟩] g e) (Z7 (.Name y t)) k.line X.env=pure ZW)(Q:∀y,Yb (.Name n r) X.env y=pure y)(R:g.names.lookup ("__debug__":ZD)=Z4)(S:g.names.lookup v=Z7 .local)(U:m.lookup n=Z7 (.lst (o.map .str)))(V:o.length<=Zo)(h:∀Y,Ok Y (λx=>g.names.lookup x) aY->∀x p,Ts Y ((v,.str x)::j) p d λb A=>b=f x/\A=p)(W:K.nx (dM m y (.lst ((o.filter f).map .str))) O):Es X m O (.Assign [.Name y t] (.ListComp (.Name v u) [⟨.Name v w,.Name n r,[d],0⟩] g e) k) K:=by show qx N (nj f) C s Q<|It.lst<|aj J U ⟨_,rfl,by exists Z6 _;show V,λY D i av p c=>?_,by exists zz _ _;show W⟩;have l:=D.ok C.cell R;replace c:=ZQ▸c;cases E:o[i]? with|none=>replace c:=E▸c;cases c;|some x=>
  replace c:=E▸c;cases c;show Tg.down<|.name (D.bd S) ⟨_,(Sub.refl _).cons _ _,(h Y l x p).mono λb A z=>aE z λF Z=>?_⟩;have G:nj f (.str x)=if f x=ZW then Z7 (.str x)else Z4:=rfl;show⟨Z,λz=>aj l (a:=.str x) (by exists ZG;show aW (beq_self_eq_true _) rfl) ⟨rfl,?_,trivial⟩,λz=>?_⟩;.exists G,ZJ F,z;rfl
  .exists G,ZJ F,z;rfl
abbrev r7(n:Int)(a b:List ZD):Loc:=[(Z9 "n",.int n),(Z9 "second",.lst<|b.map .str),(Z9 "first",.lst<|a.map .str)]
def M4{d:List YR}{K:Kn}(i:f≠g)(h:Ex Y (r7 n a b) [] d K):Ex Y (fP f g n e c) (dV f g a b) d K:=by show Ex.cv (j7.trans<|j7.trans<|Cv.sub (ρ':=r7 n a b) ?_) h;unfold ia fP;simp only[Z3,Y4,mt,mr,ms,mu,if_neg i,if_neg i.symm,if_pos];show f4.ok ⟨ae _ rfl rfl,ae _ rfl rfl,ae _ rfl rfl,trivial⟩
abbrev mh(b:List ZD)(x:ZD):Bool:=decide (200<=b.length)&&decide ((b.length:Int)<100*((b.count x:Int)-1))
abbrev hA(b:List ZD):List ZD:=b.filter<|mh b
abbrev pN(n:Int)(a b:List ZD)(c:Nat)(r:Zw):Loc:=(Z9 "seen",.ref r)::(Z9 "longest",.int c)::(Z9 "popular",.lst<|(hA b).map .str)::r7 n a b
def M7{K:Kn}(C:Callee X Y (Z9 "law") (aw bh) 314 (.ref 313))(l:Y.A.depth<ZU)(f:b.length<=1000)(h:∀r e,Sub (pN n a b (fi b (λx=>!aP (hA b) x) a).m r) e->Ex Y e [(r,.list [])] ((aA bh).drop 6) K):Ex Y (r7 n a b) [] ((aA bh).drop 4) K:=by
 ext X Y n a b K;have g:=C.ok ⋯;show aq C.env λL i m=>?_;ext L;have o:(10^6:Nat)<=Zo:=by exists Zx;decide
 show Ex.cons<|EM g (mh b) (g.loc _<|.inl ⋯) (eA (b9:=[(Z9 "second",.lst<|b.map .str)]) C dk rfl dk dk ?_) (by exists i;kernel_rfl) (λm=>rfl) ⋯ ⋯ rfl (<-(ai 0xc2620787021e06187a047e0414) f o gl) (λs d x t=>?_) ?_;.intro p u;rcases ZM.mp u with rfl;show⟨rfl,⋯⟩
 .revert d;injections s x t;intro d;show bL d (n:=8) ?_;show⟨by exists Z6 _;show kV f gk,?_⟩;exists Z6 _;have j:decide ((200:Int)<=(b.length:Int))=decide (200<=b.length):=by
   by_cases c:200<=b.length;.exists decide_eq_true c;show aW (decide_eq_true<|<-(ak 0xc05303bf614c0ef0) c) rfl
   .exists decide_eq_false c;show aW (decide_eq_false<|<-(ak 0x3d80a6077fb614c0ef0) c) rfl
  show ZK (λz=>?_) λz=>?_
  .have z:decide ((200:Int)<=(b.length:Int))=ZW:=z;show stM<|Ev.to _ (cV PySem.F.slot_list_count PySem.F.type_list_count rfl rfl rfl<|aj d rfl ⟨⟨_,.inl rfl⟩,aj d rfl<|ax.count .lst ⟨rfl,rfl⟩⟩) ?_;show stM<|Bn.mul (Qn<|by decide) ?_;show⟨by exists Z6 _;show kV f gk,?_⟩;exists Z6 _;have k:mh b x=decide ((b.length:Int)<100*((b.count x:Int)-1)):=by unfold mh;exists ZJ j,z;show aW (Tu _) rfl
   show ZK (λz=>?_) λz=>?_;.show⟨by exists k;show z.symm,rfl⟩
   .show⟨by exists k;show z.symm,rfl⟩
  .have z:decide ((200:Int)<=(b.length:Int))=ZX:=z;show⟨by unfold mh;exists ZJ j,z;rfl,rfl⟩
 .show fx (b1:=((aA bh).drop 5).take 1) (b2:=(aA bh).drop 6) g i ?_;show stM<|ML (pop:=hA b) l f ?_;show stM<|Ev.list<|.nil ⟨ZZ _,λr v=>?_⟩;show h r _ ?_;show a0.ok ⋯
abbrev yA(x:ZD):Nat:=x.cps.toList.foldl (λn c=>if c=10 then n else 10*n+(c-48)) 0
def HN:((YY 300).all λk=>yA (jd (k:Nat))==100+k)=ZW:=⋯
def yB(h:k<300):yA (jd (k:Nat))=100+k:=eq_of_beq<|Yi.mp HN k<|XR.mpr h
def ut(h:(iJ m c)[t]?=Z7 u):t<c-m/\u=jd ((m+t:Nat):Int):=by
 ext m c t u;unfold iJ at h;rw[ZQ]at h;by_cases q:t<c-m;.rw[WV q]at h;show⟨q,(Zs h).symm⟩
 .rw[V3 (by exists Xi;show(ai 0x7b3218458148611) q)]at h;cases h
def IY{m c t a:Nat}(b:c<=200)(h:(iJ m c)[t]?=Z7 u)(f:(iJ m c)[a]?=Z7 u):t=a:=by obtain⟨g,i⟩:=ut h;obtain⟨j,l⟩:=ut f;have d:=yB (k:=m+t) (<-(ai 0x61303bc7990462cb60a7c441c) b g);have e:=yB (k:=m+a) (<-(ai 0x61303bc7990462cb60a7c441c) b j);rw[<-i]at d;rw[<-l]at e;show(ay 0x6a31090b023c7a8c4442c08f1e8411) d e
def aa8{c:Type}{R:c->c->Prop}{P:List c}(h:P.Pairwise R){s t:c}(b:s∈P)(a:t∈P):s=t\/R s t\/R t s:=by induction h with|nil=>cases b;|cons e _ g=>
  rcases Z1.mp b with f|b
  .rcases Z1.mp a with d|a;.show .inl<|f.trans d.symm
   .exists f;show .inr<|.inl<|e _ a
  .rcases Z1.mp a with d|a;.exists d;show .inr<|.inr<|e _ b
   .show g b a
def HC{a:Type}(f)(x:ZD)(P:List a):(P.map f).count x=(P.filter λs=>f s==x).length:=by induction P with|nil=>rfl;|cons s P b=>
  exists Z3,WW,XV,b;split<;>rename_i q;.show aW ZO rfl
  .rfl
structure b5(G:List cq)(F:List ZD)(x:ZD)(s:Nat×Nat)(u v:Nat):Prop where
 ou:(own 2 G 0)[s.1]?=some u
 gu:∃g,G[u]?=some g/\g.kind≠2/\g.line=x
 gv:((own 1 G 0)[s.2]?=some v/\∃g,G[v]?=some g/\g.kind≠1/\g.line=x)\/(v=G.length/\(bu G).length<=s.2/\F[s.2-(bu G).length]?=some x)
def l7{a:Type}{l:List a}{g:a}(h:l[i]?=Z7 g):i<l.length:=(Zv.mp h).1
def tV(c:(cG G)[s.1]?=Z7 x)(a:(bu G++F)[s.2]?=Z7 x):∃u v,b5 G F x s u v:=by
 ext G s x F;have j:s.1<(own 2 G 0).length:=by exists pX _ _ _;show l7 c
 have b:=Z2 j;obtain⟨_,g,d,f,k⟩:=mg b;have e:g.line=x:=Zs<|k.symm.trans c;by_cases q:s.2<(bu G).length
 .have l:s.2<(own 1 G 0).length:=by exists pX _ _ _;show q
  have i:=Z2 l;obtain⟨_,h,m,n,o⟩:=mg i;rw[Yj q]at a;show⟨_,_,b,⟨g,d,f,e⟩,.inl ⟨i,h,m,n,Zs<|o.symm.trans a⟩⟩
 .rw[Y9 (XM q)]at a;show⟨_,G.length,b,⟨g,d,f,e⟩,.inr ⟨rfl,XM q,a⟩⟩
def b5.fV(A:b5 G F x s u v)(h:v<G.length):(own 1 G 0)[s.2]?=Z7 v/\∃g,G[v]?=Z7 g/\g.kind≠1/\g.line=x:=by
 rcases A.gv with q|q;.show q
 .omega
def b5.qp(A:b5 G F x s u G.length):(bu G).length<=s.2/\F[s.2-(bu G).length]?=Z7 x:=by
 rcases A.gv with⟨_,g,h,_⟩|q;.have p:=l7 h;show((ak 0xf64215) p).elim
 .show q.2
def b5.oP(A:b5 G F x s u v):v<=G.length:=by
 rcases A.gv with⟨_,g,h,_⟩|q;.show Ye<|l7 h
 .omega
def o0(A:b5 G F x s u v)(B:b5 G F y t c b)(g:s.1<t.1)(d:s.2<t.2):u<=c/\v<=b:=by
 show⟨oi (Ye g) A.ou B.ou,?_⟩;have p:=A.oP;by_cases q:b=G.length;.show(ai 0x1818743160411) p q
 .have h:=B.oP;obtain⟨e,_⟩:=B.fV (<-(af 0x3da107020e4410) q h);have a:=l7 e;rw[pX]at a;have a:t.2<(bu G).length:=a;by_cases f:v=G.length;.subst f;have p:=A.qp.1;show(aV 0xc8c5928f022e0814) d a p
  .show oi (Ye d) (A.fV<|<-pQ p f).1 e
def qS(H:∀{i j:Nat}{z:ZD},F[i]?=Z7 z->F[j]?=Z7 z->i=j)(A:b5 G F x s u v)(B:b5 G F x t l a)(h:j4 (cG G) (bu G++F) s t):¬(u=l/\v=a)/\¬(v=G.length/\a=G.length):=by
 ext F G x s u v t l a;obtain⟨S,I,J⟩:=h;have D:¬(v=G.length/\a=G.length):=by rintro⟨rfl,rfl⟩;obtain⟨m,n⟩:=A.qp;obtain⟨o,M⟩:=B.qp;have U:=H n M;show((ai 0x32116043f6a430c8621) I m U).elim
 show⟨?_,D⟩;rintro⟨rfl,rfl⟩;have E:v<G.length:=WO A.oP λq=>D ⟨q,q⟩;obtain⟨m,g,n,_,N⟩:=A.fV E;obtain⟨o,_⟩:=B.fV E;obtain⟨O,Q,_,R⟩:=A.gu;show J x ⟨λr p b=>?_,λr p b=>?_⟩;.have c:r<(own 2 G 0).length:=Yx b<|l7 B.ou;have e:=Z2 c;have w:=oi p A.ou e;have y:=oi b e B.ou;obtain⟨_,k,d,_,f⟩:=mg e;have C:(own 2 G 0)[r]=u:=<-(af 0x1808b020e8410) w y;rw[C]at d;have U:k=O:=Zs<|d.symm.trans Q;rw[U,R]at f;show f
 .have c:r<(own 1 G 0).length:=Yx b<|l7 o;have e:=Z2 c;have w:=oi p m e;have y:=oi b e o;obtain⟨_,k,d,_,f⟩:=mg e;have C:(own 1 G 0)[r]=v:=<-(af 0x1808b020e8410) w y;rw[C]at d;have U:k=g:=Zs<|d.symm.trans n;rw[U,N]at f;rw[pX]at c;show(Yj c).trans f
abbrev Cr(G:List cq)(F:List ZD)(P:List (Nat×Nat))(x:ZD):Prop:=∃s t u v,s∈P/\t∈P/\b5 G F x s u v/\b5 G F x t u G.length/\v<G.length
def HE(r:P.Pairwise (j4 (cG G) (bu G++F)))(h:Cr G F P x)(w:Cr G F P y):x=y:=by
 ext G F P x y;have o:∀{x y:ZD}{s t c t':Nat×Nat}{u v b d:Nat},t∈P->c∈P->b5 G F x t u G.length->b5 G F y c b d->d<G.length->¬u<b:=by
  intro x y s t c t' u v b d i a A B f q;rcases aa8 r i a with e|e|e;.subst e;have Q:=B.fV f;have l:=l7 Q.1;rw[pX]at l;have l:t.2<(bu G).length:=l;have Q:=A.qp.1;show((af 0x6441f60220) l Q).elim
  .have Q:=(o0 A B e.1 e.2.1).2;show((af 0x6441f60220) f Q).elim
  .have Q:=(o0 B A e.1 e.2.1).1;show((af 0x6441f60220) q Q).elim
 obtain⟨s,t,u,v,z,i,A,B,f⟩:=h;obtain⟨c,t',b,d,a,j,p,C,k⟩:=w;have D:=o (s:=s) (t':=t') (v:=v) i a B p k;have E:=o (s:=s) (t':=t') (v:=v) j z C A f;have e:u=b:=<-(af 0x7b220fb21168410) D E;subst e;obtain⟨g,H,_,I⟩:=A.gu;obtain⟨J,m,_,n⟩:=p.gu;have Q:g=J:=Zs<|H.symm.trans m;exists ZJ I,ZJ n;show aW Q rfl
abbrev Dv:Vs:={kind:=.function,names:=[(Z9 ".0",.local),(Z9 "sign",.local),(Z9 "line",.local)],isGenerator:=ZX,isCoroutine:=ZX}
abbrev AS:Vs:={kind:=.function,names:=[(Z9 ".0",.local),(Z9 "line",.local)],isGenerator:=ZX,isCoroutine:=ZX}
abbrev oA(c:String)(a:List (ZD×ZD)):List ZD:=(a.filter λr=>r.1 !=Z9 c).map (·.2)
def Jx(c)(h):(aU h).filterMap (jG c)=(oA c h).map .str:=by induction h with|nil=>rfl;|cons r h a=>have b:jG c (.tup [.str r.1,.str r.2])=if r.1 !=Z9 c then Z7 (.str r.2)else Z4:=rfl;show(?_:(RV (jG c) (.tup [.str r.1,.str r.2]::aU h))=((List.filter (λr=>r.1 !=Z9 c) (r::h)).map (·.2)).map .str);exists YI,XV,b;cases q:(r.1 !=Z9 c)with|true=>show congrArg (_::·) a;|false=>show a
def tq{l m o p r j s t u:Vk}{v w}(x:Ok X v w){D E:Nat}(C:f0 X Dv A g [])(F:∀y,Yb (.Name h j) X.env y=pure y)(G:g.lookup h=Z7 (.lst (aU d)))(H:d.length<=Zo)(I:k (.lst ((oA c d).map .str)) O):Ev X g O (.ListComp (.Name (Z9 "line") m) [⟨.Tuple [.Name (Z9 "sign") o,.Name (Z9 "line") p] D r,.Name h j,[.Compare (.Name (Z9 "sign") s) [.NotEq] [.Constant (.str (Z9 c)) E t] u],0⟩] Dv l) k:=by show oU x (jG c) C F ⋯ G (by exists eS _;show H) (λJ M f N i Q=>?_) (by exists Jx _ _;show I);show fK (wl (c:=c) i) λa b e=>?_;exists e;show Tg.ex f ?_;show bL f (n:=6) ?_;show br rfl (λz=>be f (n:=5) ⟨rfl,if_pos z⟩) λz=>if_neg (by exists(show(a !=Z9 c)=ZX from z);decide)
abbrev zD:AV->Option AV
 |.str x=>Z7 (.tup [.str (Z9 " "),.str x])|_=>Z4
def Jy(l):(l.map AV.str).filterMap zD=aU (dm l):=by induction l with|nil=>rfl;|cons x l a=>show congrArg (AV.tup [.str (Z9 " "),.str x]::·) a
def xh{r s}(A:Ok X r s)(C:f0 X AS t d [])(w:∀y,Yb e X.env y=pure y)(h:Ev X d O e λa c=>∃l:List ZD,a=.lst (l.map .str)/\l.length<=Zo/\k (.lst (aU (dm l))) c):Ev X d O (.ListComp (.Tuple [.Constant (.str (Z9 " ")) u j,.Name (Z9 "line") m] v o) [⟨.Name (Z9 "line") p,e,[],0⟩] AS g) k:=by revert A C w h;revert X d O k g j m o p r s e t u v;injections X t d e O k u;injections j m v o p g r s;intro A C w h;show qz zD C w<|It.lst<|h.mono λa c z=>?_;obtain⟨l,rfl,E,F⟩:=z;show⟨_,rfl,by exists Z6 _;show E,λH G i I J b=>?_,by exists Jy _;show F⟩;have f:=G.ok dk ⋯;replace b:=ZQ▸b;cases D:l[i]? with|none=>replace b:=D▸b;cases b;|some x=>replace b:=D▸b;cases b;show Tg.ex f ?_;show⟨rfl,λM=>be f (n:=6) ⟨rfl,rfl⟩,λz=>nT z⟩
abbrev uv:AV->Option AV
 |.str x=>Z7 (.tup [.str (V4 x Z4 (Z7 1)),.str (V4 x (Z7 1) Z4++nl)])|_=>Z4
def Js:∀a:List (ZD×ZD),(∀r∈a,ik r)->((a.map dj).map AV.str).filterMap uv=aU a:=by intro a;induction a with|nil=>showλ_=>rfl;|cons r a d=>
  intro h;obtain⟨c,j,b,f,g,_⟩:=ow<|h r<|.head _;have e:uv (.str<|dj r)=Z7 (.tup [.str r.1,.str r.2]):=by show(?_:Z7 (AV.tup [.str (V4 (dj r) Z4<|Z7 1),.str (V4 (dj r) (Z7 1) Z4++nl)])=_);exists wt b,DD b,f;show aW g rfl
  show(ZJ Z3)▸?_;show(ZJ Z3)▸?_;show(ZJ YI)▸?_;show(ZJ e)▸?_;show(ZJ<|d λx i=>h x<|.tail _ i)▸?_;rfl
def abz{h:Hk}{K:Kn}{c:cW Y (f.map (·.1))}(C:Callee X Y (Z9 "_law_read") (aw gy) 280 (.ref 279))(s:∀r∈h.rows,ik r)(w:h.rows.length<=10000)(y:au P (i+1) e=h.rows.map dj)(A:P.length<=10000)(D:∀j,Sub ((Z9 "start",.int 0)::oq P first r b i e h.rows) j->Ex (Y.holds f c) j O (lc.drop 3) K):Ex (Y.holds f c) ((Z9 "end",.int e)::(Z9 "k",.int i)::om P first r b) O lc K:=by
 ext Y X P i e first r b f O h K;have g:=(C.ok ⋯).holds (hs:=f) (c:=c);show aq C.env λL m k=>?_;have u:(Y.holds f c).env=_:=m;have l:(10^5:Nat)<=Zo:=by exists Zx;decide
 show Ex.cons<|qx (g.loc _<|.inl ⋯) uv (eA (b9:=[]) C dk rfl dk dk λk h=>nM h).holds (by exists u;kernel_rfl) (λk=>rfl)<|It.lst<|Ev.to (.lst<|(h.rows.map dj).map .str) (Ev.slice ?_) ⟨_,rfl,?_⟩
 .show aj g rfl<|Ev.bin<|aj g rfl<|Ev.int<|Bn.add ⟨_,rfl,aj g rfl ⟨_,rfl,⟨P.map .str,.lst,by decide,by exists Z6 _;show(ay 0x6061c089824430f408f1e0414) A l rR,?_⟩⟩⟩;have E:eN (P.map AV.str) (Z7<|(i:Int)+1) (Z7 (e:Int)) Z4=(h.rows.map dj).map .str:=by exists(pick_run _ _ _ (<-(ak 0x6e227842f3))<|<-cf),ZJ y,VM,UM;rfl
  show⟨congrArg AV.lst E,rfl⟩
 exists Js _ s;show⟨by exists Z6 _,Z6 _;show(ay 0x6061c089824430f408f1e0414) w l rR,λH F t I J a=>?_,?_⟩;.have d:=F.ok dk ⋯;replace a:=ZQ▸a;cases o:(h.rows.map dj)[t]? with|none=>replace a:=o▸a;cases a;|some x=>replace a:=o▸a;cases a;obtain⟨r,G,rfl⟩:=Z0.mp<|YV o;obtain⟨c,M,N,_,_,_,_,_,p⟩:=ow<|s r G;show Tg.ex d ?_;show⟨rfl,λk=>be d (n:=8) ?_,λz=>nT z⟩;show stM<|Ev.to _ (qC<|aj d rfl<|Ev.int ⟨1,rfl,_,rfl,<-(ai 0x3021e0af0e06187a047e0414) l p gj,⟨rfl,rfl⟩⟩) ?_;show stM<|Ev.to _ (qC<|aj d rfl<|Ev.int ⟨1,rfl,_,rfl,<-(ai 0x3021e0af0e06187a047e0414) l p gj,⟨rfl,rfl⟩⟩) ?_;show stM<|ie (ZY (RT (Txt.slice_le _ _ _) _) (by show(?_:_+1<=_);show(ai 0x1810f05787030c3d023f02889e14) l p gj)) ?_;show⟨rfl,rfl,trivial⟩
 .show fx (b1:=(lc.drop 1).take 2) (b2:=lc.drop 3) g u ?_;show stM<|tq (c:="+") g (eA (b9:=[]) C dk rfl dk dk λk h=>nM h).holds (λk=>rfl) rfl (by omega) ?_;have v:((oA "+" h.rows).map AV.str).length=cnt "+" h.rows:=by unfold oA cnt;exists Z6 _;show aW (Z6 _) rfl
  have Q:=ku "+" h.rows;show ZK (by exists v;omega) ?_;exists v;show D _<|a0.ok ⋯
def wc(x y):aU (x++y)=aU x++aU y:=ZF
def wx(l):(dm l).length=l.length:=Z6 _
def abD{K:Kn}{b:List (ZD×ZD)}{c:cW Y (f.map (·.1))}(C:Callee X Y (Z9 "_law_read") (aw gy) 280 (.ref 279))(k:first.length<=10000)(v:b.length<=10000)(w:h.rows.length<=10000)(o:∀g,Sub (om P first r (h.old+cnt "+" h.rows)) g->K.nx g [(r,.list (aU (cT first (b,a) h).1))]):Ex (Y.holds f c) ((Z9 "start",.int (dJ h.old (cnt "+" h.rows):Nat))::oq P first r a i e h.rows) [(r,.list (aU b))] (lc.drop 4) K:=by
 ext Y X P first r a h f i e K b;have d:=(C.ok ⋯).holds (hs:=f) (c:=c);show aq C.env λL j l=>?_;have m:(Y.holds f c).env=_:=j;have n:(10^5:Nat)<=Zo:=by exists Zx;decide
 have p:(au first a h.old).length<=10000:=by unfold au;exists YJ,Zf;show(ay 0x6083c1241a0c4001025f) k
 have s:((dJ h.old (cnt "+" h.rows):Nat):Int)-min (cnt "+" h.rows:Int) 1=(h.old:Int):=by unfold dJ;split<;>omega
 have t:eN (first.map AV.str) (Z7 (a:Int)) (Z7 (h.old:Int)) Z4=(au first a h.old).map .str:=by rw[pick_run _ _ _ (<-cf) (<-cf),Zm,Zm];unfold au;exists VM;show aW UM rfl
 show fx (b1:=(lc.drop 4).take 1) (b2:=lc.drop 5) d m ?_;show Ex.sub (ρ':=(Z9 "start",.int h.old)::oq P first r a i e h.rows) (f4.ok ⟨ae _ rfl<|congrArg AV.int s,ae _ rfl rfl,ae _ rfl rfl,ae _ rfl rfl,ae _ rfl rfl,ae _ rfl rfl,ae _ rfl rfl,ae _ rfl rfl,ae _ rfl rfl,trivial⟩) ?_;show run d m ?_;show stM<|cV Xy W6 rfl rfl rfl<|aj d rfl ⟨⟨_,.inr ⟨r,rfl,.head _⟩⟩,Ev.bin<|xh d (eA (b9:=[]) C dk rfl dk dk λl h=>nM h).holds (λl=>rfl)<|Ev.slice ?_⟩;show aj d rfl<|aj d rfl ⟨_,rfl,aj d rfl ⟨_,rfl,⟨_,.lst,by decide,by rw[Z6];show(ay 0x6061c089824430f408f1e0414) k n rR,_,congrArg AV.lst t,<-(ay 0x6043c10381c430f408f260414) n p rR,?_⟩⟩⟩;show aj d rfl<|lq .lst .lst (by rw[eS,eS,wx];omega)<|oR (.head _) .lst (by rw[ZV,eS,eS,eS,wx];omega) ?_;have u:aK [(r,az.list<|aU b)] r (.list<|aU b++(aU (dm<|au first a h.old)++aU h.rows))=[(r,.list<|aU (cT first (b,a) h).1)]:=by unfold cT;rw[wc,wc,ZA];simp[aK]
 exists u;(conv=>whnf);show o _<|f4.ok ⟨ae _ rfl rfl,ae _ rfl rfl,ae _ rfl rfl,ae _ rfl rfl,trivial⟩
def Gl(P):(ar P).get? 280=Z7 vJ:=⋯
def Gk(P):(ar P).get? 279=Z7 Cc:=⋯
structure oY(first:List ZD)(H:List Hk):Prop where
 rows:∀h∈H,∀r∈h.rows,ik r
 old:∀h∈H,h.old+cnt "+" h.rows<599
 new:∀h∈H,h.new+cnt "-" h.rows<599
 lines:(cA H).length<=9000
 len:(jm first H).length<=9000
 first:first.length<=9000
abbrev pk(P:List ZD):AV->Option AV
 |.int k=>if eK (P.getD k.toNat ZP)=ZW then Z7 (.int k)else Z4|_=>Z4
def Kz:∀(a pre:List ZD),((TL pre.length a.length).map λ(t:Nat)=>AV.int (t:Int)).filterMap (pk (pre++a))=(pos pre.length a).map λt=>.int (t:Int):=by intro a;induction a with|nil=>showλpre=>rfl;|cons x a b=>
  intro pre;have p:=b<|pre++[x];rw[ZV,Y5,ZA]at p;have e:pk (pre++x::a) (.int (pre.length:Nat))=if eK x=ZW then Z7 (.int (pre.length:Nat))else Z4:=by show(?_:(if eK ((pre++x::a).getD ((pre.length:Nat):Int).toNat ZP)=ZW then _ else _)=_);rw[Zm,ZB,Y9<|ZR _,Wc];rfl
  exists ZO,Qq,Z3,YI,e;show(?_:_=(if eK x=ZW then pre.length::pos (pre.length+1) a else pos (pre.length+1) a).map _);cases eK x with|true=>show congrArg (_::·) p;|false=>show p
def Ky(P):(cg 0 P.length).filterMap (pk P)=(pos 0 P).map λt=>.int (t:Int):=by show PV ?_<|Kz P [];unfold cg;exists(show TL ([]:List ZD).length P.length=YY P.length from RJ.symm);congr 1;show Yo λt _=>by rw[Xw]
def abB(first):∀(H:List Hk)(a:List (ZD×ZD)×Nat),a.1.length<=(H.foldl (cT first) a).1.length:=by intro H;induction H with|nil=>showλa=>ZR _;|cons h H b=>showλa=>ZY (by unfold cT;rw[ZA,ZV];show Zp _ _)<|b _
def C5(a:(jm first H).length<=9000)(i):((H.take i).foldl (cT first) ([],0)).1.length<=9000:=by
 show ZY ?_ a;unfold jm;exists ZV;show ZY ?_<|Zp _ _;have e:H.foldl (cT first) ([],0)=(H.drop i).foldl (cT first) ((H.take i).foldl (cT first) ([],0)):=by rw[<-YU,Yz]
 exists e;show abB _ _ _
abbrev ek(H:List Hk):List ZD:=if H=[]then[]else[Z9 "--- ",Z9 "+++ "]
def sO(H):cA H++[ZP]=ek H++H.flatMap cN++[ZP]:=rfl
def abl(R:oY first H):pos 0 (cA H++[ZP])=(dX (ek H).length H).map (·.1):=by
 rw[sO,ZA,CQ,abk _ _ R.rows,W8];have p:pos 0 (ek H)=[]:=by unfold ek;split<;>rfl
 rw[p];rfl
def Ef(H):jv ((dX (ek H).length H).map λp=>.int (p.1:Int)) (((dX (ek H).length H).map λp=>AV.int (p.1:Int)).drop 1++[.int (((cA H++[ZP]).length:Int)-1)])=(dX (ek H).length H).map λp=>.tup [.int (p.1:Int),.int (p.2:Int)]:=by cases H with|nil=>rfl;|cons h H=>
  have e:=abt H h (ek (h::H)).length;have a:(((cA (h::H)++[ZP]).length:Int)-1)=(((ek (h::H)).length+((h::H).flatMap cN).length:Nat):Int):=by rw[sO,ZV,ZV];show(?_:(((_+_+1:Nat)):Int)-1=_);show(af 0x76d1106427da227c4415)
  have b:((dX (ek (h::H)).length (h::H)).map λp=>AV.int (p.1:Int)).drop 1++[.int (((cA (h::H)++[ZP]).length:Int)-1)]=(dX (ek (h::H)).length (h::H)).map λp=>.int (p.2:Int):=by exists a;have e:=congrArg (TY λt:Nat=>AV.int (t:Int)) e;rw[ZF,YE,List.map_tail,YE]at e;exists List.drop_one;show e
  exists b;unfold jv;exists List.zip_map',YE;rfl
def abr:∀(H:List Hk)(m:Nat),(dX m H).length=H.length:=by intro H;induction H with|nil=>showλm=>rfl;|cons h H a=>showλm=>congrArg (·+1)<|a _
def Kq(c:h.old+cnt "+" h.rows<599)(d:h.new+cnt "-" h.rows<599):(hb h).length<=100:=by have a:=k8 (i:=h.old) (j:=cnt "+" h.rows) (<-cf) (<-(ai 0x67109be230e04187a047f0416) c gl) (<-cf) (<-(ai 0x67109be211e04187a047f0416) c gl);have b:=k8 (i:=h.new) (j:=cnt "-" h.rows) (<-cf) (<-(ai 0x67109be230e04187a047f0416) d gl) (<-cf) (<-(ai 0x67109be211e04187a047f0416) d gl);unfold hb;simp only[Za];show(?_:4+_+2+_+3<=_);show(af 0x18fbc38fbc582c08f891f11446f884af1) a b
def CH(R:oY first H)(h:x∈cA H++[ZP]):x.length<=100:=by
 revert R h;injections first H x;intro R h;rw[sO,ZA]at h;rcases ZS.mp h with h|h
 .unfold ek at h;split at h;.cases h
  .rcases Z1.mp h with rfl|h;.decide
   .rcases ZM.mp h with rfl;decide
 .rcases ZS.mp h with h|h
  .obtain⟨g,a,h⟩:=XW.mp h;rcases Z1.mp h with rfl|h;.show Kq (R.old _ a)<|R.new _ a
   .obtain⟨r,b,rfl⟩:=Z0.mp h;obtain⟨_,_,_,_,_,_,_,_,l⟩:=ow<|R.rows _ a r b;show(ak 0x30578705811e10) l
  .rcases ZM.mp h with rfl;decide
def abE(u:X.A.depth<ZU)(Z:VV b nl=cA H++[ZP])(v:b.length<=Zo)(R:oY first H)(hk:k (.lst (aU (jm first H))) O):ax X W O (.ref 280) [.str b,.lst (first.map .str)] k:=by
 ext b H first k X W O;show ax.def (name:=Z9 "_law_read") (params:=cY gy) (body:=aA gy) (scope:=aw gy) (pm:=_) (ca:=279) (doc:=_) (ns:=[Z9 "text",Z9 "first"]) u (Gl _) rfl (Gk _) rfl rfl (λvs h=>?_) dk dk dk rfl rfl rfl λY C=>?_;.show kS h λg g=>rfl
 ext Y;have c:=C.ok ⋯;show aq C.env λL G g=>?_;have o:(10^5:Nat)<=Zo:=by exists Zx;decide
 have j:=R.lines;have F:=R.first;have l:(cA H++[ZP]).length=(cA H).length+1:=by exists ZV;rfl
 show fx (b1:=(aA gy).take 3) (b2:=(aA gy).drop 3) c G ?_;show stM<|Ev.to _ (Ev.sm Xe U2 rfl rfl (by decide) rfl<|aj c rfl ⟨_,rfl,.cons rfl<|.str<|.nil<|ax.split (by decide) Z v (<-(aV 0x1810f0526a22790381c430f408f2e0417) o j l pF) ⟨rfl,rfl⟩⟩) ?_;show stM<|Ev.list<|.nil ⟨ZZ _,λr g=>?_⟩;show Ex.cons<|qx (c.loc _<|.inl ⋯) (pk<|cA H++[ZP]) (eA (b9:=[(Z9 "parts",.lst<|(cA H++[ZP]).map .str)]) C dk rfl dk dk ?_) (by exists G;kernel_rfl) (λg=>rfl)<|xB rfl (c.ld ⋯ ⋯)<|.cons rfl<|be c (n:=8) ?_;.intro p y;rcases ZM.mp y with rfl;show⟨rfl,⋯⟩
 show ZK (by rw[Z6];show(ay 0x3041ea2278c3814430f408f270414) j l u3) ?_;rw[Z6];show bm.nil ⟨_,rfl,<-nX,<-(ay 0x3041ea2278c3814430f408f270414) j l (by decide:(9000+4000:Nat)<=4611686018427387904),?_⟩;rw[Zm,Ky,abl R,YE];show⟨by exists wb;show(aV 0x1810f0526a22790381c430f408f2e0417) o j l pF,λY' I t J Oc a=>?_,?_⟩
 .revert I a;injections Y' t J Oc;intro I a;obtain⟨v,rfl⟩:=sS a;have m:=I.ok dk ⋯;rw[Xw];show Tg.ex m ?_;show bL m (n:=8) ?_;show stM<|qC<|Ev.sub<|aj m rfl<|aj m rfl<|Ix.list (x:=.str<|(cA H++[ZP]).getD t ZP) trivial .lst (<-cf) (<-(aV 0x1820f5113c65c943814430f408f270417) j l v u3) (by rw[Zm,ZQ,Z2 v,ZB,Z2 v];rfl) ?_;show Ev.int ⟨1,rfl,_,rfl,?_,?_⟩;.exists ZB,Z2 v;show ZY (CH R<|S4 v) (<-(af 0x1808b020c3d023f012c08f1) o gj)
  have eg:pk (cA H++[ZP]) (.int (t:Int))=if eK ((cA H++[ZP]).getD t ZP)=ZW then Z7 (.int (t:Int))else Z4:=rfl;show br rfl (λz=>be m (n:=5) ⟨rfl,?_,trivial⟩) λz=>?_;.exists eg;show if_pos z
  .exists eg;show if_neg (by exists(show eK _=ZX from z);decide)
 .rename_i q0;clear q0;revert G o j F l g;ext L r;have A:=abr H (ek H).length;have pm:H.length<=(cA H).length:=by
   have:H.length<=(H.flatMap cN).length:=by clear A hk R l j Z;induction H with|nil=>show ZR _;|cons h H ih=>exists Zh,ZV;unfold cN at*;simp only[ZO]at*;show(ai 0x3030e223889e2889e12) ih
   have e:cA H=ek H++H.flatMap cN:=rfl;exists e,ZV;show(ai 0xc0c3888c412) this
  show Ex.cons<|Es.down<|d5 (λg=>rfl)<|ch.zip rfl (c.ld ⋯ ⋯)<|.cons rfl<|aj c rfl<|.cons rfl<|Ev.to (.lst<|((dX (ek H).length H).map λp=>AV.int (p.1:Int)).drop 1++[.int (((cA H++[ZP]).length:Int)-1)]) (Ev.bin<|Ev.slice<|aj c rfl<|Ev.int ⟨1,rfl,⟨_,.lst,by decide,?_,?_⟩⟩)<|.nil ⟨_,_,rfl,by rw[Z6,ZV,YJ,Z6];show(?_:_<=_+1);omega,?_⟩;.rw[Z6,A];show(aV 0x3021e0a4c10381c430f408f2e0417) o j pm pF
  .exists(vV _ _<|by decide);show dq<|.cons rfl<|be c (n:=8) ?_;show ZK (by rw[Z6];show(ay 0x3041ea2278c3814430f408f270414) j l u3) ?_;rw[Z6 (as:=cA H++[ZP])];show .nil ⟨ZY (show 1<=10^5 by decide) o,?_⟩;show lq .lst .lst (by rw[YJ,Z6,A];show(?_:_+1<=_);omega) ⟨rfl,rfl⟩
  show⟨λi f M=>M=[(r,.list<|aU ((H.take i).foldl (cT first) ([],0)).1)]/\Sub (om (cA H++[ZP]) first r ((H.take i).foldl (cT first) ([],0)).2) f,⟨rfl,a0.ok ⋯⟩,λg g g g=>trivial,?_,?_⟩;.rintro i J f M N c' a⟨rfl,d⟩;revert J c' a d;ext i f N;have a:=(congrArg (·[i]?)<|Ef H).symm.trans a;replace a:=ZQ▸a;cases y:(dX (ek H).length H)[i]? with|none=>replace a:=y▸a;cases a;|some p=>
    replace a:=y▸a;cases a;obtain⟨h,Q,hP,S,D,U⟩:=abq H (ek H) i p y;have V:=YV Q;have lg:=A;rw[<-sO]at hP S D;have lr:h.rows.length<=10000:=by have:=congrArg Qg S;unfold au at this;rw[YJ,Zf,Z6]at this;show(fk 0x60a4d444f21b419444f150c7c0e29881e5c0c20008c7f) j l this rQ
    have la:=C5 R.len i;have ls:=R.old h V;have ln:=R.new h V;show Tg.ex c.holds ?_;show Ex.sub (Sub.cc (Sub.cc d _ _) _ _) ?_;show abz C (R.rows h V) lr S (<-(ay 0xc107a889e30e0514c40f260414) j l rQ) λρ1 h1=>?_;show Ex.sub h1<|Ex.cons<|abA C (<-sf ls) (<-sg ls) (<-sf ln) (<-sg ln) hP (<-(gq 0x3041ea2278cb929b260e0514c40f26441d) j l D U rQ) λρ2 h2=>Ex.sub h2<|abD C (<-(ai 0x3030e0514c40f1e0411) F rQ) (by omega) lr λρ3 h3=>?_;show⟨?_,?_⟩;.rw[Zc,Q,Ys,YU];rfl
    .rw[Zc,Q,Ys,YU];show h3
  ·rintro f M⟨rfl,d⟩;have E:(jv _ _).length=H.length:=(congrArg Qg<|Ef H).trans (by rw[Z6,A]);have E:=congrArg (λn=>H.take n) E;replace E:=YQ▸E;have lz:=C5 R.len H.length;replace lz:=YQ▸lz;have eR:∀T,T=H->Sub (om (cA H++[ZP]) first r (T.foldl (cT first) ([],0)).2) f->∀K,Ex Y (om (cA H++[ZP]) first r (H.foldl (cT first) ([],0)).2) [(r,.list<|aU (H.foldl (cT first) ([],0)).1)] [aT (aA gy) 5] K->∃s,Sub s f/\Ex Y s [(r,.list<|aU (T.foldl (cT first) ([],0)).1)] [aT (aA gy) 5] K:=by rintro T rfl h K hh;show ae _ h hh
   show eR _ E d _ ?_;generalize hw:H.foldl (cT first) ([],0)=w at*;show Ex.cons<|Es.ret<|Ev.bin<|aj c rfl<|xh c (eA (b9:=[]) C dk rfl dk dk λg h=>nM h) (λg=>rfl)<|Ev.slice ?_;show aj c rfl<|aj c rfl ⟨w.2,rfl,⟨_,.lst,by decide,by rw[Z6];show(ay 0x6043c10381c430f408f260414) o F pF,first.drop w.2,congrArg AV.lst<|by rw[vV _ _ (Yy _),Zm,VM],by rw[YJ];show(aV 0x303260a1c122187a04797039082001446f) o F pF,?_⟩⟩;show lq (.inr ⟨r,rfl,.head _⟩) .lst (by rw[eS,eS,wx,YJ];omega) ?_;show ae _ (.inl rfl) ?_;have:jm first H=w.1++dm (first.drop w.2):=by exists ZJ hw;rfl
   rw[<-wc,<-this];show hk
structure qL(a b:List ZD)(lg:Nat)(R:List (ZD×ZD)):Prop where
 old:oA "+" R=a
 new:oA "-" R=b
 ap:xJ (hA b) lg R
 len:R.length<=1400
 sign:∀r∈R,lI r
 short:∀r∈R,r.1.length+r.2.length<=1000
 la:a.length<=1100
 lb:b.length<=1000
structure TurnOk(a b:List ZD)(R:List (ZD×ZD))(m:Int)(told:List ZD):Prop where
 nn:0<=m
 join:JoinOk ZP told=true
 text:(VL ZP told).length<=Zo
 len:told.length<=10000
 read:∃H,VV (VL ZP told) nl=cA H++[ZP]/\oY a H/\jm a H=R
 df:dH R m=told
 nil:(told==[])=(a==b)
abbrev A2(m n:Int)(a b c:List ZD)(d:Nat)(r:Zw):Loc:=(Z9 "told",.lst<|c.map .str)::(Z9 "around",.int m)::pN n a b d r
abbrev vo:List YR:=bW<|aT (aA bh) 6
def A3{K:Kn}{c:cW Y (f.map (·.1))}(C:Callee X Y (Z9 "law") (aw bh) 314 (.ref 313))(x:Y.A.depth+8<ZU)(y:Y.A.units+17<Xo)(D:i<2)(A:qL a b g R)(T:TurnOk a b R m d)(h:∀j,Sub (pN n a b g r) j->K.nx j [(r,.list (Zt (i+1) (.lst (aU R))))]):Ex (Y.holds f c) (A2 m n a b d g r) [(r,.list (Zt i (.lst (aU R))))] vo K:=by
 ext Y X i a b g R m d n r f K;have e:=(C.ok ⋯).holds (hs:=f) (c:=c);show aq C.env λL t p=>?_;have E:(Y.holds f c).env=_:=t;have u:(10^5:Nat)<=Zo:=by exists Zx;decide
 have k:(Y.holds f c).A.units<Xo:=Yx (Zp _ _) y;have l:(Y.holds f c).A.depth<ZU:=Yx (Zp _ _) x;have v:(Y.holds f c).A.depth+1<ZU:=Yx (WU (by decide) _) x;have o:(Y.holds f c).A.units+3<Xo:=Yx (WU (by decide) _) y;obtain⟨H,w,F,G⟩:=T.read;have s:=A.len;show fx (b1:=vo.take 2) (b2:=vo.drop 2) e E ?_;show stM<|Ev.sm Se Sd rfl rfl (by decide) rfl<|Ev.str ⟨_,rfl,.cons rfl<|aj e rfl<|.nil<|ax.join .lst (by exists vQ;show T.join) ?_⟩;exists vQ;show stM<|abE l w T.text F ?_;exists G;show stM<|cV Zj Zi rfl rfl rfl<|aj e rfl ⟨⟨_,.inr ⟨r,rfl,.head _⟩⟩,aj e rfl<|ax.append (.head _) (by exists Xa;show(ai 0x323787021e06187a047e0414) D u gj) ?_⟩;have I:aK [(r,az.list<|Zt i<|AV.lst<|aU R)] r (.list<|Zt i (.lst<|aU R)++[.lst (aU R)])=[(r,.list<|Zt (i+1)<|.lst<|aU R)]:=by exists ZJ List.replicate_succ';simp[aK]
 exists I;show Ex.sub (ρ':=(Z9 "rows",.lst<|aU R)::A2 m n a b d g r) (a0.ok ⋯) ?_;show Ex.cons<|Es.ite<|Ts.to ZX (Ts.cmp rfl<|tq (c:="+") e (eA (b9:=[]) C dk rfl dk dk λp h=>nM h).holds (λp=>rfl) rfl (<-(ai 0x3021e3306404f0e06187a047e0414) u s gj)<|aj e rfl<|tj k .lst .lst ⟨?_,rfl⟩) ⟨λz=>(nF z),λ_=>Ex.nil ?_⟩;.exists A.old;simp
 show Ex.cons<|Es.ite<|Ts.to ZX (Ts.cmp rfl<|tq (c:="-") e (eA (b9:=[]) C dk rfl dk dk λp h=>nM h).holds (λp=>rfl) rfl (<-(ai 0x3021e3306404f0e06187a047e0414) u s gj)<|aj e rfl<|tj k .lst .lst ⟨?_,rfl⟩) ⟨λz=>(nF z),λ_=>Ex.nil ?_⟩;.exists A.new;simp
 show Ex.cons<|Es.ite<|Ts.to ZX (bL e (n:=8) ?_) ⟨λz=>(nF z),λ_=>Ex.nil ?_⟩
 .show stM<|HW v o (<-(af 0x63306404f0e04187a047e4411) s gj) T.nn A.short ?_;exists T.df;show stM<|tj k .lst .lst ⟨λ_=>?_,λz=>?_⟩
  .show stM<|dq<|.nil ⟨ZZ _,?_⟩;show stM<|ti (xs:=d) (ys:=[]) k .lst .lst ?_;show stM<|ti (xs:=a) (ys:=b) k .lst .lst ?_;show stM<|ED ⟨λ_=>?_,λz=>?_⟩
   .show stM<|Ts.plain (be e (n:=8) ?_) rfl;show stM<|FK l o (<-(ak 0xc660c809e1c760f809e10) s) A.sign A.ap ?_;show Tr.bool ?_;show ZK (λ_=>?_) λz=>?_;.show⟨rfl,rfl⟩
    .show nF z
   .exfalso;have z:((d==[])!=(a==b))=ZW:=z;rw[T.nil,bne_self_eq_false]at z;cases z
  .exfalso;have Q:(d !=d)=ZX:=bne_self_eq_false _;have z:(d !=d)=ZW:=z;replace z:=Q▸z;cases z
 .show Ex.nil<|h _<|a0.ok ⋯
def M2{K:Kn}(C:Callee X Y (Z9 "law") (aw bh) 314 (.ref 313))(y:Y.G=U4)(p:Y.A.depth+8<ZU)(k:Y.A.units+17<Xo)(A:qL a b o R)(E:mO a b 3)(F:mO a b n)(G:eB a b (cy 3 (bH a b))=m.map .str)(H:eB a b (cy n (bH a b))=j.map .str)(I:TurnOk a b R 3 m)(J:TurnOk a b R n j)(M:Sub (pN n a b o r) t)(h:K.rt (.bool ZW) [(r,.list (Zt 2 (.lst (aU R))))]):Ex Y t [(r,.list [])] ((aA bh).drop 6) K:=by
 ext X Y a b o R n m j r t K;have e:=C.ok ⋯;have u:(10^5:Nat)<=Zo:=by exists Zx;decide
 have z:=e.ld (x:=Z9 "list") (v:=.type "list") ⋯ ⋯;have D:=e.ld (x:=Z9 "unified_diff") (v:=.ref 261) ⋯ ⋯;show Ex.sub M ?_;show Ex.cons<|Es.down<|d5 (λs=>rfl)<|ch.lst<|Ev.to (.lst [.tup [.int n,.lst (j.map .str)],.tup [.int 3,.lst (m.map .str)]]) (dq<|.cons rfl<|Ev.to (.tup [.int n,.lst (j.map .str)]) (Ev.tuple<|.cons rfl<|aj e rfl<|.cons rfl<|EU e rfl rfl rfl z D y p k F<|.nil ⟨ZY (show 2<=10^5 by decide) u,?_⟩)<|.cons rfl<|Ev.tuple<|.cons rfl<|.int<|.cons rfl<|ET e rfl rfl z D y p k E<|.nil ⟨ZY (show 2<=10^5 by decide) u,.nil ⟨ZY (show 2<=10^5 by decide) u,?_⟩⟩) ⟨_,rfl,?_⟩;.show⟨by rw[H],rfl⟩
 .show⟨by rw[G],rfl⟩
 show⟨λi f w=>w=[(r,.list<|Zt i<|.lst<|aU R)]/\Sub (pN n a b o r) f,⟨rfl,Sub.refl _⟩,λs s s s=>trivial,?_,?_⟩;.rintro i O f w N Q d⟨rfl,c⟩;match i,d with
 |0,d=>cases d;show Tg.ex e.holds ?_;show Ex.sub (Sub.cc (Sub.cc c _ _) _ _)<|A3 C p k (by decide) A J λl g=>⟨rfl,g⟩;|1,d=>cases d;show Tg.ex e.holds ?_;show Ex.sub (Sub.cc (Sub.cc c _ _) _ _)<|A3 C p k (by decide) A I λl g=>⟨rfl,g⟩
 .rintro f w⟨rfl,c⟩;show ae _ c ?_;show Ex.cons<|Es.ret<|Ev.cmp rfl<|Ev.sub<|aj e rfl<|Ev.int<|Ix.list (x:=.lst<|aU R) trivial (.inr ⟨r,rfl,.head _⟩) (by decide) (by decide) rfl<|Ev.sub<|aj e rfl<|Ev.int<|Ix.list (x:=.lst<|aU R) trivial (.inr ⟨r,rfl,.head _⟩) (by decide) (by decide) rfl<|EB (Yx (WU (by decide) _) k) ?_;show h
def AB(l):(VL ZP l).cps.toList=(l.map λx=>x.cps.toList).flatten:=by have e:VL ZP l=WJ ZP l:=Sf _ _;exists e,join_nil _;rfl
def I1{a:Type}{B:Nat}:∀{l:List (List a)},(∀x∈l,x.length<=B)->l.flatten.length<=l.length*B:=by intro l;induction l with|nil=>showλ_=>ZZ _;|cons x l b=>intro h;have:=b λy c=>h y<|.tail _ c;have:=h x<|.head _;exists TN,ZV,ZO,Nat.add_mul _ _ _,Nat.one_mul _;show(ay 0x1818b040e2241c4411) ‹_› this
def acG(x:ZD):x.length=x.cps.toList.length:=rfl
def LH{B:Nat}(h:∀x∈l,x.length<=B):(VL ZP l).length<=l.length*B:=by
 exists acG _,AB _;have p:=I1 (B:=B) (l:=l.map λx=>x.cps.toList) λx a=>by obtain⟨y,b,rfl⟩:=Z0.mp a;show h y b
 rwa[Z6]at p
def KA(h):jI h.old (cnt "+" h.rows) h.new (cnt "-" h.rows)=hb h++nl:=by unfold jI hb;exists(show Z9 " @@\n"=Z9 " @@"++nl from by decide);rw[Y2,Y2,Y2,Y2,Y2,Y2,Y2]
def ada(a:∀h∈H,∀r∈h.rows,ik r):(if H.flatMap iG=[]then[]else[Z9 "--- \n",Z9 "+++ \n"]++H.flatMap iG)=(cA H).map (·++nl):=by
 have e:H.flatMap iG=(H.flatMap cN).map (·++nl):=by rw[SY];induction H with|nil=>rfl;|cons h H b=>exists Zh;rw[Zh,b λx c=>a x (.tail _ c)];congr 1;unfold iG cN;exists Z3;rw[KA,YE];congr 1;show Yo λr d=>?_;obtain⟨_,_,_,_,_,_,_,e,_⟩:=ow<|a h (.head _) r d;show e
 unfold cA;cases H with|nil=>rfl;|cons h H=>exists(if_neg<|show¬(h::H).flatMap iG=[]from Yv _ _);rw[if_neg (Yv _ _),e,ZF];congr 1
def Kr(a:h.old+cnt "+" h.rows<599)(b:h.new+cnt "-" h.rows<599):10∉(hb h).cps.toList:=by
 unfold hb;intro q;rw[YS,YS,YS,YS,YW,YW,YW,YW]at q;rcases ZS.mp q with q|q
 .rcases ZS.mp q with q|q
  .rcases ZS.mp q with q|q
   .rcases ZS.mp q with q|q;.revert q;decide
    .have p:=v9 (<-sf a) (<-sg a) q;show(Ar.bA 0x1 0x1e103f8d404f5bf0b7c6027e9b013d6f [] [] ⋯ p).elim
   .revert q;decide
  .have p:=v9 (<-sf b) (<-sg b) q;show(Ar.bA 0x1 0x1e103f8d404f5bf0b7c6027e9b013d6f [] [] ⋯ p).elim
 .revert q;decide
def d6.hk(P:d6 a b)(H:mH (bB a b) h):h.old+cnt "+" h.rows<599/\h.new+cnt "-" h.rows<599/\∀r∈h.rows,ik r:=by obtain⟨_,c,d⟩:=P.len;have:=H.old;have:=H.new;have:=P.ha;have:=P.hb;show⟨<-(ay 0x3431605120715841e3ce2137c4814) c ‹_› ‹_›,<-(ay 0x3431605120715841e3ce2137c4814) d ‹_› this,λr e=>P.row<|H.rows r e⟩
def HV{R:List a9}(a:0<=n):∃H:List Hk,dH R n=(if H.flatMap iG=[]then[]else[Z9 "--- \n",Z9 "+++ \n"]++H.flatMap iG)/\jm (dD R) H=R/\∀h∈H,mH R h:=by revert a;injections n R;intro a;obtain⟨H,b,c,d⟩:=aby R (N:=min n R.length) (<-(jc 0xd89c17ee811382f9) a);show⟨H,?_,c,d⟩;unfold dH;show aW b rfl
def NR(l):fr (dm l)=l:=vC " " (by decide) l
def d6.turn(P:d6 a b)(n:Nat)(j:a=b->dH (bB a b) n=[]):TurnOk a b (bB a b) n (dH (bB a b) n):=by
 revert P j;injections a b n;intro P j;obtain⟨H,e,g,i⟩:=HV (R:=bB a b) (n:=n) (Yy n);ext H;have k:∀h∈H,∀r∈h.rows,ik r:=λh f=>(P.hk<|i h f).2.2;replace e:=(ada k)▸e;rw[wf]at g;have l:=(P.ud n).2.2;have o:(cA H).length<=2100:=by rw[e,Z6]at l;show l
 have p:=P.len.1;have m:oY a H:=⟨k,λh f=>(P.hk<|i h f).1,λh f=>(P.hk<|i h f).2.1,<-(af 0x62b01406f0e04187a047e0411) o k9,by exists g;show(af 0x184c40f0e04187a047e0411) p k9,by have Q:=P.ha;show(af 0x18ac20f0e04187a047e0411) Q k9⟩;have d:∀y∈dH (bB a b) n,y.length<=110:=by exists e;intro y c;obtain⟨x,s,rfl⟩:=Z0.mp c;have Q:=CH m<|Zk _ s;exists Za _ _;show(ak 0x60b023c387c08f889e10) Q
 have t:=LH d;show⟨Yy n,AA d<|by omega,?_,<-(af 0x62b01406f0e04187a047e0411) l (by decide:(4000:Nat)<=10000),⟨H,?_,m,g⟩,rfl,?_⟩;.exists Zx;show ZY t (by omega)
 .exists e;show acB λy c=>?_;unfold cA at c;rcases ZS.mp c with c|c
  .split at c;.cases c
   .rcases Z1.mp c with rfl|c;.decide
    .rcases ZM.mp c with rfl;decide
  .obtain⟨h,f,c⟩:=XW.mp c;rcases Z1.mp c with rfl|c;.show Kr (P.hk<|i h f).1 (P.hk<|i h f).2.1
   ·obtain⟨r,u,rfl⟩:=Z0.mp c;obtain⟨_,_,_,_,_,q,_⟩:=ow<|k h f r u;show q
 .by_cases q:a=b;.exists j q,q,beq_self_eq_true _;show(beq_self_eq_true _).symm
  .exists(show(a==b)=ZX from beq_false_of_ne q);show beq_false_of_ne λz=>q ?_;have v:H=[]:=by cases H with|nil=>rfl;|cons h H=>replace z:=e▸z;cases z
   replace g:=v▸g;have g:dm a=bB a b:=g;have Q:=we a b;rw[<-g,NR]at Q;show Q
def GN(a)(S):(dr a a S 0 a.length 0 a.length).i=(dr a a S 0 a.length 0 a.length).j:=by
 ext a S;have B:=(t0 (a:=a) (b:=a) (S:=S) (aG:=0) (aC:=0) (ZR _) (ZR _)<|ZZ _).best;generalize dr a a S 0 a.length 0 a.length=st at*;obtain⟨m,i,j⟩:=st;obtain⟨z,o,t⟩:=B;dsimp only at*;by_cases h:m=0;·have p:=z h;show(af 0xfe82f1682f0e8411) p
 .have r:=o<|XZ h;have d:Run a a S 0 a.length 0 a.length i i m:=⟨ZZ _,r.p1,ZZ _,r.p1,λt c=>⟨rfl,(r.eq t c).2⟩⟩;have e:Run a a S 0 a.length 0 a.length j j m:=⟨ZZ _,r.q1,ZZ _,r.q1,λt c=>⟨rfl,by have p:=r.eq t c;exists ZB,ZJ p.1,ZJ ZB;show p.2⟩⟩;have f:=(t i i m (XZ h) d).2 rfl;have g:=(t j j m (XZ h) e).2 rfl;show(af 0x81fc045a087210881fc085a107220e8410) f g
def aca(h:0<a.length):bF a a=[⟨0,0,a.length⟩]:=by
 have d:=GN a λx=>!a5 a x;have f:=lK (a:=a) (b:=a) (S:=λx=>!a5 a x) (aG:=0) (aC:=0) (ZR _) (ZR _) (ZZ _)<|ZZ _;have c:(aX a a (λx=>!a5 a x) 0 a.length 0 a.length).i=(aX a a (λx=>!a5 a x) 0 a.length 0 a.length).j:=by unfold aX;dsimp only;show aW d rfl
 have i:b6 a a 0 a.length 0 a.length=⟨0,0,a.length⟩:=by unfold b6;generalize aX a a (λx=>!a5 a x) 0 a.length 0 a.length=k at*;obtain⟨p,r,j,s,l,g,t,m,n⟩:=f;have e:k.i=0:=Yl λq=>m (<-(ak 0x1ed05e1c842f3) q) (<-(af 0xd045ed05e2c842f2) c q) (<-aW c rfl);have o:k.p=a.length:=Yl λq=>n (<-pQ j q) (<-(aV 0x1a2170116a3228c82d05e5f6823c844000066f) c l g e q) (by show aW (show k.q=k.p by show(ay 0x34326a3220861d05e4d082000045f) c g e) rfl);exists ZJ c,e,o;rfl
 unfold bF;exists vU _ _ _ _ _ _,i;dsimp only;exists(if_neg<|<-pS h),(if_neg<|<-Ar.bA 0x1 0xf7f21785f90bc2f [] [] ⋯),(if_neg<|<-(ak 0x3dfc86210bf218842f5));rfl
def ab9(h:0<a.length)(n:Nat):dH (bB a a) n=[]:=by
 have e:bB a a=a.map (Z9 " ",·):=by unfold bB;exists aca h;show(?_:bJ a a 0 0 0 0++(iH a ⟨0,0,a.length⟩++bJ a a (0+a.length) a.length (0+a.length) a.length)=_);unfold bJ iH;rw[W8,hZ<|ZR _,hZ<|ZR _,wi];simp
 have b:∀x∈bB a a,sp x=ZW:=by exists e;intro x c;obtain⟨y,_,rfl⟩:=Z0.mp c;show beq_self_eq_true _
 unfold dH;exists(show(min (n:Int) ((bB a a).length:Int))=((min n (bB a a).length:Nat):Int)by show(af 0xeda820d0410));rw[ua,y0 b];rfl
def d6.ado(P:d6 a b)(n:Nat):TurnOk a b (bB a b) n (dH (bB a b) n):=P.turn n λe=>by subst e;show ab9 (by have p:=P.ne;show(ak 0x40c842fc842fc842f0) p) n
def zT(b)(x):aP (hA b) x=a5 b x:=by
 ext b x;have h:mh b x=a5 b x:=by
  unfold mh a5;exists uR _ _;congr 1;by_cases q:b.length/100+1<b.count x;.exists decide_eq_true q;show aW (decide_eq_true<|<-(ay 0x191444f268311cc85811f92c08f1f27213c45811e14) q (Yt (b.length) 100)<|Uf (b.length) (by decide:100>0)) rfl
  .exists decide_eq_false q;show aW (decide_eq_false<|<-(ay 0x1ec8a227934188e642c08ff727213c45811e16) q<|Yt (b.length) 100) rfl
 have c:x∉b->a5 b x=ZX:=λq=>by unfold a5;exists uR _ _,List.count_eq_zero_of_not_mem q,(decide_eq_false (p:=b.length/100+1<0)<|<-(ak 0xf642f889e13));show aW (PM _) rfl
 unfold aP hA;by_cases q:x∈b;.cases e:a5 b x with|true=>show UX.mpr ⟨x,Xv.mpr ⟨q,h.trans e⟩,beq_self_eq_true _⟩;|false=>show QG.mpr λy a z=>?_;have t:=eq_of_beq z;subst t;have t:=(Xv.mp a).2;replace t:=e▸h▸t;cases t
 .exists c q;show QG.mpr λy a z=>q ?_;exists ZJ<|eq_of_beq z;show(Xv.mp a).1
abbrev iY(n:Nat)(L:Nat->Nat)(j:Nat):Nat:=if j<n then L j else 0
def abo(L)(h:j<=n):bD (iY n L) j=bD L j:=by cases j with|zero=>rfl;|succ j=>show if_pos h
structure E8(a b:List ZD)(S:ZD->Bool)(i:Nat)(st:mK):Prop where
 L:lF a b S 0 a.length 0 b.length i (iY b.length st.L)top:∀p q m,p+m<=i->Run a b S 0 a.length 0 b.length p q m->m<=st.m
 GG:st.m=0\/∃p q,Run a b S 0 a.length 0 b.length p q st.m
def Mo(a b:List ZD)(S):∀i,i<=a.length->E8 a b S i (fi b S (a.take i)):=by injections a b S;intro i;induction i with
 |zero=>
  intro _;show⟨λj m d=>⟨λh=>?_,?_⟩,λp q m h _=>?_,.inl rfl⟩
  .have Q:iY b.length (λ_=>0) j=0:=by unfold iY;split<;>rfl
   have h:m<=iY b.length (λ_=>0) j:=h;show((af 0xc842fd05e2f60411) d Q h).elim
  .rintro⟨p,q,e,_⟩;show(ai 0x1a0be211e041a) e
  .show(af 0x3017c422c05e12) h;|succ i C=>
  intro o;ext i;obtain⟨D,E,F⟩:=C (<-nE o);have l:a[i]?=Z7 a[i]:=Z2 o;have s:a.getD i ZP=a[i]:=by exists ZB,l;rfl
  generalize G:a[i]=x at l s;exists Zc,l,Ys _,AL _ _ _ _;generalize fi b S (a.take i)=st at*;have g:lF a b S 0 a.length 0 b.length (i+1) (iY b.length<|dC b S st.L x):=by
   intro j m d;by_cases f:j<b.length
   .have w:b[j]?=Z7 (b.getD j ZP):=by exists ZB,Z2 f;rfl
    have k:iY b.length (dC b S st.L x) j=dC b S st.L x j:=if_pos f;exists k;cases c:b.getD j ZP==x&&S x with|true=>rw[YK]at c;exists AK c.1 c.2,ZJ<|abo (n:=b.length) st.L<|Ye f;show BB D (ZZ _) o (ZZ _) f (by exists l,w;show aW (eq_of_beq c.1) rfl) (by exists s;show c.2) m d;|false=>exists vc c;show⟨λh=><-(nJ d h).elim,?_⟩;rintro⟨p,q,y,t,r⟩;exfalso;obtain⟨m,rfl⟩:∃n,m=n+1:=⟨m-1,<-jM d⟩;obtain⟨_,u,v⟩:=Dg r y t;replace v:=s▸v;replace u:=w▸l▸u;rw[<-Zs u,v,beq_self_eq_true]at c;cases c
   .have k:iY b.length (dC b S st.L x) j=0:=if_neg f;exists k;show⟨λh=><-(nJ d h).elim,?_⟩;rintro⟨p,q,y,t,r⟩;have Q:=r.q1;show(ay 0x1ec8c3a889e1888981c444c05e21) f t Q
  obtain⟨⟨H,I⟩,J⟩:=Br (dC b S st.L x) st.m b.length;show⟨g,λp q m h r=>?_,?_⟩
  .show(?_:m<=fq _ _ _);by_cases z:p+m<=i;.show ZY (E p q m z r) H
   .by_cases d:m=0;·show(af 0x682f0e0412) d
    .have A:=r.q1;have Q:=(g (q+m-1) m<|XZ d).mpr ⟨p,q,<-(ai 0x31113c71107d81c441d444f1c4410) h z,<-(af 0x7b4178b5113e427c4418882000823f) d,r⟩;have k:iY b.length (dC b S st.L x) (q+m-1)=dC b S st.L x (q+m-1):=if_pos (<-(ai 0x3da0bc7814461c8a427c4618) d A);replace Q:=k▸Q;show ZY Q<|I _<|<-(ai 0x3da0bc7814461c8a427c4618) d A
  .show(?_:fq _ _ _=0\/_);rcases J with e|⟨j,f,e⟩
   .rcases F with z|⟨p,q,r⟩;.show .inl<|e.trans z
    .show .inr ⟨p,q,by show(?_:Run a b S 0 a.length 0 b.length p q (fq _ _ _));exists e;show r⟩
   .by_cases z:fq (dC b S st.L x) st.m b.length=0;·show .inl z
    .have k:iY b.length (dC b S st.L x) j=dC b S st.L x j:=if_pos f;obtain⟨p,q,_,_,r⟩:=(g j (fq (dC b S st.L x) st.m b.length)<|XZ z).mp (by exists k,e;show ZR _);show .inr ⟨p,q,r⟩
def Mp(a b)(S):(∀p q m,Run a b S 0 a.length 0 b.length p q m->m<=(fi b S a).m)/\((fi b S a).m=0\/∃p q,Run a b S 0 a.length 0 b.length p q (fi b S a).m):=by have t:=Mo a b S a.length<|ZR _;replace t:=YQ▸t;show⟨λp q m r=>t.top p q m r.p1 r,t.GG⟩
def ml:Z9 "-"≠Z9 " "/\Z9 "+"≠Z9 " "/\Z9 "+"≠Z9 "-"/\Z9 " "≠Z9 "-"/\Z9 " "≠Z9 "+":=by decide
abbrev gF(a:fX):fX:=if a.cur.k≠[]then⟨a.most,0,a.done++[a.cur],⟨[],[],[]⟩⟩else a
def FE(a){r:a9}(h:r.1≠Z9 " "):bw S a r=bw S (gF a) r:=by
 ext S a r;unfold gF;split;.rename_i q;have b:∀n,gH S n r=0:=λn=>if_neg λz=>h z.1;have c:fE a r=(a.done++[a.cur],⟨[],[],[]⟩):=if_pos ⟨h,q⟩;have d:fE ⟨a.most,0,a.done++[a.cur],⟨[],[],[]⟩⟩ r=(a.done++[a.cur],⟨[],[],[]⟩):=if_neg λz=>z.2 rfl;unfold bw;exists c;rw[d,b,b]
 .rfl
def FD{S:ZD->Bool}:∀(G:List ZD)(a:fX),a.cur.k=[]->a.size=0->(G.map (Z9 "-",·)).foldl (bw S) a=⟨a.most,0,a.done,⟨a.cur.g++G,a.cur.c,[]⟩⟩:=by intro G;induction G with
 |nil=>intro a b f;obtain⟨m,s,d,⟨g,c,k⟩⟩:=a;dsimp only at b f;exists b,f,ZH _;rfl;|cons x G h=>
  intro a b f;exists Z3,Yh;have e:bw S a (Z9 "-",x)=⟨a.most,0,a.done,⟨a.cur.g++[x],a.cur.c,[]⟩⟩:=by have i:gH S a.size (Z9 "-",x)=0:=if_neg λz=>ml.1 z.1;have j:fE a (Z9 "-",x)=(a.done,a.cur):=if_neg λz=>z.2 b;have l:iV a.cur (Z9 "-",x)=⟨a.cur.g++[x],a.cur.c,a.cur.k⟩:=if_pos rfl;unfold bw;exists i;rw[j,Nat.max_zero];exists l;show aW b rfl
  exists e,h _ rfl rfl,ZA _ _ _;rfl
def FG{S:ZD->Bool}:∀(G:List ZD)(a:fX),a.cur.k=[]->a.size=0->(G.map (Z9 "+",·)).foldl (bw S) a=⟨a.most,0,a.done,⟨a.cur.g,a.cur.c++G,[]⟩⟩:=by intro G;induction G with
 |nil=>intro a b f;obtain⟨m,s,d,⟨g,c,k⟩⟩:=a;dsimp only at b f;exists b,f,ZH _;rfl;|cons x G h=>
  intro a b f;exists Z3,Yh;have e:bw S a (Z9 "+",x)=⟨a.most,0,a.done,⟨a.cur.g,a.cur.c++[x],[]⟩⟩:=by have i:gH S a.size (Z9 "+",x)=0:=if_neg λz=>ml.2.1 z.1;have j:fE a (Z9 "+",x)=(a.done,a.cur):=if_neg λz=>z.2 b;have l:iV a.cur (Z9 "+",x)=⟨a.cur.g,a.cur.c++[x],a.cur.k⟩:=(if_neg ml.2.2.1).trans<|if_pos rfl;unfold bw;exists i;rw[j,Nat.max_zero];exists l;show aW b rfl
  exists e,h _ rfl rfl,ZA _ _ _;rfl
def Fv(a):(gF a).cur.k=[]:=by
 unfold gF;split;.rfl
 .rename_i q;show Yl λz=>q z
def xU(n:d.cur.k=[]->d.size=0/\d.cur=⟨[],[],[]⟩)(h:au a i g++au b j k≠[]):(bJ a b i g j k).foldl (bw S) d=⟨d.most,0,(gF d).done,⟨au a i g,au b j k,[]⟩⟩:=by
 ext a i g b j k S d;have e:∀c:List a9,c≠[]->(∀r,c.head?=Z7 r->r.1≠Z9 " ")->c.foldl (bw S) d=c.foldl (bw S) (gF d):=by intro c o p;cases c with|nil=>show absurd rfl o;|cons r c=>exists Yh,Yh;show aW (FE d<|p r rfl) rfl
 have s:=Fv d;have l:(gF d).size=0/\(gF d).cur=⟨[],[],[]⟩/\(gF d).most=d.most:=by
  unfold gF;split;.show⟨rfl,rfl,rfl⟩
  .rename_i q;have u:=n<|Yl λz=>q z;show⟨u.1,u.2,rfl⟩
 unfold bJ;rw[e,YU,FD _ _ s l.1,FG _ _ rfl rfl,l.2.1,l.2.2];.rfl
 .intro z;rw[Wb,Uw,Uw]at z;show h (by exists z.1,z.2;rfl)
 .intro r f;cases q:au a i g with|cons x t=>replace f:=q▸f;cases f;show ml.1;|nil=>replace f:=q▸f;cases m:au b j k with|nil=>replace f:=m▸f;cases f;|cons x t=>replace f:=m▸f;cases f;show ml.2.1
abbrev fN(S:ZD->Bool)(p:Nat×Nat)(x:ZD):Nat×Nat:=(max p.1<|if S x=ZW then p.2+1 else 0,if S x=ZW then p.2+1 else 0)
def FC:∀(K:List ZD)(a:fX),(K.map (Z9 " ",·)).foldl (bw S) a=⟨(K.foldl (fN S) (a.most,a.size)).1,(K.foldl (fN S) (a.most,a.size)).2,a.done,⟨a.cur.g,a.cur.c,a.cur.k++K⟩⟩:=by intro K;induction K with|nil=>intro a;exists ZH _;rfl;|cons x K b=>
  intro a;exists Z3,Yh,Yh;have e:bw S a (Z9 " ",x)=⟨(fN S (a.most,a.size) x).1,(fN S (a.most,a.size) x).2,a.done,⟨a.cur.g,a.cur.c,a.cur.k++[x]⟩⟩:=by
   have c:gH S a.size (Z9 " ",x)=if S x=ZW then a.size+1 else 0:=by unfold gH;cases e:S x with|true=>show if_pos ⟨rfl,rfl⟩;|false=>show if_neg λz=>nF z.2
   have d:fE a (Z9 " ",x)=(a.done,a.cur):=if_neg λz=>z.1 rfl;have f:iV a.cur (Z9 " ",x)=⟨a.cur.g,a.cur.c,a.cur.k++[x]⟩:=(if_neg ml.2.2.2.1).trans<|if_neg ml.2.2.2.2;unfold bw;exists c,d,f;rfl
  exists e;rw[b];exists ZA _ _ _;rfl
def Me{S:ZD->Bool}{B:Nat}:∀(K:List ZD)(m s:Nat),m<=B->(∀n,n<=K.length->(∀u,u<n->S (K.getD u ZP)=ZW)->s+n<=B)->(∀p n,p+n<=K.length->(∀u,u<n->S (K.getD (p+u) ZP)=ZW)->n<=B)->(K.foldl (fN S) (m,s)).1<=B:=by intro K;induction K with|nil=>showλm s h _ _=>h;|cons x K f=>
  intro m s g d e;exists Yh;have i:(if S x=ZW then s+1 else 0)<=B:=by
   split;.rename_i q;show d 1 (by exists ZO;show nH) λu b=>?_;exists(show u=0 by show(ak 0xc89e1d05e13) b);show q
   .show ZZ _
  show f _ _ (Nat.max_le.mpr ⟨g,i⟩) (λn c b=>?_) λp n c b=>?_
  .show(?_:(if S x=ZW then s+1 else 0)+n<=B);split
   .rename_i q;have t:=d (n+1) (by exists ZO;show(af 0xc0838889e2889e10) c) λu a=>by cases u with|zero=>show q;|succ u=>show b u (<-l9 a)
    show sd t
   .have t:=e 1 n (by exists ZO;show(af 0xc0838889e28844f0) c) λu a=>by exists SN _ _;show b u a
    show(af 0x18107028842f0) t
  .show e (p+1) n (by exists ZO;show(ai 0xc0e220e22278e22889e10) c) λu a=>by exists(show p+1+u=(p+u)+1 by show(af 0x1a889f110622889e15));show b u a
def Md:∀(K:List ZD)(m s:Nat),m<=(K.foldl (fN S) (m,s)).1/\(∀n,0<n->n<=K.length->(∀u,u<n->S (K.getD u ZP)=ZW)->s+n<=(K.foldl (fN S) (m,s)).1)/\(∀p n,p+n<=K.length->(∀u,u<n->S (K.getD (p+u) ZP)=ZW)->n<=(K.foldl (fN S) (m,s)).1):=by intro K;induction K with
 |nil=>intro m s;show⟨ZR _,λn c h=>by have t:n<=0:=h;show(nJ c t).elim,λp n h _=>by have t:p+n<=0:=h;show(ai 0x180be211e041a) t⟩;|cons x K f=>
  intro m s;revert f;ext S x K m s;exists Yh;obtain⟨e,g,j⟩:=f (max m<|if S x=ZW then s+1 else 0)<|if S x=ZW then s+1 else 0;have pre:∀n,0<n->n<=(x::K).length->(∀u,u<n->S ((x::K).getD u ZP)=ZW)->s+n<=(K.foldl (fN S) (max m<|if S x=ZW then s+1 else 0,if S x=ZW then s+1 else 0)).1:=by
   intro n c b d;have q:S x=ZW:=d 0 c;rw[if_pos q]at e g⊢;replace b:=ZO▸b;by_cases i:n=1;·have t:=Qp m<|s+1;show(ay 0x181d6227849a13c581c4414) e i
   .have t:=g (n-1) (<-(ak 0xc842ff684f0e6427842f0) c i) (<-(af 0xc444f10702909e12) b) λu a=>d (u+1) (<-(af 0xcc84f08b21889e22) a);show(ai 0xc0e3213c5113c381c4411) t
  show⟨ZY (Sq ..) e,pre,λp n b d=>?_⟩;cases p with
 |zero=>
   by_cases c:n=0;·show(af 0x682f0e0412) c
   .have t:=pre n (<-(ak 0x1ed05e1c842f3) c) (<-(af 0x18144217e0410) b) λu a=>by have t:=d u a;rwa[W8]at t
    show(ai 0xc0e21160612) t;|succ p=>replace b:=ZO▸b;show j p n (<-(ai 0xc444f1c45113c381c4410) b) λu a=>by have t:=d u a;rwa[show p+1+u=(p+u)+1 by show(af 0x1a889f110622889e15)]at t
def Dt(h:x∈au l i j):∃p,i<=p/\p<j/\l[p]?=Z7 x:=by
 ext l i j x;obtain⟨u,a⟩:=RF h;rw[jT]at a;split at a;.show⟨i+u,Zp _ _,‹_›,a⟩
 .cases a
def Ds(h:i<j)(a:j<=l.length):(au l i j).getLast?=l[j-1]?:=by
 exists TQ,jT _ _ _ _;have p:(au l i j).length=j-i:=by unfold au;exists YJ,Zf;show aW (XO a) rfl
 exists p,(if_pos<|<-(af 0x19107228c84f904410) h);congr 1;show(af 0xc845a909e18c84f908222) h
def sV(h:au l i j=x::a):i<j/\l[i]?=Z7 x:=by
 ext l i j x a;have p:=jT l i j 0;rw[h]at p;split at p;.rename_i q;show⟨q,p.symm⟩
 .cases p
def Dq(h:au l i j=[])(a:j<=l.length):j<=i:=by
 have p:(au l i j).length=j-i:=by unfold au;exists YJ,Zf;show aW (XO a) rfl
 rw[h]at p;have p:0=j-i:=p;show(af 0x1a908217e0410) p
def zE(g:jx a b (λx=>!aP c x) i f j h):((au a i f).filter λx=>aP (au b j h) x&&!aP c x)=[]/\∀x y n o,au a i f=x::n->au b j h=y::o->x≠y:=by
 show⟨XJ.mpr λx r z=>?_,λx y n o s t e=>?_⟩;.rw[YK]at z;obtain⟨y,u,e⟩:=UX.mp z.1;have Q:=eq_of_beq e;subst Q;obtain⟨p,v,k,d⟩:=Dt r;obtain⟨q,w,l,m⟩:=Dt u;have Q:=g.no p q v k w l<|d.trans m.symm;rw[ZB,d]at Q;have Q:(!aP c y)=ZX:=Q;rw[Q]at z;cases z.2
 ·obtain⟨k,d⟩:=sV s;obtain⟨l,m⟩:=sV t;show g.ne k l (by exists d,m;show aW e rfl)
def aba(g:jx a b (λx=>!aP c x) i k.i j k.j)(K:lE a b (λx=>!aP c x) i j k)(m:Mt a b k):fe c ⟨au a i k.i,au b j k.j,au a k.i (k.i+k.m)⟩:=by
 ext a b c i j k;obtain⟨r,s⟩:=zE g;have u:k.i<=a.length:=ZY (Zp _ _) m.i;have v:k.j<=b.length:=ZY (Zp _ _) m.j;show⟨r,λx y f l d e=>⟨s x y f l d e,λ_=>?_⟩,λh _=>?_⟩;.have d:au a i k.i=x::f:=d;have e:au b j k.j=y::l:=e;obtain⟨n,F⟩:=sV d;obtain⟨o,G⟩:=sV e;exists ZJ d,ZJ e,Ds n u,Ds o v;show K.ne n o
 .intro z;have z:(au a k.i<|k.i+k.m).filter (λx=>!aP c x)=[]:=z;have h:au a i k.i++au b j k.j≠[]:=h;rcases K.ol with⟨t,p,w⟩|⟨A,C⟩
  .have Q:=m.i;have D:a[k.i+t]?=Z7 (a.getD (k.i+t) ZP):=by exists ZB,(Z2<|<-(ay 0x1920b03890391c4411) p Q);rfl
   have E:a.getD (k.i+t) ZP∈au a k.i (k.i+k.m):=by show YV (i:=t) ?_;exists jT _ _ _ _,(if_pos<|<-(ai 0x3230e623144220) p);show D
   have Q:=XJ.mp z _ E;show Q w
  .show h ?_;exists(hZ<|<-(af 0x682f0e0412) A),(hZ<|<-(af 0x682f0e0412) C);rfl
def aa9(g:jx a b (λx=>!aP c x) i a.length j b.length):fe c ⟨au a i a.length,au b j b.length,[]⟩:=by obtain⟨d,e⟩:=zE g;show⟨d,λx y f h k l=>⟨e x y f h k l,λz=>absurd rfl z⟩,λ_ z=>absurd rfl z⟩
def CI(K):fe a ⟨[],[],K⟩:=⟨rfl,λx y g c h=>(nL h),λh=>absurd rfl h⟩
structure s7(pop:List ZD)(B:Nat)(st:fX):Prop where
 done:∀P∈st.done,fe pop P
 cur:st.cur.k≠[]->fe pop st.cur
 emp:st.cur.k=[]->st.size=0/\st.cur=⟨[],[],[]⟩most:st.most<=B
def s7.new{B:Nat}(I:s7 a B b):∀P∈(gF b).done,fe a P:=by
 unfold gF;split
 .rename_i q;intro P c;rcases ZS.mp c with h|h;.show I.done P h
  .exists ZM.mp h;show I.cur q
 .show I.done
def FI{a b pop:List ZD}{B:Nat}(J:∀p q m,Run a b (λx=>!aP pop x) 0 a.length 0 b.length p q m->m<=B):∀(l:List Bk)(i j:Nat)(f:fX),(∀k∈l,Mt a b k)->Ch (Gp a b) l->fZ a b (λx=>!aP pop x) a.length b.length i j l->s7 pop B f->(f.cur.k≠[]->∀k,l.head?=Z7 k->i<k.i\/j<k.j)->(∀P∈((dY a b i j l).foldl (bw λx=>!aP pop x) f).done++[((dY a b i j l).foldl (bw λx=>!aP pop x) f).cur],fe pop P)/\((dY a b i j l).foldl (bw λx=>!aP pop x) f).most<=B/\f.most<=((dY a b i j l).foldl (bw λx=>!aP pop x) f).most/\∀k∈l,∀t n,t+n<=k.m->(∀u,u<n->(!aP pop (a.getD (k.i+t+u) ZP))=ZW)->n<=((dY a b i j l).foldl (bw λx=>!aP pop x) f).most:=by revert J;injections a b pop B;intro J;intro l;induction l with
 |nil=>
  intro i j f _ _ g I _;show(?_:(∀P∈((bJ a b i a.length j b.length).foldl (bw λx=>!aP pop x) f).done++[((bJ a b i a.length j b.length).foldl (bw λx=>!aP pop x) f).cur],fe pop P)/\((bJ a b i a.length j b.length).foldl (bw λx=>!aP pop x) f).most<=B/\f.most<=((bJ a b i a.length j b.length).foldl (bw λx=>!aP pop x) f).most/\_);by_cases h:au a i a.length++au b j b.length=[]
  .have e:bJ a b i a.length j b.length=[]:=by rw[Wb]at h;unfold bJ;exists h.1,h.2;rfl
   exists e;show⟨λP w=>?_,I.most,ZR _,λk M=>nM M⟩;rcases ZS.mp w with q|q;.show I.done P q
   .exists ZM.mp q;by_cases z:f.cur.k=[];.show(?_:fe pop f.cur);exists(I.emp z).2;show CI _
    .show I.cur z
  .exists xU I.emp h;show⟨λP w=>?_,I.most,ZR _,λk M=>nM M⟩;rcases ZS.mp w with q|q;.show I.new P q
   .exists ZM.mp q;show aa9 g;|cons k l N=>
  intro i j f A H h I v;revert N A H h I v;injections k l i j f;intro N A H h I v;obtain⟨g,K,c⟩:=h;have m:=A k<|.head _;have mm:=m.m;have la:k.i<=a.length:=ZY (Zp _ _) m.i;have lb:k.j<=b.length:=ZY (Zp _ _) m.j;have E:(au a k.i<|k.i+k.m).length=k.m:=by unfold au;exists YJ,Zf,XO m.i;show(af 0x6832144223)
  have Z:∀u,u<k.m->(au a k.i<|k.i+k.m).getD u ZP=a.getD (k.i+u) ZP:=λu r=>by exists ZB,jT _ _ _ _,(if_pos<|<-(ai 0x3230e623144220) r);show aW ZB rfl
  have mid:∃D G C,(bJ a b i k.i j k.j).foldl (bw λx=>!aP pop x) f=⟨f.most,0,D,⟨G,C,[]⟩⟩/\(∀P∈D,fe pop P)/\fe pop ⟨G,C,au a k.i<|k.i+k.m⟩:=by
   by_cases h:au a i k.i++au b j k.j=[]
   .have e:bJ a b i k.i j k.j=[]:=by rw[Wb]at h;unfold bJ;exists h.1,h.2;rfl
    have k0:f.cur.k=[]:=Yl λq=>by rw[Wb]at h;have Q:=Dq h.1 la;have Q:=Dq h.2 lb;have Q:=v q k rfl;show((ay 0x6061c105e10322264231) ‹_› ‹_› Q).elim
    obtain⟨s0,c0⟩:=I.emp k0;show⟨f.done,[],[],?_,I.done,CI _⟩;exists e;show(?_:f=_);exists ZJ c0;show aW (ZJ s0) rfl
   .show⟨_,_,_,xU I.emp h,I.new,aba g K m⟩
  obtain⟨D,G,C,e1,hD,w⟩:=mid;ext D G C;have e:(dY a b i j (k::l)).foldl (bw λx=>!aP pop x) f=(dY a b (k.i+k.m) (k.j+k.m) l).foldl (bw λx=>!aP pop x) ⟨((au a k.i<|k.i+k.m).foldl (fN λx=>!aP pop x) (f.most,0)).1,((au a k.i<|k.i+k.m).foldl (fN λx=>!aP pop x) (f.most,0)).2,D,⟨G,C,au a k.i<|k.i+k.m⟩⟩:=by show(?_:(bJ a b i k.i j k.j++(iH a k++dY a b (k.i+k.m) (k.j+k.m) l)).foldl _ f=_);exists YU,e1,YU;unfold iH;exists FC _ _;rfl
  have up:((au a k.i<|k.i+k.m).foldl (fN λx=>!aP pop x) (f.most,0)).1<=B:=by
   have rn:∀p n,p+n<=k.m->(∀u,u<n->(!aP pop ((au a k.i<|k.i+k.m).getD (p+u) ZP))=ZW)->n<=B:=λp n o r=>by
    show J (k.i+p) (k.j+p) n ⟨ZZ _,by have Q:=m.i;show(aV 0x182c462c12250e0911c4411) o Q,ZZ _,by have Q:=m.j;show(aV 0x182c462c12250e0911c4411) o Q,λt V=>⟨?_,?_⟩⟩;.exists XB _ _ _,XB _ _ _;show m.eq (p+t) (<-pP o V)
    .have Q:=r t V;rw[Z _ (<-pP o V)]at Q;exists XB _ _ _;show Q
   show Me _ _ _ I.most (λn o r=>?_) λp n o r=>rn p n (by rw[E]at o;show o) r;exists W8 _;show rn 0 n (by rw[E]at o;show(af 0x18107028842f0) o) λu s=>by exists W8 _;show r u s
  obtain⟨W,_,X⟩:=Md (S:=λx=>!aP pop x) (au a k.i<|k.i+k.m) f.most 0;have K0:au a k.i (k.i+k.m)≠[]:=λz=>by rw[z]at E;have Q:0=k.m:=E;show((ak 0x19085fed042f0) mm Q).elim
  have Y:=N (k.i+k.m) (k.j+k.m) ⟨((au a k.i<|k.i+k.m).foldl (fN λx=>!aP pop x) (f.most,0)).1,((au a k.i<|k.i+k.m).foldl (fN λx=>!aP pop x) (f.most,0)).2,D,⟨G,C,au a k.i<|k.i+k.m⟩⟩ (λx F=>A x<|.tail _ F) H.2 c ⟨hD,λ_=>w,λz=>absurd z K0,up⟩ (λ_ d hd=>by cases l with|nil=>cases hd;|cons y l=>cases hd;show ux H.1 m<|A d<|.tail _<|.head _);exists e;obtain⟨h1,h2,h3,h4⟩:=Y;show⟨h1,h2,ZY W h3,λx F t n o r=>?_⟩;rcases Z1.mp F with rfl|F;.show ZY (X t n (by exists E;show o) λu s=>?_) h3;exists(Z _<|<-pP o s),ZJ<|XB _ _ _;show r u s
  .show h4 x F t n o r
abbrev tF(a b:List ZD):Prop:=∃R,qL a b (fi b (λx=>!aP (hA b) x) a).m R/\∀n:Nat,∃t,mO a b n/\eB a b (cy n<|bH a b)=t.map .str/\TurnOk a b R n t
abbrev kU(G:List cq)(a:Nat):List ZD:=bu G++iJ (bu G).length (200*a)
def Mg{a:List Int}{K:Kn}(v:∀G b,1<=G.length->G.length<=62->(∀p∈G,ij p)->b<=1->tF (cG G) (kU G b))(C:Callee X Y (Z9 "law") (aw bh) 314 (.ref 313))(d:a.length<=63)(w:Y.G=U4)(m:Y.A.depth+8<ZU)(x:Y.A.units+17<Xo)(h:∀O,K.rt (.bool ZW) O):Ex Y [(Z9 "script",.lst (a.map .int))] [] (aA bh) K:=by have n:=C.ok ⋯;show aq C.env λL o M=>?_;have e:Y.A.depth<ZU:=<-(af 0x191452f0e4410) m;have s:=M0 a;show M5 n o d λf g c=>?_;show Ex.cons<|M6 n o e c d λG j y t k i=>Ex.sub i ?_;have N:=vh k;have z:=vi k;show Ex.cons<|M3 C s c (<-(af 0x31f809e2c4c4978709881e11) t z) ?_;show M4 c ?_;obtain⟨R,A,T⟩:=v G (jL a).toNat y t k (<-(jc 0x20744f13ba1789c30744eb07627582fc09e11) s<|@YZ<|jL a);have l:(kU G (jL a).toNat).length<=1000:=A.lb;show M7 C e l λr j u=>?_;obtain⟨Q,D,E,F⟩:=T 3;obtain⟨S,Un,H,I⟩:=T (kT a).toNat;have J:((kT a).toNat:Int)=kT a:=YZ<|M1 a;rw[<-J]at u;show M2 C w m x A D Un E H F I u<|h _
abbrev np:List Nat->Prop
 |[]=>True|x::l=>(x=43->l.head?≠Z7 45)/\np l
def vE:∀{x y:List Nat},np x->np y->(x.getLast?=Z7 43->y.head?≠Z7 45)->np (x++y):=by intro x;induction x with|nil=>showλ_ h _=>h;|cons c x g=>intro y a b f;cases x with|nil=>show⟨λe=>f (by exists e;rfl),b⟩;|cons d x=>show⟨a.1,g a.2 b λe=>f (by exists List.getLast?_cons_cons;show e)⟩
def NY:∀{l:List Nat}(i:Nat),np l->np (l.drop i):=by intro l;induction l with|nil=>intro i _;exists List.drop_nil;trivial;|cons x l a=>intro i h;cases i with|zero=>show h;|succ i=>show a i h.2
def vF(n):np (Zt n c):=by induction n with|zero=>trivial;|succ n a=>exists XD;show⟨λe z=>?_,a⟩;cases n with|zero=>cases z;|succ n=>rw[XD,List.head?_cons]at z;have p:=Zs z;show((ak 0x1a6404f0fb4e809e10) e p).elim
abbrev f6(a:List a9):List Nat:=(a.map λr=>r.1.cps.toList).flatten
def t4(x y):f6 (x++y)=f6 x++f6 y:=by unfold f6;exists ZF;show aW List.flatten_append rfl
def t5(c)(h:(Z9 c).cps.toList=[n])(l:List ZD):f6 (l.map (Z9 c,·))=Zt l.length n:=by induction l with|nil=>rfl;|cons x l a=>have p:f6 ((x::l).map (Z9 c,·))=(Z9 c).cps.toList++f6 (l.map (Z9 c,·)):=rfl;exists p,a,h,ZO,XD;rfl
def AI{n c d:Nat}(h:(Zt n c).getLast?=Z7 d):d=c:=VJ<|List.mem_of_getLast? h
def BC(i c j d)(f:np y)(g:y.head?≠Z7 45):np (f6 (bJ a b i c j d)++y):=by unfold bJ;rw[t4,t5 "-" (n:=45) rfl,t5 "+" (n:=43) rfl,ZA];show vE (vF _) (vE (vF _) f λ_=>g) λe=>?_;have p:=AI e;show(Ar.bA 0x1 0x3da7404f6404f [] [] ⋯ p).elim
def NZ:∀(l:List Bk)(i j:Nat),(∀k∈l,Mt a b k)->np (f6 (dY a b i j l)):=by intro l;induction l with|nil=>intro i j _;have p:=BC (a:=a) (b:=b) i a.length j b.length (y:=[]) trivial (by decide);rw[ZH]at p;show p;|cons k l c=>
  intro i j h;show(?_:np (f6<|bJ a b i k.i j k.j++(iH a k++dY a b (k.i+k.m) (k.j+k.m) l)));have m:=(h k<|.head _);have d:(au a k.i<|k.i+k.m).length=k.m:=by unfold au;exists YJ,Zf,XO m.i;show(af 0x6832144223)
  unfold iH;rw[t4,t4,t5 " " (n:=32) rfl,d];have f:=m.m;show BC _ _ _ _ (vE (vF _) (c _ _ λx g=>h x<|.tail _ g) λe=>?_) ?_;.have p:=AI e;show(Ar.bA 0x1 0x3da0c04f6404f [] [] ⋯ p).elim
  .obtain⟨n,e⟩:∃n,k.m=n+1:=⟨k.m-1,<-jM f⟩;exists e,XD;show(?_:Z7 32≠Z7 45);decide
def abg(h:np (f6 a)):Sy (VL ZP (a.map (·.1))) (Z9 "+-")=ZX:=by cases e:Sy (VL ZP<|a.map (·.1)) (Z9 "+-")with|false=>rfl;|true=>exfalso;obtain⟨i,_,b⟩:=(StrLaws.found_iff _ _).mp e;rw[StrLaws.subAt_eq,AB,YE]at b;have b:((f6 a).drop i).take 2=[43,45]:=eq_of_beq b;have p:=NY i h;cases q:(f6 a).drop i with|nil=>rw[q]at b;cases b;|cons x l=>rw[q]at b p;cases l with|nil=>cases b;|cons y l=>have b:x::y::[]=[43,45]:=b;injection b with d c;injection c with c _;show p.1 d (by exists c;rfl)
def d6.rows(P:d6 a b):qL a b (fi b (λx=>!aP (hA b) x) a).m (bB a b):=by
 ext a b;obtain⟨G,_,_⟩:=P.len;obtain⟨f,j⟩:=oh a b;have g:(λx=>!aP (hA b) x)=λx=>!a5 b x:=funext λx=><-aW (zT _ _) rfl;have i:=sN a b;rw[<-g]at i;obtain⟨l,n⟩:=Mp a b λx=>!aP (hA b) x;obtain⟨o,v,_,w⟩:=FI (pop:=hA b) l (bF a b) 0 0 ⟨0,0,[],⟨[],[],[]⟩⟩ f j i ⟨λP h=>(nM h),λz=>absurd rfl z,λ_=>⟨rfl,rfl⟩,ZZ _⟩ λz=>absurd rfl z;show⟨wf a b,we a b,⟨o,PZ v ?_,abg<|NZ _ _ _ f⟩,by omega,λr c=>(P.row c).1,λr c=>?_,by have Q:=P.ha;show(ak 0x315841e1c3603809e10) Q,by have Q:=P.hb;show(ak 0xc561078709881e10) Q⟩
 .obtain⟨m,y,A⟩:=aaX (a:=a) (b:=b) (S:=λx=>!a5 b x) (d:=a.length+1)<|Us _;have C:(fi b (λx=>!aP (hA b) x) a).m<=m:=by
   rcases n with z|⟨p,q,r⟩;.exists z;show ZZ _
   .rw[g]at r⊢;show y p q _ r
  show ZY C ?_;rcases A with z|⟨k,D,t,E,F⟩;.exists z;show ZZ _
  .show w k D t m E λu e=>?_;exists zT _ _;show F u e
 .obtain⟨_,h⟩:=P.row c;have Q:=ve h;have s:=(P.row c).1;have Q:r.1.length<=1:=by rcases s with q|q|q<;>rw[q]<;>decide
  show(af 0xc15e2c09e1c26207c4411) ‹_› Q
def d6.plain(P:d6 a b):tF a b:=⟨bB a b,P.rows,λn=>⟨_,(P.ud n).1,(P.ud n).2.1,P.ado n⟩⟩
abbrev fc(G:List cq)(x:ZD)(i:Nat):Prop:=∃g,G[i]?=Z7 g/\g.line=x
def Lq(h:fc G x i):1<=(G.map (·.line)).count x:=by obtain⟨g,a,b⟩:=h;show BF a b
def rL(a:i<j)(h:fc G x i)(d:fc G x j):2<=(G.map (·.line)).count x:=by obtain⟨g,e,f⟩:=h;obtain⟨k,b,c⟩:=d;show BG a e b f c
def rM(c:i<j)(d:j<l)(h:fc G x i)(m:fc G x j)(e:fc G x l):3<=(G.map (·.line)).count x:=by obtain⟨g,n,o⟩:=h;obtain⟨r,f,k⟩:=m;obtain⟨p,a,b⟩:=e;show N1 c d n f a o k b
def uV(n:¬3<=(G.map (·.line)).count x)(d:i<j)(f:k<l)(g:fc G x i)(h:fc G x j)(p:fc G x k)(o:fc G x l):k=i/\l=j:=by
 have m:∀{a b c:Nat},fc G x a->fc G x b->fc G x c->¬(a<b/\b<c):=λa b c z=>n<|rM z.1 z.2 a b c;have e:k=i:=by
  rcases U8 k i with q|q|q;.show(m p g h ⟨q,d⟩).elim
  .show q
  .rcases Xj k j with r|r;.show(m g p h ⟨q,r⟩).elim
   .show(m g h o ⟨d,Yx r f⟩).elim
 subst e;show⟨rfl,?_⟩;rcases U8 l j with q|q|q;.show(m g o h ⟨f,q⟩).elim
 .show q
 .show(m g h o ⟨d,q⟩).elim
def NS{u v b a:Nat}(m:v<=a)(n:¬(u=b/\v=a))(e:u=b):v<a:=WO m λq=>n ⟨e,q⟩
def Bz{u a:Nat}(m:u<=a)(n:¬u<a):a=u:=PZ (XM n) m
def b5.iu(A:b5 G F x s u v):fc G x u:=by obtain⟨g,a,_,b⟩:=A.gu;show⟨g,a,b⟩
def b5.iv(A:b5 G F x s u v)(h:v<G.length):fc G x v:=by obtain⟨_,g,a,_,b⟩:=A.fV h;show⟨g,a,b⟩
def b5.size(A:b5 G F x s u v)(B:b5 G F x t u a)(h:s.1<t.1)(b:G[u]?=Z7 g):2<=g.size:=CG h A.ou B.ou b
def b5.DA(A:b5 G F x s u v)(B:b5 G F x t b v)(a:v<G.length)(h:s.2<t.2)(c:G[v]?=Z7 g):2<=g.size:=CG h (A.fV a).1 (B.fV a).1 c
def adq(g:∀{i j:Nat}{z:ZD},F[i]?=Z7 z->F[j]?=Z7 z->i=j)(k:s∈P)(l:t∈P)(A:b5 G F x s u v)(B:b5 G F x t a b)(h:j4 (cG G) (bu G++F) s t):2<=(G.map (·.line)).count x\/Cr G F P x:=by
 ext F P s t G x u v a b;obtain⟨m,n⟩:=o0 A B h.1 h.2.1;obtain⟨o,p⟩:=qS g A B h;by_cases q:u<a;.show .inl<|rL q A.iu B.iu
 .have e:a=u:=by show(af 0x30117b21168410) m q
  subst e;have c:v<b:=<-se n o;have d:=B.oP;by_cases f:b=G.length;.subst f;show .inr ⟨s,t,a,v,k,l,A,B,c⟩
  .show .inl<|rL c (A.iv<|<-(ai 0x19187021e4411) c d)<|B.iv<|<-pQ d f
def ac4(Y:∀{i j:Nat}{z:ZD},F[i]?=Z7 z->F[j]?=Z7 z->i=j)(hG:∀p∈G,ij p)(ht:t∈P)(hr:r∈P)(A:b5 G F x s u v)(B:b5 G F x t f k)(C:b5 G F x r c d)(o:j4 (cG G) (bu G++F) s t)(y:j4 (cG G) (bu G++F) t r)(Z:j4 (cG G) (bu G++F) s r)(W:(bu G++F).count x<=3):3<=(G.map (·.line)).count x\/(2<=(G.map (·.line)).count x/\Cr G F P x):=by
 ext F G P t r x s u v f k c d;obtain⟨m1,I⟩:=o0 A B o.1 o.2.1;obtain⟨X,m4⟩:=o0 B C y.1 y.2.1;obtain⟨n1,n2⟩:=qS Y A B o;obtain⟨n3,n4⟩:=qS Y B C y;obtain⟨n5,n6⟩:=qS Y A C Z;have vl:=C.oP;have D:=B.oP;by_cases n:3<=(G.map (·.line)).count x;.show .inl n
 have nu:¬(u<f/\f<c):=λz=>n<|rM z.1 z.2 A.iu B.iu C.iu;rw[TF]at W;have cB:∀{i j:Nat}{g h:cq},i<j->G[i]?=Z7 g->G[j]?=Z7 h->g.kind≠1->h.kind≠1->g.line=x->h.line=x->g.size+h.size<=(bu G).count x:=λo y Z h4 h5 h6 h7=>Hx o y Z h4 h5 h6 h7;by_cases q:d=G.length
 .subst q;have E:k<G.length:=<-(af 0x3020fbfa10b420e4410) D n4;by_cases q':f=c
  .subst q';show .inr ⟨?_,t,r,f,k,ht,hr,B,C,E⟩;by_cases J:u<f;.show rL J A.iu B.iu
   .show rL (NS I n1 (Bz m1 J).symm) (A.iv<|<-(ai 0x18187221e4411) I E)<|B.iv E
  .exfalso;have M:f=u:=Bz m1 λz=>nu ⟨z,WO X q'⟩;subst M;have a:v<k:=<-se I n1;obtain⟨H,N⟩:=uV n (show f<c by show pQ X q') a A.iu C.iu (A.iv<|<-ma E a)<|B.iv E;obtain⟨_,g,w,O,Q⟩:=A.fV (<-ma E a);obtain⟨_,h,b,l,m⟩:=B.fV E;have R:2<=g.size:=A.size B o.1 (by exists ZJ H;show w);have S:=(hG h<|YV b).DB;have U:=cB a w b O l Q m;have z4:0<F.count x:=TV.mpr<|YV C.qp.2;show((ay 0xc11f1107031bf0413f018907ec882f7) W R S U z4).elim
 .exfalso;have e:d<G.length:=<-pQ vl q;by_cases V:u<f
  .have M:c=f:=by show(ai 0x1808bdfc845910f221e8411) X nu V
   subst M;have a:k<d:=<-se m4 n3;have nv:¬v<k:=λz=>n<|rM z a (A.iv<|<-(ai 0x1810f230e4411) D z) (B.iv<|<-ma e a)<|C.iv e;have ev:k=v:=<-(af 0x30117b21168410) I nv;subst ev;obtain⟨H,N⟩:=uV n V a A.iu B.iu (B.iv<|<-ma e a)<|C.iv e;obtain⟨_,g,w,O,Q⟩:=B.fV (<-(aV 0x6443c949a207451e4417) e V H N);obtain⟨_,h,b,l,m⟩:=C.fV e;have R:2<=g.size:=A.DA B (<-(aV 0x6443c949a207451e4417) e V H N) o.2.1 w;have S:2<=h.size:=B.size C y.1 (by exists ZJ N;show b);have U:=cB a w b O l Q m;show((ay 0x1823e220e0637e0837fb018906000045f) W R S U).elim
  .have M:f=u:=by show(af 0x30117b21168410) m1 V
   subst M;have a:v<k:=<-se I n1;have nv:¬k<d:=λz=>n<|rM a z (A.iv<|<-(ai 0x1810f230e4411) D a) (B.iv<|<-ma e z)<|C.iv e;have ev:d=k:=<-(af 0x30117b21168410) m4 nv;subst ev;have hu:f<c:=<-(ai 0x3020fbfa18f420e4410) X n3;obtain⟨H,N⟩:=uV n hu a A.iu C.iu (A.iv<|<-ma e a)<|B.iv<|<-(af 0x3220e4410) e;obtain⟨_,g,w,O,Q⟩:=A.fV (<-ma e a);obtain⟨_,h,b,l,m⟩:=B.fV (<-(af 0x3220e4410) e);have R:2<=g.size:=A.size B o.1 (by exists ZJ H;show w);have S:2<=h.size:=B.DA C (<-(af 0x3220e4410) e) y.2.1 b;have U:=cB a w b O l Q m;show((ay 0x1823e220e0637e0837fb018906000045f) W R S U).elim
def GB(P):(ar P).get? 314=Z7 Ck:=⋯
def GA(P):(ar P).get? 313=Z7 Cj:=⋯
abbrev aa0(Y:Fx):Fx:={Y with A:=callerA,hh:=rfl}
abbrev te(w:Yg):Prop:=∀(s:ZL)(L:Zw)(b:List ZN)(c:List Int),Keeps (ar w.params) s.heap->s.gens=#[]->s.heap.get? L=Z7 {cls:=.type "list",data:=.seq b.toArray}->Pg b c->c.length<=63->ZE (model pw w) callerA (call (.ref 314) [.ref L]) (λv a=>v=.bool ZW/\Keeps s.heap a.heap/\a.os=s.os/\U4 a.gens) (λd d=>False) s
def LC{h:Xq}(d:h.IsList L a)(e:h.get? L=Z7 {cls:=.type "list",data:=.seq b}):h.get? L=Z7 {cls:=.type "list",data:=.seq a}:=by obtain⟨o,f,g,n,hd⟩:=d;have p:=Zs<|e.symm.trans f;have c:=congrArg Obj.data p;rw[hd]at c;exists e;show aW ((Data.seq.inj c).1) rfl
def adD(w:Well P h (.ref L) (.list b))(c:h.IsList L a):h.get? L=Z7 {cls:=.type "list",data:=.seq a}:=by ext P h L b a;cases w with|list d e=>show LC c d
def adF(H:∀w,te w):WalkO q loose (XL q []) (λw h=>∀a o,(ar w.params).get? a=Z7 o->h.get? a=Z7 o) Yw.row.toRowW yx [] λf U=>PySem.call f U:=by
 intro w j b J M G Y t o N cd r O Q u hd k x i y args c R d g m n p;revert H G Y u hd k x i y d g m n p;revert w j b J M t o N cd r O Q args c R;injections w j b J M t o N;injections cd r O Q args c R;intro H G Y u hd k x i y d g m n p;have z:Zr t=.ref 314:=Zs<|i.symm.trans<|Mh Y G.T.g;exists z;have s:∃L l A,c=[Zr L]/\b.heap.get? L=Z7 {cls:=.type "list",data:=.seq l.toArray}/\Pg l A/\A.length<=63:=by clear i x k u Y hd G;wrow_args d g m n p;rename_i V _ W _ C _ D _;show gi _ _ _ rfl (adD W V) C (<-(ak 0x3dc0dc1013f20809e10) D)
 show m6 s ?_;clear s;intro L l A E F C D;exists E;show XT (H w b _ _ _ Y y F C D) ?_ ?_;.rintro v X⟨rfl,Z,I,hb⟩;show lW (.inl<|rP _ _ _ rfl (raisesW_false λS h=>nM h) (.bool ZW) (postW_of rfl rfl dk) λS=>⟨XY,λS h=>nM h⟩) (.of_keep Z) I hb
 .intro e X h;show h.elim
def aaM(H:∀w,te w):Yw.Holds:=head (d:=yx) (kwd:=[]) ⋯ ⋯ ⋯ (adF H)
def Ly(x:Pg a b):aD D h a (b.map .int):=by induction x with|nil=>show .nil;|cons n t _ c=>show .cons (.int n t) c
abbrev xE:Prop:=∀G a,1<=G.length->G.length<=62->(∀p∈G,ij p)->a<=1->tF (cG G) (kU G a)
def Hc(E:xE)(w):te w:=by
 intro s L X V l t C F H;revert E l t C F H;injections w s L X V;intro E l t C F H;have i:(aw bh).names.lookup (Z9 "script")=Z7 .local:=dk;have j:∀x∈[(Z9 "script",Zr L)],(aw bh).names.lookup x.1=Z7 .local\/((aw bh).names.lookup x.1=Z7 .cell/\((Xm (s.heap.objs.size+1) (aw bh).names []).lookup x.1).isSome=ZW):=λx Z=>by rcases ZM.mp Z with rfl;show .inl i
 have I:((aw bh).names.map (·.1)).Nodup:=dk;show Xs<|call_cells_ret (binds:=[(Z9 "script",Zr L)]) (name:=Z9 "law") (params:=cY bh) (body:=aA bh) (scope:=aw bh) (cd:=.ref 313) dk (l _ _<|GB w.params) rfl (n9 l) (pD 313 _ _ _ rfl (l _ _<|GA w.params) rfl rfl) rfl j (λh tk D u=>?_) rfl rfl rfl;have hsz:s.heap.objs.size<h.objs.size:=D.ns.lt;let Y:Fx:={w:=w,A:=callerA.deeper<|Y8 (Z9 "law") (aw bh) s.heap.objs.size 314<|.ref 313,env:=Y8 (Z9 "law") (aw bh) s.heap.objs.size 314<|.ref 313,h₀:=s.heap,D₀:=[],a7:=[],held:=[],G:=U4,os:=s.os,fn:=rfl,glob:=rfl,bn:=rfl,hh:=rfl,above:=.inl<|c9 _,jB:=l,jK:=λa y=>(nM y),eh:=λa y=>(nM y),apart:=u.apart,kt:=λn c m=>Wg<|u.above n c m,iw:=wR<|t6 _ _ _ I XY λb b q=>nM q,old:=λa y=>(nM y),hnl:=λq k=>(nM k),hnc:=λq k=>(nM k),hab:=λq k=>nM k};have CY:Callee (aa0 Y) Y (Z9 "law") (aw bh) 314 (.ref 313):=⟨rfl,(ae _ rfl rfl),λn c m=>.inl<|X4<|Ye<|u.above n c m,rfl⟩;have J:L∉aa Y []:=λq=>by
  have:=Zg C;show fJ q (λq=>?_) (λq=>?_) (λn q=>?_) (λq=>?_) λo' q=>?_;.cases q
  .show absurd q<|X8 this
  .show absurd (u.above n L q)<|Ud.mpr<|Ye this
  .cases q
  .cases q
 have FY:Fr Y [(Z9 "script",.lst<|V.map .int)] [] {s with heap:=h,toks:=tk}:=by
  show⟨λa o b e=>D.keep a o e,?_,rfl,⟨_,PO (Y8 (Z9 "law") (aw bh) s.heap.objs.size 314<|.ref 313).kindOf [(Z9 "script",Zr L)] λb=>Z4,D.ns,λn c m=>?_,λx av e=>?_⟩,λq k=>(nM k),λp hp=>(nM hp),XY⟩;.exists t;showλg t=>nomatch t
  .have hu:=Y.iw n;cases f:(Xm (s.heap.objs.size+1) (aw bh).names []).lookup n with
 |none=>rw[W2]at f;have z:=f _ m;simp at z;|some M=>have:M=c:=hu c M m<|mem_of_lookup f;subst this;show u.cell n M f
  .by_cases q:x=Z9 "script";.subst q;rw[ZG,beq_self_eq_true]at e;cases e;show ae (.ref L) (.inl ⟨i,tY (kd:=Y.env.kindOf) i (by simp) (by exists ZG;show aW (beq_self_eq_true _) rfl)⟩)<|.lst J (D.keep _ _ C)<|Ly F
   .rw[ZG,beq_false_of_ne q]at e;cases e
 have N:Y.A.depth=302:=rfl;have O:Y.A.units=7:=rfl;have Q:ZU=1000:=rfl;have R:Xo=9900:=rfl;have B:=Mg (K:=⟨λb b=>False,λa O'=>a=.bool ZW,λb b=>False,λb b=>False⟩) E CY H rfl (by exists N,Q;decide) (by exists O,R;decide) λ_=>rfl;show wm (B (λb b=>False) _ FY) λfl s' x=>?_;show iy x ?_;clear x;intro ρ' W d S x;have kp:Keeps s.heap s'.heap:=λa o e=>d.keep a o (λq=>nM q) e;cases fl with
 |next=>show x.elim;|ret v=>show aq x ?_;clear x;intro a r U;subst U;cases r.iB;show lW rfl kp d.os d.gens;|brk=>show x.elim;|cont=>show x.elim
def IX(M:∀p∈G,ij p)(N:G.length<=62)(n:∀{i j:Nat}{z:ZD},F[i]?=Z7 z->F[j]?=Z7 z->i=j)(O:(bu G++F).length=200):(bF (cG G) (bu G++F)).length<64:=by
 ext G F;obtain⟨P,R,S,o⟩:=aaZ (cG G)<|bu G++F;obtain⟨z,D⟩:∃z,∀x,Cr G F P x->z=x:=by
  by_cases q:∃y,Cr G F P y;.obtain⟨y,U⟩:=q;show⟨y,λx f=>HE o U f⟩
  .show⟨ZP,λx f=>(q ⟨x,f⟩).elim⟩
 have g:∀x,(P.map λs=>(cG G).getD s.1 ZP).count x<=(z::G.map (·.line)).count x:=by
  intro x;exists HC _ _ _,WW;have pw:=o.sublist<|Uy (p:=λs:Nat×Nat=>(cG G).getD s.1 ZP==x);have a:∀s∈P.filter (λs=>(cG G).getD s.1 ZP==x),s∈P/\(cG G)[s.1]?=Z7 x/\(bu G++F)[s.2]?=Z7 x/\((!a5 (bu G++F) x)=ZW\/s=(0,0)):=λs k=>by
   obtain⟨c,d⟩:=Xv.mp k;have d:=eq_of_beq d;obtain⟨V,r2,W,E⟩:=S s c;rw[d]at E;have e:(cG G)[s.1]?=Z7 x:=by exists ZJ d,ZB,Z2 V;rfl
   show⟨c,e,W.symm.trans e,E⟩
  generalize P.filter (λs=>(cG G).getD s.1 ZP==x)=Q at pw a;cases Q with|nil=>show ZZ _;|cons s Q=>obtain⟨k,X,Y,sr⟩:=a s<|.head _;obtain⟨u,v,A⟩:=tV X Y;have Z:=Lq A.iu;cases Q with|nil=>show(?_:1<=_);omega;|cons t Q=>
    obtain⟨H,ta,tb,I⟩:=a t<|.tail _<|.head _;obtain⟨u',v',B⟩:=tV ta tb;have c:=(Xr.mp pw).1 t<|.head _;have l:=(Xr.mp pw).2;have b:a5 (bu G++F) x=ZX:=by cases e:a5 (bu G++F) x with|false=>rfl;|true=>
      rw[e]at I;rcases I with q|q;.cases q
      .have:=c.1;rw[q]at this;show absurd this<|XN _
    have J:(bu G++F).count x<=3:=by unfold a5 at b;rw[uR,O]at b;have:decide ((200:Nat)/100+1<(bu G++F).count x)=ZX:=b;have:=of_decide_eq_false this;show(ai 0xf643113c5a4c0ef88e622c08fc11e16) this<|Yt (200) 100
    have l3:(s::t::Q).length<=3:=by
     have:=abe (x:=x) (bu G++F) ((s::t::Q).map (·.2)) (TH.mpr<|pw.imp λh=>h.2.1) λq hq=>by obtain⟨r,m,rfl⟩:=Z0.mp hq;show(a r m).2.2.1
     rw[Z6]at this;show(af 0x608f16041c11e11) J this
    cases Q with|nil=>
     show(?_:2<=_);rcases adq n k H A B c with q|q;.show(af 0x3011bf111046f2) q
     .exists if_pos<|beq_iff_eq.mpr<|D x q;show(ak 0x60227e2227846f0) Z;|cons r Q=>cases Q with|cons w Q=>have:Q.length+4<=3:=l3;show(ay 0xc11f12bc58890612) this;|nil=>
      obtain⟨m,ra,rb,_⟩:=a r<|mI 2 rfl;obtain⟨u'',v'',C⟩:=tV ra rb;show(?_:3<=_);rcases ac4 n M H m A B C c ((Xr.mp l).1 r<|.head _) ((Xr.mp pw).1 r<|.tail _<|.head _) J with q|⟨q1,q2⟩;.show(af 0x30123f111048f2) q
      .exists if_pos<|beq_iff_eq.mpr<|D x q2;show(ak 0x60237e2227848f0) q1
 have:=Mm _ _ g;rw[Z6,ZO,Z6,R]at this;show(af 0x31f809e2c444f1072180de11) N this
def CK(w)(G):rk (jl w G)<=G.length:=by
 show abS _ (λg=>?_) G;split;.show abR g.line _ λy a=>VJ a
 .show ZZ _
def MT(c:∀p∈G,ij p)(b:G.length<=62)(i:a<=1):(bF (cG G) (kU G a)).length<64:=by
 unfold kU;by_cases q:(bu G).length<200*a
 .have e:200*a=200:=by omega
  rw[e]at q⊢;show IX c b (λh d=>IY (ZR _) h d) ?_;exists ZV,r6 _ _;show(ak 0x65303bc3a4c0ef8c82981de10) q
 .have e:iJ (bu G).length (200*a)=[]:=UF (by exists r6 _ _;show(af 0xf66614c0ef1682f90a614c0ef0) q);exists e,ZH _;obtain⟨f,g⟩:=oh (cG G)<|bu G;show IW g f (ZY (CK 2 G)<|<-(ak 0xc7e0278720809e10) b)<|ZY (CK 1 G)<|<-(ak 0xc7e0278720809e10) b
def AY(a:∀p∈G,ij p):∀x∈jl w G,kh x:=λx b=>by
 obtain⟨g,c,h⟩:=XW.mp b;split at h;.exists VJ h;show(a g c).line
 .cases h
abbrev AR(x:ZD):Bool:=x.cps.toList.dropLast.all (λc=>c !=10)&&x.cps.toList.getLast?==Z7 10&&V1 x.length 4
def ME:((YY 300).all λk=>AR (jd (k:Nat)))=ZW:=⋯
def MH(h:k<300):kh (jd (k:Nat)):=by
 have p:=Yi.mp ME k<|XR.mpr h;unfold AR at p;rw[YK,YK]at p;obtain⟨⟨a,_⟩,b⟩:=p;show⟨Z9<|toString<|(100:Int)+(k:Int),rfl,λq=>?_,?_⟩
 .have e:(jd (k:Nat)).cps.toList=(Z9<|toString<|(100:Int)+(k:Int)).cps.toList++[10]:=by unfold jd;exists YS _ _,YW;rfl
  rw[e,RI]at a;have p:=Yi.mp a 10 q;cases p
 .have p:=Yq b;unfold jd at p;rw[Za]at p;have p:_+1<=4:=p;show(ak 0x60af889e1c11e10) p
def MU:xE:=λG h j d b e=>by
 have k:=vh b;have m:=vi b;show d6.plain ⟨<-(af 0x31f809e2c4c4978715841e11) d k,?_,AY (w:=2) b,λx c=>?_,?_,MT b d e⟩;.unfold kU;exists ZV,r6 _ _;show(ai 0x63f013c7813c5898d2f0e2b083e320cc4981de14) d e m
 .unfold kU at c;rcases ZS.mp c with c|c;.show AY (w:=1) b x c
  .obtain⟨t,n⟩:=RF c;obtain⟨o,rfl⟩:=ut n;show MH (<-(ai 0x30278f320cc6981de2cb60a7c441c) e o)
 .obtain⟨g,f⟩:=List.exists_mem_of_length_pos<|WK Qj j;have p:=(b g f).DB;have i:g.line∈cS g:=by unfold cS;show List.mem_replicate.mpr ⟨<-(ak 0x18089fed05e10) p,rfl⟩
  by_cases q:g.kind=2
  ·right;show WK (Wf (a:=g.line) (l:=bu G)<|XW.mpr ⟨g,f,?_⟩) ?_;.rw[if_pos (by rw[q];decide)];show i
   .unfold kU;exists ZV;show(af 0x18884423)
  .left;show Wf (a:=g.line)<|XW.mpr ⟨g,f,?_⟩;exists if_pos q;show i
def holds:Yw.Holds:=aaM λw=>Hc MU w
end Mine.Internal
end
theorem PySem.Challenge.cw_mt0001_01_holds : PySem.Challenge.rw_mt0001_01.Holds :=
  Mine.Internal.holds
