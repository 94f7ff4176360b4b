import PyProof.Rows.All
import Wide.All
import OpenK.AllK
import KE.KDictIter
import OpenK.ZHead
import OpenK.XOpen
import Lean
import PySem.Challenge.RW_yj0002_01
set_option genInjectivity false
set_option genCtorIdx false
set_option bootstrap.genMatcherCode false
set_option genSizeOfSpec false
set_option maxHeartbeats 0
set_option Elab.async false
set_option maxRecDepth 100000
set_option linter.unusedVariables false
open PySem.Str renaming ofString->yZ
open PySem renaming wpAny_bind->y0,wpAny_pure->y4,model->y6,wpAny->y7,wpAny_truthy_bool->zb,Shared->zc,Addr->zh,wpAny_mono->zi,recursionLimit->zj,wpAny_holding->zs,wpAny_seqItems->zy,sizeLine_eq->zz,callEnvC->zB,Params->zI,Str->zK,codeAny->zW,wpAny_call_entry->zX,execs->z5,wpAny_execs_cons->z9,wpAny_callSpecial?_slot->Ab,codeAny_builtin->Ad,builtinLookup_eq_fast->Ae,wpAny_newObj_type->Af,callEnv->Ah,strKind->Ap,World->As,compEnvC->At,plainId_quiet->Au,eval->Ax,wpAny_of_eq->Ay,Builtin->Az,cLine->AB,SetTable->AE,wpAny_with_toks->AH,Heap->AJ,compareOp->AK,starEach->AM,wpAny_field->AN,wpAny_isInstance->AO,Tok->AQ,Obj->AR,wpAny_rule->AS,Around->AU,valueAt->AV,isSubtype_type->Be,list_getitem_lookup->Bg,typeLookup_type->Bj,Program->Bm,bootBuiltins->Bn,mainGlobals->Bp,wpAny_richCompare_same_room->Bz,wpAny_Constant_none->BA,FuncData->BD,wpAny_updateSeq->BH,Spec->BK,typeLookup->BL,seqItems?->BQ,assign->BR,assignEach->BS,wpAny_call->BU,wpAny_specialOf->BX,wpAny_askSetting->B0,entryFor_of_tree->B2,wpAny_sharingNotTold_none->B4,boot_len->B5,NoneBooked->B8,isInstance->B9,wpAny_pyIter_list->Cb,assignInOrder->Cf,Result->Cm,backTo->Cn,codeAny_call_builtin->Cr,wpAny_Constant_float->Ct,Stmt->Cv,intKind->Cw,rawInt->Cz,keywordEach->CD,spliced->CH,isSubtype_tuple_tuple->CL,argsOk->CM,isSubtype->CN,type_list_append->CP,wpAny_standAt->CS,DictEntry->CV,foldedSetIterable->CX,wpAny_execs_nil->CZ,letOwnedTupleGo->C0,TriplesOk->C7,typeOf->Dc,firstArgMember->De,getItem->Dg,pyNext->Di,wpAny_loadName_local->Dp,entryFor->Dq,wpAny_typeOf->Dr,wpAny_load->Dv,wpAny_attempt->Dw,wpAny_getItem_list_slice->Dz,Scope->DB,wpAny_tryCatch->DF,wpAny_setField->DG,wpAny_letGo->DI,richCompare->DJ,wpAny_setField_rec->DT,callWith->DW,backToKw->DX,sizeLine->DY,wpAny_tests_nil->DZ,wpAny_UnaryOp->Ea,cellsFrom->Eb,evalPart_none->Ec,wpAny_Constant_bool->Ei,Pos->Ej,builtinKind->Eo,strIterType->Ep,wpAny_letTemporaryGo->Ev,wpAny_newFunctionEnv_cells->Ew,checkBuiltinCall->EF,specialOf->EG,wpAny_eqBool_int->EI,pyIter->EM,binaryOp->EQ,NameKind->ER,wpAny_newList->EU,codeAny_of_tree->EY,wpAny_ite_split->E4,storeName->Ff,BindsTo->Fn,letTemporaryGo->Fo,wpAny_newTuple->Fq,eqBool->Fy,wpAny_storeName_local->FH,wpAny_pyIter_listiter->FJ,codeAny_call_function->FK,swapsWith->FO,closureFor->FR,plainId->FT,notedBy->FU,field->FX,wpAny_newFunctionEnv->FZ,wpAny_Slice->F0,importedModules->F5,wpAny_operating->Gc,wpAny_loadPart'->Gg,slicePick_upto'->Gh,builtinType_eq_fast->Gk,codeAny_mono->Gr,codeAmong->Gy,slicePick->Gz,builtinsNs->GC,entryFor_alias->GD,step->GF,wpAny_pyIter_tuple->GG,wpAny_pyIter_range->GH,isSubtype_stop->GN,wpAny_fieldsOf->GV,wpAny_runValue->G3,getAttr->Hb,holding->Hd,table->Hg,subscripted->Hh,wpAny_pyIter_slot->Hk,PyData->Hu,swappedStores->Hv,stored->Hx,wpAny_handled->HA,wpAny_comprehension_free->HC,evalPart_some->HD,Model->HL,getMethod->HM,seqIndex?->HO,setState->HU,wpAny_storeSet_of->HV,wpAny_Name->H4,meets_dict_get_default->H9,call_meets->Ic,callType_new->Ie,wpAny_nextOf_list_item->Ig,typeIs_int->It,codeAny_compStart_list->Iv,compEnv->Iw,Env->II,exec_Assign_Name_used->IP,wpAny_throw->I7,truthOfDropped->Ja,wpAny_updateSeq_pair->Jf,emptiesJoinedAsOfOld->Jm,updateSeq->Jr,codeAny_forLoop_any->Jy,behindInMarks->JE,KeyKind->JG,wpAny_onRaise->JI,wpAny_assign_Tuple->JP,call_function_tree->JV,Operator->J4,operate->J9,getMethod_builtin->Kb,callSpecial?->Ki,codeAny_func->Kt,wpAny_sequenceKey->Kw,call_range_1->Kx,setAddHashed->KE,ClassData->KO,codeAny_call_def->KP,Fin->KS,wpAny_Try_except->KY,wpAny_pyIter_zip->K0,interactive->Lj,builtinType->Lm,wpAny_alloc->Lq,sliceBounds->Lw,Sem->LH,codeAny_forLoop->LN,wpAny_tests_one->LU,call_repr_gives->LW,putSet_of->LY,is_none->L3,checkBoundCall->Mh,typeIs_str->Mj,callType_codes->Mp,checkCount->Mr,TriplesOk_snoc->Mu,evalPart->MD,carriedByValue->MI,Arguments->MU,Args->M5,splitId->M9,newEnv->Nb,Flow->Nk,loadName->Nm,evalArgs->Nn,bindName->No,bindC->Nv,WalksU->NC,Slot->ND,newExc->NE,call->NF,wants->NK
open List renaming mem_append_right->y5,mem_append_left->y8,mem_singleton->y9,mem_cons->za,mem_map->zd,length_map->ze,mem_append->zf,size_toArray->zg,getElem?_eq_getElem->zl,forall_mem_nil->zm,sublist_cons_self->zo,mem_of_getElem?->zp,nodup_cons->zu,perm_middle->zv,append_assoc->zx,getElem?_map->zE,all_eq_true->zF,map_append->zG,length_cons->zL,perm_append_comm->zM,length_append->zO,range->zQ,getElem?_eq_none->zT,mem_range->zV,getElem?_eq_some_iff->zY,take_length->z4,getElem_mem->Ac,sublist_append_right->Ai,take_add_one->Am,append_nil->Aq,forIn_cons->AC,map_cons->AD,mem_of_mem_take->AI,pairwise_map->AX,contains_iff_mem->AZ,length_take->Bh,getD_eq_getElem?_getD->Bl,cons_append->Bu,filter_append->Bx,mem_filter->BC,length_filter_le->BO,mem_flatMap->BY,length_range->Ca,map_take->Cg,length_nil->Ck,ext_getElem?->Cx,length->CE,take_append_drop->CK,map_map->CR,nodup_append->CW,length_reverse->C3,take_of_length_le->C5,nodup_nil->C9,getElem?_append_left->Dh,nil_append->Dm,getElem?_set->Ds,getElem?_take_of_lt->DA,getElem_map->DH,pairwise_cons->DQ,map_inj_right->DR,length_singleton->Ef,reverse_perm->Eh,mem_cons_of_mem->El,forIn_nil->Er,drop_zero->Et,forall_mem_cons->Ez,lookup_cons->ED,filter_cons->EE,length_drop->EJ,pairwise_iff_getElem->EK,mem_of_find?_eq_some->EL,mergeSort_perm->EO,filter_nil->E6,find?_eq_none->Fa,getElem?_drop->Fd,getElem?_cons_succ->Fh,filter_congr->Fp,pairwise_lt_range->Ft,getElem?_toArray->FL,mem_reverse->FN,take->FS,map_eq_cons_iff->F2,eq_nil_of_length_eq_zero->F4,foldl_cons->Ga,length_pos_iff->Gm,toArray->Gu,getElem?_append_right->GB,getElem_range->GW,append_of_mem->GZ,findSome?_eq_none_iff->G0,replicate->G1,drop_eq_getElem_cons->G8,foldl_append->Hl,filter_cons_of_neg->HQ,filter_cons_of_pos->HR,pairwise_mergeSort->HS,nodup_range->HW,find?_cons_of_neg->H5,filter_eq_nil_iff->Ia,length_pos_of_mem->Ib,find?_some->ID,set_append_right->IL,cons_lt_cons_iff->IN,mem_iff_getElem->I1,pairwise_append->Jc,drop_drop->Jg,mem_of_mem_drop->Ji,toList_toArray->Jx,filterMap_cons->JB,any_cons->JF,map_drop->JJ,getElem?_inj->J5,map_nil->J8,map_set->Ka,mem_range'_1->Kj,drop_sublist->Kk,all_eq_false->Kz,any_eq_true->KH,isEmpty_nil->KQ,map_snd_zip->KR,nil_sublist->KW,ext_getElem->Lc,lookup->Li,range'->Lr,all_cons->MM
open Nat renaming le_refl->zk,le_trans->zn,zero_le->zD,lt_of_lt_of_le->zN,lt_mul_div_succ->Aa,ne_of_lt->Ag,le_of_lt->Ak,lt_irrefl->Ao,lt_or_ge->AP,mul_div_le->Bc,lt_succ_self->Bi,not_lt_zero->Bt,lt_of_le_of_lt->Bv,not_lt->Bw,max_eq_right->BJ,ne_of_gt->Ci,ble->Cj,le_add_right->Cp,lt_add_of_pos_right->Cu,lt_trans->CA,le_of_lt_succ->CC,le_of_ble_eq_true->CJ,le_succ->C6,succ_le_succ->C8,mul_le_mul_right->Do,lt_trichotomy->Du,le_of_succ_le_succ->DU,lt_or_eq_of_le->DV,le_succ_of_le->Eg,le_of_not_lt->EC,zero_add->Fk,lt_succ_of_lt->Fw,succ_pos->Fx,compare_eq_lt->Fz,compare_eq_eq->FA,lt_of_succ_lt->FC,succ_ne_self->FQ,not_succ_le_zero->FV,le_antisymm->F9,le_of_eq->Gp,add_sub_cancel->GL,lt_of_lt_of_eq->GY,compare_eq_gt->Hq,add_assoc->HE,add_sub_cancel_left->HJ,lt_of_succ_lt_succ->H2,mul_comm->H3,not_le->Ik,add_zero->Im,min_eq_left->Iz,max_eq_left->IA,strongRecOn->IC,eq_of_beq_eq_true->IG,add_lt_add_left->Ju,lt_asymm->J0,lt_succ_of_le->J1,sub_pos_of_lt->Kn,min_le_right->KX,not_le_of_lt->Lb,mod_eq_of_lt->Ld,pow_pos->Lu,le_zero->Lv,noConfusion->LD,le_max_left->LK,mod_lt->MH,le_total->M4,add_comm->M8,succ_mul->Nd
open PyProof.Rows renaming args_nil->zq,isTrue_plain->B3,len_list->Ce,slot_tuple_getitem->CG,add_int->CT,Subscript_->Dx,kws_cons->Ex,listUpdate_at->ET,entry_list_sort->EZ,eqBool_str->E9,slot_list_sort->Fj,seqEpoch_at->FY,lt_int->GS,isTrue_and_nil->GU,call_function_entry_kw->Ij,sub_int->Io,gt_int->Ip,keyLt'->I4,add_str->Jj,kws_nil->Jt,dflt->Jw,wpAny_call_entry_kw->Jz,subscriptTail->JH,assignInOrder_cons->JO,truthy_int->JR,seen->JS,assignInOrder_nil->J7,listItems_at->Ke,general'->Kf,neg_int->Ko,entry_tuple_getitem->Ky,args_tuple_getitem->KG,callWith_kw->Ls,ge_int->L4,tuples'->L5,SortKind->L9,callWith_type->Mc,isTrue_and->Mk,oneType'->Mm,args_list_sort->Mn,keyKind'->Mq,getItem_tuple->Mx,slicePart_none->MB,BoolOp_and->MF,isTrue_not->MV,args_cons->M6,AllBare->M7,len_tuple->Na,le_fi->Ng,le_if->Nh,tail_any->Nq,UnaryOp_->Nx,ne_str->Nz,ge_fi->NJ,arrOf->NL
open Bool renaming and_eq_true_iff->zr,false_ne_true->zR,or_eq_false_iff->FW,false_eq_true->GO,eq_false_iff->Ho,not_true->HF,and_eq_true->HK,and_false->Jh,false_and->Jo,and_self->JK,or_eq_true->Lx
open PySem.Heap renaming get?_update_self->zt,get?_push_of_some->zC,get?_push_size->zU,lt_size->AL,SameBut->BZ,get?_update_other->FD,dictOf_iff->F7,size_push->GQ,ExtBut->He
open PySem.Heap.SameBut renaming update->zw,refl->Km
open PySem.W.KFB renaming if_not->zA,if_so->Bq
open Array renaming getElem?_eq_getElem->zH,getD_eq_getD_getElem?->zJ,length_toList->Bf,getElem?_eq_none->BG,perm_iff_toList_perm->Dd,getElem_toList->Ey,mem_toList_iff->EA,getElem?_eq_some_iff->EB,toList_inj->EH,toList_append->EN,size_push->E5,size_append->FF,getD->GJ,empty_append->GP,toList->Iu,size_eq_zero_iff->Ix,getElem?_extract->Iy,replicate->IF,getElem?_toList->IX,forIn_toList->JQ,append_assoc->JU,size_extract->JX,append_empty->JY,any->KL
open List.Perm renaming cons->zP,swap->z8,refl->BI,append_left->Ed,append_right->Iq,trans->LQ
open PySem.Obj renaming mapSeq->zS,data_mapFields->E8,isFreed_of_fields->IM,cls_mapFields->Kl,data->Mw,mapFields->MT,putSet->NI
open PySem.Float64 renaming cmp->zZ,cmpInt->CB,hash?->CU,ofInt->EV,neg->Jk,div->Ln,mul->Lo
open Option renaming map_eq_some_iff->z0,getD_none->CQ,bind_eq_some_iff->DE,toList_some->GX
open PySem.Builtin.Range renaming rangeSize->Aj,small->DC
open List.Sublist renaming refl->Al,cons->Hm,cons_cons->Nf
open PySem.Value renaming type->An,ref->AW,float->BE,int->Cc,none->CO,builtin->D7,bool->FM,isStr->Hc
open LawfulBEq renaming eq_of_beq->Aw
open Pure renaming pure->AA
open Inhabited renaming default->AF
open Option.some renaming inj->AG
open PySem.F renaming slot_tuple_iterator_next->AT,slot_list_append->By,called_set->Co,plain_extend_loop->Cq,args_tuple_iterator_next_1->C1,entry_tuple_iterator_next->C4,slot_range_iterator_next->Df,entry_extend_loop->DO,slot_dict_get->Ee,slot_dict_getattribute->ES,slot_tuple_eq->E7,slot_set_getattribute->Fg,slot_list_sort->Fv,slot_float_hash->FG,type_dict_get->FI,slot_tuple_getitem->F3,slot_dict_setdefault->F8,slot_tuple_lt->Ge,slot_tuple_gt->Gf,args_range_iterator_next_1->Gi,slot_zip_next->Gj,entry_range_iterator_next->Gw,args_tuple_getitem_2->G9,args_tuple_lt_2->Hn,entry_tuple_getitem->HB,entry_tuple_lt->HP,plain_list_iadd->HT,entry_dict_get->H8,type_list_sort->Ir,slot_list_pop->IJ,slot_str_getitem->IQ,slot_int_rmul->IR,slot_set_iter->IW,args_object_init_3->I5,args_object_init_2->I8,entry_tuple_new->Kg,args_tuple_gt_2->Kq,args_tuple_eq_2->Kr,args_zip_next_1->Kv,entry_tuple_gt->KU,entry_tuple_eq->KV,entry_zip_next->KZ,slot_float_lt->LM
open PySem.SetTable renaming insertAt->AY,grown->G6,Probe->MJ
open PySem.BindsTo renaming of_eq->Ba,of_defaults->BB
open Int renaming ofNat_toNat->Bb,toNat->Dl,ofNat_lt->Dn,le_trans->DK,ofNat_le->DL,natCast_nonneg->DM,sub_nonneg_of_le->Ek,toNat_natCast->Fu,natCast_add->Gb,zero_add->Gn,mul_comm->Go,not_lt->GA,lt_of_le_of_lt->GI,mul_one->Ha,ofNat->HG,add_zero->HX,le_of_eq->HY,le_of_lt->HZ,not_le->H0,one_mul->IY,le_refl->Jb,toNat_of_nonneg->Jv,min_eq_right->KI,max_eq_right->KJ,neg_mul->Lh,min_eq_left->Ly,max_eq_left->Lz,mul_nonneg->L7,add_assoc->ML,ofNat_inj->MN,mul_zero->M2,zero_mul->M3,min_def->Np
open PySem.ScopeKind renaming noConfusion->Bo
open PySem.AutoFloatOps renaming wpAny_Constant_float->Br,typeIs_float->B7,le_0->FE,truediv_fi_2->G7,gt_0->Hp,eq_0->NM,lt_0->NN,ge_0->NO
open Classical renaming byContradiction->BF
open PySem.Manifest renaming toldItsClass->BN,signature?->Gl,varargsMethods->HN
open PySem.Around renaming under_plainId->BV,frames_deeper->BW
open PySem.Builtin.SmallTypes renaming nextOf->B6,ownedTupleIsFree->EX,ownedTupleHandOut->JA,refuseKeywords->JZ,newRecord->LJ,newClass->L2,iterAll->Mo
open PySem.W renaming Looks->Cy,hideAll->DN,looks_findIn->DP,tabObj->Fe,hideAll_none->Gq,check_slot->GR,Frag->Ht,hideAll_get->IZ,findIn->I0,looks_mroIn->I6,absHeap->Jp,kas_rev->Jq,fencedOpening->JD,dictOf->JN,SharedT->J3,kas_desc->Kc,kas_descPart->Kd,plainGet_of->Lk,lookIn_dict->Ll,of_hideAll->Ma,handedIn->Md,kat_cons->MA,kas_tail3->MW,kas_place->MX,handed_on->MY,methodObj->MZ,kat_yes->Nc,openSeen->Ni,openGood->Nj,nsIn->Nl,kat_kind->Nw,WRecords->Ny,keepIn->NA,kat_go->NG,kat_no->NH,getL->NQ
open PySem.Builtin.Tuple renaming tupleCompareSizes->CF,tupleItemsOf->Eu,tupleExact->MS
open PySem.Builtin.Slice renaming sliceAdjust->CI,slicePlaces->Dk,slicePartIndex->LS,sliceApplied->MC
open PySem.Heap.UpToSlots renaming of_keeps->CY
open PySem.Builtin renaming divisionGoesByPylong->C2
open ForIn renaming forIn->Dt
open PySem.W.Looks renaming of_peek->Dy,of_pure->MO
open PySem.Heap.FunFrames renaming cons->DD
open PySem.Heap.IsSliceOf renaming new->DS
open PySem.W.X renaming tableObj->Em
open PySem.Calls renaming Name_function_global->En,loadGlobal_builtin->JM,loadGlobal_global->J6,evalArgs_plain->Mb
open PyProof.Rows.F renaming entry_set_update_loop->EP,plain_set_update_loop->JC
open List.Pairwise renaming imp_of_mem->EW,nil->Ku,filter->Nu
open PySem.Builtin.List renaming listUpdate->Fi,listExtendWith->Gs,listSameRef->Hy,listItems->Ih,listLengthHint->L6,listFitsIndex->MG,listTooLong->MR
open PySem.PyData renaming keyHash->Fl,leavesShort->G5,list->Hr,showable->IE,leavesShortAll->IS,hasDict->Jn,weight->JL,showableAll->JW,hasDictAll->KA,depth->KC,weightAll->Lg,depthAll->LX
open PySem.Challenge renaming rw_yj0002_01->F6,pw_yj0002_01->LF
open PySem.Builtin.Builtins renaming bindParams->Gv
open PySem.Builtin.Str renaming strSliceIndices->Gx
open PySem.WalksT renaming enumerateD->Hi
open PySem.Shared renaming heap->Hj,TypeIs->MQ
open List.cons renaming inj->Hw
open PySem.Bind renaming madeHere->Hz,madeBy->Lp,staticBase->LL,checkArgs->Mg
open PyProof.Rows.SortSt renaming mk'->Ii
open PySem.Flt renaming isZero_ofInt->Il,fin_of_fits->IK,Over->Mt
open ForInStep renaming yield->IB,done->Jl
open PySem.AutoFloatG5 renaming float___lt___float_float_0->Jd
open Ne renaming symm->Js
open PySem.Code renaming quiet_builtin->JT
open PySem.callAny renaming viaDunder->Kh
open Prod renaming ext->Ks,snd->My
open PySem.AutoIntOps renaming pow_4->Lf
open PySem.W.Fast renaming ofString_ofList->LG
open PySem.MeetsSeq renaming list_pop_last->LI
open PySem.P renaming add_str->LR,gt_str->Mv,eq_str->ME,neg_int->M0
open PySem.Builtin.Frozenset renaming updateFrom->LZ,oneOther->Mi,newClass->MK,slot0->M1
open Min renaming min->L8
open PySem.isSame renaming created->Me
open PySem.Sem renaming wp_release->Mf
open PySem.Walks renaming list->Ml,range->Nr
open MonadExcept renaming tryCatch->Mz
open PySem.W.KasT renaming ask->Nt
open PySem.Stmt renaming Pass->NP
open MonadState renaming get->NR
open PySem.Heap.DictOf renaming new->NS
noncomputable section
namespace Mine
namespace Ar
noncomputable def ev:List Int->List Int->Int
 | a::f,x::e=>a * x+ev f e
 | _,_=>0
noncomputable def add:List Int->List Int->List Int
 | a::f,b::g=>(a+b)::add f g
 | [],g=>g
 | f,[]=>f
noncomputable def sm(m:Int)(f:List Int):List Int:=f.map (m * ·)
theorem eP(e:List Int):ev [] e=0:=by cases e<;> rfl
theorem nB(f:List Int):∀ g e:List Int,ev (add f g) e=ev f e+ev g e:=by
 induction f with
 | nil=>intro g e;rw[eP,Gn];rfl
 | cons a f ih =>
  intro g e
  cases g with
  | nil=>rw[eP,HX];rfl
  | cons b g =>
   cases e with
   | nil=>rfl
   | cons x e =>
    refine (congrArg ((a+b) * x + ·) (ih g e)).trans ?_
    show _=a * x+ev f e+(b * x+ev g e)
    rw[Int.add_mul,ML,ML,Int.add_left_comm (b * x)]
theorem tO(m:Int)(f:List Int):∀ e:List Int,ev (sm m f) e=m * ev f e:=by
 induction f with
 | nil=>intro e;rw[eP,M2];exact eP e
 | cons a f ih =>
  intro e
  cases e with
  | nil=>exact (M2 m).symm
  | cons x e=>exact (congrArg (m * a * x + ·) (ih e)).trans (by rw[Int.mul_assoc];exact (Int.mul_add _ _ _).symm)
noncomputable def sub(f g:List Int):List Int:=add f (sm (-1) g)
theorem nA(f g e:List Int):ev (sub f g) e=ev f e - ev g e:=(nB _ _ _).trans (by rw[tO,Lh,IY];rfl)
noncomputable def uf:Nat->List Int
 | 0=>[1]
 | i+1=>0::uf i
noncomputable def cf(f:List Int)(i:Nat):Int:=f.getD i 0
noncomputable def bad(c:List Int):Bool:=match c with
 | []=>false
 | a::f=>decide (a<0)&&f.all λb=>decide (b=0)
noncomputable def one(i:Nat)(cs:List (List Int)):List (List Int) :=
 (cs.filter λc=>decide (cf c i=0))++(cs.filter λc=>decide (0<cf c i)).flatMap λp=>(cs.filter λc=>decide (cf c i<0)).map λq=>add (sm (-(cf q i)) p) (sm (cf p i) q)
noncomputable def fm:Nat->List (List Int)->Bool
 | 0,cs=>cs.any bad
 | n+1,cs=>cs.any bad || fm n (one (n+1) cs)
theorem wW(f:List Int):∀ (e:List Int),(f.all λb=>decide (b=0))=true->ev f e=0:=by
 induction f with
 | nil=>exact λe Z=>eP e
 | cons a f ih =>
  intro e h
  have h:=zr.mp (MM.symm.trans h)
  cases e with
  | nil=>rfl
  | cons x e=>exact (congrArg (a * x + ·) (ih e h.2)).trans (by rw[of_decide_eq_true h.1,M3];rfl)
def lF(e:List Int)(gs:List (List Int)):Prop:=∀ g∈gs,0<=ev g (1::e)
variable{e:List Int}
theorem uY{cs:List (List Int)}(h:lF e cs)(hb:cs.any bad=true):False:=by
 obtain⟨c,hc,hb⟩:=KH.mp hb
 have:=h _ hc
 cases c with
 | nil=>cases hb
 | cons a f =>
  have hb:=zr.mp hb
  exact absurd (of_decide_eq_true hb.1) (GA.mpr (DK this (HY ((congrArg (a * 1 + ·) (wW f e hb.2)).trans (by rw[Ha];exact HX a)))))
theorem fm_no(n:Nat):∀ cs:List (List Int),lF e cs->fm n cs=true->False:=by
 induction n with
 | zero=>exact λcs=>uY
 | succ n ih =>
  refine λcs h hf=>((Lx _ _).mp hf).elim (uY h) (ih _ λc hc=>(zf.mp hc).elim (λhc=>h c (BC.mp hc).1) λhc=>?_)
  obtain⟨p,hp,hc⟩:=BY.mp hc
  obtain⟨r,hr,rfl⟩:=zd.mp hc
  have hp:=BC.mp hp
  have hr:=BC.mp hr
  rw[nB,tO,tO]
  exact Int.add_nonneg (L7 (Int.neg_nonneg_of_nonpos (HZ (of_decide_eq_true hr.2))) (h p hp.1)) (L7 (HZ (of_decide_eq_true hp.2)) (h r hr.1))
theorem eG{a b:List (List Int)}(h:lF e a)(h2:lF e b):lF e (a++b):=λg hg=>(zf.mp hg).elim (h g) (h2 g)
theorem gq{c:List Int}{b:List (List Int)}(h:0<=ev c (1::e))(h2:lF e b):lF e (c::b):=λg hg=>(za.mp hg).elim (λz=>z▸h) (h2 g)
abbrev Fs:=List (List (List Int)×List Int)
def Is(e:List Int)(z:Int)(p:List (List Int)×List Int):Prop:=lF e p.1/\ev p.2 (1::e)=z
def Has(e:List Int)(z:Int)(l:Fs):Prop:=∃ p∈l,Is e z p
noncomputable def cad(x y:Fs):Fs:=x.flatMap λp=>y.map λq=>(p.1++q.1,add p.2 q.2)
noncomputable def csm(m:Int)(x:Fs):Fs:=x.map λp=>(p.1,sm m p.2)
noncomputable def cs2(f g:List Int->List Int->List Int)(x y:Fs):Fs:=x.flatMap λp=>y.flatMap λq=>[(sub p.2 q.2::p.1++q.1,f p.2 q.2),(sub q.2 p.2::p.1++q.1,g p.2 q.2)]
variable{x y:Fs}{a b z:Int}
theorem ko{f:List Int}(h:ev f (1::e)=z):Has e z [([],f)]:=⟨_,.head _,zm _,h⟩
theorem Has.to{l:Fs}(h:Has e a l)(i:a=b):Has e b l:=i▸h
theorem rn(hx:Has e a x)(hy:Has e b y):Has e (a+b) (cad x y) :=
 hx.elim λp hp=>hy.elim λq hq=>⟨_,BY.mpr ⟨p,hp.1,zd.mpr ⟨q,hq.1,rfl⟩⟩,eG hp.2.1 hq.2.1,by rw[nB,hp.2.2,hq.2.2]⟩
theorem nF(m:Int)(hx:Has e a x):Has e (m * a) (csm m x):=hx.elim λp hp=>⟨_,zd.mpr ⟨p,hp.1,rfl⟩,hp.2.1,by rw[tO,hp.2.2]⟩
theorem re{f g:List Int->List Int->List Int}(hx:Has e a x)(hy:Has e b y)(h1:b<=a->∀ p q,ev p (1::e)=a->ev q (1::e)=b->ev (f p q) (1::e)=z)(h2:a<=b->∀ p q,ev p (1::e)=a->ev q (1::e)=b->ev (g p q) (1::e)=z):Has e z (cs2 f g x y) :=
 hx.elim λp hp=>hy.elim λq hq=>(Int.le_total b a).elim
  (λh=>⟨_,BY.mpr ⟨p,hp.1,BY.mpr ⟨q,hq.1,.head _⟩⟩,gq (by rw[nA,hp.2.2,hq.2.2];exact Ek h) (eG hp.2.1 hq.2.1),h1 h _ _ hp.2.2 hq.2.2⟩)
  λh=>⟨_,BY.mpr ⟨p,hp.1,BY.mpr ⟨q,hq.1,.tail _ (.head _)⟩⟩,gq (by rw[nA,hp.2.2,hq.2.2];exact Ek h) (eG hp.2.1 hq.2.1),h2 h _ _ hp.2.2 hq.2.2⟩
theorem yf(hx:Has e a x)(hy:Has e b y):Has e (L8 a b) (cs2 (λZ q=>q) (λp Z=>p) x y):=re hx hy (λh Z Z Z i=>i.trans (KI h).symm) λh Z Z i Z=>i.trans (Ly h).symm
theorem x9(hx:Has e a x)(hy:Has e b y):Has e (max a b) (cs2 (λp Z=>p) (λZ q=>q) x y):=re hx hy (λh Z Z i Z=>i.trans (Lz h).symm) λh Z Z Z i=>i.trans (KJ h).symm
inductive E where
 | v (i:Nat)
 | n (k:Nat)
 | a (x y:E)
 | s (x y:E)
 | mn (x y:E)
 | mx (x y:E)
 | m (k:Nat) (x:E)
inductive F where
 | c (x:E)
 | w (i:Nat)
 | k (z:Int)
 | a (x y:F)
 | s (x y:F)
 | mn (x y:F)
 | mx (x y:F)
 | m (z:Int) (x:F)
 | g (x:F)
noncomputable def E.d(xs:List Nat):E->Nat
 | .v i=>xs.getD i 0
 | .n k=>k
 | .a x y=>x.d xs+y.d xs
 | .s x y=>x.d xs - y.d xs
 | .mn x y=>L8 (x.d xs) (y.d xs)
 | .mx x y=>max (x.d xs) (y.d xs)
 | .m k x=>k * x.d xs
noncomputable def F.d(xs:List Nat)(ys:List Int):F->Int
 | .c x=>(x.d xs:Int)
 | .w i=>ys.getD i 0
 | .k z=>z
 | .a x y=>x.d xs ys+y.d xs ys
 | .s x y=>x.d xs ys - y.d xs ys
 | .mn x y=>L8 (x.d xs ys) (y.d xs ys)
 | .mx x y=>max (x.d xs ys) (y.d xs ys)
 | .m z x=>z * x.d xs ys
 | .g x=>- x.d xs ys
noncomputable def E.l(j:Nat):E->Fs
 | .v i=>[([],if i<j then uf (i+1) else [])]
 | .n k=>[([],[HG k])]
 | .a x y=>cad (x.l j) (y.l j)
 | .s x y=>cs2 sub (λZ Z=>[]) (x.l j) (y.l j)
 | .mn x y=>cs2 (λZ q=>q) (λp Z=>p) (x.l j) (y.l j)
 | .mx x y=>cs2 (λp Z=>p) (λZ q=>q) (x.l j) (y.l j)
 | .m k x=>csm (HG k) (x.l j)
noncomputable def F.l(j:Nat):F->Fs
 | .c x=>x.l j
 | .w i=>[([],uf (j+i+1))]
 | .k z=>[([],[z])]
 | .a x y=>cad (x.l j) (y.l j)
 | .s x y=>cad (x.l j) (csm (-1) (y.l j))
 | .mn x y=>cs2 (λZ q=>q) (λp Z=>p) (x.l j) (y.l j)
 | .mx x y=>cs2 (λp Z=>p) (λZ q=>q) (x.l j) (y.l j)
 | .m z x=>csm z (x.l j)
 | .g x=>csm (-1) (x.l j)
noncomputable def en(xs:List Nat)(ys:List Int):List Int:=xs.map HG++ys
variable{xs:List Nat}{ys:List Int}
theorem yM(i:Nat):∀ e:List Int,ev (uf i) e=e.getD i 0:=by
 induction i with
 | zero =>
  intro e
  cases e with
  | nil=>rfl
  | cons x e=>exact (congrArg (1 * x + ·) (eP e)).trans (by rw[IY];exact HX x)
 | succ i ih =>
  intro e
  cases e with
  | nil=>rfl
  | cons x e=>exact (congrArg (0 * x + ·) (ih e)).trans (by rw[M3];exact Gn _)
theorem ky(z:Int):ev [z] (1::e)=z:=(congrArg (z * 1 + ·) (eP e)).trans (by rw[Ha];exact HX z)
theorem en_v{i:Nat}(h:i<xs.length):ev (uf (i+1)) (1::en xs ys)=(xs.getD i 0:Int):=by
 rw[yM]
 show (xs.map HG++ys).getD i 0=_
 rw[Bl,Bl,Dh (by rw[ze];exact h),zE,zl h];rfl
theorem E.ok:∀ x:E,Has (en xs ys) (x.d xs) (x.l xs.length)
 | .v i=>ko (by
  show ev (if i<xs.length then uf (i+1) else []) _=_
  by_cases h:i<xs.length
  ·rw[if_pos h];exact en_v h
  ·rw[if_neg h,eP];show (0:Int)=(xs.getD i 0:Nat);rw[Bl,zT (EC h)];rfl)
 | .n k=>ko (ky _)
 | .a x y=>rn x.ok y.ok
 | .s x y=>re x.ok y.ok (λh Z Z i j=>by rw[nA,i,j];exact (Int.ofNat_sub (DL.mp h)).symm) λh Z Z Z Z=>by
   show ev [] _=((x.d xs - y.d xs:Nat):Int)
   rw[eP,Nat.sub_eq_zero_of_le (DL.mp h)];rfl
 | .mn x y=>(yf x.ok y.ok).to ((M4 (x.d xs) (y.d xs)).elim (λh=>(Ly (DL.mpr h)).trans (congrArg _ (Iz h).symm)) λh=>(KI (DL.mpr h)).trans (congrArg _ (Nat.min_eq_right h).symm))
 | .mx x y=>(x9 x.ok y.ok).to ((M4 (x.d xs) (y.d xs)).elim (λh=>(KJ (DL.mpr h)).trans (congrArg _ (BJ h).symm)) λh=>(Lz (DL.mpr h)).trans (congrArg _ (IA h).symm))
 | .m k x=>nF _ x.ok
theorem F.ok:∀ x:F,Has (en xs ys) (x.d xs ys) (x.l xs.length)
 | .c x=>x.ok
 | .w i=>ko (by
  rw[yM]
  show (xs.map HG++ys).getD (xs.length+i) 0=ys.getD i 0
  rw[Bl,GB (by rw[ze];exact Cp _ _),ze,HJ];rfl)
 | .k z=>ko (ky z)
 | .a x y=>rn x.ok y.ok
 | .s x y=>(rn x.ok (nF (-1) y.ok)).to (by rw[Lh,IY];rfl)
 | .mn x y=>yf x.ok y.ok
 | .mx x y=>x9 x.ok y.ok
 | .m z x=>nF z x.ok
 | .g x=>(nF (-1) x.ok).to (by rw[Lh,IY];rfl)
abbrev Cs:=List (List (List Int))
def Som(e:List Int)(l:Cs):Prop:=∃ c∈l,lF e c
noncomputable def pr(a b:Cs):Cs:=a.flatMap λp=>b.map λq=>p++q
noncomputable def rl(k:List Int)(x y:Fs):Cs:=x.flatMap λp=>y.map λq=>add k (sub q.2 p.2)::p.1++q.1
noncomputable def rle(x y:Fs):Bool->Cs
 | true=>rl [] x y
 | false=>rl [-1] y x
noncomputable def req(x y:Fs):Bool->Cs
 | true=>pr (rl [] x y) (rl [] y x)
 | false=>rl [-1] x y++rl [-1] y x
theorem kS{a b:Cs}(h:Som e a)(h2:Som e b):Som e (pr a b):=h.elim λc hc=>h2.elim λd hd=>⟨_,BY.mpr ⟨c,hc.1,zd.mpr ⟨d,hd.1,rfl⟩⟩,eG hc.2 hd.2⟩
theorem sf{a b:Cs}(h:Som e a):Som e (a++b):=h.elim λc hc=>⟨c,y8 _ hc.1,hc.2⟩
theorem se{a b:Cs}(h:Som e b):Som e (a++b):=h.elim λc hc=>⟨c,y5 _ hc.1,hc.2⟩
theorem xG{k:List Int}{c:Int}(hx:Has e a x)(hy:Has e b y)(hk:ev k (1::e)=c)(h:0<=c+(b - a)):Som e (rl k x y) :=
 hx.elim λp hp=>hy.elim λq hq=>⟨_,BY.mpr ⟨p,hp.1,zd.mpr ⟨q,hq.1,rfl⟩⟩,gq (by rw[nB,nA,hk,hp.2.2,hq.2.2];exact h) (eG hp.2.1 hq.2.1)⟩
theorem rl_le(hx:Has e a x)(hy:Has e b y)(h:a<=b):Som e (rl [] x y):=xG hx hy (eP _) (by rw[Gn];exact Ek h)
theorem vJ(hx:Has e a x)(hy:Has e b y)(h:a<b):Som e (rl [-1] x y):=xG hx hy (ky _) (by rw[Int.add_comm];exact Int.le_sub_one_of_lt (Int.sub_pos_of_lt h))
def Ok(e:List Int)(p:Prop)(w:Bool->Cs):Prop:=(p->Som e (w true))/\(¬ p->Som e (w false))
theorem og(hx:Has e a x)(hy:Has e b y):Ok e (a<=b) (rle x y):=⟨rl_le hx hy,λh=>vJ hy hx (H0.mp h)⟩
theorem sF(hx:Has e a x)(hy:Has e b y):Ok e (a=b) (req x y):=⟨λh=>kS (rl_le hx hy (HY h)) (rl_le hy hx (HY h.symm)),
 λh=>(Int.lt_or_gt_of_ne h).elim (λq=>sf (vJ hx hy q)) λq=>se (vJ hy hx q)⟩
theorem Ok.to{p q:Prop}{w:Bool->Cs}(h:Ok e p w)(i:q↔p):Ok e q w:=⟨λz=>h.1 (i.mp z),λz=>h.2 λy=>z (i.mpr y)⟩
theorem Ok.no{p:Prop}{w:Bool->Cs}(h:Ok e p w):Ok e (¬ p) λb=>w !b:=⟨h.2,λz=>h.1 (Classical.not_not.mp z)⟩
theorem Ok.dec{p:Prop}[Decidable p]{w:Bool->Cs}(h:Ok e p w):∀ t:Bool,Ok e (decide p=t) λb=>w (b==t)
 | true=>h.to (decide_eq_true_iff)
 | false=>h.no.to (decide_eq_false_iff_not)
inductive P where
 | le (x y:E)
 | lt (x y:E)
 | eq (x y:E)
 | ne (x y:E)
 | Le (x y:F)
 | Lt (x y:F)
 | Eq (x y:F)
 | Ne (x y:F)
 | dl (x y:F) (b:Bool)
 | de (x y:F) (b:Bool)
 | f
 | no (p:P)
 | an (p q:P)
 | or (p q:P)
 | i (p q:P)
def P.d(xs:List Nat)(ys:List Int):P->Prop
 | .le x y=>x.d xs<=y.d xs
 | .lt x y=>x.d xs<y.d xs
 | .eq x y=>x.d xs=y.d xs
 | .ne x y=>x.d xs≠y.d xs
 | .Le x y=>x.d xs ys<=y.d xs ys
 | .Lt x y=>x.d xs ys<y.d xs ys
 | .Eq x y=>x.d xs ys=y.d xs ys
 | .Ne x y=>x.d xs ys≠y.d xs ys
 | .dl x y b=>decide (x.d xs ys<y.d xs ys)=b
 | .de x y b=>decide (x.d xs ys<=y.d xs ys)=b
 | .f=>False
 | .no p=>¬ p.d xs ys
 | .an p q=>p.d xs ys/\q.d xs ys
 | .or p q=>p.d xs ys\/q.d xs ys
 | .i p q=>p.d xs ys->q.d xs ys
noncomputable def P.w(j:Nat):P->Bool->Cs
 | .le x y=>rle (x.l j) (y.l j)
 | .lt x y=>λb=>rle (y.l j) (x.l j) !b
 | .eq x y=>req (x.l j) (y.l j)
 | .ne x y=>λb=>req (x.l j) (y.l j) !b
 | .Le x y=>rle (x.l j) (y.l j)
 | .Lt x y=>λb=>rle (y.l j) (x.l j) !b
 | .Eq x y=>req (x.l j) (y.l j)
 | .Ne x y=>λb=>req (x.l j) (y.l j) !b
 | .dl x y t=>λb=>rle (y.l j) (x.l j) !(b==t)
 | .de x y t=>λb=>rle (x.l j) (y.l j) (b==t)
 | .f=>λb=>if b then [] else [[]]
 | .no p=>λb=>p.w j !b
 | .an p q=>λb=>if b then pr (p.w j true) (q.w j true) else p.w j false++q.w j false
 | .or p q=>λb=>if b then p.w j true++q.w j true else pr (p.w j false) (q.w j false)
 | .i p q=>λb=>if b then p.w j false++q.w j true else pr (p.w j true) (q.w j false)
theorem P.ok:∀ p:P,Ok (en xs ys) (p.d xs ys) (p.w xs.length)
 | .le x y=>(og x.ok y.ok).to DL.symm
 | .lt x y=>(og y.ok x.ok).no.to (Dn.symm.trans H0.symm)
 | .eq x y=>(sF x.ok y.ok).to MN.symm
 | .ne x y=>(sF x.ok y.ok).no.to (not_congr MN.symm)
 | .Le x y=>og x.ok y.ok
 | .Lt x y=>(og y.ok x.ok).no.to H0.symm
 | .Eq x y=>sF x.ok y.ok
 | .Ne x y=>(sF x.ok y.ok).no
 | .dl x y t=>(((og y.ok x.ok).no.to H0.symm).dec t)
 | .de x y t=>(og x.ok y.ok).dec t
 | .f=>⟨False.elim,λZ=>⟨[],.head _,λg hg=>by cases hg⟩⟩
 | .no p=>p.ok.no
 | .an p q=>⟨λh=>kS (p.ok.1 h.1) (q.ok.1 h.2),λh=>(Classical.not_and_iff_not_or_not.mp h).elim (λz=>sf (p.ok.2 z)) λz=>se (q.ok.2 z)⟩
 | .or p q=>⟨λh=>h.elim (λz=>sf (p.ok.1 z)) λz=>se (q.ok.1 z),λh=>kS (p.ok.2 λz=>h (.inl z)) (q.ok.2 λz=>h (.inr z))⟩
 | .i p q=>⟨λh=>(Classical.em (p.d xs ys)).elim (λz=>se (q.ok.1 (h z))) λz=>sf (p.ok.2 z),
   λh=>kS (p.ok.1 (BF λz=>h λy=>absurd y z)) (q.ok.2 λz=>h λZ=>z)⟩
noncomputable def us:Nat->List (List Int)
 | 0=>[]
 | k+1=>uf (k+1)::us k
theorem xr:∀ k,k<=xs.length->lF (en xs ys) (us k)
 | 0,_=>λg hg=>by cases hg
 | k+1,h=>gq (by rw[en_v h];exact DM _) (xr k (Ak h))
def D(xs:List Nat)(ys:List Int):List P->P->Prop
 | [],c=>c.d xs ys
 | h::t,c=>h.d xs ys->D xs ys t c
noncomputable def W(j:Nat):List P->P->Cs
 | [],c=>c.w j false
 | h::t,c=>pr (h.w j true) (W j t c)
theorem D_ok(c:P):∀ hs:List P,(Som (en xs ys) (W xs.length hs c)->False)->D xs ys hs c:=by
 intro hs
 induction hs with
 | nil =>
  intro k
  exact BF λq=>k (c.ok.2 q)
 | cons _ t ih =>
  intro k
  exact λz=>ih λq=>k (kS (P.ok _ |>.1 z) q)
noncomputable abbrev A:E:=.v 0
noncomputable abbrev B:E:=.v 1
noncomputable abbrev C:E:=.v 2
noncomputable abbrev G:E:=.v 3
noncomputable abbrev H:E:=.v 4
noncomputable abbrev I:E:=.v 5
noncomputable abbrev J:E:=.v 6
noncomputable abbrev K:E:=.v 7
theorem ok(hs:List P)(c:P)(xs:List Nat)(ys:List Int:=[])(h:((W xs.length hs c).all λq=>fm (xs.length+ys.length) (us xs.length++q))=true:=by kernel_rfl):D xs ys hs c :=
 D_ok c hs λq=>q.elim λg hg=>fm_no _ _ (eG (xr _ (zk _)) hg.2) (zF.mp h g hg.1)
end Ar
end Mine
end
noncomputable section
namespace Mine
theorem dn(k:Nat){x m:Nat}(h:x+k<m):x<m:=Bv (Cp x k) h
theorem up(k:Nat){x m:Nat}(h:x<=m):x<=m+k:=zn h (Cp m k)
theorem ul(k:Nat){x m:Nat}(h:x<m):x<=m+k:=zn (Ak h) (Cp m k)
section
open Ar
open Ar.E (n v)
set_option linter.defProp false
variable{a b c d e f g h i j k l m:Nat}
def z02:=ok [] (.le A (.a (.a (.a A (.a (.a (n 0) (n 1)) (n 1))) (n 1)) (n 1))) [a]
def z03:=ok [] (.lt (.a (.a (.a A (.a (.a (n 0) (n 1)) (n 1))) (n 1)) (n 1)) (.a (.a (.a (.a A (.a (.a (n 0) (n 1)) (n 1))) (n 1)) (n 1)) (n 1))) [a]
def z04:=ok [] (.le A (.a A (.a (.a (n 0) (n 1)) (n 1)))) [a]
def z05:=ok [] (.lt (.a A (.a (.a (n 0) (n 1)) (n 1))) (.a (.a A (.a (.a (n 0) (n 1)) (n 1))) (n 1))) [a]
def z07:=ok [.eq A (n 0)] (.eq B (.a B A)) [a,b]
def z08:=ok [] (.le A (.a A (n 1))) [a]
def z09:=ok [.eq A (.a B C)] (.eq (.a A G) (.a (.a B C) G)) [a,b,c,d]
def z0a:=ok [] (.eq (.a A (.a B C)) (.a (.a A B) C)) [a,b,c]
def z0b:=ok [] (.eq (.a A (.a B C)) (.a B (.a A C))) [a,b,c]
def z0c:=ok [.no (.lt A B)] (.le B A) [a,b]
def z0d:=ok [.no (.le (n 2) A)] (.lt A (n 2)) [a]
def z0e:=ok [.le A B,.le (.a B C) (.mx A G),.le H (.s B A),.le I (.s G (.a B C))] (.le (.a (.a C H) I) (.s G A)) [a,b,c,d,e,f]
def z0j:=ok [.le A (n 60),.le B A] (.lt B (n 64)) [a,b]
def z0k:=ok [.le A (n 60),.le B A] (.le B (n 60)) [a,b]
def z0l:=ok [.le A (n 60),.lt B A,.le C B] (.le C (n 1000)) [a,b,c]
def z0m:=ok [.le A B,.le C (.a A (n 1))] (.le C (.a B (n 1))) [a,b,c]
def z0n:=ok [.eq (.a A B) C,.eq (.a G H) (.a (.a A B) I)] (.eq (.a G H) (.a C I)) [a,b,c,d,e,f]
def z0o:=ok [.le A (n 60),.le B A] (.le B (n 10000)) [a,b]
def z0q:=ok [.le A (n 60),.le B A] (.le B (n 61)) [a,b]
def z0v:=ok [.eq A B,.eq C A] (.eq C B) [a,b,c]
def z0w:=ok [.le A (n 62),.eq B A] (.le B (n 100)) [a,b]
def z0x:=ok [] (.Eq (.a (.c A) (.c B)) (.c (.a A B))) [a,b]
def z0z:=ok [] (.le A (.a (.a A (.a (n 0) (n 1))) (n 1))) [a]
def z11:=ok [] (.le (.a A (n 3)) (.a A (n 10))) [a]
def z12:=ok [.le A B,.le (.a B (n 1)) C] (.le A C) [a,b,c]
def z13:=ok [] (.Le (.k 0) (.c A)) [a]
def z14:=ok [.le A (n 60),.le B A] (.Le (.c B) (.k 1000)) [a,b]
def z15:=ok [] (.Le (.k 0) (.a (.c A) (.c B))) [a,b]
def z16:=ok [.le A (n 60),.le B (n 60)] (.Le (.a (.c A) (.c B)) (.k 1000)) [a,b]
def z18:=ok [.lt (.a A (n 6)) B,.eq C (.a A (n 1))] (.lt (.a C (n 4)) B) [a,b,c]
def z19:=ok [.lt (.a A (n 40)) B,.le C (.a A (n 10))] (.lt (.a C (n 20)) B) [a,b,c]
def z1a:=ok [.lt (.a A (n 6)) B,.eq C (.a A (n 1))] (.lt C B) [a,b,c]
def z1f:=ok [.le (.a A (n 1)) B] (.le A B) [a,b]
def z1i:=ok [.lt (n 0) A] (.no (.eq A (n 0))) [a]
def z1k:=ok [] (.le (n 1) (.a A (n 1))) [a]
def z1r:=ok [.le A B,.le C A] (.le C B) [a,b,c]
def z1s:=ok [] (.or (.le A B) (.le B A)) [a,b]
def z1w:=ok [.ne A (n 1)] (.no (.Eq (.c A) (.k 1))) [a]
def z1y:=ok [.de (.c B) (.c A) true] (.le B A) [a,b]
def z1z:=ok [.de (.c B) (.c A) false] (.lt A B) [a,b]
def z20:=ok [.eq A B] (.no (.lt A B)) [a,b]
def z21:=ok [.le A (n 60)] (.lt A (n 64)) [a]
def z22:=ok [.le (n 2) A] (.lt (n 0) A) [a]
def z26{a:Int}:=ok [.Le (.k (-60)) (.w 0),.Le (.w 0) (.k 0)] (.an (.Le (.k (-400)) (.w 0)) (.Le (.w 0) (.k 400))) [] [a]
theorem z27{a b:Nat}{c d:Int}(h:decide (a=b)=true)(q:(c==d)=true):¬↑a * 1000+c < ↑b * 1000+d:=by rw[of_decide_eq_true h,Aw q];exact Int.lt_irrefl _
def z2a:=ok [.lt A B,.eq B C] (.lt A C) [a,b,c]
def z2b{b:Int}:=ok [.Le (.g (.c A)) (.w 0)] (.Le (.g (.c (.a A (n 1)))) (.w 0)) [a] [b]
def z2c{a:Int}:=ok [.Le (.w 0) (.k 0)] (.Le (.s (.w 0) (.k 1)) (.k 0)) [] [a]
def z2d{b:Int}:=ok [.Le (.g (.c A)) (.w 0)] (.Le (.g (.c (.a A (n 1)))) (.s (.w 0) (.k 1))) [a] [b]
def z2e{b:Int}:=ok [.lt A (n 60),.Le (.w 0) (.k 0),.Le (.g (.c A)) (.w 0)] (.an (.Le (.k (-60)) (.w 0)) (.Le (.w 0) (.k 0))) [a] [b]
def z2f:=ok [.lt A B] (.le A B) [a,b]
def z2g:=ok [] (.Le (.g (.a (.c A) (.c (.a B (n 1))))) (.g (.c A))) [a,b]
def z2h:=ok [] (.Le (.g (.c A)) (.k 0)) [a]
def z2i:=ok [] (.eq (.a A (.a B (n 1))) (.a (.a A (n 1)) B)) [a,b]
def z2j{c:Int}:=ok [.Le (.g (.a (.c (.a A (n 1))) (.c B))) (.w 0),.Le (.w 0) (.k 0)] (.an (.Le (.g (.a (.c A) (.c (.a B (n 1))))) (.w 0)) (.Le (.w 0) (.k 0))) [a,b] [c]
def z2k:=ok [.le A (n 60),.lt B A] (.lt B (n 61)) [a,b]
def z2l:=ok [.lt A B,.eq C A] (.le C B) [a,b,c]
def z2m{d:Int}:=ok [.le A (n 60),.lt B A,.eq C B,.Le (.g (.a (.c (n 0)) (.c C))) (.w 0),.Le (.w 0) (.k 0)] (.an (.Le (.k (-60)) (.w 0)) (.Le (.w 0) (.k 0))) [a,b,c] [d]
def z2n:=ok [.le A (n 60),.lt B A,.eq C B] (.le C (n 1000)) [a,b,c]
def z2o:=ok [.lt (n 0) A,.eq B A,.eq B (n 0)] .f [a,b]
def z2q:=ok [] (.Le (.g (.c A)) (.g (.c A))) [a]
def z2r:=ok [.eq A B,.eq C B,.lt G A] (.lt G C) [a,b,c,d]
def z2u:=ok [.le A (n 60),.eq (.a B (n 1)) A] (.le B (n 999)) [a,b]
def z2v:=ok [.eq A B,.lt C B] (.lt C A) [a,b,c]
theorem z2w{a b:Nat}{c:Prop}(h:a+1=b)(q:0=b):c:=(LD (h.trans q.symm))
def z2x:=ok [.le A (n 60),.eq (.a B (n 1)) A] (.le B (n 900)) [a,b]
theorem z2y{a b:Nat}(h:decide (a<b)=false):b<=a:=EC (of_decide_eq_false h)
theorem z2z{a:Nat}{b:Prop}(h:0<a)(q:0=a):b:=(Ag h q).elim
def z30:=ok [.le A (n 60),.lt B A,.eq (.a C (n 1)) B] (.le C (n 900)) [a,b,c]
def z31:=ok [.le A (n 60),.lt B A] (.lt B (n 60)) [a,b]
def z32:=ok [.le A (n 60),.lt B A] (.le B (n 60)) [a,b]
theorem z33{a:Int}{b:Nat}(h : -60<=a):0<=↑b * 1000+a+60:=by rw[Go];exact ok [.Le (.k (-60)) (.w 0)] (.Le (.k 0) (.a (.a (.m 1000 (.c A)) (.w 0)) (.k 60))) [b] [a] (by kernel_rfl) h
def z34:=ok [.le A (n 60),.lt B A,.eq (.a C (n 1)) B] (.lt (.a C (n 1)) (n 64)) [a,b,c]
def z37{a b:Int}:=ok [.Eq (.c A) (.mx (.a (.w 0) (.k 60)) (.k 0)),.Eq (.c B) (.mx (.a (.w 1) (.k 60)) (.k 0)),.le A B,.Le (.k 0) (.a (.w 1) (.k 60))] (.Le (.w 0) (.w 1)) [(Dl (a+(60:Int))),(Dl (b+(60:Int)))] [a,b] (by kernel_rfl) (Bb (a+(60:Int))) (Bb (b+(60:Int)))
def z38:=ok [] (.le (.mn A B) A) [a,b]
def z3c:=ok [] (.Le (.k 0) (.mn (.c A) (.c B))) [a,b]
def z3d:=ok [.le A (n 60)] (.Le (.mn (.c A) (.c B)) (.k 1000)) [a,b]
def z3m:=ok [.le (.a (.a A (n 1)) (n 1)) B] (.le A B) [a,b]
def z4h:=ok [.lt A B] (.eq (.mn A B) A) [a,b]
def z4j:=ok [.lt (n 0) A] (.Ne (.c A) (.k 0)) [a]
def z64:=ok [] (.lt (n 0) (.a A (n 1))) [a]
def z6o:=ok [.no (.eq A (n 0))] (.lt (n 0) A) [a]
def z6t:=ok [.lt A B,.eq C A,.le B (n 60),.le G C] (.le G (n 1000)) [a,b,c,d]
def z6u:=ok [.le A (n 60)] (.no (.Le (.k 200) (.c A))) [a]
def z6x:=ok [.lt A B,.le C A,.le B (n 60)] (.le C (n 1000)) [a,b,c]
def z6y:=ok [.le A B] (.le (.a A (n 1)) (.a B (n 1))) [a,b]
def z6z:=ok [.dl (.k 0) (.s (.c A) (.c B)) true] (.lt B A) [a,b]
def z70:=ok [.dl (.k 0) (.s (.c A) (.c B)) false] (.no (.lt B A)) [a,b]
def z72:=ok [.le A B,.le (.a C G) A,.dl (.c H) (.c C) true] (.lt (.s C (n 1)) B) [a,b,c,d,e]
def z73:=ok [.dl (.c A) (.c B) true] (.Eq (.s (.c B) (.k 1)) (.c (.s B (n 1)))) [a,b]
def z74:=ok [.dl (.c A) (.c B) true] (.lt A B) [a,b]
def z75:=ok [.le A B,.dl (.a (.c C) (.c G)) (.c A) true] (.lt (.a C G) B) [a,b,c,d]
def z76:=ok [.dl (.a (.c A) (.c B)) (.c C) true] (.lt (.a A B) C) [a,b,c]
def z77:=ok [.le A (n 100),.le B C,.le G A,.lt C G] (.le B (n 1000)) [a,b,c,d]
def z78:=ok [.le A B] (.le A (.a B (n 1))) [a,b]
def z79:=ok [.lt A B,.le B A] (.le C A) [a,b,c]
def z7a:=ok [.le A (n 100),.lt B C,.le G B,.le C A] (.le G (n 100)) [a,b,c,d]
def z7b:=ok [.le A B,.lt B C] (.an (.le A B) (.lt B C)) [a,b,c]
def z7c:=ok [.de (.c A) (.c B) true] (.le A B) [a,b]
def z7d:=ok [.le A (n 100),.le B C,.le C A] (.le B (n 100)) [a,b,c]
def z7e:=ok [.dl (.c A) (.c B) false] (.le B A) [a,b]
def z7f:=ok [.de (.c A) (.c B) false] (.lt B A) [a,b]
def z7j:=ok [.le A (.s (.a B (n 1)) C)] (.Eq (.a (.s (.c B) (.c A)) (.k 1)) (.c (.s (.a B (n 1)) A))) [a,b,c]
def z7k:=ok [.dl (.c A) (.c B) false] (.no (.lt A B)) [a,b]
def z7l:=ok [] (.Le (.k (-1000)) (.c A)) [a]
def z7m:=ok [.le A B,.le B C,.le C (n 60)] (.Le (.c A) (.k 1000)) [a,b,c]
def z7n:=ok [.le A B,.le B (n 60)] (.Le (.c A) (.k 1000)) [a,b]
def z7o:=ok [.Eq (.c C) (.mx (.s (.c A) (.c B)) (.k 0))] (.eq C (.s A B)) [a,b,(Dl (((a:Nat):Int) - ((b:Nat):Int)))] [] (by kernel_rfl) (Bb (((a:Nat):Int) - ((b:Nat):Int)))
def z7p:=ok [.Eq (.c H) (.mx (.s (.c A) (.c G)) (.k 0)),.le A B,.lt C H] (.lt (.a G C) B) [a,b,c,d,(Dl (((a:Nat):Int) - ((d:Nat):Int)))] [] (by kernel_rfl) (Bb (((a:Nat):Int) - ((d:Nat):Int)))
def z7q:=ok [] (.le A (.a A B)) [a,b]
def z7s:=ok [] (.lt A (.a A (.a B (n 1)))) [a,b]
def z7v:=ok [.dl (.c A) (.c B) false] (.no (.an (.lt C G) (.lt A B))) [a,b,c,d]
def z7w:=ok [.dl (.c A) (.c B) false] (.no (.an (.lt A B) (.lt C G))) [a,b,c,d]
def z7x:=ok [.le A (n 1000),.le B (n 1)] (.le (.a A B) (n 10000)) [a,b]
def z7y:=ok [.dl (.a (.c A) (.c B)) (.c C) false] (.no (.an (.lt (.a G B) H) (.lt (.a A B) C))) [a,b,c,d,e]
def z7z:=ok [.dl (.a (.c A) (.c B)) (.c C) false] (.no (.an (.lt (.a A B) C) (.lt (.a G B) H))) [a,b,c,d,e]
def z80:=ok [] (.eq (.a (n 0) (.a A (n 0))) A) [a]
def z81:=ok [.le A B] (.le (.a (n 0) (.a (.s A C) (n 0))) B) [a,b,c]
def z82:=ok [.le A (n 60),.le (.a B C) A,.le G C,.eq G H] (.le H (n 61)) [a,b,c,d,e]
def z85:=ok [.le (.a A (n 1)) (n 61)] (.le A (n 1000)) [a]
def z86:=ok [.le A (n 60),.le B C,.le (.a C (.a G H)) A] (.le B (n 1000)) [a,b,c,d,e]
def z87:=ok [.le (.a A (.a B C)) G] (.le (.a A B) G) [a,b,c,d]
def z88:=ok [] (.lt A (.a A (.a (.a (.m 2 B) (n 1)) (n 0)))) [a,b]
def z8a:=ok [.ne A (n 0),.le (.a (.a A B) C) G,.le H (n 1),.le I (n 1),.eq H J,.eq I K] (.lt (.a (.m 2 (.a (.a (v 8) B) C)) (.a (.a (v 9) J) K)) (.a (.m 2 (.a (v 8) G)) (.a (v 9) (n 1)))) [a,b,c,d,e,f,g,i,j,k]
def z8b:=ok [.eq (.a A (.a B C)) G,.eq C (.a (.a H I) J)] (.eq (.a (.a A H) (.a (.a B I) J)) G) [a,b,c,d,e,f,g]
def z8c:=ok [.le (.a A (.a B C)) G,.le (.a (.a H I) J) C] (.le (.a (.a A H) (.a (.a B I) J)) G) [a,b,c,d,e,f,g]
def z8d:=ok [.eq (.a A B) C,.eq B (n 0)] (.eq A C) [a,b,c]
def z8e:=ok [.le A B,.le (.a B C) G] (.le A G) [a,b,c,d]
def z8f:=ok [.le A B,.le B C] (.le A C) [a,b,c]
def z8h:=ok [.lt (.a A (n 1)) (.a B (n 1))] (.lt A B) [a,b]
def z8j:=ok [.lt A B] (.lt (.a A (n 1)) (.a B (n 1))) [a,b]
def z8k:=ok [.le A B,.le A C,.eq B G,.eq C H] (.le A (.mn G H)) [a,b,c,d,e]
def z8l:=ok [.eq A B,.eq C G,.eq H (.mn B G)] (.or (.le A H) (.le C H)) [a,b,c,d,e]
def z8m:=ok [.eq A B,.eq C G,.eq H (.mn B G)] (.or (.le C H) (.le A H)) [a,b,c,d,e]
def z8n:=ok [.eq A B,.eq C (.mn B G),.eq B G] (.le A C) [a,b,c,d]
def z8o:=ok [.eq A B,.eq C (.mn G B),.eq G B] (.le A C) [a,b,c,d]
def z8p:=ok [.le A (n 60)] (.Lt (.c A) (.k 9223372036854775808)) [a]
def z8t:=ok [.lt A B] (.lt (.s B (.a A (n 1))) (.s B A)) [a,b]
def z8u:=ok [.le A B,.no (.lt A B)] (.eq A B) [a,b]
def z93:=ok [.le A (n 1000)] (.le (.a A (n 1)) (n 16777216)) [a]
def z94:=ok [.eq (.s A B) (n 0),.le B A] (.eq B A) [a,b]
def z96:=ok [.eq (.s A B) (.a C (n 1))] (.lt B A) [a,b,c]
def z98:=ok [.le A (n 1000),.le B A,.eq C B] (.le C (n 16777216)) [a,b,c]
def z99:=ok [.le A (n 1000),.le B A,.eq C B] (.le (.a C (n 1)) (.a (n 16777216) (n 1))) [a,b,c]
def z9a:=ok [.eq (.s A B) (.a C (n 1))] (.eq (.s A (.a B (n 1))) C) [a,b,c]
def z9b:=ok [.eq (.s A B) (.a C (n 1))] (.le (.a B (n 1)) A) [a,b,c]
def z9e:=ok [.lt A (n 2)] (.le A (.a (n 16777216) (n 1))) [a]
def z9h:=ok [.le A B] (.no (.lt B A)) [a,b]
def z9i:=ok [.le A B] (.no (.lt B A)) [a,b]
def z9j{a:Int}:=ok [.Eq (.c A) (.mx (.w 0) (.k 0)),.no (.Lt (.w 0) (.k 0))] (.Eq (.w 0) (.c A)) [(Dl a)] [a] (by kernel_rfl) (Bb a)
def z9k:=ok [.lt A B] (.le (n 1) B) [a,b]
def z9m:=ok [.lt A B,.lt C A] (.lt C B) [a,b,c]
def z9n:=ok [.le (.m 2 B) (.s (.a (.m 2 A) (n 1)) (n 1)),.lt (.s (.a (.m 2 A) (n 1)) (n 1)) (.m 2 (.a B (n 1)))] (.eq B A) [a,((((2 * a)+1) - 1) / 2)] [] (by kernel_rfl) (Bc _ 2) (Aa _ (by decide))
def z9o:=ok [.le (.m 2 B) (.s (.a (.a (.m 2 A) (n 1)) (n 1)) (n 1)),.lt (.s (.a (.a (.m 2 A) (n 1)) (n 1)) (n 1)) (.m 2 (.a B (n 1)))] (.eq B A) [a,(((((2 * a)+1)+1) - 1) / 2)] [] (by kernel_rfl) (Bc _ 2) (Aa _ (by decide))
def z9p:=ok [.le (.m 2 C) B,.lt B (.m 2 (.a C (n 1))),.lt A C] (.lt A B) [a,b,(b / 2)] [] (by kernel_rfl) (Bc _ 2) (Aa _ (by decide))
def z9r:=ok [.le (.m 2 C) B,.lt B (.m 2 (.a C (n 1))),.lt A C] (.lt (.a (.m 2 A) (n 1)) B) [a,b,(b / 2)] [] (by kernel_rfl) (Bc _ 2) (Aa _ (by decide))
def z9t:=ok [] (.le (n 1) (.a (.m 2 A) (n 1))) [a]
def z9u:=ok [] (.le (n 1) (.a (.a (.m 2 A) (n 1)) (n 1))) [a]
def z9v{d e:Int}:=ok [.no (.lt (.a (.a (.m 2 A) (n 1)) (n 1)) B),.lt C B,.eq C (.a (.m 2 A) (n 2))] (.Le (.w 0) (.w 1)) [a,b,c] [d,e]
def z9w:=ok [.eq A B] (.le A B) [a,b]
theorem z9x{a:Nat}{b:Prop}(h:(↑(0:Nat):Int) - (1:Int)=(↑a:Int)):b:=(ok [.Eq (.s (.c (n 0)) (.k 1)) (.c A)] .f [a] [] (by kernel_rfl) h).elim
def z9y:=ok [.le A (n 1000),.eq B A] (.le B (n 1000)) [a,b]
def z9z:=ok [.no (.eq A B),.le B A] (.lt B A) [a,b]
theorem za0{a:Nat}{b:Prop}(h:(↑(a+(1:Nat)):Int) - (1:Int)<(0:Int)):b:=(ok [.Lt (.s (.c (.a A (n 1))) (.k 1)) (.k 0)] .f [a] [] (by kernel_rfl) h).elim
def za1:=ok [.Eq (.s (.c (.a A (n 1))) (.k 1)) (.c B)] (.eq B A) [a,b]
def za2:=ok [.lt A B] (.ne A B) [a,b]
def za3:=ok [.le (.m 2 J) G,.lt G (.m 2 (.a J (n 1))),.eq (.s A B) C,.eq G A,.lt B J,.eq H B,.lt H I] (.lt (.s A I) C) [a,b,c,d,e,f,(d / 2)] [] (by kernel_rfl) (Bc _ 2) (Aa _ (by decide))
def za4:=ok [.eq A B,.lt A C] (.ne C B) [a,b,c]
def za5:=ok [.eq A B,.lt C A] (.lt C B) [a,b,c]
def za6:=ok [.no (.lt A B)] (.le B A) [a,b]
def za7:=ok [.le (.m 2 G) A,.lt A (.m 2 (.a G (n 1))),.eq A B,.no (.lt C G)] (.le B (.a (.m 2 C) (n 1))) [a,b,c,(a / 2)] [] (by kernel_rfl) (Bc _ 2) (Aa _ (by decide))
def za8:=ok [.le A (n 1000)] (.no (.lt (n 2500) A)) [a]
def za9{c d:Int}:=ok [.lt A (n 2),.le (n 1) B,.lt B A] (.Le (.w 0) (.w 1)) [a,b] [c,d]
theorem zab{a:Nat}(h:¬a<(2:Nat)):(↑(a / (2:Nat)):Int) - (2:Int)=(↑(a / (2:Nat) - (1:Nat)):Int) - (1:Int):=ok [.no (.lt A (n 2)),.lt A (.m 2 (.a B (n 1)))] (.Eq (.s (.c B) (.k 2)) (.s (.c (.s B (n 1))) (.k 1))) [a,a / 2] [] (by kernel_rfl) h (Aa a (by decide))
def zae:=ok [.le (.m 2 B) A,.lt A (.m 2 (.a B (n 1))),.no (.lt A (n 2))] (.lt (.s B (n 1)) A) [a,(a / 2)] [] (by kernel_rfl) (Bc _ 2) (Aa _ (by decide))
theorem zaf{a b:Nat}{c d:Int}(h:a<b)(q:b / 2 - 1+1<=(a - 1) / 2):c<=d:=(ok [.lt A B,.le (.a (.s C (n 1)) (n 1)) G,.lt B (.m 2 (.a C (n 1))),.le (.m 2 G) (.s A (n 1))] .f [a,b,b / 2,(a - 1) / 2] [] (by kernel_rfl) h q (Aa b (by decide)) (Bc (a - 1) 2)).elim
theorem zag{a:Nat}{b:Prop}(h:0<a)(q:a=0):b:=(Ci h q).elim
def zak:=ok [.eq (.s A (n 0)) (.a B (n 1))] (.eq (.s A (n 1)) B) [a,b]
def zam:=ok [] (.lt (n 0) (n 1)) []
def zas:=ok [.le (n 2) A] (.no (.lt A (n 2))) [a]
def zat:=ok [.le (n 2) A,.eq B A] (.le (n 2) B) [a,b]
def zau:=ok [.lt A (n 64),.eq B A] (.lt B (n 64)) [a,b]
def zav:=ok [.lt A (n 64)] (.le A (.a (n 16777216) (n 1))) [a]
def zax{a:Int}:=ok [.Eq (.c A) (.mx (.w 0) (.k 0)),.Le (.w 0) (.k 100)] (.le A (n 100)) [(Dl a)] [a] (by kernel_rfl) (Bb a)
def zay:=ok [.le (.a A B) (n 1000)] (.le (.a A B) (n 16777216)) [a,b]
def zaz:=ok [.eq A B,.no (.lt C A)] (.le B C) [a,b,c]
def zb1{a:Int}:=ok [.Le (.k 0) (.w 0),.Le (.w 0) (.k 100)] (.an (.Le (.k (-9223372036854775808)) (.w 0)) (.Lt (.w 0) (.k 9223372036854775808))) [] [a]
theorem zb4{a:Nat}{b:Int}(h:a * Dl b<=100000):a * Dl b<=16777216:=zn h (by decide)
def zb9{a b:Int}:=ok [.Lt (.w 0) (.w 1)] (.no (.Le (.w 1) (.w 0))) [] [a,b]
def zba{a b:Int}:=ok [.no (.Lt (.w 0) (.w 1))] (.Le (.w 1) (.w 0)) [] [a,b]
def zbb:=ok [.le A (n 1000)] (.no (.lt (n 16777216) A)) [a]
def zbc:=ok [.le (.a A (.a B (n 1))) C] (.lt A C) [a,b,c]
def zbe:=ok [.le (.a A (.a B (n 1))) C] (.le (.a (.a A (n 1)) B) C) [a,b,c]
def zbf:=ok [] (.le (.a (n 0) A) A) [a]
def zbg:=ok [] (.no (.Lt (.c A) (.k 0))) [a]
def zbi:=ok [.no (.Lt (.c (n 63)) (.c A))] (.le A (n 63)) [a]
def zbj:=ok [.le A B,.eq B (.s C (n 1)),.lt (n 0) C] (.le (.a A (n 1)) C) [a,b,c]
def zbm:=ok [] (.Eq (.s (.s (.c A) (.c B)) (.k 1)) (.s (.c A) (.c (.a B (n 1))))) [a,b]
def zbp:=ok [.lt A (n 1)] (.eq A (n 0)) [a]
theorem zbr{a b:Nat}{c:Bool}(h:a<0):a<=0/\a<=b/\c=true:=(Bt a h).elim
def zbs:=ok [.lt A B] (.lt (n 0) B) [a,b]
theorem zbt{a b:Nat}{c:Bool}(h:0<a)(q:b+a<=0):c=false:=(ok [.lt (n 0) A,.le (.a B A) (n 0)] .f [a,b] [] (by kernel_rfl) h q).elim
def zbv:=ok [.le A B,.lt B (.a A (.s C A))] (.lt B C) [a,b,c]
def zbx:=ok [.lt A B,.le C A] (.lt C B) [a,b,c]
def zby:=ok [.lt A B,.le C A] (.le C B) [a,b,c]
def zbz:=ok [.lt A B] (.lt A (.a C (.s B C))) [a,b,c]
theorem zc0{a:Nat}{b:Bool}(h:a+1=0):b=false:=LD h
def zc1:=ok [.lt A (.a B (n 1)),.le C (.s (.a B (n 1)) A)] (.le (.a C (n 1)) (.s (.a (.a B (n 1)) (n 1)) A)) [a,b,c]
def zc2:=ok [.le (.a A (.a B (n 1))) (.a C (n 1))] (.le (.a A B) C) [a,b,c]
def zc3:=ok [.le (.a A (.a B (n 1))) C] (.le (.a A B) (.s C (n 1))) [a,b,c]
def zc4:=ok [.lt A B,.le C (.s B (n 1))] (.le (.a C (n 1)) B) [a,b,c]
def zc5:=ok [.lt A (.a B (n 1)),.lt B A] (.le (.a C (n 1)) (.s (.a (.a B (n 1)) (n 1)) A)) [a,b,c]
def zc7:=ok [] (.eq (.s (.a A (n 1)) (.a B (n 1))) (.s A B)) [a,b]
def zc8:=ok [] (.eq (.s A (.a B (n 1))) (.s (.s A (n 1)) B)) [a,b]
def zc9:=ok [.no (.lt (.a A (n 1)) B)] (.le (.a (n 0) (n 1)) (.s (.a (.a A (n 1)) (n 1)) B)) [a,b]
def zcb:=ok [] (.le (n 0) (.s (.a (.a A (n 1)) (n 1)) B)) [a,b]
theorem zcc{a b c:Nat}{d:Bool}(h:a+1<0+1):a+1<=b+1/\a+1<=c/\d=true:=(Bt a (H2 h)).elim
theorem zce{a b c:Nat}{d:Bool}(h:a<0):a<=b+1/\a<=c/\d=true:=(Bt a h).elim
def zcg:=ok [.no (.lt A B)] (.le (.a (n 0) (n 1)) (.s (.a A (n 1)) B)) [a,b]
def zbw:=ok [] (.le (n 0) (.s (.a A (n 1)) B)) [a,b]
def zch:=ok [.Eq (.c A) (.c B)] (.eq A B) [a,b]
def zci:=ok [] (.no (.an (.lt A A) (.lt B C))) [a,b,c]
def zcj:=ok [] (.le A (.a A (n 0))) [a]
theorem zck{a:Nat}(h:a+1<=0):true=false:=(FV a h).elim
def zcl:=ok [.le A B,.le B C,.le G C] (.le A C) [a,b,c,d]
def zcm:=ok [.lt A B] (.Eq (.s (.c B) (.k 1)) (.c (.s B (n 1)))) [a,b]
def zcn:=ok [.Eq (.c (.s A (n 1))) (.c B)] (.eq (.s A (n 1)) B) [a,b]
def zcp:=ok [.lt A B] (.le A (.s B (n 1))) [a,b]
def zcq:=ok [.lt A B] (.lt (.s A (n 1)) B) [a,b]
def zcr:=ok [.no (.lt A B)] (.no (.an (.lt C G) (.lt A B))) [a,b,c,d]
def zcs:=ok [.no (.lt A B),.Eq (.s (.c B) (.k 1)) (.c C),.le A C] .f [a,b,c]
def zct:=ok [.lt (n 0) A,.le A (.s (.a B (n 1)) C)] (.le C (.s (.a B (n 1)) A)) [a,b,c]
def zcu:=ok [.lt A B,.le C (.s (.a A (n 1)) G)] (.le (.a (.s (.a A (n 1)) C) C) (.mx G B)) [a,b,c,d]
def zcv:=ok [.eq A B,.lt (n 0) B] (.lt (.s (.s B (n 1)) C) A) [a,b,c]
def zcw:=ok [.le A (.s (.a B (n 1)) C),.lt G A] (.eq (.a (.s (.a B (n 1)) A) G) (.s B (.s (.s A (n 1)) G))) [a,b,c,d]
def zcx:=ok [.eq A B,.lt (n 0) B] (.lt (n 0) A) [a,b]
def zcy:=ok [.eq A B,.lt C (.s (.a G (n 1)) B)] (.le (.a C A) G) [a,b,c,d]
def zcz:=ok [] (.eq (.s (.s (.a A (n 1)) B) (n 1)) (.s A B)) [a,b]
def zd0:=ok [.le A (.s (.a B (n 1)) C)] (.eq (.a (.s (.a B (n 1)) A) A) (.a B (n 1))) [a,b,c]
def zd1:=ok [.lt (.a (.s (.a A (n 1)) B) B) C] (.lt (.a A (n 1)) C) [a,b,c]
def zd2:=ok [.le A B] (.lt A (.a B (n 1))) [a,b]
theorem zd3{a:Nat}(h:a+1<=a):true=false:=(Nat.not_succ_le_self a h).elim
def zd5:=ok [.lt (.s A B) (n 0)] (.eq C G) [a,b,c,d]
def zd6:=ok [.le A B,.le (.a B C) (.mx A G),.eq (.mx A G) A] (.eq C (n 0)) [a,b,c,d]
def zd7:=ok [.lt (.s A B) (.a C (n 1)),.no (.eq G (n 0)),.le B H,.le (.a H G) (.mx B A)] (.lt (.s H B) C) [a,b,c,d,e]
def zd8:=ok [.lt (.s A B) (.a C (n 1)),.no (.eq G (n 0)),.le B H,.le (.a H G) (.mx B A)] (.lt (.s A (.a H G)) C) [a,b,c,d,e]
def zd9:=ok [.eq A (.a B C)] (.eq (.a G A) (.a (.a G B) C)) [a,b,c,d]
def zdb:=ok [.le (n 1) A,.le B C] (.le (.a B (n 1)) (.a A C)) [a,b,c]
def zdc:=ok [.eq A (.a (.m 2 B) C)] (.eq (.a (.a (.m 2 G) (n 1)) A) (.a (.m 2 (.a G B)) (.a C (n 1)))) [a,b,c,d]
def zde:=ok [.eq (.mx A B) B,.le B C,.le (.a G H) (.mx A B)] (.le G C) [a,b,c,d,e]
def zdf:=ok [.eq (.mx A B) B,.le B C,.ne G (n 0),.le (.a H G) (.mx A B)] (.lt (.s H A) C) [a,b,c,d,e]
def zdg:=ok [.lt (.a A B) C] (.le (.a A B) C) [a,b,c]
def zdh:=ok [.le A B,.le (.a C G) (.mx H A)] (.lt (.s C H) (.a B (n 1))) [a,b,c,d,e]
def zdi:=ok [.no (.an (.lt A B) (.lt C G))] (.or (.le B A) (.le G C)) [a,b,c,d]
def zdj:=ok [] (.le (.a (.s A B) (n 0)) (.s A B)) [a,b]
def zdk:=ok [] (.le (.a (.s A (.a B C)) (n 0)) (.s A (.a B C))) [a,b,c]
def zdm:=ok [.le A B] (.lt (.s A (.a C G)) (.a B (n 1))) [a,b,c,d]
def zdn:=ok [.no (.an (.lt (.a A B) C) (.lt (.a G B) H))] (.or (.le C (.a A B)) (.le H (.a G B))) [a,b,c,d,e]
def zdo:=ok [.eq A B,.le C B,.lt A G] (.le C G) [a,b,c,d]
def zdp:=ok [.le A B,.ne B A] (.le (.a A (n 1)) B) [a,b]
def zdq:=ok [.le (.m 2 B) (.s A (n 1)),.lt (.s A (n 1)) (.m 2 (.a B (n 1))),.le (n 1) A] (.lt B A) [a,((a - 1) / 2)] [] (by kernel_rfl) (Bc _ 2) (Aa _ (by decide))
def zdr:=ok [.le (.m 2 C) (.s A (n 1)),.lt (.s A (n 1)) (.m 2 (.a C (n 1))),.le (n 1) A,.eq C B] (.or (.eq A (.a (.m 2 B) (n 1))) (.eq A (.a (.m 2 B) (n 2)))) [a,b,((a - 1) / 2)] [] (by kernel_rfl) (Bc _ 2) (Aa _ (by decide))
def zds:=ok [.no (.eq A (n 0))] (.le (n 1) A) [a]
def zdu{d e:Int}:=ok [.le A B,.eq C A,.lt B C] (.Le (.w 0) (.w 1)) [a,b,c] [d,e]
def zdx{a b c:Int}:=ok [.Le (.w 0) (.w 1),.Le (.w 1) (.w 2)] (.Le (.w 0) (.w 2)) [] [a,b,c]
def zdy:=ok [.lt A B,.le B A] .f [a,b]
def zdz{a b:Int}:=ok [.Lt (.w 0) (.w 1)] (.Le (.w 0) (.w 1)) [] [a,b]
def ze0{a b c:Int}:=ok [.Lt (.w 0) (.w 1),.Le (.w 1) (.w 2)] (.Le (.w 0) (.w 2)) [] [a,b,c]
def ze1:=ok [.eq A B,.lt A C,.eq G C,.lt G H] (.ne H B) [a,b,c,d,e]
def ze2:=ok [.eq A B,.lt A C,.le G B] (.le G C) [a,b,c,d]
def ze3:=ok [.lt A B,.lt C A] (.ne C B) [a,b,c]
def ze4:=ok [.lt A B] (.no (.le B A)) [a,b]
def ze5:=ok [.le A (n 15)] (.lt A (n 16)) [a]
def ze6:=ok [.eq A B] (.le B A) [a,b]
def ze7:=ok [.le A (n 5)] (.lt A (n 6)) [a]
def ze8:=ok [.le A (n 5),.le B A] (.lt B (n 6)) [a,b]
theorem ze9{a b c:Nat}(h:a<b)(q:c * b<=3 * b):c * b+a<b * 4:=by rw[H3 b 4];exact ok [.lt A B,.le C (.m 3 B)] (.lt (.a C A) (.m 4 B)) [a,b,c * b] [] (by kernel_rfl) h q
def zea:=ok [.le A B,.le A C] (.le A (.mn B C)) [a,b,c]
def zeb:=ok [.le A B,.le B (.mn C G)] (.le (.m 2 A) (.a C G)) [a,b,c,d]
def zec:=ok [] (.Eq (.mn (.c A) (.c B)) (.c (.mn A B))) [a,b]
def zed:=ok [.le A (n 10),.le B (n 5)] (.le (.a A B) (n 15)) [a,b]
def zee:=ok [] (.le (.m 2 (.mn A B)) (.a A B)) [a,b]
def zef:=ok [.le A (n 5)] (.le (.mn B A) (n 5)) [a,b]
def zeg:=ok [.le A (n 5),.le B C,.le C (.mn G A)] (.le B (n 5)) [a,b,c,d]
def zeh:=ok [.le A (.mn B C)] (.le (.m 2 A) (.a B C)) [a,b,c]
def zej:=ok [.le A (n 5),.le B (.mn C A)] (.le B (n 5)) [a,b,c]
def zek:=ok [.le (.m 1 A) B,.lt (n 0) A] (.lt (n 0) (.a B C)) [a,b,c]
theorem zel{a b c d:Nat}(h:a<1048576)(q:b<c):b * 1048576+a<c * 1048576+d:=by rw[H3 b,H3 c];exact ok [.lt A (n 1048576),.lt B C] (.lt (.a (.m 1048576 B) A) (.a (.m 1048576 C) G)) [a,b,c,d] [] (by kernel_rfl) h q
theorem zen{a b c:Nat}(h:a * b+c<0):false=true:=(Bt _ h).elim
def zep:=ok [.eq (.a B A) (.a B C)] (.eq A C) [a,b,c]
theorem zer{a:Bool}{b c d:Nat}(h:a=true↔b<c)(q:a=true):d * 1048576+b<d * 1048576+c:=Ju (h.mp q) _
def zes:=ok [.lt A B,.le (.a C B) G] (.lt (.a C A) (.a G H)) [a,b,c,d,e]
def zet:=ok [.lt (.a B A) (.a B C)] (.lt A C) [a,b,c]
theorem zev{a b c d e:Nat}(h:a > b)(q:a<b):a * c+d<b * c+e:=(J0 q h).elim
theorem zew{a b c d e:Nat}(h:a<b)(q:c * b+b<=d * b)(r:d * b+e<c * b+a):d<c:=(ok [.lt A B,.le (.a C B) G,.lt (.a G H) (.a C A)] .f [a,b,c * b,d * b,e] [] (by kernel_rfl) h q r).elim
def zey:=ok [.lt A B] (.le (.s B (.a C (n 1))) (.s (.s (.a (.s B (.a C (n 1))) B) (n 1)) A)) [a,b,c]
def zez:=ok [.lt (n 0) A,.le A B] (.lt (n 0) B) [a,b]
def zf0:=ok [.le A B,.lt B (n 1)] (.eq A B) [a,b]
def zf1:=ok [.lt A (.a B (n 1)),.le B A] (.eq A B) [a,b]
def zf2:=ok [] (.eq (.a (.a A (n 1)) B) (.a A (.a B (n 1)))) [a,b]
def zf3:=ok [.le (.s A (.a B (n 1))) C,.lt C A] (.lt (.s (.s (.a (.s A (.a B (n 1))) A) (n 1)) C) A) [a,b,c]
def zf4:=ok [.le A B,.le (.s B A) (n 0)] (.eq A B) [a,b]
def zf6:=ok [.le A B,.le C (.a A (.s B A))] (.le C B) [a,b,c]
def zf7:=ok [] (.le (.s A (n 0)) A) [a]
def zf9:=ok [.le A B] (.no (.lt B A)) [a,b]
def zfa:=ok [.lt A B] (.le (.a (.a A (n 1)) (.s B (.a A (n 1)))) B) [a,b]
def zfb:=ok [.le A B,.eq C B] (.le A C) [a,b,c]
def zfd:=ok [.lt (n 0) A] (.eq (.mx A (n 1)) A) [a]
def zfe:=ok [.eq (.a A (.a B (n 1))) C] (.eq (.a (.a A (n 1)) B) C) [a,b,c]
def zfg:=ok [.le (.s (.a A (n 1)) (.a (n 0) (n 1))) B,.lt B (.a A (n 1))] (.eq B (.s (.a A (n 1)) (n 1))) [a,b]
def zfh:=ok [] (.le (n 0) A) [a]
def zfj:=ok [.le A B,.lt B C] (.lt A C) [a,b,c]
def zfk:=ok [.eq (.a A (.a B (n 1))) C,.eq G C] (.lt A G) [a,b,c,d]
def zfl:=ok [.lt (n 0) A] (.lt (.s A (n 1)) A) [a]
def zfn:=ok [.le (.a A (n 1)) B] (.lt (n 0) B) [a,b]
def zfo:=ok [] (.le (.s A B) A) [a,b]
def zfq:=ok [.le A B] (.le (.s (.s (.a (n 0) C) (n 1)) B) (.s (.s (.a (n 0) C) (n 1)) A)) [a,b,c]
def zfr:=ok [.lt A B] (.lt (.s (.s (.a (n 0) B) (n 1)) C) B) [a,b,c]
def zfs:=ok [.lt (n 0) A,.le B (.a (n 1) (.s A (n 1)))] (.le B A) [a,b]
def zft:=ok [.no (.lt A B),.le C B] (.le C A) [a,b,c]
def zfu:=ok [.le (.m 2 G) (.a B A),.lt (.a B A) (.m 2 (.a G (n 1))),.le (.s A B) (.a C (n 1))] (.le (.s G B) C) [a,b,c,((b+a) / 2)] [] (by kernel_rfl) (Bc _ 2) (Aa _ (by decide))
def zfv:=ok [.lt A B,.le C (.a (.a A (n 1)) (.s B (.a A (n 1))))] (.le C B) [a,b,c]
def zfw:=ok [.lt A B,.le B C] (.lt A C) [a,b,c]
def zf8:=ok [.le A B,.le B A] (.eq A B) [a,b]
def zfy:=ok [.le (.m 2 G) (.a B A),.lt (.a B A) (.m 2 (.a G (n 1))),.le (.s A B) (.a C (n 1))] (.le (.s A (.a G (n 1))) C) [a,b,c,((b+a) / 2)] [] (by kernel_rfl) (Bc _ 2) (Aa _ (by decide))
def zfz:=ok [.lt (n 0) A,.le B (.a (n 1) (.s A (n 1))),.ne B A] (.lt B A) [a,b]
def zg0:=ok [.lt A B,.le C (.a (.a A (n 1)) (.s B (.a A (n 1)))),.eq G B] (.le C G) [a,b,c,d]
def zg1:=ok [.lt A (.a B (n 1))] (.le A B) [a,b]
def zg2:=ok [.le A B] (.eq (.s B (.s B A)) A) [a,b]
def zg3:=ok [.le (.a A (n 1)) B] (.le A B) [a,b]
def zg4:=ok [.le A B,.eq A C,.no (.eq B C)] (.lt C B) [a,b,c]
def zg6:=ok [.lt A B,.le B C] (.le A C) [a,b,c]
def zg7:=ok [.lt A (.a B (n 1))] (.le A B) [a,b]
def zg8:=ok [.lt (n 0) A,.le B (.a (n 1) (.s A (n 1))),.ne B A] (.lt B (.a (n 1) (.s A (n 1)))) [a,b]
def zg9:=ok [.le A B,.eq A C,.no (.eq B C)] (.le C (.s B (n 1))) [a,b,c]
def zga:=ok [.le (.a A (.a B (n 1))) C,.eq G C] (.le A G) [a,b,c,d]
def zgb:=ok [.le (n 1) A] (.lt (.s A (n 1)) A) [a]
def zgc:=ok [.le A B,.lt B (.a C (n 1)),.eq A G,.no (.eq B G)] (.lt (.s B (n 1)) C) [a,b,c,d]
def zgd:=ok [.le A B,.lt C A] (.no (.eq B C)) [a,b,c]
def zge:=ok [.no (.lt A B),.le A C,.le C B] (.eq C A) [a,b,c]
def zgf:=ok [.le A B,.lt C A] (.lt C B) [a,b,c]
def zgg:=ok [.lt (n 0) A,.eq B A,.le C (.a (n 1) (.s A (n 1)))] (.le C B) [a,b,c]
def zgh:=ok [.no (.lt A B),.le A C] (.le B C) [a,b,c]
def zgi:=ok [.le A B] (.le (.s A (n 1)) (.s B (n 1))) [a,b]
def zgj:=ok [.lt A B] (.lt (.s (.s (.a (n 0) B) (n 1)) A) B) [a,b]
def zgk:=ok [.le (.s (.a A (n 1)) (.a (.a B (n 1)) (n 1))) C] (.le (.s A (.a B (n 1))) C) [a,b,c]
def zgl:=ok [.lt A (.a B (n 1)),.lt C G,.le G B] (.lt (.s A (n 1)) B) [a,b,c,d]
def zgm:=ok [.le A B,.no (.eq A C),.eq B C] (.lt A C) [a,b,c]
def zgn:=ok [.no (.lt A B),.no (.lt B A),.eq C B] (.eq C A) [a,b,c]
def zgo:=ok [.le A B,.lt B (.a C (n 1))] (.le A C) [a,b,c]
def zgp:=ok [.le A B,.no (.an (.lt C A) (.le A G)),.lt C B,.le B G] (.le A (.s B (n 1))) [a,b,c,d]
def zgq:=ok [.lt A B,.eq B C] (.le A C) [a,b,c]
def zgr:=ok [.lt A B,.le B C] (.lt (.s B (n 1)) C) [a,b,c]
def zgs:=ok [.le A B,.no (.lt A C)] (.no (.lt B C)) [a,b,c]
def zgu:=ok [.le A B,.lt C (.a B (n 1)),.no (.eq C A),.no (.an (.lt A C) (.le C B))] (.lt C B) [a,b,c]
def zgv:=ok [.lt (n 0) A,.ne (n 1) A] (.lt (n 1) A) [a]
def zgw:=ok [.lt (n 0) A,.ne (n 1) A] (.lt (n 1) (.a (n 1) (.s A (n 1)))) [a]
def zgx:=ok [.lt A (.a (n 1) (n 1)),.lt B A] (.eq B (n 0)) [a,b]
def zgy:=ok [.lt A (.a (n 1) (n 1)),.lt B A] (.eq A (n 1)) [a,b]
def zgz:=ok [] (.eq (.a (.a A B) (n 1)) (.a A (.a (n 1) B))) [a,b]
def zh0:=ok [] (.eq (.a (n 1) A) (.a A (n 1))) [a]
def zh1:=ok [] (.le (.a (n 0) (n 1)) (.a A (n 1))) [a]
def zh2:=ok [.le (.a A (.a (.a B (n 1)) (n 1))) (.a C (n 1))] (.lt A C) [a,b,c]
def zh3:=ok [.le A B] (.eq (.s (.mn A B) C) (.s A C)) [a,b,c]
def zh4:=ok [.le A B] (.eq (.a A (.s B A)) B) [a,b]
def zh5:=ok [.le (.a (.a A B) C) G,.lt H C] (.lt (.a A (.a B H)) G) [a,b,c,d,e]
def zh7:=ok [.le A (.a B (n 1)),.no (.eq A (.a B (n 1)))] (.lt A (.a B (n 1))) [a,b]
def zh8:=ok [.le (.a A (.a (.a B (n 1)) (n 1))) (.a C (n 1))] (.le (.a A (.a B (n 1))) (.a (.s C (n 1)) (n 1))) [a,b,c]
def zh9:=ok [.le A B] (.le (.a A C) (.a (.s (.a B C) (n 1)) (n 1))) [a,b,c]
def zha:=ok [.le A (.a B (n 1)),.no (.eq A (.a B (n 1)))] (.le A B) [a,b]
def zhb:=ok [.le A B,.le (.a (.a C G) H) A,.lt I H] (.lt (.a (.a C G) I) B) [a,b,c,d,e,f]
def zhc:=ok [.le A B,.le (.a C G) (.s B A)] (.le (.a (.a A C) G) B) [a,b,c,d]
def zhd:=ok [.lt A (.a B (n 1))] (.lt (.a A (n 1)) (.a (.a B (n 1)) (n 1))) [a,b]
def zhe:=ok [] (.eq (.s (.s A (n 1)) B) (.s A (.a B (n 1)))) [a,b]
def zhf:=ok [.lt (n 0) A] (.lt (.s (.s A (n 1)) B) A) [a,b]
def zhg:=ok [] (.le (.a A B) (.a (.s (.a (.a A C) B) (n 1)) (n 1))) [a,b,c]
def zhh:=ok [.no (.lt A B)] (.le (.mn B C) A) [a,b,c]
def zhi:=ok [.lt A B] (.eq (.s (.s (.a C B) (n 1)) A) (.a C (.s (.s B (n 1)) A))) [a,b,c]
def zhk:=ok [.lt A B] (.lt (.s (.s B (n 1)) A) B) [a,b]
def zhl:=ok [.le A B,.lt (n 0) C] (.le A (.s (.a B C) (n 1))) [a,b,c]
def zhm:=ok [.lt (n 0) A,.le (.a B A) C] (.lt (.s (.a B A) (n 1)) C) [a,b,c]
def zhn:=ok [.lt A B] (.eq (.s (.s (.a (.a C G) B) (n 1)) A) (.a (.a C G) (.s (.s B (n 1)) A))) [a,b,c,d]
def zho:=ok [.lt (n 0) A] (.eq (.s (.a B A) (n 1)) (.a B (.s A (n 1)))) [a,b]
def zhp:=ok [.lt A B] (.le C (.s (.a (.a C G) B) (n 1))) [a,b,c,d]
def zhq:=ok [.lt A B,.le (.a C B) (.s G H)] (.lt (.s (.a (.a H C) B) (n 1)) G) [a,b,c,d,e]
def zhr:=ok [.le A B,.lt B A] (.or (.lt (.s (.a C (n 1)) A) G) (.an (.eq (.s (.a C (n 1)) A) G) (.le (.s (.a H (n 1)) A) I))) [a,b,c,d,e,f]
def zhs:=ok [.lt (n 0) A] (.eq (.s (.a (.s (.a B A) (n 1)) (n 1)) A) B) [a,b]
def zht:=ok [.lt (n 0) A] (.le (.s (.a (.s (.a B A) (n 1)) (n 1)) A) B) [a,b]
theorem zhu{a b c:Nat}(h:a<b)(q:b<=c)(r:c<=a):true=false:=(ok [.lt A B,.le B C,.le C A] .f [a,b,c] [] (by kernel_rfl) h q r).elim
def zhv:=ok [.le A (.s (.a B (n 1)) C),.lt B (.s (.a G A) (n 1))] (.lt (.s (.a B (n 1)) A) G) [a,b,c,d]
def zhw:=ok [.lt (n 0) A,.eq B (.s (.a C A) (n 1))] (.eq (.s (.a B (n 1)) A) C) [a,b,c]
def zhx:=ok [.le A (.mn (.s B C) (.s G H)),.lt I (.a (.s (.s B C) A) (n 1))] (.le (.a I A) (.s B C)) [a,b,c,d,e,f]
def zhy:=ok [.lt A (.s (.a B C) (n 1))] (.le (.s (.a A (n 1)) C) B) [a,b,c]
def zhz:=ok [.le A (.mn (.s B C) (.s G H)),.lt I (.a (.s (.s G H) A) (n 1))] (.le (.a I A) (.s G H)) [a,b,c,d,e,f]
def zi0:=ok [.eq A (n 0),.lt (n 0) B] (.lt A B) [a,b]
def zi1:=ok [.le (.a A B) C] (.lt (.s A G) (.a (.s (.s C G) B) (n 1))) [a,b,c,d]
def zi2:=ok [.le A B,.le (.a B C) G] (.le (.a (.a A (.s B A)) C) G) [a,b,c,d]
def zi3:=ok [.le A B] (.eq (.a (.a A (.s B A)) C) (.a B C)) [a,b,c]
def zi4:=ok [.le (.a A B) C,.lt G (.s A H)] (.le (.a (.a H G) B) C) [a,b,c,d,e]
def zi5:=ok [] (.le A (.a A (.s B A))) [a,b]
theorem zi6{a b c d e:Nat}(h:a<=b)(q:c<d - e)(r:b<a+(b - a)\/b=a+(b - a)/\d<=e+c):true=false:=(ok [.le A B,.lt C (.s G H),.or (.lt B (.a A (.s B A))) (.an (.eq B (.a A (.s B A))) (.le G (.a H C)))] .f [a,b,c,d,e] [] (by kernel_rfl) h q r).elim
def zi7:=ok [.le A B,.le (.a B C) G,.lt H (.a (.s (.s G A) C) (n 1))] (.le (.a (.a A H) C) G) [a,b,c,d,e]
theorem zi8{a b c d e f:Nat}(h:a<b - c)(q:b<c+a\/b=c+a/\d<=e+f):true=false:=(ok [.lt A (.s B C),.or (.lt B (.a C A)) (.an (.eq B (.a C A)) (.le G (.a H I)))] .f [a,b,c,d,e,f] [] (by kernel_rfl) h q).elim
def zi9:=ok [.le A B,.le C G,.le (.a B H) I,.le (.a G H) J] (.le H (.mn (.s I A) (.s J C))) [a,b,c,d,e,f,g]
def zia:=ok [.le (.a A B) C] (.le A C) [a,b,c]
def zib:=ok [.le A B] (.eq (.a (.s B A) C) (.s (.a B C) A)) [a,b,c]
def zic:=ok [.le A B] (.le A (.a B C)) [a,b,c]
def zid:=ok [.le A B,.le (.a C G) A] (.le C B) [a,b,c,d]
def zif:=ok [.le (.a (n 1) A) (n 0)] .f [a]
def zig:=ok [.le (.a A B) (.a C (.a A G))] (.le B (.a C G)) [a,b,c,d]
def zih:=ok [.le (.a A (n 1)) (.mn B C)] (.le A (.mn B C)) [a,b,c]
def zii:=ok [.le A (.a B C)] (.le (.a A (n 1)) (.a B (.a C (n 1)))) [a,b,c]
def zij:=ok [.lt A B,.le C A,.or (.eq C A) (.eq C B)] (.an (.le (.a (n 1) C) (.a (n 1) A)) (.an (.le (.a (n 1) C) B) (.or (.eq (.a (n 1) C) (.a (n 1) A)) (.eq (.a (n 1) C) B)))) [a,b,c]
def zik:=ok [.le A B,.le A C,.or (.eq G B) (.eq G C)] (.le A G) [a,b,c,d]
def zil:=ok [.le (.a A B) C] (.le B (.s C A)) [a,b,c]
def zim:=ok [.le A (.mn B C),.lt G (.a (.s B A) (n 1))] (.le (.a G A) B) [a,b,c,d]
def zin:=ok [.no (.lt A B),.le C B,.or (.eq C A) (.eq C B)] (.an (.le C (.a (n 1) A)) (.an (.le C B) (.or (.eq C (.a (n 1) A)) (.eq C B)))) [a,b,c]
def zio:=ok [.le A (.mn B C),.lt G (.a (.s C A) (n 1))] (.le (.a G A) C) [a,b,c,d]
def zip:=ok [.le A B,.le A C,.le G H,.le G I,.eq J (.a B (.a K H)),.eq (v 8) (.a C (.a K I))] (.an (.le (.a (.a K A) G) J) (.le (.a (.a K A) G) (v 8))) [a,b,c,d,e,f,g,i,j]
def zir:=ok [.le (.a (.a A (n 1)) (n 1)) B,.le (.a (.a B (n 1)) (n 1)) C] (.le (.a (.a A (n 1)) (n 1)) C) [a,b,c]
def zis:=ok [.le (.a (.a A (n 1)) (n 1)) B,.le (.a (.a (.a (.a (.a (.a B (n 1)) (n 1)) (n 1)) (n 1)) (n 1)) (n 1)) C] (.le (.a (.a A (n 1)) (n 1)) C) [a,b,c]
def zit:=ok [.lt A (n 6)] (.Le (.c A) (.k 1000)) [a]
def ziu:=ok [.le (.a (.a A (n 1)) (n 1)) B] (.lt (.a A (.a (n 0) (n 1))) (.a (.a B (n 1)) (n 1))) [a,b]
def ziv:=ok [.le (.a (.a A (n 1)) (n 1)) B] (.le A (.a (.a B (n 1)) (n 1))) [a,b]
def ziy:=ok [.Eq (.c G) (.mx (.s (.c A) (.k 0)) (.k 0)),.lt A (n 6),.le B C,.lt C G] (.le B (n 60)) [a,b,c,(Dl (((a:Nat):Int) - (0:Int)))] [] (by kernel_rfl) (Bb (((a:Nat):Int) - (0:Int)))
def zj3:=ok [.le A B,.lt B C,.le (.a (.a (.a (.a (.a C (n 1)) (n 1)) (n 1)) (n 1)) (n 1)) G,.le (.a (.a (.a (.a G (n 1)) (n 1)) (n 1)) (n 1)) H] (.le A H) [a,b,c,d,e]
def zj4:=ok [.Eq (.c B) (.mx (.s (.c A) (.k 0)) (.k 0)),.lt A (n 6)] (.le B (n 5)) [a,(Dl (((a:Nat):Int) - (0:Int)))] [] (by kernel_rfl) (Bb (((a:Nat):Int) - (0:Int)))
def zj5{a:Int}:=ok [.Lt (.k 0) (.w 0)] (.no (.Le (.w 0) (.k 0))) [] [a]
def zj6:=ok [.lt A B] (.Lt (.k 0) (.s (.c B) (.c A))) [a,b]
def zj7:=ok [.le A B,.le B (n 1000),.eq C G,.lt G A] (.le C (n 10000)) [a,b,c,d]
def zj8:=ok [] (.Eq (.a (.g (.c A)) (.k (-1))) (.g (.c (.a A (n 1))))) [a]
def zj9:=ok [.le B A,.eq (.s A B) (n 0)] (.eq A B) [a,b]
def zja:=ok [] (.Le (.s (.c A) (.c A)) (.k 0)) [a]
def zjb:=ok [.le (.m 2 C) (.s A (n 1)),.lt (.s A (n 1)) (.m 2 (.a C (n 1))),.lt A B] (.lt C B) [a,b,((a - 1) / 2)] [] (by kernel_rfl) (Bc _ 2) (Aa _ (by decide))
def zjc:=ok [.lt A B] (.Lt (.c A) (.c B)) [a,b]
theorem zjd{a b:Int}{c d:Nat}(h : -60<=a)(q:b<=0)(r : ↑c * 1000+a<=↑d * 1000+b):c<=d:=by rw[Go,Go ↑d] at r;exact ok [.Le (.k (-60)) (.w 0),.Le (.w 1) (.k 0),.Le (.a (.m 1000 (.c A)) (.w 0)) (.a (.m 1000 (.c B)) (.w 1))] (.le A B) [c,d] [a,b] (by kernel_rfl) h q r
def zjf:=ok [] (.le (.a (.a (.s (.mn A B) (n 0)) (n 1)) (.s (.mn B B) A)) (.a B (n 1))) [a,b]
def zjg:=ok [.le A (n 100),.le B (.a A (n 1))] (.le B (n 16777216)) [a,b]
def x00:=ok [.lt A B,.le C (.s (.a (.s B (n 1)) (n 1)) A)] (.le (.a C (n 1)) (.s (.a B (n 1)) A)) [a,b,c]
def x01:=ok [.lt A B,.lt (.s B (n 1)) A] (.le (.a C (n 1)) (.s (.a B (n 1)) A)) [a,b,c]
def x02:=ok [.no (.lt A B)] (.le (n 1) (.s (.a A (n 1)) B)) [a,b]
def x03:=ok [.eq A B,.le A (.s (.a C (n 1)) G)] (.le B (.s (.a C (n 1)) G)) [a,b,c,d]
def x04:=ok [.le A B,.lt B A] (.le C (.s (.a B (n 1)) A)) [a,b,c]
theorem x05{a b c:Nat}(h:a<=b)(q:¬ c≥a):(c+a) / 2<b:=Nat.div_lt_of_lt_mul (ok [.le A B,.no (.le A C)] (.lt (.a C A) (.m 2 B)) [a,b,c] [] (by kernel_rfl) h q)
theorem x06{a b:Nat}(h:¬ a≥b):a<=(a+b) / 2:=(Nat.le_div_iff_mul_le (by decide)).mpr (H3 2 a▸ok [.no (.le B A)] (.le (.m 2 A) (.a A B)) [a,b] [] (by kernel_rfl) h)
theorem x10{a b:Int}(p:0<=a+60):a<b↔(a+60).toNat<(b+60).toNat :=
 ⟨ok [.Eq (.c A) (.mx (.a (.w 0) (.k 60)) (.k 0)),.Eq (.c B) (.mx (.a (.w 1) (.k 60)) (.k 0)),.Le (.k 0) (.a (.w 0) (.k 60)),.Lt (.w 0) (.w 1)] (.lt A B) [(a+60).toNat,(b+60).toNat] [a,b] (by kernel_rfl) (Bb _) (Bb _) p,
  ok [.Eq (.c A) (.mx (.a (.w 0) (.k 60)) (.k 0)),.Eq (.c B) (.mx (.a (.w 1) (.k 60)) (.k 0)),.Le (.k 0) (.a (.w 0) (.k 60)),.lt A B] (.Lt (.w 0) (.w 1)) [(a+60).toNat,(b+60).toNat] [a,b] (by kernel_rfl) (Bb _) (Bb _) p⟩
theorem x11{a b:Nat}(h:a<b):(0<=(a:Int)/\(a:Int)<b)/\(a:Int).toNat=a:=⟨⟨DM a,Dn.mpr h⟩,rfl⟩
theorem x12{a b:Int}{c d:Nat}(h1 : -400<=a)(h2:a<=400)(h3 : -400<=b)(h4:b<=400)(q:decide (c=d)=false):c<d↔↑c * 1000+a < ↑d * 1000+b:=by
 rw[Go,Go ↑d]
 exact⟨ok [.Le (.k (-400)) (.w 0),.Le (.w 0) (.k 400),.Le (.k (-400)) (.w 1),.Le (.w 1) (.k 400),.lt A B] (.Lt (.a (.m 1000 (.c A)) (.w 0)) (.a (.m 1000 (.c B)) (.w 1))) [c,d] [a,b] (by kernel_rfl) h1 h2 h3 h4,
  ok [.Le (.k (-400)) (.w 0),.Le (.w 0) (.k 400),.Le (.k (-400)) (.w 1),.Le (.w 1) (.k 400),.ne A B,.Lt (.a (.m 1000 (.c A)) (.w 0)) (.a (.m 1000 (.c B)) (.w 1))] (.lt A B) [c,d] [a,b] (by kernel_rfl) h1 h2 h3 h4 (of_decide_eq_false q)⟩
theorem x13{a b:Nat}{c d:Int}(q:decide (a=b)=true):c<d↔↑a * 1000+c < ↑b * 1000+d:=by rw[of_decide_eq_true q];exact (Int.add_lt_add_iff_left _).symm
def x14:=ok [.le A B,.ne C (n 0),.lt (.a G C) A] (.lt (.s A (.a G C)) B) [a,b,c,d]
theorem x15{a b:Int}(h:a<b):b - a=((b - a).toNat:Int):=(Jv (Ek (HZ h))).symm
theorem x16{a:Nat}(h:a<=4):(a+1) * 5≥7 * 3↔a=4:=(by decide:∀ a:Fin 5,(a.1+1) * 5≥7 * 3↔a.1=4) ⟨a,J1 h⟩
theorem x17{a:Nat}(h:a<=6)(q:¬a<=4):(a+1) * 5≥31 * 3↔a=4:=(by decide:∀ a:Fin 7,¬a.1<=4->((a.1+1) * 5≥31 * 3↔a.1=4)) ⟨a,J1 h⟩ q
theorem x19{a b:Int}(h:¬a<b):(0:Int)=((b - a).toNat:Int):=by rw[Int.toNat_of_nonpos (Int.sub_nonpos_of_le (GA.mp h))];rfl
def x20:=ok [.le A (n 1000),.lt B A] (.Lt (.c B) (.k 9223372036854775808)) [a,b]
def x30:=ok [.le A B,.lt B C,.eq G (.a (.a (.a (.a C (n 1)) (n 1)) (n 1)) (n 1))] (.le A G) [a,b,c,d]
def x31:=ok [.le A B,.lt B C,.le (.a (.a (.a (.a (.a C (n 1)) (n 1)) (n 1)) (n 1)) (n 1)) G] (.le A G) [a,b,c,d]
def x32:=ok [.le (.a (.a (.a (.a (.a A (n 1)) (n 1)) (n 1)) (n 1)) (n 1)) B,.le (.a (.a (.a (.a B (n 1)) (n 1)) (n 1)) (n 1)) C,.eq G (.a (.a (.a (.a A (n 1)) (n 1)) (n 1)) (n 1))] (.lt G C) [a,b,c,d]
def x33:=ok [.le (.a (.a (.a (.a A (n 1)) (n 1)) (n 1)) (n 1)) B,.lt C A] (.lt C B) [a,b,c]
end
end Mine
end
noncomputable section
namespace Mine
universe u
inductive Ex2 {A0:Sort _}{A1:Sort _} (P:A0->A1->Prop):Prop
 | mk:∀ a0 a1,P a0 a1->Ex2 P
inductive Ex3 {A0:Sort _}{A1:Sort _}{A2:Sort _} (P:A0->A1->A2->Prop):Prop
 | mk:∀ a0 a1 a2,P a0 a1 a2->Ex3 P
inductive Ex4 {A0:Sort _}{A1:Sort _}{A2:Sort _}{A3:Sort _} (P:A0->A1->A2->A3->Prop):Prop
 | mk:∀ a0 a1 a2 a3,P a0 a1 a2 a3->Ex4 P
inductive Ex5 {A0:Sort _}{A1:Sort _}{A2:Sort _}{A3:Sort _}{A4:Sort _} (P:A0->A1->A2->A3->A4->Prop):Prop
 | mk:∀ a0 a1 a2 a3 a4,P a0 a1 a2 a3 a4->Ex5 P
inductive Ex6 {A0:Sort _}{A1:Sort _}{A2:Sort _}{A3:Sort _}{A4:Sort _}{A5:Sort _} (P:A0->A1->A2->A3->A4->A5->Prop):Prop
 | mk:∀ a0 a1 a2 a3 a4 a5,P a0 a1 a2 a3 a4 a5->Ex6 P
inductive Ex7 {A0:Sort _}{A1:Sort _}{A2:Sort _}{A3:Sort _}{A4:Sort _}{A5:Sort _}{A6:Sort _} (P:A0->A1->A2->A3->A4->A5->A6->Prop):Prop
 | mk:∀ a0 a1 a2 a3 a4 a5 a6,P a0 a1 a2 a3 a4 a5 a6->Ex7 P
inductive Ex8 {A0:Sort _}{A1:Sort _}{A2:Sort _}{A3:Sort _}{A4:Sort _}{A5:Sort _}{A6:Sort _}{A7:Sort _} (P:A0->A1->A2->A3->A4->A5->A6->A7->Prop):Prop
 | mk:∀ a0 a1 a2 a3 a4 a5 a6 a7,P a0 a1 a2 a3 a4 a5 a6 a7->Ex8 P
inductive Ex13 {A0:Sort _}{A1:Sort _}{A2:Sort _}{A3:Sort _}{A4:Sort _}{A5:Sort _}{A6:Sort _}{A7:Sort _}{A8:Sort _}{A9:Sort _}{A10:Sort _}{A11:Sort _}{A12:Sort _} (P:A0->A1->A2->A3->A4->A5->A6->A7->A8->A9->A10->A11->A12->Prop):Prop
 | mk:∀ a0 a1 a2 a3 a4 a5 a6 a7 a8 a9 a10 a11 a12,P a0 a1 a2 a3 a4 a5 a6 a7 a8 a9 a10 a11 a12->Ex13 P
inductive An3 (p0 p1 p2:Prop):Prop
 | mk:p0->p1->p2->An3 p0 p1 p2
inductive An4 (p0 p1 p2 p3:Prop):Prop
 | mk:p0->p1->p2->p3->An4 p0 p1 p2 p3
inductive An5 (p0 p1 p2 p3 p4:Prop):Prop
 | mk:p0->p1->p2->p3->p4->An5 p0 p1 p2 p3 p4
inductive An6 (p0 p1 p2 p3 p4 p5:Prop):Prop
 | mk:p0->p1->p2->p3->p4->p5->An6 p0 p1 p2 p3 p4 p5
inductive An7 (p0 p1 p2 p3 p4 p5 p6:Prop):Prop
 | mk:p0->p1->p2->p3->p4->p5->p6->An7 p0 p1 p2 p3 p4 p5 p6
inductive An8 (p0 p1 p2 p3 p4 p5 p6 p7:Prop):Prop
 | mk:p0->p1->p2->p3->p4->p5->p6->p7->An8 p0 p1 p2 p3 p4 p5 p6 p7
inductive An9 (p0 p1 p2 p3 p4 p5 p6 p7 p8:Prop):Prop
 | mk:p0->p1->p2->p3->p4->p5->p6->p7->p8->An9 p0 p1 p2 p3 p4 p5 p6 p7 p8
inductive An11 (p0 p1 p2 p3 p4 p5 p6 p7 p8 p9 p10:Prop):Prop
 | mk:p0->p1->p2->p3->p4->p5->p6->p7->p8->p9->p10->An11 p0 p1 p2 p3 p4 p5 p6 p7 p8 p9 p10
end Mine
end
noncomputable section
open PySem PySem.W PyProof.Rows
namespace Mine
noncomputable def anyF(as:Array Nat)(p:Nat->Bool)(i:Nat)(j:Nat):Bool :=
 match Nat.beq i 0&&Nat.beq j as.size with
 | true=>as.toList.any p
 | false=>as.any p i j
theorem yX(as:Array Nat)(p:Nat->Bool)(i j:Nat):KL as p i j=anyF as p i j:=by
 unfold anyF
 split
 ·rename_i h
  rw[HK] at h
  rw[IG h.1,IG h.2,Array.any_toList]
 ·rfl
theorem xh : @KL Nat=anyF:=by
 funext as p i j;exact yX as p i j
abbrev AnyT:Type:=Array Nat->(Nat->Bool)->Nat->Nat->Bool
noncomputable def tnG:AnyT->Az:=by
 have go:∀ (a:AnyT) (f:Az),((@KL Nat:AnyT)=a->Az.«type.__new__» = f)->True:=λZ Z Z=>trivial
 refine λa=>(λ(f:Az) (_:True)=>f) ?f (go a ?f ?h)
 case h =>
  intro e
  delta Az.«type.__new__»
  rw[e]
noncomputable def tnF:Az:=tnG anyF
theorem xz:Az.«type.__new__» = tnF:=by
 have h:Az.«type.__new__» = tnG (@KL Nat):=by kernel_rfl
 rw[h,xh,tnF]
noncomputable def T2 (tn:Az) (id:String):Option Az:=if id == "type.__new__" then some tn else treeTable id
theorem T2_eq:treeTable=T2 tnF:=by
 funext id
 unfold T2
 split
 ·rename_i h
  have h:=beq_iff_eq.mp h
  subst h
  rw[<- xz]
  kernel_rfl
 ·rfl
noncomputable def ix(tb:String->Option Az)(p:Bm)(w:As)(bq:Nat)(ann:Option Value):Nat->J3->Thread->Option J3
 | 0,_,_=>none
 | n+1,s,t=>match through t with
  | true=>some s
  | false=>match stepOk bq ann t with
   | false=>none
   | true=>match stepT (denote tb) p w s t with
    | some (s',t')=>ix tb p w bq ann n s' t'
    | none=>none
theorem oZ{tb:String->Option Az}{p:Bm}{w:As}{bq:Nat}{ann:Option Value}{n:Nat}{s:J3}{t:Thread}:ix tb p w bq ann (n+1) s t=match through t with
  | true=>some s
  | false=>match stepOk bq ann t with
   | false=>none
   | true=>match stepT (denote tb) p w s t with
    | some (s',t')=>ix tb p w bq ann n s' t'
    | none=>none:=rfl
theorem nT{tb:String->Option Az}{p:Bm}{w:As}{bq:Nat}{ann:Option Value}:∀ {n:Nat}{s s':J3}{t:Thread},
  ix tb p w bq ann n s t=some s'->topRun tb p w bq ann n s.abs t=some s'.abs:=by
 intro n
 induction n with
 | zero =>
  intro Z Z Z h
  nomatch h
 | succ n ih =>
  intro s s' t h
  rw[oZ] at h
  unfold topRun
  cases he:through t with
  | true=>rw[he] at h;cases h;rfl
  | false =>
   rw[he] at h
   cases hk:stepOk bq ann t with
   | false=>rw[hk] at h;nomatch h
   | true =>
    rw[hk] at h
    cases hs:stepT (denote tb) p w s t with
    | none=>rw[hs] at h;nomatch h
    | some r=>obtain⟨ag,b8⟩:=r;rw[hs] at h;rw[stepT_spec hs];exact ih h
noncomputable def nj:List AR->Nat->BT->Option BT
 | [],_,t=>some t
 | o::l,i,t=>match ((t.ins i o).get i).isSome with
  | true=>nj l (i+1) (t.ins i o)
  | false=>none
theorem oH{life:Life}:∀ {l:List AR}{i:Nat}{t t':BT},nj l i t=some t' ->
  (Jp t' (i+l.length) life).objs=(Jp t i life).objs++l.toArray:=by
 intro l
 induction l with
 | nil =>
  intro i t t' h
  cases h;simp
 | cons o l IH =>
  intro i t t' h
  replace h:(match ((t.ins i o).get i).isSome with|true=>nj l (i+1) (t.ins i o)|false=>none)=some t':=h
  cases hg:((t.ins i o).get i).isSome with
  | false=>rw[hg] at h;nomatch h
  | true =>
   rw[hg] at h
   have ih:=IH h
   rw[show i+(o::l).length=i+1+l.length by simp;exact z2i,ih,absHeap_ins hg]
   show (Jp t i life).objs.push o++l.toArray=_
   simp
noncomputable def toT(s:zc):Option J3 :=
 (nj s.heap.objs.toList 0 .nil).map λt=>⟨t,s.heap.objs.toList.length,s.heap.life,s.gens,s.drawn,s.toks,s.os⟩
theorem vh{s:zc}{t:J3}(h:toT s=some t):t.abs=s/\t.n=s.heap.objs.size:=by
 unfold toT at h
 obtain⟨b,hb,rfl⟩:=z0.mp h
 have e:=oH (life:=s.heap.life) hb
 rw[Fk] at e
 refine⟨?_,by simp⟩
 obtain⟨⟨objs,life⟩,gens,drawn,toks,os⟩:=s
 show Shared.mk (Jp b objs.toList.length life) gens drawn toks os=_
 have e2:Jp b objs.toList.length life=⟨objs,life⟩:=by
  have:(Jp BT.nil 0 life).objs = #[]:=rfl
  rw[this] at e
  have e3:(Jp b objs.toList.length life).objs=objs:=by rw[e];simp
  show Heap.mk _ _=_
  exact congrArg (Heap.mk · life) e3
 rw[e2]
noncomputable def fS(tb:String->Option Az)(p:Bm)(w:As)(N:Nat)(b9:zc):Option zc :=
 match b9.heap.isNs Bp&&b9.gens.size==0 with
 | true=>(toT b9).bind λt=>(ix tb p w t.n (b9.heap.nsMap Bp "__annotations__") N t (topStub p)).bind λr =>
   match staticsOk (F5 p.main.body) b9.heap r.abs.heap&&namesBound p r.abs.heap&&gensDone r.abs&&laidKept b9.heap r.abs.heap with
   | true=>some r.abs
   | false=>none
 | false=>none
theorem lI{tb:String->Option Az}{p:Bm}{w:As}{N:Nat}{b9 s:zc}(h:fS tb p w N b9=some s):topFrom tb p w N b9=some s:=by
 unfold fS at h
 unfold topFrom
 cases hg:(b9.heap.isNs Bp&&b9.gens.size==0) with
 | false=>rw[hg] at h;nomatch h
 | true =>
  rw[hg] at h
  obtain⟨t,ht,h⟩:=DE.mp h
  obtain⟨r,hr,h⟩:=DE.mp h
  obtain⟨e1,e2⟩:=vh ht
  have hr':=nT hr
  rw[e1,e2] at hr'
  dsimp only
  rw[hr']
  exact h
theorem wC{p q:Bm}{loose:List zK}{Xt:zc->Bool}{α:Type}{Yf:zc->α}{Ya:As->α}{N:Nat}{g0:Bool}
  (h:∀ w,((JD (T2 tnF) p w N).bind (fS (T2 tnF) p w N)).map (λs=>(Ni q loose (F5 p.main.body) Xt g0 s,Yf s))=some (Nj q loose,Ya w)) :
  LeftO p q loose Xt Yf Ya N g0:=λw=>by
 rw[T2_eq]
 obtain⟨s,hs,e⟩:=z0.mp (h w)
 obtain⟨b9,h0,h1⟩:=DE.mp hs
 unfold openEnds
 rw[h0]
 show (topFrom (T2 tnF) p w N b9).map _=_
 rw[lI h1]
 exact congrArg some e
noncomputable def fV{β:Type}(v:Value)(k:Value->β):β:=match v with
 | .none=>k .none
 | .ellipsis=>k .ellipsis
 | .notImplemented=>k .notImplemented
 | .bool b=>k (.bool b)
 | .int i t=>k (.int i t)
 | .float x t=>k (.float x t)
 | .str s t=>k (.str s t)
 | .bytes b t=>k (.bytes b t)
 | .type n=>k (.type n)
 | .builtin i=>k (.builtin i)
 | .ref a=>k (.ref a)
noncomputable def fL{α β:Type}(f:α->(α->β)->β):List α->(List α->β)->β
 | [],k=>k []
 | a::l,k=>f a λa'=>fL f l λl'=>k (a'::l')
noncomputable def fO{α β:Type}(f:α->(α->β)->β)(x:Option α)(k:Option α->β):β:=match x with
 | none=>k none
 | some a=>f a λa'=>k (some a')
noncomputable def fE{β:Type}(e:CV)(k:CV->β):β:=match e with
 | ⟨h,a,b⟩=>fV a λa'=>fV b λb'=>k ⟨h,a',b'⟩
noncomputable def fA{α β:Type}(f:α->(α->β)->β)(x:Array α)(k:Array α->β):β:=match x with
 | ⟨l⟩=>fL f l λl'=>k ⟨l'⟩
noncomputable def fI{α β:Type}(x:α)(k:α->β):β:=k x
noncomputable def fF{β:Type}(f:BD)(k:BD->β):β:=match f with
 | ⟨a,b,c,d,e,g,cl,df,kd,dc,pm,an,cd,ct,bi⟩=>fL (λ(x:zK×zh) k=>match x with|(u,v)=>k (u,v)) cl λcl=>fV df λdf=>fV kd λkd=>fV dc λdc=>fV pm λpm=>fO fI an λan=>fV cd λcd=>fV ct λct =>
   match d with
   | .stmts d=>k ⟨a,b,c,.stmts d,e,g,cl,df,kd,dc,pm,an,cd,ct,bi⟩
   | .expr d=>k ⟨a,b,c,.expr d,e,g,cl,df,kd,dc,pm,an,cd,ct,bi⟩
noncomputable def fC{β:Type}(c:KO)(k:KO->β):β:=match c with
 | ⟨n,bs,mro,ns,qn,hd,sl,sub,ab,co,del⟩=>fL fV bs λbs=>fL fV mro λmro=>fL fI sl λsl=>fL fV sub λsub=>fO fI co λco=>k ⟨n,bs,mro,ns,qn,hd,sl,sub,ab,co,del⟩
noncomputable def fD{β:Type}(d:Data)(k:Data->β):β:=match d with
 | .plain=>k .plain
 | .prim v=>fV v λv=>k (.prim v)
 | .seq xs n=>fA fV xs λxs=>k (.seq xs n)
 | .dict es n=>fA fE es λes=>k (.dict es n)
 | .set es n t=>k (.set es n t)
 | .bytearray b e=>k (.bytearray b e)
 | .cell v=>fO fV v λv=>k (.cell v)
 | .func f=>fF f λf=>k (.func f)
 | .cls c=>fC c λc=>k (.cls c)
 | .fields vs=>fA fV vs λvs=>k (.fields vs)
 | .freed=>k .freed
noncomputable def fObj{β:Type}(o:AR)(k:AR->β):β:=match o with
 | ⟨c,d,dt,sl⟩=>fV c λc=>fO fI d λd=>fD dt λdt=>fA (fO fV) sl λsl=>k ⟨c,d,dt,sl⟩
theorem ku{β:Type}(v:Value)(k:Value->β):fV v k=k v:=by cases v<;> rfl
theorem qX{α β:Type}{f:α->(α->β)->β}(hf:∀ a k,f a k=k a):∀ (l:List α) (k:List α->β),fL f l k=k l:=by
 intro l
 induction l with
 | nil =>
  intro Z
  exact rfl
 | cons a l ih =>
  intro k
  exact (hf a _).trans (ih _)
theorem oM{α β:Type}{f:α->(α->β)->β}(hf:∀ a k,f a k=k a)(x:Option α)(k:Option α->β):fO f x k=k x:=by
 cases x with
 | none=>rfl
 | some a=>unfold fO;dsimp only;rw[hf]
theorem wV{α β:Type}{f:α->(α->β)->β}(hf:∀ a k,f a k=k a)(x:Array α)(k:Array α->β):fA f x k=k x:=by
 obtain⟨l⟩:=x
 unfold fA
 dsimp only
 rw[qX hf]
theorem fE_id{β:Type}(e:CV)(k:CV->β):fE e k=k e:=by
 obtain⟨a,b,c⟩:=e
 unfold fE
 dsimp only
 rw[ku,ku]
theorem tM{α β:Type}(x:α)(k:α->β):fI x k=k x:=rfl
theorem fF_id{β:Type}(f:BD)(k:BD->β):fF f k=k f:=by
 obtain⟨a,b,c,d,e,g,cl,df,kd,dc,pm,an,cd,ct,bi⟩:=f
 unfold fF
 dsimp only
 rw[qX (λx k=>by obtain⟨u,v⟩:=x;rfl)]
 simp only[ku,oM (λx k=>tM (β:=β) x k)]
 cases d<;> rfl
theorem fC_id{β:Type}(c:KO)(k:KO->β):fC c k=k c:=by
 obtain⟨n,bs,mro,ns,qn,hd,sl,sub,ab,co,del⟩:=c
 unfold fC
 dsimp only
 simp only[qX (λv k=>ku (β:=β) v k),qX (λx k=>tM (β:=β) x k),oM (λx k=>tM (β:=β) x k)]
theorem fD_id{β:Type}(d:Data)(k:Data->β):fD d k=k d:=by
 cases d<;> unfold fD<;> dsimp only<;> simp only[ku,wV (λv k=>ku (β:=β) v k),wV (λe k=>fE_id (β:=β) e k),oM (λv k=>ku (β:=β) v k),fF_id,fC_id]
theorem wU{β:Type}(o:AR)(k:AR->β):fObj o k=k o:=by
 obtain⟨c,d,dt,sl⟩:=o
 unfold fObj
 dsimp only
 simp only[ku,oM (λx k=>tM (β:=β) x k),fD_id,wV (λv k=>oM (λx k=>ku (β:=β) x k) v k)]
theorem lm{p q:Bm}{loose:List zK}{Xt:zc->Bool}{as:List zh}{Ya:As->List (Option AR)}{N tk:Nat}{g0:Bool}
  (h:∀ w,((JD (T2 tnF) p w N).bind (fS (T2 tnF) p w N)).bind (λs=>fL (fO fObj) (as.map s.heap.get?) λl=>some (Ni q loose (F5 p.main.body) Xt g0 s,l,Cj tk s.toks))=some (Nj q loose,Ya w,true)) :
  LeftO p q loose Xt (λs=>(as.map s.heap.get?,Cj tk s.toks)) (λw=>(Ya w,true)) N g0:=wC λw=>by
 obtain⟨s,hs,e⟩:=DE.mp (h w)
 rw[qX (λx k=>oM (λo k=>wU o k) x k)] at e
 rw[hs]
 exact e
end Mine
end
noncomputable section
open PySem PySem.W PyProof.Rows
namespace Mine
noncomputable def st1(p:Bm)(i:Nat):Cv:=(p.main.body[i]?).getD (NP AF)
noncomputable def stP:Cv->List Cv×List Cv×MU×DB×Expr
 | .FunctionDef _ a b _ _ _ s _ _ _=>(b,[],a,s,AF)
 | .ClassDef _ _ _ b _ _ _ _ _ _ _=>(b,[],AF,AF,AF)
 | .For t _ b _ _=>(b,[],AF,AF,t)
 | .While _ b _ _=>(b,[],AF,AF,AF)
 | .If _ b o _=>(b,o,AF,AF,AF)
 | .Try b _ o _ _=>(b,o,AF,AF,AF)
 | _=>AF
noncomputable def aD(s:Cv):List Cv:=(stP s).1
noncomputable def orB(s:Cv):List Cv:=(stP s).2.1
noncomputable def uV(s:Cv):MU:=(stP s).2.2.1
noncomputable def qQ(s:Cv):DB:=(stP s).2.2.2.1
noncomputable def st2(p:Bm)(i j:Nat):Cv:=((aD (st1 p i))[j]?).getD (NP AF)
noncomputable def kz (st:Cv):zK:=(docOf (aD st)).getD (yZ "")
def pw:Bm:=LF
noncomputable def fnO (n q:String) (st:Cv) (df doc:Value) (m:String) (tm:AQ) (cd:zh):AR:=⟨.type "function", none,.func { name:=yZ n,qualname:=yZ q,params:=uV st,body:=.stmts (aD st),scope:=qQ st,globals:=3,closure:=[],defaults:=df,kwdefaults:=.none,doc:=doc,pyModule:=.str (yZ m) tm,annotations:=none,code:=.ref cd,closureTuple:=.none,builtins:=0 },#[]⟩
noncomputable def cdO (n q:String) (t:Nat) (a b c d e:Int) (r1:zh) (bo:Bool) (i:Int) (r2:zh) (v1 v2 v3 v4:Value) (k1 k2:Int) (t4:AQ):AR:=⟨.type "code", none,.fields #[.str (yZ n) t,.str (yZ q) (t+1),.str (yZ "/claim/cut.py") (t+2),.int a 0,.int b 0,.int c 0,.int d 0,.int e 0,.ref r1,.bool bo,.int i 0,.ref r2,v1,v2,v3,v4,.int k1 0,.int k2 0,.str (yZ "/claim/cut.py") t4],#[]⟩
noncomputable def ent(P:zI)(k:String)(t:AQ)(v:Value):CV:=⟨Fl P (yZ k),.str (yZ k) t,v⟩
noncomputable def o2 (P:zI):AR:=⟨.none,none,(.dict #[ent P "im\x70ort.loaded._heapq" 186 (.bool true),ent P "class._frozen_importlib_external._LoaderBasics" 191 (.ref 16),ent P "watched.im\x70ort" 207 (.ref 20),ent P "class._frozen_importlib_external.FileLoader" 208 (.ref 22),ent P "class._frozen_importlib_external.ExtensionFileLoader" 229 (.ref 27),ent P "class._frozen_importlib.ModuleSpec" 257 (.ref 33),ent P "sys.modules.booked-epoch" 286 (.int (3) 0),ent P "im\x70ort.later-laid._heapq" 304 (.bool true),ent P "watched.library" 306 (.ref 38),ent P "watched.library-objects" 0 (.str "\x0d" 0)] 10),#[]⟩
noncomputable def o3 (P:zI):AR:=⟨(.type "dict"),none,(.dict #[ent P "__name__" 165 (.str "law_yj0002_01" 739),ent P "__doc__" 166 .none,ent P "__package__" 167 .none,ent P "__loader__" 168 (.builtin "__main__.__loader__#opaque"),ent P "__spec__" 169 .none,ent P "__annotations__" 170 (.ref 6),ent P "__builtins__" 171 (.ref 4),ent P "__file__" 173 (.str "/claim/cut.py" 172),ent P "__cached__" 174 .none,ent P "heapify" 312 (.builtin "_heapq.heapify"),ent P "heapreplace" 315 (.builtin "_heapq.heapreplace"),ent P "_wall" 328 (.ref 49),ent P "_tuplegetter" 387 (.ref 88),ent P "Match" 515 (.ref 163),ent P "_calculate_ratio" 523 (.ref 173),ent P "SequenceMatcher" 719 (.ref 270),ent P "nlargest" 727 (.ref 280),ent P "get_close_matches" 738 (.ref 286),ent P "_law_word" 750 (.ref 293),ent P "_law_common" 762 (.ref 300),ent P "_law_share" 771 (.ref 307),ent P "_law_refused" 779 (.ref 314),ent P "_law_refusals_right" 791 (.ref 321),ent P "_law_asked_right" 797 (.ref 326),ent P "law" 803 (.ref 331)] 25),#[]⟩
noncomputable def o96 (P:zI):AR:=⟨(.type "cell"),none,(Data.cell (some (.ref 163))),#[]⟩
noncomputable def o109 (P:zI):AR:=cdO "__new__" "Match.__new__" 409 30 4 0 0 3 104 true 316 105 .none (.ref 106) (.ref 107) (.ref 108) 416 30 417
noncomputable def o110 (P:zI):AR:=fnO "__new__" "Match.__new__" (st2 pw 4 4) .none (.str "Create new in\x73tance of Match(a, b, size)" 418) "cpy313.difflib" 329 109
noncomputable def o116 (P:zI):AR:=cdO "_make" "Match._make" 420 34 2 0 0 3 111 true 316 112 .none (.ref 113) (.ref 114) (.ref 115) 426 34 427
noncomputable def o117 (P:zI):AR:=⟨(.type "function"),none,(.func { name := "_make", qualname := "Match._make", params:=uV (st2 pw 4 5),body:=FuncBody.stmts (aD (st2 pw 4 5)),scope:=qQ (st2 pw 4 5),globals:=3,closure:=[],defaults:=.none,kwdefaults:=.none,doc:=(.str "Make a new Match object from a sequence or iterable" 428),pyModule:=(.str "cpy313.difflib" 329),annotations:=(some 120),code:=(.ref 116),closureTuple:=.none,builtins:=0 }),#[]⟩
noncomputable def o119 (P:zI):AR:=⟨(.type "classmethod"),(some 118),(.fields #[(.ref 117),(FM false)]),#[]⟩
noncomputable def o121 (P:zI):AR:=⟨(.type "tuple"),none,(.seq #[(.ref 96)] 0),#[]⟩
noncomputable def o162 (P:zI):AR:=⟨(.type "dict"),none,(.dict #[ent P "__module__" 395 (.str "cpy313.difflib" 329),ent P "__firstlineno__" 399 (.int (24) 398),⟨(Fl P "__doc__"),(.str "__doc__" 401),(.str "Match(a, b, size)" 400)⟩,ent P "__slots__" 403 (.ref 101),ent P "_fields" 407 (.ref 102),ent P "_field_defaults" 408 (.ref 103),ent P "__new__" 419 (.ref 164),ent P "_make" 441 (.ref 119),ent P "_replace" 452 (.ref 128),ent P "__replace__" 453 (.ref 128),ent P "__repr__" 461 (.ref 135),ent P "_asdict" 468 (.ref 142),ent P "__getnewargs__" 476 (.ref 149),ent P "__match_args__" 480 (.ref 150),ent P "a" 490 (.ref 152),ent P "b" 500 (.ref 155),ent P "size" 510 (.ref 158),ent P "__static_attributes__" 511 (.ref 160)] 2),#[]⟩
noncomputable def o163 (P:zI):AR:=⟨(.type "type"),none,(.cls { name := "Match", bases:=[(.type "tuple")],mro:=[(.ref 163),(.type "tuple"),(.type "object")],ns:=162,qualname := "Match", hasDict:=false,slotNames:=[],subclasses:=[],abstract:=false,collection:=none,hasDel:=false }),#[some (.ref 93),none,some (.str "Match" 388),some (.str "Match" 396),some .none,some (FM false)]⟩
noncomputable def o164 (P:zI):AR:=⟨(.type "staticmethod"),none,(.fields #[(.ref 110)]),#[]⟩
noncomputable def o172 (P:zI):AR:=cdO "_calculate_ratio" "_calculate_ratio" 516 67 2 0 0 3 167 true 316 168 .none (.ref 169) (.ref 170) (.ref 171) 521 67 522
noncomputable def o173 (P:zI):AR:=fnO "_calculate_ratio" "_calculate_ratio" (st1 pw 5) .none .none "cpy313.difflib" 329 172
noncomputable def o181 (P:zI):AR:=⟨(.type "tuple"),none,(.seq #[.none,(.str "" 539),(.str "" 540),(FM true)] 0),#[]⟩
noncomputable def o187 (P:zI):AR:=cdO "__init__" "SequenceMatcher.__init__" 541 146 5 0 0 3 182 true 316 183 .none (.ref 184) (.ref 185) (.ref 186) 549 146 550
noncomputable def o188 (P:zI):AR:=fnO "__init__" "SequenceMatcher.__init__" (st2 pw 6 1) (.ref 181) (.str (kz (st2 pw 6 1)) 551) "cpy313.difflib" 329 187
noncomputable def o194 (P:zI):AR:=cdO "set_seqs" "SequenceMatcher.set_seqs" 553 174 3 0 0 3 189 true 316 190 .none (.ref 191) (.ref 192) (.ref 193) 559 174 560
noncomputable def o195 (P:zI):AR:=fnO "set_seqs" "SequenceMatcher.set_seqs" (st2 pw 6 2) .none (.str (kz (st2 pw 6 2)) 561) "cpy313.difflib" 329 194
noncomputable def o201 (P:zI):AR:=cdO "set_seq1" "SequenceMatcher.set_seq1" 563 185 2 0 0 3 196 true 316 197 .none (.ref 198) (.ref 199) (.ref 200) 568 185 569
noncomputable def o202 (P:zI):AR:=fnO "set_seq1" "SequenceMatcher.set_seq1" (st2 pw 6 3) .none (.str (kz (st2 pw 6 3)) 570) "cpy313.difflib" 329 201
noncomputable def o208 (P:zI):AR:=cdO "set_seq2" "SequenceMatcher.set_seq2" 572 210 2 0 0 3 203 true 316 204 .none (.ref 205) (.ref 206) (.ref 207) 577 210 578
noncomputable def o209 (P:zI):AR:=fnO "set_seq2" "SequenceMatcher.set_seq2" (st2 pw 6 4) .none (.str (kz (st2 pw 6 4)) 579) "cpy313.difflib" 329 208
noncomputable def o215 (P:zI):AR:=cdO "__chain_b" "SequenceMatcher.__chain_b" 581 237 1 0 0 3 210 true 316 211 .none (.ref 212) (.ref 213) (.ref 214) 596 237 597
noncomputable def o216 (P:zI):AR:=fnO "__chain_b" "SequenceMatcher.__chain_b" (st2 pw 6 5) .none .none "cpy313.difflib" 329 215
noncomputable def o217 (P:zI):AR:=⟨(.type "tuple"),none,(.seq #[(.int 0 599),.none,(.int 0 600),.none] 0),#[]⟩
noncomputable def o223 (P:zI):AR:=cdO "find_longest_match" "SequenceMatcher.find_longest_match" 601 261 5 0 0 3 218 true 316 219 .none (.ref 220) (.ref 221) (.ref 222) 623 261 624
noncomputable def o224 (P:zI):AR:=fnO "find_longest_match" "SequenceMatcher.find_longest_match" (st2 pw 6 6) (.ref 217) (.str (kz (st2 pw 6 6)) 625) "cpy313.difflib" 329 223
noncomputable def o230 (P:zI):AR:=cdO "get_matching_blocks" "SequenceMatcher.get_matching_blocks" 627 336 1 0 0 3 225 true 316 226 .none (.ref 227) (.ref 228) (.ref 229) 650 336 651
noncomputable def o231 (P:zI):AR:=fnO "get_matching_blocks" "SequenceMatcher.get_matching_blocks" (st2 pw 6 7) .none (.str (kz (st2 pw 6 7)) 652) "cpy313.difflib" 329 230
noncomputable def o248(P:zI):AR:=⟨.none,none,(.fields #[]),#[]⟩
noncomputable def o252 (P:zI):AR:=cdO "ratio" "SequenceMatcher.ratio" 670 390 1 0 0 3 247 true 316 248 .none (.ref 249) (.ref 250) (.ref 251) 675 390 676
noncomputable def o253 (P:zI):AR:=fnO "ratio" "SequenceMatcher.ratio" (st2 pw 6 10) .none (.str (kz (st2 pw 6 10)) 677) "cpy313.difflib" 329 252
noncomputable def o259 (P:zI):AR:=cdO "quick_ratio" "SequenceMatcher.quick_ratio" 679 414 1 0 0 3 254 true 316 255 .none (.ref 256) (.ref 257) (.ref 258) 689 414 690
noncomputable def o260 (P:zI):AR:=fnO "quick_ratio" "SequenceMatcher.quick_ratio" (st2 pw 6 11) .none (.str (kz (st2 pw 6 11)) 691) "cpy313.difflib" 329 259
noncomputable def o266 (P:zI):AR:=cdO "real_quick_ratio" "SequenceMatcher.real_quick_ratio" 693 437 1 0 0 3 261 true 316 262 .none (.ref 263) (.ref 264) (.ref 265) 699 437 700
noncomputable def o267 (P:zI):AR:=fnO "real_quick_ratio" "SequenceMatcher.real_quick_ratio" (st2 pw 6 12) .none (.str (kz (st2 pw 6 12)) 701) "cpy313.difflib" 329 266
noncomputable def o269d (d:zK) (P:zI):AR:=⟨(An "dict"),none,(Data.dict #[ent P "__module__" 531 (.str (yZ "cpy313.difflib") 329),ent P "__firstlineno__" 535 (.int (71) 534),ent P "__doc__" 537 (.str d 536),ent P "__init__" 552 (.ref 188),ent P "set_seqs" 562 (.ref 195),ent P "set_seq1" 571 (.ref 202),ent P "set_seq2" 580 (.ref 209),ent P "_SequenceMatcher__chain_b" 598 (.ref 216),ent P "find_longest_match" 626 (.ref 224),ent P "get_matching_blocks" 653 (.ref 231),ent P "get_opcodes" 660 (.ref 238),ent P "get_grouped_opcodes" 669 (.ref 246),ent P "ratio" 678 (.ref 253),ent P "quick_ratio" 692 (.ref 260),ent P "real_quick_ratio" 702 (.ref 267),ent P "__static_attributes__" 713 (.ref 268),ent P "__dict__" 715 (.ref 271),ent P "__weakref__" 717 (.ref 272)] 3),#[]⟩
noncomputable def o270 (P:zI):AR:=⟨(.type "type"),none,(.cls { name := "SequenceMatcher", bases:=[(.type "object")],mro:=[(.ref 270),(.type "object")],ns:=269,qualname := "SequenceMatcher", hasDict:=true,slotNames:=[],subclasses:=[],abstract:=false,collection:=none,hasDel:=false }),#[none,none,some (.str "SequenceMatcher" 524),some (.str "SequenceMatcher" 532),some (D7 "object.__new__"),some (FM true)]⟩
noncomputable def o275 (P:zI):AR:=⟨(.type "tuple"),none,(.seq #[.none] 0),#[]⟩
noncomputable def o279 (P:zI):AR:=cdO "nlargest" "nlargest" 722 446 3 0 0 3 276 true 316 277 .none .none .none (.ref 278) 725 446 726
noncomputable def o280 (P:zI):AR:=fnO "nlargest" "nlargest" (st1 pw 8) (.ref 275) .none "heapq" 720 279
noncomputable def uJ (P:zI):AR:=⟨(.type "tuple"),none,(.seq #[(.int 3 730),(BE 4603579539098121011 731)] 0),#[]⟩
noncomputable def o285 (P:zI):AR:=cdO "get_close_matches" "get_close_matches" 732 492 4 0 0 3 282 true 316 283 .none .none .none (.ref 284) 735 492 736
noncomputable def o286 (P:zI):AR:=fnO "get_close_matches" "get_close_matches" (st1 pw 10) (.ref 281) (.str (kz (st1 pw 10)) 737) "cpy313.difflib" 728 285
noncomputable def o292 (P:zI):AR:=cdO "_law_word" "_law_word" 741 534 1 0 0 3 287 true 316 288 .none (.ref 289) (.ref 290) (.ref 291) 748 534 749
noncomputable def o293 (P:zI):AR:=fnO "_law_word" "_law_word" (st1 pw 12) .none .none "law_yj0002_01" 739 292
noncomputable def o299 (P:zI):AR:=cdO "_law_common" "_law_common" 751 540 2 0 0 3 294 true 316 295 .none (.ref 296) (.ref 297) (.ref 298) 760 540 761
noncomputable def o300 (P:zI):AR:=fnO "_law_common" "_law_common" (st1 pw 13) .none .none "law_yj0002_01" 739 299
noncomputable def o306 (P:zI):AR:=cdO "_law_share" "_law_share" 763 548 2 0 0 3 301 true 316 302 .none (.ref 303) (.ref 304) (.ref 305) 769 548 770
noncomputable def o307 (P:zI):AR:=fnO "_law_share" "_law_share" (st1 pw 14) .none .none "law_yj0002_01" 739 306
noncomputable def o313 (P:zI):AR:=cdO "_law_refused" "_law_refused" 772 551 1 0 0 3 308 true 316 309 .none (.ref 310) (.ref 311) (.ref 312) 777 551 778
noncomputable def o314 (P:zI):AR:=fnO "_law_refused" "_law_refused" (st1 pw 15) .none .none "law_yj0002_01" 739 313
noncomputable def o316(P:zI):AR:=⟨.none,none,(.fields #[]),#[]⟩
noncomputable def o320 (P:zI):AR:=cdO "_law_refusals_right" "_law_refusals_right" 780 557 2 0 0 3 315 true 316 316 .none (.ref 317) (.ref 318) (.ref 319) 789 557 790
noncomputable def o321 (P:zI):AR:=fnO "_law_refusals_right" "_law_refusals_right" (st1 pw 16) .none .none "law_yj0002_01" 739 320
noncomputable def o325 (P:zI):AR:=cdO "_law_asked_right" "_law_asked_right" 792 570 5 0 0 3 322 true 316 323 .none .none .none (.ref 324) 795 570 796
noncomputable def o326 (P:zI):AR:=fnO "_law_asked_right" "_law_asked_right" (st1 pw 17) .none .none "law_yj0002_01" 739 325
noncomputable def o330 (P:zI):AR:=cdO "law" "law" 798 574 1 0 0 3 327 true 316 328 .none .none .none (.ref 329) 801 574 802
noncomputable def o331 (P:zI):AR:=fnO "law" "law" (st1 pw 18) .none .none "law_yj0002_01" 739 330
noncomputable def K1(P:zI):Ht:=[(2,o2 P),(3,o3 P),(96,o96 P),(109,o109 P),(110,o110 P),(116,o116 P),(117,o117 P),(119,o119 P),(121,o121 P),(162,o162 P),(163,o163 P),(164,o164 P),(172,o172 P),(173,o173 P),(181,o181 P),(187,o187 P),(188,o188 P),(194,o194 P),(195,o195 P),(201,o201 P),(202,o202 P),(208,o208 P),(209,o209 P),(215,o215 P),(216,o216 P),(217,o217 P),(223,o223 P),(224,o224 P),(230,o230 P),(231,o231 P)]
noncomputable def K2(d:zK)(P:zI):Ht:=[(252,o252 P),(253,o253 P),(259,o259 P),(260,o260 P),(266,o266 P),(267,o267 P),(269,o269d d P),(270,o270 P),(275,o275 P),(279,o279 P),(280,o280 P),(281,uJ P),(285,o285 P),(286,o286 P),(292,o292 P),(293,o293 P),(299,o299 P),(300,o300 P),(306,o306 P),(307,o307 P),(313,o313 P),(314,o314 P)]
noncomputable def K3(P:zI):Ht:=[(320,o320 P),(321,o321 P),(325,o325 P),(326,o326 P),(330,o330 P),(331,o331 P)]
noncomputable def KD(d:zK)(P:zI):Ht:=K1 P++(248,o248 P)::(K2 d P++(316,o316 P)::K3 P)
noncomputable def KK(P:zI):Ht:=KD (kz (st1 pw 6)) P
noncomputable def aa:List zh:=[2,3,96,109,110,116,117,119,121,162,163,164,172,173,181,187,188,194,195,201,202,208,209,215,216,217,223,224,230,231,248,252,253,259,260,266,267,269,270,275,279,280,281,285,286,292,293,299,300,306,307,313,314,316,320,321,325,326,330,331]
noncomputable def qq:Bm:=view pw [0,18]
noncomputable def loose:List zK:=[yZ "_wall", yZ "_tuplegetter", yZ "Match", yZ "_calculate_ratio", yZ "SequenceMatcher", yZ "nlargest", yZ "get_close_matches", yZ "_law_word", yZ "_law_common", yZ "_law_share", yZ "_law_refused", yZ "_law_refusals_right", yZ "_law_asked_right"]
noncomputable def law:OpenLaw:=F6
noncomputable abbrev Xt(s:zc):Bool:=xlAt qq [] s&&recOk law.row.records s
def tk0:Nat:=804
noncomputable def lhs(pg:Bm)(w:As):=((JD (T2 tnF) pg w 4910).bind (fS (T2 tnF) pg w 4910)).bind (λs=>fL (fO fObj) (aa.map s.heap.get?) λl=>some (Ni qq loose (F5 pw.main.body) Xt true s,l,Cj tk0 s.toks))
noncomputable def obsL(d:zK)(w:As):List (Option AR):=(KD d w.params).map λp=>some p.2
noncomputable def rhs(d:zK)(w:As):=some ((expectedOf qq,bltViewBooted,true,true,pinGoodD (drecsOf qq),plainGoodE qq (looseW qq loose),plainGoodD qq loose,wideGood qq,clsGoodW qq loose),obsL d w,true)
noncomputable def xE:{ q:zK->Cv // q (kz (st1 pw 6))=st1 pw 6 }:=⟨λd=>.ClassDef _ _ _ (.Expr (.Constant (.str d) _ _) _::(aD (st1 pw 6)).tail) _ _ _ _ _ _ _,rfl⟩
noncomputable def pwD(p:Bm)(d:zK):Bm:={ p with main:={ p.main with body:=p.main.body.set 6 (xE.1 d) } }
noncomputable def docL:{ cs:List Char // kz (st1 pw 6)=yZ (String.ofList cs) }:=⟨_,rfl⟩
noncomputable def docA:zK:=⟨(docL.1.map Char.toNat).toArray⟩
theorem wZ:docA=kz (st1 pw 6):=(docL.2.trans (LG _)).symm
theorem chk0(w:As):lhs (pwD pw docA) w=rhs docA w:=by kernel_rfl
theorem vW:pwD pw (kz (st1 pw 6))=pw:=by kernel_rfl
theorem chk(w:As):lhs pw w=rhs (kz (st1 pw 6)) w:=by
 have h:=chk0 w
 rw[wZ,vW] at h
 exact h
theorem xH(w:As):rhs (kz (st1 pw 6)) w=some (Nj qq loose,((KK w.params).map λp=>some p.2,true)):=by kernel_rfl
end Mine
end
noncomputable section
open PySem PySem.W PyProof.Rows
namespace Mine
theorem left:LeftO pw qq loose Xt (λs=>(aa.map s.heap.get?,Cj tk0 s.toks)) (λw=>((KK w.params).map λp=>some p.2,true)) 4910 :=
 lm (Ya:=λw=>(KK w.params).map λp=>some p.2) λw=>(chk w).trans (xH w)
end Mine
end
noncomputable section
namespace Mine
section
open Ar
open Ar.E (n v)
set_option linter.defProp false
variable{a b c d e f g h i j k l m:Nat}
def y0m:=ok [] (.le (.s (.mn A B) C) B) [a,b,c]
theorem y0n{a:Int}{b:Nat}(h:0<=a):(a + ↑b * 1).toNat=Dl a+b:=by rw[Ha];exact ok [.Eq (.c B) (.mx (.a (.w 0) (.c A)) (.k 0)),.Eq (.c C) (.mx (.w 0) (.k 0)),.Le (.k 0) (.w 0)] (.eq B (.a C A)) [b,(a+b).toNat,a.toNat] [a] (by kernel_rfl) (Bb _) (Bb _) h
def y0o:=ok [.lt A (n 12),.le B A] (.le B (n 16777216)) [a,b]
def y0s:=ok [] (.le (.mn (n 4) A) (n 1000)) [a]
def y0t:=ok [.lt (n 0) A] (.le (n 1) (.mn (n 4) A)) [a]
def y0u:=ok [.le A (n 4)] (.le (.a A (n 2)) (n 1000)) [a]
def y0v:=ok [.le A (n 4)] (.le (.a A (.a (.a (n 0) (n 1)) (n 1))) (n 1000)) [a]
def y0x:=ok [.le (n 1) A,.eq B (.a A (.a (.a (n 0) (n 1)) (n 1)))] (.le (n 3) B) [a,b]
def y0y:=ok [.le A (n 4),.eq B (.a A (.a (.a (n 0) (n 1)) (n 1)))] (.le B (n 6)) [a,b]
def y15:=ok [.le A B,.le C G] (.lt (.a A C) (.a B (.a G (n 1)))) [a,b,c,d]
def y18:=ok [.lt A B] (.no (.Le (.c B) (.c A))) [a,b]
def y1j:=ok [.le A (n 7)] (.lt A (n 12)) [a]
def y1m:=ok [.le A (n 7),.eq B A] (.le B (n 12)) [a,b]
def y1p:=ok [.le A (n 5)] (.lt A (n 12)) [a]
def y1q:=ok [.le A (n 5)] (.le (.s A (n 1)) (n 5)) [a]
def y1s:=ok [.le A (n 60)] (.le (.a A A) (n 16777216)) [a]
def y1t:=ok [.le A (n 6)] (.le (.a A (n 2)) (n 1000)) [a]
def y1w:=ok [.le (n 776) A,.le (.a (.a A (n 1)) (n 1)) B,.le (.a (.a B (n 1)) (n 1)) C] (.le (n 776) (.a C (n 1))) [a,b,c]
theorem y1x{a b:Nat}(h:776<=a)(q:a<=b):776<=Nat.succ b:=Eg (zn h q)
def y1z:=ok [.le (n 776) A] (.ne A (n 0)) [a]
def y20:=ok [.le (n 776) A] (.ne A (n 540)) [a]
def y21:=ok [.le (n 776) A] (.lt (n 0) A) [a]
def y22:=ok [.le (n 776) A] (.ne A (n 539)) [a]
def y25:=ok [.le A (n 7)] (.le (.a A (n 1)) (n 1000)) [a]
def y26:=ok [.le (n 776) A] (.le (n 776) (.a (.a (.a (.a (.a A (n 1)) (n 1)) (n 1)) (n 1)) (n 1))) [a]
def y28:=ok [.le (n 776) A] (.le (n 776) (.a (.a A (n 1)) B)) [a,b]
def y29:=ok [.le (n 4) A,.eq (.a B (n 1)) (.a A (n 1))] (.le (n 4) B) [a,b]
def y2a:=ok [.le A (n 7),.eq (.a B (n 1)) (.a A (n 1))] (.le B (n 7)) [a,b]
def y2b:=ok [.le (n 776) A] (.le (n 776) (.a (.a (.a (.a (.a A (n 1)) (n 1)) (n 1)) (n 1)) (n 1))) [a]
def y2d:=ok [] (.Eq (.a (.k 1) (.c A)) (.c (.a A (n 1)))) [a]
def y2e:=ok [.le (n 776) A] (.le (n 776) (.a (.a (.a (.a (.a (.a (.a (.a (.a (.a (.a (.a A (n 1)) (n 1)) (n 1)) (n 1)) (n 1)) (n 1)) (n 1)) (n 1)) (n 1)) (n 1)) (n 1)) (n 1))) [a]
def y2j:=ok [.le A (n 10)] (.lt A (n 12)) [a]
def y2l:=ok [.le (.a A (n 1)) B,.lt B C,.le (n 776) A] (.le (n 776) C) [a,b,c]
def y2m:=ok [.le (.a A (n 1)) B,.lt B C,.lt G A] (.lt G C) [a,b,c,d]
def y2n:=ok [.le (.a A (n 1)) B,.le (n 776) A] (.le (n 776) B) [a,b]
def y2q:=ok [.le A (n 7),.eq B A] (.lt B (n 64)) [a,b]
theorem y2u{a:Nat}(h:a<=7):a * (20+1)<=200:=zn (Do _ h) (by decide)
def y2v:=ok [.le A B,.le C G] (.le (.a (.a A (n 1)) C) (.a G (.a B (n 1)))) [a,b,c,d]
def y2y:=ok [.lt (.a A (n 10)) B,.le C (n 3)] (.lt (.a A (.a C (n 1))) B) [a,b,c]
def y2z:=ok [.le A (.a (.m (8+2) B) (n 8)),.le B (n 402)] (.le A (n 16777216)) [a,b]
def y30:=ok [.le A (n 7),.eq B A] (.le B (n 1000)) [a,b]
def y36:=ok [.le A (n 7),.eq B A,.le C B] (.le (.a C (.a (n 0) (n 1))) (n 1000)) [a,b,c]
def y37:=ok [.le A (n 7),.eq B A,.le (.a C (n 1)) B] (.le (.a C (.a (n 0) (n 1))) (n 900)) [a,b,c]
def y3g:=ok [.le A (n 1000),.le B C,.lt C A] (.le B (n 10000)) [a,b,c]
def y4u:=ok [.le A B] (.eq (.mn A B) A) [a,b]
def y4w:=ok [] (.eq (.a (.a (.s (.mn A B) (n 0)) (n 1)) (.s (.mn B B) A)) (.a B (n 1))) [a,b]
def y4x:=ok [.le (.s A B) (n 0),.le B A] (.eq B A) [a,b]
def y4z:=ok [.le A B,.lt C A] (.lt C (.s (.mn A B) (n 0))) [a,b,c]
def y50:=ok [.le (.m 2 C) (.a A B),.lt (.a A B) (.m 2 (.a C (n 1))),.lt A B] (.le A C) [a,b,((a+b) / 2)] [] (by kernel_rfl) (Bc _ 2) (Aa _ (by decide))
def y52:=ok [.eq A B] (.lt A (.a B (n 1))) [a,b]
def y53:=ok [.no (.lt A B),.no (.eq A B)] (.no (.lt A (.a B (n 1)))) [a,b]
def y54:=ok [.le (.m 2 C) (.a A B),.lt (.a A B) (.m 2 (.a C (n 1))),.lt A B] (.lt C B) [a,b,((a+b) / 2)] [] (by kernel_rfl) (Bc _ 2) (Aa _ (by decide))
def y55:=ok [.le (.m 2 H) (.a B A),.lt (.a B A) (.m 2 (.a H (n 1))),.le (.s A B) (.a C (n 1)),.eq H G] (.le (.s A (.a G (n 1))) C) [a,b,c,d,((b+a) / 2)] [] (by kernel_rfl) (Bc _ 2) (Aa _ (by decide))
def y56:=ok [.no (.lt A B),.no (.eq A B),.lt (.s A (n 1)) C] (.lt (.s A (.a B (n 1))) (.s (.mn C C) B)) [a,b,c]
def y57:=ok [.le (.m 2 H) (.a B A),.lt (.a B A) (.m 2 (.a H (n 1))),.le (.s A B) (.a C (n 1)),.eq H G] (.le (.s G B) C) [a,b,c,d,((b+a) / 2)] [] (by kernel_rfl) (Bc _ 2) (Aa _ (by decide))
def y58:=ok [.no (.lt A B),.no (.eq A B)] (.eq (.a B (.s A (.a B (n 1)))) (.s A (n 1))) [a,b]
def y59:=ok [.no (.lt (.s A (n 1)) B)] (.no (.lt (.s A (.a C (n 1))) (.s (.mn B B) C))) [a,b,c]
def y5e:=ok [.le A B,.le C A] (.le (.a C (.s A C)) B) [a,b,c]
def y5g:=ok [.le (.a A B) C,.lt (n 0) B] (.le (.a (.a A (n 1)) (.s B (n 1))) C) [a,b,c]
def y5h:=ok [.le A B,.le C A] (.le (.a C (.s A C)) B) [a,b,c]
def y5i:=ok [.no (.lt A B),.no (.eq A B)] (.le B (.s A (n 1))) [a,b]
def y5j:=ok [.le A B,.lt C (.a B (n 1)),.lt G A] (.lt (.s C (n 1)) B) [a,b,c,d]
def y5k:=ok [.lt A B,.no (.lt A C)] (.no (.lt B C)) [a,b,c]
def y5l:=ok [.lt A B,.no (.lt A C)] (.no (.eq B C)) [a,b,c]
def y5m:=ok [.lt A B,.eq A C] (.le C (.s B (n 1))) [a,b,c]
def y5n:=ok [.lt A B,.lt B (.a C (n 1))] (.lt (.s B (n 1)) C) [a,b,c]
def y5o:=ok [.lt A B,.no (.lt A C),.no (.eq A C)] (.lt (.s A (n 1)) (.s B (n 1))) [a,b,c]
def y5p:=ok [.lt A (.a B (n 1)),.no (.lt A C),.no (.eq A C)] (.lt (.s A (n 1)) B) [a,b,c]
def y5r:=ok [.le A (n 7),.le (n 8) B,.le B A] .f [a,b]
def y5w:=ok [.eq A (n 4)] (.le (.a A (n 1)) (n 7)) [a]
def y5x:=ok [.eq A (n 4)] (.no (.le (.a A (n 1)) (n 4))) [a]
def y5z:=ok [.no (.eq A (n 4)),.le A (n 4)] (.le (.a A (n 1)) (n 4)) [a]
def y60:=ok [.no (.le A (n 4))] (.no (.le (.a A (n 1)) (n 4))) [a]
def y63:=ok [.le A (.mn B C)] (.le A B) [a,b,c]
def y64:=ok [.lt A B,.le C A,.le B (n 7)] (.le C (n 6)) [a,b,c]
def y68:=ok [.le (.a A (n 1)) A] (.eq B (.a C (n 1))) [a,b,c]
def y6a:=ok [.lt A (.a B (n 1)),.lt B A] (.eq C (.a G (n 1))) [a,b,c,d]
def y6d:=ok [.le A (n 7),.eq B A] (.le B (n 16777216)) [a,b]
theorem y6h{a b c:Nat}:a<=b->c<a->c<=b:=ok [.le A B,.lt C A] (.le C B) [a,b,c]
theorem y6i{a b c:Nat}:a<=b->c<a->c+1<=b+1:=ok [.le A B,.lt C A] (.le (.a C (n 1)) (.a B (n 1))) [a,b,c]
def y6k:=ok [.le A (n 1000),.le B (n 1000)] (.le (.a A B) (n 16777216)) [a,b]
def y6v:=ok [.le A (n 1000)] (.le (.a (n 15) A) (n 16777216)) [a]
def y6w:=ok [.le A (n 1000)] (.le (.a (n 30) A) (n 16777216)) [a]
def y7a:=ok [.lt (.a (.a A (.a B (n 1))) (n 10)) C] (.lt A C) [a,b,c]
def y7c:=ok [.lt A (n 12),.eq (.mn A B) C] (.lt C (n 12)) [a,b,c]
def y7e:=ok [.lt A B] (.Eq (.s (.c B) (.c A)) (.c (.s B A))) [a,b]
def y7h:=ok [.lt (.s A (.a B (n 1))) C] (.or (.eq C (.s A B)) (.lt (.s A B) C)) [a,b,c]
def y7i:=ok [.eq (.mn A B) C,.eq (.s C G) H] (.le H A) [a,b,c,d,e]
def y7j:=ok [.eq (.mn A B) C,.eq (.s C G) H] (.le H B) [a,b,c,d,e]
def y7k:=ok [.eq (.mn A B) C,.eq (.s C G) H] (.Le (.k (-1000)) (.a (.s (.c A) (.c H)) (.k 1))) [a,b,c,d,e]
def y7l:=ok [.lt A (n 12)] (.Le (.a (.s (.c A) (.c B)) (.k 1)) (.k 1000)) [a,b]
def y7m:=ok [.Eq (.c I) (.mx (.s (.a (.s (.c A) (.c H)) (.k 1)) (.k 0)) (.k 0)),.eq (.mn A B) C,.eq (.s C G) H] (.eq I (.a (.s A H) (n 1))) [a,b,c,d,e,(Dl (((((a:Nat):Int) - ((e:Nat):Int))+(1:Int)) - (0:Int)))] [] (by kernel_rfl) (Bb (((((a:Nat):Int) - ((e:Nat):Int))+(1:Int)) - (0:Int)))
def y7n:=ok [.eq (.mn A B) C,.eq (.s C G) H] (.Le (.k (-1000)) (.a (.s (.c B) (.c H)) (.k 1))) [a,b,c,d,e]
def y7o:=ok [.Eq (.c I) (.mx (.s (.a (.s (.c B) (.c H)) (.k 1)) (.k 0)) (.k 0)),.eq (.mn A B) C,.eq (.s C G) H] (.eq I (.a (.s B H) (n 1))) [a,b,c,d,e,(Dl (((((b:Nat):Int) - ((e:Nat):Int))+(1:Int)) - (0:Int)))] [] (by kernel_rfl) (Bb (((((b:Nat):Int) - ((e:Nat):Int))+(1:Int)) - (0:Int)))
def y7p:=ok [.eq (.mn A B) C,.eq (.s C G) H,.lt I (.a (.s A H) (n 1))] (.le (.a I H) A) [a,b,c,d,e,f]
def y7q:=ok [.eq (.mn A B) C,.eq (.s C G) H,.lt I (.a (.s B H) (n 1))] (.le (.a I H) B) [a,b,c,d,e,f]
def y7r:=ok [.lt A (n 12),.le (.a B C) A] (.lt B (n 12)) [a,b,c]
def y7s:=ok [.lt A (n 12),.le (.a B C) A] (.lt (.a B C) (n 12)) [a,b,c]
def y7t:=ok [.lt (.a (.a A (.m 3 (.a B (n 1)))) (n 10)) C] (.lt (.a A (n 3)) C) [a,b,c]
def y7u:=ok [.lt (.a (.a A (.a B (n 1))) (n 10)) C] (.lt (.a (.a (.a A (n 1)) B) (n 10)) C) [a,b,c]
def y7v:=ok [.lt (.a (.a A (.m 3 (.a B (n 1)))) (n 10)) C] (.lt (.a (.a (.a A (n 3)) (.m 3 B)) (n 10)) C) [a,b,c]
def y7w:=ok [.lt A (.a B (n 1)),.lt C G,.eq (.s G C) H,.le (.a I H) A] (.lt (.mn I A) B) [a,b,c,d,e,f]
def y7x:=ok [.lt A (.a B (n 1)),.eq (.mn A C) G,.lt H G,.eq (.s G H) I] (.lt (.s A (.a J I)) B) [a,b,c,d,e,f,g]
def y7z:=ok [.lt (n 0) A] (.lt (.s B B) A) [a,b]
def y80:=ok [.eq A B,.le A C,.le A G] (.le (.m 2 B) (.a C G)) [a,b,c,d]
def y82:=ok [.le A (.a B (n 1)),.le (.a (.a B (n 1)) (n 1)) C] (.le A C) [a,b,c]
def y84:=ok [.lt A (n 12),.lt B (n 12)] (.Le (.a (.c A) (.c B)) (.k 1000)) [a,b]
def y86:=ok [.le A B] (.le A (.a (.a B (n 1)) (n 1))) [a,b]
def y87:=ok [.lt (.a A (n 30)) B,.lt C (n 12)] (.lt (.a (.a (.a A (n 1)) (.a C (n 1))) (n 10)) B) [a,b,c]
def y88:=ok [.lt (.a A (n 60)) B,.lt C (n 12)] (.lt (.a (.a (.a A (n 3)) (.m 3 (.a C (n 1)))) (n 10)) B) [a,b,c]
def y89:=ok [.lt A (n 12),.lt B (n 12),.le (.m 2 C) (.a A B)] (.Le (.c C) (.k 1000)) [a,b,c]
def y8c:=ok [.no (.Lt (.k 0) (.a (.c A) (.c B)))] (.Eq (.a (.c A) (.c B)) (.k 0)) [a,b]
end
end Mine
end
open PySem PySem.W PySem.W.X PySem.Calls PyProof.Rows
namespace Mine
abbrev VP:=Value->zc->Prop
abbrev FP:=Nk->zc->Prop
abbrev UP:=Unit->zc->Prop
abbrev BP:=Bool->zc->Prop
abbrev LP:=List Value->zc->Prop
theorem aj{α:Type}{a b:α}{l:List α}(h:a∈l):a∈b::l:=List.Mem.tail b h
abbrev LV:=List (zK×Value)
abbrev LO:=List (zh×AR)
noncomputable section
variable{prog:Bm}{w:As}{A:AU}{E Q:VP}{hb h h':AJ}{L t u fa C dx F d I P mp it D res sj L' nn dj d2 dd mbl pd L0 c' dw Da:zh}{M:HL}{s:zc}{env e0:II}{K:Ht}{fd:BD}{p' tpos p spos py p1 p2 p3:Ej}{rest body orelse:List Cv}{value test target:Expr}{name txt qual:zK}{od oj oL o2 oc oi oa oh:AR}{first scv:List Value}{trees:List (Bool×LH Value)}{args:M5}{fp wr:List zh}{i x1 j alo ahi blo bhi m nq na nr np ep cf:Nat}{Wt:Nat->AJ->Prop}{elts:List Expr}{key Jw va vb mb fc sp cut wv cv pm ctv:Value}{Pt:Nat->Array Value->Prop}{Mid:Nat->zh->AJ->Prop}{α:Type}{g:UInt64->Bool}{rk:UInt64->List zK->Nat}{R:Cm->zc->Prop}{κ:L9}{la lb:List zK}{ta tc td ti tj t1 t2 t3 tk tn ts tf tg:AQ}{kvj:List (Int×Value)}{vsc ps:Array Value}{after:Int}{rkv:Value->Nat}{cl:List (zK×zh)}{d1:Hu}{es:Array (Int×Value)}{fs:List (UInt64×AQ)}
noncomputable abbrev wh(s:zc)(h:AJ):zc:={ s with heap:=h }
noncomputable abbrev wht(s:zc)(h:AJ)(t:AQ):zc:={ s with heap:=h,toks:=t }
noncomputable abbrev wt(s:zc)(t:AQ):zc:={ s with toks:=t }
section
variable(M:HL)(A:AU)(env:II)(E:VP)
abbrev sU(rest:List Cv)(Q:FP){α:Type}(_:α)(s:zc):Prop:=y7 M A (z5 rest env) Q E s
abbrev uR(x:zK)(rest:List Cv)(Q:FP)(v:Value)(s:zc):Prop:=y7 M A (Ff env x v) (sU M A env E rest Q) E s
abbrev kSetB(attr:zK)(v:Value)(rest:List Cv)(Q:FP)(ov:Value)(s:zc):Prop:=y7 M A (setAttr ov attr v) (sU M A env E rest Q) E s
abbrev kSetA(o:Expr)(attr:zK)(rest:List Cv)(Q:FP)(v:Value)(s:zc):Prop:=y7 M A (Ax o env) (kSetB M A env E attr v rest Q) E s
abbrev yp(t:Expr)(rest:List Cv)(Q:FP)(v:Value){α:Type}(_:α)(s:zc):Prop:=y7 M A (BR t env v) (sU M A env E rest Q) E s
abbrev wF(t:Expr)(rest:List Cv)(Q:FP)(v:Value)(s:zc):Prop:=y7 M A (BR t env v) (sU M A env E rest Q) E s
abbrev kTwo(t u:Expr)(rest:List Cv)(Q:FP)(v:Value)(s:zc):Prop:=y7 M A (BR t env v) (yp M A env E u rest Q v) E s
abbrev yo(t u:Expr)(rest:List Cv)(Q:FP)(v:Value){α:Type}(_:α)(s:zc):Prop:=y7 M A (BR t env v) (yp M A env E u rest Q v) E s
abbrev yn(t u z:Expr)(rest:List Cv)(Q:FP)(v:Value)(s:zc):Prop:=y7 M A (BR t env v) (yo M A env E u z rest Q v) E s
abbrev kAugB(x:zK)(op:J4)(old:Value)(rest:List Cv)(Q:FP)(v:Value)(s:zc):Prop:=y7 M A (inplaceOp op old v) (uR M A env E x rest Q) E s
abbrev kAug(x:zK)(op:J4)(value:Expr)(rest:List Cv)(Q:FP)(old:Value)(s:zc):Prop:=y7 M A (Ax value env) (kAugB M A env E x op old rest Q) E s
abbrev kExpr(rest:List Cv)(Q:FP)(v:Value)(s:zc):Prop:=match v with|.ref _=>False|_=>y7 M A (z5 rest env) Q E s
abbrev yt(rest:List Cv)(Q:FP)(f:Nk)(s:zc):Prop:=match f with|.next=>y7 M A (z5 rest env) Q E s|f=>Q f s
structure kIf(body orelse rest:List Cv)(Q:FP)(b:Bool)(s:zc):Prop where
 h1:b=true->y7 M A (z5 body env) (yt M A env E rest Q) E s
 h2:b=false->y7 M A (z5 orelse env) (yt M A env E rest Q) E s
abbrev kRet(Q:FP)(v:Value)(s:zc):Prop:=Q (.ret v) s
abbrev wE(pos:Ej)(args:List Expr)(Q:VP)(f:Value)(s:zc):Prop:=y7 M A (DW pos f [] (Cn pos (AM args env)) []) Q E s
abbrev yu(pos:Ej)(args:List Expr)(Q:VP)(fx:Value×List Value)(s:zc):Prop:=y7 M A (DW pos fx.1 fx.2 (Cn pos (AM args env)) []) Q E s
abbrev kMeth(name:zK)(pl:LH Bool)(pos:Ej)(args:List Expr)(Q:VP)(ov:Value)(s:zc):Prop:=y7 M A (HM ov name pl) (yu M A env E pos args Q) E s
abbrev yw(Q:LP)(v:Value)(vs:List Value)(s:zc):Prop:=Q (v::vs) s
abbrev wG(pos:Ej)(rest:List Expr)(Q:LP)(v:Value)(s:zc):Prop:=y7 M A (CH (Cn pos (AM rest env))) (yw Q v) E s
abbrev kBinB(op:J4)(a:Value)(Q:VP)(b:Value)(s:zc):Prop:=y7 M A (EQ op a b) Q E s
abbrev kBin(op:J4)(r:Expr)(Q:VP)(a:Value)(s:zc):Prop:=y7 M A (Ax r env) (kBinB M A E op a Q) E s
abbrev kCmpB(op:CmpOp)(a:Value)(Q:VP)(b:Value)(s:zc):Prop:=y7 M A (AK op a b) Q E s
abbrev kCmp(op:CmpOp)(r:Expr)(Q:VP)(a:Value)(s:zc):Prop:=y7 M A (Ax r env) (kCmpB M A E op a Q) E s
abbrev uQ(Q:BP)(c:Value)(s:zc):Prop:=y7 M A (truthy c) Q E s
abbrev kNot(Q:BP)(c:Bool)(s:zc):Prop:=Q (!c) s
structure kAnd(rest:List Expr)(pos:Ej)(whole:LH Value)(Q:BP)(c:Bool)(s:zc):Prop where
 h1:c=true->y7 M A (isTrue (.BoolOp .And rest pos) env whole) Q E s
 h2:c=false->Q false s
abbrev kFn(R:Cm->zc->Prop)(f:Nk)(s:zc):Prop:=R (.ok (.ret (match f with|.ret v=>v|_=>.none))) s
abbrev kLv(R:Cm->zc->Prop)(e:Value)(s:zc):Prop:=y7 M A (leaving env e) (λZ s'=>R (.error e) s') (λe' s'=>R (.error e') s') s
abbrev kRes(Q:VP)(r:Cm)(s:zc):Prop:=match r with|.ok (.ret v)=>Q v s|.ok _=>False|.error e=>E e s
abbrev kBi(id:String)(first:List Value)(Q:VP)(vs:List Value)(s:zc):Prop:=y7 M A (call (.builtin id) (first++vs)) Q E s
abbrev kTy(T:String)(first:List Value)(Q:VP)(vs:List Value)(s:zc):Prop:=y7 M A (call (.type T) (first++vs)) Q E s
abbrev kDot(name:zK)(Q:VP)(ov:Value)(s:zc):Prop:=y7 M A (Hb ov name true) Q E s
abbrev kOrd(ts:List (Value->LH Unit))(xs:List Value)(Q:UP)(_:Unit)(s:zc):Prop:=y7 M A (Cf ts xs) Q E s
abbrev sT(name:zK)(v:Value)(Q:UP)(ov:Value)(s:zc):Prop:=y7 M A (setAttr ov name v) Q E s
abbrev yq(ov v:Value)(Q:UP)(iv:Value)(s:zc):Prop:=y7 M A (setItem ov iv v) Q E s
abbrev yr(i:Expr)(v:Value)(Q:UP)(ov:Value)(s:zc):Prop:=y7 M A (Ax i env) (yq M A E ov v Q) E s
abbrev kGetB(T:String)(o:Value)(Q:VP)(i:Value)(s:zc):Prop:=s.TypeIs o T/\y7 M A (Dg o i) Q E s
abbrev kGet(T:String)(e:Expr)(Q:VP)(o:Value)(s:zc):Prop:=y7 M A (Ax e env) (kGetB M A E T o Q) E s
end
theorem aQ{α:Type}{Q:α->zc->Prop}{c:Prop}[Decidable c]{a b:LH α}(h:¬ c)(k:y7 M A b Q E s):y7 M A (if c then a else b) Q E s:=by rw[if_neg h];exact k
theorem bW{α:Type}{Q:α->zc->Prop}{c:Prop}[Decidable c]{a b:LH α}(h:c)(k:y7 M A a Q E s):y7 M A (if c then a else b) Q E s:=by rw[if_pos h];exact k
theorem tL{b:Bool}(h:b=false):¬ b=true:=h▸zR
theorem args_cons{e:Expr}{rest:List Expr}{pos:Ej}{Q:LP}(h:y7 M A (Ax e env) (wG M A env E pos rest Q) E s)
  (he:AM (e::rest) env=(false,Ax e env)::AM rest env:=by rfl):y7 M A (CH (Cn pos (AM (e::rest) env))) Q E s:=M6 h he
theorem wpAny_BinOp{l op r pos}{Q:VP}(h:y7 M A (Ax l env) (kBin M A env E op r Q) E s):y7 M A (Ax (.BinOp l op r pos) env) Q E s:=PySem.wpAny_BinOp h
theorem wpAny_isTrue_Compare1{l op r pos whole}{Q:BP}(h:y7 M A (Ax l env) (kCmp M A env E op r (uQ M A E Q)) E s)
  (hm:JE op r=false:=by with_unfolding_all rfl):y7 M A (isTrue (.Compare l [op] [r] pos) env whole) Q E s:=PySem.wpAny_isTrue_Compare1 h hm
theorem wpAny_Compare1{l op r pos}{Q:VP}(h:y7 M A (Ax l env) (kCmp M A env E op r Q) E s)
  (hm:JE op r=false:=by with_unfolding_all rfl):y7 M A (Ax (.Compare l [op] [r] pos) env) Q E s:=PySem.wpAny_Compare1 h hm
theorem isTrue_not{x pos whole}{Q:BP}(h:y7 M A (isTrue x env (Ax x env)) (kNot Q) E s):y7 M A (isTrue (.UnaryOp .Not x pos) env whole) Q E s:=MV h
theorem wpAny_Constant_int{i k pos}{Q:VP}(h:Q (.int i s.toks) (wt s (s.toks+1))):y7 M A (Ax (.Constant (.int i) k pos) env) Q E s:=PySem.wpAny_Constant_int h
theorem wpAny_Constant_str{x:zK}{k pos}{Q:VP}(h:Q (.str x s.toks) (wt s (s.toks+1))):y7 M A (Ax (.Constant (.str x) k pos) env) Q E s:=PySem.wpAny_Constant_str h
section
variable{a b:Int}{t u:AQ}
theorem P.add_int(h:Q (.int (a+b) s.toks) (wt s (s.toks+1))):y7 (y6 prog w) A (EQ .Add (.int a t) (.int b u)) Q E s:=PySem.P.add_int h
theorem P.sub_int(h:Q (.int (a - b) s.toks) (wt s (s.toks+1))):y7 (y6 prog w) A (EQ .Sub (.int a t) (.int b u)) Q E s:=PySem.P.sub_int h
end
def bL(oL:AR)(l:LV):Prop :=
 Ex3 λ(es:Array CV) (ep:Nat) (m:zK->Option Value)=>An5 (oL.data=.dict es ep) (StrKeys es) ((∀ name,nsFind es name=m name)) ((∀ p∈l,m p.1=some p.2)) ((l.map (·.1)).Nodup)
def Fm(h:AJ)(L:zh)(l:LV):Prop:=∃ oL,h.get? L=some oL/\bL oL l
theorem Fm.lt{h:AJ}{L:zh}{l:LV}(F:Fm h L l):L<h.objs.size:=by obtain⟨_,e,_⟩:=F;exact AL e
theorem Fm.ns{h:AJ}{L:zh}{l:LV}(F:Fm h L l):∃ m,An3 (h.Ns L m) ((∀ p∈l,m p.1=some p.2)) ((l.map (·.1)).Nodup) :=
 by obtain⟨oL,e,es,ep,m,a,b,c,d,n⟩:=F;exact⟨m,⟨oL,es,ep,e,a,b,c⟩,d,n⟩
theorem Fm.of_ns{h:AJ}{L:zh}{m:zK->Option Value}{l:LV}(hn:h.Ns L m)(hl:∀ p∈l,m p.1=some p.2)(nd:(l.map (·.1)).Nodup):Fm h L l :=
 by obtain⟨o,es,ep,e,a,b,c⟩:=hn;exact⟨o,e,es,ep,m,a,b,c,hl,nd⟩
inductive um:LV->zK->Value->LV->Prop
 | here {x:zK}{u v:Value}{l:LV}:um ((x,u)::l) x v ((x,v)::l)
 | there {p:zK×Value}{x:zK}{v:Value}{l l':LV}:um l x v l'->um (p::l) x v (p::l')
theorem um.keys{l l':LV}{x:zK}{v:Value}(h:um l x v l'):l'.map (·.1)=l.map (·.1)/\x∈l.map (·.1):=by
 induction h with
 | here=>exact⟨rfl,List.mem_cons_self⟩
 | there _ ih=>exact⟨by rw[AD,AD,ih.1],El _ ih.2⟩
theorem um.ok{l l':LV}{x:zK}{v:Value}{m:zK->Option Value}(h:um l x v l')(hl:∀ p∈l,m p.1=some p.2)(nd:(l.map (·.1)).Nodup) :
  ∀ p∈l',(if p.1=x then some v else m p.1)=some p.2:=by
 induction h with
 | here =>
  intro p hp
  rcases za.mp hp with rfl|hp
  ·rw[if_pos rfl]
  ·have n:=(zu.mp nd).1
   rw[if_neg λe=>n (by rw[<- show p.1=_ from e];exact zd.mpr ⟨p,hp,rfl⟩)]
   exact hl p (aj hp)
 | there h ih =>
  intro p hp
  have n:=zu.mp nd
  rcases za.mp hp with rfl|hp
  ·rw[if_neg λe=>n.1 (by show p.1∈_;rw[show p.1=_ from e];exact h.keys.2)]
   exact hl p (.head _)
  ·exact ih (λp hp=>hl p (aj hp)) n.2 p hp
def bU(l:LV)(x:zK)(v:Value)(l':LV):Prop:=um l x v l'\/((l.map (·.1)).contains x=false/\l'=(x,v)::l)
theorem bU.old{l l':LV}{x:zK}{v:Value}(h:um l x v l'):bU l x v l':=.inl h
theorem bU.new{l:LV}{x:zK}{v:Value}(h:(l.map (·.1)).contains x=false):bU l x v ((x,v)::l):=.inr ⟨h,rfl⟩
theorem bU.fm{h':AJ}{L:zh}{l l':LV}{x:zK}{v:Value}{m:zK->Option Value}(st:bU l x v l')(hn:h'.Ns L (λy=>if y=x then some v else m y))
  (hl:∀ p∈l,m p.1=some p.2) (nd:(l.map (·.1)).Nodup):Fm h' L l':=by
 rcases st with s|⟨c,rfl⟩
 ·exact .of_ns hn (s.ok hl nd) (by rw[s.keys.1];exact nd)
 ·have hx:x∉l.map (·.1):=λq=>by rw[AZ.mpr q] at c;nomatch c
  refine .of_ns hn (λp hp=>?_) (zu.mpr ⟨hx,nd⟩)
  rcases za.mp hp with rfl|hp
  ·exact if_pos rfl
  ·have:p.1≠x:=λe=>hx (e▸zd.mpr ⟨p,hp,rfl⟩)
   rw[if_neg this]
   exact hl p hp
structure St(hb:AJ)(tabs:List zh)(L:zh)(l:LV)(T:LO)(h:AJ):Prop where
 fm:Fm h L l
 lnew:hb.objs.size<=L
 keep:∀ b o,hb.get? b=some o->b∉tabs->h.get? b=some o
 tab:∀ t∈tabs,Ex2 λps more=>An3 (hb.get? t=some (Em ps)) (h.get? t=some (Em (ps++more))) (C7 (ps++more).toList)
 obj:∀ p∈T,h.get? p.1=some p.2
 new:∀ p∈T,hb.objs.size<=p.1
 nd:(L::T.map (·.1)).Nodup
section
variable{tabs:List zh}{l l':LV}{T T':LO}
theorem dC{h:AJ}{a:zh}{o:AR}(e:h.get? a=some o):a<h.objs.size:=AL e
theorem St.old(S:St hb tabs L l T h){b:zh}{o:AR}(e:hb.get? b=some o)(hn:b∉tabs):h.get? b=some o:=S.keep b o e hn
theorem St.oldNeL(S:St hb tabs L l T h){b:zh}{o:AR}(e:hb.get? b=some o):b≠L:=Ag (zN (dC e) S.lnew)
theorem St.tabLt(S:St hb tabs L l T h){t:zh}(ht:t∈tabs):t<hb.objs.size:=by
 obtain⟨ps,more,e,_⟩:=S.tab t ht;exact dC e
theorem St.sub(S:St hb tabs L l T h)(hs:T'.Sublist T):St hb tabs L l T' h :=
 ⟨S.fm,S.lnew,S.keep,S.tab,λp hp=>S.obj p (hs.subset hp),λp hp=>S.new p (hs.subset hp),(S.nd.sublist (.cons_cons L (hs.map _)))⟩
theorem St.get(S:St hb tabs L l T h)(i:Nat){a:zh}{o:AR}(hi:T[i]? = some (a,o)):h.get? a=some o:=S.obj (a,o) (zp hi)
theorem St.lt(S:St hb tabs L l T h){p:zh×AR}(hp:p∈T):p.1<h.objs.size:=dC (S.obj p hp)
theorem St.push(S:St hb tabs L l T h)(o:AR)(hf:o.isFreed=false:=by rfl):St hb tabs L l ((h.objs.size,o)::T) (h.push o):=by
 have hsz:hb.objs.size<=h.objs.size:=Ak (Bv S.lnew S.fm.lt)
 obtain⟨oL,hL,r⟩:=S.fm
 refine⟨⟨oL,zC _ hL,r⟩,S.lnew,λb o' e hn=>zC _ (S.keep b o' e hn),λt ht=>?_,λp hp=>?_,λp hp=>?_,?_⟩
 ·obtain⟨ps,more,e1,e2,e3⟩:=S.tab t ht
  exact⟨ps,more,e1,zC _ e2,e3⟩
 ·rcases za.mp hp with rfl|hp
  ·exact zU _ hf
  ·exact zC _ (S.obj p hp)
 ·rcases za.mp hp with rfl|hp
  ·exact hsz
  ·exact S.new p hp
 ·have hL':=AL hL
  have nd:=zu.mp S.nd
  refine zu.mpr ⟨λhm=>?_,zu.mpr ⟨λhm=>?_,nd.2⟩⟩
  ·rcases za.mp hm with q|q
   ·exact absurd hL' (Bw.mpr (Gp q.symm))
   ·exact nd.1 q
  ·obtain⟨p,hp,e⟩:=zd.mp hm
   exact absurd (S.lt hp) (Bw.mpr (Gp e.symm))
theorem St.setNs(S:St hb tabs L l T h)(hn:Fm h' L l')(hs:BZ L h h'):St hb tabs L l' T h':=by
 have nd:=zu.mp S.nd
 refine⟨hn,S.lnew,λb o e hn'=>(hs.2 b (S.oldNeL e)).trans (S.keep b o e hn'),λt ht=>?_,λp hp=>?_,S.new,S.nd⟩
 ·obtain⟨ps,more,e1,e2,e3⟩:=S.tab t ht
  exact⟨ps,more,e1,(hs.2 t (S.oldNeL e1)).trans e2,e3⟩
 ·exact (hs.2 p.1 (λq=>nd.1 (q▸zd.mpr ⟨p,hp,rfl⟩))).trans (S.obj p hp)
theorem St.enter(S:St hb tabs L l T h){L':zh}(hL:L'=h.objs.size)(hn:Fm h' L' l')(hk:∀ b o,h.get? b=some o->h'.get? b=some o) :
  ∃ oL,bL oL l/\St hb tabs L' l' ((L,oL)::T) h':=by
 obtain⟨oL,e,r⟩:=S.fm
 have hLs:=AL e
 refine⟨oL,r,hn,?_,λb o e hn'=>hk b o (S.keep b o e hn'),λt ht=>?_,λp hp=>?_,λp hp=>?_,?_⟩
 ·rw[hL];exact Ak (Bv S.lnew hLs)
 ·obtain⟨ps,more,e1,e2,e3⟩:=S.tab t ht
  exact⟨ps,more,e1,hk _ _ e2,e3⟩
 ·rcases za.mp hp with rfl|hp
  ·exact hk _ _ e
  ·exact hk _ _ (S.obj p hp)
 ·rcases za.mp hp with rfl|hp
  ·exact S.lnew
  ·exact S.new p hp
 ·refine zu.mpr ⟨λhm=>?_,S.nd⟩
  rcases za.mp hm with q|q
  ·exact absurd hLs (Bw.mpr (Gp (hL.symm.trans q)))
  ·obtain⟨p,hp,e⟩:=zd.mp q
   exact absurd (S.lt hp) (Bw.mpr (Gp (hL.symm.trans e.symm)))
theorem St.leave{L':zh}{oL:AR}(S:St hb tabs L' l' T' h')(i:Nat)(hi:T'[i]? = some (L,oL))(r:bL oL l):St hb tabs L l (T'.eraseIdx i) h':=by
 have hm:=zp hi
 have hsub:(T'.eraseIdx i).Sublist T':=List.eraseIdx_sublist T' i
 refine⟨⟨oL,S.get i hi,r⟩,S.new _ hm,S.keep,S.tab,λp hp=>S.obj p (hsub.subset hp),λp hp=>S.new p (hsub.subset hp),?_⟩
 have nd:=(zu.mp S.nd).2
 refine zu.mpr ⟨λhm'=>?_,nd.sublist (hsub.map _)⟩
 obtain⟨p,hp,e⟩:=zd.mp hm'
 obtain⟨j,hj,hji⟩:=List.mem_eraseIdx_iff_getElem?.mp hp
 have h1:(T'.map (·.1))[i]? = some L:=by rw[zE,hi];rfl
 have h2:(T'.map (·.1))[j]? = some L:=by rw[zE,hji];exact congrArg some e
 exact hj ((J5 (zY.mp h2).1 nd).mp (h2.trans h1.symm))
end
structure Gd(K:Ht)(tabs:List zh)(hb:AJ):Prop where
 k:K.In hb
 mg:∃ mg,hb.Ns Bp mg
 bl:∃ mb,hb.Ns GC mb/\∀ x:zK,x ≠ "__name__" -> mb x=Bn x
 lim:hb.NoLimit
 nb:B8 hb
 n1:Bp∉tabs
 n2:GC∉tabs
 n3:cStatics∉tabs
 nt:(K.all λp=>!tabs.contains p.1)=true
noncomputable def fZ:List zK->Bool
 | []=>true
 | a::l=>!l.contains a&&fZ l
theorem crO{K:Ht}{cd:Value}{q:zK}(e:codeIn K cd q=true)(h:AJ)(k:K.In h):h.CodeRec cd q:=codeRec_of k e
theorem sH{a:zK}{l:List zK}:fZ (a::l)=(!l.contains a&&fZ l):=rfl
theorem dG:∀ {l:List zK},fZ l=true->l.Nodup:=by
 intro l
 induction l with
 | nil =>
  intro Z
  exact C9
 | cons a l ih =>
  intro h
  obtain⟨h1,h2⟩:=zr.mp h
  refine zu.mpr ⟨λq=>?_,ih h2⟩
  rw[AZ.mpr q] at h1
  cases h1
theorem jG:∀ (l:LV),(l.map (·.1)).Nodup->∀ {p:zK×Value},p∈l->l.reverse.lookup p.1=some p.2:=by
 intro l
 induction l with
 | nil =>
  intro Z Z hp
  cases hp
 | cons q r ih =>
  intro hn p hp
  have n:=zu.mp hn
  rw[List.reverse_cons,List.lookup_append]
  rcases za.mp hp with rfl|hp
  ·have:r.reverse.lookup p.1=none:=by
    rw[List.lookup_eq_none_iff]
    intro z hz
    have hz:=FN.mp hz
    have:z.1≠p.1:=λe=>n.1 (by show p.1∈_;rw[<- e];exact zd.mpr ⟨z,hz,rfl⟩)
    simpa using this.symm
   rw[this]
   simp[Li]
  ·rw[ih n.2 hp];rfl
section
variable{tabs:List zh}{l l':LV}{T:LO}{x:zK}{v:Value}{pos:Ej}
theorem St.oldNs(S:St hb tabs L l T s.heap){a:zh}{m:zK->Option Value}(hn:hb.Ns a m)(ha:a∉tabs):s.heap.Ns a m :=
 by obtain⟨o,es,ep,e,r⟩:=hn;exact⟨o,es,ep,S.old e ha,r⟩
theorem St.nb(S:St hb tabs L l T s.heap)(G:Gd K tabs hb):B8 s.heap:=by obtain⟨mc,a,b⟩:=G.nb;exact⟨mc,S.oldNs a G.n3,b⟩
theorem St.lim(S:St hb tabs L l T s.heap)(G:Gd K tabs hb):s.heap.NoLimit:=by obtain⟨mc,a,b⟩:=G.lim;exact⟨mc,S.oldNs a G.n3,b⟩
noncomputable def oz (sc:DB) (k:Option ER) (x:zK):Bool:=sc.kind==.function&&(k==some .local&&!(x==("__debug__" : zK)))
noncomputable def wP (sc:DB) (k:Option ER) (x:zK) (g:zh):Bool:=sc.kind==.function&&(k==some .globalImplicit&&(!(x==("__debug__" : zK))&&g==Bp))
noncomputable def xe (K:Ht) (sc:DB) (k:Option ER) (x:zK) (g b:zh):Bool:=wP sc k x g&&(!(x==("__name__" : zK))&&(b==GC&&match Nl K Bp x with|some none=>true|_=>false))
theorem kf {sc:DB}{k:Option ER}{x:zK} (h:oz sc k x=true):sc.kind=.function/\k=some .local/\(x==("__debug__" : zK))=false:=by
 obtain⟨a,h⟩:=zr.mp h
 obtain⟨b,h⟩:=zr.mp h
 exact⟨Aw a,Aw b,by simpa using h⟩
noncomputable def sQ(sc:DB)(k:Option ER):Bool:=sc.kind==.function&&k==some .local
theorem qC{sc:DB}{k:Option ER}(h:sQ sc k=true):sc.kind=.function/\k=some .local:=by
 obtain⟨a,b⟩:=zr.mp h
 exact⟨Aw a,Aw b⟩
theorem uP{sc:DB}{k:Option ER}{x:zK}(h:oz sc k x=true):sQ sc k=true:=by
 obtain⟨a,b,-⟩:=kf h
 unfold sQ
 rw[a,b];rfl
theorem kq {sc:DB}{k:Option ER}{x:zK}{g:zh} (h:wP sc k x g=true):sc.kind=.function/\k=some .globalImplicit/\(x==("__debug__" : zK))=false/\g=Bp:=by
 obtain⟨a,h⟩:=zr.mp h
 obtain⟨b,h⟩:=zr.mp h
 obtain⟨c,h⟩:=zr.mp h
 exact⟨Aw a,Aw b,by simpa using c,Aw h⟩
theorem rz {K:Ht}{sc:DB}{k:Option ER}{x:zK}{g b:zh} (h:xe K sc k x g b=true):wP sc k x g=true/\(x==("__name__" : zK))=false/\b=GC/\Nl K Bp x=some none:=by
 obtain⟨a,h⟩:=zr.mp h
 obtain⟨c,h⟩:=zr.mp h
 obtain⟨d,h⟩:=zr.mp h
 refine⟨a,by simpa using c,Aw d,?_⟩
 revert h
 cases Nl K Bp x with
 | none=>intro h;cases h
 | some o =>
  cases o with
  | none=>intro Z;rfl
  | some v=>intro h;cases h
theorem ac{Q:VP}(S:St hb tabs L l T s.heap)(hv:(x,v)∈l)(h:Q v s)
  (c:oz fd.scope ((Ah fd L fa).kindOf x) x=true:=by kernel_rfl) :
  y7 (y6 prog w) A (Ax (.Name x pos) (Ah fd L fa)) Q E s:=by
 obtain⟨hk,hl,hd⟩:=kf c
 obtain⟨m,a,b,_⟩:=S.fm.ns
 exact H4 (Dp hk hl a (b _ hv) h) hd
theorem xT{Q:VP}(S:St hb tabs L l T s.heap)(hv:(x,v)∈l)(h:Q v s)
  (c:oz fd.scope ((Ah fd L fa).kindOf x) x=true:=by kernel_rfl) :
  y7 (y6 prog w) A (Nm (Ah fd L fa) x) Q E s:=by
 obtain⟨hk,hl,-⟩:=kf c
 obtain⟨m,a,b,_⟩:=S.fm.ns
 exact Dp hk hl a (b _ hv) h
theorem aq{Q:UP}(S:St hb tabs L l T s.heap)(st:bU l x v l')(h:∀ h',St hb tabs L l' T h'->Q () (wht s h' (s.toks+1)))
  (c:sQ fd.scope ((Ah fd L fa).kindOf x)=true:=by kernel_rfl) :
  y7 (y6 prog w) A (Ff (Ah fd L fa) x v) Q E s:=by
 obtain⟨hk,hl⟩:=qC c
 obtain⟨m,a,b,c⟩:=S.fm.ns
 exact FH hl a (λh' hn hs=>h h' (S.setNs (st.fm hn b c) hs))
  (by show (fd.scope.kind==.class || (fd.scope.kind==.module&&L != fd.globals))=false;rw[hk];rfl)
theorem mS{Q:VP}(G:Gd K tabs hb)(S:St hb tabs L l T s.heap)(e:Nl K Bp x=some (some v))(h:Q v s)
  (c:wP fd.scope ((Ah fd L fa).kindOf x) x fd.globals=true:=by kernel_rfl):y7 (y6 prog w) A (Ax (.Name x pos) (Ah fd L fa)) Q E s:=by
 obtain⟨hk,hl,hd,hg⟩:=kq c
 obtain⟨mg,a⟩:=G.mg
 refine En hk hl (J6 (mg:=mg) ?_ (mg_of G.k a e) h) hd
 show s.heap.Ns fd.globals mg
 rw[hg];exact S.oldNs a G.n1
theorem cN{Q:VP}(G:Gd K tabs hb)(S:St hb tabs L l T s.heap)(hv:Bn x=some v)(h:Q v s)
  (c:xe K fd.scope ((Ah fd L fa).kindOf x) x fd.globals fd.builtins=true:=by kernel_rfl):y7 (y6 prog w) A (Ax (.Name x pos) (Ah fd L fa)) Q E s:=by
 obtain⟨c,hn,hbi,e⟩:=rz c
 obtain⟨hk,hl,hd,hg⟩:=kq c
 obtain⟨mg,a⟩:=G.mg
 obtain⟨mb,b,c⟩:=G.bl
 refine En hk hl (JM (mg:=mg) (mb:=mb) ?_ (mg_none_of G.k a e) ?_ ((c x (beq_eq_false_iff_ne.mp hn)).trans hv) h) hd
 ·show s.heap.Ns fd.globals mg
  rw[hg];exact S.oldNs a G.n1
 ·show s.heap.Ns fd.builtins mb
  rw[hbi];exact S.oldNs b G.n2
theorem dR{R:Cm->zc->Prop}{oc:Value}{od:Option zh}{osl:Array (Option Value)}{args:M5}{binds:LV}{body:List Cv}
  (G:Gd K tabs hb) (S:St hb tabs L l T s.heap) (ho:K.lookup fa=some ⟨oc,od,.func fd,osl⟩) (hroom:A.depth<zj)
  (hbind:Fn s fd args binds)
  (h:∀ L' ai oL,bL oL l->St hb tabs L' binds ((L,oL)::T) ai ->
   y7 (y6 prog w) (A.deeper (Ah fd L' fa)) (z5 body (Ah fd L' fa)) (kFn R)
    (kLv (y6 prog w) (A.deeper (Ah fd L' fa)) (Ah fd L' fa) R)
    (wht s ai (s.toks+binds.length)))
  (hft:fa∉tabs:=by decide)
  (hcd:∀ hh:AJ,K.In hh->hh.CodeRec fd.code fd.qualname:=by exact crO (by kernel_rfl))
  (hct:(match fd.code with|.ref c=>tabs.contains c|_=>false)=false:=by kernel_rfl)
  (hbody:fd.body=.stmts body:=by kernel_rfl)
  (hcell:(fd.scope.names.all λx=>x.2 != .cell)=true:=by kernel_rfl) (hloc:(binds.all λx=>fd.scope.names.lookup x.1==some .local)=true:=by kernel_rfl)
  (hnd':fZ (binds.map (·.1))=true:=by kernel_rfl)
  (hco:fd.scope.isCoroutine=false:=by kernel_rfl) (hgen:fd.scope.isGenerator=false:=by kernel_rfl) (hk:fd.scope.kind=.function:=by kernel_rfl) :
  zW (y6 prog w) A (.call (.ref fa) args) R s:=by
 have hnd:=dG hnd'
 have hcr:s.heap.CodeRec fd.code fd.qualname:=by
  obtain⟨c,o,vs,t,e1,e2,e3,e4⟩:=hcd hb G.k
  refine⟨c,o,vs,t,e1,S.old e2 (λq=>?_),e3,e4⟩
  rw[e1] at hct
  have hct':tabs.contains c=false:=hct
  rw[AZ.mpr q] at hct'
  cases hct'
 refine KP (fd:=fd) (body:=body) (binds:=binds) hroom (S.old (G.k _ _ ho) hft) rfl (S.lim G) hcr hbody hbind
  (λy hy=>by have:=zF.mp hcell y hy;simpa using this) (λy hy=>by have:=zF.mp hloc y hy;simpa using this) (λai hns b6=>?_) hco hgen hk
 have hfm:Fm ai s.heap.objs.size binds:=Fm.of_ns hns (λp hp=>jG binds hnd hp) hnd
 obtain⟨oL,r,S'⟩:=S.enter (L':=s.heap.objs.size) rfl hfm b6
 exact h _ ai oL r S'
end
section
variable{x:zK}{v:Value}{pos:Ej}{e o:Expr}{attr:zK}{Q:FP}
theorem aE(h:Q .next s):y7 (y6 prog w) A (z5 [] env) Q E s:=CZ h
theorem aC(h:y7 (y6 prog w) A (Ax value env) (uR (y6 prog w) A env E x rest Q) E s)
  (hs:FO value (some (.Name x p')) pos.line env=AA false:=by rfl):y7 (y6 prog w) A (z5 (.Assign [.Name x p'] value pos::rest) env) Q E s :=
 z9 (wpAny_Assign_Name h hs)
theorem dA(h:y7 (y6 prog w) A (Ax value env) (kSetA (y6 prog w) A env E o attr rest Q) E s)
  (hs:FO value (some (.Attribute o attr p')) pos.line env=AA false:=by rfl):y7 (y6 prog w) A (z5 (.Assign [.Attribute o attr p'] value pos::rest) env) Q E s :=
 z9 (plainObj_wpAny_Assign_Attribute h hs)
theorem j6{elts:List Expr}{k:Nat}{tpos:Ej}(h:y7 (y6 prog w) A (Ax value env) (wF (y6 prog w) A env E (.Tuple elts k tpos) rest Q) E s)
  (hs:swapsWithSole [.Tuple elts k tpos] value pos.line env=AA false:=by rfl) (hw:Hv [.Tuple elts k tpos] value env=AA none:=by rfl) :
  y7 (y6 prog w) A (z5 (.Assign [.Tuple elts k tpos] value pos::rest) env) Q E s :=
 z9 (Assign_Tuple h hs hw)
theorem j4{b7 b8:Expr}(h:y7 (y6 prog w) A (Ax value env) (kTwo (y6 prog w) A env E b7 b8 rest Q) E s)
  (he:(BS [b7,b8] env).map (·.2)=[BR b7 env,BR b8 env]:=by rfl) (hw:Hv [b7,b8] value env=AA none:=by rfl) :
  y7 (y6 prog w) A (z5 (.Assign [b7,b8] value pos::rest) env) Q E s :=
 z9 (wpAny_Assign_two h he hw)
theorem vU{b7 b8 bx:Expr}(h:y7 (y6 prog w) A (Ax value env) (yn (y6 prog w) A env E b7 b8 bx rest Q) E s)
  (he:(BS [b7,b8,bx] env).map (·.2)=[BR b7 env,BR b8 env,BR bx env]:=by rfl) (hw:Hv [b7,b8,bx] value env=AA none:=by rfl) :
  y7 (y6 prog w) A (z5 (.Assign [b7,b8,bx] value pos::rest) env) Q E s :=
 z9 (wpAny_Assign_three h he hw)
theorem xZ{op:J4}(h:y7 (y6 prog w) A (Nm env x) (kAug (y6 prog w) A env E x op value rest Q) E s) :
  y7 (y6 prog w) A (z5 (.AugAssign (.Name x p') op value pos::rest) env) Q E s :=
 z9 (wpAny_AugAssign_Name h)
theorem bR(h:y7 (y6 prog w) A (Ax e env) (kExpr (y6 prog w) A env E rest Q) E s)
  (hi:Lj env=false:=by rfl) (hs:FO e none pos.line env=AA false:=by rfl):y7 (y6 prog w) A (z5 (.Expr e pos::rest) env) Q E s :=
 z9 (wpAny_Expr (zi h (λv s' h'=>by cases v<;> exact h') λZ Z x=>x) hi hs)
theorem eZ{c:zK}{k:Nat}(h:y7 (y6 prog w) A (z5 rest env) Q E (wt s (s.toks+1)))(hi:Lj env=false:=by rfl):y7 (y6 prog w) A (z5 (.Expr (.Constant (.str c) k p') pos::rest) env) Q E s :=
 bR (Constant_str h) hi
theorem lQ(h:y7 (y6 prog w) A (isTrue test env (Ax test env)) (kIf (y6 prog w) A env E body orelse rest Q) E s) :
  y7 (y6 prog w) A (z5 (.If test body orelse pos::rest) env) Q E s :=
 z9 (wpAny_If (zi h (λb s' h'=>by cases b;exact h'.2 rfl;exact h'.1 rfl) λZ Z x=>x))
theorem cO(h:y7 (y6 prog w) A (Ax e env) (kRet Q) E s):y7 (y6 prog w) A (z5 (.Return (some e) pos::rest) env) Q E s :=
 z9 (wpAny_Return_some h)
theorem uI(h:Q (.ret .none) s):y7 (y6 prog w) A (z5 (.Return none pos::rest) env) Q E s:=z9 (wpAny_Return_none h)
theorem vV(h:Q .brk s):y7 (y6 prog w) A (z5 (.Break pos::rest) env) Q E s:=z9 (λZ Z Z=>h)
theorem n8(h:Q .cont s):y7 (y6 prog w) A (z5 (.Continue pos::rest) env) Q E s:=z9 (λZ Z Z=>h)
end
section
variable{tabs:List zh}{l l':LV}{T T':LO}
theorem l8:∀ (l:List zh) {h:AJ}{b:zh}{o:AR},(DN h l).get? b=some o->b∉l:=λl h b o e hm=>by
 rw[Gq l hm] at e;nomatch e
theorem St.toK(S:St hb tabs L l T h):Ex2 λ(m:zK->Option Value) (TL:LO)=>An6 (Fr (DN hb tabs) L h m) (News (DN hb tabs) L h (TL++T)) ((∀ p∈l,m p.1=some p.2)) ((l.map (·.1)).Nodup) ((∀ p∈TL,p.1<hb.objs.size)) (∀ (h':AJ) (m':zK->Option Value) (T':LO) (l':LV),Fr (DN hb tabs) L h' m'->News (DN hb tabs) L h' (TL++T')->(∀ p∈l',m' p.1=some p.2)->(l'.map (·.1)).Nodup ->
   (∀ p∈T',hb.objs.size<=p.1)->(L::T'.map (·.1)).Nodup->St hb tabs L l' T' h'):=by
 obtain⟨m,hn,hl,nd⟩:=S.fm.ns
 have hTL:∃ TL:LO,TL.map (·.1)=tabs/\∀ p∈TL,Ex2 λps more=>An4 (hb.get? p.1=some (Em ps)) (h.get? p.1=some p.2) (p.2=Em (ps++more)) (C7 (ps++more).toList):=by
  have:∀ ts:List zh,(∀ t∈ts,t∈tabs)->∃ TL:LO,TL.map (·.1)=ts/\∀ p∈TL,Ex2 λps more=>An4 (hb.get? p.1=some (Em ps)) (h.get? p.1=some p.2) (p.2=Em (ps++more)) (C7 (ps++more).toList):=by
   intro ts
   induction ts with
   | nil=>intro Z;exact⟨[],rfl,λp hp=>nomatch hp⟩
   | cons t ts ih =>
    intro hs
    obtain⟨TL,e,k⟩:=ih λt ht=>hs t (aj ht)
    obtain⟨ps,more,e1,e2,e4⟩:=S.tab t (hs t (.head _))
    exact⟨(t,Em (ps++more))::TL,by rw[AD,e],λp hp=>by
     rcases za.mp hp with rfl|hp
     ·exact⟨ps,more,e1,e2,rfl,e4⟩
     ·exact k p hp⟩
  exact this tabs λZ h=>h
 obtain⟨TL,eT,kT⟩:=hTL
 have hlt:∀ p∈TL,p.1<hb.objs.size:=λp hp=>by obtain⟨ps,more,e1,_⟩:=kT p hp;exact AL e1
 refine⟨m,TL,⟨hn,λb o e=>S.keep b o (Ma _ e) (l8 _ e),by rw[hideAll_size];exact S.lnew⟩,λp hp=>?_,hl,nd,hlt,λh' m' T' l' F N hl' nd' hT' ndT=>?_⟩
 ·rcases zf.mp hp with hp|hp
  ·obtain⟨ps,more,e1,e2,e3,e4⟩:=kT p hp
   refine⟨e2,S.oldNeL e1,?_⟩
   exact Gq _ (by rw[<- eT];exact zd.mpr ⟨p,hp,rfl⟩)
  ·refine⟨S.obj p hp,λq=>(zu.mp S.nd).1 (q▸zd.mpr ⟨p,hp,rfl⟩),?_⟩
   cases q:(DN hb tabs).get? p.1 with
   | none=>rfl
   | some o=>exact absurd (AL (Ma _ q)) (Bw.mpr (S.new p hp))
 ·refine⟨Fm.of_ns F.ns hl' nd',S.lnew,λb o e hn=>F.keep b o (IZ _ e hn),λt ht=>?_,λp hp=>(N p (y5 _ hp)).1,hT',ndT⟩
  rw[<- eT] at ht
  obtain⟨p,hp,rfl⟩:=zd.mp ht
  obtain⟨ps,more,e1,e2,e3,e4⟩:=kT p hp
  exact⟨ps,more,e1,by rw[(N p (y8 _ hp)).1,e3],e4⟩
end
section
variable{tabs:List zh}{l l':LV}{T:LO}{x:zh}{v:Value}{fl fl':LV}
theorem St.kin(S:St hb tabs L l T s.heap)(G:Gd K tabs hb):K.In s.heap:=λa o e=>by
 have hnt:=G.nt
 refine S.old (G.k a o e) λq=>?_
 have hm:(a,o)∈K:=by
  clear G hnt
  induction K with
  | nil=>nomatch e
  | cons p r ih =>
   obtain⟨b,o'⟩:=p
   rw[ED] at e
   split at e
   ·rename_i hq
    cases e
    rw[beq_iff_eq.mp hq];exact .head _
   ·exact aj (ih e)
 have:=zF.mp hnt _ hm
 rw[AZ.mpr q] at this
 nomatch this
inductive mE:List CV->LV->Prop
 | nil:mE [] []
 | cons {h:Int}{k:zK}{t:AQ}{v:Value}{es:List CV}{fl:LV}:mE es fl->mE (⟨h,.str k t,v⟩::es) ((k,v)::fl)
def bH(o:AR)(fl:LV):Prop:=Ex2 λes n=>An3 (o=JN es n) (mE es fl) (fZ (fl.map (·.1))=true)
theorem mE.len{es:List CV}(h:mE es fl):es.length=fl.length:=by
 induction h with
 | nil=>rfl
 | cons _ ih=>rw[zL,zL,ih]
theorem mE.get{es:List CV}(h:mE es fl)(nd:(fl.map (·.1)).Nodup)(hm:(name,v)∈fl):NQ name es=some (some v):=by
 induction h with
 | nil=>nomatch hm
 | cons h ih =>
  rename_i hh k t u es fl
  have n:=zu.mp nd
  unfold NQ
  rcases za.mp hm with e|hm
  ·cases e
   rw[List.find?_cons_of_pos (by simp[Hc])]
  ·have hk:¬ (k==name)=true:=λq=>n.1 (by show k∈_;rw[beq_iff_eq.mp q];exact zd.mpr ⟨_,hm,rfl⟩)
   rw[H5 (by simpa [Hc] using hk)]
   have:=ih n.2 hm
   unfold NQ at this
   cases q:es.find? (λe=>e.key.isStr name) with
   | some e=>rw[q] at this;exact this
   | none=>rw[q] at this;dsimp only at this;split at this<;> nomatch this
inductive Put:LV->zK->Value->LV->Prop
 | nil {x:zK}{v:Value}:Put [] x v [(x,v)]
 | here {x:zK}{u v:Value}{l:LV}:Put ((x,u)::l) x v ((x,v)::l)
 | there {y x:zK}{u v:Value}{l l':LV}:(y==x)=false->Put l x v l'->Put ((y,u)::l) x v ((y,u)::l')
theorem mE.put{es:List CV}{hsh:Int}{t:AQ}(h:mE es fl)(hp:Put fl name v fl'):mE (putL name hsh (.str name t) v es) fl':=by
 induction h generalizing fl' with
 | nil =>
  cases hp
  exact .cons .nil
 | cons h ih =>
  rename_i hh k t' u es fl
  unfold putL
  cases hp with
  | here =>
   rw[if_pos (by simp[Hc])]
   exact .cons h
  | there hne hp =>
   rw[if_neg (by simpa [Hc] using hne)]
   exact .cons (ih hp)
theorem mE.known{es:List CV}(h:mE es fl):(NQ name es).isSome=true:=by
 have:es.any (·.refKey)=false:=by
  induction h with
  | nil=>rfl
  | cons _ ih=>rw[JF,ih];rfl
 unfold NQ
 cases es.find? (λe=>e.key.isStr name) with
 | some e=>rfl
 | none=>rw[this];rfl
theorem sA{l l':LV}{x:zK}{v:Value}(hp:Put l x v l'):∀ z,z∈l'.map (·.1)->z∈l.map (·.1)\/z=x:=by
 induction hp with
 | nil=>intro z hz;simp at hz;exact .inr hz
 | here=>intro z hz;exact .inl hz
 | there _ _ ih =>
  intro z hz
  rcases za.mp hz with rfl|hz
  ·exact .inl (.head _)
  ·rcases ih z hz with q|q
   ·exact .inl (aj q)
   ·exact .inr q
theorem qg{l l':LV}{x:zK}{v:Value}(hp:Put l x v l')(nd:fZ (l.map (·.1))=true):fZ (l'.map (·.1))=true:=by
 induction hp with
 | nil=>rfl
 | here=>exact nd
 | there hne hp ih =>
  rename_i y x u v l l'
  rw[AD] at nd ⊢
  rw[sH] at nd ⊢
  obtain⟨a,b⟩:=zr.mp nd
  rw[ih b,Bool.and_true]
  cases q:(l'.map (·.1)).contains y with
  | false=>rfl
  | true =>
   rcases sA hp y (AZ.mp q) with z|z
   ·rw[AZ.mpr z] at a;nomatch a
   ·rw[z] at hne;simp at hne
end
theorem cB{f:Value}:∀ {trees:List (Bool×LH Value)}{Q:M5->zc->Prop} (_:trees.any (·.1)=false) (_:y7 M A (CH trees) (λvs s'=>Q ⟨vs,[]⟩ s') E s),y7 M A (Nn f true trees []) Q E s
 | [],Q,hp,h=>by
  refine y0 (zi h (λvs s' h'=>?_) λZ Z x=>x)
  refine y0 (y4 ?_)
  exact zs (y0 (y4 (y0 (y4 (y4 h')))))
 | (true,x)::rest,Q,hp,h=>by cases hp
 | (false,x)::rest,Q,hp,h=>Mb h
section
variable{tabs:List zh}{l l':LV}{T:LO}{x:zh}{v f:Value}{fl fl':LV}{pos apos:Ej}{sl:Array (Option Value)}{args:List Expr}{o:Expr}
abbrev kRef(M:HL)(A:AU)(E:VP)(hb:AJ)(tabs:List zh)(f:Value)(first:List Value)(Q:VP)(vs:List Value)(s:zc):Prop :=
 (Ex3 λL l T=>St hb tabs L l T s.heap)/\zW M A (.call f ⟨first++vs,[]⟩) (kRes E Q) s
theorem cR(G:Gd K tabs hb)(h:y7 (y6 prog w) A (CH trees) (kRef (y6 prog w) A E hb tabs f first Q) E s)
  (hk:NA K f=true:=by kernel_rfl) (hp:trees.any (·.1)=false:=by rfl):y7 (y6 prog w) A (DW pos f first trees []) Q E s :=
 callWith_of (by rw[hp];rfl) (keeps_K hk) (cB hp (zi h (λvs s₁ z=>by obtain⟨⟨_,_,_,S⟩,z⟩:=z;exact⟨S.kin G,BU z⟩) λZ Z z=>z))
theorem aH{id:String}(h:y7 (y6 prog w) A (CH trees) (kBi (y6 prog w) A E id first Q) E s)
  (hp:trees.any (·.1)=false:=by rfl):y7 (y6 prog w) A (DW pos (.builtin id) first trees []) Q E s:=callWith_builtin hp (cB hp h)
theorem q8{T:String}(h:y7 (y6 prog w) A (CH trees) (kTy (y6 prog w) A E T first Q) E s)
  (hp:trees.any (·.1)=false:=by rfl):y7 (y6 prog w) A (DW pos (.type T) first trees []) Q E s:=Mc hp (cB hp h)
theorem aV{pl:LH Bool}(h:y7 (y6 prog w) A (Ax o env) (kMeth (y6 prog w) A env E name pl pos args Q) E s)
  (he:Ax (.Call (.Attribute o name apos) args [] pos) env=(do
   let ov <- Ax o env
   standAt apos.atName
   let (f,first) <- Hd [ov] (HM ov name pl)
   DW pos f first (Cn pos (AM args env)) (DX pos (CD [] env))):=by rfl) :
  y7 (y6 prog w) A (Ax (.Call (.Attribute o name apos) args [] pos) env) Q E s:=methodCall_KW h he
theorem mE.get_none{es:List CV}(h:mE es fl)(hn:(fl.map (·.1)).contains name=false):NQ name es=some none:=by
 have hany:es.any (·.refKey)=false:=by
  clear hn
  induction h with
  | nil=>rfl
  | cons _ ih=>rw[JF,ih];rfl
 have hf:es.find? (λe=>e.key.isStr name)=none:=by
  clear hany
  induction h with
  | nil=>rfl
  | cons h ih =>
   rename_i hh k t u es fl
   rw[AD,List.contains_cons,FW] at hn
   have hk:(k==name)=false:=by
    cases q:k==name with
    | false=>rfl
    | true =>
     have:=beq_iff_eq.mp q
     have h1:=hn.1
     rw[this] at h1
     simp at h1
   rw[H5 (by simpa [Hc] using hk)]
   exact ih hn.2
 unfold NQ
 rw[hf,hany]
 rfl
theorem bB{expr:Bool}(G:Gd K tabs hb)(S:St hb tabs L l T s.heap)(hx:(x,(⟨.ref C,some dx,.plain,sl⟩:AR))∈T)(hd:(dx,od)∈T)(hf:bH od fl)(hm:(name,v)∈fl)(h:Q v (wt s (s.toks+1)))
  (hg:plainGet K C name=true:=by kernel_rfl) (hh:hasDictIn K C=true:=by kernel_rfl) (ha:I0 K (.ref C) name=some none:=by kernel_rfl) (hv:Md v=true:=by rfl) :
  y7 (y6 prog w) A (Hb (.ref x) name expr) Q E s:=by
 obtain⟨es,n,rfl,he,nd⟩:=hf
 exact get_value (S.kin G) ⟨S.obj _ hx,rfl,rfl,S.obj _ hd⟩ (Lk hg).1 (findObj_own hh ha rfl (by rw[Ll];exact he.get (dG nd) hm)) hv h
theorem dM{pl:LH Bool}{Q:Value×List Value->zc->Prop}{f:zh}(G:Gd K tabs hb)(S:St hb tabs L l T s.heap)(hx:(x,(⟨.ref C,some dx,.plain,sl⟩:AR))∈T)(hd:(dx,od)∈T)(hf:bH od fl)(h:Q (.ref f,[.ref x]) s)
  (hn:(fl.map (·.1)).contains name=false:=by kernel_rfl) (hm:I0 K (.ref C) name=some (some (.ref f)):=by kernel_rfl) (hg:plainGet K C name=true:=by kernel_rfl) (ht:isFn K (.ref f)=true:=by kernel_rfl) :
  y7 (y6 prog w) A (HM (.ref x) name pl) Q E s:=by
 obtain⟨es,n,rfl,he,nd⟩:=hf
 exact method_fn (ox:=(⟨.ref C,some dx,.plain,sl⟩:AR)) (od:=some (JN es n)) (S.kin G) ⟨S.obj _ hx,rfl,rfl,S.obj _ hd⟩ (Lk hg).1 (Lk hg).2 hm (beq_iff_eq.mp ht) (by show (lookIn name (JN es n)).map _=_;rw[Ll,he.get_none hn];rfl) h
theorem ie{α:Type}{T:List α}{i:Nat}{a b:α}(hi:T[i]? = some a):T=T.take i++a::T.drop (i+1)/\T.set i b=T.take i++b::T.drop (i+1):=by
 induction T generalizing i with
 | nil=>simp at hi
 | cons c r ih =>
  cases i with
  | zero=>simp at hi;subst hi;simp
  | succ i =>
   have:=ih (i:=i) (by simpa using hi)
   constructor
   ·have h1:=congrArg (c::·) this.1;simpa using h1
   ·simp[this.2]
theorem so{T:LO}{i:Nat}{a:zh}{o o':AR}(hi:T[i]? = some (a,o)):(T.set i (a,o')).map (·.1)=T.map (·.1):=by
 obtain⟨e1,e2⟩:=ie (b:=(a,o')) hi
 rw[e2]
 conv=>rhs;rw[e1]
 simp
theorem aN{Q:UP}(i:Nat)(G:Gd K tabs hb)(S:St hb tabs L l T s.heap)(hx:(x,(⟨.ref C,some dx,.plain,sl⟩:AR))∈T)(hi:T[i]? = some (dx,od))(hf:bH od fl)(hp:Put fl name v fl')
  (h:∀ h' od',St hb tabs L l (T.set i (dx,od')) h'->bH od' fl'->Q () (wht s h' (s.toks+2)))
  (hz:Cj fl'.length 1000=true:=by kernel_rfl)
  (hs:I0 K (.ref C) "__setattr__" = some (some (.builtin "object.__setattr__")):=by kernel_rfl) (hpo:plainOver K C=true:=by kernel_rfl) (ht:takerIn K C name=some none:=by kernel_rfl) (hh:hasDictIn K C=true:=by kernel_rfl) :
  y7 (y6 prog w) A (setAttr (.ref x) name v) Q E s:=by
 obtain⟨es,n,rfl,he,nd⟩:=hf
 obtain⟨m,TL,F,N,hl,ndl,hTL,back⟩:=S.toK
 obtain⟨e1,-⟩:=ie (b:=(dx,JN es n)) hi
 have hdm:=zp hi
 have hdn:=S.new _ hdm
 have e3:TL++T=(TL++T.take i)++(dx,JN es n)::T.drop (i+1):=by rw[zx,<- e1]
 rw[e3] at N
 have ndT:=(zu.mp S.nd).2
 have ndT':((T.take i).map (·.1)++dx::(T.drop (i+1)).map (·.1)).Nodup:=by
  have:T.map (·.1)=(T.take i).map (·.1)++dx::(T.drop (i+1)).map (·.1):=by
   conv=>lhs;rw[e1]
   simp
  rw[<- this];exact ndT
 obtain⟨-,nd2,nd3⟩:=CW.mp ndT'
 have I:InstAt s.heap x (⟨.ref C,some dx,.plain,sl⟩:AR) C (some (JN es n)):=⟨S.obj _ hx,rfl,rfl,S.obj _ hdm⟩
 have he':=he.put (hsh:=Fl w.params name) (t:=s.toks+1) hp
 refine set_plain (S.kin G) I hs (osa_dict (s:=(wt s (s.toks+1))) F N (S.kin G) I rfl hpo ht hh (by rw[Ll];exact he.known) (λp hp'=>?_) (λp hp'=>?_) (by rw[putName_dict]) rfl
  (by rw[he'.len];exact CJ hz) λh' F' N'=>?_)
 ·rcases zf.mp hp' with q|q
  ·exact Ag (zN (hTL p q) hdn)
  ·exact nd3 _ (zd.mpr ⟨p,q,rfl⟩) _ (.head _)
 ·exact λe=>(zu.mp nd2).1 (e▸zd.mpr ⟨p,hp',rfl⟩)
 ·refine h h' (JN (putL name (Fl w.params name) (.str name (s.toks+1)) v es) (putN name es n)) (back h' m (T.set i (dx,JN (putL name (Fl w.params name) (.str name (s.toks+1)) v es) (putN name es n))) l F' ?_ hl ndl (λp hp'=>?_) (by rw[so hi];exact S.nd)) ⟨_,_,rfl,he',qg hp nd⟩
  ·rw[(ie hi).2,<- zx];exact N'
  ·rcases List.mem_or_eq_of_mem_set hp' with q|rfl
   ·exact S.new p q
   ·exact hdn
end
structure Kp(s s':zc):Prop where
 os:s'.os=s.os
 gens:M7 s.gens->M7 s'.gens
theorem Kp.refl{s:zc}:Kp s s:=⟨rfl,id⟩
theorem Kp.trans{a b c:zc}(h:Kp a b)(k:Kp b c):Kp a c:=⟨k.os.trans h.os,λz=>k.gens (h.gens z)⟩
theorem kt{a b b' c:zc}(h:Kp a b)(k:Kp b' c)(e:(b'.os,b'.gens)=(b.os,b.gens):=by rfl):Kp a c:=by
 injection e with e1 e2
 exact⟨k.os.trans (e1.trans h.os),λz=>k.gens (e2▸h.gens z)⟩
theorem Kp.with{a b:zc}(k:Kp a b){h:AJ}{t:AQ}:Kp a (wht b h t):=⟨k.os,k.gens⟩
section
variable{tabs:List zh}{l l':LV}{T T' own:LO}
theorem St.perm(S:St hb tabs L l T h)(p:T.Perm T'):St hb tabs L l T' h :=
 ⟨S.fm,S.lnew,S.keep,S.tab,λq hq=>S.obj q (p.symm.subset hq),λq hq=>S.new q (p.symm.subset hq),((zP L (p.map _)).nodup_iff).mp S.nd⟩
theorem rM{α:Type}{a b c:α}{Z:List α}:(a::b::c::Z).Perm (b::c::a::Z):=(z8 b a (c::Z)).trans (.cons _ (.swap c a Z))
theorem pm21{α:Type}{a b c:α}{Z:List α}:(b::c::a::Z).Perm (a::b::c::Z):=rM.symm
theorem St.last{p:zh×AR}(S:St hb tabs L l (p::T) h):St hb tabs L l (T++[p]) h:=S.perm (zM (l₁:=[p]))
theorem St.front{p:zh×AR}(S:St hb tabs L l (T++[p]) h):St hb tabs L l (p::T) h:=S.perm (zM (l₂:=[p]))
theorem St.drop(S:St hb tabs L l (T++own) h)(hk:∀ b o,b∉own.map (·.1)->h.get? b=some o->h'.get? b=some o):St hb tabs L l T h':=by
 have nd:=zu.mp S.nd
 rw[zG] at nd
 have hL:L∉own.map (·.1):=λq=>nd.1 (y5 _ q)
 obtain⟨-,-,n3⟩:=CW.mp nd.2
 have hT:∀ p∈T,p.1∉own.map (·.1):=λp hp q=>n3 _ (zd.mpr ⟨p,hp,rfl⟩) _ q rfl
 have lF:∀ b,b<hb.objs.size->b∉own.map (·.1):=λb hlt q=>by
  obtain⟨p,hp,e⟩:=zd.mp q
  have:=S.new p (y5 _ hp)
  rw[e] at this
  exact absurd hlt (Bw.mpr this)
 obtain⟨oL,e,r⟩:=S.fm
 refine⟨⟨oL,hk _ _ hL e,r⟩,S.lnew,λb o e hn=>hk b o (lF b (dC e)) (S.keep b o e hn),λt ht=>?_,λp hp=>hk _ _ (hT p hp) (S.obj p (y8 _ hp)),λp hp=>S.new p (y8 _ hp),?_⟩
 ·obtain⟨ps,more,e1,e2,e3⟩:=S.tab t ht
  exact⟨ps,more,e1,hk _ _ (lF t (dC e1)) e2,e3⟩
 ·exact zu.mpr ⟨λq=>nd.1 (y8 _ q),(CW.mp nd.2).1⟩
theorem St.moved(S:St hb tabs L l (T++own) h)(hk:∀ b o,b∉own.map (·.1)->h.get? b=some o->h'.get? b=some o)(hex:∀ b∈own.map (·.1),∃ o,h'.get? b=some o) :
  ∃ own',own'.map (·.1)=own.map (·.1)/\St hb tabs L l (T++own') h':=by
 have S1:=S.drop hk
 have hm:(own.map λp=>(p.1,(h'.get? p.1).getD AF)).map (·.1)=own.map (·.1):=by rw[CR];rfl
 refine⟨own.map λp=>(p.1,(h'.get? p.1).getD AF),hm,S1.fm,S1.lnew,S1.keep,S1.tab,λp hp=>?_,λp hp=>?_,?_⟩
 ·rcases zf.mp hp with q|q
  ·exact S1.obj p q
  ·obtain⟨p',hp',rfl⟩:=zd.mp q
   obtain⟨o,e⟩:=hex p'.1 (zd.mpr ⟨p',hp',rfl⟩)
   show h'.get? p'.1=some ((h'.get? p'.1).getD AF)
   rw[e];rfl
 ·rcases zf.mp hp with q|q
  ·exact S1.new p q
  ·obtain⟨p',hp',rfl⟩:=zd.mp q
   exact S.new p' (y5 _ hp')
 ·rw[zG,hm,<- zG];exact S.nd
end
abbrev kEnd(B:Prop)(R:Cm->zc->Prop)(f:Nk)(s3:zc):Prop:=match f with
 | .next|.cont=>B
 | .brk=>R (.ok .next) s3
 | .ret v=>R (.ok (.ret v)) s3
theorem sV{B B':Prop}{R:Cm->zc->Prop}{f:Nk}{s3:zc}(q:B->B')(k:kEnd B R f s3):kEnd B' R f s3:=by
 cases f with
 | next=>exact q k
 | cont=>exact q k
 | brk=>exact k
 | ret v=>exact k
abbrev qF(hb:AJ)(tabs:List zh)(L:zh)(own Ro:LO)(J:AQ->LV->LO->Prop)(s:zc)(R:Cm->zc->Prop)(f:Nk)(s3:zc):Prop :=
 kEnd (Ex2 λl₂ T₂=>An4 (St hb tabs L l₂ (T₂++own) s3.heap) (J s3.toks l₂ T₂) (∀ p∈Ro,p∈T₂) (Kp s s3)) R f s3
abbrev kTurn(hb:AJ)(tabs:List zh)(L:zh)(own Ro:LO)(J:LV->LO->Prop)(s:zc)(R:Cm->zc->Prop)(f:Nk)(s3:zc):Prop:=qF hb tabs L own Ro (λZ=>J) s R f s3
abbrev oD(M:HL)(A:AU)(env:II)(E:VP)(body:List Cv)(B:FP)(_:Unit)(s:zc):Prop:=y7 M A (z5 body env) B E s
abbrev yv(M:HL)(A:AU)(env:II)(E:VP)(rest:List Cv)(Q:FP)(r:Cm)(s:zc):Prop:=match r with
 | .ok .next=>y7 M A (z5 rest env) Q E s
 | .ok f=>Q f s
 | .error e=>cameBackBy M A env E e s
abbrev kLoop(M:HL)(A:AU)(env:II)(E:VP)(target:Expr)(body rest:List Cv)(Q:FP)(it:Value)(s:zc):Prop:=zW M A (.forLoop target it body [] env) (yv M A env E rest Q) s
abbrev kIter(M:HL)(A:AU)(env:II)(E:VP)(target:Expr)(body rest:List Cv)(Q:FP)(x:Value)(s:zc):Prop:=y7 M A (EM x) (kLoop M A env E target body rest Q) E s
section
variable{tabs:List zh}{l l':LV}{T T' own Ro:LO}{n:Nat}
theorem St.same{b:zh}{o:AR}(S:St hb tabs L l (T++own) h)(S':St hb tabs L l' (T'++own) h')(h1:∀ p∈Ro,p∈T)(h2:∀ p∈Ro,p∈T')
  (hr:b∉own.map (·.1)->(∃ o,(b,o)∈Ro)\/∃ o,hb.get? b=some o/\b∉tabs) (e:h.get? b=some o):h'.get? b=some o:=by
 by_cases q:b∈own.map (·.1)
 ·obtain⟨p,hp,rfl⟩:=zd.mp q
  exact ((S.obj p (y5 _ hp)).symm.trans e)▸S'.obj p (y5 _ hp)
 ·rcases hr q with⟨o',ho'⟩|⟨o',ho',hnt⟩
  ·exact ((S.obj _ (y8 _ (h1 _ ho'))).symm.trans e)▸S'.obj _ (y8 _ (h2 _ ho'))
  ·exact ((S.keep _ _ ho' hnt).symm.trans e)▸S'.keep _ _ ho' hnt
abbrev LInv(hb:AJ)(tabs:List zh)(L:zh)(Ro:LO)(wr:List zh)(Wt:Nat->AJ->Prop)(J:Nat->AQ->LV->LO->Prop)(z:zc)(n k:Nat)(s':zc):Prop :=
 Ex4 λi l₁ T1 own1=>An8 (own1.map (·.1)=wr) (St hb tabs L l₁ (T1++own1) s'.heap) (Wt i s'.heap) (J i s'.toks l₁ T1) (∀ p∈Ro,p∈T1) (Kp z s') (i<=n) (k=n - i)
theorem mH{J:Nat->AQ->LV->LO->Prop}{R:Cm->zc->Prop}{z s3:zc}{f:Nk}(fr:∀ i h h',Wt i h->(∀ b∈fp,∀ o,h.get? b=some o->h'.get? b=some o)->Wt i h')
  (hro:∀ b∈fp,b∉wr->(∃ o,(b,o)∈Ro)\/∃ o,hb.get? b=some o/\b∉tabs) (hlt:i<n) (e:own.map (·.1)=wr) (S:St hb tabs L l (T++own) h) (hst:Wt (i+1) h) (hRo:∀ p∈Ro,p∈T) (k:qF hb tabs L own Ro (J (i+1)) z R f s3) :
  kEnd (∃ m,m<n - i/\LInv hb tabs L Ro wr Wt J z n m s3) R f s3:=by
 refine sV (λq=>?_) k
 obtain⟨l₂,T₂,S',hJ,hRo',K⟩:=q
 exact⟨n - (i+1),z8t hlt,i+1,l₂,T₂,own,e,S',fr _ _ _ hst λb hb' o x=>S.same S' hRo hRo' (e▸hro b hb') x,hJ,hRo',K,hlt,rfl⟩
end
section
variable{iter:Expr}{pos:Ej}{Q:FP}
theorem eY(h:y7 (y6 prog w) A (Ax iter env) (kIter (y6 prog w) A env E target body rest Q) E s)
  (hs:∀ x,CX iter env x=AA x:=by intro Z;rfl):y7 (y6 prog w) A (z5 (.For target iter body [] pos::rest) env) Q E s:=by
 refine z9 (wpAny_For (zi h (λx s₁ ai=>zi ai (λit ag am=>Gr am λr s' z=>?_) λZ Z e=>e) λZ Z e=>e) hs)
 rcases r with e|(v|_|_|_)<;> exact z
end
noncomputable abbrev aG (vs:List Value):AR:={ cls:=.type "tuple", data:=.seq vs.toArray }
noncomputable abbrev ap (vs:List Value) (n:Nat):AR:={ cls:=.type "list", data:=.seq vs.toArray n }
section
variable{tabs:List zh}{l l':LV}{T T' own:LO}
theorem St.grown(S:St hb tabs L l T h)(hk:∀ b o,h.get? b=some o->h'.get? b=some o):St hb tabs L l T h' :=
 St.drop (own:=[]) ((Aq T).symm▸S) λb o Z e=>hk b o e
theorem St.extBut(S:St hb tabs L l T h)(he:He h.objs.size h h'):St hb tabs L l T h' :=
 S.grown λb o e=>he b o (Ag (dC e)) e
end
section
variable{tabs:List zh}{l l':LV}{T:LO}{x:zh}{v f:Value}{pos:Ej}{k:Nat}
abbrev kTup(Q:VP)(vs:List Value)(s₁:zc):Prop:=Cj vs.length 1000=true/\Ex5 λhb tabs L l T=>St hb tabs L l T s₁.heap/\∀ a h',St hb tabs L l ((a,aG vs)::T) h'->Q (.ref a) (wh s₁ h')
abbrev kLst(Q:VP)(vs:List Value)(s₁:zc):Prop:=Cj vs.length 1000=true/\Ex5 λhb tabs L l T=>St hb tabs L l T s₁.heap/\∀ a h',St hb tabs L l ((a,ap vs 0)::T) h'->Q (.ref a) (wh s₁ h')
theorem le_line{n:Nat}(h:Cj n 1000=true):n<=DY:=by rw[zz];exact zn (CJ h) (by decide)
theorem bP(h:y7 (y6 prog w) A (CH (Cn pos (AM elts env))) (kTup Q) E s) :
  y7 (y6 prog w) A (Ax (.Tuple elts k pos) env) Q E s :=
 wpAny_Tuple (zi h (λvs s₁ z=>by obtain⟨hz,_,_,_,_,_,S,z⟩:=z;exact⟨le_line hz,z _ _ (S.push _)⟩) λZ Z z=>z)
theorem bF(h:y7 (y6 prog w) A (CH (Cn pos (AM elts env))) (kLst Q) E s) :
  y7 (y6 prog w) A (Ax (.List elts pos) env) Q E s :=
 wpAny_List (zi h (λvs s₁ z=>by obtain⟨hz,_,_,_,_,_,S,z⟩:=z;exact⟨le_line hz,z _ _ (S.push _)⟩) λZ Z z=>z)
theorem eM{Q:FP}{elts vals:List Expr}{vk:Nat}{vpos:Ej}(names:List zK)(h:y7 (y6 prog w) A (CH (Cn vpos (AM vals env))) (λvs s₁=>vs.length=names.length/\Cj vs.length 1000=true/\A.handled=none/\Ex5 λhb tabs L l T=>St hb tabs L l T s₁.heap/\∀ h',
   St hb tabs L l T h'->y7 (y6 prog w) A (Cf (names.reverse.map λn=>No env n) vs.reverse) (λZ ag=>y7 (y6 prog w) A (z5 rest env) Q E ag) E (wh s₁ h')) E s)
  (hw:Hv [.Tuple elts k tpos] (.Tuple vals vk vpos) env=AA (some names):=by kernel_rfl) :
  y7 (y6 prog w) A (z5 (.Assign [.Tuple elts k tpos] (.Tuple vals vk vpos) pos::rest) env) Q E s:=by
 refine z9 (Assign_Tuple_swapped (bP (zi h (λvs s₁ z=>?_) λZ Z z=>z)) rfl hw)
 obtain⟨hl,hz,hh,_,_,_,_,_,S,z⟩:=z
 refine⟨hz,_,_,_,_,_,S,λa h' S'=>?_⟩
 have ht:IsTup h' a vs.toArray:=⟨_,S'.get 0 rfl,rfl,_,rfl⟩
 have e:names.length=vs.toArray.size:=by rw[zg];exact hl.symm
 rw[e]
 refine unpackItems_tuple hh ht λam he=>?_
 rw[Jx]
 exact z _ ((S'.sub (zo _ _)).extBut he)
theorem eQ{xs:List Value}{Q:UP}(h:Q () s):y7 (y6 prog w) A (Cf [] xs) Q E s:=J7 h
theorem mA{n:zK}{ts:List (Value->LH Unit)}{y:Value}{xs:List Value}{Q:UP}(h:y7 (y6 prog w) A (Ff env n y) (kOrd (y6 prog w) A E ts xs Q) E s) :
  y7 (y6 prog w) A (Cf ((λv=>No env n v)::ts) (y::xs)) Q E s:=JO (bindName_ h)
theorem bQ{o:Expr}(h:y7 (y6 prog w) A (Ax o env) (kDot (y6 prog w) A E name Q) E s)
  (he:Ax (.Attribute o name pos) env=(do
   let v <- Ax o env
   standAt pos.atName
   let r <- Hd [v] (Hb v name true)
   Fo o v r
   AA r):=by with_unfolding_all rfl):y7 (y6 prog w) A (Ax (.Attribute o name pos) env) Q E s:=Attribute_any_ h he
theorem bV{func:Expr}{args:List Expr}(h:y7 (y6 prog w) A (Ax func env) (wE (y6 prog w) A env E pos args Q) E s)
  (he:Ax (.Call func args [] pos) env=(do DW pos (<- Ax func env) [] (Cn pos (AM args env)) (DX pos (CD [] env))):=by rfl) :
  y7 (y6 prog w) A (Ax (.Call func args [] pos) env) Q E s:=Call_ h he
theorem xR{a b:Int}{t u:AQ}(hh:A.handled=none)(S:St hb tabs L l T s.heap)
  (h:∀ h' tk t',St hb tabs L l T h'->Q (.int (L8 a b) t') (wht s h' tk)):y7 (y6 prog w) A (call (.builtin "min") [.int a t,.int b u]) Q E s :=
 min_two_ints hh λh' tk hk=>by
  have:=λt'=>h h' tk t' (S.grown hk)
  by_cases c:b<a
  ·rw[Np,if_neg (by exact zb9 c)] at this
   rw[if_pos c];exact this _
  ·rw[Np,if_pos (by exact zba c)] at this
   rw[if_neg c];exact this _
end
section
variable{tabs:List zh}{l l':LV}{T:LO}{x:zK}{v:Value}{pos:Ej}
theorem bl{rest:List Expr}{Q:LP}(S:St hb tabs L l T s.heap)(hv:(x,v)∈l)(h:wG (y6 prog w) A (Ah fd L fa) E p rest Q v s)
  (c:oz fd.scope ((Ah fd L fa).kindOf x) x=true:=by kernel_rfl):y7 (y6 prog w) A (CH (Cn p (AM (.Name x pos::rest) (Ah fd L fa)))) Q E s:=args_cons (ac S hv h c)
theorem bln{Q:LP}(S:St hb tabs L l T s.heap)(hv:(x,v)∈l)(h:Q [v] s)
  (c:oz fd.scope ((Ah fd L fa).kindOf x) x=true:=by kernel_rfl):y7 (y6 prog w) A (CH (Cn p (AM [.Name x pos] (Ah fd L fa)))) Q E s:=bl S hv (zq h) c
theorem jM{id:String}{args:List Expr}{p1:Ej}{Q:VP}(G:Gd K tabs hb)(S:St hb tabs L l T s.heap)(hv:Bn x=some (.builtin id))(h:y7 (y6 prog w) A (CH (Cn pos (AM args (Ah fd L fa)))) (kBi (y6 prog w) A E id [] Q) E s)
  (c:xe K fd.scope ((Ah fd L fa).kindOf x) x fd.globals fd.builtins=true:=by kernel_rfl) (hp:(Cn pos (AM args (Ah fd L fa))).any (·.1)=false:=by rfl):y7 (y6 prog w) A (Ax (.Call (.Name x p1) args [] pos) (Ah fd L fa)) Q E s :=
 bV (cN G S hv (aH h hp) c)
theorem rp{id:String}{args:List Expr}{p1:Ej}{Q:VP}(G:Gd K tabs hb)(S:St hb tabs L l T s.heap)(hv:Bn x=some (.type id))(h:y7 (y6 prog w) A (CH (Cn pos (AM args (Ah fd L fa)))) (kTy (y6 prog w) A E id [] Q) E s)
  (c:xe K fd.scope ((Ah fd L fa).kindOf x) x fd.globals fd.builtins=true:=by kernel_rfl) (hp:(Cn pos (AM args (Ah fd L fa))).any (·.1)=false:=by rfl):y7 (y6 prog w) A (Ax (.Call (.Name x p1) args [] pos) (Ah fd L fa)) Q E s :=
 bV (cN G S hv (q8 h hp) c)
theorem tZ{args:List Expr}{p1:Ej}{Q:VP}(G:Gd K tabs hb)(S:St hb tabs L l T s.heap)(e:Nl K Bp x=some (some v))(h:y7 (y6 prog w) A (CH (Cn pos (AM args (Ah fd L fa)))) (kRef (y6 prog w) A E hb tabs v [] Q) E s)
  (c:wP fd.scope ((Ah fd L fa).kindOf x) x fd.globals=true:=by kernel_rfl) (hk:NA K v=true:=by kernel_rfl) (hp:(Cn pos (AM args (Ah fd L fa))).any (·.1)=false:=by rfl):y7 (y6 prog w) A (Ax (.Call (.Name x p1) args [] pos) (Ah fd L fa)) Q E s :=
 bV (mS G S e (cR G h hk hp) c)
theorem cU{n:zK}{ts:List (Value->LH Unit)}{y:Value}{xs:List Value}{Q:UP}(S:St hb tabs L l T s.heap)(st:bU l n y l')(h:∀ h',St hb tabs L l' T h'->kOrd (y6 prog w) A E ts xs Q () (wht s h' (s.toks+1)))
  (c:sQ fd.scope ((Ah fd L fa).kindOf n)=true:=by kernel_rfl):y7 (y6 prog w) A (Cf ((λv=>No (Ah fd L fa) n v)::ts) (y::xs)) Q E s:=mA (aq S st h c)
theorem dB{env:II}{a b:Expr}{op:CmpOp}{cp:Ej}{body orelse rest:List Cv}{Q:FP}(h:y7 (y6 prog w) A (Ax a env) (kCmp (y6 prog w) A env E op b (uQ (y6 prog w) A E (kIf (y6 prog w) A env E body orelse rest Q))) E s)
  (hm:JE op b=false:=by with_unfolding_all rfl):y7 (y6 prog w) A (z5 (.If (.Compare a [op] [b] cp) body orelse pos::rest) env) Q E s:=lQ (wpAny_isTrue_Compare1 h hm)
end
section
open PySem.Spec
noncomputable abbrev dict0:AR:={ cls:=.type "dict", data:=.dict #[] }
section
variable{tabs:List zh}{l l':LV}{T:LO}{K:Type}[DecidableEq K]{knd:KeyKind prog w K}
theorem eH:dict0.IsDictOf knd []:=by
 obtain⟨o,ho,hd⟩:=F7.mp (NS (knd:=knd) {})
 have e:=AG ho
 rw[<- e] at hd
 exact hd
theorem St.change(S:St hb tabs L l T h)(i:Nat){a:zh}{o o':AR}(hi:T[i]? = some (a,o))(hs:BZ a h h')(ho:h'.get? a=some o'):St hb tabs L l (T.set i (a,o')) h':=by
 have e:=(ie (b:=(a,o')) hi)
 have S1:St hb tabs L l ((T.take i++T.drop (i+1))++[(a,o)]) h:=S.perm (by
  conv=>lhs;rw[e.1]
  rw[zx]
  exact Ed _ (zM (l₁:=[(a,o)])))
 obtain⟨own',hm,S2⟩:=S1.moved (h':=h') (λb x hb' hx=>(hs.2 b (λq=>hb' (by rw[q];exact .head _))).trans hx) (λb hb'=>by
  rw[AD,J8,y9] at hb'
  exact⟨o',by rw[hb'];exact ho⟩)
 rcases own' with _|⟨⟨a',o''⟩,r⟩
 ·cases hm
 ·rw[AD,AD,J8] at hm
  obtain⟨ha,hr⟩:=Hw hm
  rw[List.map_eq_nil_iff] at hr
  subst hr
  have ha':a'=a:=ha
  subst ha'
  have h2:h'.get? a'=some o'':=S2.obj (a',o'') (y5 _ (.head _))
  rw[ho] at h2
  have e2:=AG h2
  subst e2
  refine S2.perm ?_
  rw[e.2,zx]
  exact Ed _ (zM (l₂:=[(a',o')]))
theorem St.notMods{K:Ht}(S:St hb tabs L l T h)(G:Gd K tabs hb){p:zh×AR}(hp:p∈T):(p.1==sysModules)=false :=
 beq_eq_false_iff_ne.mpr (Ci (zN (modules_low G.lim) (S.new p hp)))
end
section
variable{F:Ht}{tabs:List zh}{l l':LV}{T:LO}{pos:Ej}{o:AR}{K:Type} [DecidableEq K] {knd:KeyKind prog w K}{kvs:List (K×Value)}{k:K}{v:Value}
theorem iL(S:St hb tabs L l T s.heap)(h:∀ d h',St hb tabs L l ((d,dict0)::T) h'->Q (.ref d) (wh s h')):y7 (y6 prog w) A (Ax (.Dict [] [] pos) env) Q E s :=
 wpAny_Dict_empty (h _ _ (S.push _))
theorem ja(S:St hb tabs L l T s.heap)(hm:(d,o)∈T)(hd:o.IsDictOf knd kvs):s.heap.DictOf knd d kvs:=F7.mpr ⟨o,S.obj _ hm,hd⟩
theorem iJ{Q:UP}(i:Nat)(S:St hb tabs L l T s.heap)(hi:T[i]? = some (d,o))(hd:o.IsDictOf knd kvs)(hkey:knd.is k key=true)
  (h:∀ h' o',St hb tabs L l (T.set i (d,o')) h'->o'.IsDictOf knd (Hx kvs k v)->Q () (wht s h' (s.toks+1))) (hz:kvs.length<=1000) :
  y7 (y6 prog w) A (setItem (.ref d) key v) Q E s :=
 wpAny_setItem_pairs (hsz:=by rw[zz];exact up 16776216 hz) hkey (ja S (zp hi) hd) λh' hm hs=>by
  obtain⟨o',ho',hd'⟩:=F7.mp hm
  exact h h' o' (S.change i hi hs ho') hd'
theorem pW(S:St hb tabs L l T s.heap)(hm:(d,o)∈T)(hd:o.IsDictOf knd kvs)(hkey:knd.is k key=true)(hv:AV kvs k=some v)(h:Q v (wt s (s.toks+1))) :
  y7 (y6 prog w) A (Dg (.ref d) key) Q E s:=wpAny_getItem_of hkey (ja S hm hd).mapOf hv h
theorem pX(G:Gd F tabs hb)(S:St hb tabs L l T s.heap)(hm:(d,o)∈T)(hd:o.IsDictOf knd kvs)(hkey:knd.is k key=true)(h:Q ((AV kvs k).getD Jw) (wt s (s.toks+1))) :
  y7 (y6 prog w) A (call (.builtin "dict.get") [.ref d,key,Jw]) Q E s :=
 have hD:=ja S hm hd
 call_meetsIn Ee hD.typeIs H8 (PySem.F.args_dict_get_3 _ _ _) (H9 knd d hkey (S.notMods G hm) Jw) ⟨_,hD.mapOf,h⟩
theorem k6(i:Nat)(G:Gd F tabs hb)(S:St hb tabs L l T s.heap)(hi:T[i]? = some (d,o))(hd:o.IsDictOf knd kvs)(hkey:knd.is k key=true)
  (h1:∀ v,AV kvs k=some v->Q v (wt s (s.toks+1)))
  (h2:AV kvs k=none->∀ h' o',St hb tabs L l (T.set i (d,o')) h'->o'.IsDictOf knd (Hx kvs k Jw)->Q Jw (wht s h' (s.toks+1))) (hz:kvs.length<=1000) :
  y7 (y6 prog w) A (call (.builtin "dict.setdefault") [.ref d,key,Jw]) Q E s :=
 have hm:=zp hi
 have hD:=ja S hm hd
 call_meetsIn F8 hD.typeIs PySem.F.entry_dict_setdefault (PySem.F.args_dict_setdefault_3 _ _ _) (kt_meets_setdefault knd d hkey (S.notMods G hm) Jw)
  ⟨kvs,hD,by rw[zz];exact up 16776216 hz,λv hv=>h1 v hv,λhn h' hmm hs=>by
   obtain⟨o',ho',hd'⟩:=F7.mp hmm
   exact h2 hn h' o' (S.change i hi hs ho') hd'⟩
end
end
section
variable{tabs:List zh}{l:LV}{T:LO}{pos:Ej}
theorem wH{Q:VP}{y z:zK}{u v:AQ}(NB:B8 s.heap)(hu:u≠0)(hv:v≠0)(ht:u=v->y=z)(h:∀ c:Bool,(c=true->y=z)->Q (.bool c) s) :
  y7 (y6 prog w) A (AK .Is (.str y u) (.str z v)) Q E s:=by
 have key:∀ {Q:BP},(∀ c:Bool,(c=true->y=z)->Q c s)->y7 (y6 prog w) A (isSame (.str y u) (.str z v)) Q E s:=by
  intro Q h
  show y7 (y6 prog w) A (Me (y==z) u v) Q E s
  unfold Me
  have h0:(u==0 || v==0)=false:=by
   cases q:(u==0 || v==0) with
   | false=>rfl
   | true =>
    rcases Bool.or_eq_true_iff.mp q with q|q
    ·exact absurd (beq_iff_eq.mp q) hu
    ·exact absurd (beq_iff_eq.mp q) hv
  refine zA h0 ?_
  by_cases huv:u=v
  ·refine Bq (beq_iff_eq.mpr huv) (y4 (h true λZ=>ht huv))
  ·refine zA (beq_eq_false_iff_ne.mpr huv) ?_
   by_cases hyz:y=z
   ·refine zA (by rw[beq_iff_eq.mpr hyz];rfl) (y0 (B4 NB ?_))
    refine zA rfl (y0 (B4 NB ?_))
    refine zA rfl (y0 (AS ?_))
    refine y0 (B0 ?_)
    exact y4 (h _ λZ=>hyz)
   ·refine Bq (by rw[beq_eq_false_iff_ne.mpr hyz];rfl) (y4 (h false λq=>by cases q))
 exact y0 (key λc hc=>y4 (h c hc))
theorem cT{o:Expr}{name:zK}{v:Value}{Q:UP}(h:y7 (y6 prog w) A (Ax o env) (sT (y6 prog w) A E name v Q) E s) :
  y7 (y6 prog w) A (BR (.Attribute o name pos) env v) Q E s:=by
 exact y0 (zs (zi h (λov s₁ z=>y0 (CS (y0 (zs (zi z (λZ ag z=>λΓ p hΓ=>by simp only[Mf];exact z) λZ Z z=>z))))) λZ Z z=>z))
theorem aU{x:zK}{v:Value}{Q:UP}(h:y7 (y6 prog w) A (Ff env x v) Q E s):y7 (y6 prog w) A (BR (.Name x pos) env v) Q E s:=assign_Name h
end
section
variable{tabs:List zh}{l:LV}{T own Ro:LO}{n:Nat}
theorem toU(W:WalksT prog w A I fp wr n Pt Wt Mid):NC prog w A I fp wr n Pt Wt Mid :=
 ⟨W.sub,W.frame,λi s Q E hi st hQ=>W.item i s Q E hi st λT vals h' tk a Z c d e=>hQ T vals h' tk a c d e,W.go,W.apart,W.done,W.self⟩
end
section
variable{tabs:List zh}{l:LV}{T own:LO}
theorem St.adds(S:St hb tabs L l T h)(hk:∀ b o,h.get? b=some o->h'.get? b=some o)(ho:∀ p∈own,h'.get? p.1=some p.2)(hn:∀ p∈own,h.objs.size<=p.1)(hd:(own.map (·.1)).Nodup):St hb tabs L l (T++own) h':=by
 have S1:=S.grown hk
 have hsz:hb.objs.size<=h.objs.size:=Ak (Bv S.lnew S.fm.lt)
 refine⟨S1.fm,S1.lnew,S1.keep,S1.tab,λp hp=>?_,λp hp=>?_,?_⟩
 ·rcases zf.mp hp with q|q
  ·exact S1.obj p q
  ·exact ho p q
 ·rcases zf.mp hp with q|q
  ·exact S1.new p q
  ·exact zn hsz (hn p q)
 ·rw[zG,<- Bu]
  refine CW.mpr ⟨S.nd,hd,λa ha b hb' e=>?_⟩
  obtain⟨p,hp,e2⟩:=zd.mp hb'
  have h1:=hn p hp
  rw[e2,<- e] at h1
  rcases za.mp ha with q|q
  ·rw[q] at h1
   exact absurd S.fm.lt (Bw.mpr h1)
  ·obtain⟨p',hp',e3⟩:=zd.mp q
   rw[<- e3] at h1
   exact absurd (S.lt hp') (Bw.mpr h1)
end
section
open PySem.Spec
namespace B
theorem slot_md_get:ND "method_descriptor" "__get__" "method_descriptor.__get__" :=
 .of (owner := "method_descriptor") (n := "__get__") (by rw[Bj,Ae];kernel_rfl) (by decide +kernel) (by decide +kernel) (by decide +kernel)
  (by first|exact .inl (by decide +kernel)|exact .inr (by decide +kernel)) (by rw[Be];kernel_rfl)
theorem entry_md_get:Dq Hg "method_descriptor.__get__" = some Az.«method_descriptor.__get__»:=B2 (by kernel_rfl)
theorem args_md_get (a b c:Value):CM "method_descriptor.__get__" ⟨[a,b,c],[]⟩:=by unfold CM;kernel_rfl
theorem md_set:BL (.type "method_descriptor") "__set__" = AA none:=by rw[Bj,Ae];kernel_rfl
theorem md_delete:BL (.type "method_descriptor") "__delete__" = AA none:=by rw[Bj,Ae];kernel_rfl
theorem type_dict_contains:Dc (.builtin "dict.__contains__")=AA (.type "method_descriptor"):=by show Lm _=_;rw[Gk];kernel_rfl
end B
noncomputable abbrev bmO (id:String) (d:zh):AR:={ cls:=.type "builtin_function_or_method", data:=.fields #[.builtin id,.ref d] }
theorem nY{P:Fin->zc->Prop}{id T:String}{o:AR}(ho:s.heap.get? d=some o)(hc:o.cls=.type T)(htold:BN.contains id=false)
  (hown : ".".intercalate (id.cutAt '.').dropLast=T) (hsub:CN (.type T) (.type T)=AA true) (h:P (.done (.ret (.ref s.heap.objs.size))) (wh s (s.heap.push (bmO id d)))) :
  y7 M A (Az.«method_descriptor.__get__» ⟨[.builtin id,.ref d,.type T],[]⟩) P E s:=by
 refine y0 (Ay (a:=(.builtin id,some (.ref d),some (.type T))) (by first|rfl|kernel_rfl) ?_)
 dsimp only
 rw[htold,if_neg zR]
 wp_delta
 refine y0 ?_
 wp_delta
 refine y0 ?_
 wp_delta
 rw[hown]
 refine y4 (y0 (AO (T:=T) (b:=true) ⟨o,ho,hc⟩ hsub ?_))
 exact y4 (y0 (Af (y4 h)))
theorem dK{Q:VP}{id T:String}{o:AR}(ho:s.heap.get? d=some o)(hc:o.cls=.type T)(htold:BN.contains id=false)
  (hown : ".".intercalate (id.cutAt '.').dropLast=T) (hsub:CN (.type T) (.type T)=AA true) (hty:Dc (.builtin id)=AA (.type "method_descriptor")) (h:Q (.ref s.heap.objs.size) (wh s (s.heap.push (bmO id d)))) :
  y7 (y6 prog w) A (call (.builtin "method_descriptor.__get__") [.builtin id,.ref d,.type T]) Q E s :=
 zX B.slot_md_get hty B.entry_md_get (nY ho hc htold hown hsub ⟨_,rfl,h⟩) (B.args_md_get _ _ _)
theorem gM {P:Fin->zc->Prop}{o:AR}{es:Array CV}{k:Nat}{name:zK}{u:AQ}{id:String} (hx:s.heap.get? d=some o) (hc:o.cls=.type "dict") (hdat:o.data=.dict es k) (hd:o.dict=none)
  (hl:BL (.type "dict") name=AA (some (.builtin id))) (hty:Dc (.builtin id)=AA (.type "method_descriptor")) (htold:BN.contains id=false)
  (hown : ".".intercalate (id.cutAt '.').dropLast = "dict") (hname:(["__module__", "__name__", "__qualname__", "__doc__", "__annotations__"]:List zK).contains name=false)
  (h:P (.done (.ret (.ref s.heap.objs.size))) (wh s (s.heap.push (bmO id d)))) :
  y7 (y6 prog w) A (Az.«object.__getattribute__» ⟨[.ref d,.str name u],[]⟩) P E s:=by
 obtain⟨c,dct,dat,sl⟩:=o
 simp only at hc hdat hd
 subst hc hdat hd
 obtain⟨hp,g,dr,tk,os⟩:=s
 have hT:(⟨hp,g,dr,tk,os⟩:zc).TypeIs (.ref d) "dict" := ⟨_,hx,rfl⟩
 have hT2:(⟨hp,g,dr,tk,os⟩:zc).TypeIs (.builtin id) "method_descriptor" := hty
 have f1:=B.slot_md_get.lookup
 have f2:=B.md_set
 have f3:=B.md_delete
 have hsub:CN (.type "dict") (.type "dict")=AA true:=by rw[Be];kernel_rfl
 repeat (any_goals (first|assumption|((with_reducible show y7 _ _ (call (D7 "method_descriptor.__get__") _ _) _ _ _);refine dK hx rfl htold hown hsub hty ?_)|wp_step))
 refine aQ (by rw[hname];exact zR) ?_
 repeat (any_goals (first|assumption|((with_reducible show y7 _ _ (call (D7 "method_descriptor.__get__") _ _) _ _ _);refine dK hx rfl htold hown hsub hty ?_)|wp_step))
theorem hV {P:Fin->zc->Prop}{o:AR}{es:Array (Int×Value)}{k:Nat}{tb:AE}{name:zK}{u:AQ}{id:String} (hx:s.heap.get? d=some o) (hc:o.cls=.type "set") (hdat:o.data=.set es k tb) (hd:o.dict=none)
  (hl:BL (.type "set") name=AA (some (.builtin id))) (hty:Dc (.builtin id)=AA (.type "method_descriptor")) (htold:BN.contains id=false)
  (hown : ".".intercalate (id.cutAt '.').dropLast = "set") (hname:(["__module__", "__name__", "__qualname__", "__doc__", "__annotations__"]:List zK).contains name=false)
  (h:P (.done (.ret (.ref s.heap.objs.size))) (wh s (s.heap.push (bmO id d)))) :
  y7 (y6 prog w) A (Az.«object.__getattribute__» ⟨[.ref d,.str name u],[]⟩) P E s:=by
 obtain⟨c,dct,dat,sl⟩:=o
 simp only at hc hdat hd
 subst hc hdat hd
 obtain⟨hp,g,dr,tk,os⟩:=s
 have hT:(⟨hp,g,dr,tk,os⟩:zc).TypeIs (.ref d) "set" := ⟨_,hx,rfl⟩
 have hT2:(⟨hp,g,dr,tk,os⟩:zc).TypeIs (.builtin id) "method_descriptor" := hty
 have f1:=B.slot_md_get.lookup
 have f2:=B.md_set
 have f3:=B.md_delete
 have hsub:CN (.type "set") (.type "set")=AA true:=by rw[Be];kernel_rfl
 repeat (any_goals (first|assumption|((with_reducible show y7 _ _ (call (D7 "method_descriptor.__get__") _ _) _ _ _);refine dK hx rfl htold hown hsub hty ?_)|wp_step))
 refine aQ (by rw[hname];exact zR) ?_
 repeat (any_goals (first|assumption|((with_reducible show y7 _ _ (call (D7 "method_descriptor.__get__") _ _) _ _ _);refine dK hx rfl htold hown hsub hty ?_)|wp_step))
theorem gT:BL (.type "set") "__getattr__" = AA none:=by rw[Bj,Ae];kernel_rfl
theorem dQ:Dq Hg "set.__getattribute__" = some Az.«object.__getattribute__» :=
 GD (id' := "object.__getattribute__") (by kernel_rfl) (by decide +kernel) (by decide +kernel) (by kernel_rfl)
theorem oQ {o:AR}{es:Array CV}{k:Nat}{name:zK}{id:String}{Q:VP} (hx:s.heap.get? d=some o) (hc:o.cls=.type "dict") (hdat:o.data=.dict es k) (hd:o.dict=none)
  (hl:BL (.type "dict") name=AA (some (.builtin id))) (hty:Dc (.builtin id)=AA (.type "method_descriptor")) (htold:BN.contains id=false)
  (hown : ".".intercalate (id.cutAt '.').dropLast = "dict") (hname:(["__module__", "__name__", "__qualname__", "__doc__", "__annotations__"]:List zK).contains name=false)
  (h:Q (.ref s.heap.objs.size) (wht s (s.heap.push (bmO id d)) (s.toks+1))) :
  y7 (y6 prog w) A (Hb (.ref d) name true) Q E s:=by
 obtain⟨c,dct,dat,sl⟩:=o
 simp only at hc hdat hd
 subst hc hdat hd
 obtain⟨hp,g,dr,tk,os⟩:=s
 have hT:∀ tk',(⟨hp,g,dr,tk',os⟩:zc).TypeIs (.ref d) "dict" := λZ=>⟨_,hx,rfl⟩
 have f3:=ES.lookup
 have f4:=ES.bind (.ref d)
 have f5:=am_dict_getattr_none
 repeat (any_goals (first|assumption|exact hT _|((with_reducible show y7 _ _ (call (D7 "dict.__getattribute__") _ _) _ _ _);refine zX ES (hT _) am_entry_dict_getattribute (gM hx rfl rfl rfl hl hty htold hown hname ⟨_,rfl,?_⟩) (F.args_dict_getattribute_2 _ _))|wp_step))
theorem rt {o:AR}{es:Array (Int×Value)}{k:Nat}{tb:AE}{name:zK}{id:String}{Q:VP} (hx:s.heap.get? d=some o) (hc:o.cls=.type "set") (hdat:o.data=.set es k tb) (hd:o.dict=none)
  (hl:BL (.type "set") name=AA (some (.builtin id))) (hty:Dc (.builtin id)=AA (.type "method_descriptor")) (htold:BN.contains id=false)
  (hown : ".".intercalate (id.cutAt '.').dropLast = "set") (hname:(["__module__", "__name__", "__qualname__", "__doc__", "__annotations__"]:List zK).contains name=false)
  (h:Q (.ref s.heap.objs.size) (wht s (s.heap.push (bmO id d)) (s.toks+1))) :
  y7 (y6 prog w) A (Hb (.ref d) name true) Q E s:=by
 obtain⟨c,dct,dat,sl⟩:=o
 simp only at hc hdat hd
 subst hc hdat hd
 obtain⟨hp,g,dr,tk,os⟩:=s
 have hT:∀ tk',(⟨hp,g,dr,tk',os⟩:zc).TypeIs (.ref d) "set" := λZ=>⟨_,hx,rfl⟩
 have f3:=Fg.lookup
 have f4:=Fg.bind (.ref d)
 have f5:=gT
 repeat (any_goals (first|assumption|exact hT _|((with_reducible show y7 _ _ (call (D7 "set.__getattribute__") _ _) _ _ _);refine zX Fg (hT _) dQ (hV hx rfl rfl rfl hl hty htold hown hname ⟨_,rfl,?_⟩) (F.args_set_getattribute_2 _ _))|wp_step))
theorem mr{P:UP}{id T:String}{rest:List Value}{o:AR}(hx:s.heap.get? d=some o)(hcl:o.cls=.type T)(hnc:∀ c,o.data≠.cls c)(hk:Eo id=some .method)(hva:HN.contains id=false)
  (hmod:CN (.type T) (.type "module")=AA false)
  (hargs:(match Gl id with|some sig=>Mg id { sig with full:=s!"{Bind.lastOf T}.{Bind.lastOf id}" } ⟨.ref d::rest,[]⟩|none=>AA ())=AA ()) (h:P () s) :
  y7 (y6 prog w) A (Mh id ⟨.ref d::rest,[]⟩) P E s:=by
 have hT:s.TypeIs (.ref d) T:=⟨o,hx,hcl⟩
 unfold Mh
 cases hsig:Gl id with
 | none=>exact y4 h
 | some sig =>
 rw[hsig] at hargs
 rw[hk]
 refine aQ (by decide) (y0 (AO hT hmod ?_))
 rw[hva]
 refine y0 (y0 (Dv hx (y4 ?_)))
 refine zA (c:=_) (by cases q:o.data<;> first|rfl|exact absurd q (hnc _)) (y0 (Dr hT ?_))
 exact Ay hargs h
theorem gO{B:Az}{S:BK}{Q:VP}{u:zh}{id T:String}{pos:List Value}(ho:s.heap.get? u=some (bmO id d)){o:AR}(hx:s.heap.get? d=some o)(hcl:o.cls=.type T)(hnc:∀ c,o.data≠.cls c)(hk:Eo id=some .method)(hva:HN.contains id=false)
  (hmod:CN (.type T) (.type "module")=AA false)
  (hargs:(match Gl id with|some sig=>Mg id { sig with full:=s!"{Bind.lastOf T}.{Bind.lastOf id}" } ⟨.ref d::pos,[]⟩|none=>AA ())=AA ()) (hq:FT id=true)
  (entry:Dq Hg id=some B) (g:MeetsIn prog w (B ⟨.ref d::pos,[]⟩) S) (h:S A (NK Q E) s):y7 (y6 prog w) A (call (.ref u) pos) Q E s:=by
 refine BU (EY ?_)
 refine y0 (Dv ho ?_)
 refine Bq (by kernel_rfl) ?_
 refine Bq (by kernel_rfl) (y0 (mr hx hcl hnc hk hva hmod hargs ?_))
 refine y0 (y4 (y4 ?_))
 exact⟨Au hq _,Ad entry (by rw[BV hq];exact g A (NK Q E) s h)⟩
section
variable{F:Ht}{tabs:List zh}{l:LV}{T:LO}{pos:Ej}{o:AR}{id:String}{K:Type} [DecidableEq K] {knd:KeyKind prog w K}{kvs:List (K×Value)}{k:K}{v:Value}
theorem pY{name:zK}(id:String)(S:St hb tabs L l T s.heap)(hm:(d,o)∈T)(hd:o.IsDictOf knd kvs)(h:∀ u h',St hb tabs L l ((u,bmO id d)::T) h'->Q (.ref u) (wht s h' (s.toks+1)))
  (hl:BL (.type "dict") name=AA (some (.builtin id))) (hty:Dc (.builtin id)=AA (.type "method_descriptor")) (htold:BN.contains id=false:=by decide +kernel)
  (hown : ".".intercalate (id.cutAt '.').dropLast = "dict" := by decide +kernel) (hname:(["__module__", "__name__", "__qualname__", "__doc__", "__annotations__"]:List zK).contains name=false:=by decide +kernel) :
  y7 (y6 prog w) A (Hb (.ref d) name true) Q E s:=by
 obtain⟨es,ep,hx,hdd,-⟩:=hd
 exact oQ (S.obj _ hm) hx.1 hdd hx.2.1 hl hty htold hown hname (h _ _ (S.push _))
theorem eI(h:y7 (y6 prog w) A (CH trees) (λvs s₁=>s₁.heap.get? u=some (bmO id d)/\y7 (y6 prog w) A (call (.ref u) (first++vs)) Q E s₁) E s)(hp:trees.any (·.1)=false:=by rfl) :
  y7 (y6 prog w) A (DW pos (.ref u) first trees []) Q E s:=by
 refine y0 (zs (cB hp (zi h (λx s₁ ai=>y0 (CS ?_)) λZ Z x=>x)))
 obtain⟨ho,hcall⟩:=ai
 rw[hp]
 refine y0 (m:=keeperOf (.ref u)) (y0 (Dv ho ?_))
 refine Bq (by kernel_rfl) ?_
 rw[if_pos (c:=((bmO id d).cls==.type "builtin_function_or_method" || (bmO id d).cls==.type "method-wrapper")=true) (by kernel_rfl)]
 exact y4 (y0 (zi hcall (λr ag hr=>y0 (zs (wpAny_point (y4 hr)))) λZ Z x=>x))
theorem nD:CN (.type "dict") (.type "module")=AA false:=by rw[Be];kernel_rfl
theorem xd (G:Gd F tabs hb) (S:St hb tabs L l T s.heap) (hu:(u,bmO "dict.get" d)∈T) (hm:(d,o)∈T) (hd:o.IsDictOf knd kvs) (hkey:knd.is k key=true) (h:Q ((AV kvs k).getD Jw) (wt s (s.toks+1))) :
  y7 (y6 prog w) A (call (.ref u) [key,Jw]) Q E s:=by
 have hD:=ja S hm hd
 obtain⟨es,ep,hx,hdd,-⟩:=id hd
 exact gO (T := "dict") (S.obj _ hu) (S.obj _ hm) hx.1 (λc q=>by rw[hdd] at q;cases q) (by decide +kernel) (by decide +kernel) nD
  (by rw[PySem.signature?_of (id := "dict.get") (n:=['t','e','g']) (o:=['t','c','i','d']) (by kernel_rfl) PySem.F.owner_dict];kernel_rfl) (by decide +kernel) H8 (H9 knd d hkey (S.notMods G hm) Jw) ⟨_,hD.mapOf,h⟩
theorem mz (G:Gd F tabs hb) (S:St hb tabs L l T s.heap) (hu:(u,bmO "dict.__contains__" d)∈T) (hm:(d,o)∈T) (hd:o.IsDictOf knd kvs) (hkey:knd.is k key=true) (h:Q (.bool (AV kvs k).isSome) (wt s (s.toks+1))) :
  y7 (y6 prog w) A (call (.ref u) [key]) Q E s:=by
 have hD:=ja S hm hd
 obtain⟨es,ep,hx,hdd,-⟩:=id hd
 exact gO (T := "dict") (S.obj _ hu) (S.obj _ hm) hx.1 (λc q=>by rw[hdd] at q;cases q) (by decide +kernel) (by decide +kernel) nD
  (by first|kernel_rfl) (by decide +kernel) entry_dict_contains (meets_dict_contains knd d hkey (S.notMods G hm)) ⟨_,hD.mapOf,h⟩
end
end
noncomputable abbrev cJ (led:Bool):AR:={ cls:=.type "set", dict:=none,data:=.set #[] 0 (.fresh 0 0 led) }
section
variable{tabs:List zh}{l l':LV}{T own:LO}
theorem St.forget(S:St hb tabs L l T h)(hs:l'.Sublist l):St hb tabs L l' T h:=by
 obtain⟨oL,e,es,ep,m,a,b,c,d,n⟩:=S.fm
 exact⟨⟨oL,e,es,ep,m,a,b,c,λp hp=>d p (hs.subset hp),n.sublist (hs.map _)⟩,S.lnew,S.keep,S.tab,S.obj,S.new,S.nd⟩
end
section
variable{F:Ht}{tabs:List zh}{a:zh}{l:LV}{T:LO}{pos:Ej}{o:AR}{K:Type} [DecidableEq K] {knd:JG prog w K}{k:K}{v:Value}{vs:List Value}{n:Nat}
theorem uF (S:St hb tabs L l T s.heap) (h:∀ a led h',St hb tabs L l ((a,cJ led)::T) h'->Q (.ref a) (wh s h')):y7 (y6 prog w) A (call (.type "set") []) Q E s :=
 call_set_0 λled=>h _ led _ (S.push _)
theorem cA(i:Nat)(S:St hb tabs L l T s.heap)(hi:T[i]? = some (d,ap vs n))(h:∀ h',St hb tabs L l (T.set i (d,ap (vs++[v]) (n+1))) h'->Q .none (wh s h'))(hz:vs.length<=10000) :
  y7 (y6 prog w) A (call (.builtin "list.append") [.ref d,v]) Q E s :=
 append_at (hsz:=by rw[zz,zg];exact up 16767216 hz) (S.obj _ (zp hi)) λh' hs ho=>h h' (S.change i hi hs (by rw[ho];simp[ap]))
theorem vG(led:Bool){h:AJ}(hx:h.get? d=some (cJ led)):h.SetOf knd d (λZ=>false) 0 :=
 ⟨_,#[],0,.fresh 0 0 led,hx,⟨rfl,rfl,rfl⟩,rfl,(λe he=>by simp at he),(λk=>⟨λq=>by simp at q,λq=>by obtain⟨e,he,_⟩:=q;simp at he⟩),by decide,by cases led<;> decide,rfl⟩
theorem xV{name:zK}(id:String)(led:Bool)(S:St hb tabs L l T s.heap)(hm:(d,cJ led)∈T)(h:∀ u h',St hb tabs L l ((u,bmO id d)::T) h'->Q (.ref u) (wht s h' (s.toks+1)))
  (hl:BL (.type "set") name=AA (some (.builtin id))) (hty:Dc (.builtin id)=AA (.type "method_descriptor")) (htold:BN.contains id=false:=by decide +kernel)
  (hown : ".".intercalate (id.cutAt '.').dropLast = "set" := by decide +kernel) (hname:(["__module__", "__name__", "__qualname__", "__doc__", "__annotations__"]:List zK).contains name=false:=by decide +kernel) :
  y7 (y6 prog w) A (Hb (.ref d) name true) Q E s :=
 rt (S.obj _ hm) rfl rfl rfl hl hty htold hown hname (h _ _ (S.push _))
theorem vF:CN (.type "set") (.type "module")=AA false:=by rw[Be];kernel_rfl
theorem gl(hkey:knd.is k key=true)(hsc:key.scannable=true) :
  MeetsIn prog w (Az.«frozenset.__contains__» ⟨[.ref a,key],[]⟩) (λZ R s=>Ex2 λS n=>s.heap.SetOf knd a S n/\R (.ok (.ret (.bool (S k)))) (wt s (s.toks+1))) :=
 .of_wp λA R s ⟨S,n,hS,h⟩=>by
  unfold Az.«frozenset.__contains__» Mi
  simp only[KQ,bind_assoc]
  refine y0 (y4 ?_)
  try dsimp only
  refine y0 (y4 ?_)
  try dsimp only
  refine y0 (DF ?_)
  refine zs (y0 (knd.pyHash hkey ?_))
  refine y0 (wpAny_setFind_of (s:=(wt s (s.toks+1))) hkey hsc hS λr hr=>?_)
  refine y4 ?_
  show y7 _ _ (ret (FM r.isSome)) _ _ _
  rw[hr]
  exact y4 ⟨_,rfl,h⟩
theorem nN (led:Bool) (S:St hb tabs L l T s.heap) (hu:(u,bmO "set.__contains__" d)∈T) (hm:(d,cJ led)∈T) (hkey:knd.is k key=true) (hsc:key.scannable=true) (h:Q (.bool false) (wt s (s.toks+1))) :
  y7 (y6 prog w) A (call (.ref u) [key]) Q E s :=
 gO (T := "set") (S.obj _ hu) (S.obj _ hm) rfl (λc q=>by cases q) (by decide +kernel) (by decide +kernel) vF
  (by first|kernel_rfl) (by decide +kernel) entry_set_contains (gl (knd:=knd) hkey hsc) ⟨_,0,vG led (S.obj _ hm),h⟩
end
def uo(la:List zK)(i:Nat)(v:Value):Prop:=Ex2 λc u=>la[i]? = some c/\v=.str c u
structure ItV(prog:Bm)(w:As)(hb:AJ)(tabs:List zh)(Ra:LO)(I:zh)(n:Nat)(P:Nat->Value->Prop)(Wt:Nat->AJ->Prop)(fp:List zh):Prop where
 walks:∀ A:AU,A.handled=none->Walks prog w A I fp [I] n P Wt
 ex:∀ i h,Wt i h->∃ o,h.get? I=some o
 ro:∀ b∈fp,b∉[I]->(∃ o,(b,o)∈Ra)\/∃ o,hb.get? b=some o/\b∉tabs
structure ItU(prog:Bm)(w:As)(hb:AJ)(tabs:List zh)(Ra:LO)(I:zh)(wr:List zh)(n:Nat)(Pt:Nat->Array Value->Prop)(Wt:Nat->AJ->Prop)(Mid:Nat->zh->AJ->Prop)(fp:List zh):Prop where
 walks:∀ A:AU,A.handled=none->NC prog w A I fp wr n Pt Wt Mid
 ex:∀ i h,Wt i h->∀ b∈wr,∃ o,h.get? b=some o
 ro:∀ b∈fp,b∉wr->(∃ o,(b,o)∈Ra)\/∃ o,hb.get? b=some o/\b∉tabs
section
variable{z:zc}{tabs:List zh}{l:LV}{T own Ro:LO}{n:Nat}{P:Nat->Value->Prop}
theorem jm{K:Nat->LV->LO->Prop}(i:Nat)(tk tk':AQ)(l:LV)(T:LO)(_:tk<=tk')(h:K i l T):K i l T:=h
theorem ow{M:HL}(i:Nat)(s:zc)(v:Value)(Q:UP)(E:VP)(_:Wt i s.heap)(h:Q () s):y7 M A (AA ()) Q E s:=y4 h
theorem ItV.loop{o:AR}{R:Cm->zc->Prop}(IV:ItV prog w hb tabs Ro I n P Wt fp)(hh:A.handled=none)(S:St hb tabs L l (T++[(I,o)]) s.heap)(hst:Wt 0 s.heap)
  (J:Nat->AQ->LV->LO->Prop) (h0:J 0 s.toks l T) (hR0:∀ p∈Ro,p∈T)
  (GF:∀ E i v l₁ T1 own1 s₁,i<n->P i v->J i s₁.toks l₁ T1->St hb tabs L l₁ (T1++own1) s₁.heap->(∀ p∈Ro,p∈T1)->Kp z s₁ ->
   y7 (y6 prog w) A (BR target env v) (oD (y6 prog w) A env E body (qF hb tabs L own1 Ro (J (i+1)) z R)) E s₁)
  (hR:∀ s' l' T',Kp z s'->St hb tabs L l' T' s'.heap->J n s'.toks l' T'->(∀ p∈Ro,p∈T')->R (.ok .next) s')
  (hmono:∀ i tk tk' l T,tk<=tk'->J i tk l T->J i tk' l T:=by exact jm)
  (hown:∀ i (s:zc) v (Q:UP) E,Wt i s.heap->Q () s->y7 (y6 prog w) A (C0 target (.ref I) v) Q E s:=by exact ow) (ez:Kp z s:=by exact⟨rfl,id⟩) :
  zW (y6 prog w) A (.forLoop target (.ref I) body [] env) R s:=by
 refine Jy (LInv hb tabs L Ro [I] Wt J z n) ?_ n ⟨0,l,T,[(I,o)],rfl,S,hst,h0,hR0,ez,zD _,rfl⟩
 rintro k s' ⟨i,l₁,T1,own1,how1,ah,hst1,hJ,hRo,hKp,hi,rfl⟩
 have W:=IV.walks A hh
 by_cases hlt:i<n
 ·refine AH (zk s'.toks) (W.item i _ _ _ hlt hst1 λv ai br hP hst2 b6 htk=>?_)
  obtain⟨own2,bh,af⟩:=ah.moved (h':=ai) (λb o hb' e=>b6 b o (how1▸hb') e) (λb hb'=>by rw[how1,y9] at hb';subst hb';exact IV.ex _ _ hst2)
  exact hown (i+1) _ _ _ _ hst2 (zi (GF _ i v l₁ T1 own2 (wht s' ai br) hlt hP (hmono _ _ _ _ _ htk hJ) af hRo hKp.with) (λZ ag am=>zi am (λf s3 ak=>mH W.frame IV.ro hlt (bh.trans how1) af hst2 hRo ak) λZ Z e=>e) λZ Z e=>e)
 ·cases z8u hi hlt
  exact AH (zk s'.toks) (W.done _ _ _ hst1 λai br b6 htk=>CZ (hR _ l₁ T1 hKp.with (ah.drop λb o hb' e=>b6 b o (how1▸hb') e) (hmono _ _ _ _ _ htk hJ) hRo))
theorem ItU.loop{R:Cm->zc->Prop}(IU:ItU prog w hb tabs Ro I wr n Pt Wt Mid fp)(hh:A.handled=none)(how:own.map (·.1)=wr)(S:St hb tabs L l (T++own) s.heap)(hst:Wt 0 s.heap)
  (J:Nat->LV->LO->Prop) (h0:J 0 l T) (hR0:∀ p∈Ro,p∈T)
  (hsz:∀ i vals,Pt i vals->(BS elts env).length=vals.size) (hstar:(BS elts env).findIdx? (·.1)=none)
  (GF:∀ E i vals l₁ T1 own1 s₁,i<n->Pt i vals->J i l₁ T1->St hb tabs L l₁ (T1++own1) s₁.heap->(∀ p∈Ro,p∈T1)->Kp z s₁ ->
   y7 (y6 prog w) A (Cf ((BS elts env).map (·.2)) vals.toList) (oD (y6 prog w) A env E body (kTurn hb tabs L own1 Ro (J (i+1)) z R)) E s₁)
  (hR:∀ s' l' T',Kp z s'->St hb tabs L l' T' s'.heap->J n l' T'->(∀ p∈Ro,p∈T')->R (.ok .next) s') (ez:Kp z s:=by exact⟨rfl,id⟩) :
  zW (y6 prog w) A (.forLoop (.Tuple elts x1 tpos) (.ref I) body [] env) R s:=by
 refine Jy (LInv hb tabs L Ro wr Wt (λi Z=>J i) z n) ?_ n ⟨0,l,T,own,how,S,hst,h0,hR0,ez,zD _,rfl⟩
 rintro k s' ⟨i,l₁,T1,own1,how1,ah,hst1,hJ,hRo,hKp,hi,rfl⟩
 have W:=IU.walks A hh
 by_cases hlt:i<n
 ·refine W.item i _ _ _ hlt hst1 λtu vals ai br hP htu hmid b6=>(W.go elts x1 tpos i tu _ _ _ hmid λam hst2 hk2=>?_)
  have cg:am.IsTuple tu vals:=htu.at λo e=>hk2 tu o (W.apart i tu ai hmid) e
  obtain⟨own2,bh,af⟩:=ah.moved (h':=am) (λb o hb' e=>hk2 b o (how1▸hb') (b6 b o (how1▸hb') e)) (λb hb'=>IU.ex _ _ hst2 b (how1▸hb'))
  refine JP hh cg (hsz i vals hP) hstar λak cq=>?_
  replace cq:He am.objs.size am ak:=cq
  have ae:=af.extBut cq
  have hst3:Wt (i+1) ak:=W.frame _ _ _ hst2 λb hb' o e=>cq b o (Ag (AL e)) e
  exact zi (GF _ i vals l₁ T1 own2 (wht s' ak br) hlt hP hJ ae hRo hKp.with) (λZ ag ec=>zi ec (λf s3 h3'=>mH (J:=λi Z=>J i) W.frame IU.ro hlt (bh.trans how1) ae hst3 hRo h3') λZ Z e=>e) λZ Z e=>e
 ·cases z8u hi hlt
  exact W.done _ _ _ hst1 λai br b6=>CZ (hR _ l₁ T1 hKp.with (ah.drop λb o hb' e=>b6 b o (how1▸hb') e) hJ hRo)
end
structure SqV(prog:Bm)(w:As)(hb:AJ)(tabs:List zh)(Ra:LO)(va:Value)(la:List zK):Prop where
 len:∀ {A:AU}{E:VP}{s:zc}{L:zh}{l:LV}{T:LO}{Q:VP},St hb tabs L l T s.heap->(∀ p∈Ra,p∈T) ->
  (∀ t tk,Q (.int la.length t) (wt s tk))->y7 (y6 prog w) A (call (.builtin "len") [va]) Q E s
 hand:Md va=true
 small:la.length<=60
 item:∀ {A:AU}{E:VP}{s:zc}{L:zh}{l:LV}{T:LO}{Q:VP}{value slice:Expr}{i:Nat}{t:AQ}{c:zK},St hb tabs L l T s.heap->(∀ p∈Ra,p∈T) ->
  la[i]? = some c->(∀ u tk,Q (.str c u) (wt s tk))->(∀ o k,Hh slice false o (.int k t)=J9 [o,.int k t] (Dg o (.int k t)))->y7 (y6 prog w) A (JH value slice va (.int i t)) Q E s
 iter:∀ {A:AU}{E:VP}{s:zc}{L:zh}{l:LV}{T:LO}{Q:VP},St hb tabs L l T s.heap->(∀ p∈Ra,p∈T) ->
  (∀ I o Wt fp h',ItV prog w hb tabs Ra I la.length (uo la) Wt fp->Wt 0 h'->St hb tabs L l (T++[(I,o)]) h'->Q (.ref I) (wh s h'))->y7 (y6 prog w) A (EM va) Q E s
 enum:∀ {A:AU}{E:VP}{s:zc}{L:zh}{l:LV}{T:LO}{Q:VP},A.handled=none->St hb tabs L l T s.heap->(∀ p∈Ra,p∈T) ->
  (∀ I J o o' Wt Mid fp h',ItU prog w hb tabs Ra I [I,J] la.length (λi vals=>Ex2 λt x=>uo la i x/\vals = #[.int i t,x]) Wt Mid fp->Wt 0 h'->St hb tabs L l (T++[(I,o),(J,o')]) h'->Q (.ref I) (wh s h')) ->
  y7 (y6 prog w) A (call (.type "enumerate") [va]) Q E s
noncomputable def aA(x:zK):List zK:=x.cps.toList.map λc=>⟨#[c]⟩
theorem aF(x:zK):(aA x).length=x.cps.size:=by simp[aA]
theorem eF{x:zK}{i:Nat}{v:Value}(h:SignAt x i v):uo (aA x) i v:=by
 obtain⟨c,u,e,rfl⟩:=h
 exact⟨⟨#[c]⟩,u,by simp[aA,e],rfl⟩
theorem lZ{x:zK}{i:Nat}{c:zK}(h:(aA x)[i]? = some c):∃ k,x.cps[i]? = some k/\c=⟨#[k]⟩:=by
 unfold aA at h
 rw[zE] at h
 obtain⟨k,e,rfl⟩:=z0.mp h
 exact⟨k,by simpa using e,rfl⟩
section
variable{tabs:List zh}
theorem bM{A:AU}{I:zh}{fp wr:List zh}{n:Nat}{P P':Nat->Value->Prop}{Wt:Nat->AJ->Prop}(W:Walks prog w A I fp wr n P Wt)(h:∀ i v,P i v->P' i v):Walks prog w A I fp wr n P' Wt :=
 ⟨W.sub,W.frame,λi s Q E hi st hQ=>W.item i s Q E hi st λv h' tk a b c=>hQ v h' tk (h _ _ a) b c,W.done,W.self⟩
theorem eS{A:AU}{I:zh}{fp wr:List zh}{n:Nat}{P P':Nat->Array Value->Prop}{Wt:Nat->AJ->Prop}{Mid:Nat->zh->AJ->Prop}(W:NC prog w A I fp wr n P Wt Mid)(h:∀ i v,P i v->P' i v):NC prog w A I fp wr n P' Wt Mid :=
 ⟨W.sub,W.frame,λi s Q E hi st hQ=>W.item i s Q E hi st λT vals h' tk a b c d=>hQ T vals h' tk (h _ _ a) b c d,W.go,W.apart,W.done,W.self⟩
theorem gv{h:AJ}{a b:zh}{k:Int}{v:Value}(h':IsEnum h a b k v):∃ o,h.get? a=some o:=⟨_,h'⟩
theorem uw(x:zK)(t:AQ)(hx:x.cps.size<=60):SqV prog w hb tabs [] (.str x t) (aA x) where
 len:=λS Z h=>by
  have e:x.length=x.cps.size:=rfl
  refine len_str (by rw[e];lia) ?_
  have:=h
  rw[aF] at this
  exact this _ _
 hand:=rfl
 small:=by rw[aF];exact hx
 item:=λ{A E s L l T Q value slice i u c} S _ hi h hs=>by
  obtain⟨k,e,rfl⟩:=lZ hi
  have hlt:i<x.cps.size:=by
   rcases AP i x.cps.size with q|q
   ·exact q
   ·rw[BG q] at e;nomatch e
  refine Nq (Mj s x t) slot_str_getitem.lookup (getItem_str (c:=k) ?_ ?_ (h _ _)) (hs _ _)
  ·simp only[FW,decide_eq_false_iff_not];lia
  ·have:HO (i:Int) x.length=some i:=by
    unfold HO
    simp
    exact x11 hlt
   rw[this];exact e
 iter:=λ{A E s L l T Q} S _ h=>by
  refine wpAny_pyIter_strU ?_
  cases ha:x.cps.all (· < 128)
  ·have e:Ep x = "str_iterator" := by simp[Ep,ha]
   rw[e]
   refine h _ _ (λi h=>h.IsStrIter s.heap.objs.size "str_iterator" x t i) _ _ ⟨λA hA=>aF x▸bM (Walks.strWide hA _ x t) λZ Z=>eF,λi h q=>let ⟨o,e,_⟩:=q;⟨o,e⟩,λb hb' hn=>absurd hb' hn⟩ ⟨_,zU _ rfl,rfl,rfl⟩ (S.push _).last
  ·have e:Ep x = "str_ascii_iterator" := by simp[Ep,ha]
   rw[e]
   refine h _ _ (λi h=>h.IsStrIter s.heap.objs.size "str_ascii_iterator" x t i) _ _ ⟨λA hA=>aF x▸bM (Walks.strAscii hA _ x t) λZ Z=>eF,λi h q=>let ⟨o,e,_⟩:=q;⟨o,e⟩,λb hb' hn=>absurd hb' hn⟩ ⟨_,zU _ rfl,rfl,rfl⟩ (S.push _).last
 enum:=λ{A E s L l T Q} hh S _ h=>by
  refine call_enumerate_str λh' he hi hz hk=>?_
  obtain⟨oe,hoe⟩:=gv he
  obtain⟨oi,hoi,-⟩:=id hi
  have S':St hb tabs L l (T++[(s.heap.objs.size+1,oe),(s.heap.objs.size,oi)]) h':=S.adds hk (λp hp=>by
   rcases za.mp hp with rfl|hp
   ·exact hoe
   ·rcases za.mp hp with rfl|hp
    ·exact hoi
    ·nomatch hp) (λp hp=>by
   rcases za.mp hp with rfl|hp
   ·exact C6 _
   ·rcases za.mp hp with rfl|hp
    ·exact zk _
    ·nomatch hp) (by simp)
  cases ha:x.cps.all (· < 128)
  ·have e:Ep x = "str_iterator" := by simp[Ep,ha]
   rw[e] at hi
   refine h _ _ _ _ _ _ _ _ ⟨λA hA=>aF x▸eS (toU (Hi (Draws.strWide (A:=A.in1) hA s.heap.objs.size x t) (s.heap.objs.size+1) (FQ _) (by simp) (by simp))) (λi v q=>?e1),?e2,?e3⟩ ⟨⟨_,he⟩,hi⟩ S'
   case e1 =>
    obtain⟨t,x',a,b⟩:=q
    exact⟨t,x',eF a,b⟩
   case e2 =>
    rintro i h ⟨⟨old,q⟩,q2⟩ b hb'
    rcases za.mp hb' with rfl|hb'
    ·exact gv q
    ·rw[y9] at hb';subst hb'
     obtain⟨o,e,_⟩:=q2
     exact⟨o,e⟩
   case e3 =>
    exact λb hb' hn=>absurd hb' hn
  ·have e:Ep x = "str_ascii_iterator" := by simp[Ep,ha]
   rw[e] at hi
   refine h _ _ _ _ _ _ _ _ ⟨λA hA=>aF x▸eS (toU (Hi (Draws.strAscii (A:=A.in1) hA s.heap.objs.size x t) (s.heap.objs.size+1) (FQ _) (by simp) (by simp))) (λi v q=>?e1),?e2,?e3⟩ ⟨⟨_,he⟩,hi⟩ S'
   case e1 =>
    obtain⟨t,x',a,b⟩:=q
    exact⟨t,x',eF a,b⟩
   case e2 =>
    rintro i h ⟨⟨old,q⟩,q2⟩ b hb'
    rcases za.mp hb' with rfl|hb'
    ·exact gv q
    ·rw[y9] at hb';subst hb'
     obtain⟨o,e,_⟩:=q2
     exact⟨o,e⟩
   case e3 =>
    exact λb hb' hn=>absurd hb' hn
end
section
variable{K:Type}[DecidableEq K]
theorem bD(k k':K)(v:Value)(l:List (K×Value)):AV ((k,v)::l) k'=if k=k' then some v else AV l k':=by
 unfold AV
 by_cases h:k=k'
 ·simp[h]
 ·simp[h]
theorem jn(l r:List (K×Value))(k:K):AV (l++r) k=(AV l k).or (AV r k):=by
 unfold AV
 rw[List.find?_append]
 cases l.find? λkv=>decide (kv.1=k)<;> simp
theorem lH(l:List (K×Value))(k k':K)(v:Value):AV (l.map λkv=>if kv.1=k then (kv.1,v) else kv) k'=if k=k' then (AV l k').map λZ=>v else AV l k':=by
 induction l with
 | nil=>simp[AV]
 | cons p l ih =>
  obtain⟨a,u⟩:=p
  rw[AD]
  by_cases h:a=k
  ·simp only[h,if_true]
   rw[bD,ih,bD]
   by_cases h2:k=k'
   ·simp[h2]
   ·simp[h2]
  ·simp only[h,if_false]
   rw[bD,ih,bD]
   by_cases h2:a=k'
   ·have:k≠k':=λe=>h (h2.trans e.symm)
    simp[h2,this]
   ·simp[h2]
theorem kH(l:List (K×Value))(k:K):l.any (λkv=>decide (kv.1=k))=(AV l k).isSome:=by
 induction l with
 | nil=>rfl
 | cons p l ih =>
  obtain⟨a,u⟩:=p
  rw[bD,JF,ih]
  by_cases h:a=k<;> simp[h]
theorem bZ(l:List (K×Value))(k k':K)(v:Value):AV (Hx l k v) k'=if k=k' then some v else AV l k':=by
 unfold Hx
 split
 ·rename_i h
  rw[lH]
  by_cases h2:k=k'
  ·subst h2
   rw[kH] at h
   obtain⟨u,e⟩:=Option.isSome_iff_exists.mp h
   simp[e]
  ·simp[h2]
 ·rename_i h
  rw[jn]
  have hn:AV l k=none:=by
   rw[kH] at h
   simpa using h
  rw[bD]
  by_cases h2:k=k'
  ·subst h2;simp[hn]
  ·simp[h2,AV]
theorem gD(l:List (K×Value))(k:K)(v:Value):(Hx l k v).length<=l.length+1:=stored_length_le l k v
end
noncomputable def bN(lb:List zK)(c:zK):List Nat:=(zQ lb.length).filter λi=>decide (lb[i]? = some c)
theorem iN(lb:List zK)(d c:zK):bN (lb++[d]) c=bN lb c++if d=c then [lb.length] else []:=by
 unfold bN
 rw[zO,Ef,List.range_succ,Bx]
 congr 1
 ·apply Fp
  intro i hi
  have hi:=zV.mp hi
  rw[Dh hi]
 ·rw[EE]
  by_cases h:d=c<;> simp[h]
theorem eO{lb:List zK}{c:zK}:bN lb c=[]↔c∉lb:=by
 unfold bN
 rw[Ia]
 constructor
 ·intro h hm
  obtain⟨i,hi,e⟩:=I1.mp hm
  exact h i (zV.mpr hi) (by simp[zl hi,e])
 ·exact λh i hi hd=>h (zp (of_decide_eq_true hd))
inductive bX:List Value->List Nat->Prop
 | nil:bX [] []
 | cons {n:Nat}{t:AQ}{vs:List Value}{ns:List Nat}:bX vs ns->bX (.int n t::vs) (n::ns)
theorem bX.snoc{vs:List Value}{ns:List Nat}(h:bX vs ns)(n:Nat)(t:AQ):bX (vs++[.int n t]) (ns++[n]):=by
 induction h with
 | nil=>exact .cons .nil
 | cons _ ih=>exact .cons ih
theorem bX.len{vs:List Value}{ns:List Nat}(h:bX vs ns):vs.length=ns.length:=by
 induction h with
 | nil=>rfl
 | cons _ ih=>rw[zL,zL,ih]
theorem bX.get{vs:List Value}{ns:List Nat}(h:bX vs ns){i:Nat}{v:Value}(e:vs[i]? = some v):Ex2 λn t=>ns[i]? = some n/\v=.int n t:=by
 induction h generalizing i with
 | nil=>simp at e
 | cons _ ih =>
  rename_i n t vs ns _
  cases i with
  | zero=>simp at e;subst e;exact⟨n,t,by simp,rfl⟩
  | succ i=>simp at e;obtain⟨m,u,a,b⟩:=ih e;exact⟨m,u,by simpa using a,b⟩
structure aW where
 c:zK
 a:zh
 vs:List Value
 n:Nat
noncomputable def aW.kv(r:aW):zK×Value:=(r.c,.ref r.a)
noncomputable def aW.ob(r:aW):zh×AR:=(r.a,ap r.vs r.n)
structure cI(lb:List zK)(rows:List aW):Prop where
 nd:(rows.map (·.c)).Nodup
 at_:∀ r∈rows,bX r.vs (bN lb r.c)
 all:∀ c∈lb,c∈rows.map (·.c)
 sub:∀ c∈rows.map (·.c),c∈lb
theorem cV{rows:List aW}{c:zK}{v:Value}(h:AV (rows.map aW.kv) c=some v):Ex2 λ(j:Nat) (r:aW)=>An3 (rows[j]? = some r) (r.c=c) (v=.ref r.a):=by
 induction rows with
 | nil=>simp[AV] at h
 | cons r rows ih =>
  rw[AD] at h
  rw[show r.kv=(r.c,AW r.a) from rfl,bD] at h
  split at h
  ·rename_i e
   cases h
   exact⟨0,r,rfl,e,rfl⟩
  ·obtain⟨j,r',a,b,c⟩:=ih h
   exact⟨j+1,r',by rw[Fh];exact a,b,c⟩
theorem cX{rows:List aW}{c:zK}(h:AV (rows.map aW.kv) c=none):c∉rows.map (·.c):=by
 intro hm
 obtain⟨r,hr,rfl⟩:=zd.mp hm
 have:(AV (rows.map aW.kv) r.c).isSome=true:=by
  rw[<- kH,KH]
  exact⟨r.kv,zd.mpr ⟨r,hr,rfl⟩,by simp[aW.kv]⟩
 rw[h] at this;cases this
theorem cI.old{lb:List zK}{rows:List aW}(R:cI lb rows){j:Nat}{r:aW}(hj:rows[j]? = some r){t:AQ}{n:Nat}:cI (lb++[r.c]) (rows.set j ⟨r.c,r.a,r.vs++[.int lb.length t],n⟩):=by
 have hm:=zp hj
 have hk:(rows.set j ⟨r.c,r.a,r.vs++[.int lb.length t],n⟩).map (·.c)=rows.map (·.c):=by
  rw[Ka]
  apply Cx
  intro i
  rw[Ds]
  by_cases e:j=i
  ·subst e
   rw[zE,hj]
   simp[(zY.mp hj).1]
  ·rw[if_neg e]
 refine⟨hk▸R.nd,λr' hr'=>?_,λc hc=>?_,λc hc=>?_⟩
 ·obtain⟨i,hi⟩:=List.mem_iff_getElem?.mp hr'
  rw[Ds] at hi
  rw[iN]
  by_cases e:j=i
  ·subst e
   rw[if_pos rfl] at hi
   split at hi
   ·cases hi
    rw[if_pos rfl]
    exact (R.at_ r hm).snoc _ _
   ·cases hi
  ·rw[if_neg e] at hi
   have hne:r.c≠r'.c:=by
    intro q
    have h1:(rows.map (·.c))[j]? = some r.c:=by rw[zE,hj];rfl
    have h2:(rows.map (·.c))[i]? = some r.c:=by rw[zE,hi,q];rfl
    exact e ((J5 (zY.mp h1).1 R.nd).mp (h1.trans h2.symm))
   rw[if_neg hne,Aq]
   exact R.at_ r' (zp hi)
 ·rw[hk]
  rcases zf.mp hc with q|q
  ·exact R.all c q
  ·rw[y9.mp q];exact zd.mpr ⟨r,hm,rfl⟩
 ·rw[hk] at hc
  exact y8 _ (R.sub c hc)
theorem cI.new{lb:List zK}{rows:List aW}(R:cI lb rows){c:zK}(hc:c∉rows.map (·.c)){a:zh}{t:AQ}{n:Nat}:cI (lb++[c]) (rows++[⟨c,a,[.int lb.length t],n⟩]):=by
 have hlb:c∉lb:=λq=>hc (R.all c q)
 refine⟨?_,λr' hr'=>?_,λd hd=>?_,λd hd=>?_⟩
 ·rw[zG,CW]
  refine⟨R.nd,by simp,λd hd e he q=>hc ?_⟩
  simp at he
  rw[<- he,<- q];exact hd
 ·rw[iN]
  rcases zf.mp hr' with q|q
  ·have:c≠r'.c:=λe=>hc (e▸zd.mpr ⟨r',q,rfl⟩)
   rw[if_neg this,Aq]
   exact R.at_ r' q
  ·rw[y9.mp q]
   rw[if_pos rfl,eO.mpr hlb]
   exact .cons .nil
 ·rw[zG]
  rcases zf.mp hd with q|q
  ·exact y8 _ (R.all d q)
  ·exact y5 _ (by simpa using q)
 ·rw[zG] at hd
  rcases zf.mp hd with q|q
  ·exact y8 _ (R.sub d q)
  ·exact y5 _ (by simpa using q)
theorem cI.nil:cI [] []:=⟨C9,nofun,nofun,nofun⟩
theorem iy{rows:List aW}{c:zK}{a:zh}(h:AV (rows.map aW.kv) c=none):Hx (rows.map aW.kv) c (.ref a)=(rows++[(⟨c,a,[],0⟩:aW)]).map aW.kv:=by
 unfold Hx
 rw[kH,h]
 simp[aW.kv]
theorem ka{α:Type}[DecidableEq α]:∀ {l m:List α},l.Nodup->(∀ x∈l,x∈m)->l.length<=m.length:=by
 intro l
 induction l with
 | nil =>
  intro m Z Z
  exact zD _
 | cons a l IH =>
  intro m nd h
  have n:=zu.mp nd
  have ha:=h a (.head _)
  have ih:=IH n.2 (λx hx=>(List.mem_erase_of_ne (λe:x=a=>n.1 (e▸hx))).mpr (h x (aj hx)))
  have:=List.length_erase_of_mem ha
  have hp:0<m.length:=Ib ha
  rw[zL];exact zbj ih this hp
theorem cI.small{lb:List zK}{rows:List aW}(R:cI lb rows):rows.length<=lb.length:=by
 have:=ka R.nd R.sub
 rwa [ze] at this
theorem gK(lb:List zK)(c:zK):(bN lb c).length<=lb.length:=by
 have:=BO (λi=>decide (lb[i]? = some c)) (zQ lb.length)
 rwa [Ca] at this
section
variable{rows:List aW}{r r':aW}{X:LO}
theorem yC(hj:rows[j]? = some r):(rows.map aW.ob++X)[j]? = some r.ob:=by
 have hl:=(zY.mp hj).1
 rw[Dh (by rw[ze];exact hl),zE,hj];rfl
theorem xC(hj:rows[j]? = some r):(rows.map aW.ob++X).set j r'.ob=(rows.set j r').map aW.ob++X:=by
 have hl:=(zY.mp hj).1
 rw[List.set_append_left _ _ (by rw[ze];exact hl),Ka]
theorem xD(hj:rows[j]? = some r)(hc:r'.c=r.c)(ha:r'.a=r.a):(rows.set j r').map aW.kv=rows.map aW.kv:=by
 rw[Ka]
 apply Cx
 intro i
 rw[Ds]
 by_cases e:j=i
 ·subst e
  rw[zE,hj]
  simp[(zY.mp hj).1,aW.kv,hc,ha]
 ·rw[if_neg e]
end
section
open PySem.Spec
section
variable{a b c d e f g i j k:α}{l:List α}
theorem m0:a∈a::l:=.head _
theorem m1:a∈b::a::l:=aj (.head _)
theorem m2:a∈b::c::a::l:=aj m1
theorem m3:a∈b::c::d::a::l:=aj m2
theorem m4:a∈b::c::d::e::a::l:=aj m3
theorem m5:a∈b::c::d::e::f::a::l:=aj m4
theorem m6:a∈b::c::d::e::f::g::a::l:=aj m5
theorem m7:a∈b::c::d::e::f::g::i::a::l:=aj m6
theorem m8:a∈b::c::d::e::f::g::i::j::a::l:=aj m7
theorem m9:a∈b::c::d::e::f::g::i::j::k::a::l:=aj m8
end
section
variable{F:Ht}{tabs:List zh}{a:zh}{l:LV}{T:LO}{pos:Ej}{o:AR}{K:Type} [DecidableEq K] {knd:JG prog w K}{kvs:List (K×Value)}{k:K}{v:Value}{vs:List Value}{n:Nat}
theorem j3 {pl:LH Bool}{name:zK}{id:String}{Q:Value×List Value->zc->Prop} (S:St hb tabs L l T s.heap) (hm:(d,o)∈T) (hd:o.IsDictOf knd kvs) (slot:ND "dict" name id) (ty:Dc (.builtin id)=AA (.type "method_descriptor"))
  (h:Q (.builtin id,[.ref d]) s):y7 (y6 prog w) A (HM (.ref d) name pl) Q E s:=by
 obtain⟨es,ep,hx,hdd,-⟩:=hd
 exact Kb ⟨_,S.obj _ hm,hx.1⟩ PySem.F.plainAttrs_dict slot ty (λa e=>by cases e;exact⟨_,S.obj _ hm,hx.2.1⟩) h
theorem cL {pl:LH Bool}{name:zK}{id:String}{Q:Value×List Value->zc->Prop} (S:St hb tabs L l T s.heap) (hm:(d,ap vs n)∈T) (slot:ND "list" name id) (ty:Dc (.builtin id)=AA (.type "method_descriptor"))
  (h:Q (.builtin id,[.ref d]) s):y7 (y6 prog w) A (HM (.ref d) name pl) Q E s :=
 Kb ⟨_,S.obj _ hm,rfl⟩ PySem.F.plainAttrs_list slot ty (λa e=>by cases e;exact⟨_,S.obj _ hm,rfl⟩) h
theorem jv:Bn (yZ "enumerate")=some (.type "enumerate"):=by kernel_rfl
theorem nM:Bn (yZ "set")=some (.type "set"):=by kernel_rfl
end
section
variable{pos:Ej}
theorem aZ{n:zK}{es:List Expr}{y:Value}{ys:List Value}{Q:UP}(h:y7 (y6 prog w) A (Ff env n y) (kOrd (y6 prog w) A E ((BS es env).map (·.2)) ys Q) E s)
  (he:(BS (.Name n pos::es) env).map (·.2)=BR (.Name n pos) env::(BS es env).map (·.2):=by rfl) :
  y7 (y6 prog w) A (Cf ((BS (.Name n pos::es) env).map (·.2)) (y::ys)) Q E s:=by
 exact JO (assign_Name h)
theorem cD{Q:UP}(h:Q () s):y7 (y6 prog w) A (Cf ((BS [] env).map (·.2)) []) Q E s:=J7 h
end
section
variable{pos:Ej}{x:Expr}{rest:List Expr}{whole:LH Value}{Q:BP}
theorem cC(h:y7 M A (isTrue x env (Ax x env)) (kAnd M A env E rest pos whole Q) E s):y7 M A (isTrue (.BoolOp .And (x::rest) pos) env whole) Q E s :=
 Mk (zi h (λc s' z=>by cases c;exact z.2 rfl;exact z.1 rfl) λZ Z z=>z)
end
section
variable{pos:Ej}{o i:Expr}{Q:FP}
theorem k8(P:zc->Prop)(h:y7 (y6 prog w) A (isTrue test env (Ax test env)) (λb ag =>
   (b=true->y7 (y6 prog w) A (z5 body env) (λf s'=>f=.next/\P s') E ag) /\
   (b=false->y7 (y6 prog w) A (z5 orelse env) (λf s'=>f=.next/\P s') E ag)) E s)
  (k:∀ s',P s'->y7 (y6 prog w) A (z5 rest env) Q E s'):y7 (y6 prog w) A (z5 (.If test body orelse pos::rest) env) Q E s :=
 lQ (zi h (λb ag z=>⟨λhb=>zi (z.1 hb) (λf s' q=>by obtain⟨rfl,q⟩:=q;exact k _ q) λZ Z z=>z,λhb=>zi (z.2 hb) (λf s' q=>by obtain⟨rfl,q⟩:=q;exact k _ q) λZ Z z=>z⟩) λZ Z z=>z)
theorem k7(h:y7 (y6 prog w) A (Ax value env) (λv s₁=>y7 (y6 prog w) A (Ax o env) (λov ag=>y7 (y6 prog w) A (Ax i env) (λiv s3 =>
   y7 (y6 prog w) A (setItem ov iv v) (λZ s4=>y7 (y6 prog w) A (z5 rest env) Q E s4) E s3) E ag) E s₁) E s)
  (hs:FO value (some (.Subscript o i p')) pos.line env=AA false:=by rfl):y7 (y6 prog w) A (z5 (.Assign [.Subscript o i p'] value pos::rest) env) Q E s :=
 z9 (wpAny_Assign_Subscript h hs)
end
section
variable{F:Ht}{tabs:List zh}{l:LV}{T:LO}{o:AR}{K:Type} [DecidableEq K] {knd:JG prog w K}{kvs:List (K×Value)}{k:K}{v:Value}{slice:Expr}
theorem xU(S:St hb tabs L l T s.heap)(hm:(d,o)∈T)(hd:o.IsDictOf knd kvs)(hkey:knd.is k key=true)(hv:AV kvs k=some v)(h:Q v (wt s (s.toks+1)))
  (hs:Hh slice false (.ref d) key=J9 [.ref d,key] (Dg (.ref d) key):=by with_unfolding_all rfl):y7 (y6 prog w) A (JH value slice (.ref d) key) Q E s:=by
 have hD:=ja S hm hd
 exact Nq hD.typeIs PySem.F.slot_dict_getitem.lookup (pW S hm hd hkey hv h) hs
end
section
variable{F:Ht}{tabs:List zh}{l:LV}{T:LO}{vs:List Value}{n:Nat}{pos:Ej}
theorem vQ(S:St hb tabs L l T s.heap)(hm:(d,ap vs n)∈T)
  (h:∀ I o Wt fp h',ItV prog w hb tabs [(d,ap vs n)] I vs.length (λi v=>vs[i]? = some v) Wt fp->Wt 0 h'->St hb tabs L l (T++[(I,o)]) h'->Q (.ref I) (wh s h')):y7 (y6 prog w) A (EM (.ref d)) Q E s:=by
 have hl:s.heap.IsList d vs.toArray:=⟨_,S.obj _ hm,rfl,n,rfl⟩
 have hne:d≠s.heap.objs.size:=Ag (S.lt hm)
 refine Cb hl (h _ _ (λi h=>h.IsListIter s.heap.objs.size d i/\h.IsList d vs.toArray) [s.heap.objs.size,d] _ ⟨λA hA=>?_,?_,?_⟩ ⟨⟨_,zU _ rfl,rfl,rfl⟩,⟨_,zC _ (S.obj _ hm),rfl,n,rfl⟩⟩ (S.push _).last)
 case refine_1 =>
  have W:=Ml (prog:=prog) (w:=w) hA s.heap.objs.size d hne vs.toArray
  exact bM W λi v e=>by simpa using e
 case refine_2 =>
  rintro i h ⟨⟨o,e,_⟩,_⟩
  exact⟨o,e⟩
 case refine_3 =>
  intro b hb' hn
  rcases za.mp hb' with rfl|hb'
  ·exact absurd (.head _) hn
  ·rw[y9] at hb'
   subst hb'
   exact .inl ⟨_,.head _⟩
theorem pT(S:St hb tabs L l T s.heap)(hm:(d,aG vs)∈T)
  (h:∀ I o Wt fp h',ItV prog w hb tabs [(d,aG vs)] I vs.length (λi v=>vs[i]? = some v) Wt fp->Wt 0 h'->St hb tabs L l (T++[(I,o)]) h'->Q (.ref I) (wh s h')):y7 (y6 prog w) A (EM (.ref d)) Q E s:=by
 have hl:s.heap.IsTuple d vs.toArray:=⟨_,S.obj _ hm,rfl,_,rfl⟩
 have hne:d≠s.heap.objs.size:=Ag (S.lt hm)
 refine GG hl (h _ _ (λi h=>h.IsTupleIter s.heap.objs.size d i/\h.IsTuple d vs.toArray) [s.heap.objs.size,d] _ ⟨λA hA=>?_,?_,?_⟩ ⟨⟨_,zU _ rfl,rfl,rfl⟩,⟨_,zC _ (S.obj _ hm),rfl,_,rfl⟩⟩ (S.push _).last)
 case refine_1 =>
  have W:=Walks.tuple (prog:=prog) (w:=w) hA s.heap.objs.size d hne vs.toArray
  exact bM W λi v e=>by simpa using e
 case refine_2 =>
  rintro i h ⟨⟨o,e,_⟩,_⟩
  exact⟨o,e⟩
 case refine_3 =>
  intro b hb' hn
  rcases za.mp hb' with rfl|hb'
  ·exact absurd (.head _) hn
  ·rw[y9] at hb'
   subst hb'
   exact .inl ⟨_,.head _⟩
noncomputable abbrev rngO (a b:Int) (t u v:AQ):AR:={ cls:=.type "range", data:=.fields #[.int a t,.int b u,.int 1 v] }
theorem vO {a b:Int}{t u:AQ} (S:St hb tabs L l T s.heap) (h:∀ r v h' tk,St hb tabs L l ((r,rngO a b t u v)::T) h'->Q (.ref r) (wht s h' tk)):y7 (y6 prog w) A (call (.type "range") [.int a t,.int b u]) Q E s :=
 call_range_2 (h _ _ _ _ (S.push _))
theorem jY{a b:Int}{t u v:AQ}(S:St hb tabs L l T s.heap)(hm:(d,rngO a b t u v)∈T)(ha : -1000<=a)(ha':a<=1000)(hb1 : -1000<=b)(hb':b<=1000)
  (h:∀ I o Wt fp h',ItV prog w hb tabs [] I (b - a).toNat (λi v=>∃ t,v=.int (a+i) t) Wt fp->Wt 0 h'->St hb tabs L l (T++[(I,o)]) h'->Q (.ref I) (wh s h')):y7 (y6 prog w) A (EM (.ref d)) Q E s:=by
 have e:Aj a b 1=((b - a).toNat:Int):=by rw[rangeSize_one];split;exact x15 ‹_›;exact x19 ‹_›
 refine GH (S.obj _ hm) (small_one (DK (by decide) ha) (GI ha' (by decide)) (DK (by decide) hb1) (GI hb' (by decide))) (h _ _ (λi h=>IsRangeIter h s.heap.objs.size (a+(i:Nat) * 1) (((b - a).toNat:Int) - (i:Nat)) 1) [s.heap.objs.size] _ ⟨λA hA=>?_,?_,?_⟩ ?_ (S.push _).last)
 case refine_1 =>
  exact bM (Nr (prog:=prog) (w:=w) hA s.heap.objs.size a 1 (b - a).toNat) λi v q=>by
   obtain⟨t,q⟩:=q
   exact⟨t,by rw[q,Ha]⟩
 case refine_2=>exact λi h q=>⟨_,q⟩
 case refine_3 =>
  exact λb hb' hn=>absurd hb' hn
 case refine_4 =>
  rw[e]
  simp
  exact zU _ rfl
theorem yW{o i:Expr}{v:Value}{Q:UP}(h:y7 (y6 prog w) A (Ax o env) (yr (y6 prog w) A env E i v Q) E s) :
  y7 (y6 prog w) A (BR (.Subscript o i pos) env v) Q E s:=by
 rw[assign_Subscript]
 refine y0 (zs (zi h (λov s₁ z=>y0 (zs (zi z (λiv ag z=>y0 (CS (y0 (zs (zi z (λZ s3 z=>λΓ p hΓ=>by rw[Mf];exact z) λZ Z z=>z))))) λZ Z z=>z))) λZ Z z=>z))
theorem cK:Bn (yZ "range")=some (.type "range"):=by kernel_rfl
end
section
variable{pos:Ej}{Q:FP}{tabs:List zh}{l:LV}{T:LO}
theorem qc(P:zc->Prop)(I:Nat->zc->Prop)(n:Nat)(h0:I n s)
  (turn:∀ E' n s,I n s->y7 (y6 prog w) A (isTrue test env (Ax test env)) (λb ag =>
   (b=true->y7 (y6 prog w) A (z5 body env) (λf s3=>match f with
    | .next|.cont=>∃ m,m<n/\I m s3
    | .brk=>P s3
    | .ret v=>Q (.ret v) s3) E' ag)/\(b=false->P ag)) E' s)
  (k:∀ s',P s'->y7 (y6 prog w) A (z5 rest env) Q E s'):y7 (y6 prog w) A (z5 (.While test body [] pos::rest) env) Q E s:=by
 refine z9 (wpAny_While (Gr (R:=λr s'=>match r with
   | .ok .next=>P s'
   | .ok .cont=>False
   | .ok .brk=>False
   | .ok (.ret v)=>Q (.ret v) s'
   | .error e=>False) (codeAny_whileLoop I (λn s hI=>?_) n h0) λr s' z=>?_))
 ·refine zi (turn _ n s hI) (λb ag z=>?_) λZ Z z=>z
  cases b with
  | true =>
   refine zi (z.1 rfl) (λf s3 z=>?_) λZ Z z=>z
   cases f<;> exact z
  | false=>exact CZ (z.2 rfl)
 ·rcases r with e|(v|_|_|_)<;> first|exact z.elim|exact z|exact k _ z
theorem eE(P:zc->Prop)(h:∀ E',y7 (y6 prog w) A (isTrue test env (Ax test env)) (λb ag=>b=false/\P ag) E' s)
  (k:∀ s',P s'->y7 (y6 prog w) A (z5 rest env) Q E s'):y7 (y6 prog w) A (z5 (.While test body [] pos::rest) env) Q E s :=
 qc P (λZ s'=>s'=s) 0 rfl (λE' n s' e=>by
  subst e
  exact zi (h E') (λb ag z=>⟨λhb=>(by rw[z.1] at hb;nomatch hb),λZ=>z.2⟩) λZ Z z=>z) k
theorem cH{elts:List Expr}{x1:Nat}{tpos:Ej}{vs:List Value}{Q:UP}(hh:A.handled=none)(S:St hb tabs L l T s.heap)(hm:(d,aG vs)∈T)
  (h:∀ h',St hb tabs L l T h'->y7 (y6 prog w) A (Cf ((BS elts env).map (·.2)) vs) Q E (wh s h'))
  (hsz:(BS elts env).length=vs.length:=by rfl) (hstar:(BS elts env).findIdx? (·.1)=none:=by kernel_rfl) :
  y7 (y6 prog w) A (BR (.Tuple elts x1 tpos) env (.ref d)) Q E s :=
 JP hh (items:=vs.toArray) ⟨_,S.obj _ hm,rfl,_,rfl⟩ (by rw[zg];exact hsz) hstar λh' he=>h h' (S.extBut he)
end
section
variable{tabs:List zh}{l:LV}{T:LO}{t:LH α}{Q:α->zc->Prop}
theorem restate(S:St hb tabs L l T s.heap)(h:∀ s',Kp s s'->St hb tabs L l T s'.heap->y7 M A t Q E s'):y7 M A t Q E s:=h s Kp.refl S
theorem eV:BL (.type "set") "__contains__" = AA (some (.builtin "set.__contains__")):=by rw[Bj,Ae];kernel_rfl
theorem gF:Dc (.builtin "set.__contains__")=AA (.type "method_descriptor"):=by show Lm _=_;rw[Gk];kernel_rfl
theorem i8:BL (.type "dict") "get" = AA (some (.builtin "dict.get")):=by rw[Bj,Ae];kernel_rfl
theorem kA:Dc (.builtin "dict.get")=AA (.type "method_descriptor"):=by show Lm _=_;rw[Gk];kernel_rfl
end
end
def KOk{α:Type}(D:Nat->Nat->Prop)(Ans:Nat->Nat->Bool->Prop)(P:α->Prop):KasT α->Prop
 | .ret a=>P a
 | .ask i j k=>D i j/\∀ b,Ans i j b->KOk D Ans P (k b)
theorem KOk.bind{α β:Type}{D:Nat->Nat->Prop}{Ans:Nat->Nat->Bool->Prop}{P:α->Prop}{P':β->Prop}{f:α->KasT β}:∀ {t:KasT α},KOk D Ans P t->(∀ a,P a->KOk D Ans P' (f a))->KOk D Ans P' (t.bind f)
 | .ret a,h,hf=>hf a h
 | .ask i j k,h,hf=>⟨h.1,λb hb=>KOk.bind (h.2 b hb) hf⟩
theorem KOk.mono{α:Type}{D:Nat->Nat->Prop}{Ans:Nat->Nat->Bool->Prop}{P P':α->Prop}(hp:∀ a,P a->P' a):∀ {t:KasT α},KOk D Ans P t->KOk D Ans P' t
 | .ret a,h=>hp a h
 | .ask i j k,h=>⟨h.1,λb hb=>KOk.mono hp (h.2 b hb)⟩
theorem KOk.wp{α:Type}{D:Nat->Nat->Prop}{Ans:Nat->Nat->Bool->Prop}{P:α->Prop}{cmp:Nat->Nat->(Bool->zc->Prop)->zc->Prop}{Inv:zc->Prop}
  (hc:∀ i j (C:BP) s,Inv s->D i j->(∀ b s',Inv s'->Ans i j b->C b s')->cmp i j C s) {Q:α->zc->Prop} (hQ:∀ a s,Inv s->P a->Q a s) :
  ∀ {t:KasT α}{s:zc},KOk D Ans P t->Inv s->t.kasWp cmp Q s
 | .ret a,s,h,hs=>hQ a s hs h
 | .ask i j k,s,h,hs=>hc i j _ s hs h.1 λb s' hs' hb=>KOk.wp hc hQ (h.2 b hb) hs'
section
variable{n:Nat}{H:Prop}{rk:Nat->Nat}
noncomputable def Rk(rk:Nat->Nat)(p:Array Nat)(i:Nat):Nat:=rk (p.getD i 0)
def aS(rk:Nat->Nat)(p:Array Nat)(m:Nat):Prop:=∀ i j,i<=j->j<m->Rk rk p i<=Rk rk p j
def Pm(n:Nat)(p:Array Nat):Prop:=p.Perm (zQ n).toArray
abbrev ur(n:Nat)(i j:Nat):Prop:=i<n/\j<n
abbrev uv(H:Prop)(rk:Nat->Nat)(i j:Nat)(b:Bool):Prop:=H->b=decide (rk i<rk j)
theorem Pm.size{p:Array Nat}(h:Pm n p):p.size=n:=by rw[Array.Perm.size_eq h];simp
theorem Pm.lt{p:Array Nat}(h:Pm n p)(hn:0<n)(i:Nat):p.getD i 0<n:=by
 by_cases hi:i<p.size
 ·have e:p.getD i 0=p[i]:=by simp[GJ,hi]
  rw[e]
  have hm:p[i]∈p.toList:=by simp
  have:=(Dd.mp h).mem_iff.mp hm
  simpa using this
 ·have e:p.getD i 0=0:=by simp[GJ,hi]
  rw[e];exact hn
theorem fW{p q:Array Nat}{i j:Nat}(h:p[i]? = q[j]?):Rk rk p i=Rk rk q j:=by
 unfold Rk
 rw[zJ,zJ,h]
theorem mN{p:Array Nat}{i j:Nat}(hj:j<=p.size)(k:Nat):Rk rk (Jq p i j) k=if i<=k/\k<j then Rk rk p (i+j - 1 - k) else Rk rk p k:=by
 have e:=getElem?_mirror_all (i:=i) hj k
 by_cases h:i<=k/\k<j
 ·rw[if_pos h] at e ⊢;exact fW e
 ·rw[if_neg h] at e ⊢;exact fW e
theorem pm_rev{p:Array Nat}(h:Pm n p)(i j:Nat):Pm n (Jq p i j):=(mirror_perm p i j _).trans h
theorem uZ(hn:0<n){p:Array Nat}(hp:Pm n p):∀ (f m:Nat),(H->aS rk p m)->0<m ->
  KOk (ur n) (uv H rk) (λr=>m<=r/\r<=m+f/\(H->aS rk p r)/\(H->r<m+f->Rk rk p r<Rk rk p (r - 1))) (kas_asc p f m):=by
 intro f
 induction f with
 | zero =>
  intro m hs hm
  exact⟨zk _,zk _,hs,λZ h=>absurd h (Ao _)⟩
 | succ f IH =>
  intro m hs hm
  refine⟨⟨hp.lt hn _,hp.lt hn _⟩,λb hb=>?_⟩
  cases b with
  | true =>
   refine⟨zk _,Cp _ _,hs,λh Z=>?_⟩
   exact of_decide_eq_true (hb h).symm
  | false =>
   have hs':H->aS rk p (m+1):=λh i j hij hj=>by
    have hlt:¬ Rk rk p m<Rk rk p (m - 1):=of_decide_eq_false (hb h).symm
    rcases AP j m with q|q
    ·exact hs h i j hij q
    ·have:j=m:=zf1 hj q
     subst this
     rcases AP i j with q2|q2
     ·have:=hs h i (j - 1) (zcp q2) (zfl hm)
      exact zft hlt this
     ·have:i=j:=zf8 hij q2
      subst this;exact zk _
   have ih:=IH (m+1) hs' z64
   have:m+1+f=m+(f+1):=zf2
   rw[this] at ih
   refine KOk.mono (λr hr=>⟨by exact zg3 hr.1,hr.2.1,hr.2.2.1,hr.2.2.2⟩) ih
def lE(rk:Nat->Nat)(p:Array Nat)(m:Nat):Prop:=∀ i j,i<=j->j<m->Rk rk p j<=Rk rk p i
def uq(rk:Nat->Nat)(p:Array Nat)(m q:Nat):Prop:=∀ x,m - (q+1)<=x->x<m->Rk rk p x=Rk rk p (m - 1)
theorem iE{p:Array Nat}{m q:Nat}(hm:m<=p.size)(he:uq rk p m q)(x:Nat):Rk rk (Jq p (m - (q+1)) m) x=Rk rk p x:=by
 rw[mN hm]
 split
 ·rename_i h
  rw[he _ (by exact zey h.2) (by exact zf3 h.1 h.2),he x h.1 h.2]
 ·rfl
theorem w0(hn:0<n):∀ (f:Nat) (p:Array Nat) (m q:Nat),Pm n p->0<m->q<m->m+f<=n->(H->lE rk p m/\uq rk p m q) ->
  KOk (ur n) (uv H rk) (λr=>Pm n r.1/\m<=r.2.1/\r.2.1<=m+f/\r.2.2<r.2.1/\(H->lE rk r.1 r.2.1/\uq rk r.1 r.2.1 r.2.2)) (Kc f p m q):=by
 intro f
 induction f with
 | zero =>
  intro p m q hp hm hq hf hs
  exact⟨hp,zk _,zk _,hq,hs⟩
 | succ f IH =>
  intro p m q hp hm hq hf hs
  have hsz:=hp.size
  refine⟨⟨hp.lt hn _,hp.lt hn _⟩,λb hb=>?_⟩
  have ef:m+1+f=m+(f+1):=zf2
  cases b with
  | true =>
   have next:∀ p',Pm n p'->(H->∀ x,Rk rk p' x=Rk rk p x)->KOk (ur n) (uv H rk) (λr=>Pm n r.1/\m<=r.2.1/\r.2.1<=m+(f+1)/\r.2.2<r.2.1/\(H->lE rk r.1 r.2.1/\uq rk r.1 r.2.1 r.2.2)) (Kc f p' (m+1) 0):=by
    intro p' hp' hr
    have ih:=IH p' (m+1) 0 hp' z64 z64 (zbe hf) (λh=>by
     have hlt:Rk rk p m<Rk rk p (m - 1):=of_decide_eq_true (hb h).symm
     have hr:=hr h
     refine⟨λi j hij hj=>?_,λx h1 h2=>by congr 1;exact zfg h1 h2⟩
     rw[hr,hr]
     rcases AP j m with q1|q1
     ·exact (hs h).1 i j hij q1
     ·have:j=m:=zf1 hj q1
      subst this
      rcases AP i j with q2|q2
      ·have:=(hs h).1 i (j - 1) (zcp q2) (zfl hm)
       exact zg6 hlt this
      ·have:i=j:=zf8 hij q2
       subst this;exact zk _)
    rw[ef] at ih
    exact KOk.mono (λr hr=>⟨hr.1,by exact zg3 hr.2.1,hr.2.2⟩) ih
   show KOk _ _ _ (if q > 0 then Kc f (Jq p (m - (q+1)) m) (m+1) 0 else Kc f p (m+1) 0)
   split
   ·exact next _ (pm_rev hp _ _) λh x=>iE (zga hf hsz) (hs h).2 x
   ·exact next _ hp λZ Z=>rfl
  | false =>
   show KOk _ _ _ (Nt (p.getD (m - 1) 0) (p.getD m 0) λd=>if d=true then .ret (p,m,q) else Kc f p (m+1) (q+1))
   refine⟨⟨hp.lt hn _,hp.lt hn _⟩,λd hd=>?_⟩
   cases d with
   | true=>exact⟨hp,zk _,Cp _ _,hq,hs⟩
   | false =>
    have ih:=IH p (m+1) (q+1) hp z64 (z8j hq) (zbe hf) (λh=>by
     have h1:¬ Rk rk p m<Rk rk p (m - 1):=of_decide_eq_false (hb h).symm
     have h2:¬ Rk rk p (m - 1)<Rk rk p m:=of_decide_eq_false (hd h).symm
     refine⟨λi j hij hj=>?_,λx h3 h4=>?_⟩
     ·rcases AP j m with q1|q1
      ·exact (hs h).1 i j hij q1
      ·have:j=m:=zf1 hj q1
       subst this
       rcases AP i j with q2|q2
       ·have:=(hs h).1 i (j - 1) (zcp q2) (zfl hm)
        exact zgh h2 this
       ·have:i=j:=zf8 hij q2
        subst this;exact zk _
     ·rw[GL]
      rcases AP x m with q1|q1
      ·have:=(hs h).2 x (zgk h3) q1
       exact zgn h1 h2 this
      ·have:x=m:=zf1 h4 q1
       subst this;rfl)
    rw[ef] at ih
    exact KOk.mono (λr hr=>⟨hr.1,by exact zg3 hr.2.1,hr.2.2⟩) ih
def CntP(n:Nat)(H:Prop)(rk:Nat->Nat)(r:Nat×Array Nat):Prop:=Pm n r.2/\0<r.1/\r.1<=n/\(H->aS rk r.2 r.1)
theorem mI(hn:0<n){m:Nat}{p:Array Nat}(hp:Pm n p)(hm:0<m)(hmn:m<=n)(hd:H->lE rk p m):KOk (ur n) (uv H rk) (CntP n H rk) (MW m n p):=by
 have hsz:=hp.size
 refine KOk.bind (uZ hn (pm_rev hp 0 m) (n - m) m (λh i j hij hj=>?_) hm) λr hr=>⟨pm_rev hp 0 m,by show 0<r;exact zez hm hr.1,by show r<=n;exact zf6 hmn hr.2.1,hr.2.2.1⟩
 rw[mN (by exact zfb hmn hsz),mN (by exact zfb hmn hsz),if_pos ⟨by exact zfh,by exact zfj hij hj⟩,if_pos ⟨by exact zfh,hj⟩]
 exact hd h _ _ (zfq hij) (zfr hj)
theorem jb(hn:0<n){m:Nat}{p:Array Nat}(hp:Pm n p)(hm:0<m)(hmn:m<n)(hd:H->lE rk p (m+1)):KOk (ur n) (uv H rk) (CntP n H rk) (Kd m n p):=by
 refine KOk.bind (w0 hn (n - (m+1)) p (m+1) 0 hp z64 z64 (zfa hmn) (λh=>⟨hd h,λx h1 h2=>by congr 1;exact zfg h1 h2⟩)) λr hr=>?_
 obtain⟨h1,h2,h3,h4,h5⟩:=hr
 have hsz:=h1.size
 show KOk _ _ _ (if r.2.2 > 0 then MW r.2.1 n (Jq r.1 (r.2.1 - (r.2.2+1)) r.2.1) else MW r.2.1 n r.1)
 split
 ·refine mI hn (pm_rev h1 _ _) (zfn h2) (zfv hmn h3) λh i j hij hj=>?_
  rw[iE (by exact zg0 hmn h3 hsz) (h5 h).2,iE (by exact zg0 hmn h3 hsz) (h5 h).2]
  exact (h5 h).1 i j hij hj
 ·exact mI hn h1 (zfn h2) (zfv hmn h3) λh=>(h5 h).1
theorem tU(hn:0<n){p:Array Nat}(hp:Pm n p):KOk (ur n) (uv H rk) (CntP n H rk) (kas_count n p):=by
 have hsz:=hp.size
 refine KOk.bind (uZ hn hp (n - 1) 1 (λh i j hij hj=>(by exact zf0 hij hj:i=j)▸zk _) (by exact zam)) λm hm=>?_
 obtain⟨h1,h2,h3,h4⟩:=hm
 show KOk _ _ _ (if (m==n)=true then .ret (m,p) else if m > 1 then Nt (p.getD 0 0) (p.getD (m - 1) 0) λc=>if c=true then .ret (m,p) else Kd m n (Jq p 0 m) else Kd m n p)
 split
 ·exact⟨hp,by show 0<m;exact Aw ‹(m==n)=true›▸hn,Gp (Aw ‹(m==n)=true›),h3⟩
 ·rename_i hne
  have hne:m≠n:=λe=>hne (by rw[e];simp)
  split
  ·refine⟨⟨hp.lt hn _,hp.lt hn _⟩,λb hb=>?_⟩
   cases b with
   | true=>exact⟨hp,by show 0<m;exact h1,by show m<=n;exact zfs hn h2,h3⟩
   | false =>
    refine jb hn (pm_rev hp _ _) h1 (zfz hn h2 hne) λh i j hij hj=>?_
    have hlt:¬ Rk rk p 0<Rk rk p (m - 1):=of_decide_eq_false (hb h).symm
    have hs:=h3 h
    have hm4:=h4 h (zg8 hn h2 hne)
    have eq:∀ x,x<m->Rk rk p x=Rk rk p 0:=λx hx=>by
     have a:=hs 0 x zfh hx
     have b:=hs x (m - 1) (zcp hx) (zgb h1)
     exact zge hlt a b
    have e1:=eq (m - 1) (zgb h1)
    have val:∀ x,x<=m->Rk rk (Jq p 0 m) x=if x<m then Rk rk p 0 else Rk rk p m:=λx hx=>by
     rw[mN (by exact zgg hn hsz h2)]
     by_cases q:x<m
     ·rw[if_pos ⟨zD _,q⟩,if_pos q,eq (0+m - 1 - x) (zgj q)]
     ·rw[if_neg (λz=>q z.2),if_neg q]
      have:x=m:=z8u hx q
      rw[this]
    rw[val j (zg7 hj),val i (zgo hij hj)]
    by_cases q:i<m
    ·rw[if_pos q]
     split
     ·exact zk _
     ·exact zgq hm4 e1
    ·rw[if_neg q,if_neg (by exact zgs hij q)]
     exact zk _
  ·have hm1:m=1:=F9 (EC ‹¬m > 1›) h1
   subst hm1
   refine jb hn hp Nat.one_pos (zgv hn hne) λh i j hij hj=>?_
   have hm4:=h4 h (zgw hn hne)
   rcases AP i j with q|q
   ·have:i=0:=zgx hj q
    have:j=1:=zgy hj q
    subst i j
    exact Ak hm4
   ·have:i=j:=zf8 hij q
    subst this;exact zk _
theorem sC(hn:0<n){p:Array Nat}(hp:Pm n p){k:Nat}:∀ (f l r:Nat),l<=r->r<=k->r - l<=f->(H->aS rk p k/\(∀ x,x<l->Rk rk p x<=Rk rk p k)/\∀ x,r<=x->x<k->Rk rk p k<Rk rk p x) ->
  KOk (ur n) (uv H rk) (λl=>l<=k/\(H->(∀ x,x<l->Rk rk p x<=Rk rk p k)/\∀ x,l<=x->x<k->Rk rk p k<Rk rk p x)) (MX p k f l r):=by
 intro f
 induction f with
 | zero =>
  intro l r hlr hrk hf hs
  have:l=r:=zf4 hlr hf
  subst this
  exact⟨hrk,λh=>(hs h).2⟩
 | succ f ih =>
  intro l r hlr hrk hf hs
  show KOk _ _ _ (if l≥r then .ret l else Nt (p.getD k 0) (p.getD ((l+r) / 2) 0) λc=>if c=true then MX p k f l ((l+r) / 2) else MX p k f ((l+r) / 2+1) r)
  split
  ·have:l=r:=F9 hlr ‹l≥r›
   subst this
   exact⟨hrk,λh=>(hs h).2⟩
  ·refine⟨⟨hp.lt hn _,hp.lt hn _⟩,λb hb=>?_⟩
   cases b with
   | true =>
    refine ih l ((l+r) / 2) (x06 ‹¬l≥r›) (Ak (x05 hrk ‹¬l≥r›)) (zfu hf) λh=>⟨(hs h).1,(hs h).2.1,λx h1 h2=>?_⟩
    have hlt:Rk rk p k<Rk rk p ((l+r) / 2):=of_decide_eq_true (hb h).symm
    have:=(hs h).1 ((l+r) / 2) x h1 h2
    exact zfw hlt this
   | false =>
    refine ih ((l+r) / 2+1) r (x05 (zk r) ‹¬l≥r›) hrk (zfy hf) λh=>⟨(hs h).1,λx h1=>?_,(hs h).2.2⟩
    have hlt:¬ Rk rk p k<Rk rk p ((l+r) / 2):=of_decide_eq_false (hb h).symm
    have:=(hs h).1 x ((l+r) / 2) (zg1 h1) (x05 hrk ‹¬l≥r›)
    exact zft hlt this
theorem kX{p:Array Nat}{k d:Nat}(hk:k<p.size)(hd:d<=k)(x:Nat):Rk rk (bubble p k d) x=if x=k - d then Rk rk p k else if k - d<x/\x<=k then Rk rk p (x - 1) else Rk rk p x:=by
 have e:=getElem?_bubble hk d hd x
 by_cases h1:x=k - d
 ·rw[if_pos h1] at e ⊢;exact fW e
 ·rw[if_neg h1] at e ⊢
  by_cases h2:k - d<x/\x<=k
  ·rw[if_pos h2] at e ⊢;exact fW e
  ·rw[if_neg h2] at e ⊢;exact fW e
theorem yV(hn:0<n):∀ (f:Nat) (p:Array Nat) (k:Nat),Pm n p->k+f=n->(H->aS rk p k)->KOk (ur n) (uv H rk) (λr=>Pm n r/\(H->aS rk r n)) (kas_bin f p k):=by
 intro f
 induction f with
 | zero =>
  intro p k hp hk hs
  have:k=n:=hk
  subst this
  exact⟨hp,hs⟩
 | succ f ih =>
  intro p k hp hk hs
  have hsz:=hp.size
  refine KOk.bind (sC hn hp k 0 k (zD _) (zk _) zf7 λh=>⟨hs h,λx hx=>absurd hx (Bt _),λx h1 h2=>absurd h2 (zf9 h1)⟩) λl hl=>?_
  obtain⟨h1,h2⟩:=hl
  refine ih _ (k+1) ((bubble_perm p k _).trans hp) (zfe hk) λh i j hij hj=>?_
  have hs:=hs h
  obtain⟨ha,hb⟩:=h2 h
  rw[kX (by exact zfk hk hsz) (by exact zfo),kX (by exact zfk hk hsz) (by exact zfo),show k - (k - l)=l by exact zg2 h1]
  by_cases i1:i=l
  ·rw[if_pos i1]
   by_cases j1:j=l
   ·rw[if_pos j1];exact zk _
   ·rw[if_neg j1,if_pos ⟨by exact zg4 hij i1 j1,by exact zg7 hj⟩]
    exact Ak (hb _ (zg9 hij i1 j1) (zgc hij hj i1 j1))
  ·rw[if_neg i1]
   by_cases i2:l<i/\i<=k
   ·rw[if_pos i2,if_neg (by exact zgd hij i2.1),if_pos ⟨by exact zgf hij i2.1,by exact zg7 hj⟩]
    exact hs _ _ (zgi hij) (zgl hj i2.1 i2.2)
   ·rw[if_neg i2]
    by_cases j1:j=l
    ·rw[if_pos j1]
     exact ha i (zgm hij i1 j1)
    ·rw[if_neg j1]
     by_cases j2:l<j/\j<=k
     ·rw[if_pos j2]
      exact hs _ _ (zgp hij i2 j2.1 j2.2) (zgr j2.1 j2.2)
     ·rw[if_neg j2]
      exact hs _ _ hij (zgu h1 hj j1 j2)
theorem pc(hn:0<n):KOk (ur n) (uv H rk) (λr=>Pm n r/\(H->aS rk r n)) (kas_sort n):=by
 refine KOk.bind (tU hn (Array.Perm.refl _)) λr hr=>?_
 obtain⟨h1,h2,h3,h4⟩:=hr
 show KOk _ _ _ (if r.1<n then kas_bin (n - max r.1 1) r.2 (max r.1 1) else .ret r.2)
 split
 ·have e:max r.1 1=r.1:=zfd h2
  rw[e]
  exact yV hn _ _ _ h1 (Nat.add_sub_of_le (Ak ‹r.1<n›)) h4
 ·have e:r.1=n:=F9 h3 (EC ‹¬r.1<n›)
  exact⟨h1,λh=>e▸h4 h⟩
end
section
open PySem.Spec
section
variable{tabs:List zh}{l:LV}{T pre post:LO}{vs:List Value}{v:Value}{n:Nat}
theorem mP{Q:BP}(S:St hb tabs L l T s.heap)(hm:(d,ap vs n)∈T)(hz:vs.length<=1000)(h:∀ tk,Q (!vs.isEmpty) (wt s tk)):y7 (y6 prog w) A (truthy (.ref d)) Q E s :=
 wpAny_truthy_list (items:=vs.toArray) ⟨_,S.obj _ hm,rfl,n,rfl⟩ (by rw[zg];lia) (by rw[List.isEmpty_toArray];exact h _)
theorem r_pop{Q:VP}(i:Nat)(S:St hb tabs L l T s.heap)(hi:T[i]? = some (d,ap (vs++[v]) n))(hz:vs.length<=1000)(h:∀ h' n',St hb tabs L l (T.set i (d,ap vs n')) h'->Q v (wh s h')) :
  y7 (y6 prog w) A (call (.builtin "list.pop") [.ref d]) Q E s:=by
 have ho:=S.obj _ (zp hi)
 refine Ic IJ ⟨_,ho,rfl⟩ PySem.F.entry_list_pop (PySem.F.args_list_pop_1 _) (LI d (vs++[v]).toArray n v (by simp) (by rw[zz,zg,zO,Ef];exact z93 hz)) ⟨ho,?_⟩
 have hs:=zw s.heap d (zS λxs=>xs.eraseIdxIfInBounds ((vs++[v]).toArray.size - 1))
 have e:(zS (λxs=>xs.eraseIdxIfInBounds ((vs++[v]).toArray.size - 1)) (ap (vs++[v]) n))=ap vs (n+1):=by
  have e1:(vs++[v]).toArray.eraseIdxIfInBounds ((vs++[v]).toArray.size - 1)=vs.toArray:=by
   simp[Array.eraseIdxIfInBounds]
   rw[List.eraseIdx_append_of_length_le (zk _)]
   simp
  simp only[zS,ap,e1]
  simp
 exact h _ (n+1) (S.change i hi hs (by rw[zt _ ho (by rw[e];rfl),e]))
theorem pQ{Tt:Value}{H:Prop}{rk:Nat->Nat}{Q:VP}(S:St hb tabs L l (pre++(d,ap vs n)::post) s.heap)(h2:2<=vs.length)(h64:vs.length<64)
  (hty:∀ h':AJ,(∀ p∈pre++post,h'.get? p.1=some p.2)->∀ v∈vs,Cy (y6 prog w) h' (Dc v) Tt) (hT1:(Tt != An "tuple")=true) (hT2:(Tt==Tt)=true)
  (hlt:∀ (s':zc) e1,Kp s s'->St hb tabs L l (pre++(d,ap [] e1)::post) s'.heap->∀ i j,i<vs.length->j<vs.length->∀ C:BP,(∀ b tk,(H->b=decide (rk i<rk j))->C b (wt s' tk)) ->
   y7 (y6 prog w) A.in1 (I4 Mm (vs.getD i .none) (vs.getD j .none)) C (λZ Z=>False) s')
  (k:∀ s' n' (p:Array Nat),Kp s s'->Pm vs.length p->(H->aS rk p vs.length)->St hb tabs L l (pre++(d,ap (p.toList.map λi=>vs.getD i .none) n')::post) s'.heap->Q .none s') :
  y7 (y6 prog w) A (call (.builtin "list.sort") [.ref d]) Q E s:=by
 obtain⟨m,TL,F,N,hl,nd,hTL,back⟩:=S.toK
 have hmem:(d,ap vs n)∈pre++(d,ap vs n)::post:=y5 _ (.head _)
 have ho:=S.obj _ hmem
 have hdn:=S.new _ hmem
 have ndT:=(zu.mp S.nd)
 have hdL:d≠L:=λe=>ndT.1 (by rw[<- e];exact zd.mpr ⟨_,hmem,rfl⟩)
 have nd2:=ndT.2
 rw[zG,AD] at nd2
 obtain⟨-,n3,n4⟩:=CW.mp nd2
 have hne:∀ p∈TL++(pre++post),p.1≠d:=λp hp=>by
  rcases zf.mp hp with q|q
  ·exact Ag (zN (hTL p q) hdn)
  ·rcases zf.mp q with q|q
   ·exact n4 _ (zd.mpr ⟨p,q,rfl⟩) _ (.head _)
   ·exact λe=>(zu.mp n3).1 (e▸zd.mpr ⟨p,q,rfl⟩)
 have N0:News (DN hb tabs) L s.heap (TL++(pre++post)):=λp hp=>by
  refine N p ?_
  rcases zf.mp hp with q|q
  ·exact y8 _ q
  ·refine y5 _ ?_
   rcases zf.mp q with q|q
   ·exact y8 _ q
   ·exact y5 _ (aj q)
 have hd0:(DN hb tabs).get? d=none:=(N _ (y5 _ hmem)).2.2
 have keys:∀ o',(pre++(d,o')::post).map (·.1)=(pre++(d,ap vs n)::post).map (·.1):=λo'=>by simp
 have toSt:∀ (h':AJ) (o':AR),Fr (DN hb tabs) L h' m->News (DN hb tabs) L h' ((d,o')::(TL++(pre++post)))->St hb tabs L l (pre++(d,o')::post) h':=λh' o' F' N'=>by
  refine back h' m _ l F' (λp hp=>N' p ?_) hl nd (λp hp=>?_) (by rw[keys];exact S.nd)
  ·rcases zf.mp hp with q|q
   ·exact aj (y8 _ q)
   ·rcases zf.mp q with q|q
    ·exact aj (y5 _ (y8 _ q))
    ·rcases za.mp q with rfl|q
     ·exact .head _
     ·exact aj (y5 _ (y5 _ q))
  ·have hk:p.1∈(pre++(d,ap vs n)::post).map (·.1):=by rw[<- keys o'];exact zd.mpr ⟨p,hp,rfl⟩
   obtain⟨p',hp',e⟩:=zd.mp hk
   rw[<- e];exact S.new p' hp'
 have toN:∀ (h':AJ) (o':AR),St hb tabs L l (pre++(d,o')::post) h'->(∀ p∈TL,h'.get? p.1=some p.2)->News (DN hb tabs) L h' ((d,o')::(TL++(pre++post))):=λh' o' S' hT=>λp hp=>by
  rcases za.mp hp with rfl|hp
  ·exact⟨S'.obj _ (y5 _ (.head _)),hdL,hd0⟩
  ·have:=N0 p hp
   refine⟨?_,this.2⟩
   rcases zf.mp hp with q|q
   ·exact hT p q
   ·rcases zf.mp q with q|q
    ·exact S'.obj _ (y8 _ q)
    ·exact S'.obj _ (y5 _ (aj q))
 refine zX Fj ⟨_,ho,rfl⟩ EZ ?_ (Mn _)
 refine kas_list_sort (T:=Tt) F N0 ho hdL hd0 hne h2 h64 (λe1 h' F' N' v hv=>?_) hT1 hT2 λe1 h' F' N'=>?_
 ·exact hty h' (λp hp=>(N' p (aj (y5 _ hp))).1) v hv
 ·refine KOk.wp (Inv:=λs'=>Kp s s'/\Fr (DN hb tabs) L s'.heap m/\News (DN hb tabs) L s'.heap ((d,seqObj "list" #[] e1)::(TL++(pre++post)))) (λi j C s' hI hD hC=>?_) (λp s' hI hp=>?_) (pc (H:=H) (rk:=rk) (z22 h2:0<vs.length)) ⟨⟨rfl,id⟩,F',N'⟩
  ·obtain⟨K',F',N'⟩:=hI
   have S':=toSt _ _ F' N'
   exact hlt s' e1 K' S' i j hD.1 hD.2 C λb tk hb'=>hC b _ ⟨⟨K'.os,K'.gens⟩,F',N'⟩ hb'
  ·obtain⟨K',F',N'⟩:=hI
   exact KasFin.intro F' N' (.head hne) λh'' c F'' N''=>⟨_,rfl,k _ c p ⟨K'.os,K'.gens⟩ hp.1 hp.2 (toSt _ _ F'' N'')⟩
theorem xO{Tt:Value}{H:Prop}{rk:Nat->Nat}{Q:VP}(S:St hb tabs L l (pre++(d,ap vs n)::post) s.heap)(h2:2<=vs.length)(h64:vs.length<64)
  (hty:∀ v∈vs,Ex2 λa o=>An3 (v=.ref a) ((a,o)∈pre++post) (o.cls=Tt)) (hT1:(Tt != An "tuple")=true) (hT2:(Tt==Tt)=true)
  (hlt:∀ (s':zc) e1,Kp s s'->St hb tabs L l (pre++(d,ap [] e1)::post) s'.heap->∀ i j,i<vs.length->j<vs.length->∀ C:BP,(∀ b tk,(H->b=decide (rk i<rk j))->C b (wt s' tk)) ->
   y7 (y6 prog w) A.in1 (I4 Mm (vs.getD i .none) (vs.getD j .none)) C (λZ Z=>False) s')
  (k:∀ s' n' (p:Array Nat),Kp s s'->Pm vs.length p->(H->aS rk p vs.length)->St hb tabs L l (pre++(d,ap (p.toList.map λi=>vs.getD i .none) n')::post) s'.heap->Q .none s') :
  y7 (y6 prog w) A (call (.builtin "list.sort") [.ref d]) Q E s :=
 pQ S h2 h64 (λh' hm v hv=>let ⟨a,o,e,hp,hc⟩:=hty v hv;by subst e;subst hc;exact (Looks.ld (hm (a,o) hp)).andThen .now) hT1 hT2 hlt k
end
end
namespace MP
theorem ph:ND "map" "__init__" "object.__init__" :=
 .of (owner := "object") (n := "__init__") (by rw[Bj,Ae];kernel_rfl) (by decide +kernel) (by decide +kernel) (by decide +kernel)
  (by first|exact .inl (by decide +kernel)|exact .inr (by decide +kernel)) (by rw[Be];kernel_rfl)
theorem mro:mroOf (.type "map")=AA [.type "map", .type "object"]:=by rw[mroOf_type];kernel_rfl
theorem ol:BL (.type "map") "__new__" = AA (some (.builtin "map.__new__")):=by rw[Bj,Ae];kernel_rfl
theorem called:TypeCalled "map" "map.__new__" "object.__init__" :=
 ⟨by decide +kernel,by decide +kernel,⟨_,_,mro⟩,madeBy_type mro ol (by decide +kernel),by decide +kernel,by rw[Be];kernel_rfl,ph⟩
theorem typeCall (a b:Value):checkTypeCall "map" ⟨[a,b],[]⟩=AA ():=by kernel_rfl
theorem newCall (a b:Value):EF "map.__new__" ⟨[.type "map", a,b],[]⟩=AA ():=by kernel_rfl
theorem entry_new:Dq Hg "map.__new__" = some Az.«map.__new__»:=B2 (by kernel_rfl)
theorem slot_iter:ND "map" "__iter__" "map.__iter__" :=
 .of (owner := "map") (n := "__iter__") (by rw[Bj,Ae];kernel_rfl) (by decide +kernel) (by decide +kernel) (by decide +kernel)
  (by first|exact .inl (by decide +kernel)|exact .inr (by decide +kernel)) (by rw[Be];kernel_rfl)
theorem entry_iter:Dq Hg "map.__iter__" = some Az.«dict_keyiterator.__iter__» :=
 GD (id' := "dict_keyiterator.__iter__") (by kernel_rfl) (by first|rfl|decide +kernel|(unfold String.splitOn;simp +decide [String.splitOnAux])) (by decide +kernel) (by kernel_rfl)
theorem args_iter (a:Value):CM "map.__iter__" ⟨[a],[]⟩:=by unfold CM;kernel_rfl
theorem slot_next:ND "map" "__next__" "map.__next__" :=
 .of (owner := "map") (n := "__next__") (by rw[Bj,Ae];kernel_rfl) (by decide +kernel) (by decide +kernel) (by decide +kernel)
  (by first|exact .inl (by decide +kernel)|exact .inr (by decide +kernel)) (by rw[Be];kernel_rfl)
theorem entry_next:Dq Hg "map.__next__" = some Az.«map.__next__»:=B2 (by kernel_rfl)
theorem args_next (a:Value):CM "map.__next__" ⟨[a],[]⟩:=by unfold CM;kernel_rfl
theorem no_len:BL (.type "map") "__len__" = AA none:=by rw[Bj,Ae];kernel_rfl
theorem no_hint:BL (.type "map") "__length_hint__" = AA none:=by rw[Bj,Ae];kernel_rfl
theorem sub_map:CN (.type "map") (.type "map")=AA true:=by rw[Be];kernel_rfl
end MP
noncomputable abbrev gW (d:zh) (i:Nat):AR:={ cls:=.type "list_iterator", data:=.fields #[.ref d,.int i 0] }
noncomputable abbrev li (t:zh) (f:Value):AR:={ cls:=.type "map", data:=.fields #[.ref t,f] }
theorem kc(f:Value)(l:zh)(vs:List Value)(n:Nat) :
  Meets (Az.«map.__new__» ⟨[.type "map", f,.ref l],[]⟩) (λZ R s=>s.heap.get? l=some (ap vs n) /\
   R (.ok (.ret (.ref ((s.heap.push (gW l 0)).push (aG [.ref s.heap.objs.size])).objs.size))) (wh s (((s.heap.push (gW l 0)).push (aG [.ref s.heap.objs.size])).push (li (s.heap.push (gW l 0)).objs.size f)))) :=
 .of_wp λprog w A R s h=>by
  obtain⟨hp,g,d,tk,os⟩:=s;obtain⟨hl,h⟩:=h
  have hL:Heap.IsList (Hj ⟨hp,g,d,tk,os⟩) l vs.toArray:=⟨_,hl,rfl,n,rfl⟩
  have hsub:=MP.sub_map
  unfold Az.«map.__new__» L2 JZ Mo LJ
  refine y0 (y0 (Ay (a:=true) rfl ?_))
  refine zA rfl (y0 (Ay hsub ?_))
  refine zA rfl (y4 ?_)
  refine y0 (Bq rfl (y4 ?_))
  refine E4 (λhab=>absurd hab (by simp)) (λZ=>?_)
  refine y0 (y0 ?_)
  show y7 _ _ (Dt [AW l] _ _) _ _ _
  rw[AC]
  refine y0 (y0 (zs (Cb hL (y4 ?_))))
  show y7 _ _ (Dt [] _ _) _ _ _
  rw[Er]
  refine y4 (y4 ?_)
  refine y0 (Fq ?_ (by show 1<=DY;rw[zz];decide))
  refine y0 (Af ?_ (by size_fits))
  exact y4 ⟨_,rfl,h⟩
section
variable{tabs:List zh}{l:LV}{T:LO}{vs:List Value}{f x:Value}{n:Nat}
theorem r_map{Q:VP}(S:St hb tabs L l T s.heap)(hm:(d,ap vs n)∈T)(h:∀ mp t it h',St hb tabs L l ((mp,li t f)::(t,aG [.ref it])::(it,gW d 0)::T) h'->Q (.ref mp) (wh s h')) :
  y7 (y6 prog w) A (call (.type "map") [f,.ref d]) Q E s:=by
 have S':=((S.push (gW d 0)).push (aG [.ref s.heap.objs.size])).push (li (s.heap.push (gW d 0)).objs.size f)
 refine Ie MP.called (by decide) (MP.typeCall _ _) (MP.newCall _ _) (λobj=>I5 obj _ _) MP.entry_new (kc f d vs n) ⟨S.obj _ hm,⟨_,S'.obj _ m0,rfl⟩,h _ _ _ _ S'⟩
theorem sO{Q:VP}(S:St hb tabs L l T s.heap)(hm:(mp,li t f)∈T)(h:Q (.ref mp) s):y7 (y6 prog w) A (EM (.ref mp)) Q E s:=by
 have hT:s.TypeIs (.ref mp) "map" := ⟨_,S.obj _ hm,rfl⟩
 refine Hk hT MP.slot_iter (zX MP.slot_iter hT MP.entry_iter ?_ (MP.args_iter _))
 exact y4 ⟨_,rfl, "map", _,hT,MP.slot_next.lookup,h⟩
def bY (o:AR) (d:zh) (i:Nat):Prop:=o.cls=.type "list_iterator" /\ o.data=.fields #[.ref d,.int i 0]
theorem sP{Q:Option Value->zc->Prop}{o:AR}(ii:Nat)(S:St hb tabs L l T s.heap)(hmp:(mp,li t f)∈T)(ht:(t,aG [.ref it])∈T)(hit:T[ii]? = some (it,o))(ho:bY o d i)(hd:(d,ap vs n)∈T)(hx:vs[i]? = some x)(hne:mp≠it)
  (h:∀ h' o' E',bY o' d (i+1)->St hb tabs L l (T.set ii (it,o')) h'->y7 (y6 prog w) A.in1 (call f [x]) (λv s'=>Q (some v) s') E' (wh s h')):y7 (y6 prog w) A (Di (.ref mp)) Q E s:=by
 have hT:s.TypeIs (.ref mp) "map" := ⟨_,S.obj _ hmp,rfl⟩
 have hi:=S.obj _ (zp hit)
 refine y0 (Dw (Ab (name:=yZ "__next__") hT MP.slot_next (zX MP.slot_next hT MP.entry_next ?_ (MP.args_next _))))
 refine y0 (m:=FX (.ref mp) 0) (AN (S.obj _ hmp) rfl (x:=.ref t) rfl ?_)
 refine y0 (m:=BQ (.ref t)) (zy (S.obj _ ht) rfl ?_)
 show y7 _ _ (Dt (#[AW it]:Array Value) _ _>>=_) _ _ s
 rw[<- JQ]
 refine y0 ?_
 rw[AC]
 refine y0 (y0 (zs (Ig (items:=vs.toArray) ⟨_,hi,ho.1,ho.2⟩ ⟨_,S.obj _ hd,rfl,n,rfl⟩ (by simpa using hx) λh' hit' hs'=>y4 ?_)))
 show y7 _ _ (Dt [] _ _) _ _ _
 rw[Er]
 obtain⟨o',ho',hc',hd'⟩:=hit'
 have S':=S.change ii hit hs' ho'
 refine y4 (y0 (m:=FX (.ref mp) 1) (AN (s:=(wh s h')) ((hs'.2 mp hne).trans (S.obj _ hmp)) rfl (x:=f) rfl ?_))
 refine y0 (zs ?_)
 refine zi (h h' o' _ ⟨hc',hd'⟩ S') (λv s' hq=>?_) λZ Z z=>z
 exact y0 (DI (y4 ⟨_,rfl,y4 hq⟩))
theorem wy{Q:Option Value->zc->Prop}{o:AR}(ii:Nat)(hh:A.handled=none)(S:St hb tabs L l (T++[(it,o)]) s.heap)(hmp:(mp,li t f)∈T)(ht:(t,aG [.ref it])∈T)(ho:bY o d vs.length)(hd:(d,ap vs n)∈T)
  (h:∀ h',St hb tabs L l T h'->Q none (wh s h')):y7 (y6 prog w) A (Di (.ref mp)) Q E s:=by
 have hmp':(mp,li t f)∈T++[(it,o)]:=y8 _ hmp
 have hT:s.TypeIs (.ref mp) "map" := ⟨_,S.obj _ hmp',rfl⟩
 have hi:=S.obj (it,o) (y5 _ (.head _))
 refine y0 (Dw (Ab (name:=yZ "__next__") hT MP.slot_next (zX MP.slot_next hT MP.entry_next ?_ (MP.args_next _))))
 refine y0 (m:=FX (.ref mp) 0) (AN (S.obj _ hmp') rfl (x:=.ref t) rfl ?_)
 refine y0 (m:=BQ (.ref t)) (zy (S.obj _ (y8 _ ht)) rfl ?_)
 show y7 _ _ (Dt (#[AW it]:Array Value) _ _>>=_) _ _ s
 rw[<- JQ]
 refine y0 ?_
 rw[AC]
 refine y0 (y0 (zs (wpAny_nextOf_list_end (items:=vs.toArray) hh ⟨_,hi,ho.1,ho.2⟩ ⟨_,S.obj _ (y8 _ hd),rfl,n,rfl⟩ (by simp) λh' e he hx=>?_)))
 obtain⟨ox,hox,hcx⟩:=hx
 refine y0 (AO (T := "StopIteration") (b:=true) ⟨ox,hox,hcx⟩ GN ?_)
 refine y4 (h h' (S.drop (own:=[(it,o)]) λb x hb' e=>he b x (λq=>hb' (by rw[q];exact .head _)) e))
end
section
variable{tabs:List zh}{l:LV}{T:LO}{vs:List Value}{f x res:Value}{n:Nat}{J:Nat->List Value->LO->Prop}{Je:List Value->LO->Prop}
theorem gR(vs:List Value)(v:Value)(c:Nat):zS (·.push v) (ap vs c)=ap (vs++[v]) (c+1):=by simp[zS,ap]
theorem mh(hn:n<=1000)
  (GF:∀ i acc T1 c s₁ E',i<n->acc.length=i->J i acc T1->St hb tabs L l ((D,ap acc c)::T1) s₁.heap->Kp s s₁ ->
   y7 (y6 prog w) A.in1 (Di (.ref I)) (λo ag=>Ex2 λv T₂=>An4 (o=some v) (Kp s ag) (St hb tabs L l ((D,ap acc c)::T₂) ag.heap) (J (i+1) (acc++[v]) T₂)) E' s₁)
  (done:∀ acc T1 c s₁ E',acc.length=n->J n acc T1->St hb tabs L l ((D,ap acc c)::T1) s₁.heap->Kp s s₁ ->
   y7 (y6 prog w) A.in1 (Di (.ref I)) (λo ag=>o=none/\Kp s ag/\∃ T₂,St hb tabs L l ((D,ap acc c)::T₂) ag.heap/\Je acc T₂) E' s₁)
  (hR:∀ s' acc T' c,Kp s s'->St hb tabs L l ((D,ap acc c)::T') s'.heap->Je acc T'->R (.ok (.ret res)) s') :
  ∀ (k i:Nat) (acc:List Value) (T1:LO) (c:Nat) (s₁:zc),n - i=k->i<=n->acc.length=i->J i acc T1->St hb tabs L l ((D,ap acc c)::T1) s₁.heap->Kp s s₁ ->
   zW (y6 prog w) A (.builtin "list.extend.loop" ⟨[.ref D,.ref I,res],[]⟩) R s₁:=by
 intro k
 induction k with
 | zero =>
  intro i acc T1 c s₁ hk hi hacc hJ S hKp
  have:i=n:=z94 hk hi
  subst this
  refine Ad DO (y0 (m:=Di (.ref I)) (zi (done acc T1 c s₁ _ hacc hJ S hKp) (λo ag z=>?_) λZ Z z=>z))
  obtain⟨rfl,ao,T₂,af,hJe⟩:=z
  exact y4 (hR ag acc T₂ c ao af hJe)
 | succ k ih =>
  refine λi acc T1 c s₁ hk hi hacc hJ S hKp=>Ad DO (y0 (m:=Di (.ref I)) (zi (GF i acc T1 c s₁ _ (z96 hk) hacc hJ S hKp) (λo ag z=>?_) λZ Z z=>z))
  obtain⟨v,T₂,rfl,ao,af,hJ2⟩:=z
  have ho:=af.obj _ m0
  refine y0 (m:=Jr D (·.push v)) ?_
  refine BH ho rfl (y4 ⟨Au Cq _,?_⟩) (by rw[zz,zg];exact z98 hn hi hacc) (by rw[zz,E5,zg];exact z99 hn hi hacc)
  have ae:=af.change (o':=ap (acc++[v]) (c+1)) 0 rfl (zw ag.heap D (zS (·.push v))) (by rw[zt _ ho (by rw[gR];rfl),gR])
  exact ih (i+1) (acc++[v]) T₂ _ _ (z9a hk) (z9b hk) (by simp[hacc]) hJ2 ae ⟨ao.os,ao.gens⟩
theorem pS{Q:VP}(S:St hb tabs L l T s.heap)(hm:(mp,li t f)∈T)(hn:n<=1000)(h0:J 0 [] T)
  (GF:∀ D i acc T1 c s₁ E',i<n->acc.length=i->J i acc T1->St hb tabs L l ((D,ap acc c)::T1) s₁.heap->Kp s s₁ ->
   y7 (y6 prog w) A.in1.in1 (Di (.ref mp)) (λo ag=>Ex2 λv T₂=>An4 (o=some v) (Kp s ag) (St hb tabs L l ((D,ap acc c)::T₂) ag.heap) (J (i+1) (acc++[v]) T₂)) E' s₁)
  (done:∀ D acc T1 c s₁ E',acc.length=n->J n acc T1->St hb tabs L l ((D,ap acc c)::T1) s₁.heap->Kp s s₁ ->
   y7 (y6 prog w) A.in1.in1 (Di (.ref mp)) (λo ag=>o=none/\Kp s ag/\∃ T₂,St hb tabs L l ((D,ap acc c)::T₂) ag.heap/\Je acc T₂) E' s₁)
  (k:∀ s' D acc T' c,Kp s s'->St hb tabs L l ((D,ap acc c)::T') s'.heap->Je acc T'->Q (.ref D) s') :
  y7 (y6 prog w) A (call (.type "list") [.ref mp]) Q E s:=by
 refine Mp (Q₁:=λobj s₁=>obj=.ref s.heap.objs.size/\s₁ = { s with heap:=s.heap.push { cls:=.type "list", data:=.seq #[] } }) F.called_list (F.typeCall_list_1 _) F.entry_list_init
  (code_list_new _ ⟨rfl,rfl⟩) λobj s₁ ai=>?_
 obtain⟨rfl,rfl⟩:=ai
 have ah:=S.push (ap [] 0)
 refine⟨⟨_,ah.obj _ m0,rfl⟩,F.args_list_init_2 _ _,?_⟩
 show y7 _ A.in1.in1 (do let old <- Ih (.ref s.heap.objs.size);Fi (.ref s.heap.objs.size) (λZ=>#[]);letGo old.toList.reverse;Gs (.ref s.heap.objs.size) (.ref mp) .none) _ _ _
 refine y0 (y0 (zy (ah.obj _ m0) rfl (y4 ?_)))
 refine y0 (BH (ah.obj _ m0) rfl ?_)
 obtain⟨c1,hc1⟩:∃ c,zS (λZ=>(#[]:Array Value)) (ap [] 0)=ap [] c:=⟨_,rfl⟩
 have af:=ah.change (o':=ap [] c1) 0 rfl (zw _ s.heap.objs.size (zS λZ=>(#[]:Array Value))) (by rw[zt _ (ah.obj _ m0) rfl,<- hc1])
 refine y0 (DI ?_)
 have hmp:(mp,li t f)∈(s.heap.objs.size,ap [] c1)::T:=aj hm
 have hne:s.heap.objs.size≠mp:=λe=>Ao _ (e▸S.lt hm)
 refine y0 (Dr (T := "map") ⟨_,af.obj _ hmp,rfl⟩ ?_)
 have h1:Hy (.ref s.heap.objs.size) (.ref mp)=false:=by simp[Hy,hne]
 have h2:(An "map" == An "list")=false:=by decide
 have h3:(An "map" == An "tuple")=false:=by decide
 simp only[h1,h2,h3,Bool.or_false,GO,if_false]
 refine y0 (sO af hmp ?_)
 refine y0 (zs ?_)
 refine y0 (BX (T := "map") ⟨_,af.obj _ hmp,rfl⟩ MP.no_len ?_)
 refine y0 (m:=EG (AW mp) (yZ "__length_hint__")) (BX (T := "map") ⟨_,af.obj _ hmp,rfl⟩ MP.no_hint ?_)
 refine y4 (Bq rfl (y0 (AS ?_)))
 refine y0 ?_
 obtain⟨c2,hc2⟩:∃ c,zS (·.push CO) (ap [] c1)=ap [.none] c:=⟨_,rfl⟩
 obtain⟨c3,hc3⟩:∃ c,zS (·.pop) (ap [.none] c2)=ap [] c:=⟨_,rfl⟩
 refine y0 (BH (af.obj _ m0) rfl ?_)
 have ae:=af.change (o':=ap [.none] c2) 0 rfl (zw _ s.heap.objs.size (zS (·.push CO))) (by rw[zt _ (af.obj _ m0) rfl,<- hc2])
 refine BH (ae.obj _ m0) rfl ?_
 have S4:=ae.change (o':=ap [] c3) 0 rfl (zw _ s.heap.objs.size (zS (·.pop))) (by rw[zt _ (ae.obj _ m0) rfl,<- hc3])
 refine y4 ⟨Au Cq _,?_⟩
 exact mh hn (GF _) (done _) (λs' acc T' c K' S' hJ=>⟨rfl,k s' _ acc T' c K' S' hJ⟩) n 0 [] T c3 _ rfl (zD _) rfl h0 S4 ⟨rfl,id⟩
end
section
variable{tabs:List zh}{l:LV}{T own Ro:LO}{vs:List Value}{v:Value}{n:Nat}{P:Nat->Value->Prop}
theorem iI{Q:VP}(i:Nat)(S:St hb tabs L l T s.heap)(hi:T[i]? = some (d,ap vs n))(hz:vs.length<2)(h:∀ h' n',St hb tabs L l (T.set i (d,ap vs n')) h'->Q .none (wh s h')) :
  y7 (y6 prog w) A (call (.builtin "list.sort") [.ref d]) Q E s:=by
 have ho:=S.obj _ (zp hi)
 refine zX Fj ⟨_,ho,rfl⟩ EZ ?_ (Mn _)
 rw[list_sort_plain]
 have hlen:=(zY.mp hi).1
 obtain⟨c1,hc1⟩:∃ c,zS (λZ=>(#[]:Array Value)) (ap vs n)=ap [] c:=⟨_,rfl⟩
 refine y0 (Ke ho rfl ?_)
 refine y0 (ET ho rfl ?_ (by rw[zz,zg];exact ul 16777214 hz) (zD _))
 have ah:=S.change (o':=ap [] c1) i hi (zw _ d (zS λZ=>(#[]:Array Value))) (by rw[zt _ ho rfl,<- hc1])
 have hi1:(T.set i (d,ap [] c1))[i]? = some (d,ap [] c1):=by rw[List.getElem?_set_self hlen]
 refine y0 (FY (ah.obj _ (zp hi1)) rfl ?_)
 have af:=ah.push (aG vs.toArray.toList)
 have ae:=af.push (ap [] 0)
 refine y0 (Fq ?_ (by show vs.length<=_;rw[zz];exact ul 16777214 hz))
 refine y0 (EU ?_ (zD _))
 refine zs ?_
 have hn2:vs.toArray.size<2:=by rw[zg];exact hz
 rw[if_pos hn2,if_pos hn2]
 refine y0 (y4 ?_)
 refine y0 ?_
 show y7 _ _ (AA ((),Ii Kf (vs.toArray.zip vs.toArray) #[] 7 none)) _ _ _
 refine y4 ?_
 have e1:(NL (Ii Kf (vs.toArray.zip vs.toArray) #[] 7 none)).map (·.2)=vs.toArray:=by
  show (vs.toArray.zip vs.toArray).map (·.2)=vs.toArray
  apply EH.mp
  simp
  exact KR (zk _)
 dsimp only
 rw[e1]
 have hm3:(d,ap [] c1)∈((s.heap.update d (zS λZ=>(#[]:Array Value))).push (aG vs.toArray.toList) |>.objs.size,ap [] 0)::((s.heap.update d (zS λZ=>(#[]:Array Value))).objs.size,aG vs.toArray.toList)::T.set i (d,ap [] c1):=aj (aj (zp hi1))
 refine y0 (FY (ae.obj _ hm3) rfl ?_)
 obtain⟨c2,hc2⟩:∃ c,zS (λZ=>vs.toArray) (ap [] c1)=ap vs c:=⟨_,rfl⟩
 refine y0 (ET (ae.obj _ hm3) rfl ?_ (zD _) (by rw[zz,zg];exact z9e hz))
 have hi3:(((s.heap.update d (zS λZ=>(#[]:Array Value))).push (aG vs.toArray.toList) |>.objs.size,ap [] 0)::((s.heap.update d (zS λZ=>(#[]:Array Value))).objs.size,aG vs.toArray.toList)::T.set i (d,ap [] c1))[i+2]? = some (d,ap [] c1):=hi1
 have S4:=ae.change (o':=ap vs c2) (i+2) hi3 (zw _ d (zS λZ=>vs.toArray)) (by rw[zt _ (ae.obj _ hm3) rfl,<- hc2])
 have S5:=S4.sub (T':=(T.set i (d,ap [] c1)).set i (d,ap vs c2)) (.cons _ (zo _ _))
 rw[List.set_set] at S5
 exact zA (by simp) (y4 ⟨_,rfl,h _ c2 S5⟩)
theorem jZ{Q:VP}(S:St hb tabs L l T s.heap)(hm:(d,ap vs n)∈T)
  (h:∀ I o Wt fp h',ItV prog w hb tabs [(d,ap vs n)] I vs.length (λi v=>vs[i]? = some v) Wt fp->(∀ (A:AU) elts x1 tpos i (s:zc) v (Q:UP) E,Wt i s.heap->Q () s->y7 (y6 prog w) A (C0 (.Tuple elts x1 tpos) (.ref I) v) Q E s) ->
   Wt 0 h'->St hb tabs L l (T++[(I,o)]) h'->Q (.ref I) (wh s h')):y7 (y6 prog w) A (EM (.ref d)) Q E s:=by
 have hl:s.heap.IsList d vs.toArray:=⟨_,S.obj _ hm,rfl,n,rfl⟩
 have hne:d≠s.heap.objs.size:=Ag (S.lt hm)
 refine Cb hl (h _ _ (λi h=>h.IsListIter s.heap.objs.size d i/\h.IsList d vs.toArray) [s.heap.objs.size,d] _ ⟨λA hA=>?_,?_,?_⟩ ?_ ⟨⟨_,zU _ rfl,rfl,rfl⟩,⟨_,zC _ (S.obj _ hm),rfl,n,rfl⟩⟩ (S.push _).last)
 case refine_1 =>
  have W:=Ml (prog:=prog) (w:=w) hA s.heap.objs.size d hne vs.toArray
  exact bM W λi v e=>by simpa using e
 case refine_2 =>
  rintro i h ⟨⟨o,e,_⟩,_⟩
  exact⟨o,e⟩
 case refine_3 =>
  intro b hb' hn
  rcases za.mp hb' with rfl|hb'
  ·exact absurd (.head _) hn
  ·rw[y9] at hb'
   subst hb'
   exact .inl ⟨_,.head _⟩
 case refine_4 =>
  intro A elts x1 tpos i s v Q E hw hq
  cases v with
  | ref a=>exact wpAny_letOwnedTupleGo_listiter hw.1 hq
  | _=>exact y4 hq
end
noncomputable def dU(a:zh):LH KS:=(do
  let items <- Ih (.ref a)
  Fi (.ref a) λZ=>#[]
  let before <- seqEpoch a
  let held <- newTuple items.toList
  let keyStore <- newList []
  Hd [held,keyStore] do
   rule "list.sort.reverse"
   let kind <- if items.size<2 then AA Kf else Mq items
   let ((),s) <- (if items.size<2 then AA () else sortRuns').run (Ii kind (items.zip items).reverse #[] 7 none)
   let sorted:=(NL s).map (·.2)
   let touched:=(<- seqEpoch a) != before
   Fi (.ref a) λZ=>sorted.reverse
   if let some e:=failedOf s then rule "list.sort.comparison-raised"; throw e
   if touched then rule "list.sort.modified"; raiseError "ValueError" "list modified during sort"
   ret .none)
theorem kg (a:zh):Az.«list.sort» ⟨[.ref a],[(yZ "reverse", .bool true)]⟩=dU a:=rfl
theorem gX (a:zh):Az.«list.sort» ⟨[.ref a],[(yZ "key", .none),(yZ "reverse", .bool true)]⟩=dU a:=rfl
section
open PySem.Spec
section
variable{tabs:List zh}{l:LV}{T:LO}{vs:List Value}{n:Nat}
theorem nU{H:Prop}{rk:Nat->Nat}{Q:KS->zc->Prop}(S:St hb tabs L l ((d,ap vs n)::T) s.heap)(h2:2<=vs.length)(h64:vs.length<64)
  (hkind:∀ (s':zc) T' {Q:L9->zc->Prop}{E:VP},St hb tabs L l T' s'.heap->(∀ p∈T,p∈T')->Q κ s'->y7 (y6 prog w) A (Mq vs.toArray) Q E s')
  (hlt:∀ (s':zc) T',Kp s s'->St hb tabs L l T' s'.heap->(∀ p∈T,p∈T')->∀ i j,i<vs.length->j<vs.length->∀ C:BP,(∀ b tk,(H->b=decide (rk i<rk j))->C b (wt s' tk)) ->
   y7 (y6 prog w) A (I4 κ (vs.reverse.getD i .none) (vs.reverse.getD j .none)) C (λZ Z=>False) s')
  (k:∀ s' n' (p:Array Nat),Kp s s'->Pm vs.length p->(H->aS rk p vs.length)->St hb tabs L l ((d,ap (p.toList.map λi=>vs.reverse.getD i .none).reverse n')::T) s'.heap->Q (.done (.ret .none)) s') :
  y7 (y6 prog w) A (dU d) Q E s:=by
 have ho:=S.obj _ m0
 obtain⟨c1,hc1⟩:∃ c,zS (λZ=>(#[]:Array Value)) (ap vs n)=ap [] c:=⟨_,rfl⟩
 refine y0 (Ke ho rfl ?_)
 refine y0 (ET ho rfl ?_ (by rw[zz,zg];exact ul 16777152 h64) (zD _))
 have ah:=S.change (o':=ap [] c1) 0 rfl (zw _ d (zS λZ=>(#[]:Array Value))) (by rw[zt _ ho rfl,<- hc1])
 refine y0 (FY (ah.obj _ m0) rfl ?_)
 have af:=ah.push (aG vs.toArray.toList)
 have ae:=af.push (ap [] 0)
 refine y0 (Fq ?_ (by show vs.length<=_;rw[zz];exact ul 16777152 h64))
 refine y0 (EU ?_ (zD _))
 refine zs (y0 (AS ?_))
 have hn2:¬ vs.toArray.size<2:=by rw[zg];exact zas h2
 rw[if_neg hn2,if_neg hn2]
 refine y0 (hkind _ _ ae (λp hp=>aj (aj (aj hp))) ?_)
 have ep:(vs.toArray.zip vs.toArray).reverse=vs.reverse.toArray.zip vs.reverse.toArray:=kat_pairs true (ks:=vs) (vs:=vs) rfl
 rw[ep]
 have hr:vs.reverse.length=vs.length:=C3
 refine y0 (zi (kat_run (ks:=vs.reverse) (vs:=vs.reverse) (κ:=κ) (Q:=λst' s'=>∃ p:Array Nat,NL st'=p.map (kas_item (vs.reverse.toArray.zip vs.reverse.toArray))/\failedOf st'=none/\Kp s s'/\Pm vs.length p/\(H->aS rk p vs.length)/\(Ex4 λa b ta tb=>St hb tabs L l ((a,ta)::(b,tb)::(d,ap [] c1)::T) s'.heap))
  (G:=λp s'=>Kp s s'/\Pm vs.length p/\(H->aS rk p vs.length)/\Ex4 λa b ta tb=>St hb tabs L l ((a,ta)::(b,tb)::(d,ap [] c1)::T) s'.heap) rfl (zat h2 hr) (zau h64 hr) (λp st' s' a1 a2 a3 a4=>⟨p,a2,a3,a4⟩) ?_) ?_ λZ Z x=>x)
 ·rw[hr]
  refine KOk.wp (Inv:=λs'=>Kp s s'/\Ex4 λa b ta tb=>St hb tabs L l ((a,ta)::(b,tb)::(d,ap [] c1)::T) s'.heap) (λi j C s' hI hD hC=>?_) (λp s' hI hp=>?_) (pc (H:=H) (rk:=rk) (z22 h2:0<vs.length)) ⟨⟨rfl,id⟩,_,_,_,_,ae⟩
  ·obtain⟨K',a,b,ta,tb,S'⟩:=hI
   exact hlt s' _ K' S' (λp hp=>aj (aj (aj hp))) i j hD.1 hD.2 C λb' tk hb'=>hC b' _ ⟨⟨K'.os,K'.gens⟩,a,b,ta,tb,S'⟩ hb'
  ·exact⟨hI.1,hp.1,hp.2,hI.2⟩
 rintro⟨⟨⟩,st'⟩ s' ⟨p,har,hf,K',hpm,hso,a,b,ta,tb,S'⟩
 dsimp only
 have e1:(NL st').map (·.2)=Gu (p.toList.map λi=>vs.reverse.getD i .none):=kat_snds rfl har
 rw[e1,hf]
 refine y0 (FY (S'.obj _ m2) rfl ?_)
 have e3:(Gu (p.toList.map λi=>vs.reverse.getD i .none)).reverse=(p.toList.map λi=>vs.reverse.getD i .none).reverse.toArray:=by simp
 rw[e3]
 have hpl:p.toList.length=vs.length:=by
  have:=(Dd.mp hpm).length_eq
  simpa using this
 obtain⟨c2,hc2⟩:∃ c,zS (λZ=>(p.toList.map λi=>vs.reverse.getD i .none).reverse.toArray) (ap [] c1)=ap (p.toList.map λi=>vs.reverse.getD i .none).reverse c:=⟨_,rfl⟩
 refine y0 (ET (S'.obj _ m2) rfl ?_ (zD _) (by rw[zz,zg,C3,ze,hpl];exact zav h64))
 have S4:=S'.change (o':=ap (p.toList.map λi=>vs.reverse.getD i .none).reverse c2) 2 rfl (zw _ d (zS λZ=>(p.toList.map λi=>vs.reverse.getD i .none).reverse.toArray)) (by rw[zt _ (S'.obj _ m2) rfl,<- hc2])
 have S5:=S4.sub (T':=(d,ap (p.toList.map λi=>vs.reverse.getD i .none).reverse c2)::T) (.cons _ (.cons _ (Al _)))
 exact zA (by simp) (y4 (k _ c2 p ⟨K'.os,K'.gens⟩ hpm hso S5))
end
section
variable{tabs:List zh}{l:LV}{T:LO}{vs:List Value}{n:Nat}
theorem jR{Q:KS->zc->Prop}(S:St hb tabs L l ((d,ap vs n)::T) s.heap)(hz:vs.length<2)
  (k:∀ h' n',St hb tabs L l ((d,ap vs n')::T) h'->Q (.done (.ret .none)) (wh s h')) :
  y7 (y6 prog w) A (dU d) Q E s:=by
 have ho:=S.obj _ m0
 obtain⟨c1,hc1⟩:∃ c,zS (λZ=>(#[]:Array Value)) (ap vs n)=ap [] c:=⟨_,rfl⟩
 refine y0 (Ke ho rfl ?_)
 refine y0 (ET ho rfl ?_ (by rw[zz,zg];exact ul 16777214 hz) (zD _))
 have ah:=S.change (o':=ap [] c1) 0 rfl (zw _ d (zS λZ=>(#[]:Array Value))) (by rw[zt _ ho rfl,<- hc1])
 refine y0 (FY (ah.obj _ m0) rfl ?_)
 have af:=ah.push (aG vs.toArray.toList)
 have ae:=af.push (ap [] 0)
 refine y0 (Fq ?_ (by show vs.length<=_;rw[zz];exact ul 16777214 hz))
 refine y0 (EU ?_ (zD _))
 refine zs (y0 (AS ?_))
 have hn2:vs.toArray.size<2:=by rw[zg];exact hz
 rw[if_pos hn2,if_pos hn2]
 refine y0 (y4 ?_)
 refine y0 ?_
 show y7 _ _ (AA ((),Ii Kf (vs.toArray.zip vs.toArray).reverse #[] 7 none)) _ _ _
 refine y4 ?_
 have e1:((NL (Ii Kf (vs.toArray.zip vs.toArray).reverse #[] 7 none)).map (·.2)).reverse=vs.toArray:=by
  show (((vs.toArray.zip vs.toArray).reverse).map (·.2)).reverse=vs.toArray
  apply EH.mp
  simp
  exact KR (zk _)
 dsimp only
 rw[e1]
 refine y0 (FY (ae.obj _ m2) rfl ?_)
 obtain⟨c2,hc2⟩:∃ c,zS (λZ=>vs.toArray) (ap [] c1)=ap vs c:=⟨_,rfl⟩
 refine y0 (ET (ae.obj _ m2) rfl ?_ (zD _) (by rw[zz,zg];exact z9e hz))
 have S4:=ae.change (o':=ap vs c2) 2 rfl (zw _ d (zS λZ=>vs.toArray)) (by rw[zt _ (ae.obj _ m2) rfl,<- hc2])
 have S5:=S4.sub (T':=(d,ap vs c2)::T) (.cons _ (.cons _ (Al _)))
 exact zA (by simp) (y4 (k _ c2 S5))
end
section
variable{tabs:List zh}{l:LV}{T:LO}{vs:List Value}{n:Nat}
theorem lP{kw:LV}{Q:VP}(S:St hb tabs L l T s.heap)(hd:(d,ap vs n)∈T)(hz:vs.length<=1000)
  (ha1:CM "sorted" ⟨[.ref d],kw⟩) (ha2:∀ x,CM "list.sort" ⟨[.ref x],kw⟩) (ht:∀ x,Az.«list.sort» ⟨[.ref x],kw⟩=dU x)
  (h:∀ D tmp c h',St hb tabs L l ((D,ap vs 0)::(tmp,ap vs c)::T) h'->y7 (y6 prog w) A.in1.in1 (dU D) (λfin s'=>∃ v,fin=.done (.ret v)/\Q (.ref D) s') E (wh s h')) :
  y7 (y6 prog w) A (call (.builtin "sorted") [.ref d] kw) Q E s:=by
 refine Ij kind_sorted plain_sorted entry_sorted ha1 (y0 (m:=Mr "sorted" 1 1 _) (y4 ?_))
 refine y0 (collect_list (vs:=vs) ⟨_,S.obj _ hd,rfl,n,rfl⟩ ?_ (by rw[zz];exact up 16776216 hz))
 have ah:=S.push (ap [] 0)
 obtain⟨c1,hc1⟩:∃ c,zS (·++vs.toArray) (ap [] 0)=ap vs c:=by
  have hx:∃ c1,zS (·++vs.toArray) (ap [] 0) = { ap [] 0 with data:=.seq ((#[]:Array Value)++vs.toArray) c1 }:=⟨_,rfl⟩
  rw[GP] at hx
  exact hx
 have af:=ah.change (o':=ap vs c1) 0 rfl (zw _ s.heap.objs.size (zS (·++vs.toArray))) (by rw[zt _ (ah.obj _ m0) (by rw[hc1];rfl),hc1])
 refine y0 (EU ?_ (by rw[zz];exact up 16776216 hz))
 have ae:=af.push (ap vs 0)
 refine y0 (zs (Jz Fj ⟨_,ae.obj _ m0,rfl⟩ EZ ?body (ha2 _)))
 case body =>
  rw[ht]
  refine zi (h _ _ c1 _ ae) (λfin s' z=>?_) λZ Z x=>x
  obtain⟨v,rfl,q⟩:=z
  exact⟨_,rfl,y4 ⟨_,rfl,q⟩⟩
end
end
noncomputable abbrev tabs:List zh:=[248]
noncomputable def KN(P:zI):Ht:=(K1 P++K2 (kz (st1 pw 6)) P)++K3 P
theorem KN_nt(P:zI):((KN P).all λp=>!tabs.contains p.1)=true:=by kernel_rfl
theorem jH{a b:zh}{o:AR}{u:AR}:∀ {l r:Ht},((l++r).all λp=>!(p.1==b))=true->(l++r).lookup a=some o->(l++(b,u)::r).lookup a=some o:=by
 intro l
 induction l with
 | nil =>
  intro r hb e
  show ((b,u)::r).lookup a=_
  rw[ED]
  split
  ·rename_i hq
   exfalso
   have hm:∀ (m:Ht),m.lookup a=some o->(a,o)∈m:=λm=>by
    induction m with
    | nil=>intro e;cases e
    | cons p r ih =>
     intro e
     rw[ED] at e
     split at e
     ·rename_i hq
      cases e
      rw[beq_iff_eq.mp hq];exact .head _
     ·exact aj (ih e)
   have:=zF.mp hb _ (hm _ e)
   rw[show ((a,o).1==b)=true from hq] at this
   cases this
  ·exact e
 | cons p l ih =>
  intro r hb e
  obtain⟨c,q⟩:=p
  rw[Bu,ED] at e ⊢
  rw[Bu,MM] at hb
  split
  ·rename_i hq
   rw[hq] at e;exact e
  ·rename_i hq
   rw[hq] at e
   exact ih (zr.mp hb).2 e
theorem KN_in{P:zI}{h:AJ}(k:(KK P).In h):(KN P).In h:=λa o e=>k a o (by
 have e:((K1 P++K2 (kz (st1 pw 6)) P)++(316,o316 P)::K3 P).lookup a=some o:=jH (by kernel_rfl) e
 exact jH (by kernel_rfl) e)
noncomputable def fdO(o:AR):BD:=match o.data with
 | .func f=>f
 | _=>AF
noncomputable def fd110(P:zI):BD:=fdO (o110 P)
theorem lk110 (P:zI):(KN P).lookup 110=some ⟨An "function", none,.func (fd110 P),#[]⟩:=by kernel_rfl
noncomputable def fd117(P:zI):BD:=fdO (o117 P)
theorem lk117 (P:zI):(KN P).lookup 117=some ⟨An "function", none,.func (fd117 P),#[]⟩:=by kernel_rfl
noncomputable def fd173(P:zI):BD:=fdO (o173 P)
theorem lk173 (P:zI):(KN P).lookup 173=some ⟨An "function", none,.func (fd173 P),#[]⟩:=by kernel_rfl
noncomputable def yL(P:zI):BD:=fdO (o188 P)
theorem lk188 (P:zI):(KN P).lookup 188=some ⟨An "function", none,.func (yL P),#[]⟩:=by kernel_rfl
noncomputable def fd195(P:zI):BD:=fdO (o195 P)
theorem lk195 (P:zI):(KN P).lookup 195=some ⟨An "function", none,.func (fd195 P),#[]⟩:=by kernel_rfl
noncomputable def fd202(P:zI):BD:=fdO (o202 P)
theorem lk202 (P:zI):(KN P).lookup 202=some ⟨An "function", none,.func (fd202 P),#[]⟩:=by kernel_rfl
noncomputable def fd209(P:zI):BD:=fdO (o209 P)
theorem lk209 (P:zI):(KN P).lookup 209=some ⟨An "function", none,.func (fd209 P),#[]⟩:=by kernel_rfl
noncomputable def fd216(P:zI):BD:=fdO (o216 P)
theorem lk216 (P:zI):(KN P).lookup 216=some ⟨An "function", none,.func (fd216 P),#[]⟩:=by kernel_rfl
noncomputable def yK(P:zI):BD:=fdO (o224 P)
theorem lk224 (P:zI):(KN P).lookup 224=some ⟨An "function", none,.func (yK P),#[]⟩:=by kernel_rfl
noncomputable def yJ(P:zI):BD:=fdO (o231 P)
theorem yi (P:zI):(KN P).lookup 231=some ⟨An "function", none,.func (yJ P),#[]⟩:=by kernel_rfl
noncomputable def yI(P:zI):BD:=fdO (o253 P)
theorem lk253 (P:zI):(KN P).lookup 253=some ⟨An "function", none,.func (yI P),#[]⟩:=by kernel_rfl
noncomputable def yH(P:zI):BD:=fdO (o260 P)
theorem lk260 (P:zI):(KN P).lookup 260=some ⟨An "function", none,.func (yH P),#[]⟩:=by kernel_rfl
noncomputable def fd267(P:zI):BD:=fdO (o267 P)
theorem lk267 (P:zI):(KN P).lookup 267=some ⟨An "function", none,.func (fd267 P),#[]⟩:=by kernel_rfl
noncomputable def aO(P:zI):BD:=fdO (o280 P)
theorem yh (P:zI):(KN P).lookup 280=some ⟨An "function", none,.func (aO P),#[]⟩:=by kernel_rfl
noncomputable def dI(P:zI):BD:=fdO (o286 P)
theorem oA (P:zI):(KN P).lookup 286=some ⟨An "function", none,.func (dI P),#[]⟩:=by kernel_rfl
noncomputable def fd293(P:zI):BD:=fdO (o293 P)
theorem lk293 (P:zI):(KN P).lookup 293=some ⟨An "function", none,.func (fd293 P),#[]⟩:=by kernel_rfl
noncomputable def fd300(P:zI):BD:=fdO (o300 P)
theorem lk300 (P:zI):(KN P).lookup 300=some ⟨An "function", none,.func (fd300 P),#[]⟩:=by kernel_rfl
noncomputable def fd307(P:zI):BD:=fdO (o307 P)
theorem lk307 (P:zI):(KN P).lookup 307=some ⟨An "function", none,.func (fd307 P),#[]⟩:=by kernel_rfl
noncomputable def jt(P:zI):BD:=fdO (o314 P)
theorem lk314 (P:zI):(KN P).lookup 314=some ⟨An "function", none,.func (jt P),#[]⟩:=by kernel_rfl
noncomputable def yG(P:zI):BD:=fdO (o321 P)
theorem lk321 (P:zI):(KN P).lookup 321=some ⟨An "function", none,.func (yG P),#[]⟩:=by kernel_rfl
noncomputable def eJ(P:zI):BD:=fdO (o326 P)
theorem lk326 (P:zI):(KN P).lookup 326=some ⟨An "function", none,.func (eJ P),#[]⟩:=by kernel_rfl
noncomputable def yF(P:zI):BD:=fdO (o331 P)
theorem lk331 (P:zI):(KN P).lookup 331=some ⟨An "function", none,.func (yF P),#[]⟩:=by kernel_rfl
abbrev GK(w:As)(hb:AJ):Prop:=Gd (KN w.params) tabs hb
noncomputable def bK(m n:Int):UInt64:=if n=0 then 4607182418800017408 else Ln (Lo 4611686018427387904 (EV m)) (EV n)
section
variable{l:LV}{T:LO}
theorem eC{n:Int}(h1:0<=n)(h2:n<=1000):n.natAbs<2 ^ 1023:=by
 have:n.natAbs<=1000:=DL.mp (by rw[Int.natAbs_of_nonneg h1];exact h2)
 exact zN (Bv this (by decide:1000<2 ^ 10)) (Nat.pow_le_pow_right (by decide) (by decide))
theorem ji(G:GK w hb)(S:St hb tabs L l T s.heap)(hd:A.depth<zj){m n:Int}{t u:AQ}(m0:0<=m)(m1:m<=1000)(n0:0<=n)(n1:n<=1000)
  (k:∀ h' tk t',s.toks<=t'->t'<tk->St hb tabs L l T h'->R (.ok (.ret (.float (bK m n) t'))) (wht s h' tk)) :
  zW (y6 pw w) A (.call (.ref 173) ⟨[.int m t,.int n u],[]⟩) R s:=by
 refine dR G S (lk173 _) hd (binds:=[(yZ "matches", .int m t),(yZ "length", .int n u)]) (body:=aD (st1 pw 5)) (Ba (by kernel_rfl)) (λL' ai oL r S'=>lQ (B3 (ac S' (aj (.head _)) (JR ⟨λhb=>?_,λhb=>?_⟩))))
 ·have hn:n≠0:=by simpa using hb
  have hO:¬ Mt n:=λq=>by
   have:=eC n0 n1
   exact absurd q (Ik.mpr (zN this (by decide +kernel)))
  refine cO (wpAny_BinOp (wpAny_BinOp (Br (ac S' (.head _) (mul_fi_fits (eC m0 m1) (ac S' (aj (.head _)) (G7 (IK hO) (λx=>hn ((Il n).mp x)) ?_)))))))
  have e:bK m n=Ln (Lo 4611686018427387904 (EV m)) (EV n):=if_neg hn
  refine e▸k _ _ _ ?_ ?_ (S'.leave 0 rfl r)
  ·simp only[zL,Ck];exact z02
  ·simp only[zL,Ck];exact z03
 ·have hn:n=0:=by simpa using hb
  refine aE (cO (Br ?_))
  have e:bK m n=4607182418800017408:=if_pos hn
  refine e▸k _ _ _ ?_ ?_ (S'.leave 0 rfl r)
  ·simp only[zL,Ck];exact z04
  ·simp only[zL,Ck];exact z05
theorem jL(G:GK w hb)(S:St hb tabs L l T s.heap)(hd:A.depth<zj){m n:Int}{t u:AQ}(m0:0<=m)(m1:m<=1000)(n0:0<=n)(n1:n<=1000)
  (k:∀ h' tk t',St hb tabs L l T h'->R (.ok (.ret (.float (bK m n) t'))) (wht s h' tk)) :
  zW (y6 pw w) A (.call (.ref 173) ⟨[.int m t,.int n u],[]⟩) R s :=
 ji G S hd m0 m1 n0 n1 λh' tk t' Z Z S'=>k h' tk t' S'
end
noncomputable abbrev smO(dx:zh):AR:=⟨.ref 270,some dx,.plain,#[]⟩
section
variable{x:zh}{l:LV}{T Ra Rb:LO}{fl:LV}
theorem n5 (G:GK w hb) (S:St hb tabs L l T s.heap) (hd:A.depth+1<zj) (hh:A.handled=none) (hx:(x,smO dx)∈T) (hdx:(dx,od)∈T) (hf:bH od fl) (ha:(yZ "a", va)∈fl) (hb':(yZ "b", vb)∈fl)
  (Va:SqV (pw) w hb tabs Ra va la) (Vb:SqV pw w hb tabs Rb vb lb) (hRa:∀ p∈Ra,p∈T) (hRb:∀ p∈Rb,p∈T)
  (k:∀ h' tk t',St hb tabs L l T h'->R (.ok (.ret (.float (bK (L8 la.length lb.length) (la.length+lb.length)) t'))) (wht s h' tk)) :
  zW (y6 pw w) A (.call (.ref 267) ⟨[.ref x],[]⟩) R s:=by
 have sa:=Va.small
 have sb:=Vb.small
 refine dR G S (lk267 _) (dn 1 hd) (binds:=[(yZ "self", .ref x)]) (body:=aD (st2 pw 6 12)) (Ba (by kernel_rfl)) (λL' ai oL r S'=>eZ (eM [yZ "la", yZ "lb"] (args_cons (jM G S' B5 (args_cons (bQ (ac S' (.head _) (bB G S' (aj hx) (aj hdx) hf ha ?_ (hv:=Va.hand)))))))))
 refine zq (Va.len S' (λp hp=>aj (hRa p hp)) ?_)
 refine λb7 br=>args_cons (jM G S' B5 (args_cons (bQ (ac S' (.head _) (bB G S' (aj hx) (aj hdx) hf hb' ?_ (hv:=Vb.hand))))))
 refine zq (Vb.len S' (λp hp=>aj (hRb p hp)) ?_)
 refine λb8 dq=>zq ⟨rfl,rfl,hh,_,_,_,_,_,S',?_⟩
 refine λam af=>cU af (.new (by kernel_rfl)) (λak ae=>cU ae (.new (by kernel_rfl)) (λau S4=>eQ (cO (tZ G S4 (v:=.ref 173) (by kernel_rfl) (args_cons (jM G S4 boot_min (bl S4 (.head _) (bln S4 (aj (.head _)) (xR hh S4 ?_)))))))))
 refine λax ed eo S5=>args_cons (wpAny_BinOp (ac S5 (.head _) (ac S5 (aj (.head _)) (CT (zq ⟨⟨_,_,_,S5⟩,?_⟩)))))
 exact jL G S5 hd z3c (z3d sa) z15 (z16 sa sb) (λaz tk6 t6 S6=>k _ _ _ (S6.leave 0 rfl r))
end
section
variable{x:zh}{l:LV}{T:LO}{fl fl1 fl2 fl3:LV}{av v:Value}{T₀:LO}
abbrev aP(w:As)(T₀:LO)(v u:Value)(C:Prop):Prop:=∀ {A:AU}{E:VP}{s:zc}{Q:VP},B8 s.heap->(∀ p∈T₀,s.heap.get? p.1=some p.2)->(∀ c:Bool,(c=true->C)->Q (.bool c) s)->y7 (y6 pw w) A (AK .Is v u) Q E s
theorem iZ{y:zK}{t:AQ}:aP w T₀ (.str y t) .none False:=λZ Z h=>L3 (h false λq=>by cases q)
theorem jI{y z:zK}{t u:AQ}(ht:t≠0)(hu:u≠0)(he:t=u->y=z):aP w T₀ (.str y t) (.str z u) (y=z):=λnb Z h=>wH nb ht hu he h
theorem aP.mono{T1:LO}{u:Value}{C:Prop}(H:aP w T₀ v u C)(h:∀ p∈T₀,p∈T1):aP w T1 v u C:=λnb q=>H nb λp hp=>q p (h p hp)
theorem aP.imp{u:Value}{C C':Prop}(H:aP w T₀ v u C)(h:C->C'):aP w T₀ v u C':=λnb q k=>H nb q λc hc=>k c λe=>h (hc e)
theorem set_seq1 {C:Prop} (G:GK w hb) (S:St hb tabs L l ((x,smO dx)::(dx,od)::T) s.heap) (hd:A.depth<zj) (hf:bH od fl) (ha:(yZ "a", av)∈fl) (hav:Md av=true)
  (his:aP w T₀ v av C) (hT0:∀ p∈T₀,p∈T) (p1:Put fl (yZ "a") v fl1) (p2:Put fl1 (yZ "matching_blocks") .none fl2) (p3:Put fl2 (yZ "opcodes") .none fl3) (hz:Cj fl1.length 1000=true) (hz2:Cj fl2.length 1000=true) (hz3:Cj fl3.length 1000=true)
  (k0:C->∀ h' tk,St hb tabs L l ((x,smO dx)::(dx,od)::T) h'->R (.ok (.ret .none)) (wht s h' tk))
  (k1:∀ h' tk od',St hb tabs L l ((x,smO dx)::(dx,od')::T) h'->bH od' fl3->R (.ok (.ret .none)) (wht s h' tk)) :
  zW (y6 pw w) A (.call (.ref 202) ⟨[.ref x,v],[]⟩) R s:=by
 refine dR G S (lk202 _) hd (binds:=[(yZ "self", .ref x),(yZ "a", v)]) (body:=aD (st2 pw 6 3)) (Ba (by kernel_rfl)) (λL' ai oL r S'=>eZ (dB (ac S' (aj (.head _)) (bQ (ac S' (.head _) (bB G S' (aj (.head _)) (aj (aj (.head _))) hf ha ?_ (hv:=hav)))))))
 refine his (S'.nb G) (λp hp=>S'.obj p (aj (aj (aj (hT0 p hp))))) λc hc=>(zb ⟨λhb=>?_,λhb=>?_⟩)
 ·exact uI (k0 (hc hb) _ _ (S'.leave 0 rfl r))
 ·refine aE (dA (ac S' (aj (.head _)) (ac S' (.head _) (aN 2 G S' (aj (.head _)) rfl hf p1 ?_ hz))))
  refine λam od2 af hf2=>j4 (BA (cT (ac af (.head _) (aN 2 G af (aj (.head _)) rfl hf2 p2 ?_ hz2))))
  refine λak od3 ae hf3=>cT (ac ae (.head _) (aN 2 G ae (aj (.head _)) rfl hf3 p3 ?_ hz3))
  exact λau od4 S4 hf4=>aE (k1 _ _ _ (S4.leave 0 rfl r) hf4)
end
section
variable{x:zh}{l:LV}{T:LO}{fl:LV}{Rb:LO}{fl1:Value->LV}{fl2:Value->Value->LV}{fl3:Value->Value->Value->LV}
theorem dL{c:zK}{u:AQ}:(Ap pw w).is c (.str c u)=true:=by simp[Ap,Value.isStrOf]
theorem w9 (G:GK w hb) (S:St hb tabs L l ((x,smO dx)::(dx,od)::T) s.heap) (hd:A.depth<zj) (hh:A.handled=none) (hf:bH od fl) (hb':(yZ "b", vb)∈fl)
  (Vb:SqV pw w hb tabs Rb vb lb) (hRb:∀ p∈Rb,p∈T)
  (p1:∀ v,Put fl (yZ "b2j") v (fl1 v)) (p2:∀ v u,Put (fl1 v) (yZ "bjunk") u (fl2 v u)) (p3:∀ v u z,Put (fl2 v u) (yZ "bpopular") z (fl3 v u z))
  (hij:∀ v u,(yZ "isjunk", .none)∈fl2 v u) (haj:∀ v u z,(yZ "autojunk", .bool true)∈fl3 v u z)
  (hz:∀ v u z,Cj (fl1 v).length 1000=true/\Cj (fl2 v u).length 1000=true/\Cj (fl3 v u z).length 1000=true)
  (k:∀ s' od' d2 sj sp o2 rows led led',Kp s s'->St hb tabs L l ((x,smO dx)::(dx,od')::(sp,cJ led')::(sj,cJ led)::(d2,o2)::(rows.map aW.ob++T)) s'.heap->bH od' (fl3 (.ref d2) (.ref sj) (.ref sp)) ->
   o2.IsDictOf (Ap pw w) (rows.map aW.kv)->cI lb rows->R (.ok (.ret .none)) s') :
  zW (y6 pw w) A (.call (.ref 216) ⟨[.ref x],[]⟩) R s:=by
 refine dR G S (lk216 _) hd (binds:=[(yZ "self", .ref x)]) (body:=aD (st2 pw 6 5)) (Ba (by kernel_rfl)) (λL' ai oL r S'=>aC (bQ (ac S' m0 (bB G S' m1 m2 hf hb' ?_ (hv:=Vb.hand)))))
 refine aq S' (.new (by kernel_rfl)) (λam af=>j4 (iL af ?_))
 refine λd2 ak ae=>cT (ac ae m1 (aN 3 G ae m2 rfl hf (p1 _) ?_ (hz (.ref d2) .none .none).1))
 refine λau od4 S4 hf4=>aU (aq S4 (.new (by kernel_rfl)) ?_)
 refine λax S5=>eY (rp G S5 jv (bln S5 m1 (Vb.enum hh S5 (λp hp=>aj (aj (aj (aj (hRb p hp))))) ?_)))
 refine λI J o o' Wt Mid fp az IU hw S6=>(IU.walks (A.deeper _) hh).self 0 _ _ _ ?_ ?_
 ·exact hw
 let Y:LO->LO:=λT=>(L,oL)::(x,smO dx)::(dx,od4)::T
 let H:Nat->LV->LO->Prop:=λi l₁ T1=>l₁=[(yZ "b2j", .ref d2),(yZ "b", vb),(yZ "self", .ref x)] /\
   Ex2 λo2 rows=>An3 (T1=(d2,o2)::Y (rows.map aW.ob++T)) (o2.IsDictOf (Ap pw w) (rows.map aW.kv)) (cI (lb.take i) rows)
 refine IU.loop (z:=s) (own:=[(I,o),(J,o')]) hh rfl S6 hw
  H
  ⟨rfl,dict0,[],rfl,eH,cI.nil⟩ (λp hp=>aj (aj (aj (aj (hRb p hp))))) ?_ (by kernel_rfl) ?_ ?_
 ·rintro i vals ⟨t,y,-,rfl⟩
  rfl
 ·rintro E1 i vals l₁ T1 own1 s₁ hi ⟨t,y,⟨c,u,hc,rfl⟩,rfl⟩ ⟨rfl,o2,rows,rfl,hd2,hrows⟩ S7 hRo hKp
  refine aZ (aq S7 (.new (by kernel_rfl)) ?_)
  refine λbc S8=>aZ (aq S8 (.new (by kernel_rfl)) ?_)
  refine λbf S9=>cD (aC (aV (ac S9 m2 (j3 S9 m0 hd2 F8 PySem.F.type_dict_setdefault (aH (bl S9 m0 (args_cons ?_)))))))
  refine bF (zq ⟨rfl,_,_,_,_,_,S9,?_⟩)
  refine λa d5 S10=>zq ?_
  have hle:(lb.take i).length=i:=by rw[Bh];exact z4h hi
  have hsm:=Vb.small
  have hrl:=hrows.small
  have hlen:(rows.map aW.kv).length<=1000:=by rw[ze];exact z6t hi hle hsm hrl
  have htk:lb.take (i+1)=lb.take i++[c]:=by rw[List.take_succ,hc];rfl
  refine zi (k6 (E:=E1) (Q:=λv ag=>Ex4 λ(o2':AR) (rows':List aW) (j:Nat) (r:aW)=>An7 (v=.ref r.a) (Kp s ag) (St hb tabs L' [(yZ "elt", .str c u),(yZ "i", .int i t),(yZ "b2j", .ref d2),(yZ "b", vb),(yZ "self", .ref x)] ((d2,o2')::Y (rows'.map aW.ob++(T++own1))) ag.heap) (o2'.IsDictOf (Ap pw w) (rows'.map aW.kv)) (rows'[j]? = some r) (r.vs.length<=1000) (cI (lb.take (i+1)) (rows'.set j ⟨r.c,r.a,r.vs++[.int i t],r.n+1⟩))) 1 G S10 rfl hd2 (k:=c) dL (λv hv=>?_) (λhn cr o2' S11 hd2'=>?_) hlen) ?_ (λZ Z z=>z)
  ·obtain⟨j,r,hj,rfl,rfl⟩:=cV hv
   refine⟨o2,rows,j,r,rfl,⟨hKp.os,hKp.gens⟩,?_,hd2,hj,?_,?_⟩
   ·rw[<- zx]
    exact S10.sub (zo _ _)
   ·rw[(hrows.at_ r (zp hj)).len]
    have:=gK (lb.take i) r.c
    exact z6t hi hle hsm this
   ·have:=hrows.old hj (t:=t) (n:=r.n+1)
    rw[hle] at this
    rw[htk];exact this
  ·refine⟨o2',rows++[(⟨c,a,[],0⟩:aW)],rows.length,⟨c,a,[],0⟩,rfl,⟨hKp.os,hKp.gens⟩,?_,?_,by simp,by simp,?_⟩
   ·refine S11.perm ?_
    show ((a,ap [] 0)::(d2,o2')::Y (rows.map aW.ob++T++own1)).Perm _
    rw[zG,zx,zx]
    have:((a,ap [] 0)::((d2,o2')::(L,oL)::(x,smO dx)::(dx,od4)::rows.map aW.ob++(T++own1))).Perm ((d2,o2')::(L,oL)::(x,smO dx)::(dx,od4)::rows.map aW.ob++(a,ap [] 0)::(T++own1)):=zv.symm
    exact this
   ·rw[<- iy hn];exact hd2'
   ·have:=hrows.new (cX hn) (a:=a) (t:=t) (n:=1)
    rw[hle] at this
    rw[htk,IL _ _ (zk _)]
    simpa using this
  ·rintro v ag ⟨o2',rows',j,r,rfl,hKp2,S12,hd2',hj,hvs,hrows'⟩
   refine aq S12 (.new (by kernel_rfl)) (λh13 S13=>bR (aV (ac S13 m0 ?_)))
   have hat:((d2,o2')::Y (rows'.map aW.ob++(T++own1)))[4+j]? = some (r.a,ap r.vs r.n):=by
    rw[M8]
    exact yC (X:=T++own1) hj
   refine cL S13 (zp hat) By CP (aH (bln S13 m2 (cA (4+j) S13 hat ?_ (up 9000 hvs))))
   refine λh14 S14=>aE ⟨[(yZ "b2j", .ref d2),(yZ "b", vb),(yZ "self", .ref x)],(d2,o2')::Y ((rows'.set j ⟨r.c,r.a,r.vs++[.int i t],r.n+1⟩).map aW.ob++T),?_,⟨rfl,o2',_,rfl,?_,hrows'⟩,?_,⟨hKp2.os,hKp2.gens⟩⟩
   ·refine (S14.forget (l':=[(yZ "b2j", .ref d2),(yZ "b", vb),(yZ "self", .ref x)]) ?_).perm ?_
    ·exact .cons _ (.cons _ (.cons _ (Al _)))
    ·have e:=xC (X:=T++own1) (r':=⟨r.c,r.a,r.vs++[.int i t],r.n+1⟩) hj
     rw[M8 4 j]
     show ((d2,o2')::(L,oL)::(x,smO dx)::(dx,od4)::(rows'.map aW.ob++(T++own1)).set j (aW.ob ⟨r.c,r.a,r.vs++[.int i t],r.n+1⟩)).Perm ((d2,o2')::Y (((rows'.set j ⟨r.c,r.a,r.vs++[.int i t],r.n+1⟩).map aW.ob++T)++own1))
     rw[e,zx]
   ·have e:List.map aW.kv (rows'.set j ⟨r.c,r.a,r.vs++[Cc i t],r.n+1⟩)=_:=xD hj rfl rfl
    rw[e];exact hd2'
   ·exact λp hp=>aj (aj (aj (aj (y5 _ (hRb p hp)))))
 ·rintro s' l' T' hKp S7 ⟨rfl,o2,rows,rfl,hd2,hrows⟩ hRo
  have htk:lb.take lb.length=lb:=z4
  rw[htk] at hrows
  refine j4 (rp G S7 nM (zq (uF S7 ?_)))
  refine λsj led bc S8=>cT (ac S8 m2 (aN 4 G S8 m3 rfl hf4 (p2 _ _) ?_ (hz (.ref d2) (.ref sj) .none).2.1))
  refine λbf od9 S9 hf9=>aU (aq S9 (.new (by kernel_rfl)) ?_)
  refine λd5 S10=>aC (bQ (ac S10 m3 (bB G S10 m3 m4 hf9 (hij _ _) (aq S10 (.new (by kernel_rfl)) ?_))))
  refine λcr S11=>lQ (B3 (ac S11 m0 (truthy_none ⟨nofun,λZ=>?_⟩)))
  refine aE (j4 (rp G S11 nM (zq (uF S11 ?_))))
  refine λsp led' cu S12=>cT (ac S12 m4 (aN 5 G S12 m4 rfl hf9 (p3 _ _ _) ?_ (hz (.ref d2) (.ref sj) (.ref sp)).2.2))
  refine λh13 od13 S13 hf13=>aU (aq S13 (.new (by kernel_rfl)) ?_)
  refine λh14 S14=>aC (jM G S14 B5 (bln S14 m4 (Vb.len S14 (λp hp=>aj (aj (aj (aj (aj (aj (y5 _ (hRb p hp)))))))) ?_)))
  refine λb7 br=>aq S14 (.new (by kernel_rfl)) (λh15 S15=>lQ (cC (B3 (bQ (ac S15 m6 (bB G S15 m4 m5 hf13 (haj _ _ _) (zb ⟨λZ=>?_,nofun⟩)))))))
  refine cC (wpAny_isTrue_Compare1 (ac S15 m0 (wpAny_Constant_int (L4 ?_))))
  have hsm:=Vb.small
  refine zb ⟨λhb=>absurd (of_decide_eq_true hb) (z6u hsm),λZ=>?_⟩
  refine⟨nofun,λZ=>?_⟩
  refine aE (aE (k _ _ _ _ _ _ _ led led' ?kp ?st hf13 hd2 hrows))
  case kp=>exact⟨hKp.os,hKp.gens⟩
  case st=>exact (S15.leave 3 rfl r).perm ((zM (l₁:=[(sp,cJ led'),(sj,cJ led),(d2,o2)]) (l₂:=[(x,smO dx),(dx,od13)])).append_right _)
end
section
variable{x:zh}{l:LV}{T:LO}{fl f1 f2 f3 f4:LV}{T₀:LO}{v bv:Value}{Rb:LO}{fl1:Value->LV}{fl2:Value->Value->LV}{fl3:Value->Value->Value->LV}{C:Prop}
abbrev rK(w:As)(hb:AJ)(L x dx:zh)(l:LV)(T:LO)(R:Cm->zc->Prop)(lb:List zK)(fl3:Value->Value->Value->LV)(s:zc):Prop :=
 ∀ s' od' d2 sj sp o2 rows led led',Kp s s'->St hb tabs L l ((x,smO dx)::(dx,od')::(sp,cJ led')::(sj,cJ led)::(d2,o2)::(rows.map aW.ob++T)) s'.heap->bH od' (fl3 (.ref d2) (.ref sj) (.ref sp)) ->
   o2.IsDictOf (Ap pw w) (rows.map aW.kv)->cI lb rows->R (.ok (.ret .none)) s'
theorem set_seq2 (G:GK w hb) (S:St hb tabs L l ((x,smO dx)::(dx,od)::T) s.heap) (hd:A.depth+1<zj) (hh:A.handled=none) (hf:bH od fl) (ha:(yZ "b", bv)∈fl) (hav:Md bv=true)
  (Vb:SqV pw w hb tabs Rb v lb) (hRb:∀ p∈Rb,p∈T) (his:aP w T₀ v bv C) (hT0:∀ p∈T₀,p∈T)
  (q1:Put fl (yZ "b") v f1) (q2:Put f1 (yZ "matching_blocks") .none f2) (q3:Put f2 (yZ "opcodes") .none f3) (q4:Put f3 (yZ "fullbcount") .none f4)
  (hz1:Cj f1.length 1000=true) (hz2:Cj f2.length 1000=true) (hz3:Cj f3.length 1000=true) (hz4:Cj f4.length 1000=true)
  (hb4:(yZ "b", v)∈f4) (hnm:(f4.map (·.1)).contains (yZ "_SequenceMatcher__chain_b")=false)
  (p1:∀ v,Put f4 (yZ "b2j") v (fl1 v)) (p2:∀ v u,Put (fl1 v) (yZ "bjunk") u (fl2 v u)) (p3:∀ v u z,Put (fl2 v u) (yZ "bpopular") z (fl3 v u z))
  (hij:∀ v u,(yZ "isjunk", .none)∈fl2 v u) (haj:∀ v u z,(yZ "autojunk", .bool true)∈fl3 v u z)
  (hz:∀ v u z,Cj (fl1 v).length 1000=true/\Cj (fl2 v u).length 1000=true/\Cj (fl3 v u z).length 1000=true)
  (k0:C->∀ s',Kp s s'->St hb tabs L l ((x,smO dx)::(dx,od)::T) s'.heap->R (.ok (.ret .none)) s')
  (k:rK w hb L x dx l T R lb fl3 s) :
  zW (y6 pw w) A (.call (.ref 209) ⟨[.ref x,v],[]⟩) R s:=by
 refine dR G S (lk209 _) (dn 1 hd) (binds:=[(yZ "self", .ref x),(yZ "b", v)]) (body:=aD (st2 pw 6 4)) (Ba (by kernel_rfl)) (λL' ai oL r S'=>eZ (dB (ac S' m1 (bQ (ac S' m0 (bB G S' m1 m2 hf ha ?_ (hv:=hav)))))))
 refine his (S'.nb G) (λp hp=>S'.obj p (aj (aj (aj (hT0 p hp))))) λc hc=>(zb ⟨λhb=>?_,λhb=>?_⟩)
 ·exact uI (k0 (hc hb) _ ⟨rfl,id⟩ (S'.leave 0 rfl r))
 ·refine aE (dA (ac S' m1 (ac S' m0 (aN 2 G S' m1 rfl hf q1 ?_ hz1))))
  refine λam od2 af hf2=>j4 (BA (cT (ac af m0 (aN 2 G af m1 rfl hf2 q2 ?_ hz2))))
  refine λak od3 ae hf3=>cT (ac ae m0 (aN 2 G ae m1 rfl hf3 q3 ?_ hz3))
  refine λau od4 S4 hf4=>dA (BA (ac S4 m0 (aN 2 G S4 m1 rfl hf4 q4 ?_ hz4)))
  refine λax od5 S5 hf5=>bR (aV (ac S5 m0 (dM (f:=216) G S5 m1 m2 hf5 ?_ (hn:=hnm))))
  refine cR G (zq ⟨⟨_,_,_,S5⟩,?_⟩)
  have S6:=S5.perm (T':=(x,smO dx)::(dx,od5)::(L,oL)::T) (rM)
  refine w9 G S6 hd hh hf5 hb4 Vb (λp hp=>aj (hRb p hp)) p1 p2 p3 hij haj hz (λs' od' d2 sj sp o2 rows led led' hKp S7 hf7 hd2 hrows=>aE ?_)
  have S8:=S7.perm (T':=(L,oL)::(x,smO dx)::(dx,od')::(sp,cJ led')::(sj,cJ led)::(d2,o2)::(rows.map aW.ob++T)) (zv (l₁:=(x,smO dx)::(dx,od')::(sp,cJ led')::(sj,cJ led)::(d2,o2)::rows.map aW.ob))
  refine k _ _ _ _ _ _ _ led led' ?kp ?st hf7 hd2 hrows
  case kp=>exact⟨hKp.os,hKp.gens⟩
  case st=>exact S8.leave 0 rfl r
end
noncomputable abbrev mf(va vb mb fc j sj sp:Value):LV :=
 [(yZ "isjunk", .none),(yZ "a", va),(yZ "b", vb),(yZ "autojunk", .bool true),(yZ "matching_blocks", mb),(yZ "opcodes", .none),(yZ "fullbcount", fc),
  (yZ "b2j", j),(yZ "bjunk", sj),(yZ "bpopular", sp)]
section
variable{x:zh}{l:LV}{T:LO}{fl:LV}{Ra Rb:LO}{tabs:List zh}
theorem yR{rest:List Value}{kw:LV}{fI:zh}(G:Gd K tabs hb)(S:St hb tabs L l T s.heap)
  (h:∀ x dx h',St hb tabs L l ((x,(⟨.ref C,some dx,.plain,#[]⟩:AR))::(dx,dict0)::T) h' ->
   zW (y6 prog w) (A.under (.builtin "type.__call__" ⟨.ref C::rest,kw⟩)) (.call (.ref fI) ⟨.ref x::rest,kw⟩) (InitBack x R) (wh s h'))
  (hm:makesIn K C=true:=by kernel_rfl) (hi:I0 K (.ref C) "__init__" = some (some (.ref fI)):=by kernel_rfl) (hf:typeIn K (.ref fI)=some (.type "function"):=by kernel_rfl) :
  zW (y6 prog w) A (.call (.ref C) ⟨rest,kw⟩) R s:=by
 have X:=S.kin G
 obtain⟨hh,g,d,t,os⟩:=s
 refine make_core (makes_of X hm) (DP X hi) (λself=>bind_fn X self hf) (.inl rfl) (h _ hh.objs.size _ ?_)
 have:=(S.push emptyDict).push (instObj C hh.objs.size)
 rwa [GQ] at this
end
section
variable{x:zh}{l:LV}{T:LO}{fl:LV}{Ra Rb:LO}
theorem set_seqs(G:GK w hb)(S:St hb tabs L l ((x,smO dx)::(dx,od)::T) s.heap)(hd:A.depth+2<zj)(hh:A.handled=none)
  (hf:bH od [(yZ "isjunk", .none),(yZ "a", .none),(yZ "b", .none),(yZ "autojunk", .bool true)])
  (Vb:SqV pw w hb tabs Rb vb lb) (hRb:∀ p∈Rb,p∈T) (ha:aP w [] va .none False) (hb':aP w [] vb .none False)
  (k:rK w hb L x dx l T R lb (mf va vb .none .none) s) :
  zW (y6 pw w) A (.call (.ref 195) ⟨[.ref x,va,vb],[]⟩) R s:=by
 refine dR G S (lk195 _) (dn 2 hd) (binds:=[(yZ "self", .ref x),(yZ "a", va),(yZ "b", vb)]) (body:=aD (st2 pw 6 2)) (Ba (by kernel_rfl)) (λL' ai oL r S'=>eZ (bR (aV (ac S' m0 (dM (f:=202) G S' m1 m2 hf (cR G (bln S' m1 ⟨⟨_,_,_,S'⟩,?_⟩)))))))
 have af:=S'.perm (T':=(x,smO dx)::(dx,od)::(L,oL)::T) (rM)
 refine set_seq1 (C:=False) (av:=.none) (fl1:=[(yZ "isjunk", .none),(yZ "a", va),(yZ "b", .none),(yZ "autojunk", .bool true)])
  (fl2:=[(yZ "isjunk", .none),(yZ "a", va),(yZ "b", .none),(yZ "autojunk", .bool true),(yZ "matching_blocks", .none)])
  (fl3:=[(yZ "isjunk", .none),(yZ "a", va),(yZ "b", .none),(yZ "autojunk", .bool true),(yZ "matching_blocks", .none),(yZ "opcodes", .none)])
  G af (by show A.depth+1<_;exact dn 1 hd) hf m1 rfl ha (zm _) (.there (by kernel_rfl) .here) (.there (by kernel_rfl) (.there (by kernel_rfl) (.there (by kernel_rfl) (.there (by kernel_rfl) .nil))))
  (.there (by kernel_rfl) (.there (by kernel_rfl) (.there (by kernel_rfl) (.there (by kernel_rfl) (.there (by kernel_rfl) .nil))))) rfl rfl rfl nofun ?_
 refine λak tk od3 ae hf3=>bR (aV (ac ae m0 (dM (f:=209) G ae m0 m1 hf3 (cR G (bln ae m2 ⟨⟨_,_,_,ae⟩,?_⟩)))))
 refine set_seq2 (C:=False) (bv:=.none) (f1:=[(yZ "isjunk", .none),(yZ "a", va),(yZ "b", vb),(yZ "autojunk", .bool true),(yZ "matching_blocks", .none),(yZ "opcodes", .none)])
  (f2:=[(yZ "isjunk", .none),(yZ "a", va),(yZ "b", vb),(yZ "autojunk", .bool true),(yZ "matching_blocks", .none),(yZ "opcodes", .none)])
  (f3:=[(yZ "isjunk", .none),(yZ "a", va),(yZ "b", vb),(yZ "autojunk", .bool true),(yZ "matching_blocks", .none),(yZ "opcodes", .none)])
  (f4:=[(yZ "isjunk", .none),(yZ "a", va),(yZ "b", vb),(yZ "autojunk", .bool true),(yZ "matching_blocks", .none),(yZ "opcodes", .none),(yZ "fullbcount", .none)])
  (fl1:=λj=>[(yZ "isjunk", .none),(yZ "a", va),(yZ "b", vb),(yZ "autojunk", .bool true),(yZ "matching_blocks", .none),(yZ "opcodes", .none),(yZ "fullbcount", .none),(yZ "b2j", j)])
  (fl2:=λj sj=>[(yZ "isjunk", .none),(yZ "a", va),(yZ "b", vb),(yZ "autojunk", .bool true),(yZ "matching_blocks", .none),(yZ "opcodes", .none),(yZ "fullbcount", .none),(yZ "b2j", j),(yZ "bjunk", sj)])
  (fl3:=mf va vb .none .none)
  G ae (by show A.depth+1+1<_;exact hd) hh hf3 m2 rfl Vb (λp hp=>aj (hRb p hp)) hb' (zm _)
  (.there (by kernel_rfl) (.there (by kernel_rfl) .here))
  (.there (by kernel_rfl) (.there (by kernel_rfl) (.there (by kernel_rfl) (.there (by kernel_rfl) .here))))
  (.there (by kernel_rfl) (.there (by kernel_rfl) (.there (by kernel_rfl) (.there (by kernel_rfl) (.there (by kernel_rfl) .here)))))
  (.there (by kernel_rfl) (.there (by kernel_rfl) (.there (by kernel_rfl) (.there (by kernel_rfl) (.there (by kernel_rfl) (.there (by kernel_rfl) .nil))))))
  rfl rfl rfl rfl m2 (by kernel_rfl)
  (λZ=>.there (by kernel_rfl) (.there (by kernel_rfl) (.there (by kernel_rfl) (.there (by kernel_rfl) (.there (by kernel_rfl) (.there (by kernel_rfl) (.there (by kernel_rfl) .nil)))))))
  (λZ Z=>.there (by kernel_rfl) (.there (by kernel_rfl) (.there (by kernel_rfl) (.there (by kernel_rfl) (.there (by kernel_rfl) (.there (by kernel_rfl) (.there (by kernel_rfl) (.there (by kernel_rfl) .nil))))))))
  (λZ Z Z=>.there (by kernel_rfl) (.there (by kernel_rfl) (.there (by kernel_rfl) (.there (by kernel_rfl) (.there (by kernel_rfl) (.there (by kernel_rfl) (.there (by kernel_rfl) (.there (by kernel_rfl) (.there (by kernel_rfl) .nil)))))))))
  (λZ Z=>m0) (λZ Z Z=>m3) (λZ Z Z=>⟨rfl,rfl,rfl⟩) nofun ?_
 refine λs' od' d2 sj sp o2 rows led led' hKp S7 hf7 hd2 hrows=>aE ?_
 have S8:=S7.perm (T':=(L,oL)::(x,smO dx)::(dx,od')::(sp,cJ led')::(sj,cJ led)::(d2,o2)::(rows.map aW.ob++T)) (zv (l₁:=(x,smO dx)::(dx,od')::(sp,cJ led')::(sj,cJ led)::(d2,o2)::rows.map aW.ob))
 refine k _ _ _ _ _ _ _ led led' ?kp ?st hf7 hd2 hrows
 case kp=>exact⟨hKp.os,hKp.gens⟩
 case st=>exact S8.leave 0 rfl r
theorem vy{args:M5}(G:GK w hb)(S:St hb tabs L l ((x,smO dx)::(dx,dict0)::T) s.heap)(hd:A.depth+3<zj)(hh:A.handled=none)
  (Vb:SqV pw w hb tabs Rb vb lb) (hRb:∀ p∈Rb,p∈T) (ha:aP w [] va .none False) (hb':aP w [] vb .none False)
  (hbind:Fn s (yL w.params) args [(yZ "self", .ref x),(yZ "isjunk", .none),(yZ "a", va),(yZ "b", vb),(yZ "autojunk", .bool true)])
  (k:rK w hb L x dx l T R lb (mf va vb .none .none) s) :
  zW (y6 pw w) A (.call (.ref 188) args) R s:=by
 refine dR G S (lk188 _) (dn 3 hd) (body:=aD (st2 pw 6 1)) hbind ?_
 intro L' ai oL r S'
 have hf0:bH dict0 []:=⟨[],0,rfl,.nil,rfl⟩
 refine eZ (dA (ac S' m1 (ac S' m0 (aN (fl':=[(yZ "isjunk", .none)]) 2 G S' m1 rfl hf0 .nil ?_))))
 refine λam od2 af hf2=>j4 (BA (cT (ac af m0 (aN (fl':=[(yZ "isjunk", .none),(yZ "a", .none)]) 2 G af m1 rfl hf2 (.there (by kernel_rfl) .nil) ?_))))
 refine λak od3 ae hf3=>cT (ac ae m0 (aN (fl':=[(yZ "isjunk", .none),(yZ "a", .none),(yZ "b", .none)]) 2 G ae m1 rfl hf3 (.there (by kernel_rfl) (.there (by kernel_rfl) .nil)) ?_))
 refine λau od4 S4 hf4=>dA (ac S4 m4 (ac S4 m0 (aN (fl':=[(yZ "isjunk", .none),(yZ "a", .none),(yZ "b", .none),(yZ "autojunk", .bool true)]) 2 G S4 m1 rfl hf4 (.there (by kernel_rfl) (.there (by kernel_rfl) (.there (by kernel_rfl) .nil))) ?_)))
 refine λax od5 S5 hf5=>bR (aV (ac S5 m0 (dM (f:=195) G S5 m1 m2 hf5 (cR G (bl S5 m2 (bln S5 m3 ⟨⟨_,_,_,S5⟩,?_⟩))))))
 have S6:=S5.perm (T':=(x,smO dx)::(dx,od5)::(L,oL)::T) (rM)
 refine set_seqs G S6 (by show A.depth+1+2<_;exact hd) hh hf5 Vb (λp hp=>aj (hRb p hp)) ha hb' (λs' od' d2 sj sp o2 rows led led' hKp S7 hf7 hd2 hrows=>aE ?_)
 have S8:=S7.perm (T':=(L,oL)::(x,smO dx)::(dx,od')::(sp,cJ led')::(sj,cJ led)::(d2,o2)::(rows.map aW.ob++T)) (zv (l₁:=(x,smO dx)::(dx,od')::(sp,cJ led')::(sj,cJ led)::(d2,o2)::rows.map aW.ob))
 refine k _ _ _ _ _ _ _ led led' ?kp ?st hf7 hd2 hrows
 case kp=>exact⟨hKp.os,hKp.gens⟩
 case st=>exact S8.leave 0 rfl r
end
noncomputable def cnt(c:zK):List zK->Nat
 | []=>0
 | d::l=>(if d=c then 1 else 0)+cnt c l
theorem fM{c d:zK}{l:List zK}:cnt c (d::l)=(if d=c then 1 else 0)+cnt c l:=rfl
theorem bG(c:zK)(l r:List zK):cnt c (l++r)=cnt c l+cnt c r:=by
 induction l with
 | nil=>exact (Fk _).symm
 | cons d l ih=>rw[Bu,fM,ih,fM];exact z0a
theorem nG(c d:zK)(l:List zK):cnt c (l++[d])=cnt c l+if d=c then 1 else 0:=by
 rw[bG];rfl
theorem kD{c:zK}:∀ {l:List zK},cnt c l=0↔c∉l:=by
 intro l
 induction l with
 | nil =>
  exact⟨λZ h=>(nomatch h),λZ=>rfl⟩
 | cons d l ih =>
  rw[fM,za]
  by_cases h:d=c
  ·rw[if_pos h];constructor
   ·intro q;lia
   ·intro q;exact absurd (.inl h.symm) q
  ·rw[if_neg h,Fk,ih]
   constructor
   ·rintro q (e|e)
    ·exact h e.symm
    ·exact q e
   ·intro q e;exact q (.inr e)
noncomputable def qpr(lb:List zK):List zK->Nat
 | []=>0
 | c::r=>qpr lb r+if cnt c r.reverse<cnt c lb then 1 else 0
theorem vT{lb r:List zK}{c:zK}:qpr lb (c::r)=qpr lb r+if cnt c r.reverse<cnt c lb then 1 else 0:=rfl
noncomputable def qp(lb la:List zK):Nat:=qpr lb la.reverse
theorem qa(lb l:List zK)(c:zK):qp lb (l++[c])=qp lb l+if cnt c l<cnt c lb then 1 else 0:=by
 unfold qp
 rw[List.reverse_append]
 show qpr lb (c::l.reverse)=_
 rw[vT,List.reverse_reverse]
theorem uH(lb:List zK):∀ l,qpr lb l<=l.length
 | []=>zk _
 | c::r=>by
  have:=uH lb r
  rw[vT,zL]
  split<;> lia
theorem xY(lb l:List zK):qp lb l<=l.length:=by
 have:=uH lb l.reverse
 rwa [C3] at this
def Fb(kvs:LV)(lb:List zK):Prop:=∀ c,(c∉lb->AV kvs c=none)/\(c∈lb->∃ t,AV kvs c=some (.int (cnt c lb) t))
theorem Fb.nil:Fb [] []:=λc=>⟨λZ=>rfl,λh=>nomatch h⟩
theorem Fb.get{kvs:LV}{lb:List zK}(h:Fb kvs lb)(c:zK)(u:AQ):∃ t,(AV kvs c).getD (.int 0 u)=.int (cnt c lb) t:=by
 by_cases q:c∈lb
 ·obtain⟨t,e⟩:=(h c).2 q
  exact⟨t,by rw[e];rfl⟩
 ·refine⟨u,?_⟩
  rw[(h c).1 q,kD.mpr q];rfl
theorem Fb.snoc{kvs:LV}{lb:List zK}(h:Fb kvs lb)(c:zK)(t:AQ):Fb (Hx kvs c (.int (cnt c lb+1:Int) t)) (lb++[c]):=λd=>by
 rw[bZ,nG]
 by_cases e:c=d
 ·subst e
  simp
 ·simp only[if_neg e,Im]
  refine⟨λq=>(h d).1 λz=>q (y8 _ z),λq=>(h d).2 ?_⟩
  rcases zf.mp q with z|z
  ·exact z
  ·exact absurd (y9.mp z).symm e
def Av(kvs:LV)(JS lb:List zK):Prop:=∀ c,(c∉JS->AV kvs c=none)/\(c∈JS->∃ t,AV kvs c=some (.int ((cnt c lb:Int) - cnt c JS) t))
theorem Av.nil{lb:List zK}:Av [] [] lb:=λc=>⟨λZ=>rfl,λh=>nomatch h⟩
theorem Av.some_iff{kvs:LV}{JS lb:List zK}(h:Av kvs JS lb)(c:zK):(AV kvs c).isSome=true↔c∈JS:=by
 by_cases q:c∈JS
 ·obtain⟨t,e⟩:=(h c).2 q
  simp[e,q]
 ·simp[(h c).1 q,q]
theorem Av.snoc{kvs:LV}{JS lb:List zK}(h:Av kvs JS lb)(c:zK)(t:AQ):Av (Hx kvs c (.int ((cnt c lb:Int) - cnt c JS - 1) t)) (JS++[c]) lb:=λd=>by
 rw[bZ,nG]
 by_cases e:c=d
 ·subst e
  simp only[if_true]
  refine⟨λq=>absurd (y5 _ (.head _)) q,λZ=>⟨t,?_⟩⟩
  congr 2
  exact zbm
 ·simp only[if_neg e,Im]
  refine⟨λq=>(h d).1 λz=>q (y8 _ z),λq=>(h d).2 ?_⟩
  rcases zf.mp q with z|z
  ·exact z
  ·exact absurd (y9.mp z).symm e
theorem Fb.case{kvs:LV}{lb JS:List zK}{c:zK}{u:AQ}(P:Value->Prop)(h:Fb kvs lb)(hc:c∉JS)(k:∀ t,P (.int ((cnt c lb:Int) - cnt c JS) t)):P ((AV kvs c).getD (.int 0 u)):=by
 obtain⟨t,e⟩:=h.get c u
 rw[e]
 have:=k t
 rw[kD.mpr hc] at this
 simpa using this
def Fc(w:As)(T:LO)(fc:Value)(lb:List zK):Prop:=fc=.none\/Ex3 λdf o kvs=>An4 (fc=.ref df) ((df,o)∈T) (o.IsDictOf (Ap pw w) kvs) (Fb kvs lb)
theorem Fc.mono{w:As}{T T':LO}{fc:Value}{lb:List zK}(h:Fc w T fc lb)(hs:∀ p∈T,p∈T'):Fc w T' fc lb:=by
 rcases h with h|⟨df,o,kvs,a,b,c,d⟩
 ·exact .inl h
 ·exact .inr ⟨df,o,kvs,a,hs _ b,c,d⟩
section
variable{x:zh}{l:LV}{T:LO}{j sj:Value}{Ra Rb:LO}
noncomputable abbrev yN(w:As)(L':zh):II:=Ah (yH w.params) L' 260
theorem n7 (G:GK w hb) {L' df:zh}{oL of:AR}{kvs:LV} (S:St hb tabs L' [(yZ "self", .ref x)] ((L,oL)::(x,smO dx)::(dx,od)::T) s.heap) (r:bL oL l) (hd:A.depth+1<zj) (hh:A.handled=none)
  (hf:bH od (mf va vb mb (.ref df) j sj sp)) (hdf:(df,of)∈T) (hof:of.IsDictOf (Ap pw w) kvs) (hfb:Fb kvs lb)
  (Va:SqV pw w hb tabs Ra va la) (Vb:SqV pw w hb tabs Rb vb lb) (hRa:∀ p∈Ra,p∈T) (hRb:∀ p∈Rb,p∈T)
  (k:∀ s' t',Kp s s'->St hb tabs L l ((x,smO dx)::(dx,od)::T) s'.heap->R (.ok (.ret (.float (bK (qp lb la) (la.length+lb.length)) t'))) s') :
  y7 (y6 pw w) (A.deeper (yN w L')) (z5 ((aD (st2 pw 6 11)).drop 2) (yN w L')) (kFn R) E s:=by
 refine aC (bQ (ac S m0 (bB G S m1 m2 hf m6 (aq S (.new (by kernel_rfl)) ?_))))
 refine λam af=>aC (iL af ?_)
 refine λd ak ae=>aq ae (.new (by kernel_rfl)) (λau S4=>eM [yZ "availhas", yZ "matches"] (args_cons (bQ (ac S4 m0 (pY "dict.__contains__" S4 m0 (eH (knd:=Ap pw w)) ?_ ?_ ?_)))))
 rotate_left
 ·exact slot_dict_contains.lookup
 ·exact B.type_dict_contains
 refine λu ax S5=>args_cons (wpAny_Constant_int (zq ⟨rfl,rfl,hh,_,_,_,_,_,S5,?_⟩))
 refine λaz S6=>cU S6 (.new (by kernel_rfl)) (λba S7=>cU S7 (.new (by kernel_rfl)) (λbc S8=>eQ (eY (bQ (ac S8 m4 (bB G S8 m3 m4 hf m1 ?_ (hv:=Va.hand)))))))
 refine Va.iter S8 (λp hp=>aj (aj (aj (aj (aj (hRa p hp)))))) ?_
 intro I o Wt fp bf IV hw S9
 let H:Nat->AQ->LV->LO->Prop:=λi Z l₁ T1=>Ex3 λtm o2 kv2=>An5 (l₁=[(yZ "availhas", .ref u),(yZ "matches", .int (qp lb (la.take i)) tm),(yZ "avail", .ref d),(yZ "fullbcount", .ref df),(yZ "self", .ref x)]) (T1=(u,bmO "dict.__contains__" d)::(d,o2)::(L,oL)::(x,smO dx)::(dx,od)::T) (o2.IsDictOf (Ap pw w) kv2) (Av kv2 (la.take i) lb) (kv2.length<=i)
 refine IV.loop (z:=s) hh S9 hw
  H
  ?_ (λp hp=>aj (aj (aj (aj (aj (hRa p hp)))))) ?_ ?_
 ·exact⟨_,dict0,[],rfl,rfl,eH,Av.nil,zk _⟩
 ·rintro E1 i v l₁ T1 own1 s₁ hi ⟨c,u',hc,rfl⟩ ⟨tm,o2,kv2,rfl,rfl,hd2,hav,hlen⟩ S10 hRo hKp
  have hsm:=Va.small
  have hsb:=Vb.small
  refine aU (aq S10 (.new (by kernel_rfl)) ?_)
  intro cr S11
  let P:zc->Prop:=λag=>∃ tn,Kp s₁ ag/\St hb tabs L' [(yZ "numb", .int ((cnt c lb:Int) - cnt c (la.take i)) tn),(yZ "elt", .str c u'),(yZ "availhas", .ref u),(yZ "matches", .int (qp lb (la.take i)) tm),(yZ "avail", .ref d),(yZ "fullbcount", .ref df),(yZ "self", .ref x)]
   ((u,bmO "dict.__contains__" d)::(d,o2)::(L,oL)::(x,smO dx)::(dx,od)::(T++own1)) ag.heap
  refine k8 P ?_ ?_
  ·refine B3 (bV (ac S11 m1 (eI (id := "dict.__contains__") (d:=d) (bln S11 m0 ⟨S11.obj _ m0,?_⟩))))
   refine mz G S11 m0 m1 hd2 (k:=c) dL (zb ⟨λhb'=>?_,λhb'=>?_⟩)
   ·have hm:=(hav.some_iff c).mp hb'
    obtain⟨t,e⟩:=(hav c).2 hm
    refine aC (Dx (ac S11 m3 (ac S11 m0 (xU S11 m1 hd2 (k:=c) dL e (aq S11 (.new (by kernel_rfl)) ?_)))))
    exact λcu S12=>aE ⟨rfl,_,⟨rfl,id⟩,S12⟩
   ·have hm:c∉la.take i:=λq=>by rw[(hav.some_iff c).mpr q] at hb';nomatch hb'
    refine aC (aV (ac S11 m4 (j3 S11 (aj (aj (aj (aj (aj (y8 _ hdf)))))) hof Ee FI (aH (bl S11 m0 (args_cons (wpAny_Constant_int ?_)))))))
    refine zq (pX G S11 (aj (aj (aj (aj (aj (y8 _ hdf)))))) hof (k:=c) dL (hfb.case (λv=>y7 _ _ (Ff _ _ v) _ _ _) hm λt=>(aq S11 (.new (by kernel_rfl)) ?_)))
    exact λcu S12=>aE ⟨rfl,_,⟨rfl,id⟩,S12⟩
  ·rintro ag ⟨tn,hKp2,S12⟩
   refine k7 (wpAny_BinOp (ac S12 m0 (wpAny_Constant_int (Io (ac S12 m4 (ac S12 m1 (iJ 1 S12 rfl hd2 (k:=c) dL ?_ (z6x hi hlen hsm))))))))
   intro h13 o3 S13 hd3
   let P:zc->Prop:=λs3=>∃ tm',Kp s₁ s3/\St hb tabs L' [(yZ "numb", .int ((cnt c lb:Int) - cnt c (la.take i)) tn),(yZ "elt", .str c u'),(yZ "availhas", .ref u),(yZ "matches", .int (qp lb (la.take (i+1))) tm'),(yZ "avail", .ref d),(yZ "fullbcount", .ref df),(yZ "self", .ref x)]
    ((u,bmO "dict.__contains__" d)::(d,o3)::(L,oL)::(x,smO dx)::(dx,od)::(T++own1)) s3.heap
   refine k8 P ?_ ?_
   ·have htk:la.take (i+1)=la.take i++[c]:=by rw[Am,hc];rfl
    refine wpAny_isTrue_Compare1 (ac S13 m0 (wpAny_Constant_int (Ip (zb ⟨λhb'=>?_,λhb'=>?_⟩))))
    ·have hlt:=of_decide_eq_true hb'
     refine aC (wpAny_BinOp (ac S13 m3 (wpAny_Constant_int (CT (aq S13 (.old (.there (.there (.there .here)))) ?_)))))
     refine λh14 S14=>aE ?_
     have e:(qp lb (la.take (i+1)):Int)=qp lb (la.take i)+1:=by
      rw[htk,qa,if_pos (by exact z6z hb')];rfl
     rw[<- e] at S14
     exact⟨rfl,_,⟨hKp2.os,hKp2.gens⟩,S14⟩
    ·have hlt:=of_decide_eq_false hb'
     refine aE ?_
     have e:qp lb (la.take (i+1))=qp lb (la.take i):=by
      rw[htk,qa,if_neg (by exact z70 hb')];rfl
     rw[<- e] at S13
     exact⟨rfl,_,⟨hKp2.os,hKp2.gens⟩,S13⟩
   ·rintro s3 ⟨tm',hKp3,S14⟩
    have htk:la.take (i+1)=la.take i++[c]:=by rw[Am,hc];rfl
    refine aE ⟨_,_,S14.forget (.cons _ (.cons _ (Al _))),⟨tm',o3,_,rfl,rfl,hd3,?_,?_⟩,?_,(kt hKp hKp3)⟩
    ·rw[htk];exact hav.snoc c _
    ·exact zn (gD _ _ _) (z6y hlen)
    ·exact λp hp=>aj (aj (aj (aj (aj (hRa p hp)))))
 ·rintro s' l' T' hKp S10 ⟨tm,o2,kv2,rfl,rfl,hd2,hav,hlen⟩ hRo
  have hsm:=Va.small
  have hsb:=Vb.small
  have hql:=xY lb la
  rw[z4] at S10
  refine cO (tZ G S10 (v:=.ref 173) (by kernel_rfl) (bl S10 m1 (args_cons (wpAny_BinOp (jM G S10 B5 (args_cons (bQ ?_)))))))
  refine ac S10 m4 (bB G S10 m3 m4 hf m1 ?_ (hv:=Va.hand))
  refine zq (Va.len S10 (λp hp=>aj (aj (aj (aj (aj (hRa p hp)))))) ?_)
  refine λb7 br=>jM G S10 B5 (args_cons (bQ (ac S10 m4 (bB G S10 m3 m4 hf m2 ?_ (hv:=Vb.hand)))))
  refine zq (Vb.len S10 (λp hp=>aj (aj (aj (aj (aj (hRb p hp)))))) ?_)
  refine λb8 dq=>CT (zq ⟨⟨_,_,_,S10⟩,?_⟩)
  refine jL G (by exact S10) (by show A.depth+1<_;exact hd) (by exact z13) (by exact z14 hsm hql) (by exact z15) (by exact z16 hsm hsb) ?_
  intro az tk6 t6 S6
  have S7:=S6.sub (T':=(L,oL)::(x,smO dx)::(dx,od)::T) (.cons _ (.cons _ (Al _)))
  refine k _ _ ?kp ?st
  case kp=>exact⟨hKp.os,hKp.gens⟩
  case st=>exact S7.leave 0 rfl r
theorem quick_ratio{T₀:LO}(hT0:∀ p∈T₀,p∈T)(G:GK w hb)(S:St hb tabs L l ((x,smO dx)::(dx,od)::T) s.heap)(hd:A.depth+1<zj)(hh:A.handled=none)
  {fc:Value} (hf:bH od (mf va vb mb fc j sj sp)) (hfc:Fc w T₀ fc lb)
  (Va:SqV pw w hb tabs Ra va la) (Vb:SqV pw w hb tabs Rb vb lb) (hRa:∀ p∈Ra,p∈T) (hRb:∀ p∈Rb,p∈T)
  (k:∀ s' t' od' X fc',Kp s s'->St hb tabs L l ((x,smO dx)::(dx,od')::(X++T)) s'.heap->bH od' (mf va vb mb fc' j sj sp)->Fc w (X++T₀) fc' lb->R (.ok (.ret (.float (bK (qp lb la) (la.length+lb.length)) t'))) s') :
  zW (y6 pw w) A (.call (.ref 260) ⟨[.ref x],[]⟩) R s:=by
 refine dR G S (lk260 _) (dn 1 hd) (binds:=[(yZ "self", .ref x)]) (body:=aD (st2 pw 6 11)) (Ba (by kernel_rfl)) (λL' ai oL r S'=>eZ (k8 (λag=>Ex5 λod' X df o kvs=>An6 (Kp s ag) (St hb tabs L' [(yZ "self", .ref x)] ((L,oL)::(x,smO dx)::(dx,od')::(X++T)) ag.heap) (bH od' (mf va vb mb (.ref df) j sj sp)) ((df,o)∈X++T₀) (o.IsDictOf (Ap pw w) kvs) (Fb kvs lb)) ?_ ?_))
 ·refine wpAny_isTrue_Compare1 (bQ (ac S' m0 (bB G S' m1 m2 hf m6 ?_ (hv:=by rcases hfc with rfl|⟨_,_,_,rfl,_⟩<;> rfl))))
  refine BA ?_
  rcases hfc with rfl|⟨df,o,kvs,rfl,hm,hd2,hfb⟩
  ·refine L3 (zb ⟨λZ=>?_,nofun⟩)
   refine j4 (iL S' ?_)
   refine λdf am af=>cT (ac af m0 (aN (fl':=mf va vb mb (.ref df) j sj sp) 3 G af m2 rfl hf (.there (by kernel_rfl) (.there (by kernel_rfl) (.there (by kernel_rfl) (.there (by kernel_rfl) (.there (by kernel_rfl) (.there (by kernel_rfl) .here)))))) ?_))
   refine λak od3 ae hf3=>aU (aq ae (.new (by kernel_rfl)) ?_)
   refine λau S4=>eY (bQ (ac S4 m1 (bB G S4 m2 m3 hf3 m2 ?_ (hv:=Vb.hand))))
   refine Vb.iter S4 (λp hp=>aj (aj (aj (aj (hRb p hp))))) ?_
   intro I o Wt fp ax IV hw S5
   let H:Nat->AQ->LV->LO->Prop:=λi Z l₁ T1=>Ex2 λo2 kv2=>An5 (l₁=[(yZ "fullbcount", .ref df),(yZ "self", .ref x)]) (T1=(df,o2)::(L,oL)::(x,smO dx)::(dx,od3)::T) (o2.IsDictOf (Ap pw w) kv2) (Fb kv2 (lb.take i)) (kv2.length<=i)
   refine IV.loop (z:=s) hh S5 hw
    H
    ?_ (λp hp=>aj (aj (aj (aj (hRb p hp))))) ?_ ?_
   ·exact⟨dict0,[],rfl,rfl,eH,Fb.nil,zk _⟩
   ·rintro E1 i v l₁ T1 own1 s₁ hi ⟨c,u',hc,rfl⟩ ⟨o2,kv2,rfl,rfl,hd2,hfb,hlen⟩ S10 hRo hKp
    have hsb:=Vb.small
    have htk:lb.take (i+1)=lb.take i++[c]:=by rw[Am,hc];rfl
    refine aU (aq S10 (.new (by kernel_rfl)) ?_)
    refine λcr S11=>k7 (wpAny_BinOp (aV (ac S11 m1 (j3 S11 m0 hd2 Ee FI (aH (bl S11 m0 (args_cons ?_)))))))
    refine wpAny_Constant_int (zq (pX G S11 m0 hd2 (k:=c) dL (hfb.case (JS:=[]) (λv=>y7 _ _ (Ax _ _) (λw s'=>y7 _ _ (EQ _ v w) _ _ s') _ _) nofun λt=>(wpAny_Constant_int (CT (ac S11 m1 (ac S11 m0 ?_)))))))
    refine iJ 0 S11 rfl hd2 (k:=c) dL ?_ (z6x hi hlen hsb)
    refine λh13 o3 S13 hd3=>aE ⟨_,_,S13.forget (.cons _ (Al _)),⟨o3,_,rfl,rfl,hd3,?_,?_⟩,?_,⟨hKp.os,hKp.gens⟩⟩
    ·rw[htk]
     exact hfb.snoc c _
    ·exact zn (gD _ _ _) (z6y hlen)
    ·exact λp hp=>aj (aj (aj (aj (hRb p hp))))
   ·rintro s' l' T' hKp S10 ⟨o2,kv2,rfl,rfl,hd2,hfb,hlen⟩ hRo
    rw[z4] at hfb
    refine aE ⟨rfl,od3,[(df,o2)],df,o2,kv2,⟨hKp.os,hKp.gens⟩,?_,hf3,m0,hd2,hfb⟩
    exact (S10.forget (.cons _ (Al _))).perm ((zM (l₁:=[(df,o2)]) (l₂:=[(L,oL),(x,smO dx),(dx,od3)])).append_right T)
  ·refine is_ref_none (zb ⟨nofun,λZ=>?_⟩)
   exact aE ⟨rfl,od,[],df,o,kvs,⟨rfl,id⟩,S',hf,hm,hd2,hfb⟩
 ·rintro ag ⟨od',X,df,o,kvs,hKp,af,hf2,hm,hd2,hfb⟩
  have hm':(df,o)∈X++T:=by
   rcases zf.mp hm with q|q
   ·exact y8 _ q
   ·exact y5 _ (hT0 _ q)
  exact n7 G af r hd hh hf2 hm' hd2 hfb Va Vb (λp hp=>y5 _ (hRa p hp)) (λp hp=>y5 _ (hRb p hp)) (λs' t' hKp' ae=>k s' t' od' X (.ref df) (kt hKp hKp') ae hf2 (.inr ⟨df,o,kvs,rfl,hm,hd2,hfb⟩))
end
theorem jF (X:(KN w.params).In h):Cy M h (CN (.ref 163) (.type "tuple")) true:=I6 X (by kernel_rfl)
theorem wk(X:(KN w.params).In h):Cy M h (CN (.ref 163) (.ref 163)) true:=I6 X (by kernel_rfl)
theorem wj (X:(KN w.params).In h):Cy M h (CN (.ref 163) (.type "object")) true:=I6 X (by kernel_rfl)
theorem qw (X:(KN w.params).In h):Cy M h (BL (.ref 163) "__init__") (some (.builtin "object.__init__")):=DP X (by kernel_rfl)
theorem qt(X:(KN w.params).In h):Cy M h (Lp (.ref 163)) none:=Dy X (by kernel_rfl)
theorem qv(X:(KN w.params).In h):Cy M h (isType (.ref 163)) true:=Dy X (by kernel_rfl)
theorem wx (X:(KN w.params).In h):Cy M h (EG (.ref 163) "__call__") (some (.builtin "type.__call__")):=looks_specialIn X (by kernel_rfl)
theorem ya (X:(KN w.params).In h):Cy M h (B9 (.ref 163) (.type "type")) true:=looks_instIn X (by kernel_rfl)
theorem yc (X:(KN w.params).In h):Cy M h (mroOf (.ref 163)) [.ref 163,.type "tuple", .type "object"]:=Dy X (by kernel_rfl)
theorem uK:readsIn (KN w.params) 163 (.type "type")=true:=by kernel_rfl
theorem yb:findCls (KN w.params) (.ref 163) (.type "type") "__new__" = some (.get (.builtin "staticmethod.__get__") (.ref 164) .none (.ref 163)):=by kernel_rfl
theorem wo:findCls (KN w.params) (.type "tuple") (.type "type") "__new__" = some (.val (.builtin "tuple.__new__")):=by kernel_rfl
theorem sM (X:(KN w.params).In h) (t:zh):Cy M h (EF "tuple.__new__" ⟨[.ref 163,.ref t],[]⟩) ():=Dy X (by kernel_rfl)
theorem ww (X:(KN w.params).In h):Cy M h (Hz "tuple.__new__" (.ref 163)) ():=Dy X (by kernel_rfl)
theorem wn (X:(KN w.params).In h) (t:zh):Cy M h (noKeywords "tuple" ⟨[.ref 163,.ref t],[]⟩) ():=Dy X (by kernel_rfl)
theorem oW:Cy M h (Dc (.type "tuple")) (.type "type"):=MO (by kernel_rfl)
theorem tp_ga (X:(KN w.params).In h):Cy M h (EG (.type "tuple") "__getattribute__") (some (.builtin "type.__getattribute__")):=oW.andThen (DP (K:=KN w.params) X (by kernel_rfl))
theorem oX (X:(KN w.params).In h):Cy M h (opaqueClassAbove (.type "tuple")) none:=Dy (K:=KN w.params) X (by kernel_rfl)
theorem xx:subIn (KN w.params) (.type "type") (.type "type")=some true:=by kernel_rfl
theorem tp_fi:I0 (KN w.params) (.type "type") "__getattribute__" = some (some (.builtin "type.__getattribute__")):=by kernel_rfl
theorem vg (X:(KN w.params).In h):Cy M h (hookBefore (.type "type")) none:=looks_hook X (by kernel_rfl)
theorem qx(X:(KN w.params).In h):Cy M h (classHasDel 163) false:=Dy X (by kernel_rfl)
noncomputable abbrev moO(dd:zh)(vs:List Value):AR:={ cls:=.ref 163,dict:=some dd,data:=.seq vs.toArray }
section
variable{l:LV}{T:LO}{vs:List Value}
theorem nL(G:GK w hb)(S:St hb tabs L l T s.heap)(hm:(t,aG vs)∈T)(hz:vs.length<=1000)
  (k:∀ m dd h',St hb tabs L l ((m,moO dd vs)::T) h'->R (.ok (.ret (.ref m))) (wh s h')) :
  zW (y6 pw w) A (.call (.builtin "tuple.__new__") ⟨[.ref 163,.ref t],[]⟩) R s:=by
 have X:=S.kin G
 refine Cr F.plain_tuple_new Kg ((sM X t).here ?_)
 refine y0 ((qv X).here ?_)
 refine zA rfl (y0 ((jF X).here ?_))
 refine zA rfl (y0 (m:=Hz "tuple.__new__" (.ref 163)) ((ww X).here ?_))
 refine y0 ((qw X).here ?_)
 refine Bq rfl (y0 ((wn X t).here ?_))
 show y7 _ _ (Mr "tuple" 0 1 1>>=_) _ _ _
 refine y0 (y4 ?_)
 refine zA rfl (y0 (wpAny_collect_seq (items:=vs.toArray) t (.inr rfl) (S.obj _ hm) rfl rfl (λh' hk=>?_) (by rw[zz,zg];exact up 16776216 hz)))
 refine y0 (y4 ?_)
 have S':=S.grown (h':=h') hk
 refine y0 (m:=alloc _) (Lq ?_)
 have S2:=S'.push dict0
 refine y0 (m:=newObj (.ref 163) (.seq vs.toArray.toList.toArray) (some h'.objs.size)) (aQ (by rw[zz,zg];exact zbb hz) (y0 (Lq ?_)))
 have S3:=S2.push (moO h'.objs.size vs)
 refine y0 ((qx (S3.kin (s:=(wh s ((h'.push dict0).push (moO h'.objs.size vs)))) G)).here ?_)
 refine zA rfl (y4 (y4 ?_))
 exact k _ _ _ (S3.sub (.cons_cons _ (zo _ _)))
theorem jN:Bn (yZ "tuple")=some (.type "tuple"):=by kernel_rfl
theorem nx {E:VP}{pl:LH Bool}{Q:Value×List Value->zc->Prop} (X:(KN w.params).In s.heap) (h:Q (.builtin "tuple.__new__", []) (wt s (s.toks+1))) :
  y7 (y6 pw w) A (HM (.type "tuple") "__new__" pl) Q E s:=by
 refine y0 ((tp_ga X).here ?_)
 refine bW canon_tga (y0 (cls_open X (oX X) oW tp_fi (vg X) xx wo (y4 ?_)))
 exact MY rfl (y4 h)
theorem qz{a b c:Value}(G:GK w hb)(S:St hb tabs L l T s.heap)(hd:A.depth<zj)
  (k:∀ m dd s',Kp s s'->St hb tabs L l ((m,moO dd [a,b,c])::T) s'.heap->R (.ok (.ret (.ref m))) s') :
  zW (y6 pw w) A (.call (.ref 110) ⟨[.ref 163,a,b,c],[]⟩) R s:=by
 refine dR G S (lk110 _) hd (binds:=[(yZ "_cls", .ref 163),(yZ "a", a),(yZ "b", b),(yZ "size", c)]) (body:=aD (st2 pw 4 4)) (Ba (by kernel_rfl)) (λL' ai oL r S'=>eZ (cO (aV (cN G S' jN (nx (S'.kin G) (aH (bl S' m0 (args_cons ?_))))))))
 refine bP (bl S' m1 (bl S' m2 (bln S' m3 ⟨rfl,_,_,_,_,_,S',?_⟩)))
 refine λt am af=>zq (BU (nL G af m0 (by simp) ?_))
 intro m dd ak ae
 have S4:=ae.sub (T':=(m,moO dd [a,b,c])::(L,oL)::T) (.cons_cons _ (zo _ _))
 exact k _ _ _ ⟨rfl,id⟩ (S4.leave 1 rfl r)
theorem sG (x a b c:Value):CM "object.__init__" ⟨[x,a,b,c],[]⟩:=by unfold CM;kernel_rfl
theorem xJ:recIn (KN w.params) 164 "staticmethod" = some [.ref 110]:=by kernel_rfl
theorem xa{a b c:Value}(G:GK w hb)(S:St hb tabs L l T s.heap)(hd:A.depth+1<zj)
  (k:∀ m dd s',Kp s s'->St hb tabs L l ((m,moO dd [a,b,c])::T) s'.heap->R (.ok (.ret (.ref m))) s') :
  zW (y6 pw w) A (.call (.ref 163) ⟨[a,b,c],[]⟩) R s:=by
 have X:=S.kin G
 have hC:s.heap.get? 163=some (o163 w.params):=X 163 _ (by kernel_rfl)
 obtain⟨hh,g,d,t,os⟩:=s
 refine EY (nd_load hC ?_)
 show y7 _ _ (Kh (.ref 163) _) _ _ _
 unfold Kh
 refine y0 ((wx X).at ?_)
 dsimp only
 refine y0 (y4 (y0 (y4 ?_)))
 refine y4 (a:=Fin.again (.call (.builtin "type.__call__") ⟨.ref 163::[a,b,c],[]⟩)) (And.intro rfl ?_)
 refine codeAny_call_builtin_at (JT _ (by decide +kernel)) entry_typeCall (GR tc_kind tc_split (ya X) (tc_args _ _ _) ?_)
 unfold Az.«type.__call__»
 refine zA rfl (y0 (m:=mroOf (.ref 163)) ((yc X).at ?_))
 refine zA rfl (y0 (m:=Lp (.ref 163)) ((qt X).at ?_))
 refine y0 (m:=Hb (.ref 163) "__new__") (cls_bind X uK yb (BU (sm_get X xJ ?_)))
 refine MY rfl (y0 (m:=Hd [AW 110] (call (.ref 110) [.ref 163,a,b,c])) (zs (BU ?_)))
 refine qz G S ?_ ?_
 ·show A.depth+_<_
  exact Bv (Nat.add_le_add_left (CJ (by kernel_rfl)) _) hd
 intro m dd s' hKp S'
 have X':=S'.kin G
 have t1:Cy (y6 pw w) s'.heap (Dc (.ref m)) (.ref 163):=(Looks.ld (S'.obj _ m0)).andThen .now
 have t3:Cy (y6 pw w) s'.heap (B9 (.ref m) (.ref 163)) true:=t1.andThen (wk X')
 have t2:Cy (y6 pw w) s'.heap (B9 (.ref m) (.type "object")) true:=t1.andThen (wj X')
 have k':=k m dd s' ⟨hKp.os,hKp.gens⟩ S'
 obtain⟨hh',g',d',t',os'⟩:=s'
 have i1:=qw (M:=y6 pw w) X'
 have md:=qt (M:=y6 pw w) X'
 have b1:Cy (y6 pw w) hh' (bindSpecial (.builtin "object.__init__") (.ref m)) (.builtin "object.__init__", [.ref m]):=MO (oi_bind _)
 refine y0 (t3.at ?_)
 refine zA rfl (y0 (zs ?_))
 unfold Ki EG
 repeat (first|with_reducible refine BU ?_|lk)
 refine Cr oi_plain entry_oi (@GR (y6 pw w) _ _ _ "object.__init__" "object" "__init__" (.ref m) [a,b,c] [] _ oi_kind oi_split t2 (sG _ _ _ _) ?_)
 unfold Az.«object.__init__»
 refine Bq rfl (y0 (m:=Dc (.ref m)) (t1.at ?_))
 refine y0 (i1.at ?_)
 refine y0 (m:=Lp (.ref 163)) (md.at ?_)
 exact zA (by kernel_rfl) (zA (by kernel_rfl) (y4 (y4 (zA (by kernel_rfl) (y4 k')))))
end
noncomputable def eK(la lb:List zK)(i j:Nat):Bool:=match la[i]?,lb[j]? with
 | some c,some d=>decide (c=d)
 | _,_=>false
theorem il{la lb:List zK}{i j:Nat}:eK la lb i j=true↔∃ c,la[i]? = some c/\lb[j]? = some c:=by
 unfold eK
 cases e1:la[i]? with
 | none=>exact⟨λq=>(by cases q),λ⟨c,h,_⟩=>by cases h⟩
 | some c =>
  cases e2:lb[j]? with
  | none=>exact⟨λq=>(by cases q),λ⟨_,_,h⟩=>by cases h⟩
  | some d =>
   refine⟨λq=>⟨c,rfl,congrArg some (of_decide_eq_true q).symm⟩,?_⟩
   rintro⟨k,h1,h2⟩;exact decide_eq_true ((AG h1).trans (AG h2).symm)
noncomputable def sfx(la lb:List zK)(alo blo:Nat):Nat->Nat->Nat
 | 0,j=>if eK la lb 0 j then 1 else 0
 | i+1,j=>if eK la lb (i+1) j then (if alo<i+1/\blo<j then sfx la lb alo blo i (j - 1) else 0)+1 else 0
noncomputable def pv(la lb:List zK)(alo blo i j:Nat):Nat:=if alo<i/\blo<j then sfx la lb alo blo (i - 1) (j - 1) else 0
theorem sg{j:Nat}:sfx la lb alo blo 0 j=if eK la lb 0 j then 1 else 0:=rfl
theorem pA{i j:Nat}:sfx la lb alo blo (i+1) j=if eK la lb (i+1) j then (if alo<i+1/\blo<j then sfx la lb alo blo i (j - 1) else 0)+1 else 0:=rfl
theorem pC(i j:Nat):sfx la lb alo blo i j=if eK la lb i j then pv la lb alo blo i j+1 else 0:=by
 cases i with
 | zero=>rw[sg,pv];simp
 | succ i=>rw[pA,pv];simp
theorem jT{i j:Nat}(h:eK la lb i j=true):sfx la lb alo blo i j=pv la lb alo blo i j+1:=by rw[pC,if_pos h]
theorem mM{i j:Nat}(h:eK la lb i j=false):sfx la lb alo blo i j=0:=by rw[pC,h];rfl
theorem pB(i j:Nat):sfx la lb alo blo i j<=i+1 - alo\/i<alo:=by
 induction i generalizing j with
 | zero =>
  rw[sg]
  by_cases h:alo=0
  ·subst h;left;split<;> lia
  ·right;exact z6o h
 | succ i ih =>
  rw[pA]
  split
  ·split
   ·rename_i h
    rcases ih (j - 1) with q|q
    ·left;exact zc1 h.1 q
    ·left;exact zc5 h.1 q
   ·by_cases q:i+1<alo
    ·right;exact q
    ·left;exact zc9 q
  ·left;exact zcb
theorem lL(i j:Nat):sfx la lb alo blo i j<=j+1 - blo\/j<blo:=by
 induction i generalizing j with
 | zero =>
  rw[sg]
  by_cases h:j<blo
  ·right;exact h
  ·left;split;exact x02 h;exact zD _
 | succ i ih =>
  rw[pA]
  by_cases q:j<blo
  ·right;exact q
  ·left
   split
   ·split
    ·rename_i h
     rcases ih (j - 1) with q|q;exact x00 h.2 q;exact x01 h.2 q
    ·exact zcg q
   ·exact zbw
theorem vC:∀ (i j t:Nat),t<sfx la lb alo blo i j->t<=i/\t<=j/\eK la lb (i - t) (j - t)=true:=by
 intro i
 induction i with
 | zero =>
  intro j t h
  rw[sg] at h
  split at h
  ·rename_i q
   have:t=0:=zbp h
   subst this;exact⟨zk _,zD _,q⟩
  ·exact zbr h
 | succ i IH =>
  intro j t h
  rw[pA] at h
  split at h
  ·rename_i q
   cases t with
   | zero=>exact⟨zD _,zD _,q⟩
   | succ t =>
    split at h
    ·rename_i q2
     have ih:=IH (j - 1) t (z8h h)
     refine⟨by exact z6y ih.1,by exact zc4 q2.2 ih.2.1,?_⟩
     have e1:i+1 - (t+1)=i - t:=zc7
     have e2:j - (t+1)=j - 1 - t:=zc8
     rw[e1,e2];exact ih.2.2
    ·exact zcc h
  ·exact zce h
theorem si:∀ (i j:Nat),0<sfx la lb alo blo i j->alo+sfx la lb alo blo i j<=i->blo+sfx la lb alo blo i j<=j->eK la lb (i - sfx la lb alo blo i j) (j - sfx la lb alo blo i j)=false:=by
 intro i
 induction i with
 | zero =>
  intro j h h1 h2
  exact zbt h h1
 | succ i IH =>
  intro j h h1 h2
  rw[pA] at h h1 h2 ⊢
  split
  ·rename_i q
   simp only[q,if_true] at h h1 h2
   split
   ·rename_i q2
    rw[if_pos q2] at h1 h2
    by_cases hz:sfx la lb alo blo i (j - 1)=0
    ·rw[hz,Fk]
     rw[pC] at hz
     split at hz
     ·exact zc0 hz
     ·rename_i q3
      simpa using q3
    ·have ih:=IH (j - 1) (z6o hz) (zc2 h1) (zc3 h2)
     have e1:i+1 - (sfx la lb alo blo i (j - 1)+1)=i - sfx la lb alo blo i (j - 1):=zc7
     have e2:j - (sfx la lb alo blo i (j - 1)+1)=j - 1 - sfx la lb alo blo i (j - 1):=zc8
     rw[e1,e2];exact ih
   ·rename_i q2
    rw[if_neg q2] at h1 h2
    exact absurd ⟨by exact h1,by exact h2⟩ q2
  ·rename_i q
   simp only[q] at h
   simp at h
noncomputable def stp(la lb:List zK)(alo blo i:Nat)(st:Nat×Nat×Nat)(j:Nat):Nat×Nat×Nat :=
 if st.2.2<sfx la lb alo blo i j then (i+1 - sfx la lb alo blo i j,j+1 - sfx la lb alo blo i j,sfx la lb alo blo i j) else st
noncomputable def xl(lb:List zK)(blo bhi:Nat)(c:zK):List Nat:=(bN lb c).filter λj=>decide (blo<=j)&&decide (j<bhi)
noncomputable def fU(la lb:List zK)(blo bhi i:Nat):List Nat:=match la[i]? with
 | some c=>xl lb blo bhi c
 | none=>[]
noncomputable def uB(la lb:List zK)(alo blo bhi:Nat)(st:Nat×Nat×Nat)(i:Nat):Nat×Nat×Nat:=(fU la lb blo bhi i).foldl (stp la lb alo blo i) st
noncomputable def flm(la lb:List zK)(alo ahi blo bhi:Nat):Nat×Nat×Nat:=(Lr alo (ahi - alo)).foldl (uB la lb alo blo bhi) (alo,blo,0)
theorem gh{la lb:List zK}{blo bhi i j:Nat}:j∈fU la lb blo bhi i↔eK la lb i j=true/\blo<=j/\j<bhi:=by
 unfold fU
 split
 ·rename_i c e
  unfold xl bN
  rw[BC,BC,zV,il]
  simp only[decide_eq_true_eq,HK]
  constructor
  ·rintro⟨⟨a,b⟩,c',d⟩;exact⟨⟨c,e,b⟩,c',d⟩
  ·rintro⟨⟨k,a,b⟩,c',d⟩
   rw[e] at a;cases a
   exact⟨⟨(zY.mp b).1,b⟩,c',d⟩
 ·rename_i e
  rw[il]
  constructor
  ·intro h;cases h
  ·rintro⟨⟨c,a,b⟩,-⟩;rw[e] at a;cases a
noncomputable def fmx{α:Type}(f:α->Nat)(cs:List α)(st:Option α×Nat):Option α×Nat:=cs.foldl (λst c=>if st.2<f c then (some c,f c) else st) st
def FmI{α:Type}(f:α->Nat)(done:List α)(st:Option α×Nat):Prop :=
 (∀ c∈done,f c<=st.2)/\(match st.1 with|none=>st.2=0|some c=>f c=st.2/\0<st.2/\Ex2 λpre post=>done=pre++c::post/\∀ d∈pre,f d<st.2)
theorem qS{α:Type}(f:α->Nat):∀ (cs done:List α) (st:Option α×Nat),FmI f done st->FmI f (done++cs) (fmx f cs st):=by
 intro cs
 induction cs with
 | nil =>
  intro done st h
  rw[Aq];exact h
 | cons c cs ih =>
  intro done st h
  have e:done++c::cs=(done++[c])++cs:=by simp
  rw[e]
  refine ih (done++[c]) _ ?_
  by_cases q:st.2<f c
  ·simp only[if_pos q]
   refine⟨λd hd=>?_,rfl,by show 0<f c;exact zbs q,done,[],rfl,λd hd=>by have:=h.1 d hd;show f d<f c;exact zbx q this⟩
   rcases zf.mp hd with z|z
   ·have:=h.1 d z;show f d<=f c;exact zby q this
   ·rw[y9.mp z];exact zk _
  ·simp only[if_neg q]
   refine⟨λd hd=>?_,?_⟩
   ·rcases zf.mp hd with z|z
    ·exact h.1 d z
    ·rw[y9.mp z];exact z0c q
   ·have h2:=h.2
    cases hs:st.1 with
    | none=>rw[hs] at h2;exact h2
    | some b =>
     rw[hs] at h2
     obtain⟨a,a',pre,post,hd,hp⟩:=h2
     exact⟨a,a',pre,post++[c],by rw[hd];simp,hp⟩
noncomputable def cells(la lb:List zK)(alo ahi blo bhi:Nat):List (Nat×Nat):=(Lr alo (ahi - alo)).flatMap λi=>(fU la lb blo bhi i).map λj=>(i,j)
theorem gk{la lb:List zK}{alo ahi blo bhi i j:Nat}:(i,j)∈cells la lb alo ahi blo bhi↔(alo<=i/\i<ahi)/\eK la lb i j=true/\blo<=j/\j<bhi:=by
 unfold cells
 rw[BY]
 constructor
 ·rintro⟨i',h1,h2⟩
  obtain⟨j',h3,e⟩:=zd.mp h2
  cases e
  rw[Kj] at h1
  exact⟨⟨h1.1,by exact zbv h1.1 h1.2⟩,gh.mp h3⟩
 ·rintro⟨⟨a,b⟩,c⟩
  exact⟨i,Kj.mpr ⟨a,by exact zbz b⟩,zd.mpr ⟨j,gh.mpr c,rfl⟩⟩
noncomputable def blk(la lb:List zK)(alo blo:Nat)(o:Option (Nat×Nat)×Nat):Nat×Nat×Nat:=match o.1 with
 | none=>(alo,blo,o.2)
 | some (i,j)=>(i+1 - o.2,j+1 - o.2,o.2)
theorem tK(la lb:List zK)(alo blo bhi:Nat):∀ (is:List Nat) (o:Option (Nat×Nat)×Nat),
  is.foldl (uB la lb alo blo bhi) (blk la lb alo blo o)=blk la lb alo blo (fmx (λc=>sfx la lb alo blo c.1 c.2) (is.flatMap λi=>(fU la lb blo bhi i).map λj=>(i,j)) o):=by
 intro is
 induction is with
 | nil =>
  intro o
  exact rfl
 | cons i is IH =>
  intro o
  rw[Ga,List.flatMap_cons]
  unfold fmx
  rw[Hl]
  have row:∀ (js:List Nat) (o:Option (Nat×Nat)×Nat),js.foldl (stp la lb alo blo i) (blk la lb alo blo o)=blk la lb alo blo ((js.map λj=>(i,j)).foldl (λst c=>if st.2<sfx la lb alo blo c.1 c.2 then (some c,sfx la lb alo blo c.1 c.2) else st) o):=by
   intro js
   induction js with
   | nil=>intro o;rfl
   | cons j js ih =>
    intro o
    rw[Ga,AD,Ga,<- ih]
    congr 1
    have e2:(blk la lb alo blo o).2.2=o.2:=by unfold blk;split<;> rfl
    unfold stp
    rw[e2]
    by_cases q:o.2<sfx la lb alo blo i j
    ·rw[if_pos q,if_pos q];rfl
    ·rw[if_neg q,if_neg q]
  rw[show uB la lb alo blo bhi (blk la lb alo blo o) i=(fU la lb blo bhi i).foldl (stp la lb alo blo i) (blk la lb alo blo o) from rfl,row]
  exact IH _
structure Best(la lb:List zK)(alo ahi blo bhi:Nat)(b:Nat×Nat×Nat):Prop where
 lo:alo<=b.1/\blo<=b.2.1
 hi:b.1+b.2.2<=max alo ahi/\b.2.1+b.2.2<=max blo bhi
 run:∀ t,t<b.2.2->eK la lb (b.1+t) (b.2.1+t)=true
 left:alo<b.1->blo<b.2.1->eK la lb (b.1 - 1) (b.2.1 - 1)=false
 right:b.1+b.2.2<ahi->b.2.1+b.2.2<bhi->eK la lb (b.1+b.2.2) (b.2.1+b.2.2)=false
 most:∀ i j,alo<=i->i<ahi->blo<=j->j<bhi->sfx la lb alo blo i j<=b.2.2
 none:b.2.2=0->b=(alo,blo,0)
theorem qV(la lb:List zK)(alo ahi blo bhi:Nat):flm la lb alo ahi blo bhi=blk la lb alo blo (fmx (λc=>sfx la lb alo blo c.1 c.2) (cells la lb alo ahi blo bhi) (none,0)) :=
 tK la lb alo blo bhi _ (none,0)
theorem cQ(la lb:List zK)(alo ahi blo bhi:Nat):Best la lb alo ahi blo bhi (flm la lb alo ahi blo bhi):=by
 rw[qV]
 have inv:=qS (λc:Nat×Nat=>sfx la lb alo blo c.1 c.2) (cells la lb alo ahi blo bhi) [] (none,0) ⟨nofun,rfl⟩
 rw[Dm] at inv
 generalize fmx (λc:Nat×Nat=>sfx la lb alo blo c.1 c.2) (cells la lb alo ahi blo bhi) (none,0)=o at inv
 obtain⟨o,k⟩:=o
 have most:∀ i j,alo<=i->i<ahi->blo<=j->j<bhi->sfx la lb alo blo i j<=k:=by
  intro i j h1 h2 h3 h4
  cases q:eK la lb i j with
  | true=>exact inv.1 (i,j) (gk.mpr ⟨⟨h1,h2⟩,q,h3,h4⟩)
  | false=>rw[mM q];exact zD _
 have h2:=inv.2
 cases o with
 | none =>
  replace h2:k=0:=h2
  subst h2
  refine⟨⟨zk _,zk _⟩,⟨LK ..,LK ..⟩,λt ht=>absurd ht (Bt _),λh=>absurd h (Ao _),λh1 h2=>?_,most,λZ=>rfl⟩
  show eK la lb (alo+0) (blo+0)=false
  replace h2:blo+0<bhi:=h2
  cases q:eK la lb (alo+0) (blo+0) with
  | false=>rfl
  | true =>
   have:=most (alo+0) (blo+0) zcj h1 zcj h2
   rw[jT q] at this
   exact zck this
 | some c =>
  obtain⟨i,j⟩:=c
  obtain⟨hf,hk,pre,post,hc,hp⟩:=h2
  replace hf:sfx la lb alo blo i j=k:=hf
  replace hk:0<k:=hk
  have hm:(i,j)∈cells la lb alo ahi blo bhi:=by rw[hc];exact y5 _ (.head _)
  obtain⟨⟨h1,h2⟩,hq,h3,h4⟩:=gk.mp hm
  have l1:k<=i+1 - alo:=by rcases pB (la:=la) (lb:=lb) (alo:=alo) (blo:=blo) i j with q|q;exact x03 hf q;exact x04 h1 q
  have l2:k<=j+1 - blo:=by rcases lL (la:=la) (lb:=lb) (alo:=alo) (blo:=blo) i j with q|q;exact x03 hf q;exact x04 h3 q
  refine⟨⟨?_,?_⟩,⟨?_,?_⟩,λt ht=>?_,λh5 h6=>?_,λh5 h6=>?_,most,λh=>?_⟩
  ·show alo<=i+1 - k;exact zct hk l1
  ·show blo<=j+1 - k;exact zct hk l2
  ·show i+1 - k+k<=_;exact zcu h2 l1
  ·show j+1 - k+k<=_;exact zcu h4 l2
  ·replace ht:t<k:=ht
   have:=vC (la:=la) (lb:=lb) (alo:=alo) (blo:=blo) i j (k - 1 - t) (zcv hf hk)
   show eK la lb (i+1 - k+t) (j+1 - k+t)=true
   rw[show i+1 - k+t=i - (k - 1 - t) by exact zcw l1 ht,show j+1 - k+t=j - (k - 1 - t) by exact zcw l2 ht]
   exact this.2.2
  ·replace h5:alo<i+1 - k:=h5
   replace h6:blo<j+1 - k:=h6
   have:=si (la:=la) (lb:=lb) (alo:=alo) (blo:=blo) i j (zcx hf hk) (zcy hf h5) (zcy hf h6)
   show eK la lb (i+1 - k - 1) (j+1 - k - 1)=false
   rw[hf] at this
   rw[show i+1 - k - 1=i - k by exact zcz,show j+1 - k - 1=j - k by exact zcz]
   exact this
  ·replace h5:i+1 - k+k<ahi:=h5
   replace h6:j+1 - k+k<bhi:=h6
   show eK la lb (i+1 - k+k) (j+1 - k+k)=false
   rw[show i+1 - k+k=i+1 by exact zd0 l1,show j+1 - k+k=j+1 by exact zd0 l2]
   cases q:eK la lb (i+1) (j+1) with
   | false=>rfl
   | true =>
    have:=most (i+1) (j+1) (z78 h1) (zd1 h5) (z78 h3) (zd1 h6)
    rw[jT q,pv,if_pos ⟨by exact zd2 h1,by exact zd2 h3⟩,GL,GL,hf] at this
    exact zd3 this
  ·replace h:k=0:=h
   lia
def Dj(la lb:List zK)(alo blo i:Nat)(done:List Nat)(kvs:List (Int×Value)):Prop :=
 (∀ j∈done,∃ t,AV kvs (j:Int)=some (.int (sfx la lb alo blo i j:Nat) t))/\∀ z:Int,(∀ j∈done,z≠(j:Int))->AV kvs z=none
theorem Dj.nil{la lb:List zK}{alo blo i:Nat}:Dj la lb alo blo i [] []:=⟨nofun,λz Z=>rfl⟩
theorem Dj.snoc{la lb:List zK}{alo blo i j:Nat}{done:List Nat}{kvs:List (Int×Value)}{t:AQ}(h:Dj la lb alo blo i done kvs):Dj la lb alo blo i (done++[j]) (Hx kvs (j:Int) (.int (sfx la lb alo blo i j:Nat) t)):=by
 refine⟨λj' hj=>?_,λz hz=>?_⟩
 ·rw[bZ]
  by_cases e:(j:Int)=(j':Int)
  ·rw[if_pos e]
   have:j=j':=zch e
   subst this
   exact⟨t,rfl⟩
  ·rw[if_neg e]
   rcases zf.mp hj with q|q
   ·exact h.1 j' q
   ·exact absurd (by rw[y9.mp q]) e
 ·rw[bZ]
  rw[if_neg (λe=>hz j (y5 _ (.head _)) e.symm)]
  exact h.2 z λj' hj'=>hz j' (y8 _ hj')
def Pj(la lb:List zK)(alo blo bhi i:Nat)(kvs:List (Int×Value)):Prop:=(i=alo/\kvs=[])\/(alo<i/\Dj la lb alo blo (i - 1) (fU la lb blo bhi (i - 1)) kvs)
theorem Pj.get{la lb:List zK}{alo blo bhi i j:Nat}{kvs:List (Int×Value)}(h:Pj la lb alo blo bhi i kvs)(hj:blo<=j)(hj2:j<bhi){u:AQ}(P:Value->Prop)(k:∀ t,P (.int (pv la lb alo blo i j:Nat) t)):P ((AV kvs ((j:Int) - 1)).getD (.int 0 u)):=by
 have hz:pv la lb alo blo i j=0->AV kvs ((j:Int) - 1)=none->P ((AV kvs ((j:Int) - 1)).getD (.int 0 u)):=λh1 h2=>by
  rw[h2]
  have:=k u
  rw[h1] at this;exact this
 rcases h with⟨rfl,rfl⟩|⟨hi,hd⟩
 ·exact hz (if_neg zci) rfl
 ·by_cases q:blo<j
  ·have epv:pv la lb alo blo i j=sfx la lb alo blo (i - 1) (j - 1):=if_pos ⟨hi,q⟩
   have ej:((j:Int) - 1)=((j - 1:Nat):Int):=zcm q
   by_cases hm:j - 1∈fU la lb blo bhi (i - 1)
   ·obtain⟨t,e⟩:=hd.1 _ hm
    rw[ej,e]
    have:=k t
    rw[epv] at this;exact this
   ·refine hz ?_ (hd.2 _ λj' hj' e=>hm (by rw[ej] at e;rw[show j - 1=j' by exact zcn e];exact hj'))
    rw[epv]
    refine mM ?_
    cases q2:eK la lb (i - 1) (j - 1) with
    | false=>rfl
    | true=>exact absurd (gh.mpr ⟨q2,by exact zcp q,by exact zcq hj2⟩) hm
  ·refine hz (if_neg (zcr q)) (hd.2 _ λj' hj' e=>?_)
   have:=(gh.mp hj').2.1
   exact zcs q e this
theorem j7(lb:List zK)(c:zK):(bN lb c).Pairwise (· < ·):=Nu _ Ft
theorem me{l:List Nat}{t j blo bhi:Nat}(h:l.Pairwise (· < ·))(hj:l[t]? = some j)(hb:bhi<=j):(l.take t).filter (λj=>decide (blo<=j)&&decide (j<bhi))=l.filter λj=>decide (blo<=j)&&decide (j<bhi):=by
 conv=>rhs;rw[<- CK t l]
 rw[Bx]
 have hd:(l.drop t).filter (λj=>decide (blo<=j)&&decide (j<bhi))=[]:=by
  rw[Ia]
  intro a ha
  have hp:(l.drop t).Pairwise (· < ·):=h.sublist (Kk t l)
  have hd0:l.drop t=j::l.drop (t+1):=by
   have hl:=(zY.mp hj)
   rw[G8 hl.1,hl.2]
  rw[hd0] at ha hp
  have:j<=a:=by
   rcases za.mp ha with rfl|q
   ·exact zk _
   ·exact Ak ((DQ.mp hp).1 a q)
  simp
  exact zcl hb this
 rw[hd,Aq]
theorem uS{prog:Bm}{w:As}{k:Int}{u:AQ}:(Cw prog w).is k (.int k u)=true:=by simp[Cw,Value.isInt]
theorem pJ{lb:List zK}{rows:List aW}{T:LO}{c:zK}{nn:zh}(P:Value->Prop)(hrows:cI lb rows)(hob:∀ r∈rows,r.ob∈T)(hn:(nn,ap [] 0)∈T)
  (k:∀ ℓ vs n,(ℓ,ap vs n)∈T->bX vs (bN lb c)->P (.ref ℓ)):P ((AV (rows.map aW.kv) c).getD (.ref nn)):=by
 cases h:AV (rows.map aW.kv) c with
 | none =>
  have:bN lb c=[]:=eO.mpr λq=>cX h (hrows.all c q)
  exact k nn [] 0 hn (by rw[this];exact .nil)
 | some v =>
  obtain⟨j,r,hj,rfl,rfl⟩:=cV h
  have hm:=zp hj
  exact k r.a r.vs r.n (hob r hm) (hrows.at_ r hm)
noncomputable abbrev fJ(w:As)(L':zh):II:=Ah (yK w.params) L' 224
noncomputable abbrev nmF(nn dj u d2:zh)(va vb:Value)(x:zh)(alo ahi blo bhi:Nat)(ta tb tc td:AQ)(st:Nat×Nat×Nat)(t1 t2 t3:AQ):LV :=
 [(yZ "nothing", .ref nn),(yZ "j2len", .ref dj),(yZ "besti", .int st.1 t1),(yZ "bestj", .int st.2.1 t2),(yZ "bestsize", .int st.2.2 t3),(yZ "isbjunk", .ref u),(yZ "b2j", .ref d2),
  (yZ "b", vb),(yZ "a", va),(yZ "self", .ref x),(yZ "alo", .int alo ta),(yZ "ahi", .int ahi tb),(yZ "blo", .int blo tc),(yZ "bhi", .int bhi td)]
noncomputable abbrev nmI (dn ug:zh) (i:Nat) (ti:AQ) (l:LV):LV:=(yZ "newj2len", .ref dn)::(yZ "j2lenget", .ref ug)::(yZ "i", .int i ti)::l
noncomputable abbrev mV:List Cv:=aD (((aD (st2 pw 6 6))[7]?).getD AF)
noncomputable abbrev uT:List Cv:=aD ((mV[2]?).getD AF)
section
variable{x dn ug:zh}{T:LO}{on:AR}{tb:AQ}{st:Nat×Nat×Nat}{kvn:List (Int×Value)}{Q:FP}
theorem tI(G:GK w hb)(hh:A.handled=none)
  (S:St hb tabs L' ((yZ "j", .int j tj)::nmI dn ug i ti (nmF nn dj u d2 va vb x alo ahi blo bhi ta tb tc td st t1 t2 t3)) ((dn,on)::T) s.heap) (hug:(ug,bmO "dict.get" dj)∈T) (hdj:(dj,oj)∈T)
  (hon:on.IsDictOf (Cw pw w) kvn) (hoj:oj.IsDictOf (Cw pw w) kvj) (hpj:Pj la lb alo blo bhi i kvj) (hq:eK la lb i j=true) (hlen:kvn.length<=1000) (hi:alo<=i)
  (hc:j<blo->∀ s',Kp s s'->St hb tabs L' (nmI dn ug i ti (nmF nn dj u d2 va vb x alo ahi blo bhi ta tb tc td st t1 t2 t3)) ((dn,on)::T) s'.heap->Q .cont s')
  (hk:bhi<=j->∀ s',Kp s s'->St hb tabs L' (nmI dn ug i ti (nmF nn dj u d2 va vb x alo ahi blo bhi ta tb tc td st t1 t2 t3)) ((dn,on)::T) s'.heap->Q .brk s')
  (hn:blo<=j->j<bhi->∀ s' on' t1 t2 t3 tk,Kp s s'->St hb tabs L' (nmI dn ug i ti (nmF nn dj u d2 va vb x alo ahi blo bhi ta tb tc td (stp la lb alo blo i st j) t1 t2 t3)) ((dn,on')::T) s'.heap ->
   on'.IsDictOf (Cw pw w) (Hx kvn (j:Int) (.int (sfx la lb alo blo i j:Nat) tk))->Q .next s') :
  y7 (y6 pw w) (A.deeper (fJ w L')) (z5 uT (fJ w L')) Q E s:=by
 refine dB (ac S m0 (ac S (aj (aj (aj (aj (aj (aj (aj m9))))))) (GS (zb ⟨λhb'=>?_,λhb'=>?_⟩))))
 ·refine n8 ?_
  have hlt:=of_decide_eq_true hb'
  exact hc (z74 hb') _ ⟨rfl,id⟩ (S.forget (zo _ _))
 have h1:=of_decide_eq_false hb'
 refine aE (dB (ac S m0 (ac S (aj (aj (aj (aj (aj (aj (aj (aj m9)))))))) (L4 (zb ⟨λhb'=>?_,λhb'=>?_⟩)))))
 ·refine vV ?_
  have hlt:=of_decide_eq_true hb'
  exact hk (z7c hb') _ ⟨rfl,id⟩ (S.forget (zo _ _))
 have h2:=of_decide_eq_false hb'
 refine aE ?_
 have es:(sfx la lb alo blo i j:Int)=(pv la lb alo blo i j:Nat)+1:=by rw[jT hq];rfl
 refine j4 (wpAny_BinOp (bV (ac S m2 (eI (id := "dict.get") (d:=dj) (args_cons (wpAny_BinOp (ac S m0 ?_)))))))
 refine wpAny_Constant_int (Io (args_cons (wpAny_Constant_int (zq ⟨S.obj _ (aj hug),?_⟩))))
 refine xd G S (aj hug) (aj hdj) hoj (k:=(j:Int) - 1) uS (hpj.get (by exact z7e (decide_eq_false h1)) (by exact z7f (decide_eq_false h2)) (λv=>y7 _ _ (Ax _ _) (λw s'=>y7 _ _ (EQ _ v w) _ _ s') _ _) λtp=>(wpAny_Constant_int (CT ?_)))
 rw[<- es]
 refine aU (aq S (.new (by kernel_rfl)) ?_)
 refine λam af=>yW (ac af m2 (ac af m1 (iJ 0 af rfl hon (k:=(j:Int)) uS ?_ hlen)))
 refine λak on' ae hon'=>restate ae λs4 K4 S4=>?_
 replace K4:Kp s s4:=⟨K4.os,K4.gens⟩
 refine dB (ac S4 m0 (ac S4 m9 (Ip (zb ⟨λhb'=>?_,λhb'=>?_⟩))))
 ·have hlt:=of_decide_eq_true hb'
  have est:stp la lb alo blo i st j=(i+1 - sfx la lb alo blo i j,j+1 - sfx la lb alo blo i j,sfx la lb alo blo i j):=if_pos (z74 hb')
  have l1:sfx la lb alo blo i j<=i+1 - alo:=by rcases pB (la:=la) (lb:=lb) (alo:=alo) (blo:=blo) i j with q|q;exact q;exact x04 hi q
  have l2:sfx la lb alo blo i j<=j+1 - blo:=by rcases lL (la:=la) (lb:=lb) (alo:=alo) (blo:=blo) i j with q|q;exact q;exact x04 (z7e (decide_eq_false h1)) q
  refine eM [yZ "besti", yZ "bestj", yZ "bestsize"] (args_cons (wpAny_BinOp (wpAny_BinOp (ac S4 m4 (ac S4 m0 (Io (wpAny_Constant_int ?_)))))))
  refine CT (args_cons (wpAny_BinOp (wpAny_BinOp (ac S4 m1 (ac S4 m0 (Io (wpAny_Constant_int ?_)))))))
  refine CT (bln S4 m0 ⟨rfl,rfl,hh,_,_,_,_,_,S4,?_⟩)
  refine λax S5=>cU S5 (.old (.there (.there (.there (.there (.there (.there (.there (.there (.there .here)))))))))) (λaz S6=>cU S6 (.old (.there (.there (.there (.there (.there (.there (.there (.there .here))))))))) (λba S7=>cU S7 (.old (.there (.there (.there (.there (.there (.there (.there .here)))))))) (λbc S8=>eQ (aE (aE ?_)))))
  have e1:((i:Int) - (sfx la lb alo blo i j:Nat)+1)=((stp la lb alo blo i st j).1:Nat):=by rw[est];show _=((i+1 - sfx la lb alo blo i j:Nat):Int);exact z7j l1
  have e2:((j:Int) - (sfx la lb alo blo i j:Nat)+1)=((stp la lb alo blo i st j).2.1:Nat):=by rw[est];show _=((j+1 - sfx la lb alo blo i j:Nat):Int);exact z7j l2
  have e3:((sfx la lb alo blo i j:Nat):Int)=((stp la lb alo blo i st j).2.2:Nat):=by rw[est]
  have S9:=S8.forget (Hm _ (zo _ _))
  rw[e1,e2,e3] at S9
  exact hn (z7e (decide_eq_false h1)) (z7f (decide_eq_false h2)) _ _ _ _ _ _ ⟨K4.os,K4.gens⟩ S9 hon'
 ·have hlt:=of_decide_eq_false hb'
  have est:stp la lb alo blo i st j=st:=if_neg (z7k hb')
  refine aE (aE ?_)
  have S9:=S4.forget (Hm _ (zo _ _))
  rw[<- est] at S9
  exact hn (z7e (decide_eq_false h1)) (z7f (decide_eq_false h2)) _ _ _ _ _ _ K4 S9 hon'
theorem qU{jp:Ej}(G:GK w hb)(hh:A.handled=none)
  (S:St hb tabs L' (nmI dn ug i ti (nmF nn dj u d2 va vb x alo ahi blo bhi ta tb tc td st t1 t2 t3)) ((dn,dict0)::T) s.heap) (hug:(ug,bmO "dict.get" dj)∈T) (hdj:(dj,oj)∈T)
  (hoj:oj.IsDictOf (Cw pw w) kvj) (hpj:Pj la lb alo blo bhi i kvj) {c:zK} (hc:la[i]? = some c) (hi:alo<=i) (hlb:lb.length<=100)
  {ℓ:zh}{vs:List Value}{n:Nat} (hℓ:(ℓ,ap vs n)∈T) (hvs:bX vs (bN lb c))
  (k:∀ s' on' kvn t1 t2 t3,Kp s s'->St hb tabs L' (nmI dn ug i ti (nmF nn dj u d2 va vb x alo ahi blo bhi ta tb tc td (uB la lb alo blo bhi st i) t1 t2 t3)) ((dn,on')::T) s'.heap ->
   on'.IsDictOf (Cw pw w) kvn->Dj la lb alo blo i (fU la lb blo bhi i) kvn->kvn.length<=100->y7 (y6 pw w) (A.deeper (fJ w L')) (z5 (mV.drop 3) (fJ w L')) Q E s')
  (E0:VP):y7 (y6 pw w) (A.deeper (fJ w L')) (EM (.ref ℓ)) (λit ag =>
   zW (y6 pw w) (A.deeper (fJ w L')) (.forLoop (.Name (yZ "j") jp) it uT [] (fJ w L')) (λr s'=>match r with
    | .ok .next=>y7 (y6 pw w) (A.deeper (fJ w L')) (z5 (mV.drop 3) (fJ w L')) Q E s'
    | .ok f=>Q f s'
    | .error e=>cameBackBy (y6 pw w) (A.deeper (fJ w L')) (fJ w L') E e s') ag) E0 s:=by
 have hrow:fU la lb blo bhi i=xl lb blo bhi c:=by unfold fU;rw[hc]
 refine vQ S (aj hℓ) ?_
 intro I o Wt fp am IV hw af
 let H:Nat->AQ->LV->LO->Prop:=λt Z l₁ T1=>Ex5 λon' kvn t1 t2 t3=>An5 (l₁=nmI dn ug i ti (nmF nn dj u d2 va vb x alo ahi blo bhi ta tb tc td ((((bN lb c).take t).filter λj=>decide (blo<=j)&&decide (j<bhi)).foldl (stp la lb alo blo i) st) t1 t2 t3)) (T1=(dn,on')::T) (on'.IsDictOf (Cw pw w) kvn) (Dj la lb alo blo i (((bN lb c).take t).filter λj=>decide (blo<=j)&&decide (j<bhi)) kvn) (kvn.length<=t)
 refine IV.loop (z:=s) hh af hw
  H ?_ (λp hp=>by rw[y9] at hp;subst hp;exact aj hℓ) ?_ ?_
 ·exact⟨dict0,[],t1,t2,t3,rfl,rfl,eH,Dj.nil,zk _⟩
 ·rintro E1 t v l₁ T1 own1 s₁ ht hv ⟨on',kvn,t1',t2',t3',rfl,rfl,hon,hdj',hlen⟩ ae hRo hKp
  obtain⟨j,tj,hj,rfl⟩:=hvs.get hv
  have hq:eK la lb i j=true:=by
   have:=zp hj
   unfold bN at this
   rw[BC] at this
   exact il.mpr ⟨c,hc,of_decide_eq_true this.2⟩
  have hpl:=gK lb c
  have htl:t<(bN lb c).length:=(zY.mp hj).1
  have htk:(bN lb c).take (t+1)=(bN lb c).take t++[j]:=by rw[Am,hj];rfl
  refine aU (aq ae (.new (by kernel_rfl)) ?_)
  refine λau S4=>tI (T:=T++own1) G hh S4 (y8 _ hug) (y8 _ hdj) hon hoj hpj hq (z77 hlb hlen hpl htl) hi ?_ ?_ ?_
  ·refine λhlt s' K' S'=>⟨_,_,S',⟨on',kvn,t1',t2',t3',?_,rfl,hon,?_,by exact z78 hlen⟩,?_,(kt hKp K')⟩
   ·rw[htk,Bx,EE,if_neg (by simp;exact z79 hlt),E6,Aq]
   ·rw[htk,Bx,EE,if_neg (by simp;exact z79 hlt),E6,Aq];exact hdj'
   ·exact λp hp=>by rw[y9] at hp;subst hp;exact aj hℓ
  ·intro hge s' K' S'
   have ef:=me (blo:=blo) (j7 lb c) hj hge
   rw[hvs.len] at ht
   refine k s' on' kvn t1' t2' t3' ⟨K'.os.trans hKp.os,λz=>K'.gens (hKp.gens z)⟩ ?_ hon ?_ (z7a hlb ht hlen hpl)
   ·unfold uB;rw[hrow];unfold xl;rw[<- ef]
    exact S'.sub (.cons_cons _ (List.sublist_append_left _ _))
   ·rw[hrow];unfold xl;rw[<- ef];exact hdj'
  ·refine λh1 h2 s' on2 t1 t2 t3 tk K' S' hon2=>⟨_,_,S',⟨on2,_,t1,t2,t3,?_,rfl,hon2,?_,?_⟩,?_,(kt hKp K')⟩
   ·rw[htk,Bx,EE,if_pos (by simp;exact z7b h1 h2),E6,Hl];rfl
   ·rw[htk,Bx,EE,if_pos (by simp;exact z7b h1 h2),E6];exact hdj'.snoc
   ·exact zn (gD _ _ _) (z6y hlen)
   ·exact λp hp=>by rw[y9] at hp;subst hp;exact aj hℓ
 ·rintro s' l' T' hKp ae ⟨on',kvn,t1',t2',t3',rfl,rfl,hon,hdj',hlen⟩ hRo
  have hpl:=gK lb c
  rw[hvs.len] at hlen
  rw[hvs.len,z4] at ae hdj'
  refine k s' on' kvn t1' t2' t3' ⟨hKp.os,hKp.gens⟩ ?_ hon ?_ (z7d hlb hlen hpl)
  ·unfold uB;rw[hrow];exact ae
  ·rw[hrow];exact hdj'
end
theorem qY{la lb:List zK}{i j:Nat}{c d:zK}(h:eK la lb i j=false)(h1:la[i]? = some c)(h2:lb[j]? = some d):c≠d:=by
 rintro rfl
 rw[il.mpr ⟨c,h1,h2⟩] at h
 nomatch h
section
variable{x:zh}{T:LO}{l:LV}{Ra Rb:LO}{tb:AQ}{st:Nat×Nat×Nat}{led:Bool}{rows:List aW}
theorem tJ(G:GK w hb)(hd:A.depth+2<zj)(S:St hb tabs L' (nmF nn dj u d2 va vb x alo ahi blo bhi ta tb tc td st t1 t2 t3) T s.heap)
  (hsj:(sj,cJ led)∈T) (hu:(u,bmO "set.__contains__" sj)∈T) (B:Best la lb alo ahi blo bhi st)
  (Va:SqV pw w hb tabs Ra va la) (Vb:SqV pw w hb tabs Rb vb lb) (hRa:∀ p∈Ra,p∈T) (hRb:∀ p∈Rb,p∈T) (ha1:alo<=ahi) (ha2:ahi<=la.length) (hb1:blo<=bhi) (hb2:bhi<=lb.length) {Q:FP}
  (k:∀ m dd s' t1 t2 t3,Kp s s'->St hb tabs L' (nmF nn dj u d2 va vb x alo ahi blo bhi ta tb tc td st t1 t2 t3) ((m,moO dd [.int st.1 t1,.int st.2.1 t2,.int st.2.2 t3])::T) s'.heap->Q (.ret (.ref m)) s') :
  y7 (y6 pw w) (A.deeper (fJ w L')) (z5 ((aD (st2 pw 6 6)).drop 8) (fJ w L')) Q E s:=by
 have hhi:=B.hi
 rw[BJ ha1,BJ hb1] at hhi
 have geta:∀ i:Nat,i<la.length->∃ c,la[i]? = some c:=λi h=>⟨la[i],zl h⟩
 have getb:∀ i:Nat,i<lb.length->∃ c,lb[i]? = some c:=λi h=>⟨lb[i],zl h⟩
 refine eE (λs'=>Kp s s'/\St hb tabs L' (nmF nn dj u d2 va vb x alo ahi blo bhi ta tb tc td st t1 t2 t3) T s'.heap) (λE'=>?_) ?_
 ·refine cC (wpAny_isTrue_Compare1 (ac S m2 (ac S (aj m9) (Ip (zb ⟨λhb'=>?_,λZ=>⟨rfl,⟨rfl,id⟩,S⟩⟩)))))
  have c1:=of_decide_eq_true hb'
  refine cC (wpAny_isTrue_Compare1 (ac S m3 (ac S (aj (aj (aj m9))) (Ip (zb ⟨λhb'=>?_,λZ=>⟨rfl,⟨rfl,id⟩,S⟩⟩)))))
  have c2:=of_decide_eq_true hb'
  obtain⟨ca,hca⟩:=geta (st.1 - 1) (z72 ha2 hhi.1 (decide_eq_true c1))
  obtain⟨cb,hcb⟩:=getb (st.2.1 - 1) (z72 hb2 hhi.2 hb')
  have e1:((st.1:Int) - 1)=((st.1 - 1:Nat):Int):=z73 (decide_eq_true c1)
  have e2:((st.2.1:Int) - 1)=((st.2.1 - 1:Nat):Int):=z73 hb'
  refine cC (isTrue_not (B3 (bV (ac S m5 (eI (id := "set.__contains__") (d:=sj) (args_cons (Dx ?_)))))))
  refine ac S m7 (wpAny_BinOp (ac S m3 (wpAny_Constant_int (Io ?_))))
  rw[e2]
  refine Vb.item S hRb hcb ?_ (λZ Z=>by with_unfolding_all rfl)
  refine λu1 tk1=>zq ⟨S.obj _ hu,?_⟩
  refine nN led S hu hsj (knd:=Ap pw w) (k:=cb) dL rfl (zb ⟨λZ=>?_,nofun⟩)
  refine cC (wpAny_isTrue_Compare1 (Dx (ac S m8 (wpAny_BinOp (ac S m2 (wpAny_Constant_int (Io ?_)))))))
  rw[e1]
  refine Va.item S hRa hca ?_ (λZ Z=>by with_unfolding_all rfl)
  refine λu2 tk2=>Dx (ac S m7 (wpAny_BinOp (ac S m3 (wpAny_Constant_int (Io ?_)))))
  rw[e2]
  refine Vb.item S hRb hcb ?_ (λZ Z=>by with_unfolding_all rfl)
  refine λu3 tk3=>eq_str ?_
  have hne:=qY (B.left (Dn.mp c1) (Dn.mp c2)) hca hcb
  refine zb ⟨λhb'=>absurd (by simpa using hb') hne,λZ=>⟨rfl,⟨rfl,id⟩,S⟩⟩
 rintro ag ⟨ao,af⟩
 refine eE (λs'=>Kp s s'/\St hb tabs L' (nmF nn dj u d2 va vb x alo ahi blo bhi ta tb tc td st t1 t2 t3) T s'.heap) (λE'=>?_) ?_
 ·refine cC (wpAny_isTrue_Compare1 (wpAny_BinOp (ac af m2 (ac af m4 (CT (ac af (aj (aj m9)) (GS ?_)))))))
  refine zb ⟨λhb'=>?_,λZ=>⟨rfl,⟨ao.os,ao.gens⟩,af⟩⟩
  have c1:=of_decide_eq_true hb'
  refine cC (wpAny_isTrue_Compare1 (wpAny_BinOp (ac af m3 (ac af m4 (CT (ac af (aj (aj (aj (aj m9)))) (GS ?_)))))))
  refine zb ⟨λhb'=>?_,λZ=>⟨rfl,⟨ao.os,ao.gens⟩,af⟩⟩
  have c2:=of_decide_eq_true hb'
  obtain⟨ca,hca⟩:=geta (st.1+st.2.2) (z75 ha2 (decide_eq_true c1))
  obtain⟨cb,hcb⟩:=getb (st.2.1+st.2.2) (z75 hb2 hb')
  refine cC (isTrue_not (B3 (bV (ac af m5 (eI (id := "set.__contains__") (d:=sj) (args_cons (Dx ?_)))))))
  refine ac af m7 (wpAny_BinOp (ac af m3 (ac af m4 (CT (Vb.item af hRb hcb ?_ (λZ Z=>by with_unfolding_all rfl))))))
  refine λu1 tk1=>zq ⟨af.obj _ hu,?_⟩
  refine nN led af hu hsj (knd:=Ap pw w) (k:=cb) dL rfl (zb ⟨λZ=>?_,nofun⟩)
  refine cC (wpAny_isTrue_Compare1 (Dx (ac af m8 (wpAny_BinOp (ac af m2 (ac af m4 (CT ?_)))))))
  refine Va.item af hRa hca ?_ (λZ Z=>by with_unfolding_all rfl)
  refine λu2 tk2=>Dx (ac af m7 (wpAny_BinOp (ac af m3 (ac af m4 (CT (Vb.item af hRb hcb ?_ (λZ Z=>by with_unfolding_all rfl)))))))
  refine λu3 tk3=>eq_str ?_
  have hne:=qY (B.right (z76 (decide_eq_true c1)) (z76 (decide_eq_true c2))) hca hcb
  refine zb ⟨λhb'=>absurd (by simpa using hb') hne,λZ=>⟨rfl,⟨ao.os,ao.gens⟩,af⟩⟩
 rintro s3 ⟨aw,ae⟩
 refine eE (λs'=>Kp s s'/\St hb tabs L' (nmF nn dj u d2 va vb x alo ahi blo bhi ta tb tc td st t1 t2 t3) T s'.heap) (λE'=>?_) ?_
 ·refine cC (wpAny_isTrue_Compare1 (ac ae m2 (ac ae (aj m9) (Ip (zb ⟨λhb'=>?_,λZ=>⟨rfl,⟨aw.os,aw.gens⟩,ae⟩⟩)))))
  have c1:=of_decide_eq_true hb'
  refine cC (wpAny_isTrue_Compare1 (ac ae m3 (ac ae (aj (aj (aj m9))) (Ip (zb ⟨λhb'=>?_,λZ=>⟨rfl,⟨aw.os,aw.gens⟩,ae⟩⟩)))))
  have c2:=of_decide_eq_true hb'
  obtain⟨cb,hcb⟩:=getb (st.2.1 - 1) (z72 hb2 hhi.2 hb')
  have e2:((st.2.1:Int) - 1)=((st.2.1 - 1:Nat):Int):=z73 hb'
  refine cC (B3 (bV (ac ae m5 (eI (id := "set.__contains__") (d:=sj) (args_cons (Dx (ac ae m7 ?_)))))))
  refine wpAny_BinOp (ac ae m3 (wpAny_Constant_int (Io ?_)))
  rw[e2]
  refine Vb.item ae hRb hcb ?_ (λZ Z=>by with_unfolding_all rfl)
  refine λu1 tk1=>zq ⟨ae.obj _ hu,?_⟩
  exact nN led ae hu hsj (knd:=Ap pw w) (k:=cb) dL rfl (zb ⟨nofun,λZ=>⟨rfl,⟨aw.os,aw.gens⟩,ae⟩⟩)
 rintro s4 ⟨K4,S4⟩
 refine eE (λs'=>Kp s s'/\St hb tabs L' (nmF nn dj u d2 va vb x alo ahi blo bhi ta tb tc td st t1 t2 t3) T s'.heap) (λE'=>?_) ?_
 ·refine cC (wpAny_isTrue_Compare1 (wpAny_BinOp (ac S4 m2 (ac S4 m4 (CT (ac S4 (aj (aj m9)) (GS ?_)))))))
  refine zb ⟨λhb'=>?_,λZ=>⟨rfl,⟨K4.os,K4.gens⟩,S4⟩⟩
  have c1:=of_decide_eq_true hb'
  refine cC (wpAny_isTrue_Compare1 (wpAny_BinOp (ac S4 m3 (ac S4 m4 (CT (ac S4 (aj (aj (aj (aj m9)))) (GS ?_)))))))
  refine zb ⟨λhb'=>?_,λZ=>⟨rfl,⟨K4.os,K4.gens⟩,S4⟩⟩
  have c2:=of_decide_eq_true hb'
  obtain⟨cb,hcb⟩:=getb (st.2.1+st.2.2) (z75 hb2 hb')
  refine cC (B3 (bV (ac S4 m5 (eI (id := "set.__contains__") (d:=sj) (args_cons (Dx (ac S4 m7 ?_)))))))
  refine wpAny_BinOp (ac S4 m3 (ac S4 m4 (CT (Vb.item S4 hRb hcb ?_ (λZ Z=>by with_unfolding_all rfl)))))
  refine λu1 tk1=>zq ⟨S4.obj _ hu,?_⟩
  exact nN led S4 hu hsj (knd:=Ap pw w) (k:=cb) dL rfl (zb ⟨nofun,λZ=>⟨rfl,⟨K4.os,K4.gens⟩,S4⟩⟩)
 rintro s5 ⟨K5,S5⟩
 refine cO (tZ G S5 (v:=.ref 163) (by kernel_rfl) (bl S5 m2 (bl S5 m3 (bln S5 m4 ⟨⟨_,_,_,S5⟩,?_⟩))))
 exact xa G S5 (by show A.depth+1+1<_;exact hd) (λm dd s6 K6 S6=>k m dd s6 _ _ _ (kt K5 K6) S6)
end
section
variable{x:zh}{T:LO}{l:LV}{Ra Rb:LO}{tb:AQ}{st:Nat×Nat×Nat}{led:Bool}{rows:List aW}
theorem wT(G:GK w hb)(hh:A.handled=none){Q:FP}
  (S:St hb tabs L' ((yZ "i", .int i ti)::nmF nn dj u d2 va vb x alo ahi blo bhi ta tb tc td st t1 t2 t3) ((dj,oj)::T) s.heap)
  (hoj:oj.IsDictOf (Cw pw w) kvj) (hpj:Pj la lb alo blo bhi i kvj) {c:zK} (hc:la[i]? = some c) (hi:alo<=i)
  (hd2:(d2,o2)∈T) (ho2:o2.IsDictOf (Ap pw w) (rows.map aW.kv)) (hrows:cI lb rows) (hob:∀ r∈rows,r.ob∈T) (hnn:(nn,ap [] 0)∈T)
  (Va:SqV pw w hb tabs Ra va la) (hRa:∀ p∈Ra,p∈T) (hlb:lb.length<=100)
  (k:∀ s' dn on' kvn t1 t2 t3,Kp s s'->St hb tabs L' (nmF nn dn u d2 va vb x alo ahi blo bhi ta tb tc td (uB la lb alo blo bhi st i) t1 t2 t3) ((dn,on')::T) s'.heap ->
   on'.IsDictOf (Cw pw w) kvn->Dj la lb alo blo i (fU la lb blo bhi i) kvn->Q .next s') :
  y7 (y6 pw w) (A.deeper (fJ w L')) (z5 mV (fJ w L')) Q E s:=by
 refine aC (bQ (ac S m2 (pY "dict.get" S m0 hoj ?_ i8 kA)))
 refine λug am af=>aq af (.new (by kernel_rfl)) (λak ae=>aC (iL ae ?_))
 refine λdn au S4=>aq S4 (.new (by kernel_rfl)) (λax S5=>eY (aV (ac S5 m9 (j3 S5 (aj (aj (aj hd2))) ho2 Ee FI (aH (args_cons (Dx (ac S5 (aj (aj m9)) ?_))))))))
 refine ac S5 m2 (Va.item S5 (λp hp=>aj (aj (aj (hRa p hp)))) hc ?_ (λZ Z=>by with_unfolding_all rfl))
 refine λuc tkc=>bln S5 m3 (pX G S5 (aj (aj (aj hd2))) ho2 (k:=c) dL (pJ (λv=>y7 _ _ (EM v) _ _ _) hrows hob hnn λℓ vs n hℓ hvs=>(restate S5 λs6 K6 S6=>?_)))
 replace K6:Kp s s6:=⟨K6.os,K6.gens⟩
 refine qU (T:=(ug,bmO "dict.get" dj)::(dj,oj)::T) G hh S6 m0 m1 hoj hpj hc hi hlb (aj (aj hℓ)) hvs ?_ _
 refine λs7 on' kvn t1' t2' t3' K7 S7 hon hdn hln=>aC (ac S7 m0 (aq S7 (.old (.there (.there (.there (.there .here))))) ?_))
 refine λbc S8=>aE (k _ dn on' kvn t1' t2' t3' ⟨K7.os.trans K6.os,λz=>K7.gens (K6.gens z)⟩ ?_ hon hdn)
 exact (S8.forget (.cons _ (.cons _ (.cons _ (Al _))))).sub (.cons_cons _ (.cons _ (zo _ _)))
end
section
variable{x:zh}{T:LO}{l:LV}{Ra Rb:LO}{tb:AQ}{st:Nat×Nat×Nat}{led:Bool}{rows:List aW}
theorem flm_c(G:GK w hb)(S:St hb tabs L l T s.heap)(hd:A.depth+2<zj)(hh:A.handled=none)(hx:(x,smO dx)∈T)(hdx:(dx,od)∈T)(hf:bH od (mf va vb mb fc (.ref d2) (.ref sj) sp))
  (hd2:(d2,o2)∈T) (ho2:o2.IsDictOf (Ap pw w) (rows.map aW.kv)) (hrows:cI lb rows) (hob:∀ r∈rows,r.ob∈T) (hsj:(sj,cJ led)∈T)
  (Va:SqV pw w hb tabs Ra va la) (Vb:SqV pw w hb tabs Rb vb lb) (hRa:∀ p∈Ra,p∈T) (hRb:∀ p∈Rb,p∈T)
  (ha1:alo<=ahi) (ha2:ahi<=la.length) (hb1:blo<=bhi) (hb2:bhi<=lb.length)
  (k:∀ m dd s' t1 t2 t3,Kp s s'->St hb tabs L l ((m,moO dd [.int (flm la lb alo ahi blo bhi).1 t1,.int (flm la lb alo ahi blo bhi).2.1 t2,.int (flm la lb alo ahi blo bhi).2.2 t3])::T) s'.heap->R (.ok (.ret (.ref m))) s') :
  zW (y6 pw w) A (.call (.ref 224) ⟨[.ref x,.int alo ta,.int ahi tb,.int blo tc,.int bhi td],[]⟩) R s:=by
 have hsa:=Va.small
 have hsb:=Vb.small
 refine dR G S (lk224 _) (dn 2 hd) (binds:=[(yZ "self", .ref x),(yZ "alo", .int alo ta),(yZ "ahi", .int ahi tb),(yZ "blo", .int blo tc),(yZ "bhi", .int bhi td)]) (body:=aD (st2 pw 6 6)) (kp_binds (S.kin G) (λS=>by kernel_rfl)) (λL' ai oL r S'=>eZ (j6 (bP (args_cons (bQ (ac S' m0 (bB G S' (aj hx) (aj hdx) hf m1 ?_ (hv:=Va.hand))))))))
 refine args_cons (bQ (ac S' m0 (bB G S' (aj hx) (aj hdx) hf m2 ?_ (hv:=Vb.hand))))
 refine args_cons (bQ (ac S' m0 (bB G S' (aj hx) (aj hdx) hf m7 (args_cons (bQ (bQ (ac S' m0 ?_)))))))
 refine bB G S' (aj hx) (aj hdx) hf m8 (xV "set.__contains__" led S' (aj hsj) ?_ eV gF)
 refine λu am af=>zq ⟨rfl,_,_,_,_,_,af,?_⟩
 refine λtu ak ae=>cH hh ae m0 ?_
 intro au S4
 replace S4:=S4.sub (zo _ _)
 refine aZ (aq S4 (.new (by kernel_rfl)) ?_)
 refine λax S5=>aZ (aq S5 (.new (by kernel_rfl)) ?_)
 refine λaz S6=>aZ (aq S6 (.new (by kernel_rfl)) ?_)
 refine λba S7=>aZ (aq S7 (.new (by kernel_rfl)) ?_)
 refine λbc S8=>cD (restate S8 λs8 K8 S8=>?_)
 replace K8:Kp s s8:=⟨K8.os,K8.gens⟩
 refine dB (ac S8 m6 (BA (L3 (zb ⟨nofun,λZ=>?_⟩))))
 refine aE (dB (ac S8 m8 (BA (L3 (zb ⟨nofun,λZ=>?_⟩)))))
 refine aE (eM [yZ "besti", yZ "bestj", yZ "bestsize"] (bl S8 m5 (bl S8 m7 (args_cons (wpAny_Constant_int (zq ⟨rfl,rfl,hh,_,_,_,_,_,S8,?_⟩))))))
 refine λbf S9=>cU S9 (.new (by kernel_rfl)) (λd5 S10=>cU S10 (.new (by kernel_rfl)) (λcr S11=>cU S11 (.new (by kernel_rfl)) (λcu S12=>eQ (aC (iL S12 ?_)))))
 refine λdj h13 S13=>aq S13 (.new (by kernel_rfl)) (λh14 S14=>aC (bF (zq ⟨rfl,_,_,_,_,_,S14,?_⟩)))
 refine λnn h15 S15=>aq S15 (.new (by kernel_rfl)) (λh16 S16=>eY (rp G S16 cK (bl S16 (aj m9) (bln S16 (aj (aj m9)) (vO S16 ?_)))))
 refine λrg tg h17 tk17 S17=>jY S17 m0 z7l (z7m ha1 ha2 hsa) z7l (z7n ha2 hsa) ?_
 intro I o Wt fp ee IV hw S18
 have S19:St hb tabs L' (nmF nn dj u d2 va vb x alo ahi blo bhi ta tb tc td (alo,blo,0) ta tc _) (((dj,dict0)::(nn,ap [] 0)::(u,bmO "set.__contains__" sj)::(L,oL)::T)++[(I,o)]) ee :=
  (S18.sub (T':=(nn,ap [] 0)::(dj,dict0)::(u,bmO "set.__contains__" sj)::(L,oL)::T++[(I,o)]) (zo _ _)).perm ((z8 _ _ _))
 have en:((ahi:Int) - (alo:Int)).toNat=ahi - alo:=z7o
 let H:Nat->AQ->LV->LO->Prop:=λt Z l₁ T1=>Ex6 λdj' oj' kvj t1 t2 t3=>An4 (l₁=nmF nn dj' u d2 va vb x alo ahi blo bhi ta tb tc td ((Lr alo t).foldl (uB la lb alo blo bhi) (alo,blo,0)) t1 t2 t3) (T1=(dj',oj')::(nn,ap [] 0)::(u,bmO "set.__contains__" sj)::(L,oL)::T) (oj'.IsDictOf (Cw pw w) kvj) (Pj la lb alo blo bhi (alo+t) kvj)
 refine IV.loop (z:=s) hh S19 hw
  H ?_ (zm _) ?_ ?_ (ez:=⟨K8.os,K8.gens⟩)
 ·exact⟨dj,dict0,[],_,_,_,rfl,rfl,eH,.inl ⟨rfl,rfl⟩⟩
 ·rintro E1 t v l₁ T1 own1 s₁ ht ⟨ti,hv⟩ ⟨dj',oj',kvj,t1',t2',t3',rfl,rfl,hoj,hpj⟩ S20 hRo hKp
  have hlt:alo+t<la.length:=z7p ha2 ht
  have ev:v=.int ((alo+t:Nat):Int) ti:=by rw[hv,Gb]
  clear hv
  subst ev
  refine aU (aq S20 (.new (by kernel_rfl)) ?_)
  refine λh21 S21=>wT (T:=(nn,ap [] 0)::(u,bmO "set.__contains__" sj)::(L,oL)::(T++own1)) G hh S21 hoj hpj (zl hlt) z7q
   (aj (aj (aj (y8 _ hd2)))) ho2 hrows (λr hr=>aj (aj (aj (y8 _ (hob r hr))))) m0 Va (λp hp=>aj (aj (aj (y8 _ (hRa p hp))))) (up 40 hsb) ?_
  refine λs' dn on' kvn t1 t2 t3 K' S' hon hdn=>⟨_,_,S',⟨dn,on',kvn,t1,t2,t3,?_,rfl,hon,.inr ⟨by exact z7s,hdn⟩⟩,(zm _),(kt hKp K')⟩
  rw[List.range'_concat,Hl,Nat.one_mul];rfl
 ·rintro s' l' T' hKp S20 ⟨dj',oj',kvj,t1',t2',t3',rfl,rfl,hoj,hpj⟩ hRo
  rw[en] at S20
  refine tJ G hd S20 (aj (aj (aj (aj hsj)))) m2 (cQ la lb alo ahi blo bhi) Va Vb (λp hp=>aj (aj (aj (aj (hRa p hp))))) (λp hp=>aj (aj (aj (aj (hRb p hp))))) ha1 ha2 hb1 hb2 ?_
  intro m dd ag t1 t2 t3 ao S21
  have S22:=(S21.leave 4 rfl r).sub (T':=(m,moO dd [.int (flm la lb alo ahi blo bhi).1 t1,.int (flm la lb alo ahi blo bhi).2.1 t2,.int (flm la lb alo ahi blo bhi).2.2 t3])::T) (.cons_cons _ (.cons _ (.cons _ (zo _ _))))
  exact k m dd ag t1 t2 t3 (kt hKp ao) S22
end
def u0(h:AJ)(t:zh)(items:List Value):Prop:=∃ o,h.get? t=some o/\∃ n,o.data=.seq items.toArray n
theorem u0.at{h h':AJ}{t:zh}{items:List Value}(x:u0 h t items)(e:∀ o,h.get? t=some o->h'.get? t=some o):u0 h' t items:=by obtain⟨o,a,b⟩:=x;exact⟨o,e o a,b⟩
section
variable{items:List Value}
theorem vw{x:Value}{Q:Option Value->zc->Prop}(hit:s.heap.IsTupleIter it t i)(ht:u0 s.heap t items)(hx:items[i]? = some x)
  (hQ:∀ h',h'.IsTupleIter it t (i+1)->BZ it s.heap h'->Q (some x) (wh s h')):y7 (y6 prog w) A (Di (.ref it)) Q E s:=by
 obtain⟨o,ho,hc,hd⟩:=id hit
 obtain⟨ot,hot,n,hdt⟩:=ht
 have hx':items.toArray[i]? = some x:=by simpa using hx
 refine y0 (Dw (Ab (name:=yZ "__next__") hit.typeIs AT (zX AT hit.typeIs C4 ?_ (C1 _))))
 refine y0 (m:=FX (.ref it) 0) (AN ho hd (x:=.ref t) rfl ?_)
 refine zA rfl (y0 (m:=FX (.ref it) 1) (AN ho hd (x:=.int i 0) rfl ?_))
 refine y0 (m:=BQ (.ref t)) (zy hot hdt ?_)
 simp only[Fu,hx']
 refine y0 (DG ho hd (by simp) (y4 ⟨x,rfl,y4 (hQ _ ⟨_,zt _ ho (IM (E8 hd _)),(Kl ..).trans hc,?_⟩ (zw ..))⟩))
 rw[E8 hd];simp[Cz]
theorem xB{Q:Option Value->zc->Prop}(hh:A.handled=none)(hit:s.heap.IsTupleIter it t i)(ht:u0 s.heap t items)(hx:items[i]? = none)
  (hQ:∀ h',He it s.heap h'->Q none (wh s h')):y7 (y6 prog w) A (Di (.ref it)) Q E s:=by
 obtain⟨o,ho,hc,hd⟩:=id hit
 obtain⟨ot,hot,n,hdt⟩:=ht
 have hx':items.toArray[i]? = none:=by simpa using hx
 refine y0 (Dw (Ab (name:=yZ "__next__") hit.typeIs AT (zX AT hit.typeIs C4 ?_ (C1 _))))
 refine y0 (m:=FX (.ref it) 0) (AN ho hd (x:=.ref t) rfl ?_)
 refine zA rfl (y0 (m:=FX (.ref it) 1) (AN ho hd (x:=.int i 0) rfl ?_))
 refine y0 (m:=BQ (.ref t)) (zy hot hdt ?_)
 simp only[Fu,hx']
 refine y0 (AS (y0 (DG ho hd (by simp) ?_)))
 refine y0 (m:=NE (.type "StopIteration") []) (y0 (Af ?_ (by size_fits)))
 refine y0 (m:=De _ _) (Ay (a:=CO) (by first|rfl|(simp only[De];rfl)) ?_)
 refine Af ?_ (by size_fits)
 refine y0 (HA ?_)
 first|rw[show A.in1.handled=none from hh]|rw[hh]
 refine y0 (y4 (I7 ?_))
 refine y0 (AO (T := "StopIteration") (b:=true) ⟨_,zU _ rfl,rfl⟩ GN ?_)
 exact y4 (hQ _ (((zw ..).extBut.push _).push _))
theorem vx(hne:t≠it):∀ (n i:Nat) (s:zc) (Q:LP),s.heap.IsTupleIter it t i->u0 s.heap t items->i+n<=items.length ->
  (∀ h',h'.IsTupleIter it t (i+n)->BZ it s.heap h'->Q ((items.drop i).take n) (wh s h'))->y7 (y6 prog w) A (draw (.ref it) n) Q E s:=by
 intro n
 induction n with
 | zero =>
  intro i s Q hit Z Z hQ
  exact y4 (by simpa using hQ s.heap hit (Km ..))
 | succ n ih =>
  intro i s Q hit ht hle hQ
  have hlt:i<items.length:=zbc hle
  refine y0 (vw hit ht (zl hlt) λai hit1 bz=>?_)
  refine y0 (zs (ih (i+1) _ _ hit1 (ht.at λo e=>(bz.2 t hne).trans e) (zbe hle) λam hit2 d6=>y4 ?_))
  have:=hQ am (by rw[show i+(n+1)=i+1+n by exact z2i];exact hit2) (bz.trans d6)
  rw[G8 hlt,List.take_succ_cons] at this
  exact this
end
section
variable{m:zh}{l:LV}{T:LO}{vs:List Value}
theorem qu (w:As):I0 (KN w.params) (.ref 163) "__iter__" = some (some (.builtin "tuple.__iter__")):=by kernel_rfl
theorem rV:FT "tuple.__iter__" = true:=by decide +kernel
theorem vn:Eo "tuple.__iter__" = some .slot:=by decide +kernel
theorem rU:M9 "tuple.__iter__" = some ("tuple", "__iter__"):=by decide +kernel
theorem oE{Q:VP}(G:GK w hb)(S:St hb tabs L l T s.heap)(hm:(m,moO dd vs)∈T)
  (h:Q (.ref s.heap.objs.size) { s with heap:=s.heap.push { cls:=.type "tuple_iterator", data:=.fields #[.ref m,.int 0 0] } }):y7 (y6 pw w) A (EM (.ref m)) Q E s:=by
 have X:=S.kin G
 have t1:Cy (y6 pw w) s.heap (Dc (.ref m)) (.ref 163):=(Looks.ld (S.obj _ hm)).andThen .now
 have t2:Cy (y6 pw w) s.heap (B9 (.ref m) (.type "tuple")) true:=t1.andThen (jF X)
 have t3:Cy (y6 pw w) s.heap (EG (.ref m) "__iter__") (some (.builtin "tuple.__iter__")):=t1.andThen (DP X (qu w))
 have call:∀ {Q:VP},Q (.ref s.heap.objs.size) { s with heap:=s.heap.push { cls:=.type "tuple_iterator", data:=.fields #[.ref m,.int 0 0] } }->y7 (y6 pw w) A (call (.builtin "tuple.__iter__") [.ref m]) Q E s:=λ{Q} h=>by
  refine BU (Cr rV F.entry_tuple_iter (@GR (y6 pw w) _ _ _ "tuple.__iter__" "tuple" "__iter__" (.ref m) [] [] _ vn rU t2 (F.args_tuple_iter_1 _) ?_))
  show y7 _ _ (do ret (<- newFields "tuple_iterator" [.ref m,Cz 0])) _ _ s
  exact y0 (Af (y4 h))
 refine y0 (t3.here ?_)
 refine y0 (zs (y0 (y0 (t3.here ?_))))
 refine y0 (B0 (wpAny_ite ?_))
 have fin:y7 (y6 pw w) A (NF (.builtin "tuple.__iter__") [.ref m]>>=λv=>AA (some v)) (λv s'=>y7 (y6 pw w) A (match v with
   | some it=>(do match <- EG it "__next__" with
    | none=>rule "iter.non-iterator"; raiseError "TypeError" s!"iter() returned non-iterator of type '{← PySem.typeNameOf it}'"
    | some _=>AA it)
   | none=>(do match <- bindSpecialIfBound? (.ref m) "__getitem__" with
    | none=>rule "iter.not-iterable"; raiseError "TypeError" s!"'{← PySem.typeNameOf (.ref m)}' object is not iterable"
    | some _=>rule "iter.getitem-fallback"; newFields "iterator" [(.ref m),<- mkInt 0])) Q E s') E s :=
  y0 (call (y4 (y0 (BX (T := "tuple_iterator") ⟨_,zU _ rfl,rfl⟩ AT.lookup (y4 h)))))
 split
 ·exact y0 (y4 (y4 (zA rfl fin)))
 ·exact DF (y0 (y4 (y4 (zA rfl fin))))
theorem kN{targets:List (Bool×(Value->LH Unit))}{Q:UP}(hh:A.handled=none)(G:GK w hb)(S:St hb tabs L l T s.heap)(hm:(m,moO dd vs)∈T)
  (hn:targets.length=vs.length) (hstar:targets.findIdx? (·.1)=none)
  (h:∀ h',St hb tabs L l T h'->y7 (y6 pw w) A (Cf (targets.map (·.2)) vs) Q E (wh s h')):y7 (y6 pw w) A (unpack (.ref m) targets) Q E s:=by
 have X:=S.kin G
 have t1:Cy (y6 pw w) s.heap (Dc (.ref m)) (.ref 163):=(Looks.ld (S.obj _ hm)).andThen .now
 have t3:Cy (y6 pw w) s.heap (EG (.ref m) "__iter__") (some (.builtin "tuple.__iter__")):=t1.andThen (DP X (qu w))
 have hlt:m≠s.heap.objs.size:=Ag (S.lt hm)
 unfold unpack unpackItems
 rw[hn,hstar]
 refine y0 (zs (y0 ?_))
 refine y0 (t3.here ?_)
 refine Bq rfl (y4 (zA rfl (y0 (zs (oE G S hm ?_)))))
 have hs:u0 (s.heap.push { cls:=.type "tuple_iterator", data:=.fields #[.ref m,.int 0 0] }) m vs:=⟨_,zC _ (S.obj _ hm),_,rfl⟩
 refine y0 (zs (vx hlt vs.length 0 _ _ ⟨_,zU _ rfl,rfl,rfl⟩ hs zbf λai hit1 bz=>?_))
 rw[Et,z4]
 refine aQ (Ao _) ?_
 have d7:u0 ai m vs:=hs.at λo e=>(bz.2 m hlt).trans e
 refine y0 (zs (xB hh hit1 d7 (by simp) λam d9=>?_))
 refine zA rfl (y4 (h am (S.extBut λb o hb' e=>d9 b o hb' (bz.extBut b o hb' (zC _ e)))))
theorem nO{elts:List Expr}{x1:Nat}{tpos:Ej}{Q:UP}(hh:A.handled=none)(G:GK w hb)(S:St hb tabs L l T s.heap)(hm:(m,moO dd vs)∈T)
  (h:∀ h',St hb tabs L l T h'->y7 (y6 pw w) A (Cf ((BS elts env).map (·.2)) vs) Q E (wh s h'))
  (hsz:(BS elts env).length=vs.length:=by rfl) (hstar:(BS elts env).findIdx? (·.1)=none:=by kernel_rfl) :
  y7 (y6 pw w) A (BR (.Tuple elts x1 tpos) env (.ref m)) Q E s:=by
 exact y0 (CS (kN hh G S hm hsz hstar h))
end
section
variable{m m' dd':zh}{l:LV}{T:LO}{vs:List Value}
theorem mt_lt (w:As):I0 (KN w.params) (.ref 163) "__lt__" = some (some (.builtin "tuple.__lt__")):=by kernel_rfl
theorem rT:FT "tuple.__lt__" = true:=by decide +kernel
theorem vm:Eo "tuple.__lt__" = some .slot:=by decide +kernel
theorem rS:M9 "tuple.__lt__" = some ("tuple", "__lt__"):=by decide +kernel
theorem match_ltcall{a1 a2 a3 b1 b2 b3:Int}{t1 t2 t3 u1 u2 u3:AQ}{Q:VP}(G:GK w hb)(S:St hb tabs L l T s.heap)(hm:(m,moO dd [.int a1 t1,.int a2 t2,.int a3 t3])∈T)(hm':(m',moO dd' [.int b1 u1,.int b2 u2,.int b3 u3])∈T)
  (h:∀ c tk,Q (.bool c) (wt s tk)):y7 (y6 pw w) A (call (.builtin "tuple.__lt__") [.ref m,.ref m']) Q E s:=by
 have X:=S.kin G
 have t1':Cy (y6 pw w) s.heap (Dc (.ref m)) (.ref 163):=(Looks.ld (S.obj _ hm)).andThen .now
 have t2':Cy (y6 pw w) s.heap (B9 (.ref m) (.type "tuple")) true:=t1'.andThen (jF X)
 have t1'':Cy (y6 pw w) s.heap (Dc (.ref m')) (.ref 163):=(Looks.ld (S.obj _ hm')).andThen .now
 have t2'':Cy (y6 pw w) s.heap (B9 (.ref m') (.type "tuple")) true:=t1''.andThen (jF X)
 refine BU (Cr rT HP (@GR (y6 pw w) _ _ _ "tuple.__lt__" "tuple" "__lt__" (.ref m) [.ref m'] [] _ vm rS t2' (Hn _ _) ?_))
 refine y0 (m:=B9 (.ref m') (.type "tuple")) (t2''.here ?_)
 refine zA rfl (y0 (y0 (zy (S.obj _ hm) rfl (y4 ?_))))
 refine y0 (y0 (zy (S.obj _ hm') rfl (y4 ?_)))
 refine y0 (m:=Dt [(Cc a1 t1,Cc b1 u1),(Cc a2 t2,Cc b2 u2),(Cc a3 t3,Cc b3 u3)] _ _) ?_
 rw[AC]
 refine y0 (y0 (EI ?_))
 by_cases e1:(a1==b1)=true
 ·rw[e1]
  refine zA rfl (y4 ?_)
  show y7 _ _ (Dt [(Cc a2 t2,Cc b2 u2),(Cc a3 t3,Cc b3 u3)] _ _) _ _ s
  rw[AC]
  refine y0 (y0 (EI ?_))
  by_cases e2:(a2==b2)=true
  ·rw[e2]
   refine zA rfl (y4 ?_)
   show y7 _ _ (Dt [(Cc a3 t3,Cc b3 u3)] _ _) _ _ s
   rw[AC]
   refine y0 (y0 (EI ?_))
   by_cases e3:(a3==b3)=true
   ·rw[e3]
    refine zA rfl (y4 ?_)
    show y7 _ _ (Dt [] _ _) _ _ s
    exact y4 (y4 (h _ _))
   ·refine Bq (by simpa using e3) (y0 (AS (y0 ?_)))
    exact GS (y0 (y4 (y4 (y4 (y4 (h _ _))))))
  ·refine Bq (by simpa using e2) (y0 (AS (y0 ?_)))
   exact GS (y0 (y4 (y4 (y4 (y4 (h _ _))))))
 ·refine Bq (by simpa using e1) (y0 (AS (y0 ?_)))
  exact GS (y0 (y4 (y4 (y4 (y4 (h _ _))))))
theorem lY{a1 a2 a3 b1 b2 b3:Int}{t1 t2 t3 u1 u2 u3:AQ}{Q:BP}(hu:A.units<AB)(G:GK w hb)(S:St hb tabs L l T s.heap)(hm:(m,moO dd [.int a1 t1,.int a2 t2,.int a3 t3])∈T)(hm':(m',moO dd' [.int b1 u1,.int b2 u2,.int b3 u3])∈T)
  (h:∀ c tk,Q c (wt s tk)):y7 (y6 pw w) A (I4 Mm (.ref m) (.ref m')) Q E s:=by
 have X:=S.kin G
 have t1':Cy (y6 pw w) s.heap (Dc (.ref m)) (.ref 163):=(Looks.ld (S.obj _ hm)).andThen .now
 have t3:Cy (y6 pw w) s.heap (EG (.ref m) "__lt__") (some (.builtin "tuple.__lt__")):=t1'.andThen (DP X (mt_lt w))
 refine y0 (wpAny_cRoomFor hu ?_)
 refine y0 (zs (y0 (y0 (t3.here ?_))))
 refine y0 (B0 (wpAny_ite ?_))
 have fin:∀ {Q':Option Value->zc->Prop},(∀ c tk,Q' (some (.bool c)) (wt s tk))->y7 (y6 pw w) A (NF (.builtin "tuple.__lt__") ([.ref m]++[.ref m'])>>=λv=>AA (some v)) Q' E s:=λhq =>
  y0 (match_ltcall G S hm hm' λc tk=>y4 (hq c tk))
 split
 ·exact y0 (y4 (y4 (fin λc tk=>y0 (zb (y4 (h c tk))))))
 ·exact DF (y0 (y4 (y4 (fin λc tk=>y0 (zb (y4 (h c tk)))))))
end
noncomputable def lX(la lb:List zK):Nat->Nat->Nat->Nat->Nat->Nat
 | 0,_,_,_,_=>0
 | f+1,alo,ahi,blo,bhi=>if (flm la lb alo ahi blo bhi).2.2=0 then 0 else
   (flm la lb alo ahi blo bhi).2.2+lX la lb f alo (flm la lb alo ahi blo bhi).1 blo (flm la lb alo ahi blo bhi).2.1 +
    lX la lb f ((flm la lb alo ahi blo bhi).1+(flm la lb alo ahi blo bhi).2.2) ahi ((flm la lb alo ahi blo bhi).2.1+(flm la lb alo ahi blo bhi).2.2) bhi
theorem iR{f alo ahi blo bhi:Nat}:lX la lb (f+1) alo ahi blo bhi=if (flm la lb alo ahi blo bhi).2.2=0 then 0 else (flm la lb alo ahi blo bhi).2.2+lX la lb f alo (flm la lb alo ahi blo bhi).1 blo (flm la lb alo ahi blo bhi).2.1+lX la lb f ((flm la lb alo ahi blo bhi).1+(flm la lb alo ahi blo bhi).2.2) ahi ((flm la lb alo ahi blo bhi).2.1+(flm la lb alo ahi blo bhi).2.2) bhi:=rfl
theorem i4{alo ahi blo bhi:Nat}(h:ahi<=alo\/bhi<=blo):(flm la lb alo ahi blo bhi).2.2=0:=by
 have B:=cQ la lb alo ahi blo bhi
 have h1:=B.lo
 have h2:=B.hi
 rcases h with q|q
 ·have:=IA q;exact zd6 h1.1 h2.1 this
 ·have:=IA q;exact zd6 h1.2 h2.2 this
theorem jE{f alo ahi blo bhi:Nat}(h:ahi<=alo\/bhi<=blo):lX la lb f alo ahi blo bhi=0:=by
 cases f with
 | zero=>rfl
 | succ f=>rw[iR,if_pos (i4 h)]
theorem lg:∀ (f f' alo ahi blo bhi:Nat),ahi - alo<f->ahi - alo<f'->lX la lb f alo ahi blo bhi=lX la lb f' alo ahi blo bhi:=by
 intro f
 induction f with
 | zero=>exact λZ Z Z Z Z h Z=>zd5 h
 | succ f ih =>
  intro f' alo ahi blo bhi h h'
  cases f' with
  | zero=>exact zd5 h'
  | succ f' =>
   rw[iR,iR]
   by_cases hz:(flm la lb alo ahi blo bhi).2.2=0
   ·rw[if_pos hz,if_pos hz]
   ·rw[if_neg hz,if_neg hz]
    have B:=cQ la lb alo ahi blo bhi
    have h1:=B.lo
    have h2:=B.hi
    have hlt:alo<ahi:=by
     rcases AP alo ahi with q|q
     ·exact q
     ·exact absurd (i4 (.inl q)) hz
    have h3:=BJ (Ak hlt)
    rw[ih f' alo _ blo _ (by exact zd7 h hz h1.1 h2.1) (by exact zd7 h' hz h1.1 h2.1),ih f' _ ahi _ bhi (by exact zd8 h hz h1.1 h2.1) (by exact zd8 h' hz h1.1 h2.1)]
noncomputable def mt(la lb:List zK)(q:Nat×Nat×Nat×Nat):Nat:=lX la lb (la.length+1) q.1 q.2.1 q.2.2.1 q.2.2.2
noncomputable def wd(q:Nat×Nat×Nat×Nat):Nat:=q.2.1 - q.1
structure mD(la lb:List zK)(q:Nat×Nat×Nat×Nat):Prop where
 a1:q.1<=q.2.1
 a2:q.2.1<=la.length
 b1:q.2.2.1<=q.2.2.2
 b2:q.2.2.2<=lb.length
noncomputable def kJ(q:Nat×Nat×Nat×Nat)(b:Nat×Nat×Nat):List (Nat×Nat×Nat×Nat):=if q.1<b.1/\q.2.2.1<b.2.1 then [(q.1,b.1,q.2.2.1,b.2.1)] else []
noncomputable def kY(q:Nat×Nat×Nat×Nat)(b:Nat×Nat×Nat):List (Nat×Nat×Nat×Nat):=if b.1+b.2.2<q.2.1/\b.2.1+b.2.2<q.2.2.2 then [(b.1+b.2.2,q.2.1,b.2.1+b.2.2,q.2.2.2)] else []
noncomputable def eU(l:List Nat):Nat:=l.foldr (· + ·) 0
theorem aR(l r:List Nat):eU (l++r)=eU l+eU r:=by
 induction l with
 | nil=>simp[eU]
 | cons a l ih=>show a+eU (l++r)=a+eU l+eU r;exact zd9 ih
theorem wi{q:Nat×Nat×Nat×Nat}(h:(flm la lb q.1 q.2.1 q.2.2.1 q.2.2.2).2.2=0):mt la lb q=0:=by
 unfold mt;rw[iR,if_pos h]
theorem wl{q:Nat×Nat×Nat×Nat}(hq:mD la lb q)(h:(flm la lb q.1 q.2.1 q.2.2.1 q.2.2.2).2.2≠0) :
  mt la lb q=(flm la lb q.1 q.2.1 q.2.2.1 q.2.2.2).2.2+eU ((kJ q (flm la lb q.1 q.2.1 q.2.2.1 q.2.2.2)).map (mt la lb))+eU ((kY q (flm la lb q.1 q.2.1 q.2.2.1 q.2.2.2)).map (mt la lb)):=by
 have B:=cQ la lb q.1 q.2.1 q.2.2.1 q.2.2.2
 obtain⟨alo,ahi,blo,bhi⟩:=q
 have h1:=B.lo
 have h2:=B.hi
 have h3:=BJ hq.a1
 have h4:=BJ hq.b1
 have ha2:=hq.a2
 generalize hb:flm la lb alo ahi blo bhi=b at *
 unfold mt
 rw[iR,hb,if_neg h]
 have e1:lX la lb la.length alo b.1 blo b.2.1=eU ((kJ (alo,ahi,blo,bhi) b).map (mt la lb)):=by
  unfold kJ
  split
  ·show _=mt la lb _+0
   rw[Im]
   exact lg _ _ _ _ _ _ (zdf h3 ha2 h h2.1) (zdh ha2 h2.1)
  ·rename_i hn
   exact jE (zdi hn)
 have e2:lX la lb la.length (b.1+b.2.2) ahi (b.2.1+b.2.2) bhi=eU ((kY (alo,ahi,blo,bhi) b).map (mt la lb)):=by
  unfold kY
  split
  ·show _=mt la lb _+0
   rw[Im]
   rename_i z;exact lg _ _ _ _ _ _ (x14 ha2 h z.1) (zdm ha2)
  ·rename_i hn
   exact jE (zdn hn)
 rw[e1,e2];rfl
theorem vA{q:Nat×Nat×Nat×Nat}(hq:mD la lb q)(h:(flm la lb q.1 q.2.1 q.2.2.1 q.2.2.2).2.2≠0) :
  (∀ p∈kJ q (flm la lb q.1 q.2.1 q.2.2.1 q.2.2.2),mD la lb p)/\(∀ p∈kY q (flm la lb q.1 q.2.1 q.2.2.1 q.2.2.2),mD la lb p) /\
  (flm la lb q.1 q.2.1 q.2.2.1 q.2.2.2).2.2+eU ((kJ q (flm la lb q.1 q.2.1 q.2.2.1 q.2.2.2)).map wd)+eU ((kY q (flm la lb q.1 q.2.1 q.2.2.1 q.2.2.2)).map wd)<=wd q:=by
 have B:=cQ la lb q.1 q.2.1 q.2.2.1 q.2.2.2
 obtain⟨alo,ahi,blo,bhi⟩:=q
 have h1:=B.lo
 have h2:=B.hi
 have h3:=BJ hq.a1
 have h4:=BJ hq.b1
 have ha1:=hq.a1
 have ha2:=hq.a2
 have hb1:=hq.b1
 have hb2:=hq.b2
 generalize hb:flm la lb alo ahi blo bhi=b at *
 refine⟨λp hp=>?_,λp hp=>?_,?_⟩
 ·unfold kJ at hp
  split at hp
  ·rename_i hn
   rw[y9] at hp
   subst hp
   exact⟨by dsimp only;exact z2f hn.1,by dsimp only;exact zde h3 ha2 h2.1,by dsimp only;exact z2f hn.2,by dsimp only;exact zde h4 hb2 h2.2⟩
  ·nomatch hp
 ·unfold kY at hp
  split at hp
  ·rename_i hn
   rw[y9] at hp
   subst hp
   exact⟨by dsimp only;exact zdg hn.1,by dsimp only;exact ha2,by dsimp only;exact zdg hn.2,by dsimp only;exact hb2⟩
  ·nomatch hp
 ·have e1:eU ((kJ (alo,ahi,blo,bhi) b).map wd)<=b.1 - alo:=by
   unfold kJ
   split
   ·show wd _+0<=_
    unfold wd;dsimp only;exact zdj
   ·exact zD _
  have e2:eU ((kY (alo,ahi,blo,bhi) b).map wd)<=ahi - (b.1+b.2.2):=by
   unfold kY
   split
   ·show wd _+0<=_
    unfold wd;dsimp only;exact zdk
   ·exact zD _
  exact z0e h1.1 h2.1 e1 e2
theorem yj{q:Nat×Nat×Nat×Nat}{b:Nat×Nat×Nat}:∀ p∈kJ q b,1<=wd p:=λp hp=>by
 unfold kJ at hp
 split at hp
 ·rw[y9] at hp
  subst hp
  rename_i z;exact Kn z.1
 ·nomatch hp
theorem xI{q:Nat×Nat×Nat×Nat}{b:Nat×Nat×Nat}:∀ p∈kY q b,1<=wd p:=λp hp=>by
 unfold kY at hp
 split at hp
 ·rw[y9] at hp
  subst hp
  rename_i z;exact Kn z.1
 ·nomatch hp
theorem o8{α:Type}(f:α->Nat):∀ (l:List α),(∀ a∈l,1<=f a)->l.length<=eU (l.map f):=by
 intro l
 induction l with
 | nil =>
  intro Z
  exact zk _
 | cons a l ih =>
  intro h
  have h1:=h a (.head _)
  have h2:=ih λb hb=>h b (aj hb)
  exact zdb h1 h2
theorem mJ(l:List (Nat×Nat×Nat×Nat)):eU (l.map λq=>2 * wd q+1)=2 * eU (l.map wd)+l.length:=by
 induction l with
 | nil=>rfl
 | cons a l ih =>
  exact zdc ih
structure Wn where
 a:zh
 q:Nat×Nat×Nat×Nat
structure Bk where
 a:zh
 b:Nat×Nat×Nat
noncomputable def cS(l:List Wn):List Value:=l.map λe=>.ref e.a
noncomputable def aI(l:List Bk):List Value:=l.map λe=>.ref e.a
theorem gJ(l:List Wn)(e:Wn):cS (l++[e])=cS l++[.ref e.a]:=by simp[cS]
theorem pM(l:List Wn):(cS l).length=l.length:=by simp[cS]
theorem cZ(l:List Bk)(e:Bk):aI (l++[e])=aI l++[.ref e.a]:=by simp[aI]
theorem aY(l:List Bk):(aI l).length=l.length:=by simp[aI]
def QOk(X:LO)(Qs:List Wn):Prop:=∀ e∈Qs,Ex4 λt1 t2 t3 t4=>(e.a,aG [.int e.q.1 t1,.int e.q.2.1 t2,.int e.q.2.2.1 t3,.int e.q.2.2.2 t4])∈X
def BOk(X:LO)(Bs:List Bk):Prop:=∀ e∈Bs,(Ex4 λdd t1 t2 t3=>(e.a,moO dd [.int e.b.1 t1,.int e.b.2.1 t2,.int e.b.2.2 t3])∈X)/\0<e.b.2.2
theorem QOk.mono{X X':LO}{Qs:List Wn}(h:QOk X Qs)(hs:∀ p∈X,p∈X'):QOk X' Qs:=λe he=>by obtain⟨a,b,c,d,m⟩:=h e he;exact⟨a,b,c,d,hs _ m⟩
theorem BOk.mono{X X':LO}{Bs:List Bk}(h:BOk X Bs)(hs:∀ p∈X,p∈X'):BOk X' Bs:=λe he=>by obtain⟨⟨a,b,c,d,m⟩,z⟩:=h e he;exact⟨⟨a,b,c,d,hs _ m⟩,z⟩
noncomputable abbrev gN(w:As)(L':zh):II:=Ah (yJ w.params) L' 231
noncomputable abbrev gmbW:List Cv:=aD (((aD (st2 pw 6 7))[5]?).getD AF)
noncomputable abbrev nmG (mbl q:zh) (n m:Nat) (t1 t2:AQ) (x:zh):LV:=[(yZ "matching_blocks", .ref mbl),(yZ "queue", .ref q),(yZ "la", .int n t1),(yZ "lb", .int m t2),(yZ "self", .ref x)]
section
variable{x q:zh}{T X:LO}{Ra Rb:LO}{led:Bool}{rows:List aW}{n nb:Nat}{Qs:List Wn}{Bs:List Bk}{e:Wn}
theorem tC(G:GK w hb)(hd:A.depth+3<zj)(hh:A.handled=none)
  (hx:(x,smO dx)∈T) (hdx:(dx,od)∈T) (hf:bH od (mf va vb mb fc (.ref d2) (.ref sj) sp))
  (hd2:(d2,o2)∈T) (ho2:o2.IsDictOf (Ap pw w) (rows.map aW.kv)) (hrows:cI lb rows) (hob:∀ r∈rows,r.ob∈T) (hsj:(sj,cJ led)∈T)
  (Va:SqV pw w hb tabs Ra va la) (Vb:SqV pw w hb tabs Rb vb lb) (hRa:∀ p∈Ra,p∈T) (hRb:∀ p∈Rb,p∈T)
  (S:St hb tabs L' (nmG mbl q n m t1 t2 x) ((q,ap (cS (Qs++[e])) nq)::(mbl,ap (aI Bs) nb)::(X++T)) s.heap) (hQ:QOk X (Qs++[e])) (hB:BOk X Bs) (he:mD la lb e.q) (hlQ:Qs.length<=1000) (hlB:Bs.length<=1000) {Q:FP}
  (k0:(flm la lb e.q.1 e.q.2.1 e.q.2.2.1 e.q.2.2.2).2.2=0->∀ s' X' nq',Kp s s'->St hb tabs L' (nmG mbl q n m t1 t2 x) ((q,ap (cS Qs) nq')::(mbl,ap (aI Bs) nb)::(X'++T)) s'.heap->QOk X' Qs->BOk X' Bs->Q .next s')
  (k1:(flm la lb e.q.1 e.q.2.1 e.q.2.2.1 e.q.2.2.2).2.2≠0->∀ s' X' nq' nb' mm (ls rs:List Wn),Kp s s'->St hb tabs L' (nmG mbl q n m t1 t2 x) ((q,ap (cS (Qs++ls++rs)) nq')::(mbl,ap (aI (Bs++[⟨mm,flm la lb e.q.1 e.q.2.1 e.q.2.2.1 e.q.2.2.2⟩])) nb')::(X'++T)) s'.heap ->
   QOk X' (Qs++ls++rs)->BOk X' (Bs++[⟨mm,flm la lb e.q.1 e.q.2.1 e.q.2.2.1 e.q.2.2.2⟩])->ls.map (·.q)=kJ e.q (flm la lb e.q.1 e.q.2.1 e.q.2.2.1 e.q.2.2.2)->rs.map (·.q)=kY e.q (flm la lb e.q.1 e.q.2.1 e.q.2.2.1 e.q.2.2.2)->Q .next s') :
  y7 (y6 pw w) (A.deeper (gN w L')) (z5 gmbW (gN w L')) Q E s:=by
 have hq0:=hQ e (y5 _ (.head _))
 obtain⟨u1,u2,u3,u4,hqm⟩:=hq0
 rw[gJ] at S
 have toT:∀ {p:zh×AR},p∈T->p∈X++T:=λh=>y5 _ h
 refine j6 (aV (ac S m1 (cL S m0 IJ PySem.F.type_list_pop (aH (zq (r_pop 0 S rfl (by simp[cS];exact hlQ) ?_))))))
 refine λam nq' af=>cH hh af (aj (aj (y8 _ hqm))) (λak ae=>aZ (aq ae (.new (by kernel_rfl)) ?_))
 refine λau S4=>aZ (aq S4 (.new (by kernel_rfl)) ?_)
 refine λax S5=>aZ (aq S5 (.new (by kernel_rfl)) ?_)
 refine λaz S6=>aZ (aq S6 (.new (by kernel_rfl)) ?_)
 refine λba S7=>cD (restate S7 λs7 K7 S7=>?_)
 replace K7:Kp s s7:=⟨K7.os,K7.gens⟩
 refine j4 (aV (ac S7 m8 (dM (f:=224) G S7 (aj (aj (toT hx))) (aj (aj (toT hdx))) hf (cR G (bl S7 m3 (bl S7 m2 (bl S7 m1 ?_)))))))
 refine bln S7 m0 ⟨⟨_,_,_,S7⟩,?_⟩
 refine flm_c G S7 (by show A.depth+1+2<_;exact hd) hh (aj (aj (toT hx))) (aj (aj (toT hdx))) hf (aj (aj (toT hd2))) ho2 hrows (λr hr=>aj (aj (toT (hob r hr)))) (aj (aj (toT hsj))) Va Vb (λp hp=>aj (aj (toT (hRa p hp)))) (λp hp=>aj (aj (toT (hRb p hp)))) he.a1 he.a2 he.b1 he.b2 (λmm dd s8 v1 v2 v3 K8 S8=>nO hh G S8 m0 (λbf S9=>aZ (aq S9 (.new (by kernel_rfl)) ?_)))
 refine λd5 S10=>aZ (aq S10 (.new (by kernel_rfl)) ?_)
 refine λcr S11=>aZ (aq S11 (.new (by kernel_rfl)) ?_)
 refine λcu S12=>cD (aU (aq S12 (.new (by kernel_rfl)) ?_))
 intro h13 S13
 have B:=cQ la lb e.q.1 e.q.2.1 e.q.2.2.1 e.q.2.2.2
 refine restate S13 λeg K13 S13=>?_
 replace K13:Kp s eg:=kt (kt K7 K8) K13
 clear S12 S11 S10 S9 S8 S7 S6 S5 S4 ae af
 generalize flm la lb e.q.1 e.q.2.1 e.q.2.2.1 e.q.2.2.2=b at *
 let lc:LV:=(yZ "x", .ref mm)::(yZ "k", .int b.2.2 v3)::(yZ "j", .int b.2.1 v2)::(yZ "i", .int b.1 v1)::(yZ "bhi", .int e.q.2.2.2 u4)::(yZ "blo", .int e.q.2.2.1 u3)::(yZ "ahi", .int e.q.2.1 u2)::(yZ "alo", .int e.q.1 u1)::nmG mbl q n m t1 t2 x
 replace S13:St hb tabs L' lc _ _:=S13
 have hB0:QOk X Qs:=λe he=>hQ e (y8 _ he)
 have blo:=B.lo
 refine lQ (B3 (ac S13 m1 (JR ⟨λhk=>?_,λhk=>?_⟩)))
 ·have hk:b.2.2≠0:=λq=>by rw[q] at hk;exact absurd hk (by decide)
  refine bR (aV (ac S13 m8 (cL S13 m2 By CP (aH (bln S13 m0 (cA 2 S13 rfl ?_ (by rw[aY];exact up 9000 hlB)))))))
  intro h14 S14
  replace S14:=S14.perm (T':=(q,ap (cS Qs) nq')::(mbl,ap (aI (Bs++[⟨mm,b⟩])) (nb+1))::(((mm,moO dd [.int b.1 v1,.int b.2.1 v2,.int b.2.2 v3])::X)++T)) (by
   rw[cZ]
   exact rM)
  have hX:∀ p∈X,p∈(mm,moO dd [.int b.1 v1,.int b.2.1 v2,.int b.2.2 v3])::X:=λp hp=>aj hp
  have hBn:BOk ((mm,moO dd [.int b.1 v1,.int b.2.1 v2,.int b.2.2 v3])::X) (Bs++[⟨mm,b⟩]):=λe' he'=>by
   rcases zf.mp he' with z|z
   ·exact (hB.mono hX) e' z
   ·rw[y9] at z
    subst z
    exact⟨⟨dd,v1,v2,v3,.head _⟩,Nat.pos_of_ne_zero hk⟩
  have hQn:=hB0.mono hX
  generalize hX0:(mm,moO dd [.int b.1 v1,.int b.2.1 v2,.int b.2.2 v3])::X=du at *
  refine restate S14 λcx K14 S14=>?_
  replace K14:Kp s cx:=kt K13 K14
  let P:zc->Prop:=λag=>Ex3 λX' nq'' ls=>An5 (Kp s ag) (St hb tabs L' lc
   ((q,ap (cS (Qs++ls)) nq'')::(mbl,ap (aI (Bs++[⟨mm,b⟩])) (nb+1))::(X'++T)) ag.heap) ((∀ p∈du,p∈X')) (QOk X' (Qs++ls)) (ls.map (·.q)=kJ e.q b)
  refine k8 P ?_ ?_
  ·have no:¬ (e.q.1<b.1/\e.q.2.2.1<b.2.1)->Ex3 λX' nq'' ls=>An5 (Kp s cx) (St hb tabs L' lc
     ((q,ap (cS (Qs++ls)) nq'')::(mbl,ap (aI (Bs++[⟨mm,b⟩])) (nb+1))::(X'++T)) cx.heap) ((∀ p∈du,p∈X')) (QOk X' (Qs++ls)) (ls.map (·.q)=kJ e.q b):=λhn =>
    ⟨du,nq',[],K14,by rw[Aq];exact S14,λp hp=>hp,by rw[Aq];exact hQn,by unfold kJ;rw[if_neg hn];rfl⟩
   refine cC (wpAny_isTrue_Compare1 (ac S14 m7 (ac S14 m3 (GS (zb ⟨λhb'=>?_,λhb'=>⟨nofun,λZ=>?_⟩⟩)))))
   ·have c1:=of_decide_eq_true hb'
    refine cC (wpAny_isTrue_Compare1 (ac S14 m5 (ac S14 m2 (GS (zb ⟨λhb'=>?_,λhb'=>⟨nofun,λZ=>?_⟩⟩)))))
    ·have c2:=of_decide_eq_true hb'
     refine GU ⟨λZ=>?_,nofun⟩
     refine bR (aV (ac S14 m9 (cL S14 m0 By CP (aH (args_cons (bP (bl S14 m7 ?_)))))))
     refine bl S14 m3 (bl S14 m5 (bln S14 m2 ⟨rfl,_,_,_,_,_,S14,?_⟩))
     refine λtt h15 S15=>zq (cA 1 S15 rfl ?_ (by rw[pM];exact up 9000 hlQ))
     refine λh16 S16=>aE ⟨rfl,(tt,aG [.int e.q.1 u1,.int b.1 v1,.int e.q.2.2.1 u3,.int b.2.1 v2])::du,nq'+1,[⟨tt,(e.q.1,b.1,e.q.2.2.1,b.2.1)⟩],⟨K14.os,K14.gens⟩,?_,λp hp=>aj hp,?_,?_⟩
     ·refine S16.perm ?_
      rw[gJ]
      exact rM
     ·intro e' he'
      rcases zf.mp he' with z|z
      ·exact (hQn.mono λp hp=>aj hp) e' z
      ·rw[y9] at z
       subst z
       exact⟨_,_,_,_,.head _⟩
     ·unfold kJ
      rw[if_pos ⟨Dn.mp c1,Dn.mp c2⟩];rfl
    ·have c2:=of_decide_eq_false hb'
     exact aE ⟨rfl,no (z7v hb')⟩
   ·have c1:=of_decide_eq_false hb'
    exact aE ⟨rfl,no (z7w hb')⟩
  ·rintro s15 ⟨X',nq'',ls,K15,S15,hX',hQ',hls⟩
   have hB':=hBn.mono hX'
   have hll:ls.length<=1:=by
    have:=congrArg CE hls
    rw[ze] at this
    rw[this]
    unfold kJ
    split<;> simp
   let P:zc->Prop:=λag=>Ex3 λX'' nq'' rs=>An5 (Kp s ag) (St hb tabs L' lc
    ((q,ap (cS (Qs++ls++rs)) nq'')::(mbl,ap (aI (Bs++[⟨mm,b⟩])) (nb+1))::(X''++T)) ag.heap) ((∀ p∈X',p∈X'')) (QOk X'' (Qs++ls++rs)) (rs.map (·.q)=kY e.q b)
   refine k8 P ?_ ?_
   ·have no:¬ (b.1+b.2.2<e.q.2.1/\b.2.1+b.2.2<e.q.2.2.2)->∀ tk,Ex3 λX'' nq'' rs=>An5 (Kp s (wt s15 tk)) (St hb tabs L' lc
      ((q,ap (cS (Qs++ls++rs)) nq'')::(mbl,ap (aI (Bs++[⟨mm,b⟩])) (nb+1))::(X''++T)) s15.heap) ((∀ p∈X',p∈X'')) (QOk X'' (Qs++ls++rs)) (rs.map (·.q)=kY e.q b):=λhn tk =>
     ⟨X',nq'',[],⟨K15.os,K15.gens⟩,by rw[Aq];exact S15,λp hp=>hp,by rw[Aq];exact hQ',by unfold kY;rw[if_neg hn];rfl⟩
    refine cC (wpAny_isTrue_Compare1 (wpAny_BinOp (ac S15 m3 (ac S15 m1 (CT (ac S15 m6 (GS ?_)))))))
    refine zb ⟨λhb'=>?_,λhb'=>⟨nofun,λZ=>?_⟩⟩
    ·have c1:=of_decide_eq_true hb'
     refine cC (wpAny_isTrue_Compare1 (wpAny_BinOp (ac S15 m2 (ac S15 m1 (CT (ac S15 m4 (GS ?_)))))))
     refine zb ⟨λhb'=>?_,λhb'=>⟨nofun,λZ=>?_⟩⟩
     ·have c2:=of_decide_eq_true hb'
      refine GU ⟨λZ=>?_,nofun⟩
      have ea:((b.1:Int)+(b.2.2:Int))=((b.1+b.2.2:Nat):Int):=z0x
      have eb:((b.2.1:Int)+(b.2.2:Int))=((b.2.1+b.2.2:Nat):Int):=z0x
      refine bR (aV (ac S15 m9 (cL S15 m0 By CP (aH (args_cons (bP (args_cons ?_)))))))
      refine wpAny_BinOp (ac S15 m3 (ac S15 m1 (CT (bl S15 m6 (args_cons (wpAny_BinOp (ac S15 m2 ?_)))))))
      refine ac S15 m1 (CT (bln S15 m4 ⟨rfl,_,_,_,_,_,S15,?_⟩))
      intro tt h16 S16
      obtain⟨w1,w2,S16⟩:Ex2 λw1 w2=>St hb tabs L' _ ((tt,aG [.int (b.1+b.2.2:Nat) w1,.int e.q.2.1 u2,.int (b.2.1+b.2.2:Nat) w2,.int e.q.2.2.2 u4])::(q,ap (cS (Qs++ls)) nq'')::(mbl,ap (aI (Bs++[⟨mm,b⟩])) (nb+1))::(X'++T)) h16:=⟨_,_,S16⟩
      refine zq (cA 1 S16 rfl ?_ (by simp[cS];exact z7x hlQ hll))
      refine λh17 S17=>aE ⟨rfl,(tt,aG [.int (b.1+b.2.2:Nat) w1,.int e.q.2.1 u2,.int (b.2.1+b.2.2:Nat) w2,.int e.q.2.2.2 u4])::X',nq''+1,[⟨tt,(b.1+b.2.2,e.q.2.1,b.2.1+b.2.2,e.q.2.2.2)⟩],⟨K15.os,K15.gens⟩,?_,λp hp=>aj hp,?_,?_⟩
      ·refine S17.perm ?_
       rw[gJ]
       exact rM
      ·intro e' he'
       rcases zf.mp he' with z|z
       ·exact (hQ'.mono λp hp=>aj hp) e' z
       ·rw[y9] at z
        subst z
        exact⟨_,_,_,_,.head _⟩
      ·unfold kY
       rw[if_pos ⟨z76 (decide_eq_true c1),z76 (decide_eq_true c2)⟩];rfl
     ·have c2:=of_decide_eq_false hb'
      exact aE ⟨rfl,no (z7y hb') _⟩
    ·have c1:=of_decide_eq_false hb'
     exact aE ⟨rfl,no (z7z hb') _⟩
   ·rintro s16 ⟨X'',nq3,rs,K16,S16,hX'',hQ'',hrs⟩
    refine aE (aE (k1 hk s16 X'' nq3 (nb+1) mm ls rs K16 ?_ hQ'' (hB'.mono hX'') hls hrs))
    exact S16.forget (.cons _ (.cons _ (.cons _ (.cons _ (.cons _ (.cons _ (.cons _ (.cons _ (Al _)))))))))
 ·have hk:b.2.2=0:=by simpa using hk
  refine aE (aE (k0 hk eg ((mm,moO dd [.int b.1 v1,.int b.2.1 v2,.int b.2.2 v3])::X) nq' K13 ?_ (hB0.mono λp hp=>aj hp) (hB.mono λp hp=>aj hp)))
  exact (S13.forget (.cons _ (.cons _ (.cons _ (.cons _ (.cons _ (.cons _ (.cons _ (.cons _ (Al _)))))))))).perm (rM)
end
noncomputable def dS(Bs:List Bk):Nat:=eU (Bs.map λe=>e.b.2.2)
noncomputable def qs(Qs:List Wn):List (Nat×Nat×Nat×Nat):=Qs.map (·.q)
section
variable{x q:zh}{T X:LO}{Ra Rb:LO}{led:Bool}{rows:List aW}{n nb M:Nat}{Qs:List Wn}{Bs:List Bk}{e:Wn}
theorem qK(G:GK w hb)(hd:A.depth+3<zj)(hh:A.handled=none)
  (hx:(x,smO dx)∈T) (hdx:(dx,od)∈T) (hf:bH od (mf va vb mb fc (.ref d2) (.ref sj) sp))
  (hd2:(d2,o2)∈T) (ho2:o2.IsDictOf (Ap pw w) (rows.map aW.kv)) (hrows:cI lb rows) (hob:∀ r∈rows,r.ob∈T) (hsj:(sj,cJ led)∈T)
  (Va:SqV pw w hb tabs Ra va la) (Vb:SqV pw w hb tabs Rb vb lb) (hRa:∀ p∈Ra,p∈T) (hRb:∀ p∈Rb,p∈T)
  (S:St hb tabs L' (nmG mbl q n m t1 t2 x) ((q,ap (cS [e]) nq)::(mbl,ap (aI []) nb)::(X++T)) s.heap) (hQ:QOk X [e]) (he:mD la lb e.q) {Q:FP}
  (k:∀ s' X' Bs' nq' nb',Kp s s'->St hb tabs L' (nmG mbl q n m t1 t2 x) ((q,ap [] nq')::(mbl,ap (aI Bs') nb')::(X'++T)) s'.heap->BOk X' Bs'->dS Bs'=mt la lb e.q->Bs'.length<=la.length ->
   y7 (y6 pw w) (A.deeper (gN w L')) (z5 ((aD (st2 pw 6 7)).drop 6) (gN w L')) Q E s') :
  y7 (y6 pw w) (A.deeper (gN w L')) (z5 ((aD (st2 pw 6 7)).drop 5) (gN w L')) Q E s:=by
 have hsa:=Va.small
 let P:zc->Prop:=λs'=>Ex4 λX' Bs' nq' nb'=>An5 (Kp s s') (St hb tabs L' (nmG mbl q n m t1 t2 x) ((q,ap [] nq')::(mbl,ap (aI Bs') nb')::(X'++T)) s'.heap) (BOk X' Bs') (dS Bs'=mt la lb e.q) (Bs'.length<=la.length)
 let H:Nat->zc->Prop:=λN s'=>Ex5 λQs Bs X nq nb=>An9 (N=eU ((qs Qs).map λq=>2 * wd q+1)) (Kp s s') (St hb tabs L' (nmG mbl q n m t1 t2 x) ((q,ap (cS Qs) nq)::(mbl,ap (aI Bs) nb)::(X++T)) s'.heap) (QOk X Qs) (BOk X Bs) ((∀ p∈qs Qs,mD la lb p)) (dS Bs+eU ((qs Qs).map (mt la lb))=mt la lb e.q) (dS Bs+eU ((qs Qs).map wd)<=la.length) (((∀ p∈qs Qs,1<=wd p)\/Qs.length<=1))
 refine qc P
  H
  _ ⟨[e],[],X,nq,nb,rfl,⟨rfl,id⟩,S,hQ,λe he=>(nomatch he),λp hp=>?_,?_,?_,.inr (zk _)⟩ ?_ ?_
 ·rw[show p=e.q by simpa [qs] using hp];exact he
 ·show 0+(mt la lb e.q+0)=_;exact z80
 ·show 0+(wd e.q+0)<=_
  have:=he.a2
  unfold wd;exact z81 this
 ·rintro E' N s' ⟨Qs,Bs,X,nq,nb,rfl,hKp,S,hQ,hB,hW,hM,hL,hlen⟩
  have hBl:Bs.length<=dS Bs:=o8 (λe:Bk=>e.b.2.2) Bs λb hb'=>(hB b hb').2
  have hQl:Qs.length<=61:=by
   rcases hlen with q|q
   ·have:=o8 wd (qs Qs) q
    have e2:(qs Qs).length=Qs.length:=by simp[qs]
    exact z82 hsa hL this e2
   ·exact up 60 q
  refine B3 (ac S m1 (mP S m0 (by simp[cS];exact up 939 hQl) λtk=>⟨λhb'=>?_,λhb'=>?_⟩))
  ·have hne:Qs≠[]:=λq=>by rw[q] at hb';exact absurd hb' (by decide)
   obtain⟨Qs',e',rfl⟩:Ex2 λQs' e'=>Qs=Qs'++[e']:=⟨Qs.dropLast,Qs.getLast hne,(List.dropLast_concat_getLast hne).symm⟩
   have eq:qs (Qs'++[e'])=qs Qs'++[e'.q]:=by simp[qs]
   rw[eq] at hW hM hL hlen
   have hWe:=hW e'.q (y5 _ (.head _))
   rw[zG,aR] at hM hL
   have e1:eU ([e'.q].map (mt la lb))=mt la lb e'.q:=rfl
   have e2:eU ([e'.q].map wd)=wd e'.q:=rfl
   rw[e1] at hM
   rw[e2] at hL
   simp only[zO,Ef] at hQl
   refine tC (X:=X) G hd hh hx hdx hf hd2 ho2 hrows hob hsj Va Vb hRa hRb (by exact S) hQ hB hWe (by exact z85 hQl) (by exact z86 hsa hBl hL) ?_ ?_
   ·refine λhz ag X' nq' ao af hQ2 hB2=>⟨_,?_,Qs',Bs,X',nq',nb,rfl,(kt hKp ao),af,hQ2,hB2,λp hp=>hW p (y8 _ hp),?_,by exact z87 hL,?_⟩
    ·rw[eq,zG,aR]
     exact z88
    ·rw[wi hz] at hM;exact hM
    ·rcases hlen with q|q
     ·exact .inl λp hp=>q p (y8 _ hp)
     ·right
      have:Qs'=[]:=by simpa using q
      rw[this];simp
   ·intro hz ag X' nq' nb' mm ls rs ao af hQ2 hB2 hls hrs
    obtain⟨hs1,hs2,hs3⟩:=vA hWe hz
    have hst:=wl hWe hz
    have eq2:qs (Qs'++ls++rs)=qs Qs'++kJ e'.q (flm la lb e'.q.1 e'.q.2.1 e'.q.2.2.1 e'.q.2.2.2)++kY e'.q (flm la lb e'.q.1 e'.q.2.1 e'.q.2.2.1 e'.q.2.2.2):=by
     rw[<- hls,<- hrs];simp[qs]
    have hsB:dS (Bs++[⟨mm,flm la lb e'.q.1 e'.q.2.1 e'.q.2.2.1 e'.q.2.2.2⟩])=dS Bs+(flm la lb e'.q.1 e'.q.2.1 e'.q.2.2.1 e'.q.2.2.2).2.2:=by
     unfold dS;rw[zG,aR];rfl
    refine⟨_,?_,Qs'++ls++rs,_,X',nq',nb',rfl,(kt hKp ao),af,hQ2,hB2,λp hp=>?_,?_,?_,?_⟩
    ·have hl1:ls.length<=1:=by
      have:=congrArg CE hls
      rw[ze] at this
      rw[this];unfold kJ;split<;> simp
     have hr1:rs.length<=1:=by
      have:=congrArg CE hrs
      rw[ze] at this
      rw[this];unfold kY;split<;> simp
     rw[eq,mJ,mJ,eq2,zG,zG,zG,aR,aR,aR,e2]
     have hl2:=congrArg CE hls
     have hr2:=congrArg CE hrs
     rw[ze] at hl2 hr2
     simp only[zO,Ef]
     exact z8a hz hs3 hl1 hr1 hl2 hr2
    ·rw[eq2] at hp
     rcases zf.mp hp with z|z
     ·rcases zf.mp z with z|z
      ·exact hW p (y8 _ z)
      ·exact hs1 p z
     ·exact hs2 p z
    ·rw[hsB,eq2,zG,zG,aR,aR];exact z8b hM hst
    ·rw[hsB,eq2,zG,zG,aR,aR];exact z8c hL hs3
    ·left
     intro p hp
     rw[eq2] at hp
     rcases zf.mp hp with z|z
     ·rcases zf.mp z with z|z
      ·rcases hlen with q|q
       ·exact q p (y8 _ z)
       ·rw[zO] at q
        have:Qs'=[]:=by simpa using q
        rw[this] at z;nomatch z
      ·exact yj p z
     ·exact xI p z
  ·have hne:Qs=[]:=by
    cases Qs with
    | nil=>rfl
    | cons a l=>exact absurd hb' (by simp[cS])
   subst hne
   refine⟨X,Bs,nq,nb,⟨hKp.os,hKp.gens⟩,S,hB,z8d hM (show eU ((qs []).map (mt la lb))=0 from rfl),by exact z8e hBl hL⟩
 ·rintro s' ⟨X',Bs',nq',nb',K',S',hB',hM,hl⟩
  exact k s' X' Bs' nq' nb' K' S' hB' hM hl
end
section
variable{m:zh}{l:LV}{T:LO}{vs:List Value}
theorem yd (w:As):I0 (KN w.params) (.ref 163) "__len__" = some (some (.builtin "tuple.__len__")):=by kernel_rfl
theorem om (w:As):I0 (KN w.params) (.ref 163) "__getitem__" = some (some (.builtin "tuple.__getitem__")):=by kernel_rfl
theorem rR:FT "tuple.__len__" = true:=by decide +kernel
theorem vi:Eo "tuple.__len__" = some .slot:=by decide +kernel
theorem rQ:M9 "tuple.__len__" = some ("tuple", "__len__"):=by decide +kernel
theorem rY:FT "tuple.__getitem__" = true:=by decide +kernel
theorem vo:Eo "tuple.__getitem__" = some .slot:=by decide +kernel
theorem rX:M9 "tuple.__getitem__" = some ("tuple", "__getitem__"):=by decide +kernel
theorem wq:findCls (KN w.params) (.ref 163) (.type "type") (yZ "_make")=some (.get (.builtin "classmethod.__get__") (.ref 119) .none (.ref 163)):=by kernel_rfl
theorem xK:recIn (KN w.params) 119 "classmethod" = some [.ref 117,.bool false]:=by kernel_rfl
theorem xS{Q:VP}(G:GK w hb)(S:St hb tabs L l T s.heap)(h:∀ u h',St hb tabs L l ((u,MZ (.ref 117) (.ref 163))::T) h'->Q (.ref u) (wht s h' (s.toks+1))) :
  y7 (y6 pw w) A (Hb (.ref 163) (yZ "_make") true) Q E s:=by
 have X:=S.kin G
 refine cls_bind X uK wq (BU (cm_get (s:=(wt s (s.toks+1))) X xK ?_))
 exact MY rfl (h _ _ (S.push _))
theorem qD{Q:VP}(G:GK w hb)(S:St hb tabs L l T s.heap)(hm:(m,moO dd vs)∈T)(hz:vs.length<=1000)(h:∀ t tk,Q (.int vs.length t) (wt s tk)) :
  y7 (y6 pw w) A (call (.builtin "len") [.ref m]) Q E s:=by
 have X:=S.kin G
 have t1:Cy (y6 pw w) s.heap (Dc (.ref m)) (.ref 163):=(Looks.ld (S.obj _ hm)).andThen .now
 have t2:Cy (y6 pw w) s.heap (B9 (.ref m) (.type "tuple")) true:=t1.andThen (jF X)
 have t3:Cy (y6 pw w) s.heap (EG (.ref m) "__len__") (some (.builtin "tuple.__len__")):=t1.andThen (DP X (yd w))
 refine Calls.call_function_entry kind_len plain_len entry_len (args_len1 _) (y0 (m:=oneArg "len" _) (y4 ?_))
 refine y0 (m:=Ki (.ref m) (yZ "__len__")) (y0 (t3.here (zs ?_)))
 refine y0 (y4 ?_)
 refine y0 (BU (Cr rR PySem.F.entry_tuple_len (@GR (y6 pw w) _ _ _ "tuple.__len__" "tuple" "__len__" (.ref m) [] [] _ vi rQ t2 (PySem.F.args_tuple_len_1 _) ?_)))
 refine y0 (m:=Eu (.ref m)) (y0 (zy (S.obj _ hm) rfl (y4 ?_)))
 refine y0 (wpAny_mkInt (y4 ?_))
 refine y4 (y0 (zs (y4 ?_)))
 refine y0 (DI ?_)
 have e:((vs.toArray.size:Nat):Int)=(vs.length:Int):=by rw[zg]
 refine E4 (λhab=>absurd hab zbg) (λZ=>?_)
 refine E4 (λhab=>absurd hab (by rw[e];lia)) (λZ=>?_)
 exact y0 (wpAny_mkInt (y4 ⟨_,rfl,h _ _⟩))
theorem yg{a b c:Value}(G:GK w hb)(S:St hb tabs L l T s.heap)(hd:A.depth<zj)(ht:(t,aG [a,b,c])∈T)
  (k:∀ m dd s',Kp s s'->St hb tabs L l ((m,moO dd [a,b,c])::T) s'.heap->R (.ok (.ret (.ref m))) s') :
  zW (y6 pw w) A (.call (.ref 117) ⟨[.ref 163,.ref t],[]⟩) R s:=by
 refine dR G S (lk117 _) hd (binds:=[(yZ "cls", .ref 163),(yZ "iterable", .ref t)]) (body:=aD (st2 pw 4 5)) (Ba (by kernel_rfl)) (λL' ai oL r S'=>eZ (aC (aV (cN G S' jN (nx (S'.kin G) (aH (bl S' m0 (bln S' m1 ?_))))))))
 refine BU (nL G S' (aj ht) (by simp) ?_)
 refine λm dd ak ae=>aq ae (.new (by kernel_rfl)) (λau S4=>dB (jM G S4 B5 (bln S4 m0 (qD G S4 m0 (by simp) ?_))))
 refine λb7 br=>wpAny_Constant_int (ne_int (zb ⟨nofun,λZ=>?_⟩))
 exact aE (cO (ac S4 m0 (k _ _ _ ⟨rfl,id⟩ (S4.leave 1 rfl r))))
end
def NOk(X:LO)(Ns:List Bk):Prop:=∀ e∈Ns,Ex3 λt1 t2 t3=>(e.a,aG [.int e.b.1 t1,.int e.b.2.1 t2,.int e.b.2.2 t3])∈X
def MOk(X:LO)(Ms:List Bk):Prop:=∀ e∈Ms,Ex4 λdd t1 t2 t3=>(e.a,moO dd [.int e.b.1 t1,.int e.b.2.1 t2,.int e.b.2.2 t3])∈X
theorem NOk.mono{X X':LO}{Qs:List Bk}(h:NOk X Qs)(hs:∀ p∈X,p∈X'):NOk X' Qs:=λe he=>by obtain⟨a,b,c,m⟩:=h e he;exact⟨a,b,c,hs _ m⟩
theorem MOk.mono{X X':LO}{Qs:List Bk}(h:MOk X Qs)(hs:∀ p∈X,p∈X'):MOk X' Qs:=λe he=>by obtain⟨a,b,c,d,m⟩:=h e he;exact⟨a,b,c,d,hs _ m⟩
theorem BOk.toM{X:LO}{Bs:List Bk}(h:BOk X Bs):MOk X Bs:=λe he=>(h e he).1
theorem cY(l:List Bk)(e:Bk):dS (l++[e])=dS l+e.b.2.2:=by unfold dS;rw[zG,aR];rfl
noncomputable abbrev nmM (na:zh) (b:Nat×Nat×Nat) (ti tj tk:AQ) (l:LV):LV:=(yZ "non_adjacent", .ref na)::(yZ "k1", .int b.2.2 tk)::(yZ "j1", .int b.2.1 tj)::(yZ "i1", .int b.1 ti)::l
noncomputable abbrev uN:List Cv:=aD (((aD (st2 pw 6 7))[9]?).getD AF)
noncomputable def mrT:Expr:=(stP (((aD (st2 pw 6 7))[9]?).getD AF)).2.2.2.2
noncomputable def mrO:List Cv:=orB ((uN[0]?).getD AF)
section
variable{x q na:zh}{T X:LO}{n nn:Nat}{Ns:List Bk}{b:Nat×Nat×Nat}{e:Bk}
theorem oo(G:GK w hb)(hh:A.handled=none)
  (S:St hb tabs L' (nmM na b ti tj tk (nmG mbl q n m t1 t2 x)) ((na,ap (aI Ns) nn)::(X++T)) s.heap) (hN:NOk X Ns) (he:MOk T [e]) (hl:Ns.length<=1000) {Q:FP}
  (k:∀ s' X' nn' Ns' b' ti tj tk,Kp s s'->St hb tabs L' (nmM na b' ti tj tk (nmG mbl q n m t1 t2 x)) ((na,ap (aI Ns') nn')::(X'++T)) s'.heap->NOk X' Ns'->dS Ns'+b'.2.2=dS Ns+b.2.2+e.b.2.2->Ns'.length<=Ns.length+1->Q .next s')
  {tgt:Expr} (htg:tgt=mrT) :
  y7 (y6 pw w) (A.deeper (gN w L')) (BR tgt (gN w L') (.ref e.a)) (λZ ag=>y7 (y6 pw w) (A.deeper (gN w L')) (z5 uN (gN w L')) Q E ag) E s:=by
 obtain⟨dd,u1,u2,u3,hem⟩:=he e (.head _)
 subst htg
 refine nO hh G S (aj (y5 _ hem)) (λam af=>aZ (aq af (.new (by kernel_rfl)) ?_))
 refine λak ae=>aZ (aq ae (.new (by kernel_rfl)) ?_)
 refine λau S4=>aZ (aq S4 (.new (by kernel_rfl)) ?_)
 refine λax S5=>cD (restate S5 λs5 K5 S5=>?_)
 replace K5:Kp s s5:=⟨K5.os,K5.gens⟩
 have els:∀ (s6:zc) {Q':FP}{E':VP},Kp s s6->St hb tabs L' ((yZ "k2", .int e.b.2.2 u3)::(yZ "j2", .int e.b.2.1 u2)::(yZ "i2", .int e.b.1 u1)::nmM na b ti tj tk (nmG mbl q n m t1 t2 x)) ((na,ap (aI Ns) nn)::(X++T)) s6.heap ->
   (∀ s',(Ex7 λX' nn' Ns' b' ti tj tk=>An5 (Kp s s') (St hb tabs L' (nmM na b' ti tj tk (nmG mbl q n m t1 t2 x)) ((na,ap (aI Ns') nn')::(X'++T)) s'.heap) (NOk X' Ns') (dS Ns'+b'.2.2=dS Ns+b.2.2+e.b.2.2) (Ns'.length<=Ns.length+1))->Q' .next s') ->
   y7 (y6 pw w) (A.deeper (gN w L')) (z5 mrO (gN w L')) Q' E' s6:=by
  intro s6 Q' E' K6 S6 hq
  let P:zc->Prop:=λs7=>Ex3 λX' nn' Ns'=>An5 (Kp s s7) (St hb tabs L' ((yZ "k2", .int e.b.2.2 u3)::(yZ "j2", .int e.b.2.1 u2)::(yZ "i2", .int e.b.1 u1)::nmM na b ti tj tk (nmG mbl q n m t1 t2 x)) ((na,ap (aI Ns') nn')::(X'++T)) s7.heap) (NOk X' Ns') (dS Ns'=dS Ns+b.2.2) (Ns'.length<=Ns.length+1)
  refine k8 P ?_ ?_
  ·refine B3 (ac S6 m4 (JR ⟨λhk=>?_,λhk=>?_⟩))
   ·refine bR (aV (ac S6 m3 (cL S6 m0 By CP (aH (args_cons (bP (bl S6 m6 ?_)))))))
    refine bl S6 m5 (bln S6 m4 ⟨rfl,_,_,_,_,_,S6,?_⟩)
    refine λtt ba S7=>zq (cA 1 S7 rfl ?_ (by rw[aY];exact up 9000 hl))
    refine λbc S8=>aE ⟨rfl,(tt,aG [.int b.1 ti,.int b.2.1 tj,.int b.2.2 tk])::X,nn+1,Ns++[⟨tt,b⟩],⟨K6.os,K6.gens⟩,?_,?_,cY _ _,by simp⟩
    ·rw[cZ]
     exact S8.perm ((z8 _ _ _))
    ·intro e' he'
     rcases zf.mp he' with z|z
     ·exact (hN.mono λp hp=>aj hp) e' z
     ·rw[y9] at z
      subst z
      exact⟨_,_,_,.head _⟩
   ·have hk0:b.2.2=0:=by simpa using hk
    exact aE ⟨rfl,X,nn,Ns,K6,S6,hN,by exact z07 hk0,by exact z08⟩
  ·rintro s7 ⟨X',nn',Ns',K7,S7,hN',hs',hl'⟩
   refine eM [yZ "i1", yZ "j1", yZ "k1"] (bl S7 m2 (bl S7 m1 (bln S7 m0 ⟨rfl,rfl,hh,_,_,_,_,_,S7,?_⟩)))
   exact λbc S8=>cU S8 (.old (.there (.there (.there (.there .here))))) (λbf S9=>cU S9 (.old (.there (.there (.there (.there (.there .here)))))) (λd5 S10=>cU S10 (.old (.there (.there (.there (.there (.there (.there .here))))))) (λcr S11=>eQ (aE (hq _ ⟨X',nn',Ns',e.b,u1,u2,u3,⟨K7.os,K7.gens⟩,S11.forget (.cons _ (.cons _ (.cons _ (Al _)))),hN',by exact z09 hs',hl'⟩)))))
 refine lQ (cC (wpAny_isTrue_Compare1 (wpAny_BinOp (ac S5 m6 (ac S5 m4 (CT (ac S5 m2 ?_)))))))
 refine eq_int (zb ⟨λhb'=>?_,λhb'=>⟨nofun,λZ=>?_⟩⟩)
 ·refine cC (wpAny_isTrue_Compare1 (wpAny_BinOp (ac S5 m5 (ac S5 m4 (CT (ac S5 m1 (eq_int ?_)))))))
  refine zb ⟨λhb'=>?_,λhb'=>⟨nofun,λZ=>?_⟩⟩
  ·refine GU ⟨λZ=>?_,nofun⟩
   refine xZ (xT S5 m4 (ac S5 m0 (iadd_int (aq S5 (.old (.there (.there (.there (.there .here))))) ?_))))
   refine λaz S6=>aE (aE ?_)
   have S7:=S6.forget (.cons _ (.cons _ (.cons _ (Al _))))
   exact k _ X nn Ns (b.1,b.2.1,b.2.2+e.b.2.2) ti tj _ ⟨K5.os,K5.gens⟩ S7 hN (by show dS Ns+(b.2.2+e.b.2.2)=_;exact z0a) z08
  ·refine els _ ⟨K5.os,K5.gens⟩ S5 ?_
   rintro s' ⟨X',nn',Ns',b',ti',tj',tk',K',S',hN',hs',hl'⟩
   exact aE (k s' X' nn' Ns' b' ti' tj' tk' K' S' hN' hs' hl')
 ·refine els _ ⟨K5.os,K5.gens⟩ S5 ?_
  rintro s' ⟨X',nn',Ns',b',ti',tj',tk',K',S',hN',hs',hl'⟩
  exact aE (k s' X' nn' Ns' b' ti' tj' tk' K' S' hN' hs' hl')
end
theorem n6{α:Type}(l:List α)(d:α):(zQ l.length).map (λi=>l.getD i d)=l:=by
 apply Cx
 intro i
 rw[zE]
 by_cases h:i<l.length
 ·rw[List.getElem?_range h];simp[h]
 ·rw[zT (by rw[Ca];exact z0c h),zT (by exact z0c h)];rfl
theorem perm_of{α:Type}{l:List α}{d:α}{p:Array Nat}(hp:Pm l.length p):(p.toList.map λi=>l.getD i d).Perm l:=by
 have h:=(Dd.mp hp).map (λi=>l.getD i d)
 rw[Jx,n6] at h
 exact h
theorem ql{α:Type}(f:α->Value){l:List α}{d:α}{v:Value}{p:Array Nat}(hp:Pm l.length p):(p.toList.map λi=>(l.map f).getD i v)=(p.toList.map λi=>l.getD i d).map f:=by
 rw[CR]
 apply List.map_congr_left
 intro i hi
 have hlt:i<l.length:=by
  have:=(Dd.mp hp).mem_iff.mp hi
  simpa using this
 simp[hlt]
theorem o7{l r:List Nat}(h:l.Perm r):eU l=eU r:=by
 induction h with
 | nil=>rfl
 | cons a _ ih=>show a+eU _=a+eU _;rw[ih]
 | swap a b l=>show b+(a+eU l)=a+(b+eU l);exact z0b
 | trans _ _ ih1 ih2=>rw[ih1,ih2]
section
variable{x q na:zh}{T X:LO}{nb nn:Nat}{Bs Ns:List Bk}{oq:AR}{l:LV}
theorem tD(G:GK w hb)(hu:A.units+1<AB)(S:St hb tabs L' l ((q,oq)::(mbl,ap (aI Bs) nb)::T) s.heap)(hB:MOk T Bs)(h64:Bs.length<64){Q:VP}
  (k:∀ s' Bs' nb',Kp s s'->Bs'.Perm Bs->St hb tabs L' l ((q,oq)::(mbl,ap (aI Bs') nb')::T) s'.heap->Q .none s'):y7 (y6 pw w) A (call (.builtin "list.sort") [.ref mbl]) Q E s:=by
 by_cases h2:2<=Bs.length
 ·refine xO (pre:=[(q,oq)]) (post:=T) (Tt:=.ref 163) (H:=False) (rk:=λZ=>0) S (by rw[aY];exact h2) (by rw[aY];exact h64) ?_ rfl (by kernel_rfl) ?_ ?_
  ·intro v hv
   obtain⟨e,he,rfl⟩:=zd.mp hv
   obtain⟨dd,t1,t2,t3,hm⟩:=hB e he
   exact⟨e.a,_,rfl,y5 _ hm,rfl⟩
  ·intro s' e1 K' S' i j hi hj C hC
   rw[aY] at hi hj
   have gi:(aI Bs).getD i .none=.ref (Bs[i]).a:=by simp[aI,hi]
   have gj:(aI Bs).getD j .none=.ref (Bs[j]).a:=by simp[aI,hj]
   obtain⟨dd,t1,t2,t3,hm⟩:=hB Bs[i] (Ac hi)
   obtain⟨dd',u1,u2,u3,hm'⟩:=hB Bs[j] (Ac hj)
   rw[gi,gj]
   exact lY hu G S' (y5 _ (aj hm)) (y5 _ (aj hm')) λc tk=>hC c tk λh=>h.elim
  ·intro s' n' p K' hp hs S'
   rw[aY] at hp
   have e:=ql (λe:Bk=>AW e.a) (d:=⟨0,(0,0,0)⟩) (v:=CO) hp
   refine k s' _ n' K' (perm_of (d:=⟨0,(0,0,0)⟩) hp) ?_
   have e2:(p.toList.map λi=>(aI Bs).getD i .none)=aI (p.toList.map λi=>Bs.getD i ⟨0,(0,0,0)⟩):=e
   rw[<- e2];exact S'
 ·exact iI 1 S rfl (by rw[aY];exact z0d h2) λh' n' S'=>(k _ Bs n' ⟨rfl,id⟩ (BI _) S')
theorem wO(G:GK w hb)(hd:A.depth<zj)(hh:A.handled=none)(S:St hb tabs L' l T s.heap)(hna:(na,ap (aI Ns) nn)∈T)(hN:NOk T Ns)(hl:Ns.length<=1000)(hu:(u,MZ (.ref 117) (.ref 163))∈T){Q:VP}
  (k:∀ s' X lst Ms nb,Kp s s'->St hb tabs L' l ((lst,ap (aI Ms) nb)::(X++T)) s'.heap->MOk X Ms->dS Ms=dS Ns->Ms.length=Ns.length->Q (.ref lst) s') :
  y7 (y6 pw w) A (call (.type "map") [.ref u,.ref na]) (λv s₁=>y7 (y6 pw w) A (call (.type "list") [v]) Q E s₁) E s:=by
 refine r_map S hna ?_
 intro mp t it am af
 have ae:St hb tabs L' l (((mp,li t (.ref u))::(t,aG [.ref it])::T)++[(it,gW na 0)]) am:=af.perm (by
  exact (zP _ (zP _ (zM (l₁:=[(it,gW na 0)]) (l₂:=T)))))
 have hne:mp≠it:=λe=>by
  have:=(zu.mp af.nd).2
  rw[e] at this
  simp at this
 refine restate ae λs3 aw ae=>?_
 replace aw:Kp s s3:=⟨aw.os,aw.gens⟩
 refine pS (n:=Ns.length) (J:=λi acc T1=>Ex3 λX Ms o=>An6 (T1=X++(((mp,li t (.ref u))::(t,aG [.ref it])::T)++[(it,o)])) (bY o na i) (acc=aI Ms) (MOk X Ms) (dS Ms=dS (Ns.take i)) (Ms.length=i))
  (Je:=λacc T1=>Ex2 λX Ms=>An5 (T1=X++((mp,li t (.ref u))::(t,aG [.ref it])::T)) (acc=aI Ms) (MOk X Ms) (dS Ms=dS Ns) (Ms.length=Ns.length)) ae (.head _) hl ⟨[],[],gW na 0,rfl,⟨rfl,rfl⟩,rfl,(zm _),rfl,rfl⟩ ?_ ?_ ?_
 ·rintro D i acc T1 c s₁ E' hi hacc ⟨X,Ms,o,rfl,ho,rfl,hM,hs,hlen⟩ S4 K4
  have hx:(aI Ns)[i]? = some (.ref (Ns[i]).a):=by simp[aI,hi]
  obtain⟨v1,v2,v3,hem⟩:=hN Ns[i] (Ac hi)
  rw[<- zx,<- Bu] at S4
  have hin:∀ p∈T,p∈((D,ap (aI Ms) c)::(X++((mp,li t (.ref u))::(t,aG [.ref it])::T)))++[(it,o)]:=λp hp=>y8 _ (aj (y5 _ (aj (aj hp))))
  refine sP (mp:=mp) (t:=t) (f:=.ref u) (d:=na) (vs:=aI Ns) (n:=nn) ((D,ap (aI Ms) c)::(X++((mp,li t (.ref u))::(t,aG [.ref it])::T))).length S4 (y8 _ (aj (y5 _ (.head _)))) (y8 _ (aj (y5 _ (aj (.head _))))) (List.getElem?_concat_length ..) ho (hin _ hna) hx hne ?_
  intro ax o' E2 ho' S5
  rw[IL _ _ (zk _),Nat.sub_self] at S5
  replace S5:St hb tabs L' l (((D,ap (aI Ms) c)::(X++((mp,li t (.ref u))::(t,aG [.ref it])::T)))++[(it,o')]) ax:=S5
  rw[Bu,zx] at S5
  have hT5:∀ p∈T,p∈(D,ap (aI Ms) c)::(X++(((mp,li t (.ref u))::(t,aG [.ref it])::T)++[(it,o')])):=λp hp=>aj (y5 _ (y8 _ (aj (aj hp))))
  refine BU (method_call (S5.obj _ (hT5 _ hu)) ?_)
  refine yg G S5 hd (hT5 _ hem) (λmm dd s6 K6 S6=>⟨.ref mm,((mm,moO dd [.int (Ns[i]).b.1 v1,.int (Ns[i]).b.2.1 v2,.int (Ns[i]).b.2.2 v3])::X)++(((mp,li t (.ref u))::(t,aG [.ref it])::T)++[(it,o')]),rfl,(kt K4 K6),?_,⟨_,Ms++[⟨mm,(Ns[i]).b⟩],o',rfl,ho',(cZ Ms ⟨mm,(Ns[i]).b⟩).symm,?_,?_,?_⟩⟩)
  ·exact S6.perm (z8 ..)
  ·intro e he
   rcases zf.mp he with z|z
   ·exact (hM.mono λp hp=>aj hp) e z
   ·rw[y9] at z
    subst z
    exact⟨_,_,_,_,.head _⟩
  ·rw[cY,Am,zl hi,hs]
   show _=dS (Ns.take i++[Ns[i]])
   rw[cY]
  ·rw[zO,hlen];rfl
 ·rintro D acc T1 c s₁ E' hacc ⟨X,Ms,o,rfl,ho,rfl,hM,hs,hlen⟩ S4 K4
  rw[<- zx,<- Bu] at S4
  refine wy (mp:=mp) (t:=t) (f:=.ref u) (d:=na) (vs:=aI Ns) (n:=nn) 0 hh S4 (aj (y5 _ (.head _))) (aj (y5 _ (aj (.head _)))) (by rw[aY];exact ho) (aj (y5 _ (aj (aj hna)))) ?_
  intro ax S5
  rw[z4] at hs
  exact⟨rfl,⟨K4.os,K4.gens⟩,_,S5,X,Ms,rfl,rfl,hM,hs,hlen⟩
 ·rintro s' D acc T' c K' S' ⟨X,Ms,rfl,rfl,hM,hs,hlen⟩
  refine k s' X D Ms c (kt aw K') ?_ hM hs hlen
  exact S'.sub (.cons_cons _ ((Al X).append (.cons _ (zo _ _))))
end
section
variable{x:zh}{T X:LO}{l:LV}{Ra Rb:LO}{led:Bool}{rows:List aW}{lst:zh}
noncomputable def mall(la lb:List zK):Nat:=mt la lb (0,la.length,0,lb.length)
theorem wz(la lb:List zK):mall la lb<=la.length:=by
 have:∀ f alo ahi blo bhi,lX la lb f alo ahi blo bhi<=ahi - alo:=by
  intro f
  induction f with
  | zero=>intro _ _ _ _;exact zD _
  | succ f ih =>
   intro alo ahi blo bhi
   rw[iR]
   split
   ·exact zD _
   ·rename_i hz
    have B:=cQ la lb alo ahi blo bhi
    have h1:=B.lo
    have h2:=B.hi
    have hlt:alo<ahi:=by
     rcases AP alo ahi with q|q
     ·exact q
     ·exact absurd (i4 (.inl q)) hz
    have h3:=BJ (Ak hlt)
    have a:=ih alo (flm la lb alo ahi blo bhi).1 blo (flm la lb alo ahi blo bhi).2.1
    have b:=ih ((flm la lb alo ahi blo bhi).1+(flm la lb alo ahi blo bhi).2.2) ahi ((flm la lb alo ahi blo bhi).2.1+(flm la lb alo ahi blo bhi).2.2) bhi
    exact z0e h1.1 h2.1 a b
 exact this _ _ _ _ _
theorem oI(G:GK w hb)(S:St hb tabs L l T s.heap)(hd:A.depth<zj)(hx:(x,smO dx)∈T)(hdx:(dx,od)∈T)(hf:bH od (mf va vb (.ref lst) fc (.ref d2) (.ref sj) sp))
  (k:∀ s',Kp s s'->St hb tabs L l T s'.heap->R (.ok (.ret (.ref lst))) s') :
  zW (y6 pw w) A (.call (.ref 231) ⟨[.ref x],[]⟩) R s:=by
 refine dR G S (yi _) hd (binds:=[(yZ "self", .ref x)]) (body:=aD (st2 pw 6 7)) (Ba (by kernel_rfl)) (λL' ai oL r S'=>eZ (dB (bQ (ac S' m0 (bB G S' (aj hx) (aj hdx) hf m4 (BA (isnot_none_ne (by intro x;cases x) (zb ⟨λZ=>?_,nofun⟩))))))))
 exact cO (bQ (ac S' m0 (bB G S' (aj hx) (aj hdx) hf m4 (k _ ⟨rfl,id⟩ (S'.leave 0 rfl r)))))
theorem gperm{α:Type}(A B C T:List α)(l u n q m k x d:α):(l::(A++u::n::(B++(q::m::(C++(k::x::d::T)))))).Perm (x::d::k::l::((A++(u::n::(B++(q::m::C))))++T)):=by
 have e:l::(A++u::n::(B++(q::m::(C++(k::x::d::T)))))=(l::(A++u::n::(B++(q::m::C))))++([k,x,d]++T):=by simp
 rw[e,<- zx]
 show List.Perm _ (([x,d,k]++(l::(A++(u::n::(B++(q::m::C))))))++T)
 exact Iq T (zM.trans (Iq _ (zM (l₁:=[k]) (l₂:=[x,d]))))
theorem gmb_c(G:GK w hb)(S:St hb tabs L l ((x,smO dx)::(dx,od)::T) s.heap)(hd:A.depth+4<zj)(hu:A.units+20<AB)(hh:A.handled=none)(hf:bH od (mf va vb .none fc (.ref d2) (.ref sj) sp))
  (hd2:(d2,o2)∈T) (ho2:o2.IsDictOf (Ap pw w) (rows.map aW.kv)) (hrows:cI lb rows) (hob:∀ r∈rows,r.ob∈T) (hsj:(sj,cJ led)∈T)
  (Va:SqV pw w hb tabs Ra va la) (Vb:SqV pw w hb tabs Rb vb lb) (hRa:∀ p∈Ra,p∈T) (hRb:∀ p∈Rb,p∈T)
  (k:∀ s' od' X lst Ms nb,Kp s s'->St hb tabs L l ((x,smO dx)::(dx,od')::((lst,ap (aI Ms) nb)::X++T)) s'.heap->bH od' (mf va vb (.ref lst) fc (.ref d2) (.ref sj) sp)->MOk X Ms->dS Ms=mall la lb->Ms.length<=100->R (.ok (.ret (.ref lst))) s') :
  zW (y6 pw w) A (.call (.ref 231) ⟨[.ref x],[]⟩) R s:=by
 have hsa:=Va.small
 have hsb:=Vb.small
 refine dR G S (yi _) (dn 4 hd) (binds:=[(yZ "self", .ref x)]) (body:=aD (st2 pw 6 7)) (Ba (by kernel_rfl)) (λL' ai oL r S'=>eZ (dB (bQ (ac S' m0 (bB G S' m1 m2 hf m4 (BA (isNot_none (zb ⟨nofun,λZ=>?_⟩))))))))
 refine aE (eM [yZ "la", yZ "lb"] (args_cons (jM G S' B5 (args_cons (bQ (ac S' m0 (bB G S' m1 m2 hf m1 ?_ (hv:=Va.hand))))))))
 refine zq (Va.len S' (λp hp=>aj (aj (aj (hRa p hp)))) ?_)
 refine λb7 br=>args_cons (jM G S' B5 (args_cons (bQ (ac S' m0 (bB G S' m1 m2 hf m2 ?_ (hv:=Vb.hand))))))
 refine zq (Vb.len S' (λp hp=>aj (aj (aj (hRb p hp)))) ?_)
 refine λb8 dq=>zq ⟨rfl,rfl,hh,_,_,_,_,_,S',?_⟩
 refine λam af=>cU af (.new (by kernel_rfl)) (λak ae=>cU ae (.new (by kernel_rfl)) (λau S4=>eQ (restate S4 λs4 K4 S4=>?_)))
 replace K4:Kp s s4:=⟨K4.os,K4.gens⟩
 refine aC (bF (args_cons (bP (args_cons (wpAny_Constant_int (bl S4 m0 (args_cons ?_)))))))
 refine wpAny_Constant_int (bln S4 m1 ⟨rfl,_,_,_,_,_,S4,?_⟩)
 intro t0 ax S5
 obtain⟨w1,w2,S5⟩:Ex2 λw1 w2=>St hb tabs L' _ ((t0,aG [.int 0 w1,.int la.length b7,.int 0 w2,.int lb.length b8])::(L,oL)::(x,smO dx)::(dx,od)::T) ax:=⟨_,_,S5⟩
 refine zq ⟨rfl,_,_,_,_,_,S5,?_⟩
 refine λq az S6=>aq S6 (.new (by kernel_rfl)) (λba S7=>aC (bF (zq ⟨rfl,_,_,_,_,_,S7,?_⟩)))
 refine λmbl bc S8=>aq S8 (.new (by kernel_rfl)) (λbf S9=>restate S9 λs9 K9 S9=>?_)
 replace K9:Kp s s9:=kt K4 K9
 let Y:LO:=(L,oL)::(x,smO dx)::(dx,od)::T
 have S10:St hb tabs L' (nmG mbl q la.length lb.length b7 b8 x) ((q,ap (cS [⟨t0,(0,la.length,0,lb.length)⟩]) 0)::(mbl,ap (aI []) 0)::([(t0,aG [.int 0 w1,.int la.length b7,.int 0 w2,.int lb.length b8])]++Y)) s9.heap :=
  S9.perm ((z8 _ _ _))
 refine qK (T:=Y) G (dn 1 hd) hh m1 m2 hf (aj (aj (aj hd2))) ho2 hrows (λr hr=>aj (aj (aj (hob r hr)))) (aj (aj (aj hsj))) Va Vb (λp hp=>aj (aj (aj (hRa p hp)))) (λp hp=>aj (aj (aj (hRb p hp)))) S10 ?_ ⟨zD _,zk _,zD _,zk _⟩ ?_
 ·intro e he
  rw[y9] at he
  subst he
  exact⟨_,_,_,_,.head _⟩
 intro s11 X1 Bs nq nb K11 S11 hB hsum hlen
 replace K11:Kp s s11:=kt K9 K11
 refine bR (aV (ac S11 m0 (cL S11 m1 Fv Ir (aH (zq (tD G (by show A.units+3+1<_;exact dn 16 hu) S11 (hB.toM.mono λp hp=>y8 _ hp) (z0j hsa hlen) ?_))))))
 intro s12 Bs' nb' K12 hperm S12
 replace K12:Kp s s12:=kt K11 K12
 have hsum':dS Bs'=mall la lb:=by
  rw[<- show mt la lb (0,la.length,0,lb.length)=mall la lb from rfl,<- hsum]
  exact o7 (hperm.map _)
 have hB':MOk X1 Bs':=λe he=>hB.toM e (hperm.mem_iff.mp he)
 have hlen':Bs'.length<=60:=by rw[hperm.length_eq];exact z0k hsa hlen
 refine vU (wpAny_Constant_int (aU (aq S12 (.new (by kernel_rfl)) ?_)))
 refine λh13 S13=>aU (aq S13 (.new (by kernel_rfl)) ?_)
 refine λh14 S14=>aU (aq S14 (.new (by kernel_rfl)) ?_)
 refine λh15 S15=>aC (bF (zq ⟨rfl,_,_,_,_,_,S15,?_⟩))
 refine λna h16 S16=>aq S16 (.new (by kernel_rfl)) ?_
 intro h17 S17
 refine restate S17 λs17 K17 S17=>?_
 replace K17:Kp s s17:=kt K12 K17
 refine eY (ac S17 m4 (jZ S17 m2 ?_))
 intro I o Wt fp ee IV hown hw S18
 let J:Nat->AQ->LV->LO->Prop:=λt Z l₁ T1=>Ex7 λb ti tj tk Ns X nn=>An5 (l₁=nmM na b ti tj tk (nmG mbl q la.length lb.length b7 b8 x)) (T1=(na,ap (aI Ns) nn)::(X++((q,ap [] nq)::(mbl,ap (aI Bs') nb')::(X1++Y)))) (NOk X Ns) (dS Ns+b.2.2=dS (Bs'.take t)) (Ns.length<=t)
 refine IV.loop (z:=s) hh S18 hw J ?_ (λp hp=>by rw[y9] at hp;subst hp;exact m2) ?_ ?_ (hown:=λi s v Q E h1 h2=>hown _ _ _ _ i s v Q E h1 h2) (ez:=⟨K17.os,K17.gens⟩)
 ·exact⟨(0,0,0),_,_,_,[],[],0,rfl,rfl,(zm _),rfl,zk _⟩
 ·rintro E1 t v l₁ T1 own1 s₁ ht hv ⟨b,ti,tj,tk,Ns,X,nn,rfl,rfl,hN,hs,hl⟩ S19 hRo hKp
  rw[aY] at ht
  have hv':v=.ref (Bs'[t]).a:=by
   have:(aI Bs')[t]? = some (.ref (Bs'[t]).a):=by simp[aI,ht]
   rw[this] at hv;exact (AG hv).symm
  clear hv
  subst hv'
  refine oo (b:=b) (ti:=ti) (tj:=tj) (tk:=tk) (nn:=nn) (n:=la.length) (m:=lb.length) (t1:=b7) (t2:=b8) (na:=na) (q:=q) (mbl:=mbl) (x:=x) (X:=X) (Ns:=Ns) (e:=Bs'[t]) (T:=((q,ap [] nq)::(mbl,ap (aI Bs') nb')::(X1++Y))++own1) G hh ?st hN ?he (z0l hlen' ht hl) ?_ rfl
  case st =>
   rw[<- zx];exact S19
  case he =>
   intro e he
   rw[y9] at he
   subst he
   obtain⟨dd,u1,u2,u3,hm⟩:=hB' Bs'[t] (Ac ht)
   exact⟨dd,u1,u2,u3,y8 _ (aj (aj (y8 _ hm)))⟩
  refine λs' X' nn' Ns' b' ti' tj' tk' K' S' hN' hs' hl'=>⟨_,(na,ap (aI Ns') nn')::(X'++((q,ap [] nq)::(mbl,ap (aI Bs') nb')::(X1++Y))),?_,⟨b',ti',tj',tk',Ns',X',nn',rfl,rfl,hN',?_,by exact z0m hl hl'⟩,?_,(kt hKp K')⟩
  ·rw[Bu,zx];exact S'
  ·rw[Am,zl ht]
   show _=dS (Bs'.take t++[Bs'[t]])
   rw[cY];exact z0n hs hs'
  ·intro p hp
   rw[y9] at hp;subst hp
   exact aj (y5 _ m1)
 ·rintro s' l' T' hKp S19 ⟨b,ti,tj,tk,Ns,X,nn,rfl,rfl,hN,hs,hl⟩ hRo
  rw[aY] at hs hl
  rw[z4,hsum'] at hs
  let P:zc->Prop:=λag=>Ex3 λNs X nn=>An5 (Kp s ag) (St hb tabs L' (nmM na b ti tj tk (nmG mbl q la.length lb.length b7 b8 x)) ((na,ap (aI Ns) nn)::(X++((q,ap [] nq)::(mbl,ap (aI Bs') nb')::(X1++Y)))) ag.heap) (NOk X Ns) (dS Ns=mall la lb) (Ns.length<=61)
  refine k8 P ?_ ?_
  ·refine B3 (ac S19 m1 (JR ⟨λhk=>?_,λhk=>?_⟩))
   ·refine bR (aV (ac S19 m0 (cL S19 m0 By CP (aH (args_cons (bP (bl S19 m3 ?_)))))))
    refine bl S19 m2 (bln S19 m1 ⟨rfl,_,_,_,_,_,S19,?_⟩)
    refine λtt h20 S20=>zq (cA 1 S20 rfl ?_ (by rw[aY];exact z0o hlen' hl))
    refine λh21 S21=>aE ⟨rfl,Ns++[⟨tt,b⟩],(tt,aG [.int b.1 ti,.int b.2.1 tj,.int b.2.2 tk])::X,nn+1,⟨hKp.os,hKp.gens⟩,?_,?_,by rw[cY];exact hs,by simp;exact z0k hlen' hl⟩
    ·rw[cZ]
     exact S21.perm ((z8 _ _ _))
    ·intro e' he'
     rcases zf.mp he' with z|z
     ·exact (hN.mono λp hp=>aj hp) e' z
     ·rw[y9] at z
      subst z
      exact⟨_,_,_,.head _⟩
   ·have hk0:b.2.2=0:=by simpa using hk
    exact aE ⟨rfl,Ns,X,nn,hKp,S19,hN,by lia,by exact z0q hlen' hl⟩
  ·rintro ag ⟨Ns,X,nn,ao,af,hN,hs,hl⟩
   refine bR (aV (ac af m0 (cL af m0 By CP (aH (args_cons (bP (bl af m6 ?_)))))))
   refine bl af m7 (args_cons (wpAny_Constant_int (zq ⟨rfl,_,_,_,_,_,af,?_⟩)))
   intro tt h20 S20
   obtain⟨w3,S20⟩:∃ w3,St hb tabs L' _ ((tt,aG [.int la.length b7,.int lb.length b8,.int ((0:Nat):Int) w3])::(na,ap (aI Ns) nn)::(X++((q,ap [] nq)::(mbl,ap (aI Bs') nb')::(X1++Y)))) h20:=⟨_,S20⟩
   refine zq (cA 1 S20 rfl ?_ (by rw[aY];exact up 9939 hl))
   intro h21 S21
   have hN3:NOk ((tt,aG [.int la.length b7,.int lb.length b8,.int ((0:Nat):Int) w3])::X) (Ns++[⟨tt,(la.length,lb.length,0)⟩]):=by
    intro e' he'
    rcases zf.mp he' with z|z
    ·exact (hN.mono λp hp=>aj hp) e' z
    ·rw[y9] at z
     subst z
     exact⟨_,_,_,.head _⟩
   have hs3:dS (Ns++[⟨tt,(la.length,lb.length,0)⟩])=mall la lb:=by rw[cY];exact hs
   have e3:aI (Ns++[⟨tt,(la.length,lb.length,0)⟩])=aI Ns++[AW tt]:=cZ _ _
   have hl3:(Ns++[(⟨tt,(la.length,lb.length,0)⟩:Bk)]).length<=62:=by simp;exact hl
   replace S21:=S21.perm (T':=(na,ap (aI Ns++[AW tt]) (nn+1))::((((tt,aG [.int la.length b7,.int lb.length b8,.int ((0:Nat):Int) w3])::X))++((q,ap [] nq)::(mbl,ap (aI Bs') nb')::(X1++Y)))) (by
    exact (z8 _ _ _))
   rw[<- e3] at S21
   generalize (tt,aG [.int la.length b7,.int lb.length b8,.int ((0:Nat):Int) w3])::X=X' at *
   generalize Ns++[(⟨tt,(la.length,lb.length,0)⟩:Bk)]=Ns' at *
   refine restate S21 λs21 K21 S21=>?_
   replace K21:Kp s s21:=kt ao K21
   refine dA (rp G S21 boot_list (args_cons (rp G S21 boot_map (args_cons (bQ (mS G S21 (v:=.ref 163) (by kernel_rfl) (xS G S21 ?_)))))))
   refine λu h22 S22=>bln S22 m0 (restate S22 λs22 K22 S22=>?_)
   replace K22:Kp s s22:=kt K21 K22
   refine zi (E:=_) ?_ (λv s' h=>zq h) (λZ Z h=>h)
   refine wO (A:=A.deeper (gN w L')) (Ns:=Ns') (nn:=nn+1) G (by show A.depth+1<zj;exact dn 3 hd) hh S22 (aj (.head _)) (hN3.mono λp hp=>aj (aj (y8 _ hp))) (up 938 hl3) (.head _) ?_
   intro s23 X2 lst Ms nb2 K23 S23 hM hMs hMl
   replace K23:Kp s s23:=kt K22 K23
   have S24:=S23.perm (gperm _ _ _ T _ _ _ _ _ _ _ _)
   refine ac S24 m8 (aN (fl':=mf va vb (.ref lst) fc (.ref d2) (.ref sj) sp) 1 G S24 m0 rfl hf (.there (by kernel_rfl) (.there (by kernel_rfl) (.there (by kernel_rfl) (.there (by kernel_rfl) .here)))) ?_)
   refine λh25 od' S25 hf'=>cO (bQ (ac S25 m8 (bB G S25 m0 m1 hf' m4 (k _ od' (X2++((u,MZ (.ref 117) (.ref 163))::(na,ap (aI Ns') (nn+1))::(X'++((q,ap [] nq)::(mbl,ap (aI Bs') nb')::X1)))) lst Ms nb2 ⟨K23.os,K23.gens⟩ (S25.leave 2 rfl r) hf' ?_ (z0v hs3 hMs) (z0w hl3 hMl)))))
   intro e he
   obtain⟨dd,a,b,c,m⟩:=hM e he
   exact⟨dd,a,b,c,y8 _ m⟩
end
def BM(hb:AJ):Prop:=Ex3 λmg bm ob=>BMod hb Bp mg bm ob
section
variable{tabs:List zh}{l:LV}{T:LO}
theorem St.tabGrown(S:St hb tabs L l T h)(hk:∀ b o,b≠P->h.get? b=some o->h'.get? b=some o)(hP:P∈tabs)
  (ht:Ex2 λps more=>An3 (hb.get? P=some (Em ps)) (h'.get? P=some (Em (ps++more))) (C7 (ps++more).toList)):St hb tabs L l T h':=by
 have hlt:=S.tabLt hP
 obtain⟨oL,e,r⟩:=S.fm
 refine⟨⟨oL,hk _ _ (Ci (zN hlt S.lnew)) e,r⟩,S.lnew,λb o e hn=>hk b o (λq=>hn (q▸hP)) (S.keep b o e hn),λt htt=>?_,λp hp=>hk _ _ (Ci (zN hlt (S.new p hp))) (S.obj p hp),S.new,S.nd⟩
 by_cases q:t=P
 ·rw[q];exact ht
 ·obtain⟨ps,more,e1,e2,e3⟩:=S.tab t htt
  exact⟨ps,more,e1,hk _ _ q e2,e3⟩
theorem St.off(S:St hb tabs L l T h)(hw:∀ b∈wr,hb.objs.size<=b/\b∉L::T.map (·.1))(hk:∀ b o,b∉wr->h.get? b=some o->h'.get? b=some o):St hb tabs L l T h':=by
 obtain⟨oL,e,r⟩:=S.fm
 have lF:∀ b o,hb.get? b=some o->b∉wr:=λb o e q=>absurd (AL e) (Bw.mpr (hw b q).1)
 refine⟨⟨oL,hk _ _ (λq=>(hw _ q).2 (.head _)) e,r⟩,S.lnew,λb o e hn=>hk b o (lF b o e) (S.keep b o e hn),λt ht=>?_,λp hp=>hk _ _ (λq=>(hw _ q).2 (aj (zd.mpr ⟨p,hp,rfl⟩))) (S.obj p hp),S.new,S.nd⟩
 obtain⟨ps,more,e1,e2,e3⟩:=S.tab t ht
 exact⟨ps,more,e1,hk _ _ (lF _ _ e1) e2,e3⟩
end
section
variable{tabs:List zh}{c:zh}{l:LV}{T:LO}
theorem St.notTab(S:St hb tabs L l T s.heap){b:zh}{o:AR}(e:hb.get? b=some o)(hc:o.cls≠.none):b∉tabs:=λq=>by
 obtain⟨ps,more,e1,_⟩:=S.tab b q
 rw[e] at e1
 cases e1
 exact hc rfl
theorem xW{Q:zh->zc->Prop}{r:zh}(G:Gd K tabs hb)(B:BM hb)(S:St hb tabs L l T s.heap)(hg:env.globals=Bp)(h:Q GC s):y7 (y6 prog w) A (builtinsFor env.globals r) Q E s:=by
 obtain⟨mg,bm,ob,M⟩:=B
 rw[hg]
 exact wpAny_builtinsFor (S.oldNs M.ns G.n1) M.name M.ne (S.old M.obj (S.notTab M.obj (by rw[M.cls];exact nofun))) M.cls M.dict M.data h
def u5(vs:Array Value)(P:zh):Prop :=
 Ex7 λfile tf flags tg inF text tt=>An6 (vs.getD 18 .none=.str file tf) (vs.getD 7 .none=.int flags tg) (vs.getD 9 .none=.bool inF) (vs.getD 10 .none=.int text tt) (vs.getD 11 .none=.ref P) (vs[11]? = some (.ref P))
theorem vS {Q:VP}{pos:Ej}{qualname:zK}{scope:DB} (G:Gd K tabs hb) (S:St hb tabs L l T s.heap) (hcode:env.code=.ref c) (hK:K.lookup c=some oc) (hcls:oc.cls=.type "code") (hd:oc.data=.fields vsc) (hsh:u5 vsc P) (hP:P∈tabs)
  (h:∀ code h' tk,St hb tabs L l T h'->(∀ b o,b≠P->s.heap.get? b=some o->h'.get? b=some o)->s.heap.objs.size<=h'.objs.size->Q code (wht s h' tk)) :
  y7 (y6 prog w) A (genexprCode env pos qualname scope) Q E s:=by
 obtain⟨ps,more,e1,e2,e3⟩:=S.tab P hP
 obtain⟨file,tf,flags,tg,inF,text,tt,h18,h7,h9,h10,h11,h11'⟩:=hsh
 have ho:=S.kin G c oc hK
 have hne:c≠P:=λq=>by
  rw[q,e2] at ho
  cases ho
  cases hcls
 have hok:s.heap.IsCode c P (ps++more):=⟨oc,vsc,file,tf,flags,tg,inF,text,tt,_,ho,hd,h11,h18,h7,h9,h10,e2,rfl,e3,hne⟩
 cases hnf:Gy pos (ps++more).toList with
 | some cv =>
  unfold genexprCode codeAt
  rw[hcode,if_neg (show ¬ ((AW c==CO)=true) from zR)]
  refine y0 (GV ho hd ?_)
  rw[h11]
  refine y0 (GV e2 rfl ?_)
  rw[hnf]
  exact y4 (h cv s.heap s.toks S (λZ Z Z e=>e) (zk _))
 | none =>
  refine wpAny_genexprCodeX hcode hok ⟨⟨oc,vsc,ho,hcls,hd,h11'⟩,e2⟩ hnf λc' h' tk hx hge hlt hok' Z htab' Z=>(h _ h' tk (S.tabGrown (P:=P) (λb o hb' e=>hx b o hb' e) hP ⟨ps,more++#[Cz pos.line,Cz pos.col,.ref c'],e1,?_,?_⟩) (λb o hb' e=>hx b o hb' e) (zn hge (Ak hlt)))
  ·rw[<- JU];exact htab'.2
  ·rw[<- JU,EN]
   exact Mu _ _ _ _ e3
end
section
variable{tabs:List zh}{c:zh}
theorem iP(n:Nat):passing (λZ=>true) n 0=zQ n:=by
 unfold passing;rw[Et];exact List.filter_eq_self.mpr λZ Z=>rfl
theorem su{elt iter:Expr}{x:zK}{px:Ej}{scope:DB}{cl:List (zK×zh)}{pos:Ej}{Q:VP}
  (G:Gd K tabs hb) (B:BM hb) (hh:A.handled=none) (hroom:A.depth<zj) (hcode:env.code=.ref c) (hK:K.lookup c=some oc) (hcls:oc.cls=.type "code") (hd:oc.data=.fields vsc) (hsh:u5 vsc P) (hP:P∈tabs) (hg:env.globals=Bp)
  (h:y7 (y6 prog w) A (Ax iter env) (λxv s₁=>Ex6 λL l T d vs n=>∃ val:Nat->Int,An5 (xv=.ref d) (St hb tabs L l T s₁.heap) ((d,ap vs n)∈T) ((∀ (A':AU) E' i v C code bi (ag:zc) cy,A'.handled=none->vs[i]? = some v->K.In ag.heap->(∀ p∈T,ag.heap.get? p.1=some p.2)->ag.heap.Ns C cy->cy x=some v ->
    y7 (y6 prog w) A' (Ax elt (genEnv scope cl C code bi env)) (λy s3=>(∃ t,y=.int (val i) t)/\Keeps ag s3) E' ag)) ((∀ s' t',Kp s₁ s'->St hb tabs L l T s'.heap->Q (.int (preSum val vs.length) t') s'))) E s)
  (hco:scope.isCoroutine=false) (hclos:FR scope env=AA cl) (hcell:∀ y∈scope.names,y.2≠.cell) (h0:scope.names.lookup (".0" : zK)=some NameKind.local)
  (hx:scope.names.lookup x=some .local) (hkind:scope.kind=.function) (hs:∀ x,genFold iter env x=AA x) :
  y7 (y6 prog w) A (Ax (.GeneratorExp elt [⟨.Name x px,iter,[],0⟩] scope pos) env) (λv s₁=>y7 (y6 prog w) A (call (.builtin "sum") [v]) Q E s₁) E s:=by
 refine wpAny_GeneratorExp_walksQ hh hco hclos hcell h0 hx hkind hroom (zi h (λxv s₁ z=>?_) λZ Z e=>e) hs
 obtain⟨L,l,T,d,vs,n,val,rfl,S,hm,hel,hQ⟩:=z
 have hl:s₁.heap.IsList d vs.toArray:=⟨_,S.obj _ hm,rfl,n,rfl⟩
 have hlt:d<s₁.heap.objs.size:=S.lt hm
 have ah:=S.push { cls:=.type "list_iterator", data:=.fields #[.ref d,.int 0 0] }
 refine Cb hl ⟨St.lim (s:={ s₁ with heap:=s₁.heap.push { cls:=.type "list_iterator", data:=.fields #[.ref d,.int 0 0] } }) ah G,?_⟩
 refine vS (s:={ s₁ with heap:=s₁.heap.push { cls:=.type "list_iterator", data:=.fields #[.ref d,.int 0 0] } }) G ah hcode hK hcls hd hsh hP λcode ak bn ae hk3 hsz3=>(xW (s:=(wht s₁ ak bn)) G B ae hg ?_)
 have hIlt:s₁.heap.objs.size<ak.objs.size:=ae.lt (.head _)
 have hdlt:d<ak.objs.size:=CA hlt hIlt
 have hI:hb.objs.size<=s₁.heap.objs.size:=ae.new _ (.head _)
 have ndI:=(zu.mp (zu.mp ae.nd).2).1
 have hLI:L≠s₁.heap.objs.size:=λq=>(zu.mp ae.nd).1 (by rw[q];exact .head _)
 have hTI:∀ p∈T,p.1≠s₁.heap.objs.size:=λp hp q=>ndI (zd.mpr ⟨p,hp,q⟩)
 refine⟨s₁.heap.objs.size,[s₁.heap.objs.size,d],[s₁.heap.objs.size],vs.toArray.size,_,_,λZ=>true,λi v=>∃ t,v=.int (val i) t,rfl,
  (λA' hA=>Ml hA _ _ (Ag hlt) vs.toArray),⟨⟨_,ae.obj _ (.head _),rfl,rfl⟩,⟨_,ae.obj _ (aj hm),rfl,n,rfl⟩⟩,?_,St.lim (s:=(wht s₁ ak bn)) ae G,?_,?_,?_⟩
 ·intro b hb'
  rcases za.mp hb' with rfl|hb'
  ·exact hIlt
  ·rw[y9] at hb';subst hb';exact hdlt
 ·intro q
  rw[y9] at q
  obtain⟨_,hn,_⟩:=G.lim
  exact Ao _ (zN (q▸hn.lt) hI)
 ·refine λhref hhref=>⟨λA' E' i v ag cy hA hPi hn hm' hk=>?_,λA' E' i v ag cy hA hPi hpz hn hm' hk=>?_⟩
  ·rw[Er]
   exact y4 ⟨rfl,_,_,rfl,λZ Z e=>e⟩
  ·refine hel A' E' i v _ code _ ag cy hA (by simpa using hPi) (λa o e=>?_) (λp hp=>?_) hn hm'
   ·have e1:=ae.kin (s:=(wht s₁ ak bn)) G a o e
    have:a<hb.objs.size:=AL (G.k a o e)
    exact hk a (zV.mpr (AL e1)) (λq=>by rw[y9] at q;exact Ao _ (zN (q▸this) hI)) o (hhref a o e1)
   ·have e1:=ae.obj p (aj hp)
    exact hk p.1 (zV.mpr (AL e1)) (λq=>by rw[y9] at q;exact hTI p hp q) _ (hhref _ _ e1)
 ·intro a ax tk gs hgb hag hsz5 hk5 W hat
  have W1:=W.in4_1
  have S5:St hb tabs L l T ax:=(ae.sub (zo _ _)).off (wr:=[]) (zm _) (λb o Z e=>hk5 b o e)
  refine call_sum_walkAnyS (W1.self 0 _ _ _ hat ⟨a,_,_,_,_,_,_,val,rfl,W1,hat,?_,?_,λs' t' hmv=>?_⟩)
  ·intro b hb'
   rw[hsz5]
   rcases za.mp hb' with rfl|hb'
   ·exact Bi _
   ·rcases za.mp hb' with rfl|hb'
    ·exact Fw hag
    ·exact Fw (CA (zV.mp hb') hag)
  ·rintro j v ⟨i,hi,t,rfl⟩
   rw[iP,zY] at hi
   obtain⟨hj,e⟩:=hi
   rw[GW] at e
   subst e
   exact⟨t,rfl⟩
  ·rw[iP,Ca,zg]
   refine hQ s' t' ⟨hmv.os,λz=>(AllBare.push z hgb).moved hmv.gens⟩ (S5.off (wr:=[ak.objs.size,s₁.heap.objs.size]) (λb hb'=>?_) (λb o hb' e=>hmv.heap b o hb' e))
   rcases za.mp hb' with rfl|hb'
   ·refine⟨zn hI (Ak hIlt),λq=>?_⟩
    rcases za.mp q with q|q
    ·have:=ae.fm.lt;exact Ao _ (q▸this)
    ·obtain⟨p,hp,e⟩:=zd.mp q
     have:=ae.lt (p:=p) (aj hp)
     exact Ao _ (e▸this)
   ·rw[y9] at hb'
    subst hb'
    refine⟨hI,λq=>?_⟩
    rcases za.mp q with q|q
    ·exact hLI q.symm
    ·obtain⟨p,hp,e⟩:=zd.mp q
     exact hTI p hp e
end
theorem t9:Bn (yZ "sum")=some (.builtin "sum"):=by decide +kernel
theorem sumI(l:List Bk):(l.map λe=>(e.b.2.2:Int)).sum=(dS l:Int):=by
 induction l with
 | nil=>rfl
 | cons e l ih =>
  rw[AD,List.sum_cons,ih]
  exact z0x
theorem sK {M:HL}{h:AJ}{w:As} (X:(KN w.params).In h):Cy M h (CN (.ref 163) (.type "collections.deque")) false:=I6 X (by kernel_rfl)
theorem wu{w:As}{A:AU}{E:VP}{s:zc}{m dd:zh}{a b c:Value}{t:AQ}{Q:VP}{value slice:Expr}(X:(KN w.params).In s.heap)(hm:s.heap.get? m=some (moO dd [a,b,c]))(h:Q c s)
  (hs:Hh slice false (.ref m) (.int (-1) t)=J9 [.ref m,.int (-1) t] (Dg (.ref m) (.int (-1) t)):=by with_unfolding_all rfl):y7 (y6 pw w) A (JH value slice (.ref m) (.int (-1) t)) Q E s:=by
 have t1:Cy (y6 pw w) s.heap (Dc (.ref m)) (.ref 163):=(Looks.ld hm).andThen .now
 have t2:Cy (y6 pw w) s.heap (B9 (.ref m) (.type "tuple")) true:=t1.andThen (jF X)
 have t3:Cy (y6 pw w) s.heap (EG (.ref m) "__getitem__") (some (.builtin "tuple.__getitem__")):=t1.andThen (DP X (om w))
 have hg:y7 (y6 pw w) A (Dg (.ref m) (.int (-1) t)) Q E s:=by
  unfold Dg
  try with_reducible refine zs ?_
  first|refine y0 (y4 ?_)|skip
  refine y0 (m:=sequenceKey _ _ _) (y0 (t1.here ?_))
  refine y0 (m:=seqItemTypes.anyM (λn=>CN (.ref 163) (.type n))) (y0 (m:=CN (.ref 163) (.type "collections.deque")) ((sK X).here ?_))
  refine y4 (y4 (y0 (m:=Ki (.ref m) (yZ "__getitem__") _ _) (y0 (t3.here (zs ?_)))))
  refine y0 (y4 ?_)
  refine y0 (BU (Cr rY HB (@GR (y6 pw w) _ _ _ "tuple.__getitem__" "tuple" "__getitem__" (.ref m) [.int (-1) t] [] _ vo rX t2 (G9 _ _) ?_)))
  refine y0 (m:=Eu (.ref m)) (y0 (zy hm rfl (y4 ?_)))
  refine y0 (Dr (It s _ _) ?_)
  refine aQ (by decide) (y0 (BX (T := "int") (It s _ _) int_index ?_))
  refine aQ (by simp) (y0 (Ay (a:=(-1:Int)) rfl ?_))
  refine aQ (by decide) (y4 (y4 ?_))
  exact y4 h
 refine y0 (y0 (t3.here ?_))
 refine y4 (y0 ?_)
 rw[hs]
 exact Gc (zi hg (λr s3 ak=>y0 (Ev (y4 ak))) λZ Z x=>x)
section
variable{x:zh}{T:LO}{l:LV}{Ra Rb:LO}
theorem restateT{α:Type}{M:HL}{A:AU}{E:VP}{s:zc}{hb:AJ}{tabs:List zh}{L:zh}{l:LV}{T:LO}{t:LH α}{Q:α->zc->Prop}(S:St hb tabs L l T s.heap)(h:∀ s',Kp s s'->s.toks<=s'.toks->St hb tabs L l T s'.heap->y7 M A t Q E s'):y7 M A t Q E s:=h s Kp.refl (zk _) S
theorem pP{P:LO->AR->zh->Prop}(G:GK w hb)(B:BM hb)(S:St hb tabs L l T s.heap)(hd:A.depth+2<zj)(hh:A.handled=none)(hx:(x,smO dx)∈T){od:AR}{mb:Value}(hdx:(dx,od)∈T)(hf:bH od (mf va vb mb fc (.ref d2) (.ref sj) sp))
  (Va:SqV pw w hb tabs Ra va la) (Vb:SqV pw w hb tabs Rb vb lb)
  (hcall:∀ (A':AU) s₁ L' l' oL (R':Cm->zc->Prop),A'.depth=A.depth+1->A'.units<=A.units+10->A'.handled=none->St hb tabs L' l' ((L,oL)::T) s₁.heap ->
   (∀ s' T' lst od',Kp s₁ s'->St hb tabs L' l' ((L,oL)::T') s'.heap->P T' od' lst->R' (.ok (.ret (.ref lst))) s')->zW (y6 pw w) A' (.call (.ref 231) ⟨[.ref x],[]⟩) R' s₁)
  (hP:∀ T' od' lst,P T' od' lst->Ex2 λMs nb=>An9 ((x,smO dx)∈T') ((dx,od')∈T') (bH od' (mf va vb (.ref lst) fc (.ref d2) (.ref sj) sp)) ((lst,ap (aI Ms) nb)∈T') (MOk T' Ms) (dS Ms=mall la lb) (Ms.length<=100) ((∀ p∈Ra,p∈T')) (∀ p∈Rb,p∈T'))
  (k:∀ s' T' od' lst t,s.toks<=t->t<s'.toks->Kp s s'->St hb tabs L l T' s'.heap->P T' od' lst->R (.ok (.ret (.float (bK (mall la lb) (la.length+lb.length)) t))) s') :
  zW (y6 pw w) A (.call (.ref 253) ⟨[.ref x],[]⟩) R s:=by
 refine dR G S (lk253 _) (dn 2 hd) (binds:=[(yZ "self", .ref x)]) (body:=aD (st2 pw 6 10)) (Ba (by kernel_rfl)) (λL' ai oL r S'=>eZ (aC (AH (n:=s.toks) (by simp only[zL,Ck];exact z0z) (jM G S' t9 (args_cons (zi (E:=_) ?_ (λv s' h=>zq h) (λZ Z h=>h)))))))
 refine su (cl:=[]) G B hh (by show A.depth+1<_;exact dn 1 hd) (c:=252) rfl (oc:=o252 w.params) (by kernel_rfl) rfl rfl ⟨_,_,_,_,_,_,_,rfl,rfl,rfl,rfl,rfl,rfl⟩ (.head _) rfl ?_ rfl rfl (by decide) rfl rfl rfl (λZ=>rfl)
 refine aV (ac S' m0 (dM (f:=231) G S' (aj hx) (aj hdx) hf (cR G (zq ⟨⟨_,_,_,S'⟩,?_⟩))))
 refine hcall _ _ L' _ oL _ rfl (by show A.units+3<=_;exact z11) hh S' ?_
 intro ag T' lst od' ao af hPT
 obtain⟨Ms,nb,hx',hdx',hf',hl',hM,hsum,hlen,hRa,hRb⟩:=hP _ _ _ hPT
 refine⟨L',_,(L,oL)::T',lst,aI Ms,nb,λi=>(Ms.map λe=>(e.b.2.2:Int)).getD i 0,rfl,af,aj hl',?_,?_⟩
 ·refine λA' E' i v C code bi s3 cy hA' hi X hT hn hm=>Dx (H4 (Dp rfl rfl hn hm ?_) rfl)
  refine Ea (wpAny_Constant_int (Ko ?_))
  have hv:∃ e,Ms[i]? = some e/\v=.ref e.a:=by
   rw[aI,zE] at hi
   obtain⟨e,h1,h2⟩:=z0.mp hi
   exact⟨e,h1,h2.symm⟩
  obtain⟨e,he,rfl⟩:=hv
  obtain⟨dd,u1,u2,u3,hme⟩:=hM e (zp he)
  refine wu X (hT _ (aj hme)) ⟨⟨u3,?_⟩,_,_,rfl,λZ Z e=>e⟩
  simp[he]
 intro s3 bx aw ae
 rw[preSum_getD,aY,show Ms.length=(Ms.map λe=>(e.b.2.2:Int)).length from (ze ..).symm,z4,sumI,hsum] at *
 replace aw:Kp s s3:=⟨aw.os.trans ao.os,λz=>aw.gens (ao.gens z)⟩
 refine λhk3=>aq ae (.new (by kernel_rfl)) (λau S4=>restateT S4 λs4 K4 hk4 S4=>?_)
 replace K4:Kp s s4:=kt aw K4
 refine cO (tZ G S4 (v:=.ref 173) (by kernel_rfl) (AH (n:=s.toks) (by simp only at hk4;exact z12 hk3 hk4) (bl S4 m0 (args_cons (wpAny_BinOp (jM G S4 B5 (args_cons ?_)))))))
 refine bQ (ac S4 m1 (bB G S4 (aj hx') (aj hdx') hf' m1 ?_ (hv:=Va.hand)))
 refine zq (Va.len S4 (λp hp=>aj (hRa p hp)) ?_)
 refine λeo ed=>jM G S4 B5 (args_cons (bQ (ac S4 m1 (bB G S4 (aj hx') (aj hdx') hf' m2 ?_ (hv:=Vb.hand)))))
 refine zq (Vb.len S4 (λp hp=>aj (hRb p hp)) ?_)
 refine λt6 tk6=>CT (zq ?_)
 refine λhk5=>⟨⟨_,_,_,S4⟩,?_⟩
 have ha:=Va.small
 have hb':=Vb.small
 have hm:=wz la lb
 exact ji (A:=A.deeper (Ah (yI w.params) L' 253)) (m:=(mall la lb:Int)) (n:=(la.length:Int)+(lb.length:Int)) G (by exact S4) (by show A.depth+1<_;exact dn 1 hd) (by exact z13) (by exact z14 ha hm) (by exact z15) (by exact z16 ha hb') (λba tk7 t7 ht1 ht2 S7=>k _ T' od' lst _ (zn hk5 ht1) ht2 ⟨K4.os,K4.gens⟩ (S7.leave 0 rfl r) hPT)
end
section
variable{x:zh}{T:LO}{l:LV}{Ra Rb:LO}{rows:List aW}{led:Bool}
def rH(T:LO)(mb:Value)(la lb:List zK):Prop:=mb=.none\/Ex3 λlst Ms nb=>An5 (mb=.ref lst) ((lst,ap (aI Ms) nb)∈T) (MOk T Ms) (dS Ms=mall la lb) (Ms.length<=100)
theorem rH.mono{T T':LO}{mb:Value}(h:rH T mb la lb)(hs:∀ p∈T,p∈T'):rH T' mb la lb:=by
 rcases h with h|⟨lst,Ms,nb,a,b,c,d,e⟩
 ·exact .inl h
 ·exact .inr ⟨lst,Ms,nb,a,hs _ b,c.mono hs,d,e⟩
theorem mO{T₀:LO}(hT0:∀ p∈T₀,p∈T){r:zh×AR}(G:GK w hb)(B:BM hb)(S:St hb tabs L l ((x,smO dx)::(dx,od)::r::T) s.heap)(hd:A.depth+6<zj)(hu:A.units+40<AB)(hh:A.handled=none)(hf:bH od (mf va vb mb fc (.ref d2) (.ref sj) sp))(hmb:rH T₀ mb la lb)
  (hd2:(d2,o2)∈T) (ho2:o2.IsDictOf (Ap pw w) (rows.map aW.kv)) (hrows:cI lb rows) (hob:∀ r∈rows,r.ob∈T) (hsj:(sj,cJ led)∈T)
  (Va:SqV pw w hb tabs Ra va la) (Vb:SqV pw w hb tabs Rb vb lb) (hRa:∀ p∈Ra,p∈T) (hRb:∀ p∈Rb,p∈T)
  (k:∀ s' od' X mb' t,s.toks<=t->t<s'.toks->Kp s s'->St hb tabs L l ((x,smO dx)::(dx,od')::r::(X++T)) s'.heap->bH od' (mf va vb mb' fc (.ref d2) (.ref sj) sp)->rH (X++T₀) mb' la lb->R (.ok (.ret (.float (bK (mall la lb) (la.length+lb.length)) t))) s') :
  zW (y6 pw w) A (.call (.ref 253) ⟨[.ref x],[]⟩) R s:=by
 refine pP (Ra:=Ra) (Rb:=Rb) (P:=λT' od' lst=>Ex3 λX Ms nb=>An6 (T'=(x,smO dx)::(dx,od')::r::(X++T)) (bH od' (mf va vb (.ref lst) fc (.ref d2) (.ref sj) sp)) ((lst,ap (aI Ms) nb)∈X++T₀) (MOk (X++T₀) Ms) (dS Ms=mall la lb) (Ms.length<=100)) G B S (dn 4 hd) hh m0 m1 hf Va Vb ?_ ?_ ?_
 ·intro A' s₁ L' l' oL R' hd' hu' hh' ah k'
  have af:=ah.perm (T':=(x,smO dx)::(dx,od)::((L,oL)::r::T)) (rM)
  rcases hmb with rfl|⟨lst,Ms,nb,rfl,h1,h2,h3,h4⟩
  ·refine gmb_c G af (z18 hd hd') (z19 hu hu') hh' hf (aj (aj hd2)) ho2 hrows (λr hr=>aj (aj (hob r hr))) (aj (aj hsj)) Va Vb (λp hp=>aj (aj (hRa p hp))) (λp hp=>aj (aj (hRb p hp))) ?_
   intro s' od' X lst Ms nb K ae hf' hM hs hl
   have S4:=ae.perm (T':=(L,oL)::((x,smO dx)::(dx,od')::r::(((lst,ap (aI Ms) nb)::X)++T))) (by
    have e:(x,smO dx)::(dx,od')::((lst,ap (aI Ms) nb)::X++((L,oL)::r::T))=((x,smO dx)::(dx,od')::(lst,ap (aI Ms) nb)::X)++((L,oL)::r::T):=by simp
    rw[e]
    exact zv.trans (zP _ (zP _ (zP _ zv))))
   exact k' s' _ lst od' K S4 ⟨(lst,ap (aI Ms) nb)::X,Ms,nb,rfl,hf',.head _,hM.mono λp hp=>aj (y8 _ hp),hs,hl⟩
  ·refine oI (va:=va) (vb:=vb) (fc:=fc) (d2:=d2) (sj:=sj) (sp:=sp) (lst:=lst) G af (z1a hd hd') m0 m1 hf ?_
   intro s' K ae
   have S4:=ae.perm (T':=(L,oL)::((x,smO dx)::(dx,od)::r::([]++T))) (by
    exact pm21)
   exact k' s' _ lst od K S4 ⟨[],Ms,nb,rfl,hf,h1,h2,h3,h4⟩
 ·rintro T' od' lst ⟨X,Ms,nb,rfl,hf',h1,h2,h3,h4⟩
  have up:∀ p,p∈X++T₀->p∈X++T:=λp hp=>by
   rcases zf.mp hp with q|q
   ·exact y8 _ q
   ·exact y5 _ (hT0 _ q)
  replace h1:=up _ h1
  replace h2:=h2.mono up
  exact⟨Ms,nb,m0,m1,hf',aj (aj (aj h1)),h2.mono λp hp=>aj (aj (aj hp)),h3,h4,λp hp=>aj (aj (aj (y5 _ (hRa p hp)))),λp hp=>aj (aj (aj (y5 _ (hRb p hp))))⟩
 ·rintro s' T' od' lst t ht1 ht2 K S' ⟨X,Ms,nb,rfl,hf',h1,h2,h3,h4⟩
  exact k s' od' X (.ref lst) t ht1 ht2 K S' hf' (.inr ⟨lst,Ms,nb,rfl,h1,h2,h3,h4⟩)
end
noncomputable abbrev aM(p:zK×AQ):Value:=.str p.1 p.2
noncomputable def cpl:List zK->List zK->Nat
 | a::l,b::r=>if a=b then cpl l r+1 else 0
 | _,_=>0
theorem mq{a b:zK}{l r:List zK}:cpl (a::l) (b::r)=if a=b then cpl l r+1 else 0:=rfl
theorem tS(r:List zK):cpl [] r=0:=rfl
theorem tT(a:zK)(l:List zK):cpl (a::l) []=0:=rfl
theorem jc:∀ (l r:List zK),cpl l r<=l.length
 | [],_=>by simp[tS,tT]
 | _::_,[]=>by simp[tS,tT]
 | a::l,b::r=>by
  rw[mq]
  split
  ·have:=jc l r;simp;exact this
  ·exact zD _
theorem iq:∀ (l r:List zK),cpl l r=cpl r l
 | [],[]=>rfl
 | [],_::_=>rfl
 | _::_,[]=>rfl
 | a::l,b::r=>by
  rw[mq,mq,iq l r]
  by_cases h:a=b
  ·rw[if_pos h,if_pos h.symm]
  ·rw[if_neg h,if_neg λq=>h q.symm]
theorem mo(l r:List zK):cpl l r<=r.length:=by rw[iq];exact jc r l
theorem gz:∀ (l r:List zK) (i:Nat),i<cpl l r->l[i]? = r[i]?
 | [],r,i,h=>by simp[tS,tT] at h
 | a::l,[],i,h=>by simp[tS,tT] at h
 | a::l,b::r,i,h=>by
  rw[mq] at h
  split at h
  ·rename_i q
   cases i with
   | zero=>simp[q]
   | succ i=>simpa using gz l r i (z8h h)
  ·lia
theorem ip:∀ (l r:List zK),cpl l r<l.length->cpl l r<r.length->l[cpl l r]?≠r[cpl l r]?
 | [],r,h,_=>by simp at h
 | a::l,[],_,h=>by simp at h
 | a::l,b::r,h,h2=>by
  rw[mq] at h h2 ⊢
  split at h
  ·rename_i q
   rw[if_pos q] at h2 ⊢
   simpa using ip l r (z8h h) (z8h h2)
  ·rename_i q
   rw[if_neg q]
   simpa using q
theorem w4{l r:List zK}(h1:l.length<=cpl l r)(h2:r.length<=cpl l r):l=r:=by
 refine Cx λi=>?_
 rcases AP i (cpl l r) with q|q
 ·exact gz l r i q
 ·rw[zT (by exact z8f h1 q),zT (by exact z8f h2 q)]
noncomputable def ltW(l r:List zK):Bool:=match l[cpl l r]?,r[cpl l r]? with
 | some a,some b=>decide (a.cps.toList<b.cps.toList)
 | _,_=>decide (l.length<r.length)
theorem uO{l r:List zK}{a b:zK}(h1:l[cpl l r]? = some a)(h2:r[cpl l r]? = some b):ltW l r=decide (a.cps.toList<b.cps.toList):=by
 unfold ltW;rw[h1,h2]
theorem iU{l r:List zK}(h:l.length<=cpl l r\/r.length<=cpl l r):ltW l r=decide (l.length<r.length):=by
 unfold ltW
 rcases h with q|q
 ·rw[zT q]
 ·rw[zT q]
  cases l[cpl l r]? <;> rfl
section
variable{a b:zh}
theorem ke{α β:Type}{f:α->β->LH (ForInStep β)}{b0:β}{P:β->zc->Prop}:∀ {l:List α} (n:Nat),n<=l.length ->
  (∀ i p,i<n->l[i]? = some p->∀ Q':ForInStep β->zc->Prop,Q' (.yield b0) s->y7 M A (f p b0) Q' E s)->(n=l.length->P b0 s) ->
  (∀ p,l[n]? = some p->y7 M A (f p b0) (λst s'=>∃ b,st=.done b/\P b s') E s)->y7 M A (Dt l b0 f) P E s:=by
 intro l
 induction l with
 | nil =>
  intro n hn Z he Z
  rw[Er]
  exact y4 (he (by simpa using hn))
 | cons p l ih =>
  intro n hn hy he hd
  cases n with
  | zero =>
   rw[AC]
   refine y0 (zi (hd p rfl) (λst s' q=>?_) λZ Z q=>q)
   obtain⟨b,rfl,q⟩:=q
   exact y4 q
  | succ n =>
   rw[AC]
   refine y0 (hy 0 p (Fx _) rfl _ ?_)
   exact ih n (by simpa using hn) (λi q hi hq=>hy (i+1) q (z8j hi) (by simpa using hq)) (λq=>he (by simp[q])) (λq hq=>hd q (by simpa using hq))
theorem gC{ps qs:List (zK×AQ)}{i:Nat}{z:Value×Value}(h:((ps.map aM).zip (qs.map aM))[i]? = some z):Ex2 λp q=>An3 (ps[i]? = some p) (qs[i]? = some q) (z=(aM p,aM q)):=by
 rw[List.getElem?_zip_eq_some] at h
 obtain⟨h1,h2⟩:=h
 rw[zE] at h1 h2
 obtain⟨p,e1,e2⟩:=z0.mp h1
 obtain⟨q,e3,e4⟩:=z0.mp h2
 exact⟨p,q,e1,e3,by rw[<- Prod.eta z,e2,e4]⟩
noncomputable abbrev cts(ps:List (zK×AQ)):List zK:=ps.map (·.1)
theorem cF{ps:List (zK×AQ)}{i:Nat}{p:zK×AQ}(h:ps[i]? = some p):(cts ps)[i]? = some p.1:=by simp[cts,h]
theorem nR{ps qs:List (zK×AQ)}{Q:VP}(ha:s.heap.get? a=some (aG (ps.map aM)))(hb':s.heap.get? b=some (aG (qs.map aM)))(h:Q (.bool (ltW (cts ps) (cts qs))) s) :
  y7 (y6 prog w) A (call (.builtin "tuple.__lt__") [.ref a,.ref b]) Q E s:=by
 have hTa:s.TypeIs (.ref a) "tuple" := ⟨_,ha,rfl⟩
 have hTb:s.TypeIs (.ref b) "tuple" := ⟨_,hb',rfl⟩
 have l1:=jc (cts ps) (cts qs)
 have l2:=mo (cts ps) (cts qs)
 have hl1:(cts ps).length=ps.length:=by simp
 have hl2:(cts qs).length=qs.length:=by simp
 have hz:((ps.map aM).zip (qs.map aM)).length=L8 ps.length qs.length:=by simp
 refine zX Ge hTa HP ?_ (Hn _ _)
 refine y0 (m:=B9 (.ref b) (.type "tuple")) (AO hTb CL ?_)
 refine zA rfl (y0 (y0 (zy ha rfl (y4 ?_))))
 refine y0 (y0 (zy hb' rfl (y4 ?_)))
 refine y0 (m:=Dt ((ps.map aM).zip (qs.map aM)) _ _) (ke (cpl (cts ps) (cts qs)) (by rw[hz];exact z8k l1 l2 hl1 hl2) (λi z hi hz' Q' hQ=>?_) (λe=>?_) λz hz'=>?_)
 ·obtain⟨p,q,e1,e2,rfl⟩:=gC hz'
  have:=gz _ _ i hi
  rw[cF e1,cF e2] at this
  have e:=AG this
  refine y0 (E9 ?_)
  rw[e,beq_self_eq_true]
  exact zA rfl (y4 hQ)
 ·rw[hz] at e
  rw[iU (z8l hl1 hl2 e)] at h
  refine y4 ⟨_,rfl,?_⟩
  rw[hl1,hl2] at h
  simpa [CF] using h
 ·obtain⟨p,q,e1,e2,rfl⟩:=gC hz'
  have hd:=ip (cts ps) (cts qs) (by rcases AP (cpl (cts ps) (cts qs)) ps.length with z|z;exact z2v hl1 z;rw[zT z] at e1;cases e1) (by rcases AP (cpl (cts ps) (cts qs)) qs.length with z|z;exact z2v hl2 z;rw[zT z] at e2;cases e2)
  rw[uO (cF e1) (cF e2)] at h
  rw[cF e1,cF e2] at hd
  have hne:(p.1==q.1)=false:=beq_eq_false_iff_ne.mpr λz=>hd (by rw[z])
  refine y0 (E9 ?_)
  rw[hne]
  refine Bq rfl (y0 (AS (y0 ?_)))
  refine zi (show y7 _ _ (AK .Lt (aM p) (aM q)) (λv s'=>Q v s') E s from lt_str h) (λv s' q=>y0 (y4 (y4 ?_))) λZ Z q=>q
  exact⟨_,rfl,y4 ⟨_,rfl,q⟩⟩
theorem nS{ps qs:List (zK×AQ)}{Q:VP}(ha:s.heap.get? a=some (aG (ps.map aM)))(hb':s.heap.get? b=some (aG (qs.map aM)))(h:Q (.bool (ltW (cts qs) (cts ps))) s) :
  y7 (y6 prog w) A (call (.builtin "tuple.__gt__") [.ref a,.ref b]) Q E s:=by
 have hTa:s.TypeIs (.ref a) "tuple" := ⟨_,ha,rfl⟩
 have hTb:s.TypeIs (.ref b) "tuple" := ⟨_,hb',rfl⟩
 have l1:=jc (cts ps) (cts qs)
 have l2:=mo (cts ps) (cts qs)
 have hl1:(cts ps).length=ps.length:=by simp
 have hl2:(cts qs).length=qs.length:=by simp
 have hz:((ps.map aM).zip (qs.map aM)).length=L8 ps.length qs.length:=by simp
 refine zX Gf hTa KU ?_ (Kq _ _)
 refine y0 (m:=B9 (.ref b) (.type "tuple")) (AO hTb CL ?_)
 refine zA rfl (y0 (y0 (zy ha rfl (y4 ?_))))
 refine y0 (y0 (zy hb' rfl (y4 ?_)))
 refine y0 (m:=Dt ((ps.map aM).zip (qs.map aM)) _ _) (ke (cpl (cts ps) (cts qs)) (by rw[hz];exact z8k l1 l2 hl1 hl2) (λi z hi hz' Q' hQ=>?_) (λe=>?_) λz hz'=>?_)
 ·obtain⟨p,q,e1,e2,rfl⟩:=gC hz'
  have:=gz _ _ i hi
  rw[cF e1,cF e2] at this
  have e:=AG this
  refine y0 (E9 ?_)
  rw[e,beq_self_eq_true]
  exact zA rfl (y4 hQ)
 ·rw[hz] at e
  rw[iq] at e l1 l2
  rw[iU (z8m hl1 hl2 e)] at h
  refine y4 ⟨_,rfl,?_⟩
  rw[hl1,hl2] at h
  simpa [CF] using h
 ·obtain⟨p,q,e1,e2,rfl⟩:=gC hz'
  have hd:=ip (cts ps) (cts qs) (by rcases AP (cpl (cts ps) (cts qs)) ps.length with z|z;exact z2v hl1 z;rw[zT z] at e1;cases e1) (by rcases AP (cpl (cts ps) (cts qs)) qs.length with z|z;exact z2v hl2 z;rw[zT z] at e2;cases e2)
  have f1:=cF e1
  have f2:=cF e2
  rw[f1,f2] at hd
  rw[iq] at f1 f2
  rw[uO f2 f1] at h
  have hne:(p.1==q.1)=false:=beq_eq_false_iff_ne.mpr λz=>hd (by rw[z])
  refine y0 (E9 ?_)
  rw[hne]
  refine Bq rfl (y0 (AS (y0 ?_)))
  refine zi (show y7 _ _ (AK .Gt (aM p) (aM q)) (λv s'=>Q v s') E s from Mv h) (λv s' q=>y0 (y4 (y4 ?_))) λZ Z q=>q
  exact⟨_,rfl,y4 ⟨_,rfl,q⟩⟩
theorem jy{ps qs:List (zK×AQ)}{Q:VP}(ha:s.heap.get? a=some (aG (ps.map aM)))(hb':s.heap.get? b=some (aG (qs.map aM)))(h:Q (.bool (decide (cts ps=cts qs))) s) :
  y7 (y6 prog w) A (call (.builtin "tuple.__eq__") [.ref a,.ref b]) Q E s:=by
 have hTa:s.TypeIs (.ref a) "tuple" := ⟨_,ha,rfl⟩
 have hTb:s.TypeIs (.ref b) "tuple" := ⟨_,hb',rfl⟩
 have l1:=jc (cts ps) (cts qs)
 have l2:=mo (cts ps) (cts qs)
 have hl1:(cts ps).length=ps.length:=by simp
 have hl2:(cts qs).length=qs.length:=by simp
 have hz:((ps.map aM).zip (qs.map aM)).length=L8 ps.length qs.length:=by simp
 refine zX E7 hTa KV ?_ (Kr _ _)
 refine y0 (m:=B9 (.ref b) (.type "tuple")) (AO hTb CL ?_)
 refine zA rfl (y0 (y0 (zy ha rfl (y4 ?_))))
 refine y0 (y0 (zy hb' rfl (y4 ?_)))
 refine y0 (m:=Dt ((ps.map aM).zip (qs.map aM)) _ _) (ke (cpl (cts ps) (cts qs)) (by rw[hz];exact z8k l1 l2 hl1 hl2) (λi z hi hz' Q' hQ=>?_) (λe=>?_) λz hz'=>?_)
 ·obtain⟨p,q,e1,e2,rfl⟩:=gC hz'
  have:=gz _ _ i hi
  rw[cF e1,cF e2] at this
  have e:=AG this
  refine y0 (E9 ?_)
  rw[e,beq_self_eq_true]
  exact zA rfl (y4 hQ)
 ·rw[hz] at e
  refine y4 ⟨_,rfl,?_⟩
  have:decide (cts ps=cts qs)=decide (ps.length=qs.length):=by
   refine decide_eq_decide.mpr ⟨λq=>by rw[<- hl1,<- hl2,q],λq=>w4 (z8n hl1 e q) (z8o hl2 e q)⟩
  rw[this] at h
  have e2:CF .Eq (ps.map aM).toArray.size (qs.map aM).toArray.size=.bool (decide (ps.length=qs.length)):=by
   simp[CF]
   rfl
  rw[e2];exact h
 ·obtain⟨p,q,e1,e2,rfl⟩:=gC hz'
  have hd:=ip (cts ps) (cts qs) (by rcases AP (cpl (cts ps) (cts qs)) ps.length with z|z;exact z2v hl1 z;rw[zT z] at e1;cases e1) (by rcases AP (cpl (cts ps) (cts qs)) qs.length with z|z;exact z2v hl2 z;rw[zT z] at e2;cases e2)
  rw[decide_eq_false (λq=>hd (by rw[q]))] at h
  rw[cF e1,cF e2] at hd
  have hne:(p.1==q.1)=false:=beq_eq_false_iff_ne.mpr λz=>hd (by rw[z])
  refine y0 (E9 ?_)
  rw[hne]
  exact Bq rfl (y0 (y4 (y4 ⟨_,rfl,y4 ⟨_,rfl,h⟩⟩)))
end
theorem ng(a b:zK)(l r:List zK):ltW (a::l) (b::r)=if a=b then ltW l r else decide (a.cps.toList<b.cps.toList):=by
 by_cases q:a=b
 ·rw[if_pos q]
  unfold ltW
  rw[mq,if_pos q,Fh,Fh,zL,zL,show decide (l.length+1<r.length+1)=decide (l.length<r.length) from decide_eq_decide.mpr Nat.succ_lt_succ_iff]
 ·rw[if_neg q]
  unfold ltW
  rw[mq,if_neg q];rfl
theorem qB:∀ l r:List Nat,ltW (l.map λc=>(⟨#[c]⟩:zK)) (r.map λc=>(⟨#[c]⟩:zK))=decide (l<r):=by
 intro l
 induction l with
 | nil =>
  intro r
  cases r with
  | nil=>rfl
  | cons b r=>rw[iU (.inl (zD _))];simp
 | cons a l ih =>
  intro r
  cases r with
  | nil=>rw[iU (.inr (zD _))];simp
  | cons b r =>
   rw[AD,AD,ng,ih r]
   by_cases q:a=b
   ·subst q
    rw[if_pos rfl]
    refine decide_eq_decide.mpr ?_
    simp[IN]
   ·rw[if_neg (λz=>q (by injection z with z;injection z with z;injection z))]
    refine decide_eq_decide.mpr ?_
    simp[IN,q]
theorem iT(x y:zK):ltW (aA x) (aA y)=decide (x.cps.toList<y.cps.toList):=qB _ _
theorem iW{x y:zK}(h:aA x=aA y):x=y:=by
 have:=DR (f:=λc=>(⟨#[c]⟩:zK)) (λa b e=>by injection e with z;injection z with z;injection z) |>.mp h
 obtain⟨a⟩:=x
 obtain⟨b⟩:=y
 have:a=b:=EH.mp this
 rw[this]
structure WX where
 v:Value
 c:List zK
noncomputable def isR:Value->Bool
 | .ref _=>true
 | _=>false
inductive WH (h:AJ):WX->Prop
 | str (y:zK) (t:AQ):y.cps.size<=60->WH h ⟨.str y t,aA y⟩
 | tup (a:zh) (ps:List (zK×AQ)):h.get? a=some (aG (ps.map aM))->ps.length<=60->WH h ⟨.ref a,cts ps⟩
section
variable{x y:WX}
theorem kM{Q:BP}(hu:A.units<AB)(hx:WH s.heap x)(hy:WH s.heap y)(hk:isR x.v=isR y.v)(h:Q (decide (x.c=y.c)) s):y7 (y6 prog w) A (Fy x.v y.v) Q E s:=by
 cases hx with
 | str a t =>
  cases hy with
  | str b u =>
   refine E9 ?_
   rw[show (a==b)=decide (aA a=aA b) from by
    by_cases q:a=b
    ·subst q;simp
    ·rw[beq_eq_false_iff_ne.mpr q,decide_eq_false λz=>q (iW z)]]
   exact h
  | tup b qs hb hl=>cases hk
 | tup a ps ha hl =>
  cases hy with
  | str b u=>cases hk
  | tup b qs hb hl' =>
   unfold Fy
   try with_reducible refine zs ?_
   by_cases hab:(AW a==AW b)=true
   ·refine bW hab ?_
    have ea:a=b:=by have:=Aw hab;injection this
    subst ea
    rw[ha] at hb
    have e1:=congrArg Mw (AG hb)
    injection e1 with e1 _
    have e2:ps.map aM=qs.map aM:=by simpa using congrArg Iu e1
    have e3:ps=qs:=DR (f:=aM) (λp q e=>by injection e with e1 e2;exact Ks e1 e2) |>.mp e2
    rw[show decide ((⟨.ref a,cts ps⟩:WX).c=(⟨.ref a,cts qs⟩:WX).c)=true from decide_eq_true (by rw[e3])] at h
    exact y0 (AS (y4 h))
   ·refine aQ hab (y0 (Bz (op:=.Eq) ⟨_,ha,rfl⟩ ⟨_,hb,rfl⟩ E7 (jy ha hb ?_) hu))
    exact⟨nofun,zb h⟩
theorem xp{Q:VP}(hu:A.units<AB)(hx:WH s.heap x)(hy:WH s.heap y)(hk:isR x.v=isR y.v)(h:Q (.bool (ltW x.c y.c)) s):y7 (y6 prog w) A (AK .Lt x.v y.v) Q E s:=by
 cases hx with
 | str a t =>
  cases hy with
  | str b u =>
   refine lt_str ?_
   rw[<- iT];exact h
  | tup b qs hb hl=>cases hk
 | tup a ps ha hl =>
  cases hy with
  | str b u=>cases hk
  | tup b qs hb hl' =>
   exact Bz (op:=.Lt) ⟨_,ha,rfl⟩ ⟨_,hb,rfl⟩ Ge (nR ha hb ⟨nofun,h⟩) hu
theorem wx_gt{Q:VP}(hu:A.units<AB)(hx:WH s.heap x)(hy:WH s.heap y)(hk:isR x.v=isR y.v)(h:Q (.bool (ltW y.c x.c)) s):y7 (y6 prog w) A (AK .Gt x.v y.v) Q E s:=by
 cases hx with
 | str a t =>
  cases hy with
  | str b u =>
   refine Mv ?_
   rw[<- iT];exact h
  | tup b qs hb hl=>cases hk
 | tup a ps ha hl =>
  cases hy with
  | str b u=>cases hk
  | tup b qs hb hl' =>
   exact Bz (op:=.Gt) ⟨_,ha,rfl⟩ ⟨_,hb,rfl⟩ Gf (nS ha hb ⟨nofun,h⟩) hu
end
section
open AutoSeq1 (wpAny_loadPart')
section
variable{items:Array Value}
theorem vj{x:Value}{Q:VP}(hit:s.heap.IsTupleIter it t i)(ht:s.heap.IsTuple t items)(hx:items[i]? = some x)
  (hQ:∀ h',h'.IsTupleIter it t (i+1)->BZ it s.heap h'->Q x { s with heap:=h' }):y7 (y6 prog w) A (B6 (.ref it)) Q E s:=by
 obtain⟨o,ho,hc,hd⟩:=id hit
 obtain⟨ot,hot,_,n,hdt⟩:=ht
 refine y0 (Ab (name:=yZ "__next__") hit.typeIs AT (zX AT hit.typeIs C4 ?_ (C1 _)))
 refine y0 (m:=FX (.ref it) 0) (AN ho hd (x:=.ref t) rfl ?_)
 refine zA rfl (y0 (m:=FX (.ref it) 1) (AN ho hd (x:=.int i 0) rfl ?_))
 refine y0 (m:=BQ (.ref t)) (zy hot hdt ?_)
 simp only[Fu,hx]
 refine y0 (DG ho hd (by simp) (y4 ⟨x,rfl,y4 (hQ _ ⟨_,zt _ ho (IM (E8 hd _)),(Kl ..).trans hc,?_⟩ (zw ..))⟩))
 rw[E8 hd];simp[Cz]
theorem xy{Q:VP}(hh:A.handled=none)(hit:s.heap.IsTupleIter it t i)(ht:s.heap.IsTuple t items)(hx:items[i]? = none)
  (hE:∀ h' e,He it s.heap h'->(∃ o,h'.get? e=some o/\o.cls=.type "StopIteration")->E (.ref e) { s with heap:=h' }):y7 (y6 prog w) A (B6 (.ref it)) Q E s:=by
 obtain⟨o,ho,hc,hd⟩:=id hit
 obtain⟨ot,hot,_,n,hdt⟩:=ht
 refine y0 (Ab (name:=yZ "__next__") hit.typeIs AT (zX AT hit.typeIs C4 ?_ (C1 _)))
 refine y0 (m:=FX (.ref it) 0) (AN ho hd (x:=.ref t) rfl ?_)
 refine zA rfl (y0 (m:=FX (.ref it) 1) (AN ho hd (x:=.int i 0) rfl ?_))
 refine y0 (m:=BQ (.ref t)) (zy hot hdt ?_)
 simp only[Fu,hx]
 refine y0 (AS (y0 (DG ho hd (by simp) ?_)))
 refine y0 (m:=NE (.type "StopIteration") []) (y0 (Af ?_ (by size_fits)))
 refine y0 (m:=De _ _) (Ay (a:=CO) (by first|rfl|(simp only[De];rfl)) ?_)
 refine Af ?_ (by size_fits)
 refine y0 (HA ?_)
 first|rw[show A.in1.handled=none from hh]|rw[hh]
 refine y0 (y4 (I7 ?_))
 exact hE _ _ (((zw ..).extBut.push _).push _) ⟨_,zU _ rfl,rfl⟩
theorem q5(hh:A.handled=none)(hne:t≠it):Draws prog w A it [it,t] items.size (λi v=>items[i]? = some v) (λi h=>h.IsTupleIter it t i/\h.IsTuple t items) where
 live:=λZ Z st=>by obtain⟨o,ho,_⟩:=st.1;exact⟨o,ho⟩
 frame:=λZ Z Z st hk=>⟨st.1.at λo e=>hk it (by simp) o e,st.2.at λo e=>hk t (by simp) o e⟩
 item:=λi s Q E hi st hQ=>by
  exact vj st.1 st.2 (x:=items[i]) (by simp[hi]) λh' hit' hs'=>(hQ _ h' s.toks (by simp[hi]) ⟨hit',st.2.extBut hs'.extBut hne⟩ hs')
 done:=λs Q E st hE=>xy hh st.1 st.2 (by simp) hE
end
theorem sB{M:HL}{A:AU}{E:VP}{s:zc}{a:Bool}{Q:BP}(h:∀ b,Q b s):y7 M A (AA a) Q E s:=y4 (h a)
theorem qZ(l:zh)(items:Array Value)(n:Nat)(dct:Option zh)(sl:Array (Option Value)) :
  Meets (Az.«enumerate.__new__» ⟨[.type "enumerate", .ref l],[]⟩) (λZ R s=>s.heap.get? l=some { cls:=.type "tuple", dict:=dct,data:=.seq items n,slots:=sl } /\
   R (.ok (.ret (.ref (s.heap.push { cls:=.type "tuple_iterator", data:=.fields #[.ref l,.int 0 0] }).objs.size)))
    { s with heap:=(s.heap.push { cls:=.type "tuple_iterator", data:=.fields #[.ref l,.int 0 0] }).push { cls:=.type "enumerate", data:=.fields #[.none,.bool false,.ref s.heap.objs.size,Cz 0,.none,.none] } }) :=
 .of_wp λprog w A R s h=>by
  obtain⟨hp,g,d,tk,os⟩:=s;obtain⟨hl,h⟩:=h
  have hsub:=sub_enumerate
  have hL:Heap.IsTuple (Hj ⟨hp,g,d,tk,os⟩) l items:=⟨_,hl,rfl,n,rfl⟩
  wp_walk using Gg hl
  refine wpAny_stack_any λst=>sB λb=>?_
  cases b
  ·wp_walk using Gg hl,GG hL
   exact⟨_,rfl,h⟩
  ·wp_walk using Gg hl,GG hL
   exact⟨_,rfl,h⟩
end
section
variable{tabs:List zh}{a:zh}{ps:List (zK×AQ)}
theorem ll{i:Nat}{v:Value}(h:(ps.map aM)[i]? = some v):uo (cts ps) i v:=by
 rw[zE] at h
 obtain⟨p,e,rfl⟩:=z0.mp h
 exact⟨p.1,p.2,cF e,rfl⟩
theorem kE{vs:List Value}{Q:VP}(hL:s.heap.get? a=some (aG vs))
  (h:∀ h',IsEnum h' (s.heap.objs.size+1) s.heap.objs.size 0 .none->h'.IsTupleIter s.heap.objs.size a 0->h'.objs.size=s.heap.objs.size+2 ->
   (∀ b o,s.heap.get? b=some o->h'.get? b=some o)->Q (.ref (s.heap.objs.size+1)) { s with heap:=h' }) :
  y7 (y6 prog w) A (call (.type "enumerate") [.ref a]) Q E s:=by
 refine Ie F.called_enumerate (by decide) (F.typeCall_enumerate_1 _) (F.newCall_enumerate_1 _) (λobj=>I8 obj _) F.entry_enumerate_new
  (qZ a vs.toArray _ _ _) ⟨hL,?_⟩
 have hz:(s.heap.push { cls:=.type "tuple_iterator", data:=.fields #[.ref a,.int 0 0] }).objs.size=s.heap.objs.size+1:=GQ ..
 rw[hz]
 have he:IsEnum ((s.heap.push { cls:=.type "tuple_iterator", data:=.fields #[.ref a,.int 0 0] }).push
   { cls:=.type "enumerate", data:=.fields #[.none,.bool false,.ref s.heap.objs.size,Cz 0,.none,.none] }) (s.heap.objs.size+1) s.heap.objs.size 0 .none:=by
  have:=zU (s.heap.push { cls:=.type "tuple_iterator", data:=.fields #[.ref a,.int 0 0] })
   (o:={ cls:=.type "enumerate", data:=.fields #[.none,.bool false,.ref s.heap.objs.size,Cz 0,.none,.none] }) rfl
  rw[hz] at this;exact this
 exact⟨⟨_,he,rfl⟩,h _ he ⟨_,zC _ (zU _ rfl),rfl,rfl⟩ (by rw[GQ,hz]) λb o x=>zC _ (zC _ x)⟩
theorem xA(hl:ps.length<=60):SqV prog w hb tabs [(a,aG (ps.map aM))] (.ref a) (cts ps) where
 len:=λ{A E s L l T Q} S hR h=>by
  have ho:=S.obj _ (hR _ (.head _))
  have e:(ps.map aM).toArray.size=(cts ps).length:=by simp
  refine Na (items:=(ps.map aM).toArray) ⟨_,ho,rfl,_,rfl⟩ (by rw[e];simp;exact z8p hl) ?_
  rw[e]
  exact h _ _
 hand:=rfl
 small:=by simpa using hl
 item:=λ{A E s L l T Q value slice i u c} S hR hi h hs=>by
  have ho:=S.obj _ (hR _ (.head _))
  have hlt:i<ps.length:=by
   rcases AP i ps.length with q|q
   ·exact q
   ·rw[zT (by simpa using q)] at hi;nomatch hi
  have hx:(ps.map aM).toArray[i]? = some (.str c (ps[i]).2):=by
   have:(cts ps)[i]? = some (ps[i]).1:=cF (by simp[hlt])
   rw[this] at hi
   rw[<- AG hi]
   simp[hlt]
  refine Nq (T := "tuple") ⟨_,ho,rfl⟩ CG.lookup (Mx (items:=(ps.map aM).toArray) (j:=i) ⟨_,ho,rfl,_,rfl⟩ (by lia) (by lia) ?_ hx (h _ _)) (hs _ _)
  unfold HO
  simp
  exact x11 hlt
 iter:=λ{A E s L l T Q} S hR h=>by
  refine pT S (hR _ (.head _)) λI o Wt fp h' IV hw S'=>h I o Wt fp h' ⟨λA hA=>?_,IV.ex,λb hb' hn=>?_⟩ hw S'
  ·have W:=IV.walks A hA
   rw[ze] at W
   rw[show (cts ps).length=ps.length by simp]
   exact bM W λi v e=>ll e
  ·exact IV.ro b hb' hn
 enum:=λ{A E s L l T Q} hh S hR h=>by
  have ho:=S.obj _ (hR _ (.head _))
  have hne:a≠s.heap.objs.size:=Ag (S.lt (hR _ (.head _)))
  have hlt:a<s.heap.objs.size:=S.lt (hR _ (.head _))
  refine kE ho λh' he hi hz hk=>?_
  obtain⟨oe,hoe⟩:=gv he
  obtain⟨oi,hoi,-⟩:=id hi
  have S':St hb tabs L l (T++[(s.heap.objs.size+1,oe),(s.heap.objs.size,oi)]) h':=S.adds hk (λp hp=>by
   rcases za.mp hp with rfl|hp
   ·exact hoe
   ·rcases za.mp hp with rfl|hp
    ·exact hoi
    ·nomatch hp) (λp hp=>by
   rcases za.mp hp with rfl|hp
   ·exact C6 _
   ·rcases za.mp hp with rfl|hp
    ·exact zk _
    ·nomatch hp) (by simp)
  have hsz:(ps.map aM).toArray.size=(cts ps).length:=by simp
  have hD:∀ A':AU,A'.handled=none->Draws prog w A'.in1 s.heap.objs.size [s.heap.objs.size,a] (cts ps).length (λi v=>(ps.map aM).toArray[i]? = some v) (λi h=>h.IsTupleIter s.heap.objs.size a i/\h.IsTuple a (ps.map aM).toArray):=λA' hA=>by
   have D:=q5 (prog:=prog) (w:=w) (A:=A'.in1) (items:=(ps.map aM).toArray) hA hne
   rw[hsz] at D
   exact D
  have hnm:s.heap.objs.size+1∉[s.heap.objs.size,a]:=by
   simp only[za,List.not_mem_nil,or_false,not_or]
   exact⟨FQ _,λq=>absurd hlt (Bw.mpr (q▸C6 _))⟩
  refine h _ _ _ _ _ _ _ _ ⟨λA' hA=>eS (toU (Hi (hD A' hA) (s.heap.objs.size+1) (FQ _) hnm (by simp))) (λi v q=>?e1),?e2,?e3⟩ ⟨⟨_,he⟩,hi,⟨_,hk _ _ ho,rfl,_,rfl⟩⟩ S'
  case e1 =>
   obtain⟨t,x',a',b'⟩:=q
   exact⟨t,x',ll (by simpa using a'),b'⟩
  case e2 =>
   rintro i h ⟨⟨old,q⟩,q2,_⟩ b hb'
   rcases za.mp hb' with rfl|hb'
   ·exact gv q
   ·rw[y9] at hb';subst hb'
    obtain⟨o,e,_⟩:=q2
    exact⟨o,e⟩
  case e3 =>
   intro b hb' hn
   rcases za.mp hb' with rfl|hb'
   ·exact absurd (.head _) hn
   ·rcases za.mp hb' with rfl|hb'
    ·exact absurd (aj (.head _)) hn
    ·rw[y9] at hb';subst hb'
     exact .inl ⟨_,.head _⟩
inductive WT (T:LO):WX->Prop
 | str (y:zK) (t:AQ):y.cps.size<=60->WT T ⟨.str y t,aA y⟩
 | tup (a:zh) (ps:List (zK×AQ)):(a,aG (ps.map aM))∈T->ps.length<=60->WT T ⟨.ref a,cts ps⟩
theorem WT.mono{T T':LO}{x:WX}(h:WT T x)(hs:∀ p∈T,p∈T'):WT T' x:=by
 cases h with
 | str y t q=>exact .str y t q
 | tup a ps q q2=>exact .tup a ps (hs _ q) q2
theorem WT.wh{T:LO}{L:zh}{l:LV}{h:AJ}{x:WX}(W:WT T x)(S:St hb tabs L l T h):WH h x:=by
 cases W with
 | str y t q=>exact .str y t q
 | tup a ps q q2=>exact .tup a ps (S.obj _ q) q2
theorem WT.sq{T:LO}{x:WX}(W:WT T x):∃ Ra,(∀ p∈Ra,p∈T)/\SqV prog w hb tabs Ra x.v x.c:=by
 cases W with
 | str y t q=>exact⟨[],λp hp=>(nomatch hp),uw y t q⟩
 | tup a ps q q2=>exact⟨_,λp hp=>by rw[y9] at hp;rw[hp];exact q,xA q2⟩
end
structure Sc where
 a:zh
 f:UInt64
 ft:AQ
 x:WX
noncomputable def aB(l:List Sc):List Value:=l.map λe=>.ref e.a
def SOk(T:LO)(l:List Sc):Prop:=∀ e∈l,(e.a,aG [.float e.f e.ft,e.x.v])∈T
theorem SOk.mono{T T':LO}{l:List Sc}(h:SOk T l)(hs:∀ p∈T,p∈T'):SOk T' l:=λe he=>hs _ (h e he)
theorem jC(l:List Sc)(e:Sc):aB (l++[e])=aB l++[.ref e.a]:=by simp[aB]
theorem aJ(l:List Sc):(aB l).length=l.length:=by simp[aB]
structure ut(w:As)(cut:Value)(g:UInt64->Bool):Prop where
 ge:∀ {A:AU}{E:VP}{s:zc}{f:UInt64}{t:AQ}{Q:VP},Q (.bool (g f)) s->y7 (y6 pw w) A (AK .GtE (.float f t) cut) Q E s
 lo:∀ {A:AU}{E:VP}{s:zc}{t:AQ}{Q:VP},Q (.bool true) s->y7 (y6 pw w) A (AK .LtE (.float 0 t) cut) Q E s
 hi:∀ {A:AU}{E:VP}{s:zc}{t:AQ}{Q:VP},Q (.bool true) s->y7 (y6 pw w) A (AK .LtE cut (.float 4607182418800017408 t)) Q E s
noncomputable def scr(x wd:List zK):UInt64:=bK (mall x wd) (x.length+wd.length)
noncomputable def jr(g:UInt64->Bool)(x wd:List zK):Bool :=
 g (bK (L8 x.length wd.length) (x.length+wd.length))&&(g (bK (qp wd x) (x.length+wd.length))&&g (scr x wd))
theorem apA{α:Type}(a b c d:List α):a++(b++c++d)=a++b++c++d:=by simp
theorem apB{α:Type}(a b c d e:List α):a++(b++c++d++e)=a++b++c++d++e:=by simp
theorem apC{α:Type}(a b c d e f:List α):a++(b++c++d++e++f)=a++b++c++d++e++f:=by simp
theorem pswap{α:Type}{t a b r:α}{Z:List α}:(t::a::b::r::Z).Perm (r::a::b::t::Z) :=
 ((zM (l₁:=[t,a,b]) (l₂:=[r])).append_right Z).trans ((zP r (zM (l₁:=[t]) (l₂:=[a,b]))).append_right Z)
theorem vY{α:Type}{a b r:α}{Z:List α}:(a::b::r::Z).Perm (r::a::b::Z):=pm21
section
variable{x sm:zh}{T X own:LO}{l:LV}{nv:Value}{rows:List aW}{led:Bool}{wd p xv:WX}{Rw Rx Rp:LO}{Es:List Sc}
noncomputable abbrev nmC (sm res pd:zh) (wv:Value) (nv cut:Value):LV:=[(yZ "s", .ref sm),(yZ "result", .ref res),(yZ "word", wv),(yZ "possibilities", .ref pd),(yZ "n", nv),(yZ "cutoff", cut)]
noncomputable abbrev lr(w:As)(L':zh):II:=Ah (dI w.params) L' 286
noncomputable abbrev gcmB:List Cv:=aD (((aD (st1 pw 10))[6]?).getD AF)
theorem tG(G:GK w hb)(B:BM hb)(hd:A.depth+12<zj)(hu:A.units+80<AB)(hh:A.handled=none)(C:ut w cut g)
  (S:St hb tabs L' (nmC sm res pd wv nv cut) ((res,ap (aB Es) nr)::(sm,smO dx)::(dx,od)::(X++T++own)) s.heap) (hlen:Es.length<=60)
  (hf:bH od (mf p.v wd.v mb fc (.ref d2) (.ref sj) sp)) (hmb:rH (X++T) mb p.c wd.c) (hfc:Fc w (X++T) fc wd.c)
  (hd2:(d2,o2)∈T) (ho2:o2.IsDictOf (Ap pw w) (rows.map aW.kv)) (hrows:cI wd.c rows) (hob:∀ r∈rows,r.ob∈T) (hsj:(sj,cJ led)∈T)
  (Vx:SqV pw w hb tabs Rx xv.v xv.c) (hRx:∀ p∈Rx,p∈T) (Vp:SqV pw w hb tabs Rp p.v p.c) (hRp:∀ p∈Rp,p∈T) (Vw:SqV pw w hb tabs Rw wd.v wd.c) (hRw:∀ p∈Rw,p∈T) (told:aP w T xv.v p.v (xv.c=p.c)) {Q:FP}
  (k:∀ s' od' mb' fc' p' X' Es' nr',Kp s s'->St hb tabs L' (nmC sm res pd wv nv cut) ((res,ap (aB Es') nr')::(sm,smO dx)::(dx,od')::(X'++X++T++own)) s'.heap ->
   bH od' (mf p'.v wd.v mb' fc' (.ref d2) (.ref sj) sp)->rH (X'++X++T) mb' p'.c wd.c->Fc w (X'++X++T) fc' wd.c->(p'=p\/p'=xv) ->
   (jr g xv.c wd.c=false/\Es'=Es\/jr g xv.c wd.c=true/\Ex2 λa t=>An4 (Es'=Es++[⟨a,scr xv.c wd.c,t,xv⟩]) ((a,aG [.float (scr xv.c wd.c) t,xv.v])∈X') (s.toks<=t) (t<s'.toks))->s.toks<=s'.toks->Q .next s')
  {tgt:Expr} (htg:tgt=(stP (((aD (st1 pw 10))[6]?).getD AF)).2.2.2.2) :
  y7 (y6 pw w) (A.deeper (lr w L')) (BR tgt (lr w L') xv.v) (λZ ag=>y7 (y6 pw w) (A.deeper (lr w L')) (z5 gcmB (lr w L')) Q E ag) E s:=by
 subst htg
 refine aU (aq S (.new (by kernel_rfl)) ?_)
 refine λai ah=>restateT ah λs₁ ar b6 ah=>?_
 replace ar:Kp s s₁:=⟨ar.os,ar.gens⟩
 have rest:∀ (ag:zc) od2 mb2 c0 {E':VP},s.toks<=ag.toks->Kp s ag->St hb tabs L' ((yZ "x", xv.v)::nmC sm res pd wv nv cut) ((sm,smO dx)::(dx,od2)::(res,ap (aB Es) nr)::(X++T++own)) ag.heap ->
   bH od2 (mf c0.v wd.v mb2 fc (.ref d2) (.ref sj) sp)->rH (X++T) mb2 c0.c wd.c->(c0=p\/c0=xv)->c0.c=xv.c ->
   y7 (y6 pw w) (A.deeper (lr w L')) (z5 (gcmB.drop 1) (lr w L')) Q E' ag:=by
  intro ag od2 mb2 c0 E' hk2 ao af hf2 hmb2 er d9
  obtain⟨Ra,hRa,Va⟩:∃ Ra,(∀ p∈Ra,p∈T)/\SqV pw w hb tabs Ra c0.v xv.c:=by
   rcases er with rfl|rfl
   ·exact⟨Rp,hRp,d9▸Vp⟩
   ·exact⟨Rx,hRx,Vx⟩
  rw[d9] at hmb2
  have hsa:=Va.small
  have hsb:=Vw.small
  have hi0:∀ X:LO,∀ p∈T,p∈X++T++own:=λX p hp=>y8 _ (y5 _ hp)
  let P:zc->Prop:=λs5=>Ex6 λod' mb' fc' X' Es' nr'=>An7 (Kp s s5) (St hb tabs L' ((yZ "x", xv.v)::nmC sm res pd wv nv cut) ((res,ap (aB Es') nr')::(sm,smO dx)::(dx,od')::(X'++X++T++own)) s5.heap) (bH od' (mf c0.v wd.v mb' fc' (.ref d2) (.ref sj) sp)) (rH (X'++X++T) mb' xv.c wd.c) (Fc w (X'++X++T) fc' wd.c) ((jr g xv.c wd.c=false/\Es'=Es\/jr g xv.c wd.c=true/\Ex2 λa t=>An4 (Es'=Es++[⟨a,scr xv.c wd.c,t,xv⟩]) ((a,aG [.float (scr xv.c wd.c) t,xv.v])∈X') (s.toks<=t) (t<s5.toks))) (s.toks<=s5.toks)
  refine k8 P ?_ ?_
  ·refine AH (n:=s.toks) hk2 (cC (wpAny_isTrue_Compare1 (aV (ac af m1 (dM (f:=267) G af m0 m1 hf2 (cR G (zq ?_)))))))
   refine⟨⟨_,_,_,af⟩,?_⟩
   refine n5 G af (by show A.depth+1+1<_;exact dn 10 hd) hh m0 m1 hf2 m1 m2 Va Vw (λp hp=>aj (aj (aj (hi0 _ p (hRa p hp))))) (λp hp=>aj (aj (aj (hi0 _ p (hRw p hp))))) (λak bn bx ae=>ac ae m6 (C.ge (restate ae λs3 aw ae=>?_)))
   replace aw:Kp s s3:=kt ao aw
   refine zb ⟨λg1=>?_,λg1=>?_⟩
   ·refine cC (wpAny_isTrue_Compare1 (aV (ac ae m1 (dM (f:=260) G ae m0 m1 hf2 (cR G (zq ⟨⟨_,_,_,ae⟩,?_⟩))))))
    refine quick_ratio (T₀:=X++T) (λp hp=>aj (y8 _ hp)) G ae (by show A.depth+1+1<_;exact dn 10 hd) hh hf2 hfc Va Vw (λp hp=>aj (hi0 _ p (hRa p hp))) (λp hp=>aj (hi0 _ p (hRw p hp))) ?_
    intro s4 fy od4 X4 fc4 K4 S4 hf4 hfc4
    replace K4:Kp s s4:=kt aw K4
    replace S4:=S4.perm (T':=(sm,smO dx)::(dx,od4)::(res,ap (aB Es) nr)::(X4++X++T++own)) (by rw[<- apA];exact zP _ (zP _ zv))
    have hfc4':Fc w (X4++X++T) fc4 wd.c:=by rw[zx];exact hfc4
    refine ac S4 m6 (C.ge (zb ⟨λg2=>?_,λg2=>?_⟩))
    ·refine cC (wpAny_isTrue_Compare1 (aV (ac S4 m1 (dM (f:=253) G S4 m0 m1 hf4 (cR G (zq ⟨⟨_,_,_,S4⟩,?_⟩))))))
     have hin:=hi0 (X4++X)
     have hmb4:rH (X4++X++T) mb2 xv.c wd.c:=hmb2.mono λp hp=>by rw[zx];exact y5 _ hp
     refine mO (T₀:=X4++X++T) (λp hp=>y8 _ hp) G B S4 (by show A.depth+1+6<_;exact dn 5 hd) (by show A.units+3+40<_;exact dn 37 hu) hh hf4 hmb4 (hin _ hd2) ho2 hrows (λr hr=>hin _ (hob r hr)) (hin _ hsj) Va Vw (λp hp=>hin _ (hRa p hp)) (λp hp=>hin _ (hRw p hp)) ?_
     intro s5 od5 X5 mb5 eo Z Z K5 S5 hf5 hmb5
     replace K5:Kp s s5:=kt K4 K5
     have hfc5:Fc w (X5++(X4++X++T)) fc4 wd.c:=hfc4'.mono λp hp=>y5 _ hp
     rw[apA] at hmb5 hfc5
     rw[apB] at S5
     refine ac S5 m6 (C.ge (zb ⟨λg3=>?_,λg3=>?_⟩))
     ·refine GU λhk5=>⟨λZ=>?_,nofun⟩
      have hk:jr g xv.c wd.c=true:=by
       unfold jr scr
       rw[g1,g2,g3];rfl
      refine bR (aV (ac S5 m2 (cL S5 m2 By CP (aH (args_cons (bP (args_cons ?_)))))))
      refine aV (ac S5 m1 (dM (f:=253) G S5 m0 m1 hf5 (cR G (zq ⟨⟨_,_,_,S5⟩,?_⟩))))
      have hin5:=hi0 (X5++X4++X)
      refine mO (T₀:=X5++X4++X++T) (λp hp=>y8 _ hp) G B S5 (by show A.depth+1+6<_;exact dn 5 hd) (by show A.units+3+40<_;exact dn 37 hu) hh hf5 hmb5 (hin5 _ hd2) ho2 hrows (λr hr=>hin5 _ (hob r hr)) (hin5 _ hsj) Va Vw (λp hp=>hin5 _ (hRa p hp)) (λp hp=>hin5 _ (hRw p hp)) ?_
      intro s6 od6 X6 mb6 t6 ht1 ht2 K6 S6 hf6 hmb6
      replace K6:Kp s s6:=kt K5 K6
      have hfc6:Fc w (X6++(X5++X4++X++T)) fc4 wd.c:=hfc5.mono λp hp=>y5 _ hp
      refine bln S6 m0 ⟨rfl,_,_,_,_,_,S6,?_⟩
      refine λtt ba S7=>zq (cA 3 S7 rfl ?_ (by rw[aJ];exact up 9940 hlen))
      refine λbc S8=>aE ⟨rfl,od6,mb6,fc4,(tt,aG [.float (scr xv.c wd.c) t6,xv.v])::(X6++X5++X4),Es++[⟨tt,scr xv.c wd.c,t6,xv⟩],nr+1,⟨K6.os,K6.gens⟩,?_,hf6,?_,?_,.inr ⟨hk,tt,t6,rfl,.head _,zn hk5 ht1,ht2⟩,zn hk5 (zn ht1 (Ak ht2))⟩
      ·rw[jC]
       rw[apC] at S8
       exact S8.perm pswap
      ·rw[show (tt,aG [.float (scr xv.c wd.c) t6,xv.v])::(X6++X5++X4)++X++T=(tt,aG [.float (scr xv.c wd.c) t6,xv.v])::(X6++(X5++X4++X++T)) by simp]
       exact hmb6.mono λp hp=>aj hp
      ·rw[show (tt,aG [.float (scr xv.c wd.c) t6,xv.v])::(X6++X5++X4)++X++T=(tt,aG [.float (scr xv.c wd.c) t6,xv.v])::(X6++(X5++X4++X++T)) by simp]
       exact hfc6.mono λp hp=>aj hp
     ·refine λhkk=>⟨nofun,λZ=>aE ?_⟩
      exact⟨rfl,od5,mb5,fc4,X5++X4,Es,nr,K5,S5.perm vY,hf5,hmb5,hfc5,.inl ⟨by unfold jr scr;rw[g3];simp,rfl⟩,hkk⟩
    ·refine λhkk=>⟨nofun,λZ=>aE ?_⟩
     exact⟨rfl,od4,mb2,fc4,X4,Es,nr,⟨K4.os,K4.gens⟩,S4.perm vY,hf4,hmb2.mono (λp hp=>by rw[zx];exact y5 _ hp),hfc4',.inl ⟨by unfold jr;rw[g2];simp,rfl⟩,hkk⟩
   ·refine λhkk=>⟨nofun,λZ=>aE ?_⟩
    exact⟨rfl,od2,mb2,fc,[],Es,nr,⟨aw.os,aw.gens⟩,ae.perm vY,hf2,hmb2,hfc,.inl ⟨by
     unfold jr
     rw[g1];simp,rfl⟩,hkk⟩
  ·rintro s5 ⟨od',mb',fc',X',Es',nr',K5,S5,hf5,hmb5,hfc5,hE,hk5⟩
   exact aE (k s5 od' mb' fc' c0 X' Es' nr' K5 (S5.forget (.cons _ (Al _))) hf5 (d9.symm▸hmb5) hfc5 er hE hk5)
 refine bR (AH (n:=s.toks) (by simp only at b6;exact z1f b6) (aV (ac ah m1 (dM (f:=202) G ah m1 m2 hf (cR G (bln ah m0 ⟨⟨_,_,_,ah⟩,?_⟩))))))
 have af:=ah.perm (T':=(sm,smO dx)::(dx,od)::((res,ap (aB Es) nr)::(X++T++own))) (rM)
 refine set_seq1 (C:=xv.c=p.c) (av:=p.v) (fl1:=mf xv.v wd.v mb fc (.ref d2) (.ref sj) sp) (fl2:=mf xv.v wd.v .none fc (.ref d2) (.ref sj) sp) (fl3:=mf xv.v wd.v .none fc (.ref d2) (.ref sj) sp) G af (by show A.depth+1<_;exact dn 11 hd) hf m1 Vp.hand told (λp hp=>aj (y8 _ (y5 _ hp)))
  (.there (by kernel_rfl) .here) (.there (by kernel_rfl) (.there (by kernel_rfl) (.there (by kernel_rfl) (.there (by kernel_rfl) .here)))) (.there (by kernel_rfl) (.there (by kernel_rfl) (.there (by kernel_rfl) (.there (by kernel_rfl) (.there (by kernel_rfl) .here))))) rfl rfl rfl ?_ ?_
 ·exact λhc ak bn ae=>λhk=>rest _ od mb p hk ⟨ar.os,ar.gens⟩ ae hf hmb (.inl rfl) hc.symm
 ·exact λak bn od3 ae hf3=>λhk=>rest _ od3 .none xv hk ⟨ar.os,ar.gens⟩ ae hf3 (.inl rfl) (.inr rfl) rfl
end
section
variable{tabs:List zh}{l l':LV}{T:LO}{x:zK}{v:Value}{pos:Ej}
theorem ay{Q:VP}(S:St hb tabs env.locals l T s.heap)(hv:(x,v)∈l)(h:Q v s)
  (c:oz env.scope (env.kindOf x) x=true:=by kernel_rfl) :
  y7 (y6 prog w) A (Ax (.Name x pos) env) Q E s:=by
 obtain⟨hk,hl,hd⟩:=kf c
 obtain⟨m,a,b,_⟩:=S.fm.ns
 exact H4 (Dp hk hl a (b _ hv) h) hd
theorem aT{Q:UP}(S:St hb tabs env.locals l T s.heap)(st:bU l x v l')(h:∀ h',St hb tabs env.locals l' T h'->Q () (wht s h' (s.toks+1)))
  (c:sQ env.scope (env.kindOf x)=true:=by kernel_rfl) :
  y7 (y6 prog w) A (Ff env x v) Q E s:=by
 obtain⟨hk,hl⟩:=qC c
 obtain⟨m,a,b,c⟩:=S.fm.ns
 exact FH hl a (λh' hn hs=>h h' (S.setNs (st.fm hn b c) hs)) (by rw[hk];rfl)
theorem ib{n:zK}{es:List Expr}{y:Value}{ys:List Value}{Q:UP}(S:St hb tabs env.locals l T s.heap)(st:bU l n y l')
  (h:∀ h',St hb tabs env.locals l' T h'->kOrd (y6 prog w) A E ((BS es env).map (·.2)) ys Q () (wht s h' (s.toks+1))) (c:sQ env.scope (env.kindOf n)=true:=by kernel_rfl) :
  y7 (y6 prog w) A (Cf ((BS (.Name n pos::es) env).map (·.2)) (y::ys)) Q E s:=aZ (aT S st h c)
theorem rD{Q:UP}(S:St hb tabs env.locals l T s.heap)(st:bU l x v l')(h:∀ h',St hb tabs env.locals l' T h'->Q () (wht s h' (s.toks+1)))
  (c:sQ env.scope (env.kindOf x)=true:=by kernel_rfl):y7 (y6 prog w) A (BR (.Name x pos) env v) Q E s:=aU (aT S st h c)
theorem al{rest:List Expr}{p:Ej}{Q:LP}(S:St hb tabs env.locals l T s.heap)(hv:(x,v)∈l)(h:wG (y6 prog w) A env E p rest Q v s)
  (c:oz env.scope (env.kindOf x) x=true:=by kernel_rfl):y7 (y6 prog w) A (CH (Cn p (AM (.Name x pos::rest) env))) Q E s:=args_cons (ay S hv h c)
theorem aln{p:Ej}{Q:LP}(S:St hb tabs env.locals l T s.heap)(hv:(x,v)∈l)(h:Q [v] s)
  (c:oz env.scope (env.kindOf x) x=true:=by kernel_rfl):y7 (y6 prog w) A (CH (Cn p (AM [.Name x pos] env))) Q E s:=al S hv (zq h) c
noncomputable abbrev tst(ifs:List Expr)(env:II):LH Bool:=Dt ifs true λc r=>if r=true then do let ok <- isTrue c env (Ax c env);AA (IB ok) else AA (IB r)
theorem gS{elt target iter:Expr}{ifs:List Expr}{scope:DB}{it acc:Value}(I:Nat->zc->Prop)
  (turn:∀ n s,I n s->y7 (y6 prog w) A (Di it) (λr s₁=>match r with
   | none=>R (.ok .next) s₁
   | some v=>y7 (y6 prog w) A (C0 target it v) (λZ s1'=>y7 (y6 prog w) A (BR target env v) (λZ ag=>y7 (y6 prog w) A (tst ifs env) (λok s3 =>
     if ok=true then y7 (y6 prog w) A (Ax elt env) (λx s4 =>
      y7 (y6 prog w) A (call (.builtin "list.append") [acc,x]) (λZ s5=>∃ m,m<n/\I m s5) (FU (y6 prog w) A env λe s'=>R (.error e) s') s4) (FU (y6 prog w) A env λe s'=>R (.error e) s') s3
     else ∃ m,m<n/\I m s3)
     (FU (y6 prog w) A env λe s'=>R (.error e) s') ag) (FU (y6 prog w) A env λe s'=>R (.error e) s') s1') (FU (y6 prog w) A env λe s'=>R (.error e) s') s₁) (FU (y6 prog w) A env λe s'=>R (.error e) s') s)
  (n:Nat) (h:I n s) :
  zW (y6 prog w) A (.compLoop (.ListComp elt [⟨target,iter,ifs,0⟩] scope pos) 0 it acc env) R s:=by
 refine codeAny_loop rfl I (λn s hI=>?_) n h
 show y7 _ _ ((compTurn (.ListComp elt [⟨target,iter,ifs,0⟩] scope pos) 0 it acc env).onRaise (λx=>do noteFrame x env;theTreesLotGoes x)) _ _ s
 refine wpAny_noted ?_
 rw[compTurn_list]
 refine y0 (CS (y0 (zi (turn n s hI) (λr s₁ ai=>?_) λZ Z h'=>h')))
 cases r with
 | none=>exact y4 ai
 | some v =>
  refine y0 (zi ai (λZ s1' fh=>?_) λZ Z h'=>h')
  refine y0 (zi fh (λZ ag am=>y0 (zi am (λok s3 ak=>?_) λZ Z h'=>h')) λZ Z h'=>h')
  cases ok with
  | false=>exact y4 ⟨rfl,ak⟩
  | true=>exact y0 (y0 (zi ak (λx s4 au=>y0 (zi au (λZ s5 ax=>y4 (y4 ⟨rfl,ax⟩)) λZ Z h'=>h')) λZ Z h'=>h'))
theorem ly{elt target iter:Expr}{scope:DB}{it acc:Value}(I:Nat->zc->Prop)
  (turn:∀ n s,I n s->y7 (y6 prog w) A (Di it) (λr s₁=>match r with
   | none=>R (.ok .next) s₁
   | some v=>y7 (y6 prog w) A (C0 target it v) (λZ s1'=>y7 (y6 prog w) A (BR target env v) (λZ ag=>y7 (y6 prog w) A (Ax elt env) (λx s3 =>
     y7 (y6 prog w) A (call (.builtin "list.append") [acc,x]) (λZ s4=>∃ m,m<n/\I m s4) (FU (y6 prog w) A env λe s'=>R (.error e) s') s3)
     (FU (y6 prog w) A env λe s'=>R (.error e) s') ag) (FU (y6 prog w) A env λe s'=>R (.error e) s') s1') (FU (y6 prog w) A env λe s'=>R (.error e) s') s₁) (FU (y6 prog w) A env λe s'=>R (.error e) s') s)
  (n:Nat) (h:I n s) :
  zW (y6 prog w) A (.compLoop (.ListComp elt [⟨target,iter,[],0⟩] scope pos) 0 it acc env) R s:=by
 refine gS I (λn s hI=>zi (turn n s hI) (λr s₁ h=>?_) λZ Z e=>e) n h
 cases r with
 | none=>exact h
 | some v=>exact zi h (λZ Z h=>zi h (λZ Z h=>DZ h) λZ Z e=>e) λZ Z e=>e
abbrev rP(prog:Bm)(w:As)(A:AU)(hb:AJ)(tabs:List zh)(target elt:Expr)(ifs:List Expr)(C D L:zh)(oL:AR)(T own:LO)(env:II)(acc:List Value)(c:Nat)
  (K:zc->Prop) (J:AQ->List Value->LO->Prop) (E':VP) (v:Value) (ag:zc):Prop :=
 y7 (y6 prog w) A (BR target env v) (λZ s3=>y7 (y6 prog w) A (tst ifs env) (λok s4 =>
  if ok=true then y7 (y6 prog w) A (Ax elt env) (λy s5=>Ex2 λX' l'=>An3 (K s5) (St hb tabs C l' ((D,ap acc c)::(X'++((L,oL)::T))++own) s5.heap) (J s5.toks (acc++[y]) X')) E' s4
  else Ex2 λX' l'=>An3 (K s4) (St hb tabs C l' ((D,ap acc c)::(X'++((L,oL)::T))++own) s4.heap) (J s4.toks acc X')) E' s3) E' ag
abbrev xw(prog:Bm)(w:As)(A:AU)(hb:AJ)(tabs:List zh)(target elt:Expr)(ifs:List Expr)(C D L:zh)(oL:AR)(T own:LO)(env:II)(acc:List Value)(c:Nat)
  (K:zc->Prop) (J:List Value->LO->Prop) (E':VP) (v:Value) (ag:zc):Prop :=
 rP prog w A hb tabs target elt ifs C D L oL T own env acc c K (λZ=>J) E' v ag
theorem rf{elt target iter:Expr}{ifs:List Expr}{scope:DB}{ce:II}{C D d I:zh}{oL o:AR}{vs:List Value}{n:Nat}{Wt:Nat->AJ->Prop}{fp:List zh}{J:Nat->AQ->List Value->LO->Prop}{s₁ ag:zc}(hh:A.handled=none)
  (IV:ItV prog w hb tabs [(d,ap vs n)] I vs.length (λi v=>vs[i]? = some v) Wt fp)
  (hown:∀ (A:AU) elts x1 tpos i (s:zc) v (Q:UP) E,Wt i s.heap->Q () s->y7 (y6 prog w) A (C0 (.Tuple elts x1 tpos) (.ref I) v) Q E s)
  (hm:(d,ap vs n)∈T) (hlen:vs.length<=1000) (hJ0:J 0 ag.toks [] []) (hmono:∀ i tk tk' acc X,tk<=tk'->J i tk acc X->J i tk' acc X) (r:bL oL l) (dv:Wt 0 ag.heap)
  (S5:St hb tabs C [] ((D,ap [] 0)::([]++((L,oL)::T))++[(I,o)]) ag.heap) (ao:Kp s₁ ag)
  (GF:∀ (E':VP) i v acc c X own ag,vs[i]? = some v->acc.length<=i->J i ag.toks acc X->bL oL l->Kp s₁ ag->St hb tabs C [] ((D,ap acc c)::(X++((L,oL)::T))++own) ag.heap ->
    rP prog w A hb tabs target elt ifs C D L oL T own ce acc c (Kp s₁) (J (i+1)) E' v ag)
  (htgt:(Ex2 λy p=>target=.Name y p)\/Ex3 λes k p=>target=.Tuple es k p)
  (fin:∀ s' acc c X lc,Kp s₁ s'->St hb tabs C lc ((L,oL)::(D,ap acc c)::(X++T)) s'.heap->acc.length<=vs.length->J vs.length s'.toks acc X->R (.ok .next) s') :
  zW (y6 prog w) A (.compLoop (.ListComp elt [⟨target,iter,ifs,0⟩] scope pos) 0 (.ref I) (.ref D) ce) R ag:=by
 have W:=IV.walks A hh
 have how0:([(I,o)]:LO).map (·.1)=[I]:=rfl
 let H:Nat->zc->Prop:=λk s'=>Ex6 λi acc c X own l'=>An8 (own.map (·.1)=[I]) (St hb tabs C l' ((D,ap acc c)::(X++((L,oL)::T))++own) s'.heap) (Wt i s'.heap) (J i s'.toks acc X) (acc.length<=i) (Kp s₁ s') (i<=vs.length) (k=vs.length - i)
 refine gS H ?_ vs.length ⟨0,[],0,[],[(I,o)],[],rfl,S5,dv,hJ0,zk _,ao,zD _,rfl⟩
 rintro k s' ⟨i,acc,c,X,own,l',how,S',hw',hJ,hacc,hKp,hi,rfl⟩
 by_cases hlt:i<vs.length
 ·refine AH (zk s'.toks) (W.item i _ _ _ hlt hw' λv au da hP hw4 hk4 htk=>?_)
  obtain⟨own2,bh,S6⟩:=S'.moved (h':=au) (λb ob hb' e=>hk4 b ob (how▸hb') e) (λb hb'=>by rw[how,y9] at hb';subst hb';exact IV.ex _ _ hw4)
  have back:∀ acc' c' X' l'' (s8:zc),St hb tabs C l'' ((D,ap acc' c')::(X'++((L,oL)::T))++own2) s8.heap->J (i+1) s8.toks acc' X'->acc'.length<=i+1->Kp s₁ s8 ->
    ∃ m,m<vs.length - i/\H m s8:=by
   refine λacc' c' X' l'' s8 S8 hJ7 hl7 K7=>⟨vs.length - (i+1),by exact z8t hlt,i+1,acc',c',X',own2,l'',bh.trans how,S8,W.frame _ _ _ hw4 λb hb' ob e=>S6.same (Ro:=[(d,ap vs n)]) S8 (λp hp=>?_) (λp hp=>?_) (λq=>IV.ro b hb' (by rw[<- how,<- bh];exact q)) e,hJ7,hl7,K7,hlt,rfl⟩<;>
    (rw[y9] at hp;subst hp;exact aj (y5 _ (aj hm)))
  have go:∀ {E':VP},y7 (y6 prog w) A (BR target ce v) (λZ ag=>y7 (y6 prog w) A (tst ifs ce) (λok s3 =>
    if ok=true then y7 (y6 prog w) A (Ax elt ce) (λx s4=>y7 (y6 prog w) A (call (.builtin "list.append") [.ref D,x]) (λZ s4=>∃ m,m<vs.length - i/\H m s4) E' s4) E' s3
    else ∃ m,m<vs.length - i/\H m s3)
    E' ag) E' (wht s' au da):=by
   intro E'
   refine zi (GF _ i v acc c X own2 (wht s' au da) hP hacc (hmono _ _ _ _ _ htk hJ) r ⟨hKp.os,hKp.gens⟩ (S6.forget (KW _))) (λZ s6 az=>zi az (λok s6 az=>?_) λZ Z e=>e) λZ Z e=>e
   cases ok with
   | false =>
    obtain⟨X',l'',K7,S7,hJ7⟩:=az
    exact back _ _ _ _ _ S7 hJ7 (Eg hacc) ⟨K7.os,K7.gens⟩
   | true =>
    refine zi az (λy s7 ba=>?_) λZ Z e=>e
    obtain⟨X',l'',K7,S7,hJ7⟩:=ba
    refine cA 0 S7 rfl ?_ (y3g hlen hacc hlt)
    exact λbc S8=>back _ _ _ _ _ S8 hJ7 (by rw[zO];exact C8 hacc) ⟨K7.os,K7.gens⟩
  rcases htgt with⟨y,p,rfl⟩|⟨es,k,p,rfl⟩
  ·exact Ay (a:=()) rfl go
  ·exact hown _ _ _ _ _ _ _ _ _ hw4 go
 ·have hin:i=vs.length:=z8u hi hlt
  subst hin
  refine AH (zk s'.toks) (W.done _ _ _ hw' λau da hk4 htk=>?_)
  have S6:=S'.drop (h':=au) λb ob hb' e=>hk4 b ob (how▸hb') e
  exact fin (wht s' au da) acc c X l' ⟨hKp.os,hKp.gens⟩ (S6.perm (zv (l₁:=(D,ap acc c)::X))) hacc (hmono _ _ _ _ _ htk hJ)
theorem lx{elt target iter:Expr}{ifs:List Expr}{scope:DB}{cl:List (zK×zh)}{d:zh}{vs:List Value}{n:Nat}{J:Nat->AQ->List Value->LO->Prop}{s₁:zc}{RR:Value->zh->Cm->zc->Prop}(hh:A.handled=none)
  (S:St hb tabs L l T s₁.heap) (hm:(d,ap vs n)∈T) (hlen:vs.length<=1000) (hJ0:J 0 s₁.toks [] []) (hmono:∀ i tk tk' acc X,tk<=tk'->J i tk acc X->J i tk' acc X)
  (GF:∀ C D oL E' i v acc c X own ag,vs[i]? = some v->acc.length<=i->J i ag.toks acc X->bL oL l->Kp s₁ ag->St hb tabs C [] ((D,ap acc c)::(X++((L,oL)::T))++own) ag.heap ->
    rP prog w A hb tabs target elt ifs C D L oL T own (At scope cl C env) acc c (Kp s₁) (J (i+1)) E' v ag)
  (htgt:(Ex2 λy p=>target=.Name y p)\/Ex3 λes k p=>target=.Tuple es k p)
  (hcell:∀ y∈scope.names,y.2≠.cell) (hkind:scope.kind=.function)
  (fin:∀ C D oL s' acc c X lc,Kp s₁ s'->bL oL l->St hb tabs C lc ((L,oL)::(D,ap acc c)::(X++T)) s'.heap->acc.length<=vs.length->J vs.length s'.toks acc X->RR (.ref D) C (.ok .next) s') :
  y7 (y6 prog w) A (EM (.ref d)) (λit ag=>y7 (y6 prog w) A (newList []) (λacc s3=>y7 (y6 prog w) A (newFunctionEnv scope env.globals cl [] env.qual none .none (some env)) (λcenv s4 =>
   zW (y6 prog w) A (.compStart (.ListComp elt [⟨target,iter,ifs,0⟩] scope pos) 0 it acc { cenv with scope:=relabel scope env }) (RR acc cenv.locals) s4) E s3) E ag) E s₁:=by
 refine jZ S hm λI o Wt fp am IV hown hw af=>(Af (hd:=by size_fits) ?_)
 have ae:=af.push (ap [] 0)
 refine FZ hcell (by intro y hy;simp at hy) (λak eh c9=>?_) hkind
 generalize hD:am.objs.size=D at ae
 generalize hC:(am.push (ap [] 0)).objs.size=C
 obtain⟨oL,r,S4⟩:=ae.enter (L':=C) (l':=[]) (h':=ak) hC.symm (Fm.of_ns (by rw[<- hC];exact eh) (zm _) C9) (λb o e=>c9.extBut b o (Ag (AL e)) (zC _ e))
 have W:=IV.walks A hh
 have dv:Wt 0 ak:=W.frame _ _ _ hw λb hb' ob e=>c9.extBut b ob (Ag (AL (zC _ e))) (zC _ (zC _ e))
 have S5:St hb tabs C [] ((D,ap [] 0)::([]++((L,oL)::T))++[(I,o)]) ak:=S4.perm (by
  rw[Dm]
  exact ((z8 _ _ _)))
 have loop:∀ ag:zc,ag=(wht s₁ ak (s₁.toks+([]:LV).length)) ->
   zW (y6 prog w) A (.compLoop (.ListComp elt [⟨target,iter,ifs,0⟩] scope pos) 0 (.ref I) (.ref D) (At scope cl C env)) (RR (.ref D) C) ag:=by
  rintro ag rfl
  exact rf (s₁:=s₁) (T:=T) hh IV hown hm hlen hJ0 hmono r dv S5 ⟨rfl,id⟩ (GF C D oL) htgt (λs' acc c X lc hKp S7 hacc hJ=>fin C D oL s' acc c X lc hKp r S7 hacc hJ)
 subst hC
 subst hD
 exact Iv (loop _ rfl) (W.self 0 _ _ _ dv (loop _ rfl))
abbrev srcF(prog:Bm)(w:As)(A:AU)(hb:AJ)(tabs:List zh)(target elt:Expr)(ifs:List Expr)(scope:DB)(cl:List (zK×zh))(env:II)(L:zh)(l:LV)(T:LO)(d:zh)(vs:List Value)(n:Nat)
  (J:Nat->List Value->LO->Prop) (xv:Value) (s₁:zc):Prop :=
 An6 (xv=.ref d) (St hb tabs L l T s₁.heap) ((d,ap vs n)∈T) (vs.length<=1000) (J 0 [] [])
  (∀ C D oL E' i v acc c X own ag,vs[i]? = some v->acc.length<=i->J i acc X->bL oL l->Kp s₁ ag->St hb tabs C [] ((D,ap acc c)::(X++((L,oL)::T))++own) ag.heap ->
    xw prog w A hb tabs target elt ifs C D L oL T own (At scope cl C env) acc c (Kp s₁) (J (i+1)) E' v ag)
abbrev srcT(prog:Bm)(w:As)(A:AU)(hb:AJ)(tabs:List zh)(target elt:Expr)(ifs:List Expr)(scope:DB)(cl:List (zK×zh))(env:II)(L:zh)(l:LV)(T:LO)(d:zh)(vs:List Value)(n:Nat)
  (J:Nat->AQ->List Value->LO->Prop) (xv:Value) (s₁:zc):Prop :=
 An7 (xv=.ref d) (St hb tabs L l T s₁.heap) ((d,ap vs n)∈T) (vs.length<=1000) (J 0 s₁.toks [] []) (∀ i tk tk' acc X,tk<=tk'->J i tk acc X->J i tk' acc X)
  (∀ C D oL E' i v acc c X own ag,vs[i]? = some v->acc.length<=i->J i ag.toks acc X->bL oL l->Kp s₁ ag->St hb tabs C [] ((D,ap acc c)::(X++((L,oL)::T))++own) ag.heap ->
    rP prog w A hb tabs target elt ifs C D L oL T own (At scope cl C env) acc c (Kp s₁) (J (i+1)) E' v ag)
theorem iK{elt target iter:Expr}{ifs:List Expr}{scope:DB}{cl:List (zK×zh)}{Q:VP}(hh:A.handled=none)
  (h:y7 (y6 prog w) A (Ax iter env) (λxv s₁=>Ex6 λL l T d vs n=>∃ J,srcT prog w A hb tabs target elt ifs scope cl env L l T d vs n J xv s₁ /\
   (∀ s' D acc c X,Kp s₁ s'->St hb tabs L l ((D,ap acc c)::(X++T)) s'.heap->acc.length<=vs.length->J vs.length s'.toks acc X->Q (.ref D) s')) E s)
  (htgt:(Ex2 λy p=>target=.Name y p)\/Ex3 λes k p=>target=.Tuple es k p)
  (hclos:FR scope env=AA cl) (hcell:∀ y∈scope.names,y.2≠.cell) (hkind:scope.kind=.function) (hnames:∀ x∈scope.names,x.2=.local->scope.names.lookup x.1=some .local)
  (hs:∀ x,CX iter env x=AA x:=by intro Z;rfl) :
  y7 (y6 prog w) A (Ax (.ListComp elt [⟨target,iter,ifs,0⟩] scope pos) env) Q E s:=by
 rw[eval_ListComp]
 refine HC (use:=none) rfl hs hclos hkind hnames (zi h (λxv s₁ z=>?_) λZ Z e=>e)
 obtain⟨L,l,T,d,vs,n,J,⟨rfl,S,hm,hlen,hJ0,hmono,GF⟩,fin⟩:=z
 refine lx (RR:=λacc C=>compPost (y6 prog w) A E none Q acc C) hh S hm hlen hJ0 hmono GF htgt hcell hkind ?_
 intro C D oL s' acc c X lc hKp r S7 hacc hJ
 obtain⟨m,hm',_,_⟩:=S7.fm.ns
 refine⟨m,hm',λh' hs'=>?_⟩
 have S8:=S7.leave 0 rfl r
 have S9:St hb tabs L l ((D,ap acc c)::(X++T)) h':=S8.off (wr:=[C]) (λb hb'=>by
  rw[y9] at hb';subst hb'
  exact⟨S7.lnew,(zu.mp S7.nd).1⟩) (λb ob hb' e=>hs'.extBut b ob (λq=>hb' (by rw[q];exact .head _)) e)
 exact fin _ D acc c X ⟨hKp.os,hKp.gens⟩ S9 hacc hJ
theorem cM{elt target iter:Expr}{ifs:List Expr}{scope:DB}{cl:List (zK×zh)}{Q:VP}(hh:A.handled=none)
  (h:y7 (y6 prog w) A (Ax iter env) (λxv s₁=>Ex6 λL l T d vs n=>∃ J,srcF prog w A hb tabs target elt ifs scope cl env L l T d vs n J xv s₁ /\
   (∀ s' D acc c X,Kp s₁ s'->St hb tabs L l ((D,ap acc c)::(X++T)) s'.heap->acc.length<=vs.length->J vs.length acc X->Q (.ref D) s')) E s)
  (htgt:(Ex2 λy p=>target=.Name y p)\/Ex3 λes k p=>target=.Tuple es k p)
  (hclos:FR scope env=AA cl) (hcell:∀ y∈scope.names,y.2≠.cell) (hkind:scope.kind=.function) (hnames:∀ x∈scope.names,x.2=.local->scope.names.lookup x.1=some .local)
  (hs:∀ x,CX iter env x=AA x:=by intro Z;rfl) :
  y7 (y6 prog w) A (Ax (.ListComp elt [⟨target,iter,ifs,0⟩] scope pos) env) Q E s :=
 iK (hb:=hb) (tabs:=tabs) hh (zi h (λxv s₁ z=>by obtain⟨L,l,T,d,vs,n,J,⟨e,S,hm,hlen,hJ0,GF⟩,fin⟩:=z;exact⟨L,l,T,d,vs,n,λi Z acc X=>J i acc X,⟨e,S,hm,hlen,hJ0,λZ Z Z Z Z Z h=>h,GF⟩,fin⟩) λZ Z e=>e) htgt hclos hcell hkind hnames hs
theorem jD{elt target iter:Expr}{scope:DB}{Q:VP}(hh:A.handled=none)
  (h:y7 (y6 prog w) A (Ax iter env) (λxv s₁=>Ex6 λL l T d vs n=>∃ J:Nat->List Value->LO->Prop,An7 (xv=.ref d) (St hb tabs L l T s₁.heap) ((d,ap vs n)∈T) (vs.length<=1000) (J 0 [] []) ((∀ C D oL E' i v acc c X own ag,vs[i]? = some v->acc.length=i->J i acc X->bL oL l->Kp s₁ ag->St hb tabs C [] ((D,ap acc c)::(X++((L,oL)::T))++own) ag.heap ->
    y7 (y6 prog w) A (BR target (At scope [] C env) v) (λZ s3=>y7 (y6 prog w) A (Ax elt (At scope [] C env)) (λy s4=>Ex2 λX' l'=>An3 (Kp s₁ s4) (St hb tabs C l' ((D,ap acc c)::(X'++((L,oL)::T))++own) s4.heap) (J (i+1) (acc++[y]) X')) E' s3) E' ag)) ((∀ s' D acc c X,Kp s₁ s'->St hb tabs L l ((D,ap acc c)::(X++T)) s'.heap->acc.length=vs.length->J vs.length acc X->Q (.ref D) s'))) E s)
  (htgt:(Ex2 λy p=>target=.Name y p)\/Ex3 λes k p=>target=.Tuple es k p)
  (hclos:FR scope env=AA []) (hcell:∀ y∈scope.names,y.2≠.cell) (hkind:scope.kind=.function) (hnames:∀ x∈scope.names,x.2=.local->scope.names.lookup x.1=some .local)
  (hs:∀ x,CX iter env x=AA x:=by intro Z;rfl) :
  y7 (y6 prog w) A (Ax (.ListComp elt [⟨target,iter,[],0⟩] scope pos) env) Q E s:=by
 refine cM (hb:=hb) (tabs:=tabs) (cl:=[]) hh (zi h (λxv s₁ z=>?_) λZ Z e=>e) htgt hclos hcell hkind hnames hs
 obtain⟨L,l,T,d,vs,n,J,rfl,S,hm,hlen,hJ0,GF,fin⟩:=z
 refine⟨L,l,T,d,vs,n,λi acc X=>J i acc X/\acc.length=i,⟨rfl,S,hm,hlen,⟨hJ0,rfl⟩,λC D oL E' i v acc c X own ag hv Z hJ r K af=>?_⟩,λs' D acc c X K S' Z hJ=>fin s' D acc c X K S' hJ.2 hJ.1⟩
 refine zi (GF C D oL E' i v acc c X own ag hv hJ.2 hJ.1 r K af) (λZ s3 ak=>DZ ?_) λZ Z e=>e
 refine zi ak (λy s4 au=>?_) λZ Z e=>e
 obtain⟨X',l',K4,S4,hJ4⟩:=au
 exact⟨X',l',K4,S4,hJ4,by rw[zO,hJ.2];rfl⟩
end
def XOk(T:LO)(Es:List Sc):Prop:=∀ e∈Es,WT T e.x
structure rG(w:As)(hb:AJ)(Ri:LO)(d:zh)(vs:List Value):Prop where
 iter:∀ {A:AU}{E:VP}{s:zc}{L:zh}{l:LV}{T:LO}{Q:VP},St hb tabs L l T s.heap->(∀ p∈Ri,p∈T) ->
  (∀ I o Wt fp h',ItV pw w hb tabs Ri I vs.length (λi v=>vs[i]? = some v) Wt fp->Wt 0 h'->St hb tabs L l (T++[(I,o)]) h'->Q (.ref I) { s with heap:=h' })->y7 (y6 pw w) A (EM (.ref d)) Q E s
theorem gG{w:As}{hb:AJ}{d:zh}{vs:List Value}{n:Nat}:rG w hb [(d,ap vs n)] d vs :=
 ⟨λS hR h=>jZ S (hR _ (.head _)) λI o Wt fp h' IV Z hw S'=>h I o Wt fp h' IV hw S'⟩
theorem pG{w:As}{hb:AJ}{d:zh}{vs:List Value}:rG w hb [(d,aG vs)] d vs :=
 ⟨λS hR h=>pT S (hR _ (.head _)) h⟩
def kL(rk:UInt64->List zK->Nat)(Es:List Sc):Prop:=∀ e∈Es,∀ e'∈Es,
 ((zZ e.f e'.f==some Ordering.eq&&decide (e.x.c=e'.x.c))=true↔rk e.f e.x.c=rk e'.f e'.x.c) /\
 ((zZ e.f e'.f==some Ordering.eq)=false->((zZ e.f e'.f==some Ordering.lt)=true↔rk e.f e.x.c<rk e'.f e'.x.c)) /\
 ((zZ e.f e'.f==some Ordering.eq)=true->(ltW e.x.c e'.x.c=true↔rk e.f e.x.c<rk e'.f e'.x.c)) /\
 ((zZ e.f e'.f==some Ordering.eq)=false->((zZ e.f e'.f==some Ordering.gt)=true↔rk e'.f e'.x.c<rk e.f e.x.c)) /\
 ((zZ e.f e'.f==some Ordering.eq)=true->(ltW e'.x.c e.x.c=true↔rk e'.f e'.x.c<rk e.f e.x.c))/\isR e.x.v=isR e'.x.v
def kK(Es:List Sc):Prop:=∀ e∈Es,e.ft≠0/\∀ e'∈Es,e.ft=e'.ft->e.f=e'.f
noncomputable abbrev rkS(rk:UInt64->List zK->Nat)(e:Sc):Nat:=rk e.f e.x.c
def NLC(w:As)(hb:AJ):Prop:=∀ {A:AU}{s:zc}{L:zh}{l:LV}{T:LO}{R:Cm->zc->Prop}{res:zh}{Es:List Sc}{nr n:Nat}{tn:AQ}{rk:UInt64->List zK->Nat},
 St hb tabs L l T s.heap->A.depth+20<zj->A.units+100<AB->A.handled=none->(res,ap (aB Es) nr)∈T->SOk T Es->kK Es->XOk T Es->Es.length<=60->0<n->kL rk Es ->
 (∀ (s':zc) (X:LO) (r:zh) (nr':Nat) (P:List Sc),Kp s s'->St hb tabs L l ((r,ap (aB (P.take n)) nr')::(X++T)) s'.heap->P.Perm Es->P.Pairwise (λa b=>rkS rk b<=rkS rk a)->R (.ok (.ret (.ref r))) s') ->
 zW (y6 pw w) A (.call (.ref 280) ⟨[.int n tn,.ref res],[]⟩) R s
section
variable{sm sp:zh}{T Y Ri Rb:LO}{l:LV}{wb:WX}{rw:List WX}{n:Nat}{od7:AR}{rows:List aW}{led:Bool}
noncomputable abbrev gcmR:List Cv:=(aD (st1 pw 10)).drop 6
theorem nl(G:GK w hb)(B:BM hb)(N:NLC w hb)(hd:A.depth+40<zj)(hu:A.units+200<AB)(hh:A.handled=none)(C:ut w cut g)(r:bL oL l)
  (S8:St hb tabs L' (nmC sm res pd wv (.int n tn) cut) ((res,ap (aB []) 0)::(sm,smO dx)::(dx,od7)::([]++(Y++((L,oL)::T)))) s.heap)
  (hf7:bH od7 (mf (.str (yZ "") 539) wb.v .none .none (.ref d2) (.ref sj) (.ref sp))) (ho2:o2.IsDictOf (Ap pw w) (rows.map aW.kv)) (hrows:cI wb.c rows)
  (hd2:(d2,o2)∈Y++((L,oL)::T)) (hsj:(sj,cJ led)∈Y++((L,oL)::T)) (hob:∀ r∈rows,r.ob∈Y++((L,oL)::T)) (Vb:SqV pw w hb tabs Rb wb.v wb.c) (hRb:∀ p∈Rb,p∈Y++((L,oL)::T))
  (IT:rG w hb Ri pd (rw.map WX.v)) (hRi:∀ p∈Ri,p∈T) (hn:0<n) (hrl:rw.length<=60) (hrs:∀ p∈rw,WT T p) (htold:∀ x∈rw,∀ p∈(⟨.str (yZ "") 539,[]⟩:WX)::rw,aP w T x.v p.v (x.c=p.c)) (db:1<=s.toks)
  (hrk:∀ Es:List Sc,(∀ e∈Es,e.x∈rw/\e.f=scr e.x.c wb.c)->kL rk Es)
  (k:∀ (s':zc) (X:LO) (r:zh) (nr:Nat) (P:List WX),Kp s s'->St hb tabs L l ((r,ap ((P.take n).map WX.v) nr)::(X++T)) s'.heap->P.Perm (rw.filter λx=>jr g x.c wb.c)->P.Pairwise (λa b=>rk (scr b.c wb.c) b.c<=rk (scr a.c wb.c) a.c)->R (.ok (.ret (.ref r))) s') :
  y7 (y6 pw w) (A.deeper (lr w L')) (z5 gcmR (lr w L')) (kFn R) E s:=by
 have hTin:∀ p∈T,p∈Y++((L,oL)::T):=λp hp=>y5 _ (aj hp)
 generalize c5:Y++((L,oL)::T)=T₂ at S8 hd2 hsj hob hTin hRb
 refine eY (ac S8 m3 (IT.iter S8 (λp hp=>aj (aj (aj (hTin _ (hRi p hp))))) ?_))
 intro I o Wt fp bf IV hw S9
 have hrwl:(rw.map WX.v).length=rw.length:=ze ..
 let H:Nat->AQ->LV->LO->Prop:=λi tk l₁ T1=>Ex7 λod p mb fc X Es nr=>An11 (l₁=nmC sm res pd wv (.int n tn) cut) (T1=(res,ap (aB Es) nr)::(sm,smO dx)::(dx,od)::(X++T₂)) (bH od (mf p.v wb.v mb fc (.ref d2) (.ref sj) (.ref sp))) (rH (X++T₂) mb p.c wb.c) (Fc w (X++T₂) fc wb.c) (p∈⟨.str (yZ "") 539,[]⟩::rw) (SOk X Es) (Es.map (λe=>(e.f,e.x))=(((rw.take i).filter λx=>jr g x.c wb.c).map λx=>(scr x.c wb.c,x))) (kK Es) ((∀ e∈Es,e.ft<tk)) (1<=tk)
 refine IV.loop (z:=s) hh S9 hw
  H ?_ (λp hp=>aj (aj (aj (hTin _ (hRi p hp))))) ?_ ?_ (hmono:=?hmono)
 case hmono =>
  rintro i tk tk' l T htk ⟨od,p,mb,fc,X,Es,nr,h1,h2,hf,hmb,hfc,hp,hS,hE,hT,hTb,hT1⟩
  exact⟨od,p,mb,fc,X,Es,nr,h1,h2,hf,hmb,hfc,hp,hS,hE,hT,λe he=>zN (hTb e he) htk,zn hT1 htk⟩
 ·exact⟨od7,⟨.str (yZ "") 539,[]⟩,.none,.none,[],[],0,rfl,rfl,hf7,.inl rfl,.inl rfl,.head _,(zm _),rfl,(zm _),(zm _),db⟩
 ·rintro E1 i v l₁ T1 own1 s₁ hi hv ⟨od,p,mb,fc,X,Es,nr,rfl,rfl,hf,hmb,hfc,hp,hS,hE,hT,hTb,hT1⟩ S10 hRo hKp
  rw[hrwl] at hi
  have hv':v=rw[i].v:=by
   have:(rw.map WX.v)[i]? = some (rw[i].v):=by simp[hi]
   rw[this] at hv;exact (AG hv).symm
  clear hv
  subst hv'
  have hxm:rw[i]∈rw:=Ac hi
  have hel:Es.length<=60:=by
   have:=congrArg CE hE
   rw[ze,ze] at this
   rw[this]
   exact zn (BO _ _) (zn (by rw[Bh];exact KX _ _) hrl)
  have e0:WT T₂ ⟨.str (yZ "") 539,[]⟩:=.str (yZ "") 539 (by decide)
  have hWT:∀ q∈(⟨.str (yZ "") 539,[]⟩:WX)::rw,WT T₂ q:=λq hq=>by
   rcases za.mp hq with rfl|hq
   ·exact e0
   ·exact (hrs q hq).mono hTin
  obtain⟨Rx,hRx,Vx⟩:=(hWT _ (aj hxm)).sq (prog:=pw) (w:=w) (hb:=hb) (tabs:=tabs)
  obtain⟨Rp,hRp,Vp⟩:=(hWT _ hp).sq (prog:=pw) (w:=w) (hb:=hb) (tabs:=tabs)
  refine tG (T:=T₂) (own:=own1) (X:=X) G B (dn 28 hd) (dn 120 hu) hh C S10 hel hf hmb hfc hd2 ho2 hrows hob hsj Vx hRx Vp hRp Vb hRb (aP.mono (htold _ hxm _ hp) hTin) ?_ rfl
  refine λs' od' mb' fc' p' X' Es' nr' K' S' hf' hmb' hfc' hp' hE' hk'=>⟨_,(res,ap (aB Es') nr')::(sm,smO dx)::(dx,od')::(X'++X++T₂),S',⟨od',p',mb',fc',X'++X,Es',nr',rfl,rfl,hf',hmb',hfc',?_,?_,?_,?_,?_,zn hT1 hk'⟩,?_,(kt hKp K')⟩
  ·rcases hp' with rfl|rfl
   ·exact hp
   ·exact aj hxm
  ·rcases hE' with⟨_,rfl⟩|⟨_,a,t,rfl,hm,ht1,ht2⟩
   ·exact hS.mono λp hp=>y5 _ hp
   ·intro e he
    rcases zf.mp he with q|q
    ·exact (hS.mono λp hp=>y5 X' hp) e q
    ·rw[y9] at q;subst q
     exact y8 _ hm
  ·rw[Am,zl hi,GX,Bx,zG]
   rcases hE' with⟨hk,rfl⟩|⟨hk,a,t,rfl,hm,ht1,ht2⟩
   ·rw[HQ (by simp[hk]),E6,J8,Aq];exact hE
   ·rw[zG,hE,HR (by simp[hk])];rfl
  ·rcases hE' with⟨_,rfl⟩|⟨_,a,t,rfl,hm,ht1,ht2⟩
   ·exact hT
   ·intro e he
    rcases zf.mp he with q|q
    ·refine⟨(hT e q).1,λe' he' h=>?_⟩
     rcases zf.mp he' with q'|q'
     ·exact (hT e q).2 e' q' h
     ·rw[y9] at q';subst q'
      exact absurd h (Ag (zN (hTb e q) ht1))
    ·rw[y9] at q;subst q
     refine⟨Ci (zN hT1 ht1),λe' he' h=>?_⟩
     rcases zf.mp he' with q'|q'
     ·exact absurd h.symm (Ag (zN (hTb e' q') ht1))
     ·rw[y9] at q';subst q';rfl
  ·rcases hE' with⟨_,rfl⟩|⟨_,a,t,rfl,hm,ht1,ht2⟩
   ·exact λe he=>zN (hTb e he) hk'
   ·intro e he
    rcases zf.mp he with q|q
    ·exact zN (hTb e q) hk'
    ·rw[y9] at q;subst q;exact ht2
  ·exact λp hp=>aj (aj (aj (y5 _ (hTin _ (hRi p hp)))))
 ·rintro s' l' T' hKp S10 ⟨od,p,mb,fc,X,Es,nr,rfl,rfl,hf,hmb,hfc,hp,hS,hE,hT,hTb,hT1⟩ hRo
  rw[hrwl,z4] at hE
  refine aC (tZ G S10 (v:=.ref 280) (by kernel_rfl) (bl S10 m4 (bln S10 m1 ⟨⟨_,_,_,S10⟩,?_⟩)))
  have hel:Es.length<=60:=by
   have:=congrArg CE hE
   rw[ze,ze] at this
   rw[this]
   exact zn (BO _ _) hrl
  have hEs:∀ e∈Es,e.x∈rw/\e.f=scr e.x.c wb.c:=by
   intro e he
   have:(e.f,e.x)∈Es.map (λe=>(e.f,e.x)):=zd.mpr ⟨e,he,rfl⟩
   rw[hE] at this
   obtain⟨y,hy,hye⟩:=zd.mp this
   have h1:=congrArg Prod.fst hye
   have h2:=congrArg My hye
   dsimp only at h1 h2
   subst h2
   exact⟨(BC.mp hy).1,h1.symm⟩
  refine N (rk:=rk) S10 (by show A.depth+1+20<_;exact dn 19 hd) (by show A.units+3+100<_;exact dn 97 hu) hh m0 (hS.mono λp hp=>aj (aj (aj (y8 _ hp)))) hT (λe he=>((hrs _ (hEs e he).1).mono hTin).mono λp hp=>aj (aj (aj (y5 _ hp)))) hel hn (hrk Es hEs) ?_
  intro s11 X1 dg nr1 P K11 S11 hperm hpw
  replace K11:Kp s s11:=⟨K11.os.trans hKp.os,λz=>K11.gens (hKp.gens z)⟩
  refine aq S11 (.old (.there .here)) (λcu S12=>restate S12 λs12 K12 S12=>?_)
  replace K12:Kp s s12:=kt K11 K12
  refine cO ?_
  have hPE:∀ e∈P.take n,e∈Es:=λe he=>hperm.mem_iff.mp (AI he)
  refine jD (hb:=hb) (tabs:=tabs) hh ?_ (.inr ⟨_,_,_,rfl⟩) rfl (by decide) rfl (by decide)
  refine ac S12 m1 ⟨L',_,_,dg,aB (P.take n),nr1,λi acc X=>X=[]/\acc=((P.take n).take i).map λe=>e.x.v,rfl,S12,m0,?_,⟨rfl,rfl⟩,?_,?_⟩
  ·rw[aJ,Bh]
   exact zn (KX _ _) (by rw[hperm.length_eq];exact up 940 hel)
  ·rintro C' D oL' E' i v acc c X' own ag hi hacc ⟨rfl,hJ⟩ bp ao af
   have hv:∃ e,(P.take n)[i]? = some e/\v=.ref e.a:=by
    rw[aB,zE] at hi
    obtain⟨e,h1,h2⟩:=z0.mp hi
    exact⟨e,h1,h2.symm⟩
   obtain⟨e,he,rfl⟩:=hv
   have heE:=hPE e (zp he)
   have hm:=hS e heE
   refine cH hh af (y8 _ (aj (aj (aj (y5 _ (aj (aj (aj (y8 _ hm)))))))) ) (λak ae=>ib (env:=At _ [] C' _) ae (.new (by kernel_rfl)) (λau S4=>ib (env:=At _ [] C' _) S4 (.new (by kernel_rfl)) (λax S5=>cD (ay (env:=At _ [] C' _) S5 m0 ⟨[],_,⟨ao.os,ao.gens⟩,S5,rfl,?_⟩))))
   rw[Am,he,hJ]
   simp
  ·rintro s3 D acc c X' aw ae ei ⟨rfl,rfl⟩
   replace aw:Kp s s3:=kt K12 aw
   subst c5
   have e1:(((P.take n).take (aB (P.take n)).length).map λe=>e.x.v)=((P.map λe=>e.x).take n).map WX.v:=by
    rw[aJ,z4,Cg,Cg,CR];rfl
   rw[e1] at ae
   have S4:=ae.perm (T':=(L,oL)::(D,ap (((P.map λe=>e.x).take n).map WX.v) c)::((((dg,ap (aB (P.take n)) nr1)::(X1++((res,ap (aB Es) nr)::(sm,smO dx)::(dx,od)::(X++Y))))++T))) (by
    have e:(D,ap (((P.map λe=>e.x).take n).map WX.v) c)::([]++((dg,ap (aB (P.take n)) nr1)::(X1++((res,ap (aB Es) nr)::(sm,smO dx)::(dx,od)::(X++(Y++((L,oL)::T))))))) =
     ((D,ap (((P.map λe=>e.x).take n).map WX.v) c)::(((dg,ap (aB (P.take n)) nr1)::(X1++((res,ap (aB Es) nr)::(sm,smO dx)::(dx,od)::(X++Y))))))++((L,oL)::T):=by simp
    rw[e]
    exact zv)
   have S5:=S4.leave 0 rfl r
   refine k s3 ((dg,ap (aB (P.take n)) nr1)::(X1++((res,ap (aB Es) nr)::(sm,smO dx)::(dx,od)::(X++Y)))) D c (P.map Sc.x) aw S5 ?_ ?_
   ·have h1:(Es.map λe=>e.x)=rw.filter λx=>jr g x.c wb.c:=by
     have:=congrArg (List.map My) hE
     rw[CR,CR] at this
     have e2:(My ∘ λx:WX=>(scr x.c wb.c,x))=id:=rfl
     rw[e2,List.map_id] at this
     exact this
    rw[<- h1]
    exact hperm.map _
   ·rw[AX]
    refine hpw.imp_of_mem ?_
    intro a b ha hb' h
    have h1:=(hEs a (hperm.mem_iff.mp ha)).2
    have h2:=(hEs b (hperm.mem_iff.mp hb')).2
    rw[<- h1,<- h2]
    exact h
end
section
variable{T Ri:LO}{l:LV}{wd:WX}{rw:List WX}{n:Nat}
theorem gcm_c(G:GK w hb)(B:BM hb)(N:NLC w hb)(S:St hb tabs L l T s.heap)(hd:A.depth+40<zj)(hu:A.units+200<AB)(hh:A.handled=none)(C:ut w cut g)
  (hbind:Fn s (dI w.params) args [(yZ "word", wd.v),(yZ "possibilities", .ref pd),(yZ "n", .int n tn),(yZ "cutoff", cut)])
  (IT:rG w hb Ri pd (rw.map WX.v)) (hRi:∀ p∈Ri,p∈T) (hn:0<n) (hrl:rw.length<=60) (hws:WT T wd) (hrs:∀ p∈rw,WT T p)
  (hwt:aP w T wd.v (.str (yZ "") 540) (wd.c=[])) (htold:∀ x∈rw,∀ p∈(⟨.str (yZ "") 539,[]⟩:WX)::rw,aP w T x.v p.v (x.c=p.c))
  {rk:UInt64->List zK->Nat} (hrk:∀ Es:List Sc,(∀ e∈Es,e.x∈rw/\e.f=scr e.x.c wd.c)->kL rk Es)
  (k:∀ (s':zc) (X:LO) (r:zh) (nr:Nat) (P:List WX),Kp s s'->St hb tabs L l ((r,ap ((P.take n).map WX.v) nr)::(X++T)) s'.heap->P.Perm (rw.filter λx=>jr g x.c wd.c)->P.Pairwise (λa b=>rk (scr b.c wd.c) b.c<=rk (scr a.c wd.c) a.c)->R (.ok (.ret (.ref r))) s') :
  zW (y6 pw w) A (.call (.ref 286) args) R s:=by
 refine dR G S (oA _) (dn 40 hd) (body:=aD (st1 pw 10)) hbind (λL' ai oL r S'=>eZ (lQ (isTrue_not (wpAny_isTrue_Compare1 (ac S' m2 (wpAny_Constant_int (Ip (zb ⟨λq=>absurd q (by simp;exact z1i hn),λq=>?_⟩))))))))
 refine aE (lQ (isTrue_not (isTrue_chain (Ct (test_link (ac S' m3 (C.lo ?_)))))))
 refine zb (test_last (Ct (C.hi (zb ⟨nofun,λZ=>?_⟩))))
 refine aE (aC (bF (zq ⟨rfl,_,_,_,_,_,S',?_⟩)))
 refine λres am af=>aq af (.new (by kernel_rfl)) (λak ae=>aC (tZ G ae (v:=.ref 270) (by kernel_rfl) (zq ⟨⟨_,_,_,ae⟩,?_⟩)))
 refine yR (C:=270) (fI:=188) G ae ?_
 intro sm dx au S4
 have Ve:=uw (prog:=pw) (w:=w) (hb:=hb) (tabs:=tabs) (yZ "") 540 (by decide)
 refine vy (va:=.str (yZ "") 539) (vb:=.str (yZ "") 540) G S4 (by simp only[depth_under_make,depth_deeper];exact dn 35 hd) hh Ve (zm _) iZ iZ ?_ ?_
 ·refine BB (o:=o181 w.params) rfl (St.kin S4 G 181 _ (by kernel_rfl)) rfl rfl rfl
 refine λs5 od5 j5 sj5 sp5 o5 rows5 led5 led5' K5 S5 hf5 ho5 hr5=>⟨rfl,?_⟩
 replace K5:Kp s s5:=⟨K5.os,K5.gens⟩
 refine aq S5 (.new (by kernel_rfl)) (λaz S6=>bR (AH (n:=1) (by simp only;exact z1k) (aV (ac S6 m0 (dM (f:=209) G S6 m0 m1 hf5 (cR G (bln S6 m2 ⟨⟨_,_,_,S6⟩,?_⟩)))))))
 obtain⟨Rb,hRb,Vw⟩:=hws.sq (prog:=pw) (w:=w) (hb:=hb) (tabs:=tabs)
 refine set_seq2 (C:=wd.c=[]) (bv:=.str (yZ "") 540) (f1:=mf (.str (yZ "") 539) wd.v .none .none (.ref j5) (.ref sj5) (.ref sp5)) (f2:=mf (.str (yZ "") 539) wd.v .none .none (.ref j5) (.ref sj5) (.ref sp5)) (f3:=mf (.str (yZ "") 539) wd.v .none .none (.ref j5) (.ref sj5) (.ref sp5))
  (f4:=mf (.str (yZ "") 539) wd.v .none .none (.ref j5) (.ref sj5) (.ref sp5)) (fl1:=λv=>mf (.str (yZ "") 539) wd.v .none .none v (.ref sj5) (.ref sp5)) (fl2:=λv u=>mf (.str (yZ "") 539) wd.v .none .none v u (.ref sp5)) (fl3:=λv u z=>mf (.str (yZ "") 539) wd.v .none .none v u z)
  G S6 (by show A.depth+1+1<_;exact dn 38 hd) hh hf5 m2 rfl Vw (λp hp=>by have:=hRb p hp;simp[this]) hwt (λp hp=>by simp[hp]) (.there (by kernel_rfl) (.there (by kernel_rfl) .here)) (.there (by kernel_rfl) (.there (by kernel_rfl) (.there (by kernel_rfl) (.there (by kernel_rfl) .here)))) (.there (by kernel_rfl) (.there (by kernel_rfl) (.there (by kernel_rfl) (.there (by kernel_rfl) (.there (by kernel_rfl) .here))))) (.there (by kernel_rfl) (.there (by kernel_rfl) (.there (by kernel_rfl) (.there (by kernel_rfl) (.there (by kernel_rfl) (.there (by kernel_rfl) .here)))))) rfl rfl rfl rfl m2 (by kernel_rfl)
  (λZ=>(.there (by kernel_rfl) (.there (by kernel_rfl) (.there (by kernel_rfl) (.there (by kernel_rfl) (.there (by kernel_rfl) (.there (by kernel_rfl) (.there (by kernel_rfl) .here)))))))) (λZ Z=>(.there (by kernel_rfl) (.there (by kernel_rfl) (.there (by kernel_rfl) (.there (by kernel_rfl) (.there (by kernel_rfl) (.there (by kernel_rfl) (.there (by kernel_rfl) (.there (by kernel_rfl) .here))))))))) (λZ Z Z=>(.there (by kernel_rfl) (.there (by kernel_rfl) (.there (by kernel_rfl) (.there (by kernel_rfl) (.there (by kernel_rfl) (.there (by kernel_rfl) (.there (by kernel_rfl) (.there (by kernel_rfl) (.there (by kernel_rfl) .here)))))))))) (λZ Z=>m0) (λZ Z Z=>m3) (λZ Z Z=>⟨rfl,rfl,rfl⟩) ?_ ?_
 ·intro hc s7 K7 S7 db
  replace K7:Kp s s7:=kt K5 K7
  refine nl (wb:=⟨.str (yZ "") 540,[]⟩) (wv:=wd.v) (Y:=(sp5,cJ led5')::(sj5,cJ led5)::(j5,o5)::rows5.map aW.ob) (oL:=oL) (L:=L) (tn:=tn) (res:=res) (sm:=sm) (dx:=dx) (E:=_) G B N hd hu hh C r ?_ hf5 ho5 hr5 (y8 _ m2) (y8 _ m1) (λr hr=>y8 _ (aj (aj (aj (zd.mpr ⟨r,hr,rfl⟩))))) Ve (zm _) IT hRi hn hrl hrs htold db (by rw[<- hc];exact hrk) ?_
  ·refine (S7.perm ?_)
   have e:(sm,smO dx)::(dx,od5)::(sp5,cJ led5')::(sj5,cJ led5)::(j5,o5)::(rows5.map aW.ob++((res,ap [] 0)::(L,oL)::T)) =
    ((sm,smO dx)::(dx,od5)::((sp5,cJ led5')::(sj5,cJ led5)::(j5,o5)::rows5.map aW.ob))++((res,ap [] 0)::(L,oL)::T):=by simp
   rw[e]
   exact zv
  ·rw[<- hc]
   exact λs' X r nr P K' S' hp hpw=>k s' X r nr P (kt K7 K') S' hp hpw
 intro s7 od7 d2 sj sp o2 rows led led' K7 S7 hf7 ho2 hrows db
 replace K7:Kp s s7:=kt K5 K7
 refine nl (wb:=wd) (wv:=wd.v) (Y:=(sp,cJ led')::(sj,cJ led)::(d2,o2)::(rows.map aW.ob++((sp5,cJ led5')::(sj5,cJ led5)::(j5,o5)::rows5.map aW.ob))) (oL:=oL) (L:=L) (tn:=tn) (res:=res) (sm:=sm) (dx:=dx) (E:=_) G B N hd hu hh C r ?_ hf7 ho2 hrows (y8 _ m2) (y8 _ m1) (λr hr=>y8 _ (aj (aj (aj (y8 _ (zd.mpr ⟨r,hr,rfl⟩)))))) Vw (λp hp=>y5 _ (aj (hRb p hp))) IT hRi hn hrl hrs htold db hrk ?_
 ·refine (S7.perm ?_)
  have e:(sm,smO dx)::(dx,od7)::(sp,cJ led')::(sj,cJ led)::(d2,o2)::(rows.map aW.ob++((sp5,cJ led5')::(sj5,cJ led5)::(j5,o5)::(rows5.map aW.ob++((res,ap [] 0)::(L,oL)::T)))) =
   ((sm,smO dx)::(dx,od7)::((sp,cJ led')::(sj,cJ led)::(d2,o2)::(rows.map aW.ob++((sp5,cJ led5')::(sj5,cJ led5)::(j5,o5)::rows5.map aW.ob))))++((res,ap [] 0)::(L,oL)::T):=by simp
  rw[e]
  exact zv
 ·exact λs' X r nr P K' S' hp hpw=>k s' X r nr P (kt K7 K') S' hp hpw
end
section
variable{tabs:List zh}{a b:zh}{l:LV}{T:LO}
theorem dD{f g:UInt64}{t u:AQ}{Q:BP}(NB:B8 s.heap)(ht:t≠0)(hu:u≠0)(he:t=u->f=g)(hs:(zZ f f==some Ordering.eq)=true)(h:Q (zZ f g==some Ordering.eq) s) :
  y7 (y6 prog w) A (Fy (.float f t) (.float g u)) Q E s:=by
 have one:f=g->Q true s:=λe=>by subst e;rw[hs] at h;exact h
 by_cases hab:(BE f t==BE g u)=true
 ·refine bW hab ?_
  have e:f=g:=by have:=Aw hab;injection this
  exact y0 (AS (y4 (one e)))
 ·refine aQ hab ?_
  have rest:y7 (y6 prog w) A (DJ .Eq (.float f t) (.float g u)>>=Ja) Q E s :=
   y0 (NM (zb h))
  refine y0 ?_
  have h0:(t==0 || u==0)=false:=by
   rw[FW]
   exact⟨beq_eq_false_iff_ne.mpr ht,beq_eq_false_iff_ne.mpr hu⟩
  refine zA h0 ?_
  by_cases htu:t=u
  ·refine Bq (beq_iff_eq.mpr htu) (y4 ?_)
   exact y4 (one (he htu))
  ·refine zA (beq_eq_false_iff_ne.mpr htu) ?_
   by_cases hfg:(f==g&&!Float64.isNaN f)=true
   ·have efg:f=g:=by
     have:=(zr.mp hfg).1
     exact Aw this
    refine zA (by rw[hfg];rfl) (y0 (B4 NB ?_))
    refine zA rfl (y0 (B4 NB ?_))
    refine zA rfl (y0 (AS ?_))
    refine y0 (B0 ?_)
    refine y4 ?_
    split
    ·exact y4 (one efg)
    ·exact rest
   ·refine Bq (by rw[Ho.mpr hfg];rfl) (y4 ?_)
    exact rest
theorem lU{x1 x2 y1 y2:Value}{Q:VP}(ha:s.heap.get? a=some (aG [x1,x2]))(hb':s.heap.get? b=some (aG [y1,y2]))
  (h:y7 (y6 prog w) A.in1 (Fy x1 y1) (λe1 s1=>(e1=true->y7 (y6 prog w) A.in1 (Fy x2 y2) (λe2 s2=>(e2=true->Q (.bool false) s2)/\(e2=false->y7 (y6 prog w) A.in1 (AK .Lt x2 y2) Q E s2)) E s1) /\
   (e1=false->y7 (y6 prog w) A.in1 (AK .Lt x1 y1) Q E s1)) E s) :
  y7 (y6 prog w) A (call (.builtin "tuple.__lt__") [.ref a,.ref b]) Q E s:=by
 have hTa:s.TypeIs (.ref a) "tuple" := ⟨_,ha,rfl⟩
 have hTb:s.TypeIs (.ref b) "tuple" := ⟨_,hb',rfl⟩
 refine zX Ge hTa HP ?_ (Hn _ _)
 refine y0 (m:=B9 (.ref b) (.type "tuple")) (AO hTb CL ?_)
 refine zA rfl (y0 (y0 (zy ha rfl (y4 ?_))))
 refine y0 (y0 (zy hb' rfl (y4 ?_)))
 refine y0 (m:=Dt [(x1,y1),(x2,y2)] _ _) ?_
 rw[AC]
 refine y0 (y0 (zi h (λe1 s1 z=>?_) λZ Z z=>z))
 cases e1 with
 | true =>
  refine zA rfl (y4 ?_)
  show y7 _ _ (Dt [(x2,y2)] _ _) _ _ s1
  rw[AC]
  refine y0 (y0 (zi (z.1 rfl) (λe2 s2 z=>?_) λZ Z z=>z))
  cases e2 with
  | true =>
   refine zA rfl (y4 ?_)
   show y7 _ _ (Dt [] _ _) _ _ s2
   exact y4 (y4 ⟨_,rfl,z.1 rfl⟩)
  | false =>
   refine Bq rfl (y0 (AS (y0 ?_)))
   exact zi (z.2 rfl) (λv s' q=>y0 (y4 (y4 (y4 (y4 ⟨_,rfl,q⟩))))) λZ Z q=>q
 | false =>
  refine Bq rfl (y0 (AS (y0 ?_)))
  exact zi (z.2 rfl) (λv s' q=>y0 (y4 (y4 (y4 (y4 ⟨_,rfl,q⟩))))) λZ Z q=>q
theorem lV{x1 x2 y1 y2:Value}{Q:VP}(ha:s.heap.get? a=some (aG [x1,x2]))(hb':s.heap.get? b=some (aG [y1,y2]))
  (h:y7 (y6 prog w) A.in1 (Fy x1 y1) (λe1 s1=>(e1=true->y7 (y6 prog w) A.in1 (Fy x2 y2) (λe2 s2=>(e2=true->Q (.bool false) s2)/\(e2=false->y7 (y6 prog w) A.in1 (AK .Gt x2 y2) Q E s2)) E s1) /\
   (e1=false->y7 (y6 prog w) A.in1 (AK .Gt x1 y1) Q E s1)) E s) :
  y7 (y6 prog w) A (call (.builtin "tuple.__gt__") [.ref a,.ref b]) Q E s:=by
 have hTa:s.TypeIs (.ref a) "tuple" := ⟨_,ha,rfl⟩
 have hTb:s.TypeIs (.ref b) "tuple" := ⟨_,hb',rfl⟩
 refine zX Gf hTa KU ?_ (Kq _ _)
 refine y0 (m:=B9 (.ref b) (.type "tuple")) (AO hTb CL ?_)
 refine zA rfl (y0 (y0 (zy ha rfl (y4 ?_))))
 refine y0 (y0 (zy hb' rfl (y4 ?_)))
 refine y0 (m:=Dt [(x1,y1),(x2,y2)] _ _) ?_
 rw[AC]
 refine y0 (y0 (zi h (λe1 s1 z=>?_) λZ Z z=>z))
 cases e1 with
 | true =>
  refine zA rfl (y4 ?_)
  show y7 _ _ (Dt [(x2,y2)] _ _) _ _ s1
  rw[AC]
  refine y0 (y0 (zi (z.1 rfl) (λe2 s2 z=>?_) λZ Z z=>z))
  cases e2 with
  | true =>
   refine zA rfl (y4 ?_)
   show y7 _ _ (Dt [] _ _) _ _ s2
   exact y4 (y4 ⟨_,rfl,z.1 rfl⟩)
  | false =>
   refine Bq rfl (y0 (AS (y0 ?_)))
   exact zi (z.2 rfl) (λv s' q=>y0 (y4 (y4 (y4 (y4 ⟨_,rfl,q⟩))))) λZ Z q=>q
 | false =>
  refine Bq rfl (y0 (AS (y0 ?_)))
  exact zi (z.2 rfl) (λv s' q=>y0 (y4 (y4 (y4 (y4 ⟨_,rfl,q⟩))))) λZ Z q=>q
theorem qr{x1 x2 y1 y2:Value}{Q:VP}(hu:A.units<AB)(ha:s.heap.get? a=some (aG [x1,x2]))(hb':s.heap.get? b=some (aG [y1,y2]))
  (h:y7 (y6 prog w) A.in1 (Fy x1 y1) (λe1 s1=>(e1=true->y7 (y6 prog w) A.in1 (Fy x2 y2) (λe2 s2=>(e2=true->Q (.bool false) s2)/\(e2=false->y7 (y6 prog w) A.in1 (AK .Lt x2 y2) (λv s'=>v≠.notImplemented/\Q v s') E s2)) E s1) /\
   (e1=false->y7 (y6 prog w) A.in1 (AK .Lt x1 y1) (λv s'=>v≠.notImplemented/\Q v s') E s1)) E s) :
  y7 (y6 prog w) A (AK .Lt (.ref a) (.ref b)) Q E s:=by
 refine Bz (op:=.Lt) ⟨_,ha,rfl⟩ ⟨_,hb',rfl⟩ Ge (lU ha hb' ?_) hu
 refine zi h (λe1 s1 z=>⟨λhe=>zi (z.1 he) (λe2 s2 z2=>⟨λhe2=>⟨nofun,z2.1 he2⟩,λhe2=>z2.2 he2⟩) λZ Z q=>q,λhe=>z.2 he⟩) λZ Z q=>q
theorem v5{x1 x2 y1 y2:Value}{Q:VP}(hu:A.units<AB)(ha:s.heap.get? a=some (aG [x1,x2]))(hb':s.heap.get? b=some (aG [y1,y2]))
  (h:y7 (y6 prog w) A.in1 (Fy x1 y1) (λe1 s1=>(e1=true->y7 (y6 prog w) A.in1 (Fy x2 y2) (λe2 s2=>(e2=true->Q (.bool false) s2)/\(e2=false->y7 (y6 prog w) A.in1 (AK .Gt x2 y2) (λv s'=>v≠.notImplemented/\Q v s') E s2)) E s1) /\
   (e1=false->y7 (y6 prog w) A.in1 (AK .Gt x1 y1) (λv s'=>v≠.notImplemented/\Q v s') E s1)) E s) :
  y7 (y6 prog w) A (AK .Gt (.ref a) (.ref b)) Q E s:=by
 refine Bz (op:=.Gt) ⟨_,ha,rfl⟩ ⟨_,hb',rfl⟩ Gf (lV ha hb' ?_) hu
 refine zi h (λe1 s1 z=>⟨λhe=>zi (z.1 he) (λe2 s2 z2=>⟨λhe2=>⟨nofun,z2.1 he2⟩,λhe2=>z2.2 he2⟩) λZ Z q=>q,λhe=>z.2 he⟩) λZ Z q=>q
end
section
variable{l:LV}{T:LO}{Es:List Sc}
def ScH(h:AJ)(e:Sc):Prop:=h.get? e.a=some (aG [.float e.f e.ft,e.x.v])/\WH h e.x
def SXk(T:LO)(l:List Sc):Prop:=∀ e∈l,(e.a,aG [.float e.f e.ft,e.x.v])∈T/\WT T e.x
theorem SXk.mono{T T':LO}{l:List Sc}(h:SXk T l)(hs:∀ p∈T,p∈T'):SXk T' l:=λe he=>⟨hs _ (h e he).1,(h e he).2.mono hs⟩
theorem St.sc{tabs:List zh}{h:AJ}{e:Sc}(S:St hb tabs L l T h)(q:(e.a,aG [.float e.f e.ft,e.x.v])∈T/\WT T e.x):ScH h e:=⟨S.obj _ q.1,q.2.wh S⟩
theorem jj{b:Bool}{P:Prop}[Decidable P](h:b=true↔P):b=decide P:=by
 cases b with
 | true=>exact (decide_eq_true (h.mp rfl)).symm
 | false=>exact (decide_eq_false λq=>by cases h.mpr q).symm
theorem vI{e e':Sc}{Q:VP}(hu:A.units+1<AB)(NB:B8 s.heap)(hT:kK Es)(hR:kL rk Es)(he:e∈Es)(he':e'∈Es)(ha:ScH s.heap e)(hb':ScH s.heap e')
  (h:Q (.bool (decide (rkS rk e<rkS rk e'))) s):y7 (y6 pw w) A (AK .Lt (.ref e.a) (.ref e'.a)) Q E s:=by
 have hself:(zZ e.f e.f==some Ordering.eq)=true:=(zr.mp ((hR e he e he).1.mpr rfl)).1
 obtain⟨r1,r2,r3,r4,r5,r6⟩:=hR e he e' he'
 refine qr (dn 1 hu) ha.1 hb'.1 (dD NB (hT e he).1 (hT e' he').1 (λq=>(hT e he).2 e' he' q) hself ⟨λq=>?_,λq=>?_⟩)
 ·refine kM (by show A.units+1<AB;exact hu) ha.2 hb'.2 r6 ⟨λq2=>?_,λq2=>?_⟩
  ·have:rkS rk e=rkS rk e':=r1.mp (by rw[q,q2];rfl)
   rw[show decide (rkS rk e<rkS rk e')=false from decide_eq_false (this▸Ao _)] at h
   exact h
  ·refine xp (by show A.units+1<AB;exact hu) ha.2 hb'.2 r6 ⟨nofun,?_⟩
   rw[jj (r3 q)]
   exact h
 ·refine NN ⟨nofun,?_⟩
  have:=r2 q
  rw[show (zZ e.f e'.f==some Ordering.lt)=decide (rkS rk e<rkS rk e') from by
   by_cases z:rkS rk e<rkS rk e'
   ·rw[decide_eq_true z];exact this.mpr z
   ·rw[decide_eq_false z];exact Ho.mpr λq=>z (this.mp q)]
  exact h
theorem sc_gt{e e':Sc}{Q:VP}(hu:A.units+1<AB)(NB:B8 s.heap)(hT:kK Es)(hR:kL rk Es)(he:e∈Es)(he':e'∈Es)(ha:ScH s.heap e)(hb':ScH s.heap e')
  (h:Q (.bool (decide (rkS rk e'<rkS rk e))) s):y7 (y6 pw w) A (AK .Gt (.ref e.a) (.ref e'.a)) Q E s:=by
 have hself:(zZ e.f e.f==some Ordering.eq)=true:=(zr.mp ((hR e he e he).1.mpr rfl)).1
 obtain⟨r1,r2,r3,r4,r5,r6⟩:=hR e he e' he'
 refine v5 (dn 1 hu) ha.1 hb'.1 (dD NB (hT e he).1 (hT e' he').1 (λq=>(hT e he).2 e' he' q) hself ⟨λq=>?_,λq=>?_⟩)
 ·refine kM (by show A.units+1<AB;exact hu) ha.2 hb'.2 r6 ⟨λq2=>?_,λq2=>?_⟩
  ·have:rkS rk e=rkS rk e':=r1.mp (by rw[q,q2];rfl)
   rw[show decide (rkS rk e'<rkS rk e)=false from decide_eq_false (this▸Ao _)] at h
   exact h
  ·refine wx_gt (by show A.units+1<AB;exact hu) ha.2 hb'.2 r6 ⟨nofun,?_⟩
   rw[jj (r5 q)]
   exact h
 ·refine Hp ⟨nofun,?_⟩
  have:=r4 q
  rw[show (zZ e.f e'.f==some Ordering.gt)=decide (rkS rk e'<rkS rk e) from by
   by_cases z:rkS rk e'<rkS rk e
   ·rw[decide_eq_true z];exact this.mpr z
   ·rw[decide_eq_false z];exact Ho.mpr λq=>z (this.mp q)]
  exact h
end
section
variable{a b:zh}
theorem lW{x1 x2 y1 y2:Value}{Q:VP}(ha:s.heap.get? a=some (aG [x1,x2]))(hb':s.heap.get? b=some (aG [y1,y2]))
  (h:y7 (y6 prog w) A.in1 (Fy x1 y1) (λe1 s1=>(e1=true->y7 (y6 prog w) A.in1 (Fy x2 y2) (λe2 s2=>Q (.bool e2) s2) E s1)/\(e1=false->Q (.bool false) s1)) E s) :
  y7 (y6 prog w) A (call (.builtin "tuple.__eq__") [.ref a,.ref b]) Q E s:=by
 have hTa:s.TypeIs (.ref a) "tuple" := ⟨_,ha,rfl⟩
 have hTb:s.TypeIs (.ref b) "tuple" := ⟨_,hb',rfl⟩
 refine zX E7 hTa KV ?_ (Kr _ _)
 refine y0 (m:=B9 (.ref b) (.type "tuple")) (AO hTb CL ?_)
 refine zA rfl (y0 (y0 (zy ha rfl (y4 ?_))))
 refine y0 (y0 (zy hb' rfl (y4 ?_)))
 refine y0 (m:=Dt [(x1,y1),(x2,y2)] _ _) ?_
 rw[AC]
 refine y0 (y0 (zi h (λe1 s1 z=>?_) λZ Z z=>z))
 cases e1 with
 | true =>
  refine zA rfl (y4 ?_)
  show y7 _ _ (Dt [(x2,y2)] _ _) _ _ s1
  rw[AC]
  refine y0 (y0 (zi (z.1 rfl) (λe2 s2 z=>?_) λZ Z z=>z))
  cases e2 with
  | true =>
   refine zA rfl (y4 ?_)
   show y7 _ _ (Dt [] _ _) _ _ s2
   exact y4 (y4 ⟨_,rfl,z⟩)
  | false =>
   exact Bq rfl (y0 (y4 (y4 (y4 (y4 ⟨_,rfl,z⟩)))))
 | false =>
  exact Bq rfl (y0 (y4 (y4 (y4 (y4 ⟨_,rfl,z.2 rfl⟩)))))
end
section
variable{Es:List Sc}
theorem u9{hp:AJ}{x y:WX}(hx:WH hp x)(hy:WH hp y)(h:x.v=y.v):x.c=y.c:=by
 cases hx with
 | str a t =>
  cases hy with
  | str b u=>injection h with h1 h2;show aA a=aA b;rw[h1]
  | tup b qs hb hl=>cases h
 | tup a ps ha hl =>
  cases hy with
  | str b u=>cases h
  | tup b qs hb hl' =>
   injection h with h
   subst h
   rw[ha] at hb
   have e1:=congrArg Mw (AG hb)
   injection e1 with e1 _
   have e2:ps.map aM=qs.map aM:=by simpa using congrArg Iu e1
   have e3:ps=qs:=DR (f:=aM) (λp q e=>by injection e with e1 e2;exact Ks e1 e2) |>.mp e2
   show cts ps=cts qs
   rw[e3]
theorem jW{hp:AJ}{e e':Sc}(h:ScH hp e)(h':ScH hp e')(ha:e.a=e'.a):e.f=e'.f/\e.x.c=e'.x.c:=by
 obtain⟨h1,h2⟩:=h
 obtain⟨h3,h4⟩:=h'
 rw[ha,h3] at h1
 have e1:=congrArg Mw (AG h1)
 injection e1 with e1 _
 have e2:[BE e'.f e'.ft,e'.x.v]=[BE e.f e.ft,e.x.v]:=by
  have:=congrArg Iu e1
  simpa using this
 injection e2 with g1 g2
 injection g2 with g2 _
 injection g1 with f1 _
 exact⟨f1.symm,u9 h2 h4 g2.symm⟩
theorem uz{e e':Sc}{Q:BP}(hu:A.units+1<AB)(NB:B8 s.heap)(hT:kK Es)(hR:kL rk Es)(he:e∈Es)(he':e'∈Es)(ha:ScH s.heap e)(hb':ScH s.heap e')
  (h:Q (decide (rkS rk e=rkS rk e')) s):y7 (y6 pw w) A (Fy (.ref e.a) (.ref e'.a)) Q E s:=by
 have hself:(zZ e.f e.f==some Ordering.eq)=true:=(zr.mp ((hR e he e he).1.mpr rfl)).1
 obtain⟨r1,-,-,-,-,r6⟩:=hR e he e' he'
 unfold Fy
 try with_reducible refine zs ?_
 show y7 _ _ (if (AW e.a==AW e'.a)=true then _ else _) Q E s
 by_cases hab:(AW e.a==AW e'.a)=true
 ·refine bW hab ?_
  have ea:e.a=e'.a:=by have:=Aw hab;injection this
  obtain⟨f1,x1⟩:=jW ha hb' ea
  have:rkS rk e=rkS rk e':=by unfold rkS;rw[f1,x1]
  rw[decide_eq_true this] at h
  exact y0 (AS (y4 h))
 ·refine aQ hab (y0 (Bz (op:=.Eq) ⟨_,ha.1,rfl⟩ ⟨_,hb'.1,rfl⟩ E7 (lW ha.1 hb'.1 ?_) (dn 1 hu)))
  refine dD NB (hT e he).1 (hT e' he').1 (λq=>(hT e he).2 e' he' q) hself ⟨λq=>kM (by show A.units+1<AB;exact hu) ha.2 hb'.2 r6 ⟨nofun,zb ?_⟩,λq=>⟨nofun,zb ?_⟩⟩
  ·rw[q,Bool.true_and] at r1
   rw[jj r1]
   exact h
  ·have z:¬ rkS rk e=rkS rk e':=λz=>by
    have:=r1.mpr z
    rw[q] at this;cases this
   rw[decide_eq_false z] at h
   exact h
end
noncomputable def par(i:Nat):Nat:=(i - 1) / 2
inductive rN (t:Nat):Nat->Prop
 | refl:rN t t
 | child {p c:Nat}:rN t p->1<=c->par c=p->rN t c
theorem dN{i:Nat}(h:1<=i):par i<i:=by unfold par;exact zdq h
theorem fY{c p:Nat}(h:1<=c)(e:par c=p):c=2 * p+1\/c=2 * p+2:=by unfold par at e;exact zdr h e
theorem rN.ge{t p:Nat}(h:rN t p):t<=p:=by
 induction h with
 | refl=>exact zk _
 | child h h1 e ih=>have:=dN h1;exact zdo e ih this
theorem rN.up{t p:Nat}(h:rN t p)(hn:p≠t):rN t (par p)/\1<=p:=by
 cases h with
 | refl=>exact absurd rfl hn
 | child h h1 e=>exact⟨by rw[e];exact h,h1⟩
def aX(K:Nat->Int)(m t:Nat):Prop:=∀ i,1<=i->i<m->t<=par i->K (par i)<=K i
def rJ(K:Nat->Int)(m t pos:Nat):Prop:=rN t pos/\pos<m/\(∀ i,1<=i->i<m->t<=par i->par i≠pos->i≠pos->K (par i)<=K i)/\(pos≠t->∀ c,1<=c->c<m->par c=pos->K (par pos)<=K c)
def UpI(K:Nat->Int)(m t pos:Nat):Prop:=rN t pos/\pos<m/\(∀ i,1<=i->i<m->t<=par i->i≠pos->K (par i)<=K i)/\(pos≠t->∀ c,1<=c->c<m->par c=pos->K (par pos)<=K c)
noncomputable def kQ(K:Nat->Int)(a b:Nat):Nat->Int:=λi=>if i=a then K b else if i=b then K a else K i
theorem jK{K:Nat->Int}{m t:Nat}(h:aX K m (t+1))(ht:t<m):rJ K m t t:=by
 refine⟨.refl,ht,λi h1 hm hp hn Z=>h i h1 hm ?_,λq=>absurd rfl q⟩
 exact zdp hp hn
theorem wY{K:Nat->Int}{m t pos:Nat}(h:rJ K m t pos)(hm:m<=2 * pos+1):UpI K m t pos:=by
 obtain⟨h1,h2,h3,h4⟩:=h
 refine⟨h1,h2,λi i1 im hp hn=>h3 i i1 im hp (λe=>?_) hn,h4⟩
 rcases fY i1 e with q|q<;> lia
theorem q6{K:Nat->Int}{m t pos c:Nat}(h:rJ K m t pos)(hc1:1<=c)(hc:par c=pos)(hm:c<m)(hmin:∀ s,1<=s->s<m->par s=pos->K c<=K s):rJ (kQ K c pos) m t c:=by
 obtain⟨h1,h2,h3,h4⟩:=h
 have hlt:=dN hc1
 have hcp:c≠pos:=za4 hc hlt
 refine⟨.child h1 hc1 hc,hm,λi i1 im hp hn1 hn2=>?_,λZ s s1 sm hs=>?_⟩
 ·unfold kQ
  have hil:=dN i1
  rw[if_neg hn1,if_neg hn2]
  by_cases e1:par i=pos
  ·rw[if_pos e1]
   by_cases e2:i=pos
   ·lia
   ·rw[if_neg e2];exact hmin i i1 im e1
  ·rw[if_neg e1]
   by_cases e2:i=pos
   ·rw[if_pos e2]
    subst e2
    have:i≠t:=λe=>by have:=h1.ge;subst e;exact zdy hil hp
    exact h4 this c hc1 hm hc
   ·rw[if_neg e2]
    exact h3 i i1 im hp e1 e2
 ·unfold kQ
  have hsl:=dN s1
  have e1:s≠c:=za4 hs hsl
  have e2:s≠pos:=ze1 hc hlt hs hsl
  rw[if_neg e1,if_neg e2,hc,if_neg (Js hcp),if_pos rfl]
  have:=h3 s s1 sm (by rw[hs];have:=h1.ge;exact ze2 hc hlt this) (by rw[hs];exact hcp) e2
  rw[hs] at this
  exact this
theorem ve{K:Nat->Int}{m t pos:Nat}(h:UpI K m t pos)(hn:pos≠t)(hx:K pos<K (par pos)):UpI (kQ K (par pos) pos) m t (par pos):=by
 obtain⟨h1,h2,h3,h4⟩:=h
 obtain⟨hd,hp1⟩:=h1.up hn
 have hlt:=dN hp1
 have hne:par pos≠pos:=za2 hlt
 refine⟨hd,by exact z9m h2 hlt,λi i1 im hp hni=>?_,λhnt c c1 cm hc=>?_⟩
 ·unfold kQ
  rw[if_neg hni]
  by_cases e2:i=pos
  ·subst e2
   rw[if_pos rfl,if_pos rfl]
   exact zdz hx
  ·rw[if_neg e2]
   by_cases e1:par i=par pos
   ·rw[if_pos e1]
    have:=h3 i i1 im hp e2
    rw[e1] at this
    exact ze0 hx this
   ·rw[if_neg e1]
    by_cases e3:par i=pos
    ·rw[if_pos e3]
     exact h4 hn i i1 im e3
    ·rw[if_neg e3]
     exact h3 i i1 im hp e2
 ·obtain⟨hd2,hpp1⟩:=hd.up hnt
  have hlt2:=dN hpp1
  have hup:=h3 (par pos) hpp1 (z9m h2 hlt) hd2.ge hne
  unfold kQ
  have hcl:=dN c1
  have f1:par (par pos)≠par pos:=za2 hlt2
  have f2:par (par pos)≠pos:=ze3 hlt hlt2
  rw[if_neg f1,if_neg f2]
  have g1:c≠par pos:=za4 hc hcl
  rw[if_neg g1]
  by_cases e2:c=pos
  ·rw[if_pos e2];exact hup
  ·rw[if_neg e2]
   have:=h3 c c1 cm (by rw[hc];exact hd.ge) e2
   rw[hc] at this
   exact zdx hup this
theorem oV{K:Nat->Int}{m t pos:Nat}(h:UpI K m t pos)(he:pos=t\/K (par pos)<=K pos):aX K m t:=by
 obtain⟨h1,h2,h3,h4⟩:=h
 intro i i1 im hp
 by_cases e:i=pos
 ·subst e
  rcases he with q|q
  ·have:=dN i1;exact zdu hp q this
  ·exact q
 ·exact h3 i i1 im hp e
theorem tw{K:Nat->Int}{m:Nat}(h:aX K m 0):∀ i,i<m->K 0<=K i:=by
 intro i
 induction i using IC with
 | _ i ih =>
  intro hi
  by_cases e:i=0
  ·subst e;exact Jb _
  ·have hl:=dN (i:=i) (zds e)
   have:=ih (par i) hl (z9m hi hl)
   have:=h i (zds e) hi (zD _)
   lia
theorem hq_plain:FT "_heapq.heapify.sift" = true:=by decide +kernel
theorem ik:Dq Hg "_heapq.heapify.sift" = some Az.«_heapq.heapify.sift»:=B2 (by kernel_rfl)
section
variable{tabs:List zh}{a:zh}{l:LV}{T:LO}{vs:List Value}{c pos top:Nat}{res:Value}
noncomputable abbrev iB (a:zh) (down:Bool) (pos top:Nat) (res:Value) (after:Int):Code:=.builtin "_heapq.heapify.sift" ⟨[.ref a,.bool false,.bool down,Cz pos,Cz top,res,Cz after],[]⟩
theorem po(S:St hb tabs L l ((a,ap vs c)::T) s.heap)(hl:vs.length / 2<=pos)(h:zW (y6 prog w) A (iB a false pos top res after) R s):zW (y6 prog w) A (iB a true pos top res after) R s:=by
 refine Ad ik ?_
 rw[BV hq_plain _]
 refine y0 (m:=(BQ (.ref a)>>=_)) (y0 (zy (S.obj _ m0) rfl (y4 ?_)))
 show y7 _ _ (if pos<vs.toArray.size / 2 then _ else _) _ _ s
 exact aQ (by rw[zg];exact z9h hl) (y4 ⟨Au hq_plain _,h⟩)
noncomputable def dE(vs:List Value)(i j:Nat):List Value:=(vs.set i (vs.getD j .none)).set j (vs.getD i .none)
theorem ic{i j:Nat}:∃ c1,zS (λxs=>(xs.setIfInBounds i (vs.getD j .none)).setIfInBounds j (vs.getD i .none)) (ap vs c)=ap (dE vs i j) c1:=by
 have e:(vs.toArray.setIfInBounds i (vs.getD j .none)).setIfInBounds j (vs.getD i .none)=(dE vs i j).toArray:=by simp[dE]
 have h:∃ c1,zS (λxs=>(xs.setIfInBounds i (vs.getD j .none)).setIfInBounds j (vs.getD i .none)) (ap vs c) = { ap vs c with data:=.seq ((vs.toArray.setIfInBounds i (vs.getD j .none)).setIfInBounds j (vs.getD i .none)) c1 }:=⟨_,rfl⟩
 rw[e] at h
 exact h
theorem pq{key:Value->Int}(S:St hb tabs L l ((a,ap vs c)::T) s.heap)(hz:vs.length<=1000)(hl:pos<vs.length / 2)
  (hless:∀ x∈vs,∀ y∈vs,∀ {E:VP}{Q:VP},Q (.bool (decide (key x<key y))) s->y7 (y6 prog w) A.in1 (DJ .Lt x y) Q E s)
  (k:∀ ch h' c',1<=ch->par ch=pos->ch<vs.length->(∀ i,1<=i->i<vs.length->par i=pos->key (vs.getD ch .none)<=key (vs.getD i .none))->St hb tabs L l ((a,ap (dE vs ch pos) c')::T) h'->zW (y6 prog w) A (iB a true ch top res after) R (wh s h')) :
  zW (y6 prog w) A (iB a true pos top res after) R s:=by
 have NR:∀ i,i<vs.length->vs.toArray[i]? = some (vs.getD i .none):=λi hi=>by simp[hi]
 have mem:∀ i,i<vs.length->vs.getD i .none∈vs:=λi hi=>by simp[hi]
 refine Ad ik ?_
 rw[BV hq_plain _]
 refine y0 (m:=(BQ (.ref a)>>=_)) (y0 (zy (S.obj _ m0) rfl (y4 ?_)))
 show y7 _ _ (if pos<vs.toArray.size / 2 then _ else _) _ _ s
 refine bW (by rw[zg];exact hl) ?_
 show y7 _ _ (if 2 * pos+1+1<vs.toArray.size then _ else _) _ _ s
 have hp1:par (2 * pos+1)=pos:=by unfold par;exact z9n
 have hp2:par (2 * pos+1+1)=pos:=by unfold par;exact z9o
 have hpos:pos<vs.length:=z9p hl
 have hl1:2 * pos+1<vs.length:=z9r hl
 by_cases h2:2 * pos+1+1<vs.length
 ·refine bW (by rw[zg];exact h2) (y0 (Ay (a:=vs.getD (2 * pos+1) .none) (by show (match vs.toArray[(2 * pos+1)]? with|some v=>AA v|none=>_)=_;rw[NR _ hl1]) ?_))
  refine y0 (Ay (a:=vs.getD (2 * pos+1+1) .none) (by show (match vs.toArray[(2 * pos+1+1)]? with|some v=>AA v|none=>_)=_;rw[NR _ h2]) ?_)
  refine aQ (by decide) (y0 (y0 (m:=Hd [vs.getD (2 * pos+1) .none,vs.getD (2 * pos+1+1) .none] (DJ .Lt (vs.getD (2 * pos+1) .none) (vs.getD (2 * pos+1+1) .none)>>=Ja)) (zs (y0 (hless _ (mem _ hl1) _ (mem _ h2) ?_)))))
  refine zb (y0 (m:=(BQ (.ref a)>>=_)) (y0 (zy (S.obj _ m0) rfl (y4 ?_))))
  refine aQ (by simp) (y4 ?_)
  by_cases hlt:key (vs.getD (2 * pos+1) .none)<key (vs.getD (2 * pos+1+1) .none)
  ·rw[decide_eq_true hlt]
   refine aQ (by decide) (y0 (y0 (m:=(BQ (.ref a)>>=_)) (y0 (zy (S.obj _ m0) rfl (y4 ?_)))))
   refine y0 (Ay (a:=vs.getD (2 * pos+1) .none) (by show (match vs.toArray[(2 * pos+1)]? with|some v=>AA v|none=>_)=_;rw[NR _ hl1]) ?_)
   refine y0 (Ay (a:=vs.getD (pos) .none) (by show (match vs.toArray[(pos)]? with|some v=>AA v|none=>_)=_;rw[NR _ hpos]) ?_)
   obtain⟨c1,hc1⟩:∃ c1,zS (λxs=>(xs.setIfInBounds (2 * pos+1) (vs.getD (pos) .none)).setIfInBounds (pos) (vs.getD (2 * pos+1) .none)) (ap vs c)=ap (dE vs (2 * pos+1) (pos)) c1:=ic
   refine BH (S.obj _ m0) rfl ?_ (by rw[zz,zg];exact up 16776216 hz) (by rw[zz];simp;exact up 16776217 hz)
   have S':=S.change (o':=ap (dE vs (2 * pos+1) (pos)) c1) 0 rfl (zw s.heap a (zS λxs=>(xs.setIfInBounds (2 * pos+1) (vs.getD (pos) .none)).setIfInBounds (pos) (vs.getD (2 * pos+1) .none))) (by rw[zt _ (S.obj _ m0) (by rw[hc1];rfl),hc1])
   refine y4 ⟨Au hq_plain _,k (2 * pos+1) _ _ z9t hp1 hl1 (λi i1 im hi=>?_) S'⟩
   rcases fY i1 hi with q|q
   ·rw[q];exact Jb _
   ·rw[q];exact HZ hlt
  ·rw[decide_eq_false hlt]
   show y7 _ _ (if (!false)=true then _ else _) _ _ s
   refine bW (by decide) (y0 (y0 (m:=(BQ (.ref a)>>=_)) (y0 (zy (S.obj _ m0) rfl (y4 ?_)))))
   refine y0 (Ay (a:=vs.getD (2 * pos+1+1) .none) (by show (match vs.toArray[(2 * pos+1+1)]? with|some v=>AA v|none=>_)=_;rw[NR _ h2]) ?_)
   refine y0 (Ay (a:=vs.getD (pos) .none) (by show (match vs.toArray[(pos)]? with|some v=>AA v|none=>_)=_;rw[NR _ hpos]) ?_)
   obtain⟨c1,hc1⟩:∃ c1,zS (λxs=>(xs.setIfInBounds (2 * pos+1+1) (vs.getD (pos) .none)).setIfInBounds (pos) (vs.getD (2 * pos+1+1) .none)) (ap vs c)=ap (dE vs (2 * pos+1+1) (pos)) c1:=ic
   refine BH (S.obj _ m0) rfl ?_ (by rw[zz,zg];exact up 16776216 hz) (by rw[zz];simp;exact up 16776217 hz)
   have S':=S.change (o':=ap (dE vs (2 * pos+1+1) (pos)) c1) 0 rfl (zw s.heap a (zS λxs=>(xs.setIfInBounds (2 * pos+1+1) (vs.getD (pos) .none)).setIfInBounds (pos) (vs.getD (2 * pos+1+1) .none))) (by rw[zt _ (S.obj _ m0) (by rw[hc1];rfl),hc1])
   refine y4 ⟨Au hq_plain _,k (2 * pos+1+1) _ _ z9u hp2 h2 (λi i1 im hi=>?_) S'⟩
   rcases fY i1 hi with q|q
   ·rw[q];exact GA.mp hlt
   ·rw[q];exact Jb _
 ·refine aQ (by rw[zg];exact h2) (y0 (y0 (m:=(BQ (.ref a)>>=_)) (y0 (zy (S.obj _ m0) rfl (y4 ?_)))))
  refine y0 (Ay (a:=vs.getD (2 * pos+1) .none) (by show (match vs.toArray[(2 * pos+1)]? with|some v=>AA v|none=>_)=_;rw[NR _ hl1]) ?_)
  refine y0 (Ay (a:=vs.getD (pos) .none) (by show (match vs.toArray[(pos)]? with|some v=>AA v|none=>_)=_;rw[NR _ hpos]) ?_)
  obtain⟨c1,hc1⟩:∃ c1,zS (λxs=>(xs.setIfInBounds (2 * pos+1) (vs.getD (pos) .none)).setIfInBounds (pos) (vs.getD (2 * pos+1) .none)) (ap vs c)=ap (dE vs (2 * pos+1) (pos)) c1:=ic
  refine BH (S.obj _ m0) rfl ?_ (by rw[zz,zg];exact up 16776216 hz) (by rw[zz];simp;exact up 16776217 hz)
  have S':=S.change (o':=ap (dE vs (2 * pos+1) (pos)) c1) 0 rfl (zw s.heap a (zS λxs=>(xs.setIfInBounds (2 * pos+1) (vs.getD (pos) .none)).setIfInBounds (pos) (vs.getD (2 * pos+1) .none))) (by rw[zt _ (S.obj _ m0) (by rw[hc1];rfl),hc1])
  refine y4 ⟨Au hq_plain _,k (2 * pos+1) _ _ z9t hp1 hl1 (λi i1 im hi=>?_) S'⟩
  rcases fY i1 hi with q|q
  ·rw[q];exact Jb _
  ·exact z9v h2 im q
def EndK(prog:Bm)(w:As)(A:AU)(a:zh)(res:Value)(after:Int)(R:Cm->zc->Prop)(s:zc):Prop :=
 (after<0->R (.ok (.ret res)) s)/\∀ n:Nat,after=n->zW (y6 prog w) A (iB a true n n res ((n:Int) - 1)) R s
theorem pn(S:St hb tabs L l ((a,ap vs c)::T) s.heap)(hl:pos<=top)(h:EndK prog w A a res after R s):zW (y6 prog w) A (iB a false pos top res after) R s:=by
 refine Ad ik ?_
 rw[BV hq_plain _]
 refine y0 (m:=(BQ (.ref a)>>=_)) (y0 (zy (S.obj _ m0) rfl (y4 ?_)))
 show y7 _ _ (if pos > top then _ else _) _ _ s
 refine aQ (z9i hl) ?_
 show y7 _ _ (if after<0 then _ else _) _ _ s
 by_cases ha:after<0
 ·exact bW ha (y4 (h.1 ha))
 ·refine aQ ha ?_
  obtain⟨n,hn⟩:∃ n:Nat,after=n:=⟨after.toNat,by exact z9j ha⟩
  subst hn
  exact y4 ⟨Au hq_plain _,h.2 n rfl⟩
theorem vz{key:Value->Int}(S:St hb tabs L l ((a,ap vs c)::T) s.heap)(hz:vs.length<=1000)(hl:top<pos)(hpos:pos<vs.length)
  (hless:∀ x∈vs,∀ y∈vs,∀ {E:VP}{Q:VP},Q (.bool (decide (key x<key y))) s->y7 (y6 prog w) A.in1 (DJ .Lt x y) Q E s)
  (k1:∀ h' c',key (vs.getD pos .none)<key (vs.getD (par pos) .none)->St hb tabs L l ((a,ap (dE vs (par pos) pos) c')::T) h'->zW (y6 prog w) A (iB a false (par pos) top res after) R (wh s h'))
  (k2:key (vs.getD (par pos) .none)<=key (vs.getD pos .none)->EndK prog w A a res after R s) :
  zW (y6 prog w) A (iB a false pos top res after) R s:=by
 have NR:∀ i,i<vs.length->vs.toArray[i]? = some (vs.getD i .none):=λi hi=>by simp[hi]
 have mem:∀ i,i<vs.length->vs.getD i .none∈vs:=λi hi=>by simp[hi]
 have hpar:par pos<vs.length:=by have:=dN (i:=pos) (z9k hl);exact z9m hpos this
 refine Ad ik ?_
 rw[BV hq_plain _]
 refine y0 (m:=(BQ (.ref a)>>=_)) (y0 (zy (S.obj _ m0) rfl (y4 ?_)))
 show y7 _ _ (if pos > top then _ else _) _ _ s
 refine bW hl (y0 (Ay (a:=vs.getD (pos) .none) (by show (match vs.toArray[(pos)]? with|some v=>AA v|none=>_)=_;rw[NR _ hpos]) ?_))
 refine y0 (Ay (a:=vs.getD (par pos) .none) (by show (match vs.toArray[(par pos)]? with|some v=>AA v|none=>_)=_;rw[NR _ hpar]) ?_)
 refine aQ (by decide) (y0 (y0 (m:=Hd [vs.getD (pos) .none,vs.getD (par pos) .none] (DJ .Lt (vs.getD (pos) .none) (vs.getD (par pos) .none)>>=Ja)) (zs (y0 (hless _ (mem _ hpos) _ (mem _ hpar) ?_)))))
 refine zb (y0 (m:=(BQ (.ref a)>>=_)) (y0 (zy (S.obj _ m0) rfl (y4 ?_))))
 refine aQ (by simp) (y4 ?_)
 by_cases hlt:key (vs.getD pos .none)<key (vs.getD (par pos) .none)
 ·rw[decide_eq_true hlt]
  refine bW rfl (y0 (y0 (m:=(BQ (.ref a)>>=_)) (y0 (zy (S.obj _ m0) rfl (y4 ?_)))))
  refine y0 (Ay (a:=vs.getD (par pos) .none) (by show (match vs.toArray[(par pos)]? with|some v=>AA v|none=>_)=_;rw[NR _ hpar]) ?_)
  refine y0 (Ay (a:=vs.getD (pos) .none) (by show (match vs.toArray[(pos)]? with|some v=>AA v|none=>_)=_;rw[NR _ hpos]) ?_)
  obtain⟨c1,hc1⟩:∃ c1,zS (λxs=>(xs.setIfInBounds (par pos) (vs.getD (pos) .none)).setIfInBounds (pos) (vs.getD (par pos) .none)) (ap vs c)=ap (dE vs (par pos) (pos)) c1:=ic
  refine BH (S.obj _ m0) rfl ?_ (by rw[zz,zg];exact up 16776216 hz) (by rw[zz];simp;exact up 16776217 hz)
  have S':=S.change (o':=ap (dE vs (par pos) (pos)) c1) 0 rfl (zw s.heap a (zS λxs=>(xs.setIfInBounds (par pos) (vs.getD (pos) .none)).setIfInBounds (pos) (vs.getD (par pos) .none))) (by rw[zt _ (S.obj _ m0) (by rw[hc1];rfl),hc1])
  exact y4 ⟨Au hq_plain _,k1 _ _ hlt S'⟩
 ·rw[decide_eq_false hlt]
  refine aQ (by decide) ?_
  have h:=k2 (GA.mp hlt)
  by_cases ha:after<0
  ·exact bW ha (y4 (h.1 ha))
  ·refine aQ ha ?_
   obtain⟨n,hn⟩:∃ n:Nat,after=n:=⟨after.toNat,by exact z9j ha⟩
   subst hn
   exact y4 ⟨Au hq_plain _,h.2 n rfl⟩
end
noncomputable abbrev fH(key:Value->Int)(vs:List Value):Nat->Int:=λi=>key (vs.getD i .none)
theorem jz{vs:List Value}{i j:Nat}(hi:i<vs.length)(hj:j<vs.length):(dE vs i j).Perm vs:=by
 have e1:vs.getD i .none=vs[i]:=by simp[hi]
 have e2:vs.getD j .none=vs[j]:=by simp[hj]
 unfold dE
 rw[e1,e2]
 exact List.set_set_perm hi hj
theorem kP(key:Value->Int){vs:List Value}{i j:Nat}(hi:i<vs.length)(hj:j<vs.length)(hij:i≠j):fH key (dE vs i j)=kQ (fH key vs) i j:=by
 funext k
 unfold kQ fH dE
 by_cases e1:k=i
 ·subst e1
  congr 1
  simp[Ds,hi,Js hij]
 ·rw[if_neg e1]
  by_cases e2:k=j
  ·subst e2
   congr 1
   simp[Ds,hj]
  ·rw[if_neg e2]
   congr 1
   simp[Ds,Js e1,Js e2]
section
variable{tabs:List zh}{a:zh}{l:LV}{T:LO}{vs0:List Value}{top:Nat}{res:Value}{key:Value->Int}
def gP(prog:Bm)(w:As)(A:AU)(hb:AJ)(tabs:List zh)(L a:zh)(l:LV)(T:LO)(vs0:List Value)(key:Value->Int)(s:zc):Prop :=
 ∀ s' c' vs',Kp s s'->St hb tabs L l ((a,ap vs' c')::T) s'.heap->∀ x∈vs0,∀ y∈vs0,∀ {E:VP}{Q:VP},Q (.bool (decide (key x<key y))) s'->y7 (y6 prog w) A.in1 (DJ .Lt x y) Q E s'
theorem xt(hless:gP prog w A hb tabs L a l T vs0 key s)(hz:vs0.length<=1000)
  (hfin:∀ s' vs' c',Kp s s'->vs'.Perm vs0->aX (fH key vs') vs0.length top->St hb tabs L l ((a,ap vs' c')::T) s'.heap->EndK prog w A a res after R s') :
  ∀ pos vs c s₁,Kp s s₁->vs.Perm vs0->UpI (fH key vs) vs0.length top pos->St hb tabs L l ((a,ap vs c)::T) s₁.heap->zW (y6 prog w) A (iB a false pos top res after) R s₁:=by
 intro pos
 induction pos using IC with
 | _ pos ih =>
  intro vs c s₁ K hp hU S
  have hlen:=hp.length_eq
  by_cases hn:pos=top
  ·exact pn S (z9w hn) (hfin s₁ vs c K hp (oV hU (.inl hn)) S)
  ·have hge:=hU.1.ge
   have hlt:pos<vs.length:=by rw[hlen];exact hU.2.1
   obtain⟨hd,hp1⟩:=hU.1.up hn
   have hpl:=dN hp1
   refine vz S (z9y hz hlen) (z9z hn hge) hlt (λx hx y hy=>hless s₁ c vs K S x (hp.mem_iff.mp hx) y (hp.mem_iff.mp hy)) ?_ ?_
   ·refine λh' c' hx S'=>ih (par pos) hpl (dE vs (par pos) pos) c' _ ⟨K.os,K.gens⟩ ((jz (z9m hlt hpl) hlt).trans hp) ?_ S'
    rw[kP key (by exact z9m hlt hpl) hlt (by exact za2 hpl)]
    exact ve hU hn hx
   ·exact λhx=>hfin s₁ vs c K hp (oV hU (.inr hx)) S
theorem nC(hless:gP prog w A hb tabs L a l T vs0 key s)(hz:vs0.length<=1000)
  (hfin:∀ s' vs' c',Kp s s'->vs'.Perm vs0->aX (fH key vs') vs0.length top->St hb tabs L l ((a,ap vs' c')::T) s'.heap->EndK prog w A a res after R s') :
  ∀ k pos vs c s₁,vs0.length - pos=k->Kp s s₁->vs.Perm vs0->rJ (fH key vs) vs0.length top pos->St hb tabs L l ((a,ap vs c)::T) s₁.heap->zW (y6 prog w) A (iB a true pos top res after) R s₁:=by
 intro k
 induction k using IC with
 | _ k ih =>
  intro pos vs c s₁ hk K hp hD S
  have hlen:=hp.length_eq
  have hlt:pos<vs.length:=by rw[hlen];exact hD.2.1
  by_cases hl:pos<vs.length / 2
  ·refine pq S (z9y hz hlen) hl (λx hx y hy=>hless s₁ c vs K S x (hp.mem_iff.mp hx) y (hp.mem_iff.mp hy)) ?_
   intro ch h' c' h1 hpc hch hmin S'
   have hcl:=dN h1
   refine ih (vs0.length - ch) (za3 hk hlen hl hpc hcl) ch (dE vs ch pos) c' _ rfl ⟨K.os,K.gens⟩ ((jz hch hlt).trans hp) ?_ S'
   rw[kP key hch hlt (za4 hpc hcl)]
   exact q6 hD h1 hpc (za5 hlen hch) (λi i1 im hi=>hmin i i1 (z2v hlen im) hi)
  ·exact po S (za6 hl) (xt hless hz hfin pos vs c s₁ K hp (wY hD (za7 hlen hl)) S)
theorem i0(hless:gP prog w A hb tabs L a l T vs0 key s)(hz:vs0.length<=1000)
  (hR:∀ s' vs' c',Kp s s'->vs'.Perm vs0->aX (fH key vs') vs0.length 0->St hb tabs L l ((a,ap vs' c')::T) s'.heap->R (.ok (.ret res)) s') :
  ∀ n vs c s₁,n<vs0.length->Kp s s₁->vs.Perm vs0->aX (fH key vs) vs0.length (n+1)->St hb tabs L l ((a,ap vs c)::T) s₁.heap->zW (y6 prog w) A (iB a true n n res ((n:Int) - 1)) R s₁:=by
 intro n
 induction n with
 | zero =>
  refine λvs c s₁ hn K hp hH S=>nC hless hz (λs' vs' c' K' hp' hH' S'=>⟨λZ=>hR s' vs' c' K' hp' hH' S',λm hm=>by exact z9x hm⟩) _ 0 vs c s₁ rfl K hp (jK hH hn) S
 | succ n ih =>
  refine λvs c s₁ hn K hp hH S=>nC hless hz (λs' vs' c' K' hp' hH' S'=>⟨λh=>by exact za0 h,λm hm=>?_⟩) _ (n+1) vs c s₁ rfl K hp (jK hH hn) S
  have:m=n:=za1 hm
  subst this
  exact ih vs' c' s' (dn 1 hn) K' hp' hH' S'
end
theorem wJ:Eo "_heapq.heapify" = none:=by decide +kernel
theorem sZ:FT "_heapq.heapify" = true:=by decide +kernel
theorem te:Dq Hg "_heapq.heapify" = some Az.«_heapq.heapify»:=B2 (by kernel_rfl)
theorem wK (a:Value):CM "_heapq.heapify" ⟨[a],[]⟩:=by unfold CM;kernel_rfl
theorem wL:Eo "_heapq.heapreplace" = none:=by decide +kernel
theorem th:FT "_heapq.heapreplace" = true:=by decide +kernel
theorem tr:Dq Hg "_heapq.heapreplace" = some Az.«_heapq.heapreplace»:=B2 (by kernel_rfl)
theorem wM (a b:Value):CM "_heapq.heapreplace" ⟨[a,b],[]⟩:=by unfold CM;kernel_rfl
theorem kR:CN (.type "list") (.type "list")=AA true:=by rw[Be];kernel_rfl
section
variable{tabs:List zh}{a:zh}{l:LV}{T:LO}{vs:List Value}{c:Nat}{key:Value->Int}
theorem pV{Q:VP}(S:St hb tabs L l ((a,ap vs c)::T) s.heap)(hz:vs.length<=1000)(hless:gP prog w A hb tabs L a l T vs key s)
  (k:∀ s' vs' c',Kp s s'->vs'.Perm vs->aX (fH key vs') vs.length 0->St hb tabs L l ((a,ap vs' c')::T) s'.heap->Q .none s'):y7 (y6 prog w) A (call (.builtin "_heapq.heapify") [.ref a]) Q E s:=by
 have hT:s.TypeIs (.ref a) "list" := ⟨_,S.obj _ m0,rfl⟩
 refine JV wJ sZ te (wK _) (y0 (m:=((AA (AW a))>>=_)) (y0 (y4 ?_)))
 refine y0 (y0 (m:=B9 (.ref a) (.type "list")) (AO hT kR ?_))
 refine y4 (y4 (y0 (m:=(BQ (.ref a)>>=_)) (y0 (zy (S.obj _ m0) rfl (y4 ?_)))))
 refine aQ (by rw[zg];exact za8 hz) ?_
 by_cases h2:vs.length<2
 ·refine bW (by rw[zg];exact h2) (y4 (k s vs c Kp.refl (BI _) (λi i1 im Z=>by exact za9 h2 i1 im) S))
 ·refine aQ (by rw[zg];exact h2) ?_
  have e1:((vs.toArray.size / 2:Nat):Int) - 2=((vs.length / 2 - 1:Nat):Int) - 1:=by rw[zg];exact zab h2
  rw[e1]
  refine y4 ⟨Au hq_plain _,?_⟩
  refine i0 (key:=key) hless hz (λs' vs' c' K' hp' hH' S'=>k s' vs' c' K' hp' hH' S') (vs.length / 2 - 1) vs c s (zae h2) Kp.refl (BI _) (λi i1 im hp=>?_) S
  unfold par at hp
  exact zaf im hp
theorem j0{item first:Value}{rest:List Value}{Q:VP}(S:St hb tabs L l ((a,ap (first::rest) c)::T) s.heap)(hz:(first::rest).length<=1000)(hless:gP prog w A hb tabs L a l T (item::rest) key s)(hH:aX (fH key (first::rest)) (first::rest).length 0)
  (k:∀ s' vs' c',Kp s s'->vs'.Perm (item::rest)->aX (fH key vs') (item::rest).length 0->St hb tabs L l ((a,ap vs' c')::T) s'.heap->Q first s'):y7 (y6 prog w) A (call (.builtin "_heapq.heapreplace") [.ref a,item]) Q E s:=by
 have hT:s.TypeIs (.ref a) "list" := ⟨_,S.obj _ m0,rfl⟩
 refine JV wL th tr (wM _ _) (y0 (m:=((B9 (.ref a) (.type "list")>>=_)>>=_)) (y0 (y0 (AO hT kR ?_))))
 refine y4 (y4 ?_)
 refine y0 (m:=(BQ (.ref a)>>=_)) (y0 (zy (S.obj _ m0) rfl (y4 ?_)))
 refine y0 (m:=Jr a (·.setIfInBounds 0 item)) ?_
 obtain⟨c1,hc1⟩:∃ c1,zS (·.setIfInBounds 0 item) (ap (first::rest) c)=ap (item::rest) c1:=by
  have e:(first::rest).toArray.setIfInBounds 0 item=(item::rest).toArray:=by simp
  have h:∃ c1,zS (·.setIfInBounds 0 item) (ap (first::rest) c) = { ap (first::rest) c with data:=.seq ((first::rest).toArray.setIfInBounds 0 item) c1 }:=⟨_,rfl⟩
  exact h
 refine BH (S.obj _ m0) rfl ?_ (by rw[zz,zg];exact up 16776216 hz) (by rw[zz];simp at hz ⊢;exact up 16776217 hz)
 have S':=S.change (o':=ap (item::rest) c1) 0 rfl (zw s.heap a (zS (·.setIfInBounds 0 item))) (by rw[zt _ (S.obj _ m0) (by rw[hc1];rfl),hc1])
 refine y4 ⟨Au hq_plain _,?_⟩
 refine i0 (key:=key) (vs0:=item::rest) (s:=s) hless (by simpa using hz) (λs' vs' c' K' hp' hH' S''=>k s' vs' c' K' hp' hH' S'') 0 (item::rest) c1 _ (by simp) ⟨rfl,id⟩ (BI _) (λi i1 im hp=>?_) S'
 have h:=hH i i1 (by simpa using im) (zD _)
 have e1:∀ j,1<=j->(first::rest).getD j CO=(item::rest).getD j CO:=by
  intro j hj
  cases j with
  | zero=>lia
  | succ j=>rfl
 unfold fH at h ⊢
 rw[e1 i i1,e1 (par i) hp] at h
 exact h
end
structure HI where
 a:zh
 e:Sc
 ord:Int
 ot:AQ
noncomputable def fQ(rk:UInt64->List zK->Nat)(i:HI):Int:=(rkS rk i.e:Int) * 1000+i.ord
section
variable{Es:List Sc}
theorem hi_lt{x y:HI}{Q:VP}(hu:A.units+4<AB)(NB:B8 s.heap)(hT:kK Es)(hR:kL rk Es)(he:x.e∈Es)(he':y.e∈Es)(ha:ScH s.heap x.e)(hb':ScH s.heap y.e)
  (hx:s.heap.get? x.a=some (aG [.ref x.e.a,.int x.ord x.ot])) (hy:s.heap.get? y.a=some (aG [.ref y.e.a,.int y.ord y.ot]))
  (ox : -400<=x.ord/\x.ord<=400) (oy : -400<=y.ord/\y.ord<=400)
  (h:Q (.bool (decide (fQ rk x<fQ rk y))) s):y7 (y6 pw w) A (AK .Lt (.ref x.a) (.ref y.a)) Q E s:=by
 refine qr (dn 4 hu) hx hy (uz (by show A.units+1+1<AB;exact dn 2 hu) NB hT hR he he' ha hb' ?_)
 unfold fQ at h
 refine⟨λq=>?_,λq=>?_⟩
 ·have hq:=of_decide_eq_true q
  refine EI ⟨λq2=>?_,λq2=>?_⟩
  ·have e1:x.ord=y.ord:=Aw q2
   rw[show decide ((rkS rk x.e:Int) * 1000+x.ord<(rkS rk y.e:Int) * 1000+y.ord)=false from decide_eq_false (z27 q q2)] at h
   exact h
  ·refine P.lt_int ⟨nofun,?_⟩
   rw[show decide (x.ord<y.ord)=decide ((rkS rk x.e:Int) * 1000+x.ord<(rkS rk y.e:Int) * 1000+y.ord) from decide_eq_decide.mpr (x13 q)]
   exact h
 ·have hq:=of_decide_eq_false q
  refine vI (by show A.units+1+1<AB;exact dn 2 hu) NB hT hR he he' ha hb' ⟨nofun,?_⟩
  rw[show decide (rkS rk x.e<rkS rk y.e)=decide ((rkS rk x.e:Int) * 1000+x.ord<(rkS rk y.e:Int) * 1000+y.ord) from decide_eq_decide.mpr (x12 ox.1 ox.2 oy.1 oy.2 q)]
  exact h
end
theorem oY{rk:UInt64->List zK->Nat}{Hs outs Es:List Sc}(hp:(Hs++outs).Perm Es)(hs:Hs.Pairwise (λa b=>rkS rk b<=rkS rk a))(ho:∀ o∈outs,∀ h∈Hs,rkS rk o<=rkS rk h) :
  ∃ P:List Sc,An3 (P.Perm Es) (P.Pairwise (λa b=>rkS rk b<=rkS rk a)) (P.take Hs.length=Hs):=by
 refine⟨Hs++outs.mergeSort (λa b=>decide (rkS rk b<=rkS rk a)),?_,?_,?_⟩
 ·exact ((EO outs _).append_left Hs).trans hp
 ·refine Jc.mpr ⟨hs,?_,λa ha b hb=>?_⟩
  ·have:=HS (le:=λa b:Sc=>decide (rkS rk b<=rkS rk a)) (λa b c h1 h2=>by simp at *;exact z1r h1 h2) (λa b=>by simp;exact z1s) outs
   exact this.imp λh=>by simpa using h
  ·exact ho b ((EO outs _).mem_iff.mp hb) a ha
 ·simp
theorem mx_plain:FT "max.loop" = true:=by decide +kernel
theorem kb:Dq Hg "max.loop" = some Az.«max.loop»:=B2 (by kernel_rfl)
section
variable{tabs:List zh}{best:zh}{l:LV}{T:LO}{vs:List Value}{n:Nat}{o:AR}
theorem ij{x:Value}{Q:Option Value->zc->Prop}(ii:Nat)(S:St hb tabs L l T s.heap)(hit:T[ii]? = some (I,o))(ho:bY o d i)(hd:(d,ap vs n)∈T)(hx:vs[i]? = some x)
  (h:∀ h' o',bY o' d (i+1)->St hb tabs L l (T.set ii (I,o')) h'->Q (some x) (wh s h')):y7 (y6 prog w) A (Di (.ref I)) Q E s:=by
 refine wpAny_pyNext_list_item (items:=vs.toArray) ⟨_,S.obj _ (zp hit),ho.1,ho.2⟩ ⟨_,S.obj _ hd,rfl,n,rfl⟩ (by simpa using hx) λh' hit' hs'=>?_
 obtain⟨o',ho',hc',hd'⟩:=hit'
 exact h h' o' ⟨hc',hd'⟩ (S.change ii hit hs' ho')
theorem iV{Q:Option Value->zc->Prop}(hh:A.handled=none)(S:St hb tabs L l (T++[(I,o)]) s.heap)(ho:bY o d vs.length)(hd:(d,ap vs n)∈T)
  (h:∀ h',St hb tabs L l T h'->Q none (wh s h')):y7 (y6 prog w) A (Di (.ref I)) Q E s:=by
 exact wpAny_pyNext_list_end (items:=vs.toArray) hh ⟨_,S.obj (I,o) (y5 _ (.head _)),ho.1,ho.2⟩ ⟨_,S.obj _ (y8 _ hd),rfl,n,rfl⟩ (by simp) λh' he=>(h h' (S.drop (own:=[(I,o)]) λb x hb' e=>he b x (λq=>hb' (by rw[q];exact .head _)) e))
theorem sN(hh:A.handled=none)(hne:0<vs.length)(hz:vs.length<=1000)(hd:(d,ap vs n)∈T)
  (hgt:∀ (s':zc) (T':LO),Kp s s'->St hb tabs L l T' s'.heap->(∀ p∈T,p∈T')->∀ x∈vs,∀ y∈vs,∀ {E:VP}{Q:VP},Q (.bool (decide (rkv y<rkv x))) s'->y7 (y6 prog w) A.in1 (DJ .Gt x y) Q E s')
  (hR:∀ s' m c,Kp s s'->m∈vs->(∀ x∈vs,rkv x<=rkv m)->St hb tabs L l ((best,ap [] c)::T) s'.heap->R (.ok (.ret m)) s') :
  ∀ (k i:Nat) (cur:List Value) (c:Nat) (o:AR) (s₁:zc),vs.length - i=k->i<=vs.length->bY o d i->St hb tabs L l ((best,ap cur c)::(I,o)::T) s₁.heap->Kp s s₁ ->
   (i=0/\cur=[]\/0<i/\∃ m,An3 (cur=[m,m]) (m∈vs) (∀ x∈vs.take i,rkv x<=rkv m)) ->
   zW (y6 prog w) A (.builtin "max.loop" ⟨[.ref I,.none,.ref best],[(yZ "default", Jw)]⟩) R s₁:=by
 intro k
 induction k with
 | zero =>
  intro i cur c o s₁ hk hi ho S K hcur
  have:i=vs.length:=z94 hk hi
  subst this
  refine Ad kb (y0 (m:=BQ (.ref best)) (zy (S.obj _ m0) rfl ?_))
  refine y0 (m:=Mz (Di (.ref I)) _) (DF ?_)
  refine iV (T:=(best,ap cur c)::T) hh (S.perm (zP _ (zM (l₁:=[(I,o)]) (l₂:=T)))) ho (aj hd) λh' S'=>?_
  rcases hcur with⟨h0,_⟩|⟨_,m,rfl,hm,hmax⟩
  ·exact zag hne h0
  ·rw[z4] at hmax
   obtain⟨c1,hc1⟩:∃ c1,zS (λZ=>(#[]:Array Value)) (ap [m,m] c)=ap [] c1:=⟨_,rfl⟩
   refine y0 (BH (S'.obj _ m0) rfl ?_)
   have af:=S'.change (o':=ap [] c1) 0 rfl (zw _ best (zS λZ=>(#[]:Array Value))) (by rw[zt _ (S'.obj _ m0) rfl,<- hc1])
   refine y0 (DI ?_)
   exact y4 (hR _ m c1 ⟨K.os,K.gens⟩ hm hmax af)
 | succ k ih =>
  intro i cur c o s₁ hk hi ho S K hcur
  have hlt:i<vs.length:=z96 hk
  refine Ad kb (y0 (m:=BQ (.ref best)) (zy (S.obj _ m0) rfl ?_))
  refine y0 (m:=Mz (Di (.ref I)) _) (DF ?_)
  refine ij (x:=vs[i]) 1 S rfl ho (aj (aj hd)) (by simp[hlt]) λh' o' ho' S'=>?_
  have hx:vs[i]∈vs:=Ac hlt
  have hcl:cur.length<=2:=by
   rcases hcur with⟨_,rfl⟩|⟨_,m,rfl,_⟩<;> simp
  have upd:∀ (m:Value) {E:VP}{Q:UP} (s':zc),St hb tabs L l ((best,ap cur c)::(I,o')::T) s'.heap->(∀ h'' c'',St hb tabs L l ((best,ap [m,m] c'')::(I,o')::T) h''->Q () (wh s' h''))->y7 (y6 prog w) A.in1 (Jr best λZ=>#[m,m]) Q E s':=by
   intro m E Q s' Sx hq
   obtain⟨c1,hc1⟩:∃ c1,zS (λZ=>(#[m,m]:Array Value)) (ap cur c)=ap [m,m] c1:=⟨_,rfl⟩
   refine BH (Sx.obj _ m0) rfl (hq _ c1 (Sx.change 0 rfl (zw _ best (zS λZ=>(#[m,m]:Array Value))) (by rw[zt _ (Sx.obj _ m0) rfl,<- hc1]))) (by rw[zz,zg];exact up 16777214 hcl)
  rcases hcur with⟨rfl,rfl⟩|⟨h0,m,rfl,hm,hmax⟩
  ·show y7 _ _ (Jr best (λZ=>#[vs[0],vs[0]])>>=_) _ _ _
   refine y0 (upd _ _ S' λh'' c'' S''=>?_)
   refine y4 ⟨Au mx_plain _,ih 1 _ _ o' _ (zak hk) hne ho' S'' ⟨K.os,K.gens⟩ (.inr ⟨by exact zam,vs[0],rfl,hx,λx hx'=>?_⟩)⟩
   rw[List.take_one,List.head?_eq_getElem?,zl hlt] at hx'
   simp at hx'
   rw[hx']
   exact zk _
  ·have hmax':∀ m',rkv m<=rkv m'->rkv vs[i]<=rkv m'->∀ x∈vs.take (i+1),rkv x<=rkv m':=by
    intro m' h1 h2 x hx'
    rw[Am,zl hlt] at hx'
    rcases zf.mp hx' with q|q
    ·exact zn (hmax x q) h1
    ·simp at q
     rw[q];exact h2
   refine y0 (m:=Mz (Hd [vs[i],vs[i]] (DJ .Gt vs[i] m>>=λanswer=>Hd [answer] (truthy answer)>>=λyes=>letGo [answer]>>=λZ=>AA yes)) _) (DF (zs (y0 ?_)))
   refine hgt (wh s₁ h') ((best,ap [m,m] c)::(I,o')::T) ⟨K.os,K.gens⟩ S' (λp hp=>aj (aj hp)) vs[i] hx m hm (y0 (zs (zb ?_)))
   refine y0 (DI ?_)
   refine y4 ?_
   by_cases hb':rkv m<rkv vs[i]
   ·rw[decide_eq_true hb']
    refine Bq rfl (y0 (upd _ _ S' λh'' c'' S''=>?_))
    refine y0 (DI ?_)
    exact y4 ⟨Au mx_plain _,ih (i+1) _ _ o' _ (z9a hk) hlt ho' S'' ⟨K.os,K.gens⟩ (.inr ⟨by exact z64,vs[i],rfl,hx,hmax' _ (Ak hb') (zk _)⟩)⟩
   ·rw[decide_eq_false hb']
    refine zA rfl (y0 (DI ?_))
    exact y4 ⟨Au mx_plain _,ih (i+1) _ _ o' _ (z9a hk) hlt ho' S' ⟨K.os,K.gens⟩ (.inr ⟨by exact z64,m,rfl,hm,hmax' _ (zk _) (z0c hb')⟩)⟩
end
theorem wf (a u v:Value):CM "max" ⟨[a],[(yZ "default", u),(yZ "key", v)]⟩:=by unfold CM;kernel_rfl
section
variable{tabs:List zh}{l:LV}{T:LO}{vs:List Value}{n:Nat}{o:AR}
theorem r_max{Q:VP}(hh:A.handled=none)(S:St hb tabs L l ((I,o)::T) s.heap)(ho:bY o d 0)(hd:(d,ap vs n)∈T)(hz:vs.length<=1000)
  (hgt:∀ (s':zc) (T':LO),Kp s s'->St hb tabs L l T' s'.heap->(∀ p∈T,p∈T')->∀ x∈vs,∀ y∈vs,∀ {E:VP}{Q:VP},Q (.bool (decide (rkv y<rkv x))) s'->y7 (y6 prog w) A.in1 (DJ .Gt x y) Q E s')
  (k0:vs=[]->∀ s',Kp s s'->St hb tabs L l T s'.heap->Q Jw s')
  (k:∀ s' m,Kp s s'->m∈vs->(∀ x∈vs,rkv x<=rkv m)->St hb tabs L l T s'.heap->Q m s'):y7 (y6 prog w) A (call (.builtin "max") [.ref I] [(yZ "default", Jw),(yZ "key", .none)]) Q E s:=by
 refine kmk_tree PySem.F.kind_max PySem.F.plain_max PySem.F.entry_max (wf _ _ _) (y0 (m:=Gv "max" ["key", "default"] 0 ⟨[],[(yZ "default", Jw),(yZ "key", .none)]⟩) (Ay (show Gv "max" ["key", "default"] 0 ⟨[],[(yZ "default", Jw),(yZ "key", .none)]⟩=AA [some .none,some Jw] from rfl) ?_))
 refine y0 (y4 ?_)
 refine y0 (FJ (l:=d) (i:=0) ⟨_,S.obj _ m0,ho.1,ho.2⟩ ?_)
 refine y0 (EU ?_ (zD _))
 have ah:=S.push (ap [] 0)
 refine y4 ⟨Au mx_plain _,?_⟩
 by_cases he:vs=[]
 ·subst he
  refine Ad kb (y0 (m:=BQ (.ref s.heap.objs.size)) (zy (ah.obj _ m0) rfl ?_))
  refine y0 (m:=Mz (Di (.ref I)) _) (DF ?_)
  exact iV (vs:=[]) (T:=(s.heap.objs.size,ap [] 0)::T) hh (ah.perm (zP _ (zM (l₁:=[(I,o)]) (l₂:=T)))) ho (aj hd) λh' S'=>(y0 (AS (y4 (k0 rfl _ ⟨rfl,id⟩ (S'.sub (zo _ _))))))
 ·have hpos:0<vs.length:=Gm.mpr he
  refine sN (s:=s) (rkv:=rkv) hh hpos hz hd hgt (λs' m c K hm hmax S'=>k s' m K hm hmax (S'.sub (zo _ _))) _ 0 [] 0 o _ rfl (zD _) ho ah ⟨rfl,id⟩ (.inl ⟨rfl,rfl⟩)
end
namespace OB
theorem mro:mroOf (.type "object")=AA [.type "object"]:=by rw[mroOf_type];kernel_rfl
theorem ou:BL (.type "object") "__new__" = AA (some (.builtin "object.__new__")):=by rw[Bj,Ae];kernel_rfl
theorem called:TypeCalled "object" "object.__new__" "object.__init__" :=
 ⟨by decide +kernel,by decide +kernel,⟨_,_,mro⟩,madeBy_type mro ou (by decide +kernel),by decide +kernel,by rw[Be];kernel_rfl,PySem.F.slot_object_init⟩
theorem typeCall:checkTypeCall "object" ⟨[],[]⟩=AA ():=by kernel_rfl
theorem newCall:EF "object.__new__" ⟨[.type "object"],[]⟩=AA ():=by kernel_rfl
theorem entry_new:Dq Hg "object.__new__" = some Az.«object.__new__»:=B2 (by kernel_rfl)
theorem plain_new:FT "object.__new__" = true:=by decide +kernel
theorem made_here:Hz "object.__new__" (.type "object")=AA ():=by
 have sb:LL (.type "object")=AA (.type "object"):=by
  unfold LL
  simp only[mro,pure_bind,AC,called.made,Option.isSome_some,if_true]
 unfold Hz
 simp only[sb,pure_bind,called.made,Option.map_some,bne_self_eq_false,GO,if_false]
end OB
section
variable{tabs:List zh}{l:LV}{T:LO}{vs:List Value}{n:Nat}
theorem pU{Q:VP}(S:St hb tabs L l T s.heap)(hd:(d,ap vs n)∈T)(h:∀ I h',St hb tabs L l ((I,gW d 0)::T) h'->Q (.ref I) (wh s h')) :
  y7 (y6 prog w) A (call (.builtin "iter") [.ref d]) Q E s:=by
 refine call_function_entry (by decide +kernel) (by decide +kernel) kdk_entry_iter (kdk_args_iter _) (y0 (m:=someArgs "iter" 1 2 _) (Ay (a:=[AW d]) (by first|rfl|kernel_rfl!) ?_))
 refine y0 (m:=EM (.ref d)) (Cb (items:=vs.toArray) ⟨_,S.obj _ hd,rfl,n,rfl⟩ ?_)
 exact y4 ⟨_,rfl,h _ _ (S.push (gW d 0))⟩
theorem je {Q₁:VP} (h:Q₁ (.ref s.heap.objs.size) { s with heap:=s.heap.push { cls:=.type "object", data:=.plain } }) :
  zW (y6 prog w) A (.call (.builtin "object.__new__") ⟨[.type "object"],[]⟩) (NK Q₁ E) s:=by
 refine EY ?_
 show y7 _ A.in1 (do EF "object.__new__" ⟨[.type "object"],[]⟩;again (.builtin "object.__new__" ⟨[.type "object"],[]⟩)) _ _ s
 refine y0 (Ay OB.newCall (y4 ⟨Au OB.plain_new _,Ad OB.entry_new ?_⟩))
 refine y0 (m:=isType (.type "object")) (Ay (a:=true) rfl ?_)
 refine zA rfl (zA (by decide +kernel) (y0 (Ay OB.made_here ?_)))
 refine zA (by decide +kernel) (y0 (y4 ?_))
 refine y0 (m:=newObj (An "object") Data.plain none) (Af ?_ (by size_fits))
 exact zA (by decide +kernel) (y4 h)
theorem sv {Q:VP} (S:St hb tabs L l T s.heap) (h:∀ u h',St hb tabs L l ((u,(⟨.type "object", none,.plain,#[]⟩:AR))::T) h'->Q (.ref u) (wh s h')) :
  y7 (y6 prog w) A (call (.type "object") []) Q E s:=by
 refine Mp (Q₁:=λobj s₁=>obj=.ref s.heap.objs.size/\s₁ = { s with heap:=s.heap.push { cls:=.type "object", data:=.plain } }) OB.called OB.typeCall PySem.F.entry_object_init (je ⟨rfl,rfl⟩) λobj s₁ ai=>?_
 obtain⟨rfl,rfl⟩:=ai
 have ah:=S.push (⟨.type "object", none,.plain,#[]⟩:AR)
 refine⟨⟨_,ah.obj _ m0,rfl⟩,PySem.F.args_object_init_1 _,?_⟩
 exact y4 ⟨rfl,h _ _ ah⟩
end
section
variable{tabs:List zh}{l lb:LV}{T:LO}{cn:zK}
theorem rr{R:Cm->zc->Prop}{oc:Value}{od:Option zh}{osl:Array (Option Value)}{args:M5}{binds:LV}{body:List Cv}
  (G:Gd K tabs hb) (S:St hb tabs L l T s.heap) (ho:K.lookup fa=some ⟨oc,od,.func fd,osl⟩) (hroom:A.depth<zj)
  (hbind:Fn s fd args binds)
  (h:∀ L' s₁ oL ob,bL oL l->ob.data=.cell (some cv)->Kp s s₁->St hb tabs L' lb ((L'+1,ob)::(L,oL)::T) s₁.heap ->
   y7 (y6 prog w) (A.deeper (zB fd L' fa)) (z5 body (zB fd L' fa)) (kFn R)
    (kLv (y6 prog w) (A.deeper (zB fd L' fa)) (zB fd L' fa) R) s₁)
  (hcs:∀ L':zh,Eb (L'+1) fd.scope.names []=[(cn,L'+1)])
  (hbL:∀ L':zh,∀ p∈lb,bindL (zB fd L' fa).kindOf binds (λZ=>none) p.1=some p.2) (hbC:∀ L':zh,Nv (zB fd L' fa).kindOf binds (λZ=>none) cn=some cv)
  (hkind:∀ x∈binds,fd.scope.names.lookup x.1=some .local\/(fd.scope.names.lookup x.1=some .cell/\x.1=cn)) (hnd:(lb.map (·.1)).Nodup)
  (hclo:fd.closure=[]:=by kernel_rfl)
  (hft:fa∉tabs:=by decide)
  (hcd:∀ hh:AJ,K.In hh->hh.CodeRec fd.code fd.qualname:=by exact crO (by kernel_rfl))
  (hct:(match fd.code with|.ref c=>tabs.contains c|_=>false)=false:=by kernel_rfl)
  (hbody:fd.body=.stmts body:=by kernel_rfl)
  (hco:fd.scope.isCoroutine=false:=by kernel_rfl) (hgen:fd.scope.isGenerator=false:=by kernel_rfl) (hk:fd.scope.kind=.function:=by kernel_rfl) :
  zW (y6 prog w) A (.call (.ref fa) args) R s:=by
 have hcr:s.heap.CodeRec fd.code fd.qualname:=by
  obtain⟨c,o,vs,t,e1,e2,e3,e4⟩:=hcd hb G.k
  refine⟨c,o,vs,t,e1,S.old e2 (λq=>?_),e3,e4⟩
  rw[e1] at hct
  have hct':tabs.contains c=false:=hct
  rw[AZ.mpr q] at hct'
  nomatch hct'
 refine FK hroom (S.old (G.k _ _ ho) hft) rfl hco hgen hbody hcr ?_
 rw[hclo]
 refine hbind _ _ _ _ (Ew hk (λx hx=>?_) λenv he s' x=>?_)
 ·rcases hkind x hx with q|⟨q,e⟩
  ·exact .inl q
  ·refine .inr ⟨q,?_⟩
   rw[hcs,e]
   simp[Li]
 subst he
 refine⟨(S.lim G).keeps x.toInCall.keep,Kt ?_⟩
 have hcell:=x.cell cn (s.heap.objs.size+1) (by
  show (Eb (s.heap.objs.size+1) fd.scope.names []).lookup cn=_
  rw[hcs];simp[Li])
 obtain⟨ob,hob,hobd⟩:=hcell
 have e2:Nv (Nb fd.scope s.heap.objs.size fd.globals (Eb (s.heap.objs.size+1) fd.scope.names []) (fd.qualname ++ ".<locals>.") (some fa) fd.code none fd.builtins).kindOf binds (λZ=>none) cn=some cv:=hbC _
 rw[e2] at hobd
 have hfm:Fm s'.heap s.heap.objs.size lb:=Fm.of_ns x.toInCall.ns (λp hp=>hbL s.heap.objs.size p hp) hnd
 obtain⟨oL,r,S'⟩:=S.enter (L':=s.heap.objs.size) rfl hfm x.toInCall.keep
 obtain⟨hh,tk,hsame⟩:=x.toInCall.same
 have K':Kp s s':=by rw[hsame];exact⟨rfl,id⟩
 refine h s.heap.objs.size s' oL ob r hobd K' ⟨S'.fm,S'.lnew,S'.keep,S'.tab,λp hp=>?_,λp hp=>?_,?_⟩
 ·rcases za.mp hp with rfl|hp
  ·exact hob
  ·exact S'.obj p hp
 ·rcases za.mp hp with rfl|hp
  ·exact zn S'.lnew (C6 _)
  ·exact S'.new p hp
 ·have nd:=zu.mp S'.nd
  have hL:L<s.heap.objs.size:=S.fm.lt
  refine zu.mpr ⟨λq=>?_,zu.mpr ⟨λq=>?_,nd.2⟩⟩
  ·rcases za.mp q with q|q
   ·exact Ao _ (GY (Bi _) q.symm)
   ·exact nd.1 q
  ·rcases za.mp q with q|q
   ·exact Ao _ (CA (GY (Bi _) q) hL)
   ·obtain⟨p,hp,e⟩:=zd.mp q
    have hpl:=S.lt hp
    exact Ao _ (CA (GY (Bi _) e.symm) hpl)
end
section
variable{tabs:List zh}{l:LV}{T:LO}{x:zK}{v:Value}{pos:Ej}
theorem cG{Q:VP}(G:Gd K tabs hb)(S:St hb tabs L l T s.heap)(e:Nl K Bp x=some (some v))(h:Q v s)
  (c:wP env.scope (env.kindOf x) x env.globals=true:=by kernel_rfl):y7 (y6 prog w) A (Ax (.Name x pos) env) Q E s:=by
 obtain⟨hk,hl,hd,hg⟩:=kq c
 obtain⟨mg,a⟩:=G.mg
 refine En hk hl (J6 (mg:=mg) ?_ (mg_of G.k a e) h) hd
 rw[hg];exact S.oldNs a G.n1
theorem eA{Q:VP}(G:Gd K tabs hb)(S:St hb tabs L l T s.heap)(hv:Bn x=some v)(h:Q v s)
  (c:xe K env.scope (env.kindOf x) x env.globals env.builtins=true:=by kernel_rfl):y7 (y6 prog w) A (Ax (.Name x pos) env) Q E s:=by
 obtain⟨c,hn,hbi,e⟩:=rz c
 obtain⟨hk,hl,hd,hg⟩:=kq c
 obtain⟨mg,a⟩:=G.mg
 obtain⟨mb,b,c⟩:=G.bl
 refine En hk hl (JM (mg:=mg) (mb:=mb) ?_ (mg_none_of G.k a e) ?_ ((c x (beq_eq_false_iff_ne.mp hn)).trans hv) h) hd
 ·rw[hg];exact S.oldNs a G.n1
 ·rw[hbi];exact S.oldNs b G.n2
noncomputable def celB (sc:DB) (k:Option ER) (x:zK):Bool:=sc.kind==.function&&(k==some .cell&&!(x==("__debug__" : zK)))
theorem mu {sc:DB}{k:Option ER}{x:zK} (h:celB sc k x=true):sc.kind=.function/\k=some .cell/\(x==("__debug__" : zK))=false:=by
 obtain⟨a,h⟩:=zr.mp h
 obtain⟨b,h⟩:=zr.mp h
 exact⟨Aw a,Aw b,by simpa using h⟩
theorem bI{Q:VP}{c:zh}{ob:AR}(S:St hb tabs L l T s.heap)(hm:(c,ob)∈T)(hob:ob.data=.cell (some v))(h:Q v s)
  (hk:celB env.scope (env.kindOf x) x=true:=by kernel_rfl) (hc:env.cells.lookup x=some c:=by rfl):y7 (y6 prog w) A (Ax (.Name x pos) env) Q E s :=
 H4 (wpAny_loadName_cell (mu hk).1 (mu hk).2.1 hc ⟨ob,S.obj _ hm,hob⟩ h) (mu hk).2.2
theorem oN{id:String}{args:List Expr}{p1:Ej}{Q:VP}(G:Gd K tabs hb)(S:St hb tabs L l T s.heap)(hv:Bn x=some (.builtin id))(h:y7 (y6 prog w) A (CH (Cn pos (AM args env))) (kBi (y6 prog w) A E id [] Q) E s)
  (c:xe K env.scope (env.kindOf x) x env.globals env.builtins=true:=by kernel_rfl) (hp:(Cn pos (AM args env)).any (·.1)=false:=by rfl):y7 (y6 prog w) A (Ax (.Call (.Name x p1) args [] pos) env) Q E s :=
 bV (eA G S hv (aH h hp) c)
theorem uW{id:String}{args:List Expr}{p1:Ej}{Q:VP}(G:Gd K tabs hb)(S:St hb tabs L l T s.heap)(hv:Bn x=some (.type id))(h:y7 (y6 prog w) A (CH (Cn pos (AM args env))) (kTy (y6 prog w) A E id [] Q) E s)
  (c:xe K env.scope (env.kindOf x) x env.globals env.builtins=true:=by kernel_rfl) (hp:(Cn pos (AM args env)).any (·.1)=false:=by rfl):y7 (y6 prog w) A (Ax (.Call (.Name x p1) args [] pos) env) Q E s :=
 bV (eA G S hv (q8 h hp) c)
theorem uX{args:List Expr}{p1:Ej}{Q:VP}(G:Gd K tabs hb)(S:St hb tabs L l T s.heap)(e:Nl K Bp x=some (some v))(h:y7 (y6 prog w) A (CH (Cn pos (AM args env))) (kRef (y6 prog w) A E hb tabs v [] Q) E s)
  (c:wP env.scope (env.kindOf x) x env.globals=true:=by kernel_rfl) (hk:NA K v=true:=by kernel_rfl) (hp:(Cn pos (AM args env)).any (·.1)=false:=by rfl):y7 (y6 prog w) A (Ax (.Call (.Name x p1) args [] pos) env) Q E s :=
 bV (cG G S e (cR G h hk hp) c)
end
theorem jO:Bn (yZ "iter")=some (.builtin "iter"):=by kernel_rfl
theorem lB:Bn (yZ "object")=some (.type "object"):=by kernel_rfl
theorem rx:Bn (yZ "max")=some (.builtin "max"):=by kernel_rfl
theorem eD{Q:VP}{f:Expr}{args:List Expr}{kws:List Keyword}{pos:Ej}(h:y7 (y6 prog w) A (Ax f env) (λfv s₁=>y7 (y6 prog w) A (DW pos fv [] (Cn pos (AM args env)) (DX pos (CD kws env))) Q E s₁) E s)
  (he:Ax (.Call f args kws pos) env=(do
   let fv <- Ax f env
   DW pos fv [] (Cn pos (AM args env)) (DX pos (CD kws env))):=by rfl) :
  y7 (y6 prog w) A (Ax (.Call f args kws pos) env) Q E s:=by
 rw[he]
 exact y0 h
section
variable{T:LO}{l:LV}{Es:List Sc}{n:Nat}
noncomputable abbrev dP(w:As)(L':zh):II:=zB (aO w.params) L' 280
theorem yy{prog:Bm}{w:As}{A:AU}{E:VP}{s:zc}{u:zh}{Q:VP}(h:Q (.bool true) s):y7 (y6 prog w) A (AK .Is (.ref u) (.ref u)) Q E s:=by
 exact y0 (bW (by simp) (y4 (y4 h)))
theorem yx {prog:Bm}{w:As}{A:AU}{E:VP}{s:zc}{a u:zh}{vs:List Value}{Q:VP} (hne:a≠u) (ha:s.heap.get? a=some (aG vs)) (hu:s.heap.get? u=some (⟨.type "object", none,.plain,#[]⟩:AR)) (h:Q (.bool false) s):y7 (y6 prog w) A (AK .Is (.ref a) (.ref u)) Q E s:=by
 refine y0 (aQ (by simpa using hne) (y0 (Dv ha (y0 (Dv hu ?_)))))
 exact y4 (y4 h)
theorem oR{e:Sc}{Es:List Sc}{rk:UInt64->List zK->Nat}(he:e∈Es)(hmax:∀ e'∈Es,rkS rk e'<=rkS rk e):∃ P:List Sc,(e::P).Perm Es/\(e::P).Pairwise (λa b=>rkS rk b<=rkS rk a):=by
 obtain⟨l1,l2,rfl⟩:=GZ he
 refine⟨(l1++l2).mergeSort (λa b=>decide (rkS rk b<=rkS rk a)),?_,?_⟩
 ·exact (zP e (EO _ _)).trans zv.symm
 ·refine DQ.mpr ⟨λb hb=>hmax b ?_,?_⟩
  ·have:=(EO (l1++l2) _).mem_iff.mp hb
   rcases zf.mp this with q|q
   ·exact y8 _ q
   ·exact y5 _ (aj q)
  ·have:=HS (le:=λa b:Sc=>decide (rkS rk b<=rkS rk a)) (λa b c h1 h2=>by simp at *;exact z1r h1 h2) (λa b=>by simp;exact z1s) (l1++l2)
   exact this.imp λh=>by simpa using h
theorem xF{e e':Sc}{l':LV}{L':zh}{T':LO}{Q:VP}(G:GK w hb)(hu:A.units+1<AB)(S:St hb tabs L' l' T' s.heap)(hS:SXk T' Es)(hT:kK Es)(hR:kL rk Es)(he:e∈Es)(he':e'∈Es)
  (h:Q (.bool (decide (rkS rk e'<rkS rk e))) s):y7 (y6 pw w) A (AK .Gt (.ref e.a) (.ref e'.a)) Q E s :=
 sc_gt hu (S.nb G) hT hR he he' (S.sc (hS e he)) (S.sc (hS e' he')) h
theorem x7(G:GK w hb)(S:St hb tabs L l T s.heap)(hd:A.depth+20<zj)(hu:A.units+100<AB)(hh:A.handled=none)(hm:(res,ap (aB Es) nr)∈T)(hS:SXk T Es)(hT:kK Es)(hl:Es.length<=60)(hR:kL rk Es)
  (rkv:Value->Nat) (hrkv:∀ e∈Es,rkv (.ref e.a)=rkS rk e)
  (k:∀ (s':zc) (X:LO) (r:zh) (nr':Nat) (P:List Sc),Kp s s'->St hb tabs L l ((r,ap (aB (P.take 1)) nr')::(X++T)) s'.heap->P.Perm Es->P.Pairwise (λa b=>rkS rk b<=rkS rk a)->R (.ok (.ret (.ref r))) s') :
  zW (y6 pw w) A (.call (.ref 280) ⟨[.int 1 tn,.ref res],[]⟩) R s:=by
 refine rr (lb:=[(yZ "n", .int 1 tn),(yZ "iterable", .ref res)]) (cn:=yZ "key") (cv:=.none) G S (yh _) (dn 20 hd) (binds:=[(yZ "n", .int 1 tn),(yZ "iterable", .ref res),(yZ "key", .none)]) (body:=aD (st1 pw 8))
  (BB (o:=o275 w.params) rfl (S.kin G 275 _ (by kernel_rfl)) rfl rfl rfl) ?_ (λL'=>by kernel_rfl) (λL' p hp=>by rcases za.mp hp with rfl|hp;rfl;rw[y9] at hp;subst hp;rfl) (λL'=>rfl)
  (λy hy=>by rcases za.mp hy with rfl|hy;exact .inl (by kernel_rfl);rcases za.mp hy with rfl|hy;exact .inl (by kernel_rfl);rw[y9] at hy;subst hy;exact .inr ⟨by kernel_rfl,rfl⟩) (dG (by kernel_rfl))
 refine λL' s₁ oL ob r hob ar S'=>dB (ay (env:=zB (aO w.params) L' 280) S' m0 (wpAny_Constant_int (P.eq_int (zb ⟨λZ=>?_,nofun⟩))))
 refine aC (oN G S' jO (aln (env:=zB (aO w.params) L' 280) S' m1 (pU S' (aj (aj hm)) ?_)))
 refine λI am af=>aT (env:=zB (aO w.params) L' 280) af (.new (by kernel_rfl)) (λak ae=>aC (uW G ae lB (zq (sv ae ?_))))
 refine λu au S4=>aT (env:=zB (aO w.params) L' 280) S4 (.new (by kernel_rfl)) (λax S5=>restate S5 λs5 K5 S5=>?_)
 replace K5:Kp s s5:=kt ar K5
 refine aC (eD (eA G S5 rx (Ls (aln (env:=zB (aO w.params) L' 280) S5 m1 (Ex (ay (env:=zB (aO w.params) L' 280) S5 m0 (Ex ?_)))))))
 refine bI S5 m2 hob (Jt ?_)
 have hI:(res,ap (aB Es) nr)∈(u,(⟨.type "object", none,.plain,#[]⟩:AR))::(L'+1,ob)::(L,oL)::T:=aj (aj (aj hm))
 have S6:=S5.perm (T':=(I,gW res 0)::(u,(⟨.type "object", none,.plain,#[]⟩:AR))::(L'+1,ob)::(L,oL)::T) (z8 _ _ _)
 have fin:∀ (s':zc) (v:Value) {E':VP}{Q':FP},(∀ v s',R (.ok (.ret v)) s'->Q' (.ret v) s')->Kp s s'->St hb tabs L' [(yZ "sentinel", .ref u),(yZ "it", .ref I),(yZ "n", .int 1 tn),(yZ "iterable", .ref res)] ((u,(⟨.type "object", none,.plain,#[]⟩:AR))::(L'+1,ob)::(L,oL)::T) s'.heap ->
   (Es=[]/\v=.ref u\/∃ e∈Es,v=.ref e.a/\∀ e'∈Es,rkS rk e'<=rkS rk e) ->
   y7 (y6 pw w) (A.deeper (zB (aO w.params) L' 280)) (Ff (zB (aO w.params) L' 280) (yZ "result") v) (λZ ag=>y7 (y6 pw w) (A.deeper (zB (aO w.params) L' 280)) (z5 ((aD (((aD (st1 pw 8))[0]?).getD AF)).drop 3) (zB (aO w.params) L' 280)) Q' E' ag) E' s':=by
  intro s' v E' Q' hq K' S' hv
  have nd:=(zu.mp (zu.mp S'.nd).2).1
  refine aT (env:=zB (aO w.params) L' 280) S' (.new (by kernel_rfl)) (λba S7=>restate S7 λs7 K7 S7=>?_)
  replace K7:Kp s s7:=kt K' K7
  refine cO (IfExp_ (wpAny_isTrue_Compare1 (ay (env:=zB (aO w.params) L' 280) S7 m0 (ay (env:=zB (aO w.params) L' 280) S7 m1 ?_))))
  rcases hv with⟨rfl,rfl⟩|⟨e,he,rfl,hmax⟩
  ·refine yy (zb (bF (zq ⟨rfl,_,_,_,_,_,S7,?_⟩)))
   refine λd' bc S8=>hq _ _ ?_
   have S9:=S8.perm (T':=(L,oL)::(d',ap [] 0)::([(u,(⟨.type "object", none,.plain,#[]⟩:AR)),(L'+1,ob)]++T)) (by
    exact zv (l₁:=[(d',ap [] 0),(u,(⟨.type "object", none,.plain,#[]⟩:AR)),(L'+1,ob)]))
   exact k _ [(u,(⟨.type "object", none,.plain,#[]⟩:AR)),(L'+1,ob)] d' 0 [] ⟨K7.os,K7.gens⟩ (S9.leave 0 rfl r) (BI _) Ku
  ·have hne:e.a≠u:=λq=>nd (by
    exact zd.mpr ⟨(e.a,aG [.float e.f e.ft,e.x.v]),aj (aj (hS e he).1),q⟩)
   refine yx hne (S7.obj _ (aj (aj (aj (hS e he).1)))) (S7.obj _ m0) (zb (bF (aln (env:=zB (aO w.params) L' 280) S7 m0 ⟨rfl,_,_,_,_,_,S7,?_⟩)))
   refine λd' bc S8=>hq _ _ ?_
   obtain⟨P,hp,hpw⟩:=oR he hmax
   have S9:=S8.perm (T':=(L,oL)::(d',ap [.ref e.a] 0)::([(u,(⟨.type "object", none,.plain,#[]⟩:AR)),(L'+1,ob)]++T)) (by
    exact zv (l₁:=[(d',ap [.ref e.a] 0),(u,(⟨.type "object", none,.plain,#[]⟩:AR)),(L'+1,ob)]))
   exact k _ [(u,(⟨.type "object", none,.plain,#[]⟩:AR)),(L'+1,ob)] d' 0 (e::P) ⟨K7.os,K7.gens⟩ (S9.leave 0 rfl r) hp hpw
 refine r_max (A:=A.deeper (zB (aO w.params) L' 280)) (rkv:=rkv) (vs:=aB Es) (d:=res) hh S6 ⟨rfl,rfl⟩ hI (by rw[aJ];exact up 940 hl) ?_ ?_ ?_
 ·intro s' T' K' S' hin x hx y hy E Q hq
  obtain⟨e,he,rfl⟩:=zd.mp hx
  obtain⟨e',he',rfl⟩:=zd.mp hy
  rw[hrkv e he,hrkv e' he'] at hq
  exact xF G (by show A.units+3+1+1<AB;exact dn 95 hu) S' (hS.mono λp hp=>hin _ (aj (aj (aj hp)))) hT hR he he' hq
 ·intro he s' K' S'
  have hE:Es=[]:=by simpa [aB] using he
  exact fin s' _ (λv s' h=>h) (kt K5 K') S' (.inl ⟨hE,rfl⟩)
 ·intro s' m K' hm' hmax S'
  obtain⟨e,he,rfl⟩:=zd.mp hm'
  refine fin s' _ (λv s' h=>h) (kt K5 K') S' (.inr ⟨e,he,rfl,λe' he'=>?_⟩)
  have:=hmax (.ref e'.a) (zd.mpr ⟨e',he',rfl⟩)
  rw[hrkv e he,hrkv e' he'] at this
  exact this
end
theorem q_try{body orelse:List Cv}{h₀:ExceptHandler}{hs:List ExceptHandler}{rest:List Cv}{pos:Ej}{Q:FP}
  (h:∀ {E':VP},y7 (y6 prog w) A (z5 body env) (λf s₁=>f=.next/\y7 (y6 prog w) A (z5 orelse env) (λf ag=>match f with|.next=>y7 (y6 prog w) A (z5 rest env) Q E ag|f=>Q f ag) E s₁) E' s) :
  y7 (y6 prog w) A (z5 (.Try body (h₀::hs) orelse [] pos::rest) env) Q E s:=by
 refine z9 (KY (zi h (λf s₁ z=>?_) λZ Z z=>z))
 obtain⟨rfl,z⟩:=z
 exact z
noncomputable def nlS:List Cv:=aD (((orB (((aD (st1 pw 8))[1]?).getD AF))[0]?).getD AF)
section
variable{T:LO}{l:LV}{Es:List Sc}{n:Nat}
theorem we(G:GK w hb)(S:St hb tabs L l T s.heap)(hd:A.depth+20<zj)(hu:A.units+100<AB)(hh:A.handled=none)(hm:(res,ap (aB Es) nr)∈T)(hl:Es.length<=60)(hn1:n≠1)
  (kbig:Es.length<=n->∀ (L':zh) (s₁:zc) (oL ob:AR) (ts:AQ) {Q:FP}{E':VP},(∀ v s',R (.ok (.ret v)) s'->Q (.ret v) s')->bL oL l->ob.data=.cell (some .none)->Kp s s₁ ->
   St hb tabs L' [(yZ "size", .int Es.length ts),(yZ "n", .int n tn),(yZ "iterable", .ref res)] ((L'+1,ob)::(L,oL)::T) s₁.heap ->
   y7 (y6 pw w) (A.deeper (dP w L')) (z5 nlS (dP w L')) Q E' s₁)
  (kheap:n<Es.length->∀ (L':zh) (s₁:zc) (oL ob:AR) (ts:AQ),bL oL l->ob.data=.cell (some .none)->Kp s s₁ ->
   St hb tabs L' [(yZ "size", .int Es.length ts),(yZ "n", .int n tn),(yZ "iterable", .ref res)] ((L'+1,ob)::(L,oL)::T) s₁.heap ->
   y7 (y6 pw w) (A.deeper (dP w L')) (z5 ((aD (st1 pw 8)).drop 2) (dP w L')) (kFn R)
    (kLv (y6 pw w) (A.deeper (dP w L')) (dP w L') R) s₁) :
  zW (y6 pw w) A (.call (.ref 280) ⟨[.int n tn,.ref res],[]⟩) R s:=by
 refine rr (lb:=[(yZ "n", .int n tn),(yZ "iterable", .ref res)]) (cn:=yZ "key") (cv:=.none) G S (yh _) (dn 20 hd) (binds:=[(yZ "n", .int n tn),(yZ "iterable", .ref res),(yZ "key", .none)]) (body:=aD (st1 pw 8))
  (BB (o:=o275 w.params) rfl (S.kin G 275 _ (by kernel_rfl)) rfl rfl rfl) ?_ (λL'=>by kernel_rfl) (λL' p hp=>by rcases za.mp hp with rfl|hp;rfl;rw[y9] at hp;subst hp;rfl) (λL'=>rfl)
  (λy hy=>by rcases za.mp hy with rfl|hy;exact .inl (by kernel_rfl);rcases za.mp hy with rfl|hy;exact .inl (by kernel_rfl);rw[y9] at hy;subst hy;exact .inr ⟨by kernel_rfl,rfl⟩) (dG (by kernel_rfl))
 refine λL' s₁ oL ob r hob ar S'=>dB (ay (env:=zB (aO w.params) L' 280) S' m0 (wpAny_Constant_int (P.eq_int (zb ⟨λq=>absurd (Aw q) (z1w hn1),λZ=>?_⟩))))
 refine aE (q_try ?_)
 intro E'
 refine aC (oN G S' B5 (aln (env:=zB (aO w.params) L' 280) S' m1 (Ce (items:=(aB Es).toArray) ⟨_,S'.obj _ (aj (aj hm)),rfl,nr,rfl⟩ (by rw[zg,aJ];lia) ?_)))
 rw[zg,aJ]
 refine aT (env:=zB (aO w.params) L' 280) S' (.new (by kernel_rfl)) (λam af=>restate af λag ao af=>?_)
 replace ao:Kp s ag:=kt ar ao
 refine aE ⟨rfl,?_⟩
 refine dB (ay (env:=zB (aO w.params) L' 280) af m1 (ay (env:=zB (aO w.params) L' 280) af m0 (P.ge_int (zb ⟨λq=>?_,λq=>?_⟩))))
 ·have hge:Es.length<=n:=by have:=of_decide_eq_true q;exact z1y q
  exact kbig hge L' ag oL ob _ (λv s' h=>h) r hob ao af
 ·have hlt:n<Es.length:=by have:=of_decide_eq_false q;exact z1z q
  have h:=kheap hlt L' ag oL ob _ r hob ao af
  exact aE (aE h)
end
section
open PySem.Spec
theorem vM{rkv:Value->Nat}{vs:List Value}{p:Array Nat}(hp:Pm vs.length p)(hs:aS (λi=>rkv (vs.reverse.getD i .none)) p vs.length) :
  (p.toList.map λi=>vs.reverse.getD i .none).reverse.Perm vs/\(p.toList.map λi=>vs.reverse.getD i .none).reverse.Pairwise (λa b=>rkv b<=rkv a):=by
 refine⟨(Eh _).trans ((perm_of (l:=vs.reverse) (by rw[C3];exact hp)).trans (Eh _)),?_⟩
 rw[List.pairwise_reverse,EK]
 intro i j hi hj hij
 rw[ze,Bf] at hi hj
 have h:=hs i j (z2f hij) (by rw[<- hp.size];exact hj)
 unfold Rk at h
 rw[DH,DH,Ey,Ey]
 have e1:p.getD i 0=p[i]:=by simp[GJ,hi]
 have e2:p.getD j 0=p[j]:=by simp[GJ,hj]
 rw[e1,e2] at h
 exact h
section
variable{tabs:List zh}{l:LV}{T:LO}{vs:List Value}{n:Nat}
theorem mT{α:Type}{R:α->α->Prop}{l:List α}(h:¬ 2<=l.length):l.Pairwise R:=by
 rcases l with _|⟨a,_|⟨b,l⟩⟩
 ·exact .nil
 ·exact List.pairwise_singleton _ _
 ·exact absurd (by simp) h
theorem iz{Q:KS->zc->Prop}(rkv:Value->Nat)(S:St hb tabs L l ((d,ap vs n)::T) s.heap)(h64:vs.length<64)
  (hkind:2<=vs.length->∀ (s':zc) T' {Q:L9->zc->Prop}{E:VP},St hb tabs L l T' s'.heap->(∀ p∈T,p∈T')->Q κ s'->y7 (y6 prog w) A (Mq vs.toArray) Q E s')
  (hlt:∀ (s':zc) T',Kp s s'->St hb tabs L l T' s'.heap->(∀ p∈T,p∈T')->∀ x∈vs,∀ y∈vs,∀ C:BP,C (decide (rkv x<rkv y)) s' ->
   y7 (y6 prog w) A (I4 κ x y) C (λZ Z=>False) s')
  (k:∀ s' n' vs',Kp s s'->vs'.Perm vs->vs'.Pairwise (λa b=>rkv b<=rkv a)->St hb tabs L l ((d,ap vs' n')::T) s'.heap->Q (.done (.ret .none)) s') :
  y7 (y6 prog w) A (dU d) Q E s:=by
 by_cases h2:2<=vs.length
 ·refine nU (H:=True) (rk:=λi=>rkv (vs.reverse.getD i .none)) S h2 h64 (hkind h2) (λs' T' K' S' hin i j hi hj C hC=>?_) λs' n' p K' hpm hso S'=>?_
  ·have mem:∀ i,i<vs.length->vs.reverse.getD i .none∈vs:=λi hi=>by
    have hi':i<vs.reverse.length:=by rw[C3];exact hi
    have e:vs.reverse.getD i .none=vs.reverse[i]:=by rw[Bl,zl hi'];rfl
    rw[e]
    exact FN.mp (Ac hi')
   exact hlt s' T' K' S' hin _ (mem i hi) _ (mem j hj) C (hC _ s'.toks λZ=>rfl)
  ·obtain⟨a,b⟩:=vM hpm (hso trivial)
   exact k s' n' _ K' a b S'
 ·refine jR S (z0d h2) λh' n' S'=>(k (wh s h') n' vs ⟨rfl,id⟩ (BI _) ?_ S')
  exact mT h2
theorem iH{kw:LV}{Q:VP}(rkv:Value->Nat)(S:St hb tabs L l T s.heap)(hd:(d,ap vs n)∈T)(h64:vs.length<64)
  (ha1:CM "sorted" ⟨[.ref d],kw⟩) (ha2:∀ x,CM "list.sort" ⟨[.ref x],kw⟩) (ht:∀ x,Az.«list.sort» ⟨[.ref x],kw⟩=dU x)
  (hkind:2<=vs.length->∀ (s':zc) T' {Q:L9->zc->Prop}{E:VP},St hb tabs L l T' s'.heap->(∀ p∈T,p∈T')->Q κ s'->y7 (y6 prog w) A.in1.in1 (Mq vs.toArray) Q E s')
  (hlt:∀ (s':zc) T',Kp s s'->St hb tabs L l T' s'.heap->(∀ p∈T,p∈T')->∀ x∈vs,∀ y∈vs,∀ C:BP,C (decide (rkv x<rkv y)) s' ->
   y7 (y6 prog w) A.in1.in1 (I4 κ x y) C (λZ Z=>False) s')
  (k:∀ s' D n' vs' X,Kp s s'->vs'.Perm vs->vs'.Pairwise (λa b=>rkv b<=rkv a)->St hb tabs L l ((D,ap vs' n')::(X++T)) s'.heap->Q (.ref D) s') :
  y7 (y6 prog w) A (call (.builtin "sorted") [.ref d] kw) Q E s:=by
 exact lP S hd (ul 936 h64) ha1 ha2 ht λD tmp c h' S'=>(iz (κ:=κ) rkv (s:=(wh s h')) S' h64 (λh2 s' T' {Q E} S'' hin hq=>hkind h2 s' T' S'' (λp hp=>hin p (aj hp)) hq) (λs' T' K' S'' hin=>hlt s' T' ⟨K'.os,K'.gens⟩ S'' λp hp=>hin p (aj hp)) λs' n' vs' K' hp hw S''=>⟨_,rfl,k s' D n' vs' [(tmp,ap vs c)] ⟨K'.os,K'.gens⟩ hp hw S''⟩)
theorem cE{env:II}{value:Expr}{lower upper:Option Expr}{p pos:Ej}{Q:VP}
  (h:y7 (y6 prog w) A (Ax value env) (λo s₁=>y7 (y6 prog w) A (Ax (.Slice lower upper none p) env) (λi ag=>ag.TypeIs o "list" /\ y7 (y6 prog w) A (Dg o i) Q E ag) E s₁) E s) :
  y7 (y6 prog w) A (Ax (.Subscript value (.Slice lower upper none p) pos) env) Q E s:=by
 refine y0 (zi h (λo s₁ ai=>y0 (zs (zi ai (λi ag am=>y0 (CS ?_)) λZ Z x=>x)))
  λZ Z x=>x)
 have fin:y7 (y6 prog w) A (J9 [i,o] (Dg o i)) (λr s3=>y7 (y6 prog w) A (Fo value o r>>=λZ=>AA r) Q E s3) E ag :=
  Gc (zi am.2 (λr s3 ak=>y0 (Ev (y4 ak))) λZ Z x=>x)
 refine y0 (y0 (BX am.1 Bg ?_))
 first
  | exact y4 (y0 fin)
  | exact y0 (y4 (y0 fin))
  | exact y0 fin
theorem gE{Q:VP}{env:II}{value e:Expr}{p pos:Ej}
  (h:y7 (y6 prog w) A (Ax value env) (λo s₁=>y7 (y6 prog w) A (Ax e env) (λvu ag=>Ex8 λL l T d vs n b tb=>An6 (o=.ref d) (vu=.int ((b:Nat):Int) tb) (St hb tabs L l T ag.heap) ((d,ap vs n)∈T) (vs.length<=1000) (∀ D X h',St hb tabs L l ((D,ap (vs.take b) 0)::(X++T)) h'->Q (.ref D) (wh ag h'))) E s₁) E s) :
  y7 (y6 prog w) A (Ax (.Subscript value (.Slice none (some e) none p) pos) env) Q E s:=by
 refine cE (zi h (λo s₁ ai=>?_) λZ Z e=>e)
 refine F0 ?_
 rw[Ec]
 refine y4 ?_
 rw[HD]
 refine zi ai (λvu ag am=>?_) λZ Z e=>e
 obtain⟨L,l,T,d,vs,n,b,tb,rfl,rfl,S,hm,hz,hQ⟩:=am
 refine y4 ?_
 have hl:ag.heap.IsList d vs.toArray:=⟨_,S.obj _ hm,rfl,n,rfl⟩
 have ah:=(S.push { cls:=.type "slice", data:=.fields #[.none,.int ((b:Nat):Int) tb,.none] }).push { cls:=.type "list", data:=.seq (Gz vs.toArray none (some ((b:Nat):Int)) none) }
 rw[Gh _ _] at ah
 refine⟨(hl.push _).typeIs,Dz (hl.push _) (DS ..) .none (.int _ _) .none (by simp) ?_ (by rw[zz,zg];exact up 16776216 hz)⟩
 rw[Gh _ _]
 exact hQ _ [(_,_)] _ ah
end
theorem iQ{prog:Bm}{w:As}{A:AU}{E:VP}{s:zc}{a b:UInt64}{t u:AQ}{Q:BP}(h:Q (zZ a b==some Ordering.lt) s):y7 (y6 prog w) A (oneLt' true (.float a t) (.float b u)) Q E s:=by
 refine y0 (wpAny_cRoomFor_byValue rfl ?_)
 refine y0 (wpAny_callSpecialIfBound?_slot (B7 s a t) LM (call_gives LM (B7 s a t) F.entry_float_lt (F.args_float_lt_2 _ _) (Jd a t b u) ?_))
 exact zb h
theorem sc_tups{h:AJ}:∀ {Es:List Sc},(∀ e∈Es,h.get? e.a=some (aG [.float e.f e.ft,e.x.v]))->KatTups h (aB Es) (Es.map λe=>.float e.f e.ft):=by
 intro Es
 induction Es with
 | nil =>
  intro Z
  exact .nil
 | cons e r ih =>
  intro hS
  exact .cons (hS e (.head _)) rfl rfl rfl (ih λe' he'=>hS e' (aj he'))
section
variable{Es:List Sc}
theorem uy{e e':Sc}{Q:BP}(hu:A.units+3<AB)(NB:B8 s.heap)(hT:kK Es)(hR:kL rk Es)(he:e∈Es)(he':e'∈Es)(ha:ScH s.heap e)(hb':ScH s.heap e')
  (h:Q (decide (rkS rk e<rkS rk e')) s):y7 (y6 pw w) A (I4 (L5 true) (.ref e.a) (.ref e'.a)) Q E s:=by
 have hself:(zZ e.f e.f==some Ordering.eq)=true:=(zr.mp ((hR e he e he).1.mpr rfl)).1
 obtain⟨r1,r2,r3,r4,r5,r6⟩:=hR e he e' he'
 refine kat_lt ha.1 rfl hb'.1 rfl (MA (dD NB (hT e he).1 (hT e' he').1 (λq=>(hT e he).2 e' he' q) hself (NG (λq=>?_) (λq=>?_))))
 ·refine Nc (MA (kM (dn 3 hu) ha.2 hb'.2 r6 (NG (λq2=>?_) (λq2=>?_))))
  ·have:rkS rk e=rkS rk e':=r1.mp (by rw[q,q2];rfl)
   rw[show decide (rkS rk e<rkS rk e')=false from decide_eq_false (this▸Ao _)] at h
   exact Nc (kat_nil h)
  ·refine NH (kat_one _ _ (xp (dn 3 hu) ha.2 hb'.2 r6 ?_))
   rw[jj (r3 q)]
   exact h
 ·refine NH (iQ ?_)
  rw[jj (r2 q)]
  exact h
end
theorem eB:Bn (yZ "sorted")=some (.builtin "sorted"):=by kernel_rfl
theorem bO{α β:Type}(f:α->β):∀ {vs:List β}{Es:List α},vs.Perm (Es.map f)->∃ P:List α,vs=P.map f/\P.Perm Es:=by
 intro vs Es h
 generalize hr:Es.map f=l at h
 induction h generalizing Es with
 | nil =>
  have:Es=[]:=by simpa using hr
  subst this
  exact⟨[],rfl,BI _⟩
 | cons x h ih =>
  obtain⟨e,r,rfl,rfl,h1⟩:=F2.mp hr
  obtain⟨P,rfl,hp⟩:=ih h1
  exact⟨e::P,rfl,hp.cons e⟩
 | swap x y l =>
  obtain⟨e,r,rfl,rfl,h1⟩:=F2.mp hr
  obtain⟨e',r,rfl,rfl,rfl⟩:=F2.mp h1
  exact⟨e'::e::r,rfl,z8 _ _ _⟩
 | trans h1 h2 ih1 ih2 =>
  obtain⟨P2,hP2,hp2⟩:=ih2 hr
  obtain⟨P1,hP1,hp1⟩:=ih1 hP2.symm
  exact⟨P1,hP1,hp1.trans hp2⟩
theorem qk{vs:List Value}{Es:List Sc}(h:vs.Perm (aB Es)):∃ P:List Sc,vs=aB P/\P.Perm Es:=bO _ h
theorem x0{rk:UInt64->List zK->Nat}{rkv:Value->Nat}{P:List Sc}(hr:∀ e∈P,rkv (.ref e.a)=rkS rk e)(h:(aB P).Pairwise λa b=>rkv b<=rkv a):P.Pairwise λa b=>rkS rk b<=rkS rk a:=by
 unfold aB at h
 rw[AX] at h
 refine EW ?_ h
 intro a b ha hb h
 rw[hr a ha,hr b hb] at h
 exact h
section
variable{T:LO}{l:LV}{Es:List Sc}{n:Nat}{ob:AR}
theorem x8(G:GK w hb)(hu:A.units+100<AB)(hm:(res,ap (aB Es) nr)∈T)(hS:SXk T Es)(hT:kK Es)(hl:Es.length<=60)(hR:kL rk Es)
  (rkv:Value->Nat) (hrkv:∀ e∈Es,rkv (.ref e.a)=rkS rk e) (hob:ob.data=.cell (some .none)) {Q:FP}
  (S:St hb tabs L' [(yZ "size", .int Es.length ts),(yZ "n", .int n tn),(yZ "iterable", .ref res)] ((L'+1,ob)::(L,oL)::T) s.heap)
  (k:∀ (s':zc) (X:LO) (r:zh) (P:List Sc),Kp s s'->P.Perm Es->P.Pairwise (λa b=>rkS rk b<=rkS rk a) ->
   St hb tabs L' [(yZ "size", .int Es.length ts),(yZ "n", .int n tn),(yZ "iterable", .ref res)] ((r,ap (aB (P.take n)) 0)::(X++((L'+1,ob)::(L,oL)::T))) s'.heap->Q (.ret (.ref r)) s') :
  y7 (y6 pw w) (A.deeper (dP w L')) (z5 (aD (((orB (((aD (st1 pw 8))[1]?).getD AF))[0]?).getD AF)) (dP w L')) Q E s:=by
 refine cO (gE (hb:=hb) (tabs:=tabs) (eD (eA G S eB (Ls (aln (env:=zB (aO w.params) L' 280) S m2 (Ex (bI S (.head _) hob ?_)))))))
 refine Ex (Ei (Jt ?_))
 have hin:∀ T',(∀ p∈(L'+1,ob)::(L,oL)::T,p∈T')->SXk T' Es:=λT' h=>hS.mono λp hp=>h _ (aj (aj hp))
 refine iH (κ:=L5 true) rkv S (aj (aj hm)) (by rw[aJ];exact z21 hl) (ksk_s2 _ _ _) (λx=>ksk_l2 _ _ _) (λx=>gX x) ?_ ?_ ?_
 ·intro h2 s' T' Q' E' S' hT' hq
  have hS':=hin T' hT'
  exact Nw (T:=.type "float") (sc_tups λe he=>(S'.sc (hS' e he)).1) (by rw[ze];rw[aJ] at h2;exact z22 h2) (λv hv=>by
   obtain⟨e,-,rfl⟩:=zd.mp hv
   exact .now) rfl hq
 ·intro s' T' K' S' hT' x hx y hy C hC
  obtain⟨e,he,rfl⟩:=zd.mp hx
  obtain⟨e',he',rfl⟩:=zd.mp hy
  have hS':=hin T' hT'
  rw[hrkv e he,hrkv e' he'] at hC
  exact uy (by show A.units+3+1+1+3<AB;exact dn 92 hu) (S'.nb G) hT hR he he' (S'.sc (hS' e he)) (S'.sc (hS' e' he')) hC
 ·intro s' D n' vs' X K' hp hw S'
  obtain⟨P,rfl,hP⟩:=qk hp
  refine ay (env:=zB (aO w.params) L' 280) S' m1 ⟨_,_,_,D,aB P,n',n,tn,rfl,rfl,S',.head _,by rw[aJ,hP.length_eq];exact up 940 hl,?_⟩
  intro D2 X2 h' af
  have e1:(aB P).take n=aB (P.take n):=by unfold aB;rw[Cg]
  rw[e1] at af
  refine k { s' with heap:=h' } (X2++((D,ap (aB P) n')::X)) D2 P ⟨K'.os,K'.gens⟩ hP (x0 (λe he=>hrkv e (hP.mem_iff.mp he)) hw) ?_
  rw[zx]
  exact af
end
end
noncomputable abbrev rg3O (a b c:Int) (t u v:AQ):AR:={ cls:=.type "range", dict:=none,data:=.fields #[.int a t,.int b u,.int c v],slots:=#[] }
noncomputable abbrev iD (x left c:Int):AR:={ cls:=.type "range_iterator", dict:=none,data:=.fields #[Cz x,Cz left,Cz c],slots:=#[] }
noncomputable abbrev jQ (f0:Value) (TI TO:zh):AR:={ cls:=.type "zip", dict:=none,data:=.fields #[f0,.bool false,.bool false,.ref TI,.ref TO],slots:=#[] }
theorem lh(r it d:zh)(b c:Int)(t u v:AQ)(i:Nat)(hsm:DC 0 b c=true)(oi:AR)(hoi:bY oi d i) :
  Meets (Az.«zip.__new__» ⟨[.type "zip", .ref r,.ref it],[]⟩) (λZ R s=>s.heap.get? r=some (rg3O 0 b c t u v)/\s.heap.get? it=some oi /\
   R (.ok (.ret (.ref (((s.heap.push (iD 0 (Aj 0 b c) c)).push (aG [.ref s.heap.objs.size,.ref it])).push (aG [.none,.none])).objs.size)))
    { s with heap:=(((s.heap.push (iD 0 (Aj 0 b c) c)).push (aG [.ref s.heap.objs.size,.ref it])).push (aG [.none,.none])).push (jQ .none (s.heap.push (iD 0 (Aj 0 b c) c)).objs.size ((s.heap.push (iD 0 (Aj 0 b c) c)).push (aG [.ref s.heap.objs.size,.ref it])).objs.size) }) :=
 .of_wp λprog w A R s h=>by
  obtain⟨hp,g,dr,tk,os⟩:=s;obtain⟨hr,hi,h⟩:=h
  have hR:IsRange (Hj ⟨hp,g,dr,tk,os⟩) r 0 b c t u v:=hr
  have hI:Heap.IsListIter (Hj ⟨hp.push (iD 0 (Aj 0 b c) c),g,dr,tk,os⟩) it d i:=⟨oi,zC _ hi,hoi.1,hoi.2⟩
  have hsub:=sub_zip
  wp_walk using GH hR hsm,FJ hI
  exact⟨_,rfl,h⟩
section
variable{tabs:List zh}{r:zh}{l:LV}{T:LO}{vs:List Value}{b c:Int}{t u v:AQ}
theorem mQ{a:Int}{Q:VP}(S:St hb tabs L l T s.heap)(hc:c≠0)(hp:C2 (b - a) c=false)(h:∀ r h',St hb tabs L l ((r,rg3O a b c t u v)::T) h'->Q (.ref r) (wh s h')) :
  y7 (y6 prog w) A (call (.type "range") [.int a t,.int b u,.int c v]) Q E s :=
 call_range_3 hc (h _ _ (S.push _)) (.inl hp)
theorem xn{Q:VP}(S:St hb tabs L l T s.heap)(hr:(r,rg3O 0 b c t u v)∈T)(hi:(it,oi)∈T)(hoi:bY oi d i)(hsm:DC 0 b c=true)
  (h:∀ z TI TO ri h',St hb tabs L l ((z,jQ .none TI TO)::(TO,aG [.none,.none])::(TI,aG [.ref ri,.ref it])::(ri,iD 0 (Aj 0 b c) c)::T) h'->Q (.ref z) (wh s h')) :
  y7 (y6 prog w) A (call (.type "zip") [.ref r,.ref it]) Q E s:=by
 have S':=(((S.push (iD 0 (Aj 0 b c) c)).push (aG [.ref s.heap.objs.size,.ref it])).push (aG [.none,.none])).push (jQ .none (s.heap.push (iD 0 (Aj 0 b c) c)).objs.size ((s.heap.push (iD 0 (Aj 0 b c) c)).push (aG [.ref s.heap.objs.size,.ref it])).objs.size)
 refine Ie F.called_zip (by decide) (F.typeCall_zip_2 _ _) (F.newCall_zip_2 _ _) (λobj=>I5 obj _ _) F.entry_zip_new (lh r it d b c t u v i hsm oi hoi) ⟨S.obj _ hr,S.obj _ hi,⟨_,S'.obj _ m0,rfl⟩,h _ _ _ _ _ S'⟩
theorem lf{x left:Int}{Q:VP}(hit:s.heap.get? it=some (iD x left c))(hleft:0<left)
  (hQ:∀ h',h'.get? it=some (iD (x+c) (left - 1) c)->BZ it s.heap h'->Q (.int x s.toks) (wht s h' (s.toks+1))) :
  y7 (y6 prog w) A (B6 (.ref it)) Q E s:=by
 have hT:s.TypeIs (.ref it) "range_iterator" := ⟨_,hit,rfl⟩
 refine y0 (Ab (name:=yZ "__next__") hT Df
  (Ic Df hT Gw (Gi _) (AutoRange.range_iterator___next___range_iterator_1 it x left c (zj5 hleft)) ⟨hit,?_⟩))
 exact y4 (hQ _ (zt _ (zt _ hit rfl) rfl) ((zw ..).trans (zw ..)))
theorem u6{z TI TO ri:zh}{bt b0 xv:Value}{x left:Int}{n:Nat}{Q:Option Value->zc->Prop}
  (S:St hb tabs L l ((z,jQ .none TI TO)::(TO,aG [bt,b0])::(TI,aG [.ref ri,.ref it])::(ri,iD x left c)::(it,oi)::T) s.heap) (hoi:bY oi d i) (hd:(d,ap vs n)∈T) (hx:vs[i]? = some xv) (hleft:0<left)
  (h:∀ P oi' h',bY oi' d (i+1)->St hb tabs L l ((P,aG [.int x s.toks,xv])::(z,jQ (Cz P) TI TO)::(TO,aG [.int x s.toks,xv])::(TI,aG [.ref ri,.ref it])::(ri,iD (x+c) (left - 1) c)::(it,oi')::T) h'->Q (some (.ref P)) (wht s h' (s.toks+1))) :
  y7 (y6 prog w) A (Di (.ref z)) Q E s:=by
 have hz:=S.obj _ m0
 have hT:s.TypeIs (.ref z) "zip" := ⟨_,hz,rfl⟩
 refine y0 (Dw (Ab (name:=yZ "__next__") hT Gj
  (zX Gj hT KZ ?_ (Kv _))))
 refine y0 (m:=FX (.ref z) 2) (AN hz rfl (x:=.bool false) rfl ?_)
 refine y0 (m:=FX (.ref z) 3) (AN hz rfl (x:=.ref TI) rfl ?_)
 refine y0 (zy (S.obj _ m2) rfl ?_)
 refine y0 (m:=EX (.ref z)) (y0 (AN hz rfl (x:=.none) rfl (y4 ?_)))
 refine y0 (AS ?_)
 refine y0 (AN hz rfl (x:=.ref TO) rfl ?_)
 refine y0 (DT hz (by simp) λai ek bz=>?_)
 have ah:=S.change (o':=jQ .ellipsis TI TO) 0 rfl bz ek
 refine y0 ?_
 show y7 _ _ (Dt [(AW ri,0),(AW it,1)] _ _) _ _ _
 rw[AC]
 refine y0 (y0 (JI ?_))
 refine y0 (m:=B6 (.ref ri)) (lf (c:=c) (ah.obj _ m3) hleft λam bp d6=>y4 ?_)
 have af:=ah.change (o':=iD (x+c) (left - 1) c) 3 rfl d6 bp
 refine y0 (zy (af.obj _ m1) rfl ?_)
 refine y0 (Jf (af.obj _ m1) λak hT3 c9=>?_)
 have ae:=af.change (o':=aG [.int x s.toks,b0]) 1 rfl c9 hT3
 refine y0 (DI (y4 ?_))
 show y7 _ _ (Dt [(AW it,1)] _ _) _ _ _
 rw[AC]
 refine y0 (y0 (JI ?_))
 refine y0 (m:=B6 (.ref it)) (Ig (items:=vs.toArray) ⟨oi,ae.obj _ m4,hoi.1,hoi.2⟩ ⟨_,ae.obj _ (aj (aj (aj (aj (aj hd))))),rfl,n,rfl⟩ (by simpa using hx) λau hi4 hs4=>y4 ?_)
 obtain⟨oi',ho',hc',hd'⟩:=hi4
 have S4:=ae.change (o':=oi') 4 rfl hs4 ho'
 refine y0 (zy (S4.obj _ m1) rfl ?_)
 refine y0 (Jf (S4.obj _ m1) λax dy hs5=>?_)
 have S5:=S4.change (o':=aG [.int x s.toks,xv]) 1 rfl hs5 dy
 refine y0 (DI (y4 ?_))
 show y7 _ _ (Dt [] _ _) _ _ _
 rw[Er]
 refine y4 (y0 (zy (S5.obj _ m1) rfl ?_))
 refine y0 (Fq ?_)
 have S6:=S5.push (aG [.int x s.toks,xv])
 refine y0 (m:=JA (.ref z) (.ref ax.objs.size)) (y0 (DT (S6.obj _ m1) (by simp) λba hz7 hs7=>?_))
 have S7:=S6.change (o':=jQ (Cz ax.objs.size) TI TO) 1 rfl hs7 hz7
 refine DT (S7.obj _ m1) (by simp) λbc hz8 hs8=>?_
 have S8:=S7.change (o':=jQ (Cz ax.objs.size) TI TO) 1 rfl hs8 hz8
 exact y4 ⟨_,rfl,y4 (h _ oi' bc ⟨hc',hd'⟩ S8)⟩
theorem zp_go{z TI TO P:zh}{elts:List Expr}{k:Nat}{pos:Ej}{Q:UP}(j:Nat)(S:St hb tabs L l T s.heap)(hz:T[j]? = some (z,jQ (Cz P) TI TO))
  (h:∀ h',St hb tabs L l (T.set j (z,jQ .none TI TO)) h'->Q () (wh s h')):y7 (y6 prog w) A (C0 (.Tuple elts k pos) (.ref z) (.ref P)) Q E s:=by
 refine wpAny_letOwnedTupleGo_zip (S.obj _ (zp hz)) λh' hz' hs'=>h h' (S.change j hz hs' hz')
theorem xo{z TI TO ri:zh}{bt b0:Value}{x left:Int}{Q:Option Value->zc->Prop}(hh:A.handled=none)
  (S:St hb tabs L l ((z,jQ .none TI TO)::(TO,aG [bt,b0])::(TI,aG [.ref ri,.ref it])::(ri,iD x left c)::T) s.heap) (hleft:left<=0)
  (h:∀ h',St hb tabs L l T h'->Q none (wh s h')):y7 (y6 prog w) A (Di (.ref z)) Q E s:=by
 have hz:=S.obj _ m0
 have hT:s.TypeIs (.ref z) "zip" := ⟨_,hz,rfl⟩
 refine y0 (Dw (Ab (name:=yZ "__next__") hT Gj
  (zX Gj hT KZ ?_ (Kv _))))
 refine y0 (m:=FX (.ref z) 2) (AN hz rfl (x:=.bool false) rfl ?_)
 refine y0 (m:=FX (.ref z) 3) (AN hz rfl (x:=.ref TI) rfl ?_)
 refine y0 (zy (S.obj _ m2) rfl ?_)
 refine y0 (m:=EX (.ref z)) (y0 (AN hz rfl (x:=.none) rfl (y4 ?_)))
 refine y0 (AS ?_)
 refine y0 (AN hz rfl (x:=.ref TO) rfl ?_)
 refine y0 (DT hz (by simp) λai ek bz=>?_)
 have ah:=S.change (o':=jQ .ellipsis TI TO) 0 rfl bz ek
 refine y0 ?_
 show y7 _ _ (Dt [(AW ri,0),(AW it,1)] _ _) _ _ _
 rw[AC]
 refine y0 (y0 (JI ?_))
 refine y0 (m:=B6 (.ref ri)) ?_
 have hri:=ah.obj _ m3
 have hTr:MQ (wh s ai) (.ref ri) "range_iterator" := ⟨_,hri,rfl⟩
 refine y0 (Ab (name:=yZ "__next__") hTr Df
  (zX Df hTr Gw ?_ (Gi _)))
 refine y0 (m:=FX (.ref ri) 0) (AN hri rfl (x:=Cz x) rfl ?_)
 refine y0 (m:=FX (.ref ri) 1) (AN hri rfl (x:=Cz left) rfl ?_)
 refine y0 (m:=FX (.ref ri) 2) (AN hri rfl (x:=Cz c) rfl ?_)
 refine bW hleft (y0 (AS ?_))
 refine y0 (y0 (m:=NE (.type "StopIteration") []) (y0 (Af ?_ (by size_fits))))
 refine y0 (m:=De _ _) (Ay (a:=CO) (by first|rfl|(simp only[De];rfl)) ?_)
 refine Af ?_ (by size_fits)
 refine y0 (HA ?_)
 first|rw[show A.in1.handled=none from hh]|rw[show A.in1.in1.handled=none from hh]|rw[hh]
 refine y0 (y4 (I7 ?_))
 have af:=(ah.push { cls:=.type "tuple", data:=.seq #[] }).push { cls:=.type "StopIteration", data:=.fields (#[AW ai.objs.size,CO,CO,CO,FM false,CO]++ownMembersOf (An "StopIteration") []) }
 refine DT (af.obj _ m2) (by simp) λam fi d6=>?_
 have ae:=af.change (o':=jQ .none TI TO) 2 rfl d6 fi
 refine y0 (AO (T := "StopIteration") (b:=true) ⟨_,ae.obj _ m0,rfl⟩ GN ?_)
 exact y4 (h _ (ae.sub (.cons _ (.cons _ (.cons _ (.cons _ (.cons _ (.cons _ (Al _)))))))))
end
def ZkOk(X:LO)(vs:List Value)(ps:List (zh×AQ)):Prop:=∀ j p,ps[j]? = some p->(p.1,aG [vs.getD j .none,.int (-(j:Int)) p.2])∈X
noncomputable def gB(ps:List (zh×AQ)):List Value:=ps.map λp=>.ref p.1
section
open PySem.Spec
noncomputable def bE(Hs:List HI):List Value:=Hs.map λh=>.ref h.a
def HOk(T:LO)(Hs:List HI):Prop:=∀ h∈Hs,(h.a,aG [.ref h.e.a,.int h.ord h.ot])∈T
theorem bA(l:List HI):(bE l).length=l.length:=by simp[bE]
def un(Hs:List HI):Prop:=∀ h∈Hs,-60<=h.ord/\h.ord<=0
noncomputable def kj(rk:UInt64->List zK->Nat)(Hs:List HI):Value->Int
 | .ref a=>((Hs.find? λh=>h.a==a).map (fQ rk)).getD 0
 | _=>0
theorem ki{rk:UInt64->List zK->Nat}{Hs:List HI}{Es:List Sc}{hp:AJ}(hH:∀ h∈Hs,hp.get? h.a=some (aG [.ref h.e.a,.int h.ord h.ot]))(hE:∀ e∈Es,ScH hp e)(hHE:∀ h∈Hs,h.e∈Es){h:HI}(hm:h∈Hs) :
  kj rk Hs (.ref h.a)=fQ rk h:=by
 show ((Hs.find? λh'=>h'.a==h.a).map (fQ rk)).getD 0=fQ rk h
 cases hf:Hs.find? λh'=>h'.a==h.a with
 | none=>exact absurd (Fa.mp hf h hm) (by simp)
 | some h' =>
  have ha:h'.a=h.a:=by simpa using ID hf
  have hm':=EL hf
  have o1:=hH h' hm'
  rw[ha,hH h hm] at o1
  have e1:=congrArg Mw (AG o1)
  injection e1 with e1 _
  have e2:[AW h.e.a,.int h.ord h.ot]=[AW h'.e.a,.int h'.ord h'.ot]:=by
   have:=congrArg Iu e1
   simpa using this
  injection e2 with h1 h2
  injection h2 with h2 _
  injection h1 with a1
  injection h2 with x1 _
  obtain⟨s1,s2⟩:=jW (hE _ (hHE _ hm')) (hE _ (hHE _ hm)) a1.symm
  show fQ rk h'=fQ rk h
  unfold fQ rkS
  rw[s1,s2,x1]
theorem aX.congr{K K':Nat->Int}{n t:Nat}(h:aX K n t)(e:∀ i,i<n->K i=K' i):aX K' n t:=by
 intro i i1 im ht
 rw[<- e i im,<- e (par i) (by unfold par;exact zjb im)]
 exact h i i1 im ht
noncomputable def oB(rk:UInt64->List zK->Nat)(Hs:List HI)(i:Nat):Int:=((Hs[i]?).map (fQ rk)).getD 0
theorem fG{rk:UInt64->List zK->Nat}{key:Value->Int}{Hs:List HI}(hk:∀ h∈Hs,key (.ref h.a)=fQ rk h){i:Nat}(hi:i<Hs.length):fH key (bE Hs) i=oB rk Hs i:=by
 unfold fH oB bE
 have e:(Hs.map λh=>AW h.a).getD i .none=.ref Hs[i].a:=by
  rw[Bl,zE,zl hi];rfl
 rw[e,hk _ (Ac hi),zl hi]
 rfl
theorem kW{rk:UInt64->List zK->Nat}{h h':HI}(o : -60<=h.ord/\h.ord<=0)(o' : -60<=h'.ord/\h'.ord<=0)(hk:fQ rk h<=fQ rk h'):rkS rk h.e<=rkS rk h'.e:=by
 unfold fQ at hk
 exact zjd o.1 o'.2 hk
section
variable{pos:Ej}
theorem gU {value e:Expr}{T id:String}{Q:VP} (hl:BL (.type T) "__getitem__" = AA (some (.builtin id)))
  (h:y7 (y6 prog w) A (Ax value env) (kGet (y6 prog w) A env E T e Q) E s)
  (hs:∀ o i,Hh e false o i=J9 [o,i] (Dg o i):=by intro Z Z;rfl):y7 (y6 prog w) A (Ax (.Subscript value e pos) env) Q E s:=by
 refine y0 (zi h (λo s₁ ai=>y0 (zs (zi ai (λi ag am=>y0 (CS ?_)) λZ Z x=>x)))
  λZ Z x=>x)
 have fin:y7 (y6 prog w) A (Hh e false o i) (λr s3=>y7 (y6 prog w) A (Fo value o r>>=λZ=>AA r) Q E s3) E ag:=by
  rw[hs]
  exact Gc (zi am.2 (λr s3 ak=>y0 (Ev (y4 ak))) λZ Z x=>x)
 refine y0 (y0 (BX am.1 hl ?_))
 first
  | exact y4 (y0 fin)
  | exact y0 (y4 (y0 fin))
  | exact y0 fin
variable{tabs:List zh}{l:LV}{T:LO}{vs:List Value}{n:Nat}{o:AR}
theorem gL{k:Nat}{t:AQ}{x:Value}{Q:VP}(S:St hb tabs L l T s.heap)(hm:(d,ap vs n)∈T)(hz:vs.length<=1000)(hx:vs[k]? = some x)(h:Q x s):y7 (y6 prog w) A (Dg (.ref d) (.int (k:Int) t)) Q E s:=by
 have hk:k<vs.length:=(zY.mp hx).1
 exact wpAny_getItem_list (items:=vs.toArray) ⟨_,S.obj _ hm,rfl,n,rfl⟩ z13 (x20 hz hk) (by simpa using hx) h
theorem tE{k:Nat}{t:AQ}{x:Value}{Q:VP}(S:St hb tabs L l T s.heap)(hm:(d,aG vs)∈T)(hz:vs.length<=1000)(hx:vs[k]? = some x)(h:Q x s):y7 (y6 prog w) A (Dg (.ref d) (.int (k:Int) t)) Q E s:=by
 have hk:k<vs.length:=(zY.mp hx).1
 have ho:=S.obj _ hm
 have hT:s.TypeIs (.ref d) "tuple" := ⟨_,ho,rfl⟩
 have hseq:HO (k:Int) vs.toArray.size=some k:=by rw[seqIndex_of (by exact z13) (by rw[zg];exact zjc hk)];rfl
 unfold Dg
 try with_reducible refine zs ?_
 first|refine y0 (y4 ?_)|skip
 refine y0 (Kw hT (by decide) ?_)
 exact y0 (Ab (name:=yZ "__getitem__") hT F3
  (Ic F3 hT HB (G9 _ _) (MeetsSeq.tuple_getitem_at d vs.toArray 0 k t k x (by lia) (by lia) hseq (by simpa using hx)) ⟨ho,y4 h⟩))
theorem dT:BL (.type "tuple") "__getitem__" = AA (some (.builtin "tuple.__getitem__")):=F3.lookup
theorem wR{R:Cm->zc->Prop}{i₀:Nat}(hh:A.handled=none)(J:Nat->LV->LO->Prop)(S:St hb tabs L l ((I,o)::T) s.heap)(ho:bY o d i₀)(eu:i₀<=vs.length)(h0:J i₀ l T)(hd:(d,ap vs n)∈T)
  (GF:∀ E i v l₁ T1 c8 s₁,i₀<=i->vs[i]? = some v->J i l₁ T1->(d,ap vs n)∈T1->St hb tabs L l₁ ((I,c8)::T1) s₁.heap->Kp s s₁ ->
   y7 (y6 prog w) A (BR target env v) (λZ ag=>y7 (y6 prog w) A (z5 body env) (λf s3=>match f with
    | .next|.cont=>Ex2 λl₂ T₂=>An4 (St hb tabs L l₂ ((I,c8)::T₂) s3.heap) (J (i+1) l₂ T₂) ((d,ap vs n)∈T₂) (Kp s s3)
    | .brk=>R (.ok .next) s3
    | .ret v=>R (.ok (.ret v)) s3) E ag) E s₁)
  (hR:∀ s' l' T',Kp s s'->St hb tabs L l' T' s'.heap->J vs.length l' T'->R (.ok .next) s')
  (ht:∀ v,C0 target (.ref I) v=AA ():=by intro Z;rfl) :
  zW (y6 prog w) A (.forLoop target (.ref I) body [] env) R s:=by
 let H:Nat->zc->Prop:=λk s'=>Ex4 λi l₁ T1 c8=>An8 (i₀<=i) (St hb tabs L l₁ ((I,c8)::T1) s'.heap) (bY c8 d i) (J i l₁ T1) ((d,ap vs n)∈T1) (Kp s s') (i<=vs.length) (k=vs.length - i)
 refine LN H ?_ (vs.length - i₀) ⟨i₀,l,T,o,zk _,S,ho,h0,hd,Kp.refl,eu,rfl⟩ ht
 rintro k s' ⟨i,l₁,T1,c8,hi1,ah,ew,hJ,hd1,hKp,hi,rfl⟩
 by_cases hlt:i<vs.length
 ·have hx:vs[i]? = some vs[i]:=zl hlt
  refine ij 0 ah rfl ew (aj hd1) hx λam dh di af=>(zi (GF _ i vs[i] l₁ T1 dh { s' with heap:=am } hi1 hx hJ hd1 af hKp.with) (λZ ag fj=>zi fj (λf s3 z3=>?_) λZ Z e=>e) λZ Z e=>e)
  have fin:(Ex2 λl₂ T₂=>An4 (St hb tabs L l₂ ((I,dh)::T₂) s3.heap) (J (i+1) l₂ T₂) ((d,ap vs n)∈T₂) (Kp s s3))->∃ m,m<vs.length - i/\H m s3:=by
   rintro⟨l₂,T₂,ae,hJ3,fk,hKp3⟩
   exact⟨vs.length - (i+1),by exact z8t hlt,i+1,l₂,T₂,dh,by exact z78 hi1,ae,di,hJ3,fk,hKp3,hlt,rfl⟩
  cases f with
  | next=>exact fin z3
  | cont=>exact fin z3
  | brk=>exact z3
  | ret v=>exact z3
 ·have hin:i=vs.length:=z8u hi hlt
  subst hin
  exact iV hh ah.last ew hd1 λam af=>CZ (hR _ l₁ T1 hKp.with af hJ)
end
theorem lq{f:Value}{keywords:List (Option zK×LH Value)}{Q:M5->zc->Prop}(hall:keywords.all (·.1.isSome)=true)
  (h:y7 M A (evalAll (keywords.map (·.2))) (λkvs ag=>Q ⟨[],(keywords.filterMap (·.1)).zip kvs⟩ ag) E s) :
  y7 M A (Nn f true [] keywords) Q E s:=by
 refine y0 (y4 (y0 (y4 ?_)))
 refine zs (bW hall (y0 (zi h (λkvs ag am=>?_) λZ Z x=>x)))
 exact y0 (y4 (y4 am))
theorem yQ{pos:Ej}{id:String}{first:List Value}{kws:List Keyword}{Q:VP}
  (h:y7 M A (evalAll ((DX pos (CD kws env)).map (·.2))) (λkvs ag=>y7 M A (call (.builtin id) (first++[]) (((DX pos (CD kws env)).filterMap (·.1)).zip kvs)) Q E ag) E s)
  (hall:(DX pos (CD kws env)).all (·.1.isSome)=true:=by rfl)
  (hkw:(DX pos (CD kws env)).any (·.1.isNone)=false:=by rfl) :
  y7 M A (DW pos (.builtin id) first (Cn pos (AM [] env)) (DX pos (CD kws env))) Q E s :=
 callWith_builtin_kwB rfl hkw (lq hall h)
theorem nh (x:zh):CM "list.sort" ⟨[.ref x],[(yZ "reverse", .bool true)]⟩:=by unfold CM;kernel_rfl
theorem ru:Bn (yZ "zip")=some (.type "zip"):=by kernel_rfl
theorem pK:∀ n:Fin 61,DC 0 (-((n.val:Nat):Int)) (-1)=true/\Aj 0 (-((n.val:Nat):Int)) (-1)=((n.val:Nat):Int):=by decide +kernel
theorem hi_tups{h:AJ}:∀ {Hs:List HI},(∀ e∈Hs,h.get? e.a=some (aG [.ref e.e.a,.int e.ord e.ot]))->KatTups h (bE Hs) (Hs.map λe=>.ref e.e.a):=by
 intro Hs
 induction Hs with
 | nil =>
  intro Z
  exact .nil
 | cons e r ih =>
  intro hS
  exact .cons (hS e (.head _)) rfl rfl rfl (ih λe' he'=>hS e' (aj he'))
section
variable{Es:List Sc}
theorem yA{x y:HI}{Q:BP}(hu:A.units+4<AB)(NB:B8 s.heap)(hT:kK Es)(hR:kL rk Es)(he:x.e∈Es)(he':y.e∈Es)(ha:ScH s.heap x.e)(hb':ScH s.heap y.e)
  (hx:s.heap.get? x.a=some (aG [.ref x.e.a,.int x.ord x.ot])) (hy:s.heap.get? y.a=some (aG [.ref y.e.a,.int y.ord y.ot])) (ox : -60<=x.ord/\x.ord<=0) (oy : -60<=y.ord/\y.ord<=0)
  (h:Q (decide (fQ rk x<fQ rk y)) s):y7 (y6 pw w) A (I4 (L5 false) (.ref x.a) (.ref y.a)) Q E s:=by
 refine kat_lt hx rfl hy rfl (MA (uz (dn 3 hu) NB hT hR he he' ha hb' ?_))
 unfold fQ at h
 refine NG (λq=>?_) (λq=>?_)
 ·have hq:=of_decide_eq_true q
  refine Nc (MA (EI (NG (λq2=>?_) (λq2=>?_))))
  ·have e1:x.ord=y.ord:=Aw q2
   rw[show decide ((rkS rk x.e:Int) * 1000+x.ord<(rkS rk y.e:Int) * 1000+y.ord)=false from decide_eq_false (z27 q q2)] at h
   exact Nc (kat_nil h)
  ·refine NH (kat_one _ _ (P.lt_int ?_))
   rw[show decide ((rkS rk x.e:Int) * 1000+x.ord<(rkS rk y.e:Int) * 1000+y.ord)=decide (x.ord<y.ord) from decide_eq_decide.mpr (x13 q).symm] at h
   exact h
 ·have hq:=of_decide_eq_false q
  refine NH (kat_one _ _ (vI (dn 3 hu) NB hT hR he he' ha hb' ?_))
  rw[show decide ((rkS rk x.e:Int) * 1000+x.ord<(rkS rk y.e:Int) * 1000+y.ord)=decide (rkS rk x.e<rkS rk y.e) from decide_eq_decide.mpr (x12 (DK (by decide) ox.1) (DK ox.2 (by decide)) (DK (by decide) oy.1) (DK oy.2 (by decide)) q).symm] at h
  exact h
end
section
variable{T:LO}{l:LV}{Es:List Sc}{n:Nat}{ob:AR}
theorem qH{a:zh}{Hs:List HI}{T':LO}{l':LV}{key:Value->Int}(G:GK w hb)(hu:A.units+10<AB)(hS:SXk T' Es)(hT:kK Es)(hR:kL rk Es)(hHE:∀ h∈Hs,h.e∈Es)(hH:HOk T' Hs)(hO:un Hs)
  (hk:∀ h∈Hs,key (.ref h.a)=fQ rk h):gP pw w A hb tabs L' a l' T' (bE Hs) key s:=by
 intro s' c' vs' K' S' x hx y hy E Q hq
 obtain⟨ai,m1,rfl⟩:=zd.mp hx
 obtain⟨am,m2,rfl⟩:=zd.mp hy
 have o1:=hO _ m1
 have o2:=hO _ m2
 rw[hk _ m1,hk _ m2] at hq
 have hS':SXk ((a,ap vs' c')::T') Es:=hS.mono λp hp=>aj hp
 exact hi_lt (by show A.units+1+4<AB;exact dn 5 hu) (S'.nb G) hT hR (hHE _ m1) (hHE _ m2) (S'.sc (hS' _ (hHE _ m1))) (S'.sc (hS' _ (hHE _ m2))) (S'.obj _ (aj (hH _ m1))) (S'.obj _ (aj (hH _ m2))) (z26 o1.1 o1.2) (z26 o2.1 o2.2) hq
noncomputable abbrev nlB:List Cv:=aD (((aD (st1 pw 8))[2]?).getD AF)
structure gQ(rk:UInt64->List zK->Nat)(Es:List Sc)(n i:Nat)(Hs:List HI)(outs:List Sc)(ord:Int):Prop where
 len:Hs.length=n
 sub:∀ h∈Hs,h.e∈Es
 ords:un Hs
 perm:(Hs.map (·.e)++outs).Perm (Es.take i)
 heap:aX (oB rk Hs) n 0
 below:∀ o∈outs,∀ h∈Hs,rkS rk o<=rkS rk h.e
 o0:ord<=0
 o1 : -(i:Int)<=ord
theorem gQ.least{n i:Nat}{Hs:List HI}{outs:List Sc}{ord:Int}{h₀:HI}{r:List HI}(J:gQ rk Es n i (h₀::r) outs ord):∀ h∈h₀::r,rkS rk h₀.e<=rkS rk h.e:=by
 intro h hm
 obtain⟨j,hj,e⟩:=I1.mp hm
 have hl:=J.len
 have:=tw J.heap j (z2a hj hl)
 unfold oB at this
 rw[zl hj,e] at this
 exact kW (J.ords _ (.head _)) (J.ords _ hm) (by simpa using this)
theorem gQ.skip{n i:Nat}{h₀:HI}{r:List HI}{outs:List Sc}{ord:Int}{e:Sc}(J:gQ rk Es n i (h₀::r) outs ord)(he:Es[i]? = some e)(hle:rkS rk e<=rkS rk h₀.e):gQ rk Es n (i+1) (h₀::r) (e::outs) ord where
 len:=J.len
 sub:=J.sub
 ords:=J.ords
 perm:=by
  rw[Am,he]
  exact zv.trans ((zP e J.perm).trans (zM (l₁:=[e])))
 heap:=J.heap
 below:=λo ho h hm=>by
  rcases za.mp ho with rfl|ho
  ·exact zn hle (J.least (Hs:=[]) h hm)
  ·exact J.below o ho h hm
 o0:=J.o0
 o1:=by have:=J.o1;exact z2b this
theorem gQ.swap{n i:Nat}{h₀:HI}{r Hs':List HI}{outs:List Sc}{ord:Int}{e:Sc}{new:HI}(J:gQ rk Es n i (h₀::r) outs ord)(he:Es[i]? = some e)(hlt:rkS rk h₀.e<rkS rk e)(hi:i<60)(hne:new.e=e)(hno:new.ord=ord)
  (hp:Hs'.Perm (new::r)) (hH:aX (oB rk Hs') n 0):gQ rk Es n (i+1) Hs' (h₀.e::outs) (ord - 1):=by
 have h0:=J.o0
 have h1:=J.o1
 refine⟨by rw[hp.length_eq];exact J.len,λh hm=>?_,λh hm=>?_,?_,hH,λo ho h hm=>?_,by exact z2c h0,by exact z2d h1⟩
 ·rcases za.mp (hp.mem_iff.mp hm) with rfl|q
  ·rw[hne];exact zp he
  ·exact J.sub h (aj q)
 ·rcases za.mp (hp.mem_iff.mp hm) with rfl|q
  ·rw[hno];exact z2e hi h0 h1
  ·exact J.ords h (aj q)
 ·rw[Am,he]
  have e1:(Hs'.map (·.e)).Perm (e::r.map (·.e)):=by
   have:=hp.map (·.e)
   rw[AD,hne] at this
   exact this
  refine (e1.append_right _).trans (LQ ?_ (zM (l₁:=[e])))
  exact zP e (LQ zv J.perm)
 ·have hl:rkS rk h₀.e<=rkS rk h.e:=by
   rcases za.mp (hp.mem_iff.mp hm) with rfl|q
   ·rw[hne];exact z2f hlt
   ·exact J.least (Hs:=[]) h (aj q)
  rcases za.mp ho with rfl|ho
  ·exact hl
  ·exact zn (J.below o ho h₀ (.head _)) hl
end
end
section
variable{tabs:List zh}{l l':LV}{T:LO}
theorem St.turn{oL:AR}(S:St hb tabs C l' ((L,oL)::T) h)(r:bL oL l):∃ oC,bL oC l'/\St hb tabs L l ((C,oC)::T) h:=by
 obtain⟨oC,e,rC⟩:=S.fm
 refine⟨oC,rC,⟨oL,S.obj _ (.head _),r⟩,S.new _ (.head _),S.keep,S.tab,λp hp=>?_,λp hp=>?_,?_⟩
 ·rcases za.mp hp with rfl|hp
  ·exact e
  ·exact S.obj _ (aj hp)
 ·rcases za.mp hp with rfl|hp
  ·exact S.lnew
  ·exact S.new _ (aj hp)
 ·exact (z8 _ _ _).nodup_iff.mp S.nd
end
section
variable{tabs:List zh}{pos:Ej}{y:zK}{l l':LV}{T:LO}
theorem jd{C:zh}{oL:AR}{lC:LV}{D:zh}{Q:zc->Prop}(S:St hb tabs C lC ((env.locals,oL)::T) s.heap)(r:bL oL l)(hst:bU l y (.ref D) l')
  (h:∀ h' tk,s.toks<=tk->St hb tabs env.locals l' T h'->Q (wht s h' tk)) (hk:env.scope.kind=.function) (hl:env.kindOf y=some .local) :
  y7 (y6 prog w) A (BR (.Name y py) env (.ref D)) (λZ s''=>∃ m,s''.heap.Ns C m/\∀ h',BZ C s''.heap h'->Q (wh s'' h')) E s:=by
 obtain⟨oC,rC,ah⟩:=S.turn r
 refine wpAny_assign_Name (aT ah hst (λam af=>?_) (by unfold sQ;rw[hk,hl];rfl))
 have fC:Fm am C lC:=⟨oC,af.obj _ (.head _),rC⟩
 obtain⟨m,hm,_,_⟩:=fC.ns
 refine⟨m,hm,λh' hs'=>h h' _ (C6 _) ?_⟩
 have nd:=zu.mp af.nd
 have nd2:=zu.mp nd.2
 refine (af.sub (zo _ _)).off (wr:=[C]) (λb hb'=>?_) (λb ob hb' e=>hs'.extBut b ob (λq=>hb' (by rw[q];exact .head _)) e)
 rw[y9] at hb';subst hb'
 refine⟨af.new _ (.head _),λq=>?_⟩
 rcases za.mp q with q|q
 ·exact nd.1 (by rw[<- q];exact .head _)
 ·exact nd2.1 q
end
section
variable{tabs:List zh}{pos:Ej}{y:zK}
theorem qf{l':zh->LV}{elt target iter:Expr}{scope:DB}{rest:List Cv}{Q:FP}(hh:A.handled=none)
  (h:y7 (y6 prog w) A (Ax iter env) (λxv s₁=>Ex13 λl T z TI TO ri it oi d vs nn bt b0=>∃ n:Nat,An8 (xv=.ref z) (St hb tabs env.locals l ((z,jQ .none TI TO)::(TO,aG [bt,b0])::(TI,aG [.ref ri,.ref it])::(ri,iD 0 (n:Int) (-1))::(it,oi)::T) s₁.heap) ((∀ D,bU l y (.ref D) (l' D))) (bY oi d 0) ((d,ap vs nn)∈T) (n<=vs.length) (vs.length<=1000) ((∀ s' D c X oi' ps,Kp s₁ s'->St hb tabs env.locals (l' D) ((D,ap (gB ps) c)::(it,oi')::(X++T)) s'.heap->ps.length=n->ZkOk X vs ps->bY oi' d n->y7 (y6 prog w) A (z5 rest env) Q E s'))) E s)
  (turn:∀ (C:zh) Tt (ag:zc) P (i:Nat) v tk (E':VP),St hb tabs C [] Tt ag.heap->(P,aG [.int (-(i:Int)) tk,v])∈Tt ->
   y7 (y6 prog w) A (BR target (Iw scope C env) (.ref P)) (λZ s3=>y7 (y6 prog w) A (Ax elt (Iw scope C env)) (λy s4=>Ex2 λa l'=>An3 (y=.ref a) (Kp ag s4) (St hb tabs C l' ((a,aG [v,.int (-(i:Int)) tk])::Tt) s4.heap)) E' s3) E' ag)
  (hyk:env.scope.kind=.function) (hyl:env.kindOf y=some .local)
  (htgt:Ex3 λes k p=>target=.Tuple es k p)
  (hfree:∀ x∈scope.names,x.2≠.free) (hcell:∀ y∈scope.names,y.2≠.cell) (hkind:scope.kind=.function) (hnames:∀ x∈scope.names,x.2=.local->scope.names.lookup x.1=some .local)
  (hsw:FO (.ListComp elt [⟨target,iter,[],0⟩] scope pos) (some (.Name y py)) spos.line env=AA true:=by rfl) (hs:∀ x,CX iter env x=AA x:=by intro Z;rfl) :
  y7 (y6 prog w) A (z5 (.Assign [.Name y py] (.ListComp elt [⟨target,iter,[],0⟩] scope pos) spos::rest) env) Q E s:=by
 refine z9 ?_
 rw[IP _ _ _ _ hsw]
 refine y0 (CS (y0 ?_))
 refine y0 (zi (wpAny_comprehension_use (Q:=λZ s'=>y7 (y6 prog w) A (z5 rest env) Q E s') rfl hs hfree hkind hnames (zi h (λxv s₁ z=>?_) λZ Z e=>e))
  (λZ s' hq=>y4 (y4 hq)) λZ Z e=>e)
 obtain⟨l,T,z,TI,TO,ri,it,oi,d,vs,nn,bt,b0,n,rfl,S,hst,hoi,hm,hn,hlen,fin⟩:=z
 refine K0 (S.obj _ m0) (Af (hd:=by size_fits) ?_)
 have ae:=S.push (ap [] 0)
 refine FZ hcell (by intro y hy;simp at hy) (λak eh c9=>?_) hkind
 generalize hD:s₁.heap.objs.size=D at ae
 generalize hC:(s₁.heap.push (ap [] 0)).objs.size=C
 generalize hL:env.locals=L at ae
 obtain⟨oL,r,S4⟩:=ae.enter (L':=C) (l':=[]) (h':=ak) hC.symm (Fm.of_ns (by rw[<- hC];exact eh) (zm _) C9) (λb o e=>c9.extBut b o (Ag (AL e)) (zC _ e))
 have S5:St hb tabs C [] ((z,jQ .none TI TO)::(TO,aG [bt,b0])::(TI,aG [.ref ri,.ref it])::(ri,iD (-((0:Nat):Int)) ((n:Int) - ((0:Nat):Int)) (-1))::(it,oi)::(D,ap (gB []) 0)::(L,oL)::([]++T)) ak:=by
  have e:iD (-((0:Nat):Int)) ((n:Int) - ((0:Nat):Int)) (-1)=iD 0 (n:Int) (-1):=by simp
  exact S4.perm (by
   exact ((zM (l₁:=[(L,oL),(D,ap [] 0)]) (l₂:=[(z,jQ .none TI TO),(TO,aG [bt,b0]),(TI,aG [.ref ri,.ref it]),(ri,iD 0 (n:Int) (-1)),(it,oi)])).append_right T).trans
    ((Ed [(z,jQ .none TI TO),(TO,aG [bt,b0]),(TI,aG [.ref ri,.ref it]),(ri,iD 0 (n:Int) (-1)),(it,oi)] (z8 _ _ _)).append_right T))
 have loop:∀ ag:zc,ag=(wht s₁ ak (s₁.toks+([]:LV).length)) ->
   zW (y6 prog w) A (.compLoop (.ListComp elt [⟨target,iter,[],0⟩] scope pos) 0 (.ref z) (.ref D) (Iw scope C env))
    (λr s'=>match r with
     | .ok _=>y7 (y6 prog w) A (BR (.Name y py) env (.ref D)) (λZ s''=>∃ m,s''.heap.Ns C m/\∀ h',BZ C s''.heap h'->y7 (y6 prog w) A (z5 rest env) Q E (wh s'' h')) E s'
     | .error x=>∃ m,s'.heap.Ns C m/\∀ h',BZ C s'.heap h'->y7 (y6 prog w) A (passOn "comprehension.variables-let-go" x (Iw scope C env)) (λ(_:Value) s'=>y7 (y6 prog w) A (z5 rest env) Q E s') E (wh s' h')) ag:=by
  rintro ag rfl
  let H:Nat->zc->Prop:=λk s'=>Ex8 λi ps c X a b oi' l'=>An7 (St hb tabs C l' ((z,jQ .none TI TO)::(TO,aG [a,b])::(TI,aG [.ref ri,.ref it])::(ri,iD (-((i:Nat):Int)) ((n:Int) - ((i:Nat):Int)) (-1))::(it,oi')::(D,ap (gB ps) c)::(L,oL)::(X++T)) s'.heap) (ZkOk X vs ps) (ps.length=i) (bY oi' d i) (Kp s₁ s') (i<=n) (k=n - i)
  refine ly H ?_ n
   ⟨0,[],0,[],bt,b0,oi,[],S5,(λj p e=>by simp at e),rfl,hoi,⟨rfl,id⟩,zD _,rfl⟩
  rintro k s' ⟨i,ps,c,X,a,b,oi',l',S',hZ,hps,hoi',hKp,hi,rfl⟩
  have hd':(d,ap vs nn)∈(D,ap (gB ps) c)::(L,oL)::(X++T):=aj (aj (y5 _ hm))
  by_cases hlt:i<n
  ·have hx:vs[i]? = some (vs.getD i .none):=by
    have:i<vs.length:=zgf hn hlt
    simp[this]
   refine u6 S' hoi' hd' hx (zj6 hlt) λP oi2 au di S6=>?_
   obtain⟨es,kk,pp,rfl⟩:=htgt
   refine zp_go 1 S6 rfl λax S7=>(zi (turn C _ _ P i (vs.getD i .none) s'.toks _ ((S7.forget (KW _)):St hb tabs C [] _ (Hj (wht s' ax (s'.toks+1)))) (.head _)) (λZ s6 z6=>zi z6 (λy s7 z7=>?_) λZ Z e=>e) λZ Z e=>e)
   obtain⟨ad,l'',rfl,K8,S8⟩:=z7
   refine cA 7 S8 rfl ?_ (by simp[gB];exact zj7 hn hlen hps hlt)
   intro bf S9
   have e1:(-((i:Nat):Int))+(-1) = -(((i+1:Nat)):Int):=zj8
   have e2:((n:Int) - ((i:Nat):Int)) - 1=(n:Int) - ((i+1:Nat):Int):=zbm
   have e3:gB ps++[AW ad]=gB (ps++[(ad,s'.toks)]):=by simp[gB]
   rw[e1,e2] at S9
   refine⟨n - (i+1),by exact z8t hlt,i+1,ps++[(ad,s'.toks)],c+1,(ad,aG [vs.getD i .none,.int (-(i:Int)) s'.toks])::(P,aG [.int (-(i:Int)) s'.toks,vs.getD i .none])::X,.int (-(i:Int)) s'.toks,vs.getD i .none,oi2,l'',S9.perm ?_,?_,by simp[hps],di,⟨K8.os.trans hKp.os,λz=>K8.gens (hKp.gens z)⟩,hlt,rfl⟩
   ·rw[<- e3]
    exact ((zM (l₁:=[_,_]) (l₂:=[_,_,_,_,_,_,_])).append_right (X++T))
   ·intro j p hj
    rcases AP j ps.length with q|q
    ·rw[Dh q] at hj
     exact aj (aj (hZ j p hj))
    ·rw[GB q] at hj
     have:j=ps.length:=by
      have:=(zY.mp hj).1
      simp at this;exact zj9 q this
     subst this
     simp at hj
     subst hj
     rw[hps]
     exact .head _
  ·have hin:i=n:=z8u hi hlt
   subst hin
   refine xo hh (T:=(it,oi')::(D,ap (gB ps) c)::(L,oL)::(X++T)) S' zja λau S6=>?_
   have S7:=S6.perm (T':=(L,oL)::(D,ap (gB ps) c)::(it,oi')::(X++T)) (by
    exact pm21 |>.trans (zP _ (z8 _ _ _)))
   subst hL
   exact jd (s:=(wh s' au)) S7 r (hst D) (λh' tk htk S8=>fin _ D c X oi' ps ⟨hKp.os,hKp.gens⟩ S8 hps hZ hoi') hyk hyl
 subst hC
 subst hD
 have fn:IsZip ak z TI TO .none:=S5.obj _ m0
 exact Iv (loop _ rfl) (K0 fn (loop _ rfl))
theorem eW{l':zh->LV}{elt target iter:Expr}{ifs:List Expr}{scope:DB}{cl:List (zK×zh)}{rest:List Cv}{Q:FP}(hh:A.handled=none)
  (h:y7 (y6 prog w) A (Ax iter env) (λxv s₁=>Ex5 λl T d vs n=>∃ J,srcT prog w A hb tabs target elt ifs scope cl env env.locals l T d vs n J xv s₁/\(∀ D,bU l y (.ref D) (l' D)) /\
   (∀ s' D acc c X,Kp s₁ s'->St hb tabs env.locals (l' D) ((D,ap acc c)::(X++T)) s'.heap->acc.length<=vs.length->J vs.length s'.toks acc X->y7 (y6 prog w) A (z5 rest env) Q E s')) E s)
  (hyk:env.scope.kind=.function) (hyl:env.kindOf y=some .local)
  (htgt:(Ex2 λy p=>target=.Name y p)\/Ex3 λes k p=>target=.Tuple es k p)
  (hclos:FR scope env=AA cl) (hcell:∀ y∈scope.names,y.2≠.cell) (hkind:scope.kind=.function) (hnames:∀ x∈scope.names,x.2=.local->scope.names.lookup x.1=some .local)
  (hsw:FO (.ListComp elt [⟨target,iter,ifs,0⟩] scope pos) (some (.Name y py)) spos.line env=AA true:=by rfl) (hs:∀ x,CX iter env x=AA x:=by intro Z;rfl) :
  y7 (y6 prog w) A (z5 (.Assign [.Name y py] (.ListComp elt [⟨target,iter,ifs,0⟩] scope pos) spos::rest) env) Q E s:=by
 refine z9 ?_
 rw[IP _ _ _ _ hsw]
 refine y0 (CS (y0 ?_))
 refine y0 (zi (HC (use:=some (BR (.Name y py) env)) (Q:=λZ s'=>y7 (y6 prog w) A (z5 rest env) Q E s') rfl hs hclos hkind hnames (zi h (λxv s₁ z=>?_) λZ Z e=>e))
  (λZ s' hq=>y4 (y4 hq)) λZ Z e=>e)
 obtain⟨l,T,d,vs,n,J,⟨rfl,S,hm,hlen,hJ0,hmono,GF⟩,hst,fin⟩:=z
 exact lx (RR:=λacc C=>compPost (y6 prog w) A E (some (BR (.Name y py) env)) (λZ s'=>y7 (y6 prog w) A (z5 rest env) Q E s') acc C) hh S hm hlen hJ0 hmono GF htgt hcell hkind (λC D oL s' acc c X lc hKp r S7 hacc hJ=>jd (s:=s') S7 r (hst D) (λh' tk htk S8=>fin _ D acc c X ⟨hKp.os,hKp.gens⟩ S8 hacc (hmono _ _ _ _ _ htk hJ)) hyk hyl)
theorem iM{l':zh->LV}{elt target iter:Expr}{ifs:List Expr}{scope:DB}{cl:List (zK×zh)}{rest:List Cv}{Q:FP}(hh:A.handled=none)
  (h:y7 (y6 prog w) A (Ax iter env) (λxv s₁=>Ex5 λl T d vs n=>∃ J,srcF prog w A hb tabs target elt ifs scope cl env env.locals l T d vs n J xv s₁/\(∀ D,bU l y (.ref D) (l' D)) /\
   (∀ s' D acc c X,Kp s₁ s'->St hb tabs env.locals (l' D) ((D,ap acc c)::(X++T)) s'.heap->acc.length<=vs.length->J vs.length acc X->y7 (y6 prog w) A (z5 rest env) Q E s')) E s)
  (hyk:env.scope.kind=.function) (hyl:env.kindOf y=some .local)
  (htgt:(Ex2 λy p=>target=.Name y p)\/Ex3 λes k p=>target=.Tuple es k p)
  (hclos:FR scope env=AA cl) (hcell:∀ y∈scope.names,y.2≠.cell) (hkind:scope.kind=.function) (hnames:∀ x∈scope.names,x.2=.local->scope.names.lookup x.1=some .local)
  (hsw:FO (.ListComp elt [⟨target,iter,ifs,0⟩] scope pos) (some (.Name y py)) spos.line env=AA true:=by rfl) (hs:∀ x,CX iter env x=AA x:=by intro Z;rfl) :
  y7 (y6 prog w) A (z5 (.Assign [.Name y py] (.ListComp elt [⟨target,iter,ifs,0⟩] scope pos) spos::rest) env) Q E s :=
 eW (hb:=hb) (tabs:=tabs) (l':=l') hh (zi h (λxv s₁ z=>by obtain⟨l,T,d,vs,n,J,⟨e,S,hm,hlen,hJ0,GF⟩,hst,fin⟩:=z;exact⟨l,T,d,vs,n,λi Z acc X=>J i acc X,⟨e,S,hm,hlen,hJ0,λZ Z Z Z Z Z h=>h,GF⟩,hst,fin⟩) λZ Z e=>e) hyk hyl htgt hclos hcell hkind hnames hsw hs
end
section
open PySem.Spec
noncomputable def mkH:List (zh×AQ)->List Sc->Nat->List HI
 | p::ps,e::es,j=>⟨p.1,e,-(j:Int),p.2⟩::mkH ps es (j+1)
 | _,_,_=>[]
theorem mZ:∀ (ps:List (zh×AQ)) (es:List Sc) (j:Nat),ps.length<=es.length->bE (mkH ps es j)=gB ps
 | [],_,_,_=>rfl
 | p::ps,[],_,h=>by simp at h
 | p::ps,e::es,j,h=>by
  have:=mZ ps es (j+1) (by simpa using h)
  show AW p.1::bE (mkH ps es (j+1))=.ref p.1::gB ps
  rw[this]
theorem uM:∀ (ps:List (zh×AQ)) (es:List Sc) (j:Nat),ps.length<=es.length->(mkH ps es j).map (·.e)=es.take ps.length
 | [],_,_,_=>rfl
 | p::ps,[],_,h=>by simp at h
 | p::ps,e::es,j,h=>by
  have:=uM ps es (j+1) (by simpa using h)
  show e::(mkH ps es (j+1)).map (·.e)=e::es.take ps.length
  rw[this]
theorem qy:∀ (ps:List (zh×AQ)) (es:List Sc) (j:Nat),∀ h∈mkH ps es j,-((j:Int)+ps.length)<=h.ord/\h.ord<=0
 | [],_,_,h,hm=>by cases hm
 | p::ps,[],_,h,hm=>by cases hm
 | p::ps,e::es,j,h,hm=>by
  rcases za.mp hm with rfl|hm
  ·constructor
   ·show -((j:Int)+(p::ps).length)<=-(j:Int)
    simp only[zL];exact z2g
   ·show -(j:Int)<=0
    exact z2h
  ·have:=qy ps es (j+1) h hm
   exact z2j this.1 this.2
theorem uL{X:LO}:∀ (ps:List (zh×AQ)) (es:List Sc) (j:Nat),(∀ k p,ps[k]? = some p->(p.1,aG [(aB es).getD k .none,.int (-(((j+k:Nat)):Int)) p.2])∈X)->HOk X (mkH ps es j)
 | [],_,_,_=>λh hm=>by cases hm
 | p::ps,[],_,_=>λh hm=>by cases hm
 | p::ps,e::es,j,hX=>λh hm=>by
  rcases za.mp hm with rfl|hm
  ·exact hX 0 p rfl
  ·refine uL ps es (j+1) (λk q hq=>?_) h hm
   have:=hX (k+1) q (by simpa using hq)
   have e1:j+(k+1)=j+1+k:=z2i
   rw[e1] at this
   exact this
section
variable{T:LO}{l:LV}{Es:List Sc}{n:Nat}{ob:AR}
noncomputable abbrev nmH (L' res I D:zh) (n sz:Nat) (tn ts:AQ):LV:=[(yZ "result", .ref D),(yZ "it", .ref I),(yZ "size", .int sz ts),(yZ "n", .int n tn),(yZ "iterable", .ref res)]
theorem sJ(G:GK w hb)(hd:A.depth+10<zj)(hu:A.units+100<AB)(hh:A.handled=none)(hm:(res,ap (aB Es) nr)∈T)(hS:SXk T Es)(hT:kK Es)(hl:Es.length<=60)(hR:kL rk Es)
  (hn0:0<n) (hn:n<Es.length) (hob:ob.data=.cell (some .none)) {Q:FP}
  (S:St hb tabs L' [(yZ "size", .int Es.length ts),(yZ "n", .int n tn),(yZ "iterable", .ref res)] ((L'+1,ob)::(L,oL)::T) s.heap)
  (k:∀ (s':zc) (X:LO) (I D:zh) (oi:AR) (c:Nat) (Hs:List HI) {Q':FP},(∀ f s',(match f with|.next=>False|f=>Q f s')->Q' f s')->Kp s s'->bY oi res n->HOk X Hs->gQ rk Es n n Hs [] (-(n:Int)) ->
   St hb tabs L' (nmH L' res I D n Es.length tn ts) ((D,ap (bE Hs) c)::(I,oi)::(X++((L'+1,ob)::(L,oL)::T))) s'.heap ->
   y7 (y6 pw w) (A.deeper (dP w L')) (z5 (nlB.drop 4) (dP w L')) Q' E s') :
  y7 (y6 pw w) (A.deeper (dP w L')) (z5 ((aD (st1 pw 8)).drop 2) (dP w L')) Q E s:=by
 refine dB (bI S (.head _) hob (BA (L3 (zb ⟨λZ=>?_,nofun⟩))))
 refine aC (oN G S jO (aln (env:=zB (aO w.params) L' 280) S m2 (pU S (aj (aj hm)) ?_)))
 refine λI ai ah=>aT (env:=zB (aO w.params) L' 280) ah (.new (by kernel_rfl)) ?_
 intro am af
 have hrf:=pK ⟨n,by exact z2k hl hn⟩
 refine qf (l':=λD=>nmH L' res I D n Es.length tn ts) (hb:=hb) (tabs:=tabs) hh ?_ ?turn rfl rfl ⟨_,_,_,rfl⟩ (by decide) (by decide) rfl (by decide)
 case turn =>
  refine λC Tt s3 P i v tk E' ae hP=>cH hh ae hP (λau S4=>ib (env:=Iw _ C _) S4 (.new (by kernel_rfl)) (λax S5=>ib (env:=Iw _ C _) S5 (.new (by kernel_rfl)) (λaz S6=>cD (bP (al (env:=Iw _ C _) S6 m0 (aln (env:=Iw _ C _) S6 m1 ⟨rfl,_,_,_,_,_,S6,?_⟩))))))
  exact λa ba S7=>⟨a,_,rfl,⟨rfl,id⟩,S7⟩
 refine uW G af ru (args_cons (uW G af cK (args_cons (wpAny_Constant_int (args_cons (Nx (ay (env:=zB (aO w.params) L' 280) af m2 ?_)))))))
 refine M0 (args_cons (Nx (wpAny_Constant_int (M0 (zq (mQ af (by decide) (PyProof.noPylong_small (by decide)) ?_))))))
 refine λr ak ae=>aln (env:=zB (aO w.params) L' 280) ae m0 (xn (d:=res) (i:=0) ae m0 m1 ⟨rfl,rfl⟩ hrf.1 ?_)
 intro z TI TO ri au S4
 rw[hrf.2] at S4
 obtain⟨ro,S5⟩:∃ ro:AR,St hb tabs L' [(yZ "it", .ref I),(yZ "size", .int Es.length ts),(yZ "n", .int n tn),(yZ "iterable", .ref res)] ((z,jQ .none TI TO)::(TO,aG [.none,.none])::(TI,aG [.ref ri,.ref I])::(ri,iD 0 (n:Int) (-1))::(I,gW res 0)::((r,ro)::(L'+1,ob)::(L,oL)::T)) au :=
  ⟨_,S4.perm (zP _ (zP _ (zP _ (zP _ (z8 _ _ _)))))⟩
 refine⟨_,_,z,TI,TO,ri,I,gW res 0,res,aB Es,nr,.none,.none,n,rfl,S5,(λD=>.new (by kernel_rfl)),⟨rfl,rfl⟩,(aj (aj (aj hm))),by rw[aJ];exact z2f hn,by rw[aJ];exact up 940 hl,?_⟩
 intro s6 D c X oi' ps K6 S6 hps hZ hoi'
 replace K6:Kp s s6:=⟨K6.os,K6.gens⟩
 have hpl:ps.length<=Es.length:=z2l hn hps
 have hHr:=mZ ps Es 0 hpl
 have hHe:=uM ps Es 0 hpl
 have hHo:=qy ps Es 0
 have hHk:HOk X (mkH ps Es 0):=uL ps Es 0 λk p hp=>by
  rw[Fk]
  exact hZ k p hp
 rw[<- hHr] at S6
 generalize mkH ps Es 0=Hs at S6 hHr hHe hHo hHk
 have hHl:Hs.length=n:=by
  have:=congrArg CE hHr
  rw[bA] at this
  simpa [gB,hps] using this
 have hHE:∀ h∈Hs,h.e∈Es:=λh hm=>by
  have:h.e∈Hs.map (·.e):=zd.mpr ⟨h,hm,rfl⟩
  rw[hHe] at this
  exact AI this
 have hO:un Hs:=λh hm=>by
  have:=hHo h hm
  exact z2m hl hn hps this.1 this.2
 refine lQ (isTrue_not (B3 (ay (env:=zB (aO w.params) L' 280) S6 m0 (mP S6 m0 (by rw[bA];exact z2n hl hn hHl) λtk=>⟨λhb'=>?_,λhb'=>?_⟩))))
 ·exfalso
  have e1:bE Hs=[]:=by simpa using hb'
  have:(bE Hs).length=0:=by rw[e1];rfl
  rw[bA] at this
  exact z2o hn0 hHl this
 refine aE (bR (bV (cG G S6 (v:=.builtin "_heapq.heapify") (by kernel_rfl) (aH (aln (env:=zB (aO w.params) L' 280) S6 m0 ?_)))))
 have hSX:SXk ((I,oi')::(X++((r,ro)::(L'+1,ob)::(L,oL)::T))) Es:=hS.mono λp hp=>aj (y5 _ (aj (aj (aj hp))))
 have hHX:HOk ((I,oi')::(X++((r,ro)::(L'+1,ob)::(L,oL)::T))) Hs:=λh hm=>aj (y8 _ (hHk h hm))
 have hkey:∀ h∈Hs,kj rk Hs (.ref h.a)=fQ rk h:=λh hm=>ki (λh hm=>S6.obj _ (aj (hHX h hm))) (λe he=>S6.sc ((hSX.mono λp hp=>aj hp) e he)) hHE hm
 refine pV (key:=kj rk Hs) S6 (by rw[bA];exact z2n hl hn hHl) (qH G (by show A.units+3+10<AB;exact dn 87 hu) hSX hT hR hHE hHX hO hkey) ?_
 intro s7 vs' c' K7 fo hh7 S7
 obtain⟨Hs',rfl,hp'⟩:=bO _ fo
 have hkey':∀ h∈Hs',kj rk Hs (.ref h.a)=fQ rk h:=λh hm=>hkey h (hp'.mem_iff.mp hm)
 rw[bA] at hh7
 have hl':Hs'.length=n:=by rw[hp'.length_eq];exact hHl
 refine k s7 (X++[(r,ro)]) I D oi' c' Hs' (λf s' z=>by cases f<;> first|exact z|exact z.elim) (kt K6 K7) hoi' (λh hm=>y8 _ (hHk h (hp'.mem_iff.mp hm))) ⟨hl',λh hm=>hHE h (hp'.mem_iff.mp hm),λh hm=>hO h (hp'.mem_iff.mp hm),?_,?_,(zm _),by exact z2h,by exact z2q⟩ ?_
 ·rw[Aq,<- hps,<- hHe]
  exact hp'.map _
 ·rw[<- hHl]
  exact hh7.congr λi hi=>fG hkey' (z2r hHl hl' hi)
 ·rw[zx]
  exact S7
end
section
variable{tabs:List zh}{l:LV}{T:LO}{vs:List Value}{n:Nat}
theorem gu{t:AQ}{x:Value}{Q:VP}(S:St hb tabs L l T s.heap)(hm:(d,ap (x::vs) n)∈T)(hz:vs.length<=900)(h:Q x s):y7 (y6 prog w) A (Dg (.ref d) (.int 0 t)) Q E s :=
 gL (k:=0) S hm (by simp;exact up 99 hz) rfl h
theorem qL{t:AQ}{x:Value}{Q:VP}(S:St hb tabs L l T s.heap)(hm:(d,aG (x::vs))∈T)(hz:vs.length<=900)(h:Q x s):y7 (y6 prog w) A (Dg (.ref d) (.int 0 t)) Q E s :=
 tE (k:=0) S hm (by simp;exact up 99 hz) rfl h
theorem yO{x:zK}{v:Value}{Q:VP}(S:St hb tabs env.locals l T s.heap)(hv:(x,v)∈l)(h:Q v s)
  (hk:env.scope.kind=.function:=by rfl) (hl:env.kindOf x=some .local:=by rfl):y7 (y6 prog w) A (Nm env x) Q E s:=by
 obtain⟨m,a,b,_⟩:=S.fm.ns
 exact Dp hk hl a (b _ hv) h
theorem qe{e:Expr}{pos:Ej}{rest:List Cv}{Q:FP}(h:y7 (y6 prog w) A (Ax e env) (λZ s'=>y7 (y6 prog w) A (z5 rest env) Q E s') E s)
  (hi:Lj env=false:=by rfl) (hs:FO e none pos.line env=AA false:=by rfl):y7 (y6 prog w) A (z5 (.Expr e pos::rest) env) Q E s :=
 z9 (wpAny_Expr_any h hi hs)
end
section
variable{T T₂ X:LO}{l:LV}{Es:List Sc}{n c:Nat}{Hs:List HI}{outs:List Sc}{ord:Int}{to:AQ}{h₀:HI}{r:List HI}
noncomputable abbrev wc (L' res I D:zh) (n sz:Nat) (tn ts:AQ) (tp:zh) (ord:Int) (to:AQ):LV:=(yZ "_heapreplace", .builtin "_heapq.heapreplace")::(yZ "order", .int ord to)::(yZ "top", .ref tp)::nmH L' res I D n sz tn ts
theorem qI(G:GK w hb)(hu:A.units+100<AB)(hh:A.handled=none)(hS:SXk T₂ Es)(hT:kK Es)(hR:kL rk Es)(hi:i<60){e:Sc}(he:Es[i]? = some e)(hl:Es.length<=60)(hnl:n<=60)
  (J:gQ rk Es n i (h₀::r) outs ord) (hH:HOk X (h₀::r)) {oi':AR} (S:St hb tabs L' (wc L' res I D n Es.length tn ts h₀.e.a ord to) ((I,oi')::(D,ap (bE (h₀::r)) c)::(X++T₂)) s.heap) {Q:FP}
  (k:∀ s' X' c' h' r' outs' ord' to',Kp s s'->gQ rk Es n (i+1) (h'::r') outs' ord'->HOk (X'++X) (h'::r')->St hb tabs L' (wc L' res I D n Es.length tn ts h'.e.a ord' to') ((I,oi')::(D,ap (bE (h'::r')) c')::(X'++X++T₂)) s'.heap->Q .next s')
  {tgt:Expr} (htg:tgt=(stP ((nlB[7]?).getD AF)).2.2.2.2) :
  y7 (y6 pw w) (A.deeper (dP w L')) (BR tgt (dP w L') (.ref e.a)) (λZ ag=>y7 (y6 pw w) (A.deeper (dP w L')) (z5 (aD ((nlB[7]?).getD AF)) (dP w L')) Q E ag) E s:=by
 subst htg
 have heE:e∈Es:=zp he
 have hrl:r.length+1=n:=J.len
 refine rD (env:=zB (aO w.params) L' 280) S (.new (by kernel_rfl)) ?_
 intro ai ah
 have hSX:SXk ((I,oi')::(X++T₂)) Es:=hS.mono λp hp=>aj (y5 _ hp)
 have hHX:HOk ((I,oi')::(X++T₂)) (h₀::r):=λh hm=>aj (y8 _ (hH h hm))
 have hSY:SXk ((I,oi')::(D,ap (bE (h₀::r)) c)::(X++T₂)) Es:=hS.mono λp hp=>aj (aj (y5 _ hp))
 refine dB (ay (env:=zB (aO w.params) L' 280) ah m3 (ay (env:=zB (aO w.params) L' 280) ah m0 ?_))
 have h0E:=J.sub h₀ (.head _)
 refine vI (by show A.units+3+1<AB;exact dn 96 hu) (ah.nb G) hT hR h0E heE (ah.sc (hSY _ h0E)) (ah.sc (hSY _ heE)) (zb ⟨λq=>?_,λq=>?_⟩)
 ·have hlt:=of_decide_eq_true q
  refine qe (bV (ay (env:=zB (aO w.params) L' 280) ah m1 (aH (al (env:=zB (aO w.params) L' 280) ah m4 (args_cons (bP (al (env:=zB (aO w.params) L' 280) ah m0 ?_)))))))
  refine aln (env:=zB (aO w.params) L' 280) ah m2 ⟨rfl,_,_,_,_,_,ah,?_⟩
  refine λna am af=>zq ?_
  have ae:=af.perm (T':=(D,ap (bE (h₀::r)) c)::(na,aG [.ref e.a,.int ord to])::(I,oi')::(X++T₂)) (zM (l₁:=[(na,aG [.ref e.a,.int ord to]),(I,oi')]) (l₂:=[(D,ap (bE (h₀::r)) c)]) |>.append_right (X++T₂))
  generalize hnew:(⟨na,e,ord,to⟩:HI)=new
  have hne:new.e=e:=by rw[<- hnew]
  have hna:new.a=na:=by rw[<- hnew]
  have hno:new.ord=ord:=by rw[<- hnew]
  have hnt:new.ot=to:=by rw[<- hnew]
  have hHE:∀ h∈new::h₀::r,h.e∈Es:=λh hm=>by
   rcases za.mp hm with rfl|hm
   ·rw[hne];exact heE
   ·exact J.sub h hm
  have o0:=J.o0
  have o1:=J.o1
  have hO:un (new::h₀::r):=λh hm=>by
   rcases za.mp hm with rfl|hm
   ·rw[hno];exact z2e hi o0 o1
   ·exact J.ords h hm
  have hSX':SXk ((na,aG [.ref e.a,.int ord to])::(I,oi')::(X++T₂)) Es:=hSX.mono λp hp=>aj hp
  have hHX':HOk ((na,aG [.ref e.a,.int ord to])::(I,oi')::(X++T₂)) (new::h₀::r):=λh hm=>by
   rcases za.mp hm with rfl|hm
   ·rw[hne,hna,hno,hnt];exact .head _
   ·exact aj (hHX h hm)
  have hkey:∀ h∈new::h₀::r,kj rk (new::h₀::r) (.ref h.a)=fQ rk h:=λh hm=>ki (λh hm=>ae.obj _ (aj (hHX' h hm))) (λe he=>ae.sc ((hSX'.mono λp hp=>aj hp) e he)) hHE hm
  have hsub:∀ h∈new::r,h∈new::h₀::r:=λh hm=>by
   rcases za.mp hm with rfl|hm
   ·exact .head _
   ·exact aj (aj hm)
  have eN:bE (new::r)=.ref na::bE r:=by rw[<- hna];rfl
  refine j0 (first:=.ref h₀.a) (rest:=bE r) (key:=kj rk (new::h₀::r)) ae (by simp[bE];exact z2u hnl hrl) (by
   rw[<- eN]
   exact qH G (by show A.units+3+10<AB;exact dn 87 hu) hSX' hT hR (λh hm=>hHE h (hsub h hm)) (λh hm=>hHX' h (hsub h hm)) (λh hm=>hO h (hsub h hm)) (λh hm=>hkey h (hsub h hm))) (by
   have e1:(AW h₀.a::bE r)=bE (h₀::r):=rfl
   rw[e1,bA,show (h₀::r).length=n from J.len]
   exact J.heap.congr λj hj=>(fG (λh hm=>hkey h (aj hm)) (by rw[show (h₀::r).length=n from J.len];exact hj)).symm) ?_
  intro s4 vs' c' K4 hp4 hh4 S4
  rw[<- eN] at hp4 hh4
  obtain⟨Hs',rfl,hp'⟩:=bO _ hp4
  have hl':Hs'.length=n:=by rw[hp'.length_eq];exact J.len
  have hkey':∀ h∈Hs',kj rk (new::h₀::r) (.ref h.a)=fQ rk h:=λh hm=>hkey h (hsub h (hp'.mem_iff.mp hm))
  rw[bA,show (new::r).length=n from J.len] at hh4
  have hheap:aX (oB rk Hs') n 0:=hh4.congr λj hj=>fG hkey' (z2v hl' hj)
  have J':=J.swap he hlt hi hne hno hp' hheap
  have hHX'':HOk ((na,aG [.ref e.a,.int ord to])::(I,oi')::(X++T₂)) Hs':=λh hm=>hHX' h (hsub h (hp'.mem_iff.mp hm))
  have hHk:HOk ((na,aG [.ref e.a,.int ord to])::X) Hs':=λh hm=>by
   rcases za.mp (hp'.mem_iff.mp hm) with rfl|hm
   ·rw[hne,hna,hno,hnt];exact .head _
   ·exact aj (hH h (aj hm))
  match Hs',hl',J',hHX'',hHk,S4 with
  | [],hl',_,_,_,_=>simp at hl';exact z2w hrl hl'
  | h'::r',hl',J',hHX'',hHk,S4 =>
  refine j6 (gU Bg (ay (env:=zB (aO w.params) L' 280) S4 m4 (wpAny_Constant_int ⟨⟨_,S4.obj _ m0,rfl⟩,?_⟩)))
  refine gu (x:=.ref h'.a) (vs:=bE r') S4 m0 (by rw[bA];simp at hl';exact z2x hnl hl') (cH hh S4 (aj (hHX'' h' (.head _))) ?_)
  refine λax S5=>ib (env:=zB (aO w.params) L' 280) S5 (.old (.there (.there (.there .here)))) (λaz S6=>ib (env:=zB (aO w.params) L' 280) S6 (.new (by kernel_rfl)) (λba S7=>cD (xZ (yO (env:=zB (aO w.params) L' 280) S7 m3 (wpAny_Constant_int (PySem.P.isub_int (aT (env:=zB (aO w.params) L' 280) S7 (.old (.there (.there (.there .here)))) ?_)))))))
  refine λbc S8=>aE (aE ?_)
  have S9:=S8.forget (l':=wc L' res I D n Es.length tn ts h'.e.a (ord - 1) _) (.cons _ (.cons _ (Al _)))
  have S10:=S9.perm (T':=(I,oi')::(D,ap (bE (h'::r')) c')::((na,aG [.ref e.a,.int ord to])::X++T₂)) (zM (l₁:=[(D,ap (bE (h'::r')) c'),(na,aG [.ref e.a,.int ord to])]) (l₂:=[(I,oi')]) |>.append_right (X++T₂))
  exact k _ [(na,aG [.ref e.a,.int ord to])] c' h' r' _ (ord - 1) _ ⟨K4.os,K4.gens⟩ J' hHk S10
 ·have hle:rkS rk e<=rkS rk h₀.e:=by have:=of_decide_eq_false q;exact z2y q
  refine aE (aE ?_)
  have af:=ah.forget (l':=wc L' res I D n Es.length tn ts h₀.e.a ord to) (zo _ _)
  exact k _ [] c h₀ r (e::outs) ord to ⟨rfl,id⟩ (J.skip he hle) hH af
end
section
variable{T T₂ X:LO}{l:LV}{Es:List Sc}{n c:Nat}{Hs:List HI}
theorem sI(G:GK w hb)(hu:A.units+100<AB)(hh:A.handled=none)(hm:(res,ap (aB Es) nr)∈T₂)(hS:SXk T₂ Es)(hT:kK Es)(hR:kL rk Es)(hl:Es.length<=60)(hn0:0<n)(hn:n<Es.length)
  (hoi:bY oi res n) (J:gQ rk Es n n Hs [] (-(n:Int))) (hH:HOk X Hs) (S:St hb tabs L' (nmH L' res I D n Es.length tn ts) ((D,ap (bE Hs) c)::(I,oi)::(X++T₂)) s.heap) {Q:FP}
  (k:∀ (s':zc) (Y:LO) (r:zh) (nr':Nat) (P:List Sc) (l':LV),Kp s s'->P.Perm Es->P.Pairwise (λa b=>rkS rk b<=rkS rk a)->St hb tabs L' l' ((r,ap (aB (P.take n)) nr')::(Y++T₂)) s'.heap->Q (.ret (.ref r)) s') :
  y7 (y6 pw w) (A.deeper (dP w L')) (z5 (nlB.drop 4) (dP w L')) Q E s:=by
 rcases Hs with _|⟨h₀,r⟩
 ·have:=J.len;simp at this;exact z2z hn0 this
 have hrl:r.length+1=n:=J.len
 have hHX:HOk ((D,ap (bE (h₀::r)) c)::(I,oi)::(X++T₂)) (h₀::r):=λh hm=>aj (aj (y8 _ (hH h hm)))
 refine aC (gU dT (gU Bg (ay (env:=zB (aO w.params) L' 280) S m0 (wpAny_Constant_int ⟨⟨_,S.obj _ m0,rfl⟩,?_⟩))))
 refine gu (x:=.ref h₀.a) (vs:=bE r) S m0 (by rw[bA];exact z30 hl hn hrl) (wpAny_Constant_int ⟨⟨_,S.obj _ (hHX h₀ (.head _)),rfl⟩,?_⟩)
 refine qL S (hHX h₀ (.head _)) (by simp) (aT (env:=zB (aO w.params) L' 280) S (.new (by kernel_rfl)) ?_)
 refine λai ah=>aC (Nx (ay (env:=zB (aO w.params) L' 280) ah m4 (M0 (aT (env:=zB (aO w.params) L' 280) ah (.new (by kernel_rfl)) ?_))))
 refine λam af=>aC (cG G af (v:=.builtin "_heapq.heapreplace") (by kernel_rfl) (aT (env:=zB (aO w.params) L' 280) af (.new (by kernel_rfl)) ?_))
 refine λak ae=>eY (ay (env:=zB (aO w.params) L' 280) ae m4 ?_)
 obtain⟨tok,S4⟩:∃ tok,St hb tabs L' (wc L' res I D n Es.length tn ts h₀.e.a (-(n:Int)) tok) ((I,oi)::(D,ap (bE (h₀::r)) c)::(X++T₂)) ak:=⟨_,ae.perm (z8 _ _ _)⟩
 refine restate S4 λs4 K4 S4=>(FJ (l:=res) (i:=n) ⟨_,S4.obj _ m0,hoi.1,hoi.2⟩ ?_)
 let H:Nat->LV->LO->Prop:=λi l₁ T1=>Ex7 λh' r' outs ord to c X=>An4 (gQ rk Es n i (h'::r') outs ord) (l₁=wc L' res I D n Es.length tn ts h'.e.a ord to) (T1=(D,ap (bE (h'::r')) c)::(X++T₂)) (HOk X (h'::r'))
 refine wR (d:=res) (vs:=aB Es) (n:=nr) (i₀:=n) (l:=wc L' res I D n Es.length tn ts h₀.e.a (-(n:Int)) tok) (T:=(D,ap (bE (h₀::r)) c)::(X++T₂)) hh
  H S4 hoi (by rw[aJ];exact z2f hn) ⟨h₀,r,[],_,tok,c,X,J,rfl,rfl,hH⟩ (aj (y5 _ hm)) ?_ ?_
 ·rintro E1 i v l₁ T1 c8 s₁ eu hv ⟨h',r',outs,ord,to,c',X',J',rfl,rfl,hH'⟩ hd1 S5 K5
  have hv':∃ e,Es[i]? = some e/\v=.ref e.a:=by
   rw[aB,zE] at hv
   obtain⟨e,h1,h2⟩:=z0.mp hv
   exact⟨e,h1,h2.symm⟩
  obtain⟨e,he,rfl⟩:=hv'
  have hi60:i<60:=by
   have:=(zY.mp he).1
   exact z31 hl this
  refine qI (T₂:=T₂) (X:=X') G hu hh hS hT hR hi60 he hl (z32 hl hn) J' hH' S5 ?_ rfl
  exact λs' X2 bu ec bw outs2 ord2 to2 ao J2 hH2 S2'=>⟨_,_,S2',⟨ec,bw,outs2,ord2,to2,bu,X2++X',J2,rfl,rfl,hH2⟩,aj (y5 _ hm),K5.trans ao⟩
 ·rintro s5 l5 T5 K5 S5 ⟨h',r',outs,ord,to,c',X',J',rfl,rfl,hH'⟩
  replace K5:Kp s s5:=⟨K5.os.trans K4.os,λz=>K5.gens (K4.gens z)⟩
  rw[aJ] at J'
  have hrl':r'.length+1=n:=J'.len
  have hSX:SXk (X'++T₂) Es:=hS.mono λp hp=>y5 _ hp
  have hHX':HOk (X'++T₂) (h'::r'):=λh hm=>y8 _ (hH' h hm)
  refine bR (methodCall_KW (ay (env:=zB (aO w.params) L' 280) S5 m3 (cL S5 m0 Fv Ir (yQ (Ex (Ei (Jt ?_)))))))
  refine Jz Fv ⟨_,S5.obj _ m0,rfl⟩ PySem.F.entry_list_sort ?body (nh D)
  have hkey:∀ h∈h'::r',kj rk (h'::r') (.ref h.a)=fQ rk h:=λh hm=>ki (λh hm=>S5.obj _ (aj (hHX' h hm))) (λe he=>S5.sc ((hSX.mono λp hp=>aj hp) e he)) J'.sub hm
  have hpos:∀ h∈h'::r',0<=fQ rk h+60:=λh hm=>by
   have:=J'.ords h hm
   unfold fQ;exact z33 this.1
  refine iz (κ:=L5 false) (T:=X'++T₂) (λv=>(kj rk (h'::r') v+60).toNat) S5 (by rw[bA];simp;exact z34 hl hn hrl') ?_ ?_ ?_
  ·refine λh2 s' T' Q' E' S' hin hq=>Nw (T:=.type "tuple") (hi_tups λh hm=>S'.obj _ (hin _ (hHX' h hm))) (by simp) (λv hv=>?_) rfl hq
   obtain⟨h,hm,rfl⟩:=zd.mp hv
   exact (Looks.ld (S'.obj _ (hin _ (hSX _ (J'.sub h hm)).1))).andThen .now
  ·intro s' T' K' S' hin x hx y hy C hC
   obtain⟨ai,m1,rfl⟩:=zd.mp hx
   obtain⟨am,m2,rfl⟩:=zd.mp hy
   have p1:=hpos _ m1
   have p2:=hpos _ m2
   rw[hkey _ m1,hkey _ m2] at hC
   refine yA (Es:=Es) (rk:=rk) (by show A.units+3+1+4<AB;exact dn 92 hu) (S'.nb G) hT hR (J'.sub _ m1) (J'.sub _ m2) (S'.sc ((hSX.mono hin) _ (J'.sub _ m1))) (S'.sc ((hSX.mono hin) _ (J'.sub _ m2))) (S'.obj _ (hin _ (hHX' _ m1))) (S'.obj _ (hin _ (hHX' _ m2))) (J'.ords _ m1) (J'.ords _ m2) ?_
   rw[show decide (fQ rk ai<fQ rk am)=decide ((fQ rk ai+60).toNat<(fQ rk am+60).toNat) from decide_eq_decide.mpr (x10 p1)]
   exact hC
  ·intro s6 c6 vs' K6 hp6 hw6 S6
   obtain⟨Hf,rfl,hpf⟩:=bO _ hp6
   replace K6:Kp s s6:=K5.trans K6
   have hsub:∀ h∈Hf,h∈h'::r':=λh hm=>hpf.mem_iff.mp hm
   have hfall:(Hf.map (·.e)).Pairwise λa b=>rkS rk b<=rkS rk a:=by
    rw[AX] at hw6 ⊢
    refine EW ?_ hw6
    intro a b ha hb h
    rw[hkey a (hsub a ha),hkey b (hsub b hb)] at h
    have p1:=hpos _ (hsub a ha)
    have p2:=hpos _ (hsub b hb)
    exact kW (J'.ords _ (hsub b hb)) (J'.ords _ (hsub a ha)) (z37 h p1)
   have hpe:(Hf.map (·.e)++outs).Perm Es:=by
    have:=J'.perm
    rw[z4] at this
    exact ((hpf.map (·.e)).append_right outs).trans this
   obtain⟨P,hP,hPw,hPt⟩:=oY hpe hfall (λo ho e he=>by
    obtain⟨h,hm,rfl⟩:=zd.mp he
    exact J'.below o ho h (hsub h hm))
   have hfl:Hf.length=n:=by rw[hpf.length_eq];exact J'.len
   rw[ze,hfl] at hPt
   refine⟨_,rfl,?_⟩
   refine cO (jD (hb:=hb) (tabs:=tabs) hh ?_ (.inr ⟨_,_,_,rfl⟩) rfl (by decide) rfl (by decide))
   refine ay (env:=zB (aO w.params) L' 280) S6 m3 ⟨L',_,_,D,bE Hf,c6,λi acc X=>X=[]/\acc=(aB (P.take n)).take i,rfl,by exact S6,m0,?_,⟨rfl,rfl⟩,?_,?_⟩
   ·rw[bA];exact z2n hl hn hfl
   ·rintro C' D' oL' E' i v acc c X'' own ag hi hacc ⟨rfl,hJ⟩ bp ao af
    have hv:∃ h,Hf[i]? = some h/\v=.ref h.a:=by
     rw[bE,zE] at hi
     obtain⟨h,h1,h2⟩:=z0.mp hi
     exact⟨h,h1,h2.symm⟩
    obtain⟨h,he,rfl⟩:=hv
    have hm:=hHX' h (hsub h (zp he))
    refine cH hh af (y8 _ (aj (aj (aj hm)))) (λak ae=>ib (env:=At _ [] C' _) ae (.new (by kernel_rfl)) (λau S4=>ib (env:=At _ [] C' _) S4 (.new (by kernel_rfl)) (λax S5=>cD (ay (env:=At _ [] C' _) S5 m1 ⟨[],_,⟨ao.os,ao.gens⟩,S5,rfl,?_⟩))))
    have e2:(aB (P.take n))[i]? = some (.ref h.e.a):=by
     rw[hPt]
     unfold aB
     rw[zE,zE,he];rfl
    rw[Am,e2,hJ]
    simp
   ·rintro s7 D' acc c7 X'' K7 S7 hl7 ⟨rfl,rfl⟩
    have e3:(aB (P.take n)).take (bE Hf).length=aB (P.take n):=by
     rw[C5]
     rw[aJ,bA,Bh,hfl]
     exact z38
    rw[e3] at S7
    exact k s7 ((D,ap (bE Hf) c6)::X') D' c7 P _ (K6.trans K7) hP hPw S7
end
noncomputable def pL(rk:UInt64->List zK->Nat)(Es:List Sc):Value->Nat
 | .ref a=>((Es.find? λe=>e.a==a).map (rkS rk)).getD 0
 | _=>0
theorem ig{rk:UInt64->List zK->Nat}{Es:List Sc}{hp:AJ}(hE:∀ e∈Es,ScH hp e){e:Sc}(hm:e∈Es):pL rk Es (.ref e.a)=rkS rk e:=by
 show ((Es.find? λe'=>e'.a==e.a).map (rkS rk)).getD 0=rkS rk e
 cases hf:Es.find? λe'=>e'.a==e.a with
 | none=>exact absurd (Fa.mp hf e hm) (by simp)
 | some e' =>
  have ha:e'.a=e.a:=by simpa using ID hf
  obtain⟨s1,s2⟩:=jW (hE _ (EL hf)) (hE _ hm) ha
  show rkS rk e'=rkS rk e
  unfold rkS
  rw[s1,s2]
theorem nl_c{w:As}{hb:AJ}(G:GK w hb):NLC w hb:=by
 intro A s L l T R res Es nr n tn rk S hd hu hh hm hS0 hT hX hl hn0 hR k
 have hS:SXk T Es:=λe he=>⟨hS0 e he,hX e he⟩
 have hrkv:∀ e∈Es,pL rk Es (.ref e.a)=rkS rk e:=λe he=>ig (λe he=>S.sc (hS e he)) he
 by_cases h1:n=1
 ·subst h1
  exact x7 G S hd hu hh hm hS hT hl hR (pL rk Es) hrkv k
 ·refine we G S hd hu hh hm hl h1 ?_ ?_
  ·refine λhge L' s₁ oL ob ts Q E' hq r hob ar ah=>x8 G hu hm hS hT hl hR (pL rk Es) hrkv hob ah (λag X d P ao hP hw af=>hq _ _ ?_)
   have ae:=af.perm (T':=(L,oL)::(d,ap (aB (P.take n)) 0)::((X++[(L'+1,ob)])++T)) (by
    have e:(d,ap (aB (P.take n)) 0)::(X++((L'+1,ob)::(L,oL)::T))=((d,ap (aB (P.take n)) 0)::(X++[(L'+1,ob)]))++((L,oL)::T):=by simp
    rw[e]
    exact zv)
   exact k ag (X++[(L'+1,ob)]) d 0 P (ar.trans ao) (ae.leave 0 rfl r) hP hw
  ·refine λhlt L' s₁ oL ob ts r hob ar ah=>sJ G (dn 10 hd) hu hh hm hS hT hl hR hn0 hlt hob ah (λag X I D oi c Hs Q' hq ao hoi hH J af=>sI G hu hh (aj (aj hm)) (hS.mono λp hp=>aj (aj hp)) hT hR hl hn0 hlt hoi J hH af (λs3 Y d nr' P l' aw hP hw ae=>hq _ _ ?_))
   have S4:=ae.perm (T':=(L,oL)::(d,ap (aB (P.take n)) nr')::((Y++[(L'+1,ob)])++T)) (by
    have e:(d,ap (aB (P.take n)) nr')::(Y++((L'+1,ob)::(L,oL)::T))=((d,ap (aB (P.take n)) nr')::(Y++[(L'+1,ob)]))++((L,oL)::T):=by simp
    rw[e]
    exact zv)
   exact k s3 (Y++[(L'+1,ob)]) d nr' P ((ar.trans ao).trans aw) (S4.leave 0 rfl r) hP hw
end
noncomputable def shL:List UInt64:=[0,4593971859893063953,4594314991293244562,4594710912139606804,4595172819793696085,4595718710657619782,4596373779694328218,4597174419628082972,4598175219545276416,4598475459520434449,4598818590920615058,4599214511766977300,4599676419421066581,4600222310284990278,4600877379321698714,4601392076421969627,4601678019255453468,4601985957691512990,4602678819172646912,4602979059147804945,4603088237320589684,4603322190547985554,4603579539098121011,4603718111394347796,4604180019048437077,4604608933298662839,4604725909912360774,4604930618986332160,4605103834356615641,4605380978949069210,4605681218924227243,4605895676049340123,4606181618882823964,4606363582504131863,4607182418800017408]
noncomputable def geF(c f:UInt64):Bool:=zZ f c==some Ordering.gt || zZ f c==some Ordering.eq
noncomputable def geI(f:UInt64):Bool:=CB f 0==some Ordering.gt || CB f 0==some Ordering.eq
theorem w5:(shL.all λa=>shL.all λb=>zZ a b==some (compare a.toNat b.toNat))=true:=by decide +kernel
theorem tY:(shL.all λa=>geI a)=true:=by decide +kernel
theorem pu:((zQ 16).all λn=>(zQ 6).all λm=>!(decide (2 * m<=n)) || shL.contains (bK m n))=true:=by decide +kernel
theorem jq:((zQ 16).all λn=>(zQ 6).all λm=>(zQ 6).all λk=>!(decide (2 * k<=n)) || !(decide (m<=k)) || decide ((bK m n).toNat<=(bK k n).toNat))=true:=by decide +kernel
noncomputable def hit(la lb:List zK)(k i j:Nat):Bool:=decide ((la.drop i).take k=(lb.drop j).take k)
noncomputable def cmJ(la lb:List zK)(k i:Nat):Option Nat:=(zQ (lb.length - k+1)).find? (hit la lb k i)
noncomputable def cmI(la lb:List zK)(k:Nat):Option (Nat×Nat):=(zQ (la.length - k+1)).findSome? λi=>(cmJ la lb k i).map λj=>(i,j)
noncomputable def cmS(la lb:List zK):Nat->Option (Nat×Nat×Nat)
 | 0=>none
 | k+1=>match cmI la lb (k+1) with
  | some (i,j)=>some (i,j,k+1)
  | none=>cmS la lb k
noncomputable def cm:Nat->List zK->List zK->Nat
 | 0,_,_=>0
 | f+1,la,lb=>match cmS la lb (L8 la.length lb.length) with
  | none=>0
  | some (i,j,k)=>k+cm f (la.take i) (lb.take j)+cm f (la.drop (i+k)) (lb.drop (j+k))
theorem w6{la lb:List zK}{k:Nat}:cmS la lb (k+1)=match cmI la lb (k+1) with|some (i,j)=>some (i,j,k+1)|none=>cmS la lb k:=rfl
theorem cm_s{f:Nat}{la lb:List zK}:cm (f+1) la lb=match cmS la lb (L8 la.length lb.length) with|none=>0|some (i,j,k)=>k+cm f (la.take i) (lb.take j)+cm f (la.drop (i+k)) (lb.drop (j+k)):=rfl
theorem ny{p:Nat->Bool}{m j:Nat}(hj:j<m)(h:p j=true)(hb:∀ i<j,p i=false):(zQ m).find? p=some j:=by
 rw[List.find?_range_eq_some]
 exact⟨h,zV.mpr hj,λi hi=>by rw[hb i hi];rfl⟩
theorem ma{p:Nat->Bool}{m:Nat}(hb:∀ i<m,p i=false):(zQ m).find? p=none:=by
 rw[Fa]
 intro i hi
 rw[hb i (zV.mp hi)]
 decide
theorem mK{α:Type}{f:Nat->Option α}{m i:Nat}{a:α}(hi:i<m)(h:f i=some a)(hb:∀ i'<i,f i'=none):(zQ m).findSome? f=some a:=by
 obtain⟨d,rfl⟩:=Nat.exists_eq_add_of_lt hi
 rw[show i+d+1=i+(1+d) by exact zgz,List.range_add,List.findSome?_append]
 have e:(zQ i).findSome? f=none:=G0.mpr λx hx=>hb x (zV.mp hx)
 rw[e,Option.none_or,List.findSome?_map,show 1+d=d+1 by exact zh0,List.range_succ_eq_map,List.findSome?_cons]
 simp[h]
theorem pe{α:Type}{f:Nat->Option α}{m:Nat}(hb:∀ i'<m,f i'=none):(zQ m).findSome? f=none:=G0.mpr λx hx=>hb x (zV.mp hx)
theorem ux(k:Nat):∀ i j:Nat,(∀ t,t<k->eK la lb (i - t) (j - t)=true)->alo+k<=i+1->blo+k<=j+1->k<=sfx la lb alo blo i j:=by
 induction k with
 | zero=>exact λZ Z Z Z Z=>zD _
 | succ k ih =>
  intro i j h hi hj
  rw[jT (by have:=h 0 z64;exact this)]
  cases k with
  | zero=>exact zh1
  | succ k =>
   rw[pv,if_pos ⟨by exact zh2 hi,by exact zh2 hj⟩]
   refine C8 (ih (i - 1) (j - 1) (λt ht=>?_) (zh8 hi) (zh8 hj))
   have:=h (t+1) (zhd ht)
   rw[show i - 1 - t=i - (t+1) by exact zhe,show j - 1 - t=j - (t+1) by exact zhe]
   exact this
def lexL(a b:Nat×Nat):Prop:=a.1<b.1\/(a.1=b.1/\a.2<b.2)
theorem kU(i:Nat):(fU la lb blo bhi i).Pairwise (· < ·):=by
 unfold fU
 split
 ·unfold xl bN
  exact ((Ft).filter _).filter _
 ·exact Ku
theorem lA:(cells la lb alo ahi blo bhi).Pairwise lexL:=by
 unfold cells
 rw[List.pairwise_flatMap]
 refine⟨λi hi=>?_,?_⟩
 ·rw[AX]
  exact (kU i).imp λh=>.inr ⟨rfl,h⟩
 ·refine (List.pairwise_lt_range' (s:=alo) (n:=ahi - alo)).imp ?_
  intro a b hab x hx y hy
  obtain⟨j,_,rfl⟩:=zd.mp hx
  obtain⟨j',_,rfl⟩:=zd.mp hy
  exact .inl hab
theorem qW(hk:0<(flm la lb alo ahi blo bhi).2.2){i j:Nat}(hi:alo<=i)(hi2:i+(flm la lb alo ahi blo bhi).2.2<=ahi)(hj:blo<=j)(hj2:j+(flm la lb alo ahi blo bhi).2.2<=bhi)
  (run:∀ t,t<(flm la lb alo ahi blo bhi).2.2->eK la lb (i+t) (j+t)=true) :
  (flm la lb alo ahi blo bhi).1<i\/((flm la lb alo ahi blo bhi).1=i/\(flm la lb alo ahi blo bhi).2.1<=j):=by
 rw[qV] at hk hi2 hj2 run ⊢
 have inv:=qS (λc:Nat×Nat=>sfx la lb alo blo c.1 c.2) (cells la lb alo ahi blo bhi) [] (none,0) ⟨nofun,rfl⟩
 rw[Dm] at inv
 generalize fmx (λc:Nat×Nat=>sfx la lb alo blo c.1 c.2) (cells la lb alo ahi blo bhi) (none,0)=o at inv hk hi2 hj2 run
 obtain⟨o,k⟩:=o
 have h2:=inv.2
 cases o with
 | none =>
  replace h2:k=0:=h2
  subst h2
  exact absurd hk (Ao _)
 | some c =>
  obtain⟨ci,cj⟩:=c
  obtain⟨hf,hk',pre,post,hc,hp⟩:=h2
  replace hf:sfx la lb alo blo ci cj=k:=hf
  replace hk:0<k:=hk
  replace hi2:i+k<=ahi:=hi2
  replace hj2:j+k<=bhi:=hj2
  replace run:∀ t,t<k->eK la lb (i+t) (j+t)=true:=run
  show ci+1 - k<i\/(ci+1 - k=i/\cj+1 - k<=j)
  have hge:k<=sfx la lb alo blo (i+k - 1) (j+k - 1):=by
   refine ux k _ _ (λt ht=>?_) (zh9 hi) (zh9 hj)
   have:=run (k - 1 - t) (zhf hk')
   rw[show i+k - 1 - t=i+(k - 1 - t) by exact zhi ht,show j+k - 1 - t=j+(k - 1 - t) by exact zhi ht]
   exact this
  have hm:(i+k - 1,j+k - 1)∈cells la lb alo ahi blo bhi:=gk.mpr ⟨⟨by exact zhl hi hk',by exact zhm hk' hi2⟩,by
   have:=run (k - 1) (zfl hk')
   rw[show i+k - 1=i+(k - 1) by exact zho hk',show j+k - 1=j+(k - 1) by exact zho hk']
   exact this,by exact zhl hj hk',by exact zhm hk' hj2⟩
  have hcm:(ci,cj)∈cells la lb alo ahi blo bhi:=by rw[hc];exact y5 _ (.head _)
  have hcm2:=gk.mp hcm
  have hb1:k<=ci+1 - alo:=by
   rcases pB (la:=la) (lb:=lb) (alo:=alo) (blo:=blo) ci cj with q|q
   ·rw[hf] at q;exact q
   ·exact absurd hcm2.1.1 (Lb q)
  have hb2:k<=cj+1 - blo:=by
   rcases lL (la:=la) (lb:=lb) (alo:=alo) (blo:=blo) ci cj with q|q
   ·rw[hf] at q;exact q
   ·exact absurd hcm2.2.2.1 (Lb q)
  clear hcm hcm2
  have hs:=lA (la:=la) (lb:=lb) (alo:=alo) (ahi:=ahi) (blo:=blo) (bhi:=bhi)
  rw[hc] at hm hs
  rcases zf.mp hm with q|q
  ·have:=hp _ q
   replace this:sfx la lb alo blo (i+k - 1) (j+k - 1)<k:=this
   exact zhr hge this
  ·rcases za.mp q with e|q
   ·cases e
    right
    exact⟨by exact zhs hk,by exact zht hk⟩
   ·have:=(DQ.mp (Jc.mp hs).2.1).1 _ q
    rcases this with z|⟨z1,z2⟩
    ·replace z:ci<i+k - 1:=z
     left;exact zhv hb1 z
    ·replace z1:ci=i+k - 1:=z1
     replace z2:cj<j+k - 1:=z2
     right
     exact⟨by exact zhw hk' z1,by exact zhy z2⟩
noncomputable def sl(l:List zK)(a b:Nat):List zK:=(l.take b).drop a
theorem fT{l:List zK}{a b:Nat}(h:b<=l.length):(sl l a b).length=b - a:=by
 unfold sl
 rw[EJ,Bh];exact zh3 h
theorem mL{l:List zK}{a b i:Nat}(h:a+i<b):(sl l a b)[i]? = l[a+i]?:=by
 unfold sl
 rw[Fd,DA h]
theorem pj{l:List zK}{a b c:Nat}(h1:a<=c)(h2:c<=b):(sl l a b).take (c - a)=sl l a c:=by
 unfold sl
 rw[List.take_drop,List.take_take,show a+(c - a)=c by exact zh4 h1,Iz h2]
theorem pk{l:List zK}{a b c:Nat}(h1:a<=c):(sl l a b).drop (c - a)=sl l c b:=by
 unfold sl
 rw[Jg,show a+(c - a)=c by exact zh4 h1]
theorem lu{i j:Nat}(hi:i<la.length)(hj:j<lb.length):eK la lb i j=true↔la[i]? = lb[j]?:=by
 unfold eK
 rw[zl hi,zl hj]
 show decide (la[i]=lb[j])=true↔_
 rw[decide_eq_true_eq];exact⟨congrArg some,AG⟩
theorem km{k i j:Nat}(ha:ahi<=la.length)(hb:bhi<=lb.length)(hi:alo+i+k<=ahi)(hj:blo+j+k<=bhi) :
  hit (sl la alo ahi) (sl lb blo bhi) k i j=true↔∀ t,t<k->eK la lb (alo+i+t) (blo+j+t)=true:=by
 unfold hit
 rw[decide_eq_true_eq]
 constructor
 ·intro h t ht
  have h2:=congrArg (λl=>l[t]?) h
  simp only[DA ht,Fd] at h2
  rw[mL (by exact zh5 hi ht),mL (by exact zh5 hj ht)] at h2
  rw[lu (by exact zhb ha hi ht) (by exact zhb hb hj ht),HE,HE]
  exact h2
 ·intro h
  apply Cx
  intro t
  by_cases ht:t<k
  ·rw[DA ht,DA ht,Fd,Fd,mL (by exact zh5 hi ht),mL (by exact zh5 hj ht)]
   have:=(lu (by exact zhb ha hi ht) (by exact zhb hb hj ht)).mp (h t ht)
   rw[HE,HE] at this
   exact this
  ·rw[zT (by rw[Bh];exact zhh ht),zT (by rw[Bh];exact zhh ht)]
theorem nK:∀ (n:Nat),(∀ k,0<k->k<=n->cmI la lb k=none)->cmS la lb n=none:=by
 intro n
 induction n with
 | zero =>
  intro Z
  exact rfl
 | succ n ih =>
  intro h
  rw[w6,h (n+1) (Fx _) (zk _)]
  exact ih λk h1 h2=>h k h1 (Eg h2)
theorem nJ{i j k:Nat}(hk:0<k)(hi:cmI la lb k=some (i,j)):∀ (n:Nat),k<=n->(∀ k',k<k'->k'<=n->cmI la lb k'=none)->cmS la lb n=some (i,j,k):=by
 intro n
 induction n with
 | zero =>
  intro h Z
  lia
 | succ n ih =>
  intro h hn
  rw[w6]
  by_cases q:k=n+1
  ·subst q;rw[hi]
  ·rw[hn (n+1) (zh7 h q) (zk _)]
   exact ih (zha h q) λk' h1 h2=>hn k' h1 (Eg h2)
theorem wg:∀ (f alo ahi blo bhi:Nat),alo<=ahi->ahi<=la.length->blo<=bhi->bhi<=lb.length->lX la lb f alo ahi blo bhi=cm f (sl la alo ahi) (sl lb blo bhi):=by
 intro f
 induction f with
 | zero =>
  intro Z Z Z Z Z Z Z Z
  exact rfl
 | succ f ih =>
  intro alo ahi blo bhi h1 h2 h3 h4
  have B:=cQ la lb alo ahi blo bhi
  have hlo:=B.lo
  have hhi:=B.hi
  rw[BJ h1,BJ h3] at hhi
  have F:=λhk i j=>qW (la:=la) (lb:=lb) (alo:=alo) (ahi:=ahi) (blo:=blo) (bhi:=bhi) hk (i:=i) (j:=j)
  have most:=B.most
  have run:=B.run
  have nohit:∀ k i j,(flm la lb alo ahi blo bhi).2.2<k->i+k<=ahi - alo->j+k<=bhi - blo->hit (sl la alo ahi) (sl lb blo bhi) k i j=false:=by
   intro k i j hk hi hj
   cases q:hit (sl la alo ahi) (sl lb blo bhi) k i j with
   | false=>rfl
   | true =>
    have r:=(km h2 h4 (by exact zhc h1 hi) (by exact zhc h3 hj)).mp q
    have ge:k<=sfx la lb alo blo (alo+i+k - 1) (blo+j+k - 1):=by
     refine ux k _ _ (λt ht=>?_) zhg zhg
     have:=r (k - 1 - t) (by exact zhk ht)
     rw[show alo+i+k - 1 - t=alo+i+(k - 1 - t) by exact zhn ht,show blo+j+k - 1 - t=blo+j+(k - 1 - t) by exact zhn ht]
     exact this
    have:=most (alo+i+k - 1) (blo+j+k - 1) (zhp hk) (zhq hk hi) (zhp hk) (zhq hk hj)
    exact zhu hk ge this
  have noI:∀ k,(flm la lb alo ahi blo bhi).2.2<k->k<=L8 (sl la alo ahi).length (sl lb blo bhi).length->cmI (sl la alo ahi) (sl lb blo bhi) k=none:=by
   intro k hk hn
   rw[fT h2,fT h4] at hn
   refine pe λi hi=>?_
   rw[fT h2] at hi
   have e:cmJ (sl la alo ahi) (sl lb blo bhi) k i=none:=ma λj hj=>by
    rw[fT h4] at hj
    exact nohit k i j hk (zhx hn hi) (zhz hn hj)
   rw[e];rfl
  rw[iR,cm_s]
  by_cases hz:(flm la lb alo ahi blo bhi).2.2=0
  ·rw[if_pos hz,nK _ λk hk hn=>noI k (zi0 hz hk) hn]
  ·rw[if_neg hz]
   generalize hb:flm la lb alo ahi blo bhi=b at *
   obtain⟨bi,bj,k⟩:=b
   simp only at hlo hhi run most F nohit noI hz ⊢
   have hk:0<k:=z6o hz
   have hJ:cmJ (sl la alo ahi) (sl lb blo bhi) k (bi - alo)=some (bj - blo):=by
    refine ny (by rw[fT h4];exact zi1 hhi.2) ?_ λj hj=>?_
    ·refine (km h2 h4 (by exact zi2 hlo.1 hhi.1) (by exact zi2 hlo.2 hhi.2)).mpr λt ht=>?_
     rw[show alo+(bi - alo)+t=bi+t by exact zi3 hlo.1,show blo+(bj - blo)+t=bj+t by exact zi3 hlo.2]
     exact run t ht
    ·cases q:hit (sl la alo ahi) (sl lb blo bhi) k (bi - alo) j with
     | false=>rfl
     | true =>
      have r:=(km h2 h4 (zi2 hlo.1 hhi.1) (zi4 hhi.2 hj)).mp q
      have:=F hk (alo+(bi - alo)) (blo+j) zi5 (zi2 hlo.1 hhi.1) z7q (zi4 hhi.2 hj) r
      exact zi6 hlo.1 hj this
   have hI:cmI (sl la alo ahi) (sl lb blo bhi) k=some (bi - alo,bj - blo):=by
    refine mK (i:=bi - alo) (by rw[fT h2];exact zi1 hhi.1) (by rw[hJ];rfl) λi hi=>?_
    have e:cmJ (sl la alo ahi) (sl lb blo bhi) k i=none:=ma λj hj=>by
     rw[fT h4] at hj
     cases q:hit (sl la alo ahi) (sl lb blo bhi) k i j with
     | false=>rfl
     | true =>
      have r:=(km h2 h4 (zi4 hhi.1 hi) (zi7 hlo.2 hhi.2 hj)).mp q
      have:=F hk (alo+i) (blo+j) z7q (zi4 hhi.1 hi) z7q (zi7 hlo.2 hhi.2 hj) r
      exact zi8 hi this
    rw[e];rfl
   rw[nJ hk hI _ (by rw[fT h2,fT h4];exact zi9 hlo.1 hlo.2 hhi.1 hhi.2) λk' q1 q2=>noI k' q1 q2]
   show k+lX la lb f alo bi blo bj+lX la lb f (bi+k) ahi (bj+k) bhi=k+cm f _ _+cm f _ _
   rw[pj (by exact hlo.1) (by exact zia hhi.1),pj (by exact hlo.2) (by exact zia hhi.2),show bi - alo+k=bi+k - alo by exact zib hlo.1,show bj - blo+k=bj+k - blo by exact zib hlo.2,pk (by exact zic hlo.1),pk (by exact zic hlo.2),
    ih alo bi blo bj hlo.1 (zid h2 hhi.1) hlo.2 (zid h4 hhi.2),ih (bi+k) ahi (bj+k) bhi hhi.1 h2 hhi.2 h4]
theorem ye:mt la lb (0,la.length,0,lb.length)=cm (la.length+1) la lb:=by
 have h:=wg (la:=la) (lb:=lb) (la.length+1) 0 la.length 0 lb.length (zD _) (zk _) (zD _) (zk _)
 unfold mt
 rw[h]
 unfold sl
 simp
theorem nH{c:zK}{l l':List zK}(h:l.Perm l'):cnt c l=cnt c l':=by
 induction h with
 | nil=>rfl
 | cons x _ ih=>rw[fM,fM,ih]
 | swap x y l=>rw[fM,fM,fM,fM];exact z0b
 | trans _ _ h1 h2=>exact h1.trans h2
theorem j8:∀ (m l:List zK),(∀ c,cnt c m<=cnt c l)->m.length<=l.length:=by
 intro m
 induction m with
 | nil =>
  intro Z Z
  exact zD _
 | cons d m ih =>
  intro l h
  have hd:d∈l:=by
   apply BF
   intro q
   have:=h d
   rw[kD.mpr q,fM,if_pos rfl] at this
   exact zif this
  obtain⟨a,b,rfl⟩:=GZ hd
  have:=ih (a++b) λc=>by
   have:=h c
   rw[fM,bG,fM] at this
   rw[bG]
   exact zig this
  rw[zL,zO,zL]
  rw[zO] at this
  exact zii this
theorem sx(lb:List zK):∀ l:List zK,∃ m:List zK,m.length=qpr lb l/\∀ c,cnt c m<=cnt c l/\cnt c m<=cnt c lb/\(cnt c m=cnt c l\/cnt c m=cnt c lb):=by
 intro l
 induction l with
 | nil =>
  exact⟨[],rfl,λc=>⟨zk _,zD _,.inl rfl⟩⟩
 | cons d r ih =>
  obtain⟨m,hm,h⟩:=ih
  have e:cnt d r.reverse=cnt d r:=nH (Eh r)
  rw[vT,e]
  by_cases q:cnt d r<cnt d lb
  ·rw[if_pos q]
   refine⟨d::m,by rw[zL,hm],λc=>?_⟩
   have hc:=h c
   rw[fM,fM]
   by_cases z:d=c
   ·subst z
    rw[if_pos rfl]
    exact zij q hc.1 hc.2.2
   ·rw[if_neg z]
    simpa using hc
  ·rw[if_neg q]
   refine⟨m,hm,λc=>?_⟩
   have hc:=h c
   rw[fM]
   by_cases z:d=c
   ·subst z
    rw[if_pos rfl]
    exact zin q hc.2.1 hc.2.2
   ·rw[if_neg z]
    simpa using hc
theorem qb(lb la:List zK):∃ m:List zK,m.length=qp lb la/\∀ c,cnt c m<=cnt c la/\cnt c m<=cnt c lb/\(cnt c m=cnt c la\/cnt c m=cnt c lb):=by
 obtain⟨m,hm,h⟩:=sx lb la.reverse
 refine⟨m,hm,λc=>?_⟩
 have:=h c
 rwa [nH (Eh la)] at this
theorem sy(lb la:List zK):qp lb la<=lb.length:=by
 obtain⟨m,hm,h⟩:=qb lb la
 rw[<- hm]
 exact j8 m lb λc=>(h c).2.1
theorem xX{lb la m:List zK}(h:∀ c,cnt c m<=cnt c la/\cnt c m<=cnt c lb):m.length<=qp lb la:=by
 obtain⟨m',hm,h'⟩:=qb lb la
 rw[<- hm]
 refine j8 m m' λc=>?_
 have h1:=h c
 have h2:=h' c
 exact zik h1.1 h1.2 h2.2.2
theorem w8{la lb:List zK}{k i j:Nat}(hk:k<=L8 la.length lb.length)(h:cmI la lb k=some (i,j)):hit la lb k i j=true/\i+k<=la.length/\j+k<=lb.length:=by
 unfold cmI at h
 obtain⟨i',hi,e⟩:=List.exists_of_findSome?_eq_some h
 obtain⟨j',hj,e⟩:=z0.mp e
 cases e
 unfold cmJ at hj
 have h1:=ID hj
 have h2:=EL hj
 rw[zV] at hi h2
 exact⟨h1,by exact zim hk hi,by exact zio hk h2⟩
theorem w7{la lb:List zK}:∀ {n i j k:Nat},n<=L8 la.length lb.length->cmS la lb n=some (i,j,k)->hit la lb k i j=true/\i+k<=la.length/\j+k<=lb.length:=by
 intro n
 induction n with
 | zero =>
  intro Z Z Z Z h
  cases h
 | succ n ih =>
  intro i j k hn h
  rw[w6] at h
  cases q:cmI la lb (n+1) with
  | none=>rw[q] at h;exact ih (zih hn) h
  | some p =>
   obtain⟨a,b⟩:=p
   rw[q] at h
   cases h
   exact w8 hn q
theorem rj:∀ (f:Nat) (la lb:List zK),∃ m:List zK,m.length=cm f la lb/\∀ c,cnt c m<=cnt c la/\cnt c m<=cnt c lb:=by
 intro f
 induction f with
 | zero =>
  intro Z Z
  exact⟨[],rfl,λc=>⟨zD _,zD _⟩⟩
 | succ f ih =>
  intro la lb
  rw[cm_s]
  cases q:cmS la lb (L8 la.length lb.length) with
  | none=>exact⟨[],rfl,λc=>⟨zD _,zD _⟩⟩
  | some p =>
   obtain⟨i,j,k⟩:=p
   obtain⟨h1,h2,h3⟩:=w7 (zk _) q
   have h1:(la.drop i).take k=(lb.drop j).take k:=of_decide_eq_true h1
   obtain⟨m1,e1,l1⟩:=ih (la.take i) (lb.take j)
   obtain⟨m2,e2,l2⟩:=ih (la.drop (i+k)) (lb.drop (j+k))
   refine⟨(la.drop i).take k++m1++m2,?_,λc=>?_⟩
   ·rw[zO,zO,e1,e2,Bh,EJ,Iz (by exact zil h2)]
   ·have a1:=l1 c
    have a2:=l2 c
    have s1:cnt c la=cnt c (la.take i)+(cnt c ((la.drop i).take k)+cnt c (la.drop (i+k))):=by
     rw[<- Jg,<- bG,CK,<- bG,CK]
    have s2:cnt c lb=cnt c (lb.take j)+(cnt c ((lb.drop j).take k)+cnt c (lb.drop (j+k))):=by
     rw[<- Jg,<- bG,CK,<- bG,CK]
    rw[bG,bG]
    rw[<- h1] at s2
    exact zip a1.1 a1.2 a2.1 a2.2 s1 s2
theorem cm_qp(f:Nat)(la lb:List zK):cm f la lb<=qp lb la:=by
 obtain⟨m,hm,h⟩:=rj f la lb
 rw[<- hm]
 exact xX h
noncomputable def LA:zK:=yZ "a"
noncomputable def LB:zK:=yZ "b"
noncomputable def LC:zK:=yZ "c"
def Abc(s:zK):Prop:=s=LA\/s=LB\/s=LC
noncomputable def dig(s:zK):Nat:=if s=LA then 1 else if s=LB then 2 else 3
theorem mi:dig LA=1/\dig LB=2/\dig LC=3:=by decide +kernel
theorem oO:([LA,LB,LC].all λa=>[LA,LB,LC].all λb=>(decide (a=b)==decide (dig a=dig b))&&(decide (a.cps.toList<b.cps.toList)==decide (dig a<dig b)))=true:=by decide +kernel
theorem rE{s:zK}(h:Abc s):s∈[LA,LB,LC]:=by
 rcases h with rfl|rfl|rfl
 ·exact .head _
 ·exact aj (.head _)
 ·exact aj (aj (.head _))
theorem i7{s:zK}(h:Abc s):1<=dig s/\dig s<=3:=by
 rcases h with rfl|rfl|rfl
 ·rw[mi.1];decide
 ·rw[mi.2.1];decide
 ·rw[mi.2.2];decide
theorem tR{a b:zK}(ha:Abc a)(hb:Abc b):(a=b↔dig a=dig b)/\(a.cps.toList<b.cps.toList↔dig a<dig b):=by
 have h:=zF.mp (zF.mp oO a (rE ha)) b (rE hb)
 obtain⟨h1,h2⟩:=zr.mp h
 exact⟨decide_eq_decide.mp (Aw h1),decide_eq_decide.mp (Aw h2)⟩
noncomputable def code:Nat->List zK->Nat
 | 0,_=>0
 | _+1,[]=>0
 | W+1,c::l=>dig c * 4 ^ W+code W l
theorem rh{W:Nat}{c:zK}{l:List zK}:code (W+1) (c::l)=dig c * 4 ^ W+code W l:=rfl
theorem fK:∀ (W:Nat) (l:List zK),(∀ c∈l,Abc c)->code W l<4 ^ W
 | 0,_,_=>(by decide:0<4 ^ 0)
 | W+1,[],_=>Lu (by decide)
 | W+1,c::l,h=>by
  have h1:=(i7 (h c (.head _))).2
  have h2:=fK W l λd hd=>h d (aj hd)
  have h3:dig c * 4 ^ W<=3 * 4 ^ W:=Do _ h1
  exact ze9 h2 h3
theorem lj(r:List zK):ltW [] r=decide (0<r.length):=iU (.inl (zD _))
theorem jf:∀ (W:Nat) (l r:List zK),l.length<=W->r.length<=W->(∀ c∈l,Abc c)->(∀ c∈r,Abc c)->(l=r↔code W l=code W r)/\(ltW l r=true↔code W l<code W r):=by
 intro W
 induction W with
 | zero =>
  intro l r h1 h2 Z Z
  cases F4 (Lv.mp h1)
  cases F4 (Lv.mp h2)
  exact (⟨⟨λZ=>rfl,λZ=>rfl⟩,⟨λq=>(by cases q),λq=>absurd q (Ao _)⟩⟩)
 | succ W ih =>
  intro l r h1 h2 hl hr
  cases l with
  | nil =>
   cases r with
   | nil=>exact (⟨⟨λZ=>rfl,λZ=>rfl⟩,⟨λq=>(by cases q),λq=>absurd q (Ao _)⟩⟩)
   | cons b r =>
    have h1:=(i7 (hr b (.head _))).1
    have h2:1 * 4 ^ W<=dig b * 4 ^ W:=Do _ h1
    have h3:0<4 ^ W:=Lu (by decide)
    rw[lj,show code (W+1) []=0 from rfl,rh]
    refine⟨⟨λq=>(by cases q),λq=>(Ag (zek h2 h3) q).elim⟩,⟨λZ=>by exact zek h2 h3,λZ=>by simp⟩⟩
  | cons a l =>
   cases r with
   | nil =>
    have h1:=(i7 (hl a (.head _))).1
    have h2:1 * 4 ^ W<=dig a * 4 ^ W:=Do _ h1
    have h3:0<4 ^ W:=Lu (by decide)
    refine⟨⟨λq=>(by cases q),λq=>(Ci (zek h2 h3) q).elim⟩,⟨λq=>(by cases q),λq=>by exact zen q⟩⟩
   | cons b r =>
    have ih:=ih l r (DU h1) (DU h2) (λd hd=>hl d (aj hd)) λd hd=>hr d (aj hd)
    have hd:=tR (hl a (.head _)) (hr b (.head _))
    have c1:=fK W l λd hd=>hl d (aj hd)
    have c2:=fK W r λd hd=>hr d (aj hd)
    rw[ng,rh,rh]
    by_cases q:a=b
    ·have e:=hd.1.mp q
     rw[if_pos q,e]
     refine⟨⟨λz=>?_,λz=>?_⟩,⟨λz=>?_,λz=>?_⟩⟩
     ·have:=(Hw z).2;rw[this]
     ·rw[q,ih.1.mpr (Nat.add_left_cancel z)]
     ·exact Ju (ih.2.mp z) _
     ·exact ih.2.mpr (Nat.lt_of_add_lt_add_left z)
    ·have ne:dig a≠dig b:=λz=>q (hd.1.mpr z)
     rw[if_neg q,decide_eq_true_eq,hd.2]
     have key:∀ x y:Nat,x<y->x * 4 ^ W+4 ^ W<=y * 4 ^ W:=λx y z=>by
      have:=Do (4 ^ W) z
      rwa [Nd] at this
     rcases Nat.lt_or_gt_of_ne ne with z|z
     ·have:=key _ _ z
      exact⟨⟨λe=>absurd (Hw e).1 q,λe=>(Ag (zes c1 this) e).elim⟩,⟨λZ=>by exact zes c1 this,λZ=>z⟩⟩
     ·have:=key _ _ z
      exact⟨⟨λe=>absurd (Hw e).1 q,λe=>(Ci (zes c2 this) e).elim⟩,⟨λe=>by exact zev z e,λe=>by exact zew c2 this e⟩⟩
noncomputable def rkW(f:UInt64)(l:List zK):Nat:=f.toNat * 4 ^ 10+code 10 l
theorem nI{a b:UInt64}(ha:a∈shL)(hb:b∈shL):zZ a b=some (compare a.toNat b.toNat) :=
 Aw (zF.mp (zF.mp w5 a ha) b hb)
theorem dY{c f:UInt64}(hc:c∈shL)(hf:f∈shL):geF c f=decide (c.toNat<=f.toNat):=by
 unfold geF
 rw[nI hf hc]
 rcases Du f.toNat c.toNat with q|q|q
 ·rw[Fz.mpr q,decide_eq_false (by exact ze4 q)];rfl
 ·rw[FA.mpr q,decide_eq_true (by exact ze6 q)];rfl
 ·rw[Hq.mpr q,decide_eq_true (by exact z2f q)];rfl
theorem dW{m n:Nat}(h:2 * m<=n)(hn:n<=15)(hm:m<=5):bK m n∈shL:=by
 have:=zF.mp (zF.mp pu n (zV.mpr (ze5 hn))) m (zV.mpr (ze7 hm))
 rw[decide_eq_true h] at this
 simpa using this
theorem jB{m k n:Nat}(h:2 * k<=n)(hn:n<=15)(hk:k<=5)(hm:m<=k):(bK m n).toNat<=(bK k n).toNat:=by
 have:=zF.mp (zF.mp (zF.mp jq n (zV.mpr (ze5 hn))) m (zV.mpr (ze8 hk hm))) k (zV.mpr (ze7 hk))
 rw[decide_eq_true h,decide_eq_true hm] at this
 simpa using this
theorem wA(la lb:List zK):mall la lb=cm (la.length+1) la lb:=ye
theorem pH{x wd:List zK}:mall x wd<=qp wd x/\qp wd x<=L8 x.length wd.length:=by
 rw[wA]
 have:=cm_qp (x.length+1) x wd
 have h1:=xY wd x
 have h2:=sy wd x
 exact⟨this,by exact zea h1 h2⟩
theorem gH{x wd:List zK}(hx:x.length<=10)(hw:wd.length<=5):scr x wd∈shL:=by
 have:=pH (x:=x) (wd:=wd)
 unfold scr
 exact dW (zeb this.1 this.2) (zed hx hw) (zeg hw this.1 this.2)
theorem l3{x wd:List zK}(hx:x.length<=10)(hw:wd.length<=5){c:UInt64}(hc:c∈shL):jr (geF c) x wd=geF c (scr x wd):=by
 have h:=pH (x:=x) (wd:=wd)
 unfold jr
 have e0:scr x wd=bK (mall x wd:Nat) ((x.length+wd.length:Nat):Int):=by unfold scr;rw[Gb]
 rw[show (L8 (x.length:Int) (wd.length:Int))=((L8 x.length wd.length:Nat):Int) by exact zec,<- Gb,dY hc (dW (by exact zee) (by exact zed hx hw) (by exact zef hw)),dY hc (dW (by exact zeh h.2) (by exact zed hx hw) (by exact zej hw h.2)),dY hc (gH hx hw),e0]
 have m1:=jB (m:=mall x wd) (k:=qp wd x) (n:=x.length+wd.length) (zeh h.2) (zed hx hw) (zej hw h.2) h.1
 have m2:=jB (m:=qp wd x) (k:=L8 x.length wd.length) (n:=x.length+wd.length) zee (zed hx hw) (zef hw) h.2
 by_cases q:c.toNat<=(bK (mall x wd:Nat) ((x.length+wd.length:Nat):Int)).toNat
 ·rw[decide_eq_true q,decide_eq_true (zn q m1),decide_eq_true (zn q (zn m1 m2))];rfl
 ·rw[decide_eq_false q,Jh,Jh]
theorem kr{f:UInt64}(hf:f∈shL):geI f=true:=zF.mp tY f hf
theorem sS{x wd:List zK}(hx:x.length<=10)(hw:wd.length<=5):jr geI x wd=true:=by
 have h:=pH (x:=x) (wd:=wd)
 unfold jr
 rw[show (L8 (x.length:Int) (wd.length:Int))=((L8 x.length wd.length:Nat):Int) by exact zec,<- Gb,kr (dW (by exact zee) (by exact zed hx hw) (by exact zef hw)),kr (dW (by exact zeh h.2) (by exact zed hx hw) (by exact zej hw h.2)),kr (gH hx hw)];rfl
theorem uC{Es:List Sc}(h:∀ e∈Es,e.f∈shL/\e.x.c.length<=10/\(∀ c∈e.x.c,Abc c))(hR:∀ e∈Es,∀ e'∈Es,isR e.x.v=isR e'.x.v):kL rkW Es:=by
 intro e he e' he'
 obtain⟨f1,l1,a1⟩:=h e he
 obtain⟨f2,l2,a2⟩:=h e' he'
 have k1:=jf 10 e.x.c e'.x.c l1 l2 a1 a2
 have k2:=jf 10 e'.x.c e.x.c l2 l1 a2 a1
 have c1:=fK 10 e.x.c a1
 have c2:=fK 10 e'.x.c a2
 have hc:=nI f1 f2
 have hcr:isR e.x.v=isR e'.x.v:=hR e he e' he'
 unfold rkW
 rw[hc]
 generalize code 10 e.x.c=x at *
 generalize code 10 e'.x.c=y at *
 generalize e.f.toNat=a at *
 generalize e'.f.toNat=b at *
 rcases Du a b with q|q|q
 ·rw[Fz.mpr q]
  refine⟨⟨λz=>(by cases z),λz=>(Ag (zel c1 q) z).elim⟩,λZ=>⟨λZ=>by exact zel c1 q,λZ=>rfl⟩,λz=>(by cases z),λZ=>⟨λz=>(by cases z),λz=>(J0 (zel c1 q) z).elim⟩,λz=>(by cases z),hcr⟩
 ·subst q
  rw[FA.mpr rfl]
  refine⟨⟨λz=>?_,λz=>?_⟩,λz=>(by cases z),λZ=>⟨λz=>?_,λz=>?_⟩,λz=>(by cases z),λZ=>⟨λz=>?_,λz=>?_⟩,hcr⟩
  ·have z:decide (e.x.c=e'.x.c)=true:=z
   rw[k1.1.mp (of_decide_eq_true z)]
  ·have:x=y:=zep z
   exact decide_eq_true (k1.1.mpr this)
  ·have:=k1.2.mp z;exact zer k1.2 z
  ·exact k1.2.mpr (zet z)
  ·have:=k2.2.mp z;exact zer k2.2 z
  ·exact k2.2.mpr (zet z)
 ·rw[Hq.mpr q]
  refine⟨⟨λz=>(by cases z),λz=>(Ci (zel c2 q) z).elim⟩,λZ=>⟨λz=>(by cases z),λz=>(J0 (zel c2 q) z).elim⟩,λz=>(by cases z),λZ=>⟨λZ=>by exact zel c2 q,λZ=>rfl⟩,λz=>(by cases z),hcr⟩
section
open PySem.Spec
theorem oK(i:Int){m:Nat}(hm:0<m):∃ x:Nat,x<m/\i.fmod (m:Int)=(x:Int):=by
 have e:=Jv (Int.emod_nonneg i (Int.ofNat_ne_zero.mpr (Ci hm)))
 exact⟨(i % m).toNat,Dn.mp (GI (HY e) (Int.emod_lt_of_pos i (Dn.mpr hm))),(Int.fmod_eq_emod_of_nonneg _ (DM m)).trans e.symm⟩
theorem iS{prog:Bm}{w:As}{A:AU}{E:VP}{s:zc}{a c:Int}{t u:AQ}{m:Nat}{Q:VP}(hm:0<m)(hc:c=(m:Int))
  (h:∀ x:Nat,x<m->Q (.int (x:Int) s.toks) (wt s (s.toks+1))):y7 (y6 prog w) A (EQ .Mod (.int a t) (.int c u)) Q E s:=by
 subst hc
 obtain⟨x,hx,e⟩:=oK a hm
 refine mod_int' (z4j hm) ?_
 rw[e]
 exact h x hx
theorem i6{prog:Bm}{w:As}{A:AU}{E:VP}{s:zc}{a c:Int}{t u:AQ}{Q:VP}(hc:c≠0)(hp:C2 a c=false)
  (h:∀ b:Int,Q (.int b s.toks) (wt s (s.toks+1))):y7 (y6 prog w) A (EQ .FloorDiv (.int a t) (.int c u)) Q E s :=
 AutoIntOps.floordiv_1 (by simpa using hc) (by rw[hp];decide) (h _)
theorem ry:Bn (yZ "abs")=some (.builtin "abs"):=by kernel_rfl
theorem yY (x:Nat) (h:x<3):∃ c,(yZ "abc").cps[x]? = some c/\Abc ⟨#[c]⟩:=by
 have:∀ k:Fin 3,(match (yZ "abc").cps[k.val]? with|some c=>decide ((⟨#[c]⟩:zK)=LA) || (decide ((⟨#[c]⟩:zK)=LB) || decide ((⟨#[c]⟩:zK)=LC))|none=>false)=true:=by decide +kernel
 have h2:=this ⟨x,h⟩
 dsimp only at h2
 cases q:(yZ "abc").cps[x]? with
 | none=>rw[q] at h2;cases h2
 | some c =>
  rw[q] at h2
  refine⟨c,rfl,?_⟩
  simpa [Abc] using h2
def Wd(y:zK)(n:Nat):Prop:=y.cps.size<=n/\∀ c∈aA y,Abc c
theorem Wd.snoc{y:zK}{n c:Nat}(h:Wd y n)(hc:Abc ⟨#[c]⟩):Wd (y++⟨#[c]⟩) (n+1):=by
 have e:(y++(⟨#[c]⟩:zK)).cps=y.cps++#[c]:=rfl
 refine⟨by rw[e];simp;exact h.1,λd hd=>?_⟩
 unfold aA at hd
 rw[e] at hd
 simp at hd
 rcases hd with⟨a,ha,rfl⟩|rfl
 ·exact h.2 _ (by unfold aA;exact zd.mpr ⟨a,by simpa using ha,rfl⟩)
 ·exact hc
section
variable{T:LO}{l:LV}
theorem oT{prog:Bm}{y:zK}{c:Nat}{ty tc:AQ}{Q:VP}(hy:y.cps.size<=60)
  (h:∀ (s':zc) (t':AQ),Kp s s'->St hb tabs L l T s'.heap->s.toks<=s'.toks->(t'=tc\/(s.toks<=t'/\t'<s'.toks))->Q (.str (y++⟨#[c]⟩) t') s') (S:St hb tabs L l T s.heap) :
  y7 (y6 prog w) A (EQ .Add (.str y ty) (.str ⟨#[c]⟩ tc)) Q E s:=by
 refine LR ?_
 by_cases h0:(y.length==0)=true
 ·rw[if_pos h0]
  have hz:y.cps.size=0:=Aw h0
  have e:y++(⟨#[c]⟩:zK)=⟨#[c]⟩:=by
   obtain⟨a⟩:=y
   obtain rfl:=Ix.mp hz
   show Str.mk (#[]++#[c])=_
   simp
  have:=h s tc Kp.refl S (zk _) (.inl rfl)
  rw[e] at this
  exact this
 ·rw[if_neg h0,if_neg (show ¬ ((⟨#[c]⟩:zK).length==0)=true from λq=>by cases q)]
  refine⟨?_,h _ _ ⟨rfl,id⟩ S (C6 _) (.inr ⟨zk _,Bi _⟩)⟩
  show (y.cps++#[c]).size<=_
  rw[zz]
  simp
  exact up 16777155 hy
theorem xi (x:Nat) (h:x<3):HO ((x:Nat):Int) (yZ "abc").length=some x:=by
 have:∀ k:Fin 3,HO ((k.val:Nat):Int) (yZ "abc").length=some k.val:=by decide +kernel
 exact this ⟨x,h⟩
theorem xq(G:GK w hb)(S:St hb tabs L l T s.heap)(hd:A.depth+10<zj)(hh:A.handled=none){i:Int}{t:AQ}
  (k:∀ (s':zc) (y:zK) (ty:AQ),Kp s s'->St hb tabs L l T s'.heap->Wd y 5->s.toks<=ty->ty<s'.toks->R (.ok (.ret (.str y ty))) s') :
  zW (y6 pw w) A (.call (.ref 293) ⟨[.int i t],[]⟩) R s:=by
 refine dR G S (lk293 _) (dn 10 hd) (binds:=[(yZ "number", .int i t)]) (body:=aD (st1 pw 12)) (Ba (by kernel_rfl)) (λL' ai oL r ah=>eM [yZ "found", yZ "number"] (args_cons (wpAny_Constant_str (args_cons (AH (n:=s.toks+1+1) (zk _) (jM G ah ry (bln ah m0 (call_abs_int ?_))))))))
 refine λua tka htka=>zq ⟨rfl,rfl,hh,_,_,_,_,_,ah,?_⟩
 refine λam af=>cU af (.old .here) (λak ae=>cU ae (.new (by kernel_rfl)) (λau S4=>eQ (restateT S4 λs4 K4 hk4 S4=>?_)))
 replace K4:Kp s s4:=⟨K4.os,K4.gens⟩
 replace hk4:s.toks+1+1<=s4.toks:=by simp only at hk4 htka;exact zir htka hk4
 clear ah af ae
 refine eM [yZ "many", yZ "number"] (args_cons (wpAny_BinOp (ac S4 m1 (wpAny_Constant_int (iS (m:=6) (by decide) rfl ?_)))))
 refine λx hx=>args_cons (wpAny_BinOp (ac S4 m1 (wpAny_Constant_int (i6 (by decide) (by rfl) ?_))))
 refine λb=>zq ⟨rfl,rfl,hh,_,_,_,_,_,S4,?_⟩
 refine λax S5=>cU S5 (.old (.there .here)) (λaz S6=>cU S6 (.new (by kernel_rfl)) (λba S7=>eQ (restateT S7 λs7 K7 hk7 S7=>?_)))
 replace K7:Kp s s7:=kt K4 K7
 replace hk7:s.toks+1+1<=s7.toks:=by simp only at hk7;exact zis hk4 hk7
 clear S4 S5 S6
 refine eY (AH (zk s7.toks) (rp G S7 cK (bln S7 m0 (Kx ?_))))
 refine λhtk8=>jY (S7.push _) m0 (by decide) (by decide) z7l (zit hx) ?_
 intro I o Wt fp bf IV hw S9
 have S10:=S9.sub (zo _ _)
 let H:Nat->AQ->LV->LO->Prop:=λi tk l₁ T1=>Ex5 λy ty z tz tx=>An6 (l₁=[(yZ "many", .int (x:Int) tx),(yZ "found", .str y ty),(yZ "number", .int z tz)]) (T1=(L,oL)::T) (Wd y i) (s.toks<=ty) (ty<tk) (s.toks<=tk)
 refine IV.loop (z:=s) hh S10 hw
  H ?h0 (zm _) ?_ ?_ (hmono:=?hmono) (ez:=⟨K7.os,K7.gens⟩)
 case hmono =>
  rintro i tk tk' l T htk ⟨y,ty,z,tz,tx,h1,h2,h3,h4,h5,h6⟩
  exact⟨y,ty,z,tz,tx,h1,h2,h3,h4,zN h5 htk,zn h6 htk⟩
 case h0=>exact⟨_,_,_,_,_,rfl,rfl,⟨by decide,zm _⟩,Cp _ _,by simp only[zL,Ck];exact ziu hk7,by simp only;exact ziv hk7⟩
 ·rintro E1 i v l₁ T1 own1 s₁ hi ⟨ti,hv⟩ ⟨y,ty,z,tz,tx,rfl,rfl,hy,hty,hty2,htk⟩ af hRo hKp
  subst hv
  refine aU (aq af (.new (by kernel_rfl)) ?_)
  refine λak ae=>eM [yZ "found", yZ "number"] (args_cons (wpAny_BinOp (ac ae m2 (gU IQ.lookup (wpAny_Constant_str (wpAny_BinOp (ac ae m3 ?_)))))))
  refine wpAny_Constant_int (iS (m:=3) (by decide) rfl ?_)
  intro x3 hx3
  obtain⟨c,hc,habc⟩:=yY x3 hx3
  refine⟨Mj _ _ _,?_⟩
  refine PySem.P.getItem_str (c:=c) (by rw[decide_eq_false (GA.mpr (DK (by decide +kernel) (DM x3))),decide_eq_false (H0.mpr (Int.lt_of_lt_of_le (Dn.mpr hx3) (by decide +kernel)))];rfl) (by rw[xi x3 hx3];exact hc) (oT (hb:=hb) (L:=L') (by have:=hy.1;replace hi:i<((x:Int) - 0).toNat:=hi;exact ziy hx this hi) ?_ ae)
  refine λs4 t4 K4 S4 hk4 ht4=>args_cons (wpAny_BinOp (ac S4 m3 (wpAny_Constant_int (i6 (by decide) (by rfl) ?_))))
  refine λb4=>zq ⟨rfl,rfl,hh,_,_,_,_,_,S4,?_⟩
  refine λax S5=>cU S5 (.old (.there (.there (.there .here)))) (λaz S6=>cU S6 (.old (.there (.there .here))) (λba S7=>eQ (restateT (S7.forget (zo _ _)) λs8 K8 hk8 S8=>(aE ⟨_,_,S8,⟨_,_,_,_,_,rfl,rfl,hy.snoc habc,?_,?_,?_⟩,(zm _),?_⟩))))
  ·simp only at hk4 ht4
   rcases ht4 with q|q;exact x30 hty hty2 q;exact x31 hty hty2 q.1
  ·simp only at hk4 ht4 hk8
   rcases ht4 with q|q;exact x32 hk4 hk8 q;exact x33 hk8 q.2
  ·simp only at hk4 hk8
   exact zj3 hty hty2 hk4 hk8
  ·exact (kt (kt hKp K4) K8)
 ·rintro s' l' T' hKp af ⟨y,ty,z,tz,tx,rfl,rfl,hy,hty,hty2,htk⟩ hRo
  refine cO (ac af m1 ?_)
  have ae:=af.leave 0 rfl r
  exact k s' y ty (hKp) ae ⟨zn hy.1 (zj4 hx),hy.2⟩ hty hty2
end
end
noncomputable def jl(n:Nat)(lo hi:Option Nat):List Nat:=((zQ n).take (hi.getD n)).drop (lo.getD 0)
noncomputable def gA{α:Type}(xs:List α)(lo hi:Option Nat):List α:=(xs.take (hi.getD xs.length)).drop (lo.getD 0)
noncomputable def yU:List (Option Nat):=none::(zQ 12).map some
noncomputable abbrev iO(o:Option Nat):Option Int:=o.map HG
theorem vr:((zQ 12).all λn=>yU.all λlo=>yU.all λhi=>Gx (iO lo) (iO hi) 1 n==jl n lo hi)=true:=by decide +kernel
theorem vf:((zQ 12).all λn=>yU.all λlo=>yU.all λhi =>
  let p:=CI (iO lo) (iO hi) 1 n
  let m:=Dk p.1 p.2 1
  decide (0<=p.1)&&((zQ m).map (λk=>p.1.toNat+k)==jl n lo hi)&&(!(p.1==0&&m==n) || jl n lo hi==zQ n))=true:=by decide +kernel
def Sm(o:Option Nat):Prop:=∀ k,o=some k->k<12
theorem ir{o:Option Nat}(h:Sm o):o∈yU:=by
 cases o with
 | none=>exact .head _
 | some k=>exact aj (zd.mpr ⟨k,zV.mpr (h k rfl),rfl⟩)
theorem vt{n:Nat}{lo hi:Option Nat}(hn:n<12)(hl:Sm lo)(hh:Sm hi):Gx (iO lo) (iO hi) 1 n=jl n lo hi :=
 Aw (zF.mp (zF.mp (zF.mp vr n (zV.mpr hn)) lo (ir hl)) hi (ir hh))
theorem qM{α:Type}{l:List α}{i:Nat}{a:α}(h:i<l.length):l.getD i a=l[i]:=by
 rw[Bl,zl h];rfl
theorem gy{α:Type}(xs:List α)(lo hi:Option Nat):(jl xs.length lo hi).filterMap (xs[·]?)=gA xs lo hi:=by
 cases xs with
 | nil=>simp[jl,gA]
 | cons a r =>
  have h1:∀ l:List Nat,(∀ i∈l,i<(a::r).length)->l.filterMap ((a::r)[·]?)=l.map λi=>(a::r).getD i a:=by
   intro l
   induction l with
   | nil=>exact λZ=>rfl
   | cons i l ih =>
    intro h
    have hi:=h i (.head _)
    rw[JB,zl hi,AD,ih λj hj=>h j (aj hj),qM hi]
  have h2:(zQ (a::r).length).map (λi=>(a::r).getD i a)=a::r:=by
   refine Lc (by simp) λi p q=>?_
   rw[DH,GW,qM q]
  rw[jl,h1 _ λi hi=>zV.mp (AI (Ji hi)),JJ,Cg,h2]
  rfl
theorem nE(n:Nat):∀ lo hi,jl n lo hi=zQ n->∀ {α:Type} (xs:List α),xs.length=n->gA xs lo hi=xs:=by
 intro lo hi h α xs hx
 subst hx
 have e:jl xs.length none none=zQ xs.length:=by
  unfold jl
  rw[CQ,CQ,Et,C5 (by rw[Ca];exact zk _)]
 rw[<- gy,h,<- e,gy]
 unfold gA
 rw[CQ,CQ,Et,z4]
theorem iX(x:zK)(lo hi:Option Nat):aA ⟨((jl x.cps.size lo hi).filterMap (x.cps[·]?)).toArray⟩=gA (aA x) lo hi:=by
 have h:=gy x.cps.toList lo hi
 have e:(λi:Nat=>x.cps[i]?)=λi:Nat=>x.cps.toList[i]?:=by funext i;simp
 rw[e]
 show (((jl x.cps.toList.length lo hi).filterMap λi:Nat=>x.cps.toList[i]?).map _)=_
 rw[h]
 unfold gA aA
 rw[JJ,Cg,ze]
theorem dJ{α:Type}(xs:List α)(lo hi:Option Nat):(gA xs lo hi).length<=xs.length:=by
 unfold gA;rw[EJ,Bh];exact y0m
theorem io{α β:Type}(f:α->β)(xs:List α)(lo hi:Option Nat):gA (xs.map f) lo hi=(gA xs lo hi).map f:=by
 unfold gA;rw[JJ,Cg,ze]
noncomputable abbrev ptN(o:Option (Nat×AQ)):Value:=partValue (o.map λp=>((p.1:Int),p.2))
noncomputable abbrev fN(o:Option (Nat×AQ)):Option Nat:=o.map (·.1)
section
variable{tabs:List zh}
theorem iA{o:Option (Nat×AQ)}{Q:Option Int->zc->Prop}(h:Q (iO (fN o)) s):y7 (y6 prog w) A (LS (ptN o)) Q E s:=by
 cases o with
 | none=>exact MB h
 | some p=>exact slicePart_int h
theorem jo{sl:zh}{lo hi:Option (Nat×AQ)}{n:Nat}{Q:Int×Int×Nat->zc->Prop}(hs:s.heap.IsSliceOf sl (ptN lo) (ptN hi) .none)
  (h:Q ((CI (iO (fN lo)) (iO (fN hi)) 1 n).1,1,Dk (CI (iO (fN lo)) (iO (fN hi)) 1 n).1 (CI (iO (fN lo)) (iO (fN hi)) 1 n).2 1) s) :
  y7 (y6 prog w) A (MC (.ref sl) (AA (n:Int))) Q E s:=by
 obtain⟨os,hos,hcs,hds⟩:=id hs
 refine y0 (y0 (AN hos hds (x:=ptN lo) rfl (y0 (AN hos hds (x:=ptN hi) rfl (y0 (AN hos hds (x:=.none) rfl (y4 ?_)))))))
 refine y0 (MB ?_)
 refine aQ (by decide) (y0 (iA (y0 (iA (y0 (y4 ?_))))))
 exact y4 h
theorem i3{t sl:zh}{items:List Value}{lo hi:Option (Nat×AQ)}{Q:VP}(ht:s.heap.get? t=some (aG items))(hs:s.heap.IsSliceOf sl (ptN lo) (ptN hi) .none)(hn:items.length<12)(hl:Sm (fN lo))(hh:Sm (fN hi))
  (h1:gA items (fN lo) (fN hi)=items->Q (.ref t) s) (h2:Q (.ref s.heap.objs.size) (wh s (s.heap.push (aG (gA items (fN lo) (fN hi)))))) :
  y7 (y6 prog w) A (Dg (.ref t) (.ref sl)) Q E s:=by
 have ht':IsTup s.heap t items.toArray:=⟨_,ht,rfl,_,rfl⟩
 have hT:s.TypeIs (.ref t) "tuple" := ⟨_,ht,rfl⟩
 obtain⟨os,hos,hcs,hds⟩:=id hs
 have hTs:s.TypeIs (.ref sl) "slice" := ⟨os,hos,hcs⟩
 have tab:=zF.mp (zF.mp (zF.mp vf items.length (zV.mpr hn)) _ (ir hl)) _ (ir hh)
 obtain⟨tab,t3⟩:=zr.mp tab
 obtain⟨t1,t2⟩:=zr.mp tab
 replace t1:=of_decide_eq_true t1
 replace t2:=Aw t2
 unfold Dg
 try with_reducible refine zs ?_
 first|refine y0 (y4 ?_)|skip
 refine y0 (Kw hT (by decide) ?_)
 refine y0 (Ab (name:=yZ "__getitem__") hT CG
  (zX CG hT Ky ?_ (KG _ _)))
 refine y0 (m:=Eu (.ref t)) (tupleItemsOf_ ht' ?_)
 refine y0 (Dr hTs ?_)
 refine bW (by decide) ?_
 have hsz:items.toArray.size=items.length:=zg ..
 rw[hsz]
 refine y0 (jo hs ?_)
 revert t1 t2 t3
 generalize CI (iO (fN lo)) (iO (fN hi)) 1 (items.length:Int)=p
 intro t3 t1 t2
 dsimp only at t1 t2 t3 ⊢
 have hm:((zQ (Dk p.1 p.2 1)).filterMap λ(k:Nat)=>items.toArray[(p.1+(k:Int) * 1).toNat]?)=gA items (fN lo) (fN hi):=by
  rw[<- gy,<- t2,List.filterMap_map]
  congr 1
  funext k
  rw[show (p.1+(k:Int) * 1).toNat=p.1.toNat+k by exact y0n t1]
  simp
 rw[hm]
 have hz:sizeOk (.seq (gA items (fN lo) (fN hi)).toArray):=by
  show (gA items (fN lo) (fN hi)).toArray.size<=DY
  have:=dJ items (fN lo) (fN hi)
  rw[zg,zz];exact y0o hn this
 by_cases hw:(p.1==0&&(1:Int)==1&&Dk p.1 p.2 1==items.length)=true
 ·refine bW hw ?_
  have hq:gA items (fN lo) (fN hi)=items:=by
   refine nE _ _ _ ?_ items rfl
   rcases (Lx _ _).mp t3 with z|z
   ·obtain⟨w1,w2⟩:=zr.mp hw
    obtain⟨w1,w3⟩:=zr.mp w1
    rw[w1,w2] at z;nomatch z
   ·exact Aw z
  refine y0 (y0 (Dr hT (y4 ?_)))
  exact bW (by decide) (y0 (AS (y4 ⟨_,rfl,y4 (h1 hq)⟩)))
 ·exact aQ hw (y0 (Af (y4 ⟨_,rfl,y4 h2⟩) hz))
def TkN(t0 t1:Nat)(v u:Value):Prop:=u=v\/isR u=true\/Ex2 λz t=>An3 (u=.str z t) (t0<=t) (t<t1)
theorem oP{n:Nat}{lo hi:Option Nat}(h:(jl n lo hi).length=n):jl n lo hi=zQ n:=by
 have:(jl n lo hi).Sublist (zQ n):=(Kk _ _).trans (List.take_sublist _ _)
 exact this.eq_of_length (by rw[h,Ca])
theorem qo(o:Option (Nat×AQ)):((o.map λp=>((p.1:Int),p.2)).map (·.1))=iO (fN o):=by cases o<;> rfl
inductive kCutC (w:As) (hb:AJ) (tabs:List zh) (bk:Bool) (Q:VP) (o vl vu:Value) (s3:zc):Prop
 | mk (x:WX) (lo hi:Option (Nat×AQ)) (L:zh) (l:LV) (T:LO) (ho:o=x.v) (hk:isR x.v=bk) (hl:vl=ptN lo) (hu:vu=ptN hi) (S:St hb tabs L l T s3.heap) (W:WT T x) (hc:x.c.length<12) (h1:Sm (fN lo)) (h2:Sm (fN hi))
  (fin:∀ y s' X,Kp s3 s'->St hb tabs L l (X++T) s'.heap->WT (X++T) y->isR y.v=bk->y.c=gA x.c (fN lo) (fN hi)->s3.toks<=s'.toks->TkN s3.toks s'.toks x.v y.v->Q y.v s')
abbrev kCutB(prog:Bm)(w:As)(A:AU)(env:II)(E:VP)(hb:AJ)(tabs:List zh)(upper:Option Expr)(bk:Bool)(Q:VP)(o vl:Value)(ag:zc):Prop :=
 y7 (y6 prog w) A (MD upper env) (kCutC w hb tabs bk Q o vl) E ag
abbrev kCutA(prog:Bm)(w:As)(A:AU)(env:II)(E:VP)(hb:AJ)(tabs:List zh)(lower upper:Option Expr)(bk:Bool)(Q:VP)(o:Value)(s₁:zc):Prop :=
 y7 (y6 prog w) A (MD lower env) (kCutB prog w A env E hb tabs upper bk Q o) E s₁
theorem bS{M:HL}{e:Expr}{Q:VP}(h:y7 M A (Ax e env) Q E s):y7 M A (MD (some e) env) Q E s:=h
theorem dX{M:HL}{Q:VP}(h:Q .none s):y7 M A (MD none env) Q E s:=by rw[Ec];exact y4 h
theorem dO {T id:String}{value:Expr}{lower upper:Option Expr}{p pos:Ej}{Q:VP} (hl:BL (.type T) "__getitem__" = AA (some (.builtin id)))
  (h:y7 (y6 prog w) A (Ax value env) (λo s₁=>y7 (y6 prog w) A (Ax (.Slice lower upper none p) env) (λi ag=>ag.TypeIs o T/\y7 (y6 prog w) A (Dg o i) Q E ag) E s₁) E s) :
  y7 (y6 prog w) A (Ax (.Subscript value (.Slice lower upper none p) pos) env) Q E s:=by
 refine y0 (zi h (λo s₁ ai=>y0 (zs (zi ai (λi ag am=>y0 (CS ?_)) λZ Z x=>x)))
  λZ Z x=>x)
 have fin:y7 (y6 prog w) A (J9 [i,o] (Dg o i)) (λr s3=>y7 (y6 prog w) A (Fo value o r>>=λZ=>AA r) Q E s3) E ag :=
  Gc (zi am.2 (λr s3 ak=>y0 (Ev (y4 ak))) λZ Z x=>x)
 refine y0 (y0 (BX am.1 hl ?_))
 first
  | exact y4 (y0 fin)
  | exact y0 (y4 (y0 fin))
  | exact y0 fin
theorem iG{value:Expr}{lower upper:Option Expr}{p pos:Ej}{Q:VP}(bk:Bool)
  (h:y7 (y6 prog w) A (Ax value env) (kCutA prog w A env E hb tabs lower upper bk Q) E s):y7 (y6 prog w) A (Ax (.Subscript value (.Slice lower upper none p) pos) env) Q E s:=by
 cases bk with
 | false =>
  refine dO (T := "str") IQ.lookup (zi h (λo s₁ ai=>F0 (zi ai (λvl ag am=>zi am (λvu s3 ak=>?_) λZ Z e=>e) λZ Z e=>e)) λZ Z e=>e)
  rw[Ec]
  refine y4 ?_
  obtain⟨x,lo,hi,L,l,T,rfl,hk,rfl,rfl,S,W,hn,hl,hh,fin⟩:=ak
  cases W with
  | tup a ps=>nomatch hk
  | str y t hy =>
   have hn':y.cps.size<12:=by rw[aF] at hn;exact hn
   refine⟨Mj _ y t,wpAny_getItem_str_slice (l:=lo.map λp=>((p.1:Int),p.2)) (u:=hi.map λp=>((p.1:Int),p.2)) (st:=none) ⟨_,zU _ rfl,rfl,rfl⟩ rfl ?_⟩
   have e:slicePicked y (lo.map λp=>((p.1:Int),p.2)) (hi.map λp=>((p.1:Int),p.2)) none=jl y.cps.size (fN lo) (fN hi):=by
    unfold slicePicked
    rw[qo,qo]
    exact vt hn' hl hh
   have af:=(S.push { cls:=.type "slice", data:=.fields #[ptN lo,ptN hi,.none] }).sub (zo _ _)
   unfold sliceMade
   rw[e]
   by_cases q:((((none:Option (Int×AQ)).map (·.1)).getD 1==1)&&(jl y.cps.size (fN lo) (fN hi)).length==y.length)=true
   ·rw[if_pos q]
    have q2:(jl y.cps.size (fN lo) (fN hi)).length=y.cps.size:=Aw (zr.mp q).2
    exact fin ⟨.str y t,aA y⟩ _ [] ⟨rfl,id⟩ af (.str y t hy) rfl (nE _ _ _ (oP q2) (aA y) (aF y)).symm (zk _) (.inl rfl)
   ·rw[if_neg q]
    have hz:((jl y.cps.size (fN lo) (fN hi)).filterMap (y.cps[·]?)).toArray.size<=y.cps.size:=by
     have:=congrArg CE (iX y (fN lo) (fN hi))
     rw[aF] at this
     rw[show ((jl y.cps.size (fN lo) (fN hi)).filterMap (y.cps[·]?)).toArray.size=_ from this]
     have:=dJ (aA y) (fN lo) (fN hi)
     rwa [aF] at this
    refine⟨by show Array.size _<=_;rw[zz];exact y0o hn' hz,?_⟩
    exact fin ⟨.str _ _,aA _⟩ _ [] ⟨rfl,id⟩ af (.str _ _ (zn hz hy)) rfl (iX _ _ _) (C6 _) (.inr (.inr ⟨_,_,rfl,zk _,Bi _⟩))
 | true =>
  refine dO (T := "tuple") CG.lookup (zi h (λo s₁ ai=>F0 (zi ai (λvl ag am=>zi am (λvu s3 ak=>?_) λZ Z e=>e) λZ Z e=>e)) λZ Z e=>e)
  rw[Ec]
  refine y4 ?_
  obtain⟨x,lo,hi,L,l,T,rfl,hk,rfl,rfl,S,W,hn,hl,hh,fin⟩:=ak
  cases W with
  | str y t hy=>nomatch hk
  | tup a ps ha hps =>
   have af:=S.push { cls:=.type "slice", data:=.fields #[ptN lo,ptN hi,.none] }
   have ho:=af.obj _ (aj ha)
   have hlen:(cts ps).length=(ps.map aM).length:=by simp
   refine⟨⟨_,ho,rfl⟩,i3 (lo:=lo) (hi:=hi) ho (DS ..) (by rw[<- hlen];exact hn) hl hh (λq=>?_) ?_⟩
   ·refine fin ⟨.ref a,cts ps⟩ _ [_] ⟨rfl,id⟩ af (.tup a ps (aj ha) hps) rfl ?_ (zk _) (.inl rfl)
    rw[io] at q
    have q2:gA ps (fN lo) (fN hi)=ps:=DR (f:=aM) (λp q e=>by injection e with e1 e2;exact Ks e1 e2) |>.mp q
    rw[io,q2]
   ·have ae:=af.push (aG (gA (ps.map aM) (fN lo) (fN hi)))
    rw[io] at ae ⊢
    refine fin ⟨.ref _,cts (gA ps (fN lo) (fN hi))⟩ _ [_,_] ⟨rfl,id⟩ ae (.tup _ _ (.head _) (zn (dJ ..) hps)) rfl ?_ (zk _) (.inr (.inl rfl))
    rw[io]
end
theorem tQ:((zQ 12).all λn=>Aj (n:Int) 0 (-1)==(n:Int)&&(DC (n:Int) 0 (-1)&&C2 (0 - (n:Int)) (-1)==false))=true:=by decide +kernel
section
variable{tabs:List zh}{l:LV}{T:LO}{t u v:AQ}{x y:WX}
theorem q7{n:Nat}(hn:n<12):Aj (n:Int) 0 (-1)=(n:Int)/\DC (n:Int) 0 (-1)=true/\C2 (0 - (n:Int)) (-1)=false:=by
 obtain⟨h1,h2⟩:=zr.mp (zF.mp tQ n (zV.mpr hn))
 obtain⟨h2,h3⟩:=zr.mp h2
 exact⟨Aw h1,h2,Aw h3⟩
theorem vR{n:Nat}{Q:VP}(hn:n<12)(S:St hb tabs L l T s.heap)(hm:(d,rg3O (n:Int) 0 (-1) t u v)∈T)
  (h:∀ I o Wt fp h',ItV prog w hb tabs [] I n (λi v=>∃ t,v=.int ((n:Int) - (i:Int)) t) Wt fp->Wt 0 h'->St hb tabs L l (T++[(I,o)]) h'->Q (.ref I) (wh s h')):y7 (y6 prog w) A (EM (.ref d)) Q E s:=by
 obtain⟨e,e2,_⟩:=q7 hn
 refine GH (S.obj _ hm) e2 (h _ _ (λi h=>IsRangeIter h s.heap.objs.size ((n:Int)+(i:Nat) * (-1)) ((n:Int) - (i:Nat)) (-1)) [s.heap.objs.size] _ ⟨λA hA=>?_,?_,?_⟩ ?_ (S.push _).last)
 case refine_1 =>
  exact bM (Nr (prog:=prog) (w:=w) hA s.heap.objs.size (n:Int) (-1) n) λi v q=>by
   obtain⟨t,q⟩:=q
   exact⟨t,by rw[q,Int.mul_neg,Ha];rfl⟩
 case refine_2=>exact λi h q=>⟨_,q⟩
 case refine_3 =>
  exact λb hb' hn=>absurd hb' hn
 case refine_4 =>
  rw[e]
  simp
  exact zU _ rfl
theorem wx_eq{Q:VP}(hu:A.units<AB)(hx:WH s.heap x)(hy:WH s.heap y)(hk:isR x.v=isR y.v)(h:Q (.bool (decide (x.c=y.c))) s):y7 (y6 prog w) A (AK .Eq x.v y.v) Q E s:=by
 cases hx with
 | str a t =>
  cases hy with
  | str b u =>
   refine ME ?_
   rw[show (a.cps.toList==b.cps.toList)=decide (aA a=aA b) from by
    by_cases q:a=b
    ·subst q;simp
    ·rw[beq_eq_false_iff_ne.mpr (λz=>q (congrArg Str.mk (EH.mp z))),decide_eq_false λz=>q (iW z)]]
   exact h
  | tup b qs hb hl=>cases hk
 | tup a ps ha hl =>
  cases hy with
  | str b u=>cases hk
  | tup b qs hb hl' =>
   exact Bz (op:=.Eq) ⟨_,ha,rfl⟩ ⟨_,hb,rfl⟩ E7 (jy ha hb ⟨nofun,h⟩) hu
end
section
open PySem.Spec
theorem rv:Bn (yZ "min")=some (.builtin "min"):=by kernel_rfl
theorem sD{α:Type}(X T o1 o2 o3:List α)(a:α):(X++((((a::T)++o1)++o2)++o3)).Perm (a::((X++(o1++(o2++o3)))++T)):=by
 have e:(((a::T)++o1)++o2)++o3=a::(T++(o1++(o2++o3))):=by simp
 rw[e]
 refine zv.trans (zP _ ?_)
 rw[zx]
 exact zM.append_left X
theorem q9{α:Type}(xs:List α)(i k:Nat):gA xs (some i) (some (i+k))=(xs.drop i).take k:=by
 show (xs.take (i+k)).drop i=_
 rw[List.drop_take,HJ]
theorem kC{α:Type}(xs:List α)(i:Nat):gA xs (some i) none=xs.drop i:=by
 show (xs.take xs.length).drop i=_
 rw[z4]
theorem jS:Sm none:=λk h=>by cases h
theorem dF{i:Nat}(h:i<12):Sm (some i):=λk e=>by cases e;exact h
noncomputable abbrev nmX (x y:WX):LV:=[(yZ "near", x.v),(yZ "far", y.v)]
def CmC(w:As)(hb:AJ)(f:Nat):Prop:=∀ {A:AU}{s:zc}{L:zh}{T:LO}{l:LV}{R:Cm->zc->Prop}{x y:WX},
 St hb tabs L l T s.heap->A.depth+f+10<zj->A.units+3 * f+10<AB->A.handled=none->WT T x->WT T y->isR x.v=isR y.v->x.c.length<12->y.c.length<12->x.c.length<f ->
 (∀ (s':zc) (X:LO) (t:AQ),Kp s s'->St hb tabs L l (X++T) s'.heap->R (.ok (.ret (.int (cm f x.c y.c:Nat) t))) s') ->
 zW (y6 pw w) A (.call (.ref 300) ⟨[x.v,y.v],[]⟩) R s
theorem tV{f:Nat}(G:GK w hb)(ih:CmC w hb f):CmC w hb (f+1):=by
  intro A s L T l R x y S hd hu hh hx hy hk hx12 hy12 hf k
  refine dR G S (lk300 _) (y7a hd) (binds:=nmX x y) (body:=aD (st1 pw 13)) (Ba (by kernel_rfl)) ?_
  intro L' ai oL r ah
  have hx1:WT ((L,oL)::T) x:=hx.mono λp hp=>aj hp
  have hy1:WT ((L,oL)::T) y:=hy.mono λp hp=>aj hp
  generalize dk:(L,oL)::T=T1 at ah hx1 hy1
  obtain⟨Rx,hRx,Vx⟩:=hx1.sq (prog:=pw) (w:=w) (hb:=hb) (tabs:=tabs)
  obtain⟨Ry,hRy,Vy⟩:=hy1.sq (prog:=pw) (w:=w) (hb:=hb) (tabs:=tabs)
  refine eY (rp G ah cK (args_cons (jM G ah rv (args_cons (jM G ah B5 (bln ah m0 (Vx.len ah hRx ?_)))))))
  refine λt1 tk1=>args_cons (jM G ah B5 (bln ah m1 (Vy.len ah hRy ?_)))
  refine λt2 tk2=>zq (xR hh ah ?_)
  refine λam tk3 t3 af=>args_cons (wpAny_Constant_int (args_cons (Ea (wpAny_Constant_int (Ko (zq ?_))))))
  have hmin:(L8 (x.c.length:Int) (y.c.length:Int))=((L8 x.c.length y.c.length:Nat):Int):=zec
  rw[hmin]
  generalize hm:L8 x.c.length y.c.length=m
  have hm12:m<12:=y7c hx12 hm
  refine mQ af (by decide) (by have:=(q7 hm12).2.2;exact this) (λra ak ae=>vR hm12 ae m0 ?_)
  intro I o Wt fp au IV hw S4
  have hX:∀ T':LO,(∀ p∈T1,p∈T')->WT T' x:=λT' h=>hx1.mono h
  have hY:∀ T':LO,(∀ p∈T1,p∈T')->WT T' y:=λT' h=>hy1.mono h
  have fq:∀ T':LO,(∀ p∈T1,p∈T')->∀ p∈Rx,p∈T':=λT' h p hp=>h p (hRx p hp)
  have hY0:∀ T':LO,(∀ p∈T1,p∈T')->∀ p∈Ry,p∈T':=λT' h p hp=>h p (hRy p hp)
  let H:Nat->AQ->LV->LO->Prop:=λi Z l₁ T'=>An3 (l₁=nmX x y) (T1=T') (∀ k,m - i<k->k<=m->cmI x.c y.c k=none)
  refine IV.loop (z:=s) (T:=T1) hh (S4.sub (zo _ _)) hw
   H ⟨rfl,rfl,λk h1 h2=>by lia⟩ (zm _) ?_ ?_
  ·rintro E1 i v l₁ T' own1 s₁ hi ⟨ti,hv⟩ ⟨rfl,rfl,hno⟩ S5 hRo hKp
   subst hv
   have hs:((m:Int) - (i:Int))=((m - i:Nat):Int):=y7e hi
   rw[hs]
   have hk0:0<m - i:=Nat.zero_lt_sub_of_lt hi
   have hkm:m - i<=m:=zfo
   have hstep:∀ k',m - (i+1)<k'->k'<=m->k'=m - i\/m - i<k':=λk' h1 h2=>by exact y7h h1
   generalize hz:m - i=z at hno hk0 hkm hstep
   have hzx:z<=x.c.length:=y7i hm hz
   have hzy:z<=y.c.length:=y7j hm hz
   refine aU (aq S5 (.new (by kernel_rfl)) ?_)
   refine λaz S6=>restate S6 λs6 K6 S6=>?_
   replace K6:Kp s s6:=⟨K6.os.trans hKp.os,λq=>K6.gens (hKp.gens q)⟩
   refine eY (rp G S6 cK (args_cons (wpAny_BinOp (wpAny_BinOp (jM G S6 B5 (bln S6 m1 (Vx.len S6 (fq _ λp hp=>y8 _ hp) ?_)))))))
   refine λt4 tk4=>ac S6 m0 (P.sub_int (wpAny_Constant_int (P.add_int (zq (Kx (jY (S6.push _) m0 (by decide) (by decide) (y7k hm hz) (y7l hx12) ?_))))))
   intro I2 o2 Wt2 fp2 ba IV2 hw2 S7
   have hn2:((((x.c.length:Int) - (z:Nat))+1) - 0).toNat=x.c.length - z+1:=y7m hm hz
   rw[hn2] at IV2
   let H:Nat->AQ->LV->LO->Prop:=λi Z l₁ T''=>An3 (l₁=(yZ "size", .int (z:Int) ti)::nmX x y) (T1++own1=T'') (∀ i'<i,cmJ x.c y.c z i'=none)
   refine IV2.loop (z:=s6) (T:=T1++own1) hh (S7.sub (zo _ _)) hw2
    H ⟨rfl,rfl,λi h=>absurd h (Bt _)⟩ (zm _) ?_ ?_
   ·rintro E2 a v l₁ T'' own2 ag ha ⟨ta,hv⟩ ⟨rfl,e,hnoI⟩ S8 hRo2 hKp2
    subst hv
    rw[Gn]
    refine aU (aq S8 (.new (by kernel_rfl)) ?_)
    refine λbf S9=>restate S9 λs9 K9 S9=>?_
    have K9a:Kp s6 s9:=⟨K9.os.trans hKp2.os,λq=>K9.gens (hKp2.gens q)⟩
    replace K9:Kp s s9:=kt K6 K9a
    subst e
    refine eY (rp G S9 cK (args_cons (wpAny_BinOp (wpAny_BinOp (jM G S9 B5 (bln S9 m3 (Vy.len S9 (hY0 _ λp hp=>y8 _ (y8 _ hp)) ?_)))))))
    refine λt5 tk5=>ac S9 m1 (P.sub_int (wpAny_Constant_int (P.add_int (zq (Kx (jY (S9.push _) m0 (by decide) (by decide) (y7n hm hz) (y7l hy12) ?_))))))
    intro I3 o3 Wt3 fp3 d5 IV3 hw3 S10
    have hn3:((((y.c.length:Int) - (z:Nat))+1) - 0).toNat=y.c.length - z+1:=y7o hm hz
    rw[hn3] at IV3
    let H:Nat->AQ->LV->LO->Prop:=λb Z l₁ T''=>An3 (l₁=(yZ "i", .int (a:Int) ta)::(yZ "size", .int (z:Int) ti)::nmX x y) ((T1++own1)++own2=T'') (∀ j'<b,hit x.c y.c z a j'=false)
    refine IV3.loop (z:=s9) (T:=(T1++own1)++own2) hh (S10.sub (zo _ _)) hw3
     H ⟨rfl,rfl,λi h=>absurd h (Bt _)⟩ (zm _) ?_ ?_
    ·rintro E3 b v l₁ T'' own3 s4 ey ⟨tb,hv⟩ ⟨rfl,e,hnoJ⟩ S11 hRo3 hKp3
     subst hv
     rw[Gn]
     subst e
     refine aU (aq S11 (.new (by kernel_rfl)) ?_)
     refine λcu S12=>restate S12 λs12 K12 S12=>?_
     have K12a:Kp s9 s12:=⟨K12.os.trans hKp3.os,λq=>K12.gens (hKp3.gens q)⟩
     replace K12:Kp s s12:=kt K9 K12a
     generalize c5:((T1++own1)++own2)++own3=T₂ at S12
     have hin:∀ X:LO,∀ p∈T1,p∈X++T₂:=λX p hp=>by
      rw[<- c5];exact y5 _ (y8 _ (y8 _ (y8 _ hp)))
     have hax:a+z<=x.c.length:=y7p hm hz ha
     have hby:b+z<=y.c.length:=y7q hm hz ey
     refine dB (iG (hb:=hb) (tabs:=tabs) (isR x.v) (ac S12 m3 (bS (ac S12 m1 (bS (wpAny_BinOp (ac S12 m1 ?_)))))))
     refine ac S12 m2 (P.add_int ⟨x,some (a,ta),some (a+z,_),L',_,_,rfl,rfl,rfl,rfl,by exact S12,hX _ (hin []),hx12,dF (y7r hx12 hax),dF (y7s hx12 hax),?_⟩)
     refine λx1 eg X1 K13 S13 f6 b6 dz Z Z=>iG (hb:=hb) (tabs:=tabs) (isR x.v) (ac S13 m4 (bS (ac S13 m0 (bS (wpAny_BinOp (ac S13 m0 (ac S13 m2 ?_)))))))
     refine P.add_int ⟨y,some (b,tb),some (b+z,_),L',_,_,rfl,hk.symm,rfl,rfl,by exact S13,hY _ (hin X1),hy12,dF (y7r hy12 hby),dF (y7s hy12 hby),?_⟩
     refine λy1 cx X2 K14 S14 f7 hk2 cz Z Z=>wx_eq (x:=x1) (y:=y1) (by show A.units+3<AB;exact y7t hu) ((f6.mono λp hp=>y5 _ hp).wh S14) (f7.wh S14) (b6.trans hk2.symm) ?_
     have hq:decide (x1.c=y1.c)=hit x.c y.c z a b:=by
      rw[dz,cz]
      show decide (gA x.c (some a) (some (a+z))=gA y.c (some b) (some (b+z)))=_
      rw[q9,q9];rfl
     rw[hq]
     replace S14:=S14.sub ((Ai X1 _).trans (Ai X2 _))
     have K14a:Kp s9 cx:=kt (kt K12a K13) K14
     replace K14:Kp s cx:=kt K9 K14a
     clear S13 K13 f6 f7 dz cz b6 hk2 hq
     refine zb ⟨λq=>?_,λq=>?_⟩
     ·refine aC (tZ G S14 (v:=.ref 300) (by kernel_rfl) (args_cons (iG (hb:=hb) (tabs:=tabs) (isR x.v) (ac S14 m3 (dX (bS (ac S14 m1 ?_)))))))
      refine⟨x,none,some (a,ta),L',_,_,rfl,rfl,rfl,rfl,S14,hX _ (hin []),hx12,jS,dF (y7r hx12 hax),?_⟩
      refine λx2 s15 X3 K15 S15 hx2 hk3 e6 Z Z=>args_cons (iG (hb:=hb) (tabs:=tabs) (isR x.v) (ac S15 m4 (dX (bS (ac S15 m0 ⟨y,none,some (b,tb),L',_,_,rfl,hk.symm,rfl,rfl,S15,hY _ (hin X3),hy12,jS,dF (y7r hy12 hby),?_⟩)))))
      refine λy2 s16 X4 K16 S16 f8 hk4 hc4 Z Z=>zq ⟨⟨_,_,_,S16⟩,?_⟩
      refine ih (x:=x2) (y:=y2) S16 (by show A.depth+1+f+10<zj;exact y7u hd) (by show A.units+3+3 * f+10<AB;exact y7v hu) hh (hx2.mono λp hp=>y5 _ hp) f8 (hk3.trans hk4.symm) ?_ ?_ ?_ ?_
      ·rw[e6];exact Bv (dJ ..) hx12
      ·rw[hc4];exact Bv (dJ ..) hy12
      ·rw[e6]
       show (x.c.take a).length<f
       rw[Bh];exact y7w hf hi hz hax
      intro s17 X5 t6 K17 S17
      replace S17:=S17.sub ((Ai X3 _).trans ((Ai X4 _).trans (Ai X5 _)))
      rw[show x2.c=x.c.take a from e6,show y2.c=y.c.take b from hc4]
      generalize hr1:cm f (x.c.take a) (y.c.take b)=r1
      refine aq S17 (.new (by kernel_rfl)) (λee S18=>restate S18 λs18 K18 S18=>?_)
      replace K18:Kp s s18:=⟨K18.os.trans (K17.os.trans (K16.os.trans (K15.os.trans K14.os))),λq=>K18.gens (K17.gens (K16.gens (K15.gens (K14.gens q))))⟩
      clear S14 S15 S16 S17 hx2 f8 e6 hc4 hk3 hk4
      refine cO (wpAny_BinOp (wpAny_BinOp (ac S18 m3 (ac S18 m0 (P.add_int (tZ G S18 (v:=.ref 300) (by kernel_rfl) (args_cons ?_)))))))
      refine iG (hb:=hb) (tabs:=tabs) (isR x.v) (ac S18 m4 (bS (wpAny_BinOp (ac S18 m2 (ac S18 m3 (P.add_int (dX ?_)))))))
      refine⟨x,some (a+z,_),none,L',_,_,rfl,rfl,rfl,rfl,by exact S18,hX _ (hin []),hx12,dF (y7s hx12 hax),jS,?_⟩
      refine λx3 s19 X6 K19 S19 cq hk5 hc5 Z Z=>args_cons (iG (hb:=hb) (tabs:=tabs) (isR x.v) (ac S19 m5 (bS (wpAny_BinOp (ac S19 m1 (ac S19 m3 (P.add_int ?_)))))))
      refine dX ⟨y,some (b+z,_),none,L',_,_,rfl,hk.symm,rfl,rfl,by exact S19,hY _ (hin X6),hy12,dF (y7s hy12 hby),jS,?_⟩
      refine λy3 s20 X7 K20 S20 hy3 hk6 hc6 Z Z=>zq ⟨⟨_,_,_,S20⟩,?_⟩
      refine ih (x:=x3) (y:=y3) S20 (by show A.depth+1+f+10<zj;exact y7u hd) (by show A.units+3+3 * f+10<AB;exact y7v hu) hh (cq.mono λp hp=>y5 _ hp) hy3 (hk5.trans hk6.symm) ?_ ?_ ?_ ?_
      ·rw[hc5];exact Bv (dJ ..) hx12
      ·rw[hc6];exact Bv (dJ ..) hy12
      ·rw[hc5]
       show (gA x.c (some (a+z)) none).length<f
       rw[kC,EJ];exact y7x hf hm hi hz
      intro s21 X8 t8 K21 S21
      replace S21:=S21.sub ((Ai X6 _).trans ((Ai X7 _).trans (Ai X8 _)))
      rw[show x3.c=x.c.drop (a+z) from hc5.trans (kC ..),show y3.c=y.c.drop (b+z) from hc6.trans (kC ..)]
      refine P.add_int ?_
      have hJ:cmJ x.c y.c z a=some b:=ny ey q hnoJ
      have hI:cmI x.c y.c z=some (a,b):=mK (i:=a) ha (by rw[hJ];rfl) λi' h=>by rw[hnoI i' h];rfl
      have hC:cm (f+1) x.c y.c=z+r1+cm f (x.c.drop (a+z)) (y.c.drop (b+z)):=by
       rw[cm_s,hm,nJ hk0 hI m hkm hno,<- hr1]
      rw[hC] at k
      rw[<- c5,<- dk] at S21
      have S22:=S21.perm (sD [] T own1 own2 own3 (L,oL))
      exact k _ _ _ ⟨K21.os.trans (K20.os.trans (K19.os.trans K18.os)),λq=>K21.gens (K20.gens (K19.gens (K18.gens q)))⟩ (S22.leave 0 rfl r)
     ·refine aE (aE ⟨_,_,(by rw[<- c5] at S14;exact S14.forget (zo _ _)),⟨rfl,rfl,λj' h1=>?_⟩,(zm _),⟨K14a.os,K14a.gens⟩⟩)
      rcases DV (CC h1) with q2|rfl
      ·exact hnoJ j' q2
      ·exact q
    ·rintro s4 l' T'' hKp4 S11 ⟨rfl,rfl,hnoJ⟩ hRo4
     refine aE ⟨_,_,S11.forget (zo _ _),⟨rfl,rfl,λi' h1=>?_⟩,(zm _),⟨hKp4.os.trans K9a.os,λq=>hKp4.gens (K9a.gens q)⟩⟩
     rcases DV (CC h1) with q|rfl
     ·exact hnoI i' q
     ·exact ma hnoJ
   ·rintro s3 l' T'' hKp3 S8 ⟨rfl,rfl,hnoI⟩ hRo3
    refine aE ⟨_,_,S8.forget (zo _ _),⟨rfl,rfl,λk' h1 h2=>?_⟩,(zm _),⟨hKp3.os.trans K6.os,λq=>hKp3.gens (K6.gens q)⟩⟩
    rcases hstep k' h1 h2 with rfl|q
    ·exact pe λi' hi'=>by rw[hnoI i' hi'];rfl
    ·exact hno k' q h2
  ·rintro s' l' T' hKp S5 ⟨rfl,rfl,hno⟩ hRo
   refine cO (wpAny_Constant_int ?_)
   subst dk
   have S6:=S5.leave 0 rfl r
   have e:cm (f+1) x.c y.c=0:=by
    rw[cm_s,hm,nK _ λk h1 h2=>hno k (y7z h1) h2]
   have:=λs' t a b=>k s' [] t a b
   rw[e] at this
   exact this _ _ ⟨hKp.os,hKp.gens⟩ S6
theorem tW(G:GK w hb):∀ f:Nat,CmC w hb f:=by
 intro f
 induction f with
 | zero =>
  exact λZ Z Z Z Z Z Z Z Z hf Z=>absurd hf (Bt _)
 | succ f ih =>
  exact tV G (ih)
section
variable{T:LO}{l:LV}{x y:WX}
theorem cm_le(f:Nat)(la lb:List zK):2 * cm f la lb<=la.length+lb.length:=by
 obtain⟨m,h,hc⟩:=rj f la lb
 have h1:=j8 m la λc=>(hc c).1
 have h2:=j8 m lb λc=>(hc c).2
 exact y80 h h1 h2
theorem vB(G:GK w hb)(S:St hb tabs L l T s.heap)(hd:A.depth+30<zj)(hu:A.units+60<AB)(hh:A.handled=none)(hx:WT T x)(hy:WT T y)(hk:isR x.v=isR y.v)(hx12:x.c.length<12)(hy12:y.c.length<12)
  (k:∀ (s':zc) (X:LO) (t:AQ),Kp s s'->St hb tabs L l (X++T) s'.heap->s.toks<=t->t<s'.toks->R (.ok (.ret (.float (bK (cm (x.c.length+1) x.c y.c:Nat) ((x.c.length:Int)+y.c.length)) t))) s') :
  zW (y6 pw w) A (.call (.ref 307) ⟨[x.v,y.v],[]⟩) R s:=by
 refine dR G S (lk307 _) (dn 30 hd) (binds:=nmX x y) (body:=aD (st1 pw 14)) (Ba (by kernel_rfl)) ?_
 intro L' ai oL r ah
 have htk0:s.toks<=(s.toks+(nmX x y).length):=Cp _ _
 refine restateT ah λs₁ ar b6 ah=>?_
 replace ar:Kp s s₁:=⟨ar.os,ar.gens⟩
 replace b6:s.toks<=s₁.toks:=zn htk0 b6
 have hx1:WT ((L,oL)::T) x:=hx.mono λp hp=>aj hp
 have hy1:WT ((L,oL)::T) y:=hy.mono λp hp=>aj hp
 obtain⟨Rx,hRx,Vx⟩:=hx1.sq (prog:=pw) (w:=w) (hb:=hb) (tabs:=tabs)
 obtain⟨Ry,hRy,Vy⟩:=hy1.sq (prog:=pw) (w:=w) (hb:=hb) (tabs:=tabs)
 refine aC (AH b6 (wpAny_BinOp (jM G ah B5 (bln ah m0 (Vx.len ah hRx ?_)))))
 refine λt1 tk1=>jM G ah B5 (bln ah m1 (Vy.len ah hRy ?_))
 refine λt2 tk2=>P.add_int (λhk2=>aq ah (.new (by kernel_rfl)) (λak ae=>restateT ae λs3 aw hk3 ae=>?_))
 replace aw:Kp s s3:=kt ar aw
 replace hk3:s.toks<=s3.toks:=by simp only at hk2 hk3;exact y82 hk2 hk3
 refine cO (IfExp_ (wpAny_isTrue_Compare1 (ac ae m0 (wpAny_Constant_int (Ip (zb ?_))))))
 have hn0:(0:Int)<=(x.c.length:Int)+y.c.length:=z15
 have hn1:(x.c.length:Int)+y.c.length<=1000:=y84 hx12 hy12
 by_cases h0:(0:Int)<(x.c.length:Int)+y.c.length
 ·rw[if_pos (decide_eq_true h0)]
  have hn:(x.c.length:Int)+y.c.length≠0:=Js (Int.ne_of_lt h0)
  refine wpAny_BinOp (wpAny_BinOp (Br (tZ G ae (v:=.ref 300) (by kernel_rfl) (bl ae m1 (bln ae m2 ⟨⟨_,_,_,by exact ae⟩,?_⟩)))))
  refine codeAny_with_toks (n:=s.toks) (by show s.toks<=s3.toks+1+1;exact y86 hk3) (tW G (x.c.length+1) (x:=x) (y:=y) ae (by show A.depth+1+(x.c.length+1)+10<zj;exact y87 hd hx12) (by show A.units+3+3 * (x.c.length+1)+10<AB;exact y88 hu hx12) hh hx1 hy1 hk hx12 hy12 (Bi _) ?_)
  intro s4 X t4 K4 S4 hk4
  have hle:=cm_le (x.c.length+1) x.c y.c
  refine mul_fi_fits (eC (DM _) (y89 hx12 hy12 hle)) (ac S4 m0 ?_)
  have hO:¬ Mt ((x.c.length:Int)+y.c.length):=λq=>by
   have:=eC hn0 hn1
   exact absurd q (Ik.mpr (zN this (by decide +kernel)))
  refine G7 (IK hO) (λq=>hn ((Il _).mp q)) ?_
  have e:bK (cm (x.c.length+1) x.c y.c:Nat) ((x.c.length:Int)+y.c.length)=Ln (Lo 4611686018427387904 (EV (cm (x.c.length+1) x.c y.c:Nat))) (EV ((x.c.length:Int)+y.c.length)):=if_neg hn
  have S5:=(S4.perm zv).leave 0 rfl r
  refine e▸k _ _ _ ⟨K4.os.trans aw.os,λq=>K4.gens (aw.gens q)⟩ S5 ?_ ?_
  ·show s.toks<=s4.toks+1;exact z78 hk4
  ·exact Bi _
 ·rw[if_neg (λq=>h0 (of_decide_eq_true q))]
  have hn:(x.c.length:Int)+y.c.length=0:=y8c h0
  refine Br ?_
  have e:bK (cm (x.c.length+1) x.c y.c:Nat) ((x.c.length:Int)+y.c.length)=4607182418800017408:=if_pos hn
  refine e▸k _ [] _ ⟨aw.os,aw.gens⟩ (ae.leave 0 rfl r) ?_ ?_
  ·show s.toks<=s3.toks+1;exact z78 hk3
  ·exact Bi _
end
end
section
open PySem.SeqAt
theorem vL:((zQ 12).all λn=>sliceRange (Lw none none (some (-1)) n).1 (Lw none none (some (-1)) n).2.1 (Lw none none (some (-1)) n).2.2==(zQ n).reverse)=true:=by decide +kernel
theorem mU(xs:List Value)(hn:xs.length<12):Gz xs.toArray none none (some (-1))=xs.reverse.toArray:=by
 unfold Gz
 rw[zg,Aw (zF.mp vL xs.length (zV.mpr hn))]
 have h:=gy xs none none
 have e:jl xs.length none none=zQ xs.length:=by
  unfold jl
  rw[CQ,CQ,Et,C5 (by rw[Ca];exact zk _)]
 rw[e] at h
 have e2:gA xs none none=xs:=by
  unfold gA
  rw[CQ,CQ,Et,z4]
 rw[e2] at h
 rw[List.filterMap_reverse,show (λi=>xs.toArray[i]?)=λi:Nat=>xs[i]? from by funext i;simp,h]
section
variable{tabs:List zh}
theorem pi{Q:VP}{value st:Expr}{p pos:Ej}
  (h:y7 (y6 prog w) A (Ax value env) (λo s₁=>y7 (y6 prog w) A (Ax st env) (λvu ag=>Ex7 λL l T d xs n tb=>An6 (o=.ref d) (vu=.int (-1) tb) (St hb tabs L l T ag.heap) ((d,ap xs n)∈T) (xs.length<12) (∀ D X h',St hb tabs L l ((D,ap xs.reverse 0)::(X++T)) h'->Q (.ref D) (wh ag h'))) E s₁) E s)
  (ht:∀ o r,Fo value o r=AA ():=by intro Z Z;rfl) :
  y7 (y6 prog w) A (Ax (.Subscript value (.Slice none none (some st) p) pos) env) Q E s:=by
 refine wpAny_Subscript_Slice_step (T := "list") Bg (zi h (λo s₁ ai=>F0 ?_) λZ Z e=>e) ht
 rw[Ec]
 refine y4 (y4 ?_)
 rw[HD]
 refine zi ai (λvu ag am=>?_) λZ Z e=>e
 obtain⟨L,l,T,d,xs,n,tb,rfl,rfl,S,hm,hz,hQ⟩:=am
 have hl:ag.heap.IsList d xs.toArray:=⟨_,S.obj _ hm,rfl,n,rfl⟩
 have ah:=(S.push { cls:=.type "slice", data:=.fields #[.none,.none,.int (-1) tb] }).push { cls:=.type "list", data:=.seq (Gz xs.toArray none none (some (-1))) }
 rw[mU xs hz] at ah
 refine⟨(hl.push _).typeIs,Dz (hl.push _) (DS ..) .none .none (.int _ _) (by simp) ?_ (by rw[zz,zg];exact ul 16777204 hz)⟩
 rw[mU xs hz]
 exact hQ _ [(_,_)] _ ah
theorem nP{α:Type}[DecidableEq α](xs ys:List α)(hl:xs.length=ys.length):((zQ xs.length).all λj=>decide (xs[j]? = ys[j]?))=decide (xs=ys):=by
 by_cases h:xs=ys
 ·subst h;simp
 ·rw[decide_eq_false h,Kz]
  refine BF λhc=>h (Cx λj=>?_)
  by_cases hj:j<xs.length
  ·exact BF λhne=>hc ⟨j,zV.mpr hj,λq=>hne (of_decide_eq_true q)⟩
  ·rw[zT (Bw.mp hj),zT (by rw[<- hl];exact Bw.mp hj)]
noncomputable abbrev cW(xs:List WX):List (List zK):=xs.map WX.c
variable{a:zh}{xs ys:List WX}
theorem mF(hu:A.in1.units<AB)(hx:∀ x∈xs,WH s.heap x)(hy:∀ y∈ys,WH s.heap y)(hk:∀ x∈xs,∀ y∈ys,isR x.v=isR y.v) :
  ∀ j (h1:j<(xs.map WX.v).toArray.size) (h2:j<(ys.map WX.v).toArray.size),EqAt A.in1 s (xs.map WX.v).toArray[j] (ys.map WX.v).toArray[j] (decide ((cW xs)[j]? = (cW ys)[j]?)):=by
 intro j h1 h2
 have h1':j<xs.length:=by simpa using h1
 have h2':j<ys.length:=by simpa using h2
 have e1:(xs.map WX.v).toArray[j]=xs[j].v:=by simp
 have e2:(ys.map WX.v).toArray[j]=ys[j].v:=by simp
 have e3:decide ((cW xs)[j]? = (cW ys)[j]?)=decide (xs[j].c=ys[j].c):=by
  rw[zE,zE,zl h1',zl h2']
  exact decide_eq_decide.mpr ⟨λq=>AG q,λq=>congrArg some q⟩
 rw[e1,e2,e3]
 exact λprog w E Q hq=>kM hu (hx _ (Ac h1')) (hy _ (Ac h2')) (hk _ (Ac h1') _ (Ac h2')) hq
theorem ss(hl1:s.heap.IsList a (xs.map WX.v).toArray)(hl2:s.heap.IsList d (ys.map WX.v).toArray)(hu:A.units+1<AB)(hx:∀ x∈xs,WH s.heap x)(hy:∀ y∈ys,WH s.heap y)(hk:∀ x∈xs,∀ y∈ys,isR x.v=isR y.v) :
  RcAt A s (.ref a) (.ref d) (decide (cW xs=cW ys)):=by
 by_cases hl:xs.length=ys.length
 ·have:=RcAt.lists (e:=λj=>decide ((cW xs)[j]? = (cW ys)[j]?)) hl1 hl2 (by simpa using hl) (FC hu) (mF (by show A.units+1<AB;exact hu) hx hy hk)
  have e:=nP (cW xs) (cW ys) (by simpa using hl)
  rw[ze] at e
  rw[zg,ze,e] at this
  exact this
 ·have:=RcAt.lists_lengths (A:=A) (s:=s) hl1 hl2 (by simpa using hl) (FC hu)
  rw[decide_eq_false (λq=>hl (by simpa using congrArg CE q))]
  exact this
theorem fX{Q:VP}(hl1:s.heap.IsList a (xs.map WX.v).toArray)(hl2:s.heap.IsList d (ys.map WX.v).toArray)(hu:A.units+1<AB)(hx:∀ x∈xs,WH s.heap x)(hy:∀ y∈ys,WH s.heap y)(hk:∀ x∈xs,∀ y∈ys,isR x.v=isR y.v)
  (h:Q (.bool (decide (cW xs=cW ys))) s):y7 (y6 prog w) A (AK .Eq (.ref a) (.ref d)) Q E s:=ss hl1 hl2 hu hx hy hk prog w E Q h
theorem pR{Q:VP}(hl1:s.heap.IsList a (xs.map WX.v).toArray)(hl2:s.heap.IsList d (ys.map WX.v).toArray)(hu:A.units+1<AB)(hx:∀ x∈xs,WH s.heap x)(hy:∀ y∈ys,WH s.heap y)(hk:∀ x∈xs,∀ y∈ys,isR x.v=isR y.v)
  (h:Q (.bool (!decide (cW xs=cW ys))) s):y7 (y6 prog w) A (AK .NotEq (.ref a) (.ref d)) Q E s:=by
 by_cases hl:xs.length=ys.length
 ·have:=RcNeAt.lists (e:=λj=>decide ((cW xs)[j]? = (cW ys)[j]?)) hl1 hl2 (by simpa using hl) (FC hu) (mF (by show A.units+1<AB;exact hu) hx hy hk)
  have e:=nP (cW xs) (cW ys) (by simpa using hl)
  rw[ze] at e
  rw[zg,ze,e] at this
  exact this prog w E Q h
 ·have:=RcNeAt.lists_lengths (A:=A) (s:=s) hl1 hl2 (by simpa using hl) (FC hu)
  rw[decide_eq_false (λq=>hl (by simpa using congrArg CE q))] at h
  exact this prog w E Q h
end
end
section
open PySem.Spec
theorem kO{α:Type}(f:α->Nat):∀ {l₁ l₂:List α},l₁.Perm l₂->l₁.Pairwise (λa b=>f b<=f a)->l₂.Pairwise (λa b=>f b<=f a)->(∀ a∈l₁,∀ b∈l₁,f a=f b->a=b)->l₁=l₂:=by
 intro l₁
 induction l₁ with
 | nil=>exact λhp Z Z Z=>hp.nil_eq
 | cons a r ih =>
  intro l₂ hp h1 h2 hi
  cases l₂ with
  | nil=>exact hp.eq_nil
  | cons b q =>
   obtain⟨a1,a2⟩:=DQ.mp h1
   obtain⟨b1,b2⟩:=DQ.mp h2
   have hb:b∈a::r:=hp.mem_iff.mpr (.head _)
   have ha:a∈b::q:=hp.mem_iff.mp (.head _)
   have e1:f b<=f a:=by
    rcases za.mp hb with rfl|q
    ·exact zk _
    ·exact a1 b q
   have e2:f a<=f b:=by
    rcases za.mp ha with rfl|q
    ·exact zk _
    ·exact b1 a q
   have e:a=b:=hi a (.head _) b hb (F9 e2 e1)
   subst e
   rw[ih hp.cons_inv a2 b2 λx hx y hy=>hi x (aj hx) y (aj hy)]
structure Ws(w:As)(hb:AJ)(T:LO)(wd:WX)(rw:List WX):Prop where
 hwd:WT T wd
 hrs:∀ p∈rw,WT T p
 kind:∀ p∈rw,isR p.v=isR wd.v
 wlen:wd.c.length<=5
 rlen:∀ p∈rw,p.c.length<=10
 abc:∀ p∈wd::rw,∀ c∈p.c,Abc c
 cnt:rw.length<12
 told0:aP w T wd.v (.str (yZ "") 540) (wd.c=[])
 told:∀ x∈rw,∀ p∈(⟨.str (yZ "") 539,[]⟩:WX)::rw,aP w T x.v p.v (x.c=p.c)
section
variable{T T':LO}{wd:WX}{rw rw':List WX}
theorem Ws.mono(W:Ws w hb T wd rw)(h:∀ p∈T,p∈T'):Ws w hb T' wd rw :=
 ⟨W.hwd.mono h,λp hp=>(W.hrs p hp).mono h,W.kind,W.wlen,W.rlen,W.abc,W.cnt,aP.mono W.told0 h,λx hx p hp=>aP.mono (W.told x hx p hp) h⟩
theorem Ws.sub(W:Ws w hb T wd rw)(h:∀ p∈rw',p∈rw)(hc:rw'.length<12):Ws w hb T wd rw' :=
 ⟨W.hwd,λp hp=>W.hrs p (h p hp),λp hp=>W.kind p (h p hp),W.wlen,λp hp=>W.rlen p (h p hp),λp hp=>W.abc p ((za.mp hp).elim (λq=>q▸.head _) λq=>aj (h p q)),hc,W.told0,
  λx hx p hp=>W.told x (h x hx) p ((za.mp hp).elim (λq=>q▸.head _) λq=>aj (h p q))⟩
noncomputable def rW(wd:List zK)(c:List zK):Nat:=rkW (scr c wd) c
def rI(wd:List zK)(l:List WX):Prop:=l.Pairwise λa b=>rW wd b.c<=rW wd a.c
theorem vK{f g:UInt64}{a b:List zK}(ha:a.length<=10)(hb:b.length<=10)(ca:∀ c∈a,Abc c)(cb:∀ c∈b,Abc c)(h:rkW f a=rkW g b):a=b:=by
 have h1:=fK 10 a ca
 have h2:=fK 10 b cb
 refine (jf 10 a b ha hb ca cb).1.mpr ?_
 unfold rkW at h
 have e:=congrArg (· % 4 ^ 10) h
 simp only[Nat.mul_add_mod_self_right] at e
 rwa [Ld h1,Ld h2] at e
theorem gI(W:Ws w hb T wd rw){P B F:List WX}(hP:P.Perm F)(hB:B.Perm F)(hF:∀ x∈F,x∈rw)(fP:rI wd.c P)(fB:rI wd.c B):cW P=cW B:=by
 refine kO (rW wd.c) ((hP.trans hB.symm).map _) (AX.mpr fP) (AX.mpr fB) λa ha b hb' e=>?_
 obtain⟨x,hx,rfl⟩:=zd.mp ha
 obtain⟨y,hy,rfl⟩:=zd.mp hb'
 have mx:=hF x (hP.mem_iff.mp hx)
 have my:=hF y (hP.mem_iff.mp hy)
 exact vK (W.rlen x mx) (W.rlen y my) (W.abc x (aj mx)) (W.abc y (aj my)) e
variable{Ri:LO}{l:LV}{n:Nat}
theorem tF(G:GK w hb)(B:BM hb)(S:St hb tabs L l T s.heap)(hd:A.depth+40<zj)(hu:A.units+200<AB)(hh:A.handled=none)(C:ut w cut g)(W:Ws w hb T wd rw)
  (hbind:Fn s (dI w.params) args [(yZ "word", wd.v),(yZ "possibilities", .ref pd),(yZ "n", .int n tn),(yZ "cutoff", cut)])
  (IT:rG w hb Ri pd (rw.map WX.v)) (hRi:∀ p∈Ri,p∈T) (hn:0<n) (hg:∀ x∈rw,jr g x.c wd.c=g (scr x.c wd.c))
  (k:∀ (s':zc) (X:LO) (r:zh) (nr:Nat) (P:List WX),Kp s s'->St hb tabs L l ((r,ap ((P.take n).map WX.v) nr)::(X++T)) s'.heap->P.Perm (rw.filter λx=>g (scr x.c wd.c))->rI wd.c P->R (.ok (.ret (.ref r))) s') :
  zW (y6 pw w) A (.call (.ref 286) args) R s:=by
 refine gcm_c G B (nl_c G) S hd hu hh C hbind IT hRi hn (Ak (zN W.cnt (by decide))) W.hwd W.hrs W.told0 W.told (rk:=rkW) (λEs hE=>?_) ?_
 ·refine uC (λe he=>?_) λe he e' he'=>(W.kind _ (hE e he).1).trans (W.kind _ (hE e' he').1).symm
  rw[(hE e he).2]
  exact⟨gH (W.rlen _ (hE e he).1) W.wlen,W.rlen _ (hE e he).1,W.abc _ (aj (hE e he).1)⟩
 ·refine λs' X r nr P K S' hP hf=>k s' X r nr P K S' ?_ hf
  rwa [Fp hg] at hP
end
end
section
variable{tabs:List zh}{pos:Ej}{f:zh}
theorem kB{Q:VP}{e:Expr}{rest:List Expr}{kws:List Keyword}{oc:Value}{od:Option zh}{osl:Array (Option Value)}(G:Gd K tabs hb)(hK:K.lookup f=some ⟨oc,od,.func fd,osl⟩)
  (h:y7 (y6 prog w) A (CH (Cn pos (AM (e::rest) env))) (λvs s₁=>y7 (y6 prog w) A (evalAll ((DX pos (CD kws env)).map (·.2)))
   (λks ag=>(Ex3 λL l T=>St hb tabs L l T ag.heap)/\zW (y6 prog w) A (.call (.ref f) ⟨vs,((DX pos (CD kws env)).filterMap (·.1)).zip ks⟩) (λr s'=>match r with|.ok (.ret v)=>Q v s'|.ok _=>False|.error e=>E e s') ag) E s₁) E s)
  (hall:(DX pos (CD kws env)).all (·.1.isSome)=true:=by rfl) (he:AM (e::rest) env=(false,Ax e env)::AM rest env:=by rfl) :
  y7 (y6 prog w) A (DW pos (.ref f) [] (Cn pos (AM (e::rest) env)) (DX pos (CD kws env))) Q E s:=by
 refine callWith_def_kw (o:=⟨oc,od,.func fd,osl⟩) (fd:=fd) rfl (evalArgs_kw2 hall ?_ he)
 refine zi h (λvs s₁ z=>zi z (λks ag z=>?_) λZ Z q=>q) λZ Z q=>q
 obtain⟨⟨L,l,T,S⟩,z⟩:=z
 exact⟨S.kin G f _ hK,BU z⟩
end
section
open PySem.Spec
noncomputable abbrev nmSO (e:Sc):LV:=[(yZ "one", e.x.v),(yZ "share", .float e.f e.ft)]
section
variable{ag:zc}{tabs:List zh}{T X own:LO}{acc:List Value}{c:Nat}{ce:II}{cond:Expr}{kx:Nat}{J:List Value->LO->Prop}{E':VP}{b:Bool}
theorem mG(e:Sc)(hh:A.handled=none)(S:St hb tabs C [] ((D,ap acc c)::(X++((L,oL)::T))++own) ag.heap)(hm:(e.a,aG [.float e.f e.ft,e.x.v])∈T)(hL:ce.locals=C)(K:Kp s ag)
  (hc:∀ (s5:zc) (Tt:LO) (Q:BP) (E:VP),(∀ q∈T,q∈Tt)->St hb tabs C (nmSO e) Tt s5.heap->(∀ s6,Kp s5 s6->St hb tabs C (nmSO e) Tt s6.heap->Q b s6)->y7 (y6 prog w) A (isTrue cond ce (Ax cond ce)) Q E s5)
  (hJ:b=true->J (acc++[e.x.v]) X) (hJ':b=false->J acc X)
  (h1:oz ce.scope (ce.kindOf (yZ "share")) (yZ "share")=true) (h2:oz ce.scope (ce.kindOf (yZ "one")) (yZ "one")=true) :
  xw prog w A hb tabs (.Tuple [.Name (yZ "share") p1,.Name (yZ "one") p2] kx p) (.Name (yZ "one") p3) [cond] C D L oL T own ce acc c (Kp s) J E' (.ref e.a) ag:=by
 refine cH hh S (y8 _ (aj (y5 _ (aj hm)))) ?_
 intro ak ae
 subst hL
 refine aZ (aT (env:=ce) ae (.new (by kernel_rfl)) ?_ (uP h1))
 refine λau S4=>aZ (aT (env:=ce) S4 (.new (by kernel_rfl)) ?_ (uP h2))
 refine λax S5=>cD (LU (hc _ _ _ _ (λq hq=>y8 _ (aj (y5 _ (aj hq)))) S5 ?_))
 intro s6 K6 S6
 cases b with
 | true =>
  refine ay (env:=ce) S6 m0 ?_ h2
  exact⟨X,_,(kt K K6),S6,hJ rfl⟩
 | false=>exact⟨X,_,(kt K K6),S6,hJ' rfl⟩
end
section
variable{sc:zh}{T:LO}{l:LV}{wd:WX}{rw:List WX}{n nsc:Nat}{Es:List Sc}
theorem ub {a:Value}{pd:zh}{n:Int}{tn:AQ}{cut:Value} (G:GK w hb) (S:St hb tabs L l T s.heap):Fn s (dI w.params) ⟨[a,.ref pd],[(yZ "n", .int n tn),(yZ "cutoff", cut)]⟩
  [(yZ "word", a),(yZ "possibilities", .ref pd),(yZ "n", .int n tn),(yZ "cutoff", cut)]:=BB (o:=uJ w.params) rfl (S.kin G 281 _ (by kernel_rfl)) rfl rfl rfl
theorem rA{a:Value}{pd:zh}{n:Int}{tn:AQ}{cut:Value}(G:GK w hb)(S:St hb tabs L l T s.heap):Fn s (dI w.params) ⟨[a,.ref pd,.int n tn,cut],[]⟩
  [(yZ "word", a),(yZ "possibilities", .ref pd),(yZ "n", .int n tn),(yZ "cutoff", cut)]:=BB (o:=uJ w.params) rfl (S.kin G 281 _ (by kernel_rfl)) rfl rfl rfl
structure Scd(w:As)(T:LO)(wd:WX)(rw:List WX)(Es:List Sc):Prop where
 ok:SXk T Es
 perm:(Es.map Sc.x).Perm rw
 f:∀ e∈Es,e.f=scr e.x.c wd.c
 falls:rI wd.c (Es.map Sc.x)
noncomputable abbrev aL(g:UInt64->Bool)(Es:List Sc):List WX:=(Es.filter λe=>g e.f).map Sc.x
theorem Scd.best(H:Scd w T wd rw Es):(aL g Es).Perm (rw.filter λx=>g (scr x.c wd.c))/\rI wd.c (aL g Es)/\∀ x∈aL g Es,x∈rw:=by
 have e:aL g Es=(Es.map Sc.x).filter λx=>g (scr x.c wd.c):=by
  rw[List.filter_map]
  unfold aL
  congr 1
  refine Fp λe he=>?_
  show g e.f=g (scr e.x.c wd.c)
  rw[H.f e he]
 have hp:(aL g Es).Perm (rw.filter λx=>g (scr x.c wd.c)):=by rw[e];exact H.perm.filter _
 refine⟨hp,?_,λx hx=>(BC.mp (hp.mem_iff.mp hx)).1⟩
 rw[e]
 exact H.falls.filter _
theorem xg(G:GK w hb)(B:BM hb)(S:St hb tabs L l T s.heap)(hd:A.depth+60<zj)(hu:A.units+300<AB)(hh:A.handled=none)(C:ut w cut g)(W:Ws w hb T wd rw)
  (hg:∀ x∈rw,jr g x.c wd.c=g (scr x.c wd.c)) (hpd:(pd,ap (rw.map WX.v) np)∈T) (hsc:(sc,ap (aB Es) nsc)∈T) (H:Scd w T wd rw Es) (hn:0<n) (hn60:n<=60)
  (k:∀ (s':zc) (X:LO),Kp s s'->St hb tabs L l (X++T) s'.heap->R (.ok (.ret (.bool true))) s') :
  zW (y6 pw w) A (.call (.ref 326) ⟨[wd.v,.ref pd,.ref sc,.int n tn,cut],[]⟩) R s:=by
 refine rr (lb:=[(yZ "word", wd.v),(yZ "some", .ref pd),(yZ "scored", .ref sc),(yZ "many", .int n tn)]) (cn:=yZ "cutoff") (cv:=cut) G S (lk326 _) (dn 60 hd)
  (binds:=[(yZ "word", wd.v),(yZ "some", .ref pd),(yZ "scored", .ref sc),(yZ "many", .int n tn),(yZ "cutoff", cut)]) (body:=aD (st1 pw 17)) (Ba (by kernel_rfl)) ?_
  (λL'=>by kernel_rfl) (λL' p hp=>?_) (λL'=>rfl) (λy hy=>?_) (dG (by kernel_rfl))
 case refine_2 =>
  rcases za.mp hp with rfl|hp
  ·rfl
  rcases za.mp hp with rfl|hp
  ·rfl
  rcases za.mp hp with rfl|hp
  ·rfl
  rw[y9] at hp;subst hp;rfl
 case refine_3 =>
  rcases za.mp hy with rfl|hy
  ·exact .inl (by kernel_rfl)
  rcases za.mp hy with rfl|hy
  ·exact .inl (by kernel_rfl)
  rcases za.mp hy with rfl|hy
  ·exact .inl (by kernel_rfl)
  rcases za.mp hy with rfl|hy
  ·exact .inl (by kernel_rfl)
  rw[y9] at hy;subst hy;exact .inr ⟨by kernel_rfl,rfl⟩
 intro L' s₁ oL ob r hob ar ah
 have hel:Es.length<12:=by
  have:=H.perm.length_eq
  rw[ze] at this
  rw[this];exact W.cnt
 have hT:∀ p∈T,p∈((L'+1,ob)::(L,oL)::T):=λp hp=>aj (aj hp)
 refine iM (hb:=hb) (tabs:=tabs) (cl:=[(yZ "cutoff", L'+1)]) (l':=λD=>[(yZ "best", .ref D),(yZ "word", wd.v),(yZ "some", .ref pd),(yZ "scored", .ref sc),(yZ "many", .int n tn)]) hh ?_ rfl rfl (.inr ⟨_,_,_,rfl⟩) rfl (by decide) rfl (by decide)
 refine ay (env:=zB (eJ w.params) L' 326) ah m2 ⟨_,_,sc,aB Es,nsc,λi acc X=>X=[]/\acc=(aL g (Es.take i)).map WX.v,⟨rfl,ah,hT _ hsc,by rw[aJ];exact ul 988 hel,⟨rfl,rfl⟩,?_⟩,λD=>.new (by kernel_rfl),?_⟩
 ·rintro C' D oL' E' i v acc c X own ag hi hacc ⟨rfl,hJ⟩ bp ao af
  have hv:∃ e,Es[i]? = some e/\v=.ref e.a:=by
   rw[aB,zE] at hi
   obtain⟨e,h1,h2⟩:=z0.mp hi
   exact⟨e,h1,h2.symm⟩
  obtain⟨e,he,rfl⟩:=hv
  have hst:aL g (Es.take (i+1))=aL g (Es.take i)++if g e.f then [e.x] else []:=by
   unfold aL
   rw[Am,he,Bx,zG]
   cases h:g e.f<;> simp[h]
  refine mG (b:=g e.f) e hh af (hT _ (H.ok e (zp he)).1) rfl ao ?_ (λhb'=>⟨rfl,?_⟩) (λhb'=>⟨rfl,?_⟩) (by kernel_rfl) (by kernel_rfl)
  ·exact λs5 Tt Q E hTt S5 hQ=>wpAny_isTrue_Compare1 (ay (env:=At _ _ C' _) S5 m1 (bI (env:=At _ _ C' _) (c:=L'+1) S5 (hTt _ (.head _)) hob (C.ge (zb (hQ _ Kp.refl S5)))))
  ·rw[hst,if_pos hb',hJ,zG];rfl
  ·rw[hst,if_neg (by rw[hb'];exact zR),hJ,Aq]
 ·rintro ag bd acc c X ao af f9 ⟨rfl,hacc⟩
  rw[aJ,z4] at hacc
  subst hacc
  replace ao:Kp s ag:=kt ar ao
  obtain⟨hBp,hBf,hBm⟩:=H.best (g:=g)
  rw[Dm] at af
  refine aC (eD (cG (env:=zB (eJ w.params) L' 326) G af (v:=.ref 286) (by kernel_rfl) (kB G (oA _) (al (env:=zB (eJ w.params) L' 326) af m1 (args_cons (pi (hb:=hb) (tabs:=tabs) (ay (env:=zB (eJ w.params) L' 326) af m2 ?_)))))))
  refine Ea (wpAny_Constant_int (Ko ⟨L',_,_,pd,rw.map WX.v,np,_,rfl,rfl,by exact af,aj (hT _ hpd),by rw[ze];exact W.cnt,?_⟩))
  refine λD2 X2 ak ae=>zq (Ex (wpAny_BinOp (wpAny_Constant_int (wpAny_Constant_int (Lf (by decide) (by decide) (by decide) (by decide) (by decide +kernel) (Ex (bI (env:=zB (eJ w.params) L' 326) (c:=L'+1) ae (aj (y5 _ (aj (.head _)))) hob ?_)))))))
  refine Jt ⟨⟨_,_,_,by exact ae⟩,?_⟩
  have hT3:∀ p∈T,p∈((D2,ap (rw.map WX.v).reverse 0)::(X2++((bd,ap ((aL g Es).map WX.v) c)::(L'+1,ob)::(L,oL)::T))):=λp hp=>aj (y5 _ (aj (hT p hp)))
  have W3:=(W.mono hT3).sub (rw':=rw.reverse) (λp hp=>FN.mp hp) (by rw[C3];exact W.cnt)
  refine tF (n:=100000000000000000000) (g:=g) G B ae (by show A.depth+1+40<zj;exact dn 19 hd) (by show A.units+3+200<AB;exact dn 97 hu) hh C W3 (ub G ae) (by rw[List.map_reverse];exact gG (n:=0)) (λp hp=>by rw[y9] at hp;subst hp;exact .head _) (by decide) (λx hx=>hg x (FN.mp hx)) ?_
  intro s4 X4 ck nr4 P4 K4 S4 hP4 hf4
  have hF:∀ x∈rw.filter (λx=>g (scr x.c wd.c)),x∈rw:=λx hx=>(BC.mp hx).1
  have hP4':P4.Perm (rw.filter λx=>g (scr x.c wd.c)):=hP4.trans ((Eh rw).filter _)
  have d0:=gI W hP4' hBp hF hf4 hBf
  have e8:P4.take 100000000000000000000=P4:=C5 (by
   rw[hP4'.length_eq]
   exact zn (BO _ _) (zn (Ak W.cnt) (by decide)))
  rw[e8] at S4
  have fb:∀ x∈P4,x∈rw:=λx hx=>hF x (hP4'.mem_iff.mp hx)
  replace K4:Kp s s4:=kt ao K4
  have S5:=S4.sub (T':=(ck,ap (P4.map WX.v) nr4)::(bd,ap ((aL g Es).map WX.v) c)::(L'+1,ob)::(L,oL)::T) (Nf _ (((Ai X2 _).trans (zo _ _)).trans (Ai X4 _)))
  refine aT (env:=zB (eJ w.params) L' 326) S5 (.new (by kernel_rfl)) (λaz S6=>restate S6 λs6 K6 S6=>?_)
  replace K6:Kp s s6:=kt K4 K6
  clear af ae S4 S5
  refine cO (MF (wpAny_Compare1 (uX (env:=zB (eJ w.params) L' 326) G S6 (v:=.ref 286) (by kernel_rfl) (al (env:=zB (eJ w.params) L' 326) S6 m2 (al (env:=zB (eJ w.params) L' 326) S6 m3 (al (env:=zB (eJ w.params) L' 326) S6 m5 (args_cons ?_)))))))
  refine bI (env:=zB (eJ w.params) L' 326) (c:=L'+1) S6 m2 hob (zq ⟨⟨_,_,_,S6⟩,?_⟩)
  have hT6:∀ p∈T,p∈(ck,ap (P4.map WX.v) nr4)::(bd,ap ((aL g Es).map WX.v) c)::(L'+1,ob)::(L,oL)::T:=λp hp=>aj (aj (hT p hp))
  refine tF (n:=n) (g:=g) G B S6 (by show A.depth+1+40<zj;exact dn 19 hd) (by show A.units+3+200<AB;exact dn 97 hu) hh C (W.mono hT6) (rA G S6) (gG (n:=np)) (λp hp=>by rw[y9] at hp;subst hp;exact hT6 _ hpd) hn hg ?_
  intro s7 X7 r7 nr7 P7 K7 S7 hP7 hf7
  have e7:=gI W hP7 hBp hF hf7 hBf
  have fe:∀ x∈P7,x∈rw:=λx hx=>hF x (hP7.mem_iff.mp hx)
  replace K7:Kp s s7:=kt K6 K7
  refine gE (hb:=hb) (tabs:=tabs) (ay (env:=zB (eJ w.params) L' 326) S7 m1 (ay (env:=zB (eJ w.params) L' 326) S7 m5 ⟨L',_,_,bd,(aL g Es).map WX.v,c,n,tn,rfl,rfl,S7,aj (y5 _ (aj (.head _))),?_,?_⟩))
  ·rw[ze,hBp.length_eq]
   exact zn (BO _ _) (zn (Ak W.cnt) (by decide))
  intro D8 X8 bc S8
  rw[<- Cg] at S8
  have hWH:∀ {T':LO}{h':AJ}{l':LV}{fu:zh},St hb tabs fu l' T' h'->(∀ p∈T,p∈T')->∀ x∈rw,WH h' x:=λS' hs x hx=>((W.hrs x hx).mono hs).wh S'
  have hT8:∀ p∈T,p∈(D8,ap ((FS n (aL g Es)).map WX.v) 0)::(X8++((r7,ap ((P7.take n).map WX.v) nr7)::(X7++((ck,ap (P4.map WX.v) nr4)::(bd,ap ((aL g Es).map WX.v) c)::(L'+1,ob)::(L,oL)::T)))) :=
   λp hp=>aj (y5 _ (aj (y5 _ (hT6 p hp))))
  have hkk:∀ x∈rw,∀ y∈rw,isR x.v=isR y.v:=λx hx y hy=>(W.kind x hx).trans (W.kind y hy).symm
  refine fX (xs:=P7.take n) (ys:=(aL g Es).take n) ⟨_,S8.obj _ (aj (y5 _ (.head _))),rfl,nr7,rfl⟩ ⟨_,S8.obj _ m0,rfl,0,rfl⟩ (by show A.units+3+1<AB;exact dn 296 hu)
   (λx hx=>hWH S8 hT8 x (fe x (AI hx))) (λx hx=>hWH S8 hT8 x (hBm x (AI hx))) (λx hx y hy=>hkk x (fe x (AI hx)) y (hBm y (AI hy))) ?_
  rw[decide_eq_true (show cW (P7.take n)=cW ((aL g Es).take n) by show (P7.take n).map WX.c=((aL g Es).take n).map WX.c;rw[Cg,Cg];exact congrArg (FS n) e7)]
  refine zb ?_
  rw[if_pos rfl]
  refine BoolOp_one (wpAny_Compare1 (ay (env:=zB (eJ w.params) L' 326) S8 m0 (ay (env:=zB (eJ w.params) L' 326) S8 m1 ?_)))
  refine fX (xs:=P4) (ys:=aL g Es) ⟨_,S8.obj (ck,_) (aj (y5 _ (aj (y5 _ (.head _))))),rfl,nr4,rfl⟩ ⟨_,S8.obj (bd,_) (aj (y5 _ (aj (y5 _ (aj (.head _)))))),rfl,c,rfl⟩ (by show A.units+3+1<AB;exact dn 296 hu)
   (λx hx=>hWH S8 hT8 x (fb x hx)) (λx hx=>hWH S8 hT8 x (hBm x hx)) (λx hx y hy=>hkk x (fb x hx) y (hBm y hy)) ?_
  rw[decide_eq_true d0]
  have S9:=S8.perm (T':=(L,oL)::(((D8,ap ((FS n (aL g Es)).map WX.v) 0)::(X8++((r7,ap ((P7.take n).map WX.v) nr7)::(X7++[(ck,ap (P4.map WX.v) nr4),(bd,ap ((aL g Es).map WX.v) c),(L'+1,ob)]))))++T)) (by
   have e:(D8,ap ((FS n (aL g Es)).map WX.v) 0)::(X8++((r7,ap ((P7.take n).map WX.v) nr7)::(X7++((ck,ap (P4.map WX.v) nr4)::(bd,ap ((aL g Es).map WX.v) c)::(L'+1,ob)::(L,oL)::T)))) =
    ((D8,ap ((FS n (aL g Es)).map WX.v) 0)::(X8++((r7,ap ((P7.take n).map WX.v) nr7)::(X7++[(ck,ap (P4.map WX.v) nr4),(bd,ap ((aL g Es).map WX.v) c),(L'+1,ob)]))))++((L,oL)::T):=by simp
   rw[e];exact zv)
  exact k _ _ ⟨K7.os,K7.gens⟩ (S9.leave 0 rfl r)
end
end
section
open PySem.Spec PySem.SeqAt
section
variable{tabs:List zh}{a:zh}{l:LV}{T:LO}{vs us:List Value}{n k:Nat}
theorem pZ{Q:VP}(S:St hb tabs L l T s.heap)(h1:(a,ap vs n)∈T)(h2:(d,ap us k)∈T)(hz:vs.length+us.length<=1000)(h:∀ D h',St hb tabs L l ((D,ap (vs++us) 0)::T) h'->Q (.ref D) (wh s h')) :
  y7 (y6 prog w) A (EQ .Add (.ref a) (.ref d)) Q E s:=by
 have ho:=S.obj _ h1
 have ho2:=S.obj _ h2
 have e:vs.toArray++us.toArray=(vs++us).toArray:=by simp
 refine concat_meets ⟨_,ho,rfl⟩ ⟨_,ho2,rfl⟩ noFill_list_add seq_list_add PySem.F.slot_list_add PySem.F.entry_list_add (PySem.F.args_list_add_2 _ _) (list_addW a d vs.toArray us.toArray n k none none #[] #[] (by rw[zz,zg,zg];exact zay hz)) ⟨ho,ho2,?_⟩
 rw[e]
 exact h _ _ (S.push (ap (vs++us) 0))
theorem xQ{x:Int}{u:AQ}{Q:VP}(S:St hb tabs L l T s.heap)(h1:(a,ap vs n)∈T)(hne:vs≠[])(hlo:0<=x)(hhi:x<=100)(hz:vs.length<=1000)(h:∀ D h',St hb tabs L l ((D,ap (G1 x.toNat vs).flatten 0)::T) h'->Q (.ref D) (wh s h')) :
  y7 (y6 prog w) A (EQ .Mult (.ref a) (.int x u)) Q E s:=by
 have hl:=S.obj _ h1
 have hsz:vs.length * x.toNat<=100000:=by
  have:x.toNat<=100:=zax hhi
  exact zn (Nat.mul_le_mul hz this) (by decide)
 have e:(List.foldl (λx1 x2=>x1++x2) (#[]:Array Value) (G1 (if vs.toArray.isEmpty=true then 0 else x.toNat) vs.toArray))=(G1 x.toNat vs).flatten.toArray:=listMul_foldl_if vs.toArray x.toNat
 refine wpAny_binaryOp_repeat_ref (T := "list") (U := "int") (by decide) ⟨_,hl,rfl⟩ (λs'=>It s' x u) noFill_list_mul PySem.F.fills_int_mul IR repeat_list PySem.F.slot_int_index.lookup
  (Ic IR (It s x u) PySem.F.entry_int_rmul (PySem.F.args_int_rmul_2 _ _) (int___rmul___int_list x u a vs.toArray n)
   ⟨hl,rfl,⟨_,hl,rfl⟩,Ic PySem.F.slot_list_mul ⟨_,hl,rfl⟩ PySem.F.entry_list_mul (PySem.F.args_list_mul_2 _ _)
    (AutoListH.list___mul___list_int_3 a vs.toArray n x u (by simp[MG];exact zb1 hlo hhi) (by rw[zg];lia) (by simp[MR,DY];exact zb4 hsz))
    ⟨hl,?_⟩⟩)
 rw[e]
 exact h _ _ (S.push (ap (G1 x.toNat vs).flatten 0))
theorem sw {o:AR}{c:String}{Q:VP} (S:St hb tabs L l T s.heap) (hT:c = "list" \/ c = "tuple") (ho:s.heap.get? a=some o) (hc:o.cls=.type c) (hd:o.data=.seq vs.toArray n) (hz:vs.length<=1000)
  (h:∀ D c' h',St hb tabs L l ((D,ap vs c')::T) h'->Q (.ref D) (wh s h')):y7 (y6 prog w) A (call (.type "list") [.ref a]) Q E s:=by
 refine call_list_seq a hT ho hc hd (λh' c' hk hn=>?_) (by rw[zz,zg];exact up 16776216 hz)
 have S':=S.adds (own:=[(s.heap.objs.size,ap vs c')]) hk (λp hp=>by rw[y9] at hp;subst hp;exact hn) (λp hp=>by rw[y9] at hp;subst hp;exact zk _) (by simp)
 exact h _ c' h' S'.front
theorem lK{Q:VP}{value e:Expr}{p pos:Ej}
  (h:y7 (y6 prog w) A (Ax value env) (λo s₁=>y7 (y6 prog w) A (Ax e env) (λvu ag=>Ex6 λL l T d b tb=>∃ vs:List Value,An6 (o=.ref d) (vu=.int ((b:Nat):Int) tb) (St hb tabs L l T ag.heap) (ag.heap.IsList d vs.toArray) (vs.length<=1000) (∀ D X h',St hb tabs L l ((D,ap (vs.take b) 0)::(X++T)) h'->Q (.ref D) (wh ag h'))) E s₁) E s) :
  y7 (y6 prog w) A (Ax (.Subscript value (.Slice none (some e) none p) pos) env) Q E s:=by
 refine cE (zi h (λo s₁ ai=>?_) λZ Z e=>e)
 refine F0 ?_
 rw[Ec]
 refine y4 ?_
 rw[HD]
 refine zi ai (λvu ag am=>?_) λZ Z e=>e
 obtain⟨L,l,T,d,b,tb,vs,rfl,rfl,S,hl,hz,hQ⟩:=am
 refine y4 ?_
 have ah:=(S.push { cls:=.type "slice", data:=.fields #[.none,.int ((b:Nat):Int) tb,.none] }).push { cls:=.type "list", data:=.seq (Gz vs.toArray none (some ((b:Nat):Int)) none) }
 rw[Gh _ _] at ah
 refine⟨(hl.push _).typeIs,Dz (hl.push _) (DS ..) .none (.int _ _) .none (by simp) ?_ (by rw[zz,zg];exact up 16776216 hz)⟩
 rw[Gh _ _]
 exact hQ _ [(_,_)] _ ah
theorem tP{A:AU}{s:zc}(x y:zK)(t u:AQ):EqAt A s (.str x t) (.str y u) (x==y):=λprog w E Q hq=>E9 hq
theorem ui(xs ys:List (zK×AQ))(hl:xs.length=ys.length):((zQ xs.length).all λj=>(xs.map (·.1))[j]? == (ys.map (·.1))[j]?)=decide (xs.map (·.1)=ys.map (·.1)):=by
 by_cases h:xs.map (·.1)=ys.map (·.1)
 ·rw[decide_eq_true h,h]
  simp
 ·rw[decide_eq_false h]
  rw[Kz]
  refine BF λhc=>h ?_
  apply Cx
  intro j
  by_cases hj:j<xs.length
  ·refine BF λhne=>hc ⟨j,zV.mpr hj,?_⟩
   exact λq=>hne (Aw q)
  ·rw[zT (by simp;exact z0c hj),zT (by simp;exact zaz hl hj)]
section
variable{xs ys:List (zK×AQ)}
theorem vq(hl:xs.length=ys.length):∀ j (h1:j<(xs.map aM).toArray.size) (h2:j<(ys.map aM).toArray.size),EqAt A.in1 s (xs.map aM).toArray[j] (ys.map aM).toArray[j] ((xs.map (·.1))[j]? == (ys.map (·.1))[j]?):=by
 intro j h1 h2
 have h1':j<xs.length:=by simpa using h1
 have h2':j<ys.length:=by simpa using h2
 have e1:(xs.map aM).toArray[j]=aM xs[j]:=by simp
 have e2:(ys.map aM).toArray[j]=aM ys[j]:=by simp
 have e3:((xs.map (·.1))[j]? == (ys.map (·.1))[j]?)=(xs[j].1==ys[j].1):=by
  rw[zE,zE,zl h1',zl h2']
  rfl
 rw[e1,e2,e3]
 exact tP _ _ _ _
theorem mR{Q:VP}(hl1:s.heap.IsList a (xs.map aM).toArray)(hl2:s.heap.IsList d (ys.map aM).toArray)(hu:A.units<AB)(h:Q (.bool (!decide (xs.map (·.1)=ys.map (·.1)))) s):y7 (y6 prog w) A (AK .NotEq (.ref a) (.ref d)) Q E s:=by
 by_cases hl:xs.length=ys.length
 ·have:=RcNeAt.lists (e:=λj=>(xs.map (·.1))[j]? == (ys.map (·.1))[j]?) hl1 hl2 (by simpa using hl) hu (vq hl)
  rw[zg,ze,ui xs ys hl] at this
  exact this prog w E Q h
 ·have:=RcNeAt.lists_lengths (A:=A) (s:=s) hl1 hl2 (by simpa using hl) hu
  rw[decide_eq_false (λq=>hl (by simpa using congrArg CE q))] at h
  exact this prog w E Q h
end
end
end
structure jk(v:Value)(x:zK):Prop where
 obj:∀ {prog:Bm}{w:As}{A:AU}{E:VP}{s:zc}{Q:VP},Q (.str x s.toks) (wt s (s.toks+1))->y7 (y6 prog w) A (pyReprObj v) Q E s
 call:∀ {prog:Bm}{w:As}{A:AU}{E:VP}{s:zc}{Q:VP},Q (.str x s.toks) (wt s (s.toks+1))->y7 (y6 prog w) A (call (.builtin "repr") [v]) Q E s
 len:x.length<=1000
theorem lN{a:Int}{t:AQ}{x:zK}(e:yZ (toString a)=x)(ha:a.natAbs.log2<1920)(hl:x.length<=1000):jk (.int a t) x :=
 ⟨λh=>pyReprObj_int ha (by rw[<- e] at h;exact h),λh=>LW (It _ a t) F.slot_int_repr F.entry_int_repr (F.args_int_repr_1 _) (gives_int_repr a t ha) (by rw[<- e] at h;exact h) (hx:=int_text_fits ha),hl⟩
theorem kZ{f:UInt64}{t:AQ}{x:zK}(e:yZ (Float64.repr f)=x)(hl:x.length<=1000):jk (.float f t) x :=
 ⟨λh=>pyReprObj_float (by rw[<- e] at h;exact h) (hx:=by rw[e,zz];exact up 16776216 hl),λh=>LW (typeIs_float _ f t) F.slot_float_repr F.entry_float_repr (F.args_float_repr_1 _) (gives_float_repr f t) (by rw[<- e] at h;exact h) (hx:=by rw[e,zz];exact up 16776216 hl),hl⟩
theorem q0(d:zK):PySem.Str.empty++d=d:=KPc.empty_app d
theorem yP{env:II}{lit txt:zK}{x:zK}{v:Value}{k1:Nat}{p1 p2 p3 p4:Ej}(Rv:jk v txt)(hl:lit.length<=1000){Q:VP}
  (hv:∀ {s':zc}{Q:VP}{E:VP},s'.heap=s.heap->Q v s'->y7 (y6 prog w) A (Ax (.Name x p2) env) Q E s')
  (hQ:∀ tk t,Q (.str (lit++txt) tk) (wt s t)) :
  y7 (y6 prog w) A (Ax (.JoinedStr [.Constant (.str lit) k1 p1,.FormattedValue (.Name x p2) 114 none p3] p4) env) Q E s:=by
 have h1:(lit++txt).length<=DY:=by
  rw[PySem.Str.length_append,zz];have:=Rv.len;exact y6k hl this
 have h2:txt.length<=DY:=by rw[zz];have:=Rv.len;exact up 16776216 this
 refine wpAny_JoinedStr (wpAny_Constant_str ⟨lit,_,rfl,by rw[q0,zz];exact up 16776216 hl,?_⟩)
 rw[q0]
 refine wpAny_FormattedValue_repr (hv rfl (Rv.obj ?_))
 refine wpAny_formatField_str (⟨txt,_,rfl,h1,h1,hQ _ _⟩) (⟨txt,_,rfl,h1,h1,hQ _ _⟩) h2
section
open PySem.Spec
section
variable{tabs:List zh}{l:LV}{T:LO}
theorem rq{R:Cm->zc->Prop}{oc:Value}{od:Option zh}{osl:Array (Option Value)}{args:M5}{binds:LV}{body:List Cv}
  (G:Gd K tabs hb) (S:St hb tabs L l T s.heap) (ho:K.lookup fa=some ⟨oc,od,.func fd,osl⟩) (hroom:A.depth<zj)
  (hbind:Fn s fd args binds)
  (h:∀ L' ai oL,bL oL l->St hb tabs L' binds ((L,oL)::T) ai->(∀ b o,s.heap.get? b=some o->ai.get? b=some o)->(∀ base:AJ,base.StaysIn s.heap->base.get? L'=none) ->
   y7 (y6 prog w) (A.deeper (Ah fd L' fa)) (z5 body (Ah fd L' fa)) (kFn R)
    (kLv (y6 prog w) (A.deeper (Ah fd L' fa)) (Ah fd L' fa) R)
    (wht s ai (s.toks+binds.length)))
  (hft:fa∉tabs:=by decide)
  (hcd:∀ hh:AJ,K.In hh->hh.CodeRec fd.code fd.qualname:=by exact crO (by kernel_rfl))
  (hct:(match fd.code with|.ref c=>tabs.contains c|_=>false)=false:=by kernel_rfl)
  (hbody:fd.body=.stmts body:=by kernel_rfl)
  (hcell:(fd.scope.names.all λx=>x.2 != .cell)=true:=by kernel_rfl) (hloc:(binds.all λx=>fd.scope.names.lookup x.1==some .local)=true:=by kernel_rfl)
  (hnd':fZ (binds.map (·.1))=true:=by kernel_rfl)
  (hco:fd.scope.isCoroutine=false:=by kernel_rfl) (hgen:fd.scope.isGenerator=false:=by kernel_rfl) (hk:fd.scope.kind=.function:=by kernel_rfl) :
  zW (y6 prog w) A (.call (.ref fa) args) R s:=by
 have hnd:=dG hnd'
 have hcr:s.heap.CodeRec fd.code fd.qualname:=by
  obtain⟨c,o,vs,t,e1,e2,e3,e4⟩:=hcd hb G.k
  refine⟨c,o,vs,t,e1,S.old e2 (λq=>?_),e3,e4⟩
  rw[e1] at hct
  have hct':tabs.contains c=false:=hct
  rw[AZ.mpr q] at hct'
  nomatch hct'
 refine KP (fd:=fd) (body:=body) (binds:=binds) hroom (S.old (G.k _ _ ho) hft) rfl (S.lim G) hcr hbody hbind
  (λy hy=>by have:=zF.mp hcell y hy;simpa using this) (λy hy=>by have:=zF.mp hloc y hy;simpa using this) (λai hns b6=>?_) hco hgen hk
 have hfm:Fm ai s.heap.objs.size binds:=Fm.of_ns hns (λp hp=>jG binds hnd hp) hnd
 obtain⟨oL,r,S'⟩:=S.enter (L':=s.heap.objs.size) rfl hfm b6
 exact h _ ai oL r S' b6 λbase hs=>hs.fresh
structure Fly(base:AJ)(fr:List II)(e:zh)(msg:zK)(h₀ h:AJ):Prop where
 fl:∃ t,Heap.FlyingW base fr e (.type "ValueError") (.ref t) h/\(∃ tk,h.TupAt t [.str msg tk])/\base.get? t=none
 sl:h₀.UpToSlots h
theorem lp{f:Value}{e:Expr}{pos:Ej}{env:II}{M:HL}{Q:M5->zc->Prop}(h:y7 M A (Ax e env) (λv s'=>Q ⟨[v],[]⟩ s') E s)(he:AM [e] env=[(false,Ax e env)]:=by rfl) :
  y7 M A (Nn f true (Cn pos (AM [e] env)) []) Q E s:=by
 have h1:y7 M A (CH (Cn pos (AM [e] env))) (λvs s'=>Q ⟨vs,[]⟩ s') E s:=args_cons (zi h (λv s' q=>zq q) λZ Z x=>x) he
 rw[he] at h1 ⊢
 exact Mb h1
theorem qd{env:II}{fr:List II}{base h₀:AJ}{np cpos pos:Ej}{arg:Expr}{msg:zK}{rest:List Cv}{Q:FP}{R:Cm->zc->Prop}(G:Gd K tabs hb)(S:St hb tabs L l T s.heap)(hh:A.handled=none)
  (hfr:A.frames=some (env::fr)) (hf:env.frame=some L) (hst:base.StaysIn s.heap) (hF:s.heap.FunFrames base (env::fr)) (hsl:h₀.UpToSlots s.heap)
  (ha:∀ {Q:VP}{E:VP},(∀ h' tk t,(∀ b o,s.heap.get? b=some o->h'.get? b=some o)->Q (.str msg tk) (wht s h' t))->y7 (y6 prog w) A (Ax arg env) Q E s)
  (k:∀ s' e,Kp s s'->Fly base fr e msg h₀ s'.heap->R (.error (.ref e)) s')
  (hv:y7 (y6 prog w) A (Ax (.Name (yZ "ValueError") np) env) (λf s₁=>f=.type "ValueError" /\ s₁=s) (λZ Z=>False) s)
  (he:AM [arg] env=[(false,Ax arg env)]:=by rfl) :
  y7 (y6 prog w) A (z5 (.Raise (some (.Call (.Name (yZ "ValueError") np) [arg] [] cpos)) none pos::rest) env) Q
   (kLv (y6 prog w) A env R) s:=by
 refine z9 (wpAny_Raise_call PySem.F.excCall_ValueError PySem.F.excRaise_ValueError hh (by rw[he];rfl) ?_)
 refine zi hv (λf s₁ ai=>?_) λZ Z x=>x.elim
 obtain⟨rfl,rfl⟩:=ai
 refine⟨rfl,lp (he:=he) (ha λh' tk t hk=>⟨rfl,(by rw[zz];show 1<=16777216;decide),λam e hm=>?_⟩)⟩
 exact wpAny_leaves_madeW (h:=h') hfr hf (λb o q=>hk b o (hst b o q)) (hF.of_keeps λb o q Z=>⟨o,hk b o q,rfl⟩) (Heap.MadeExc.of hm) λak bx x1 x2 x3 x4=>(k _ e ⟨rfl,id⟩ ⟨⟨bx,x1,⟨tk,x2⟩,x3⟩,hsl.trans (((CY hk).trans (CY (Heap.MadeExc.of hm).keeps)).trans x4)⟩)
end
structure jP(cut:Value)(b:Bool):Prop where
 lo:∀ {w:As}{A:AU}{E:VP}{s:zc}{t:AQ}{Q:VP},Q (.bool b) s->y7 (y6 pw w) A (AK .LtE (.float 0 t) cut) Q E s
 hi:b=true->∀ {w:As}{A:AU}{E:VP}{s:zc}{t:AQ}{Q:VP},Q (.bool false) s->y7 (y6 pw w) A (AK .LtE cut (.float 4607182418800017408 t)) Q E s
section
variable{base:AJ}{l:LV}{T:LO}{tabs:List zh}{fr:List II}{pv:Value}{m:Int}
theorem nu(G:Gd (KN w.params) tabs hb)(S:St hb tabs L l T s.heap)(ht:286∉tabs)(hct:(match (dI w.params).code with|.ref c=>tabs.contains c|_=>false)=false)(hd:A.depth+2<zj)(hh:A.handled=none)(hfr:A.frames=some fr)(hst:base.StaysIn s.heap)(hF:s.heap.FunFrames base fr)
  (hbind:Fn s (dI w.params) args [(yZ "word", wv),(yZ "possibilities", pv),(yZ "n", .int m tn),(yZ "cutoff", cv)]) (hm:m<=0) (Rv:jk (.int m tn) txt)
  (k:∀ s' e,Kp s s'->Fly base fr e (yZ "n must be > 0: " ++ txt) s.heap s'.heap->R (.error (.ref e)) s') :
  zW (y6 pw w) A (.call (.ref 286) args) R s:=by
 refine rq G S (oA _) (dn 2 hd) (body:=aD (st1 pw 10)) hbind ?_ ht (hct:=hct)
 refine λL' ai oL r S' hk hnew=>eZ (lQ (isTrue_not (wpAny_isTrue_Compare1 (ac S' m2 (wpAny_Constant_int (Ip (zb ⟨λZ=>?_,λq=>?_⟩)))))))
 case refine_2 =>
  rw[decide_eq_false (GA.mpr hm)] at q
  nomatch q
 have hF':ai.FunFrames base (Ah (dI w.params) L' 286::fr):=by
  obtain⟨mm,a1,a2,a3⟩:=S'.fm.ns
  exact DD (λe=>Bo e) rfl a1 (hnew base hst) (hF.of_keeps λb o q Z=>⟨o,hk b o q,rfl⟩)
 refine qd (base:=base) (fr:=fr) (h₀:=s.heap) (msg:=yZ "n must be > 0: " ++ txt) (R:=R) G S' hh (BW hfr) rfl (λb o q=>hk b o (hst b o q)) hF' (CY hk) ?_ ?_ ?_
 ·intro Q E hQ
  refine yP Rv (by decide +kernel) ?_ (λtk t=>hQ _ tk t λb o e=>e)
  intro s' Q E e h
  refine ac (by rw[e];exact S') m2 h
 ·exact λs' e K' F'=>k s' e ⟨K'.os,K'.gens⟩ F'
 ·exact cN G S' PyProof.Rows.Boot.«ValueError» ⟨rfl,rfl⟩
theorem tH{b:Bool}(G:Gd (KN w.params) tabs hb)(S:St hb tabs L l T s.heap)(ht:286∉tabs)(hct:(match (dI w.params).code with|.ref c=>tabs.contains c|_=>false)=false)(hd:A.depth+2<zj)(hh:A.handled=none)(hfr:A.frames=some fr)(hst:base.StaysIn s.heap)(hF:s.heap.FunFrames base fr)
  (hbind:Fn s (dI w.params) args [(yZ "word", wv),(yZ "possibilities", pv),(yZ "n", .int m tn),(yZ "cutoff", cv)]) (hm:0<m) (C:jP cv b) (Rv:jk cv txt)
  (k:∀ s' e,Kp s s'->Fly base fr e (yZ "cutoff must be in [0.0, 1.0]: " ++ txt) s.heap s'.heap->R (.error (.ref e)) s') :
  zW (y6 pw w) A (.call (.ref 286) args) R s:=by
 refine rq G S (oA _) (dn 2 hd) (body:=aD (st1 pw 10)) hbind ?_ ht (hct:=hct)
 refine λL' ai oL r S' hk hnew=>eZ (lQ (isTrue_not (wpAny_isTrue_Compare1 (ac S' m2 (wpAny_Constant_int (Ip (zb ⟨λq=>?_,λq=>?_⟩)))))))
 ·rw[decide_eq_true hm] at q
  nomatch q
 refine aE (lQ (isTrue_not ?_))
 have hF':ai.FunFrames base (Ah (dI w.params) L' 286::fr):=by
  obtain⟨mm,a1,a2,a3⟩:=S'.fm.ns
  exact DD (λe=>Bo e) rfl a1 (hnew base hst) (hF.of_keeps λb o q Z=>⟨o,hk b o q,rfl⟩)
 refine isTrue_chain (Ct (test_link (ac S' m3 (C.lo (zb ?_)))))
 have fin:∀ (ag:zc) {rest:List Cv}{np cpos pos:Ej}{k1:Nat}{p1 p2 p3 p4:Ej}{Q:FP},Kp s ag->ag.heap=ai ->
   y7 (y6 pw w) (A.deeper (Ah (dI w.params) L' 286)) (z5 (.Raise (some (.Call (.Name (yZ "ValueError") np) [.JoinedStr [.Constant (.str (yZ "cutoff must be in [0.0, 1.0]: ")) k1 p1,.FormattedValue (.Name (yZ "cutoff") p2) 114 none p3] p4] [] cpos)) none pos::rest) (Ah (dI w.params) L' 286)) Q
    (kLv (y6 pw w) (A.deeper (Ah (dI w.params) L' 286)) (Ah (dI w.params) L' 286) R) ag:=by
  intro ag rest np cpos pos k1 p1 p2 p3 p4 Q ao bh
  have af:=S'
  rw[<- bh] at af
  refine qd (base:=base) (fr:=fr) (h₀:=s.heap) (msg:=yZ "cutoff must be in [0.0, 1.0]: " ++ txt) (R:=R) G af hh (BW hfr) rfl (λb o q=>by rw[bh];exact hk b o (hst b o q)) (by rw[bh];exact hF') (by rw[bh];exact CY hk) ?_ ?_ ?_
  ·intro Q E hQ
   refine yP Rv (by decide +kernel) ?_ (λtk t=>hQ _ tk t λb o e=>e)
   intro s' Q E e h
   refine ac (by rw[e];exact af) m3 h
  ·exact λs' e K' F'=>k s' e (kt ao K') F'
  ·exact cN G af PyProof.Rows.Boot.«ValueError» ⟨rfl,rfl⟩
 cases b with
 | false =>
  refine⟨λZ=>?_,λq=>nomatch q⟩
  exact fin _ ⟨rfl,id⟩ rfl
 | true =>
  refine test_last (Ct (C.hi rfl (zb ⟨λZ=>?_,λq=>nomatch q⟩)))
  exact fin _ ⟨rfl,id⟩ rfl
end
noncomputable abbrev slo(o:AR)(sl:Array (Option Value)):AR:={ o with slots:=sl }
theorem bL.slo{o:AR}{l:LV}(r:bL o l)(sl:Array (Option Value)):bL (slo o sl) l:=r
theorem bL.nf{o:AR}{l:LV}(r:bL o l):∀ vs,o.data≠.fields vs:=by
 obtain⟨es,ep,m,h,_⟩:=r
 intro vs q
 rw[h] at q;cases q
section
variable{tabs:List zh}{L1:zh}{l l1 l0:LV}{o1 o0:AR}{T:LO}
theorem St.flown(S:St hb tabs L l ((L1,o1)::(L0,o0)::T) h)(r1:bL o1 l1)(r0:bL o0 l0)(hs:(DN h [L,L1,L0]).StaysIn h')(hu:h.UpToSlots h') :
  ∃ s1 s0,St hb tabs L l ((L1,slo o1 s1)::(L0,slo o0 s0)::T) h':=by
 obtain⟨oL,e1,rL⟩:=S.fm
 obtain⟨sL,e1'⟩:=hu L oL e1 rL.nf
 obtain⟨s1,e2⟩:=hu L1 o1 (S.obj _ m0) r1.nf
 obtain⟨s0,e3⟩:=hu L0 o0 (S.obj _ m1) r0.nf
 have nd:=zu.mp S.nd
 have nd1:=zu.mp nd.2
 have nd2:=zu.mp nd1.2
 have old:∀ b,b<hb.objs.size->b∉[L,L1,L0]:=λb hb' hm=>by
  rcases za.mp hm with rfl|hm
  ·exact absurd S.lnew (Ik.mpr hb')
  rcases za.mp hm with rfl|hm
  ·exact absurd (S.new _ m0) (Ik.mpr hb')
  rw[y9] at hm;subst hm
  exact absurd (S.new _ m1) (Ik.mpr hb')
 refine⟨s1,s0,⟨_,e1',rL⟩,S.lnew,λb o e hn=>hs b o (IZ _ (S.keep b o e hn) (old b (AL e))),λt ht=>?_,λp hp=>?_,λp hp=>?_,S.nd⟩
 ·obtain⟨ps,more,a,b,c⟩:=S.tab t ht
  exact⟨ps,more,a,hs t _ (IZ _ b (old t (AL a))),c⟩
 ·rcases za.mp hp with rfl|hp
  ·exact e2
  rcases za.mp hp with rfl|hp
  ·exact e3
  have hpT:=S.obj p (aj (aj hp))
  refine hs p.1 p.2 (IZ _ hpT λhm=>?_)
  have hpk:p.1∈T.map (·.1):=zd.mpr ⟨p,hp,rfl⟩
  rcases za.mp hm with q|hm
  ·exact nd.1 (q▸El _ (El _ hpk))
  rcases za.mp hm with q|hm
  ·exact nd1.1 (q▸El _ hpk)
  rw[y9] at hm
  exact nd2.1 (hm▸hpk)
 ·rcases za.mp hp with rfl|hp
  ·exact S.new (L1,o1) m0
  rcases za.mp hp with rfl|hp
  ·exact S.new (L0,o0) m1
  exact S.new p (aj (aj hp))
end
def kI(w:As)(hb:AJ)(tabs:List zh)(f:zh)(Tn:LO)(msg:zK):Prop:=∀ {A:AU}{s:zc}{L:zh}{l:LV}{T:LO}{base:AJ}{fr:List II}{R:Cm->zc->Prop},
 St hb tabs L l T s.heap->(∀ p∈Tn,p∈T)->A.depth+10<zj->A.handled=none->A.frames=some fr->base.StaysIn s.heap->s.heap.FunFrames base fr ->
 (∀ s' e,Kp s s'->Fly base fr e msg s.heap s'.heap->R (.error (.ref e)) s')->zW (y6 pw w) A (.call (.ref f) ⟨[],[]⟩) R s
section
variable{f:zh}{l l0:LV}{T Tn:LO}{tabs:List zh}{o0 oF:AR}{e1:II}{msg:zK}
theorem iF(G:Gd (KN w.params) tabs hb)(S:St hb tabs L l ((L0,o0)::T) s.heap)(r0:bL o0 l0)(ht:314∉tabs)(hct:(match (jt w.params).code with|.ref c=>tabs.contains c|_=>false)=false)(hd:A.depth+20<zj)(hu:A.units+40<AB)(hh:A.handled=none)
  (hfr:A.frames=some [e1,e0]) (hf1:e1.frame=some L) (hk1:e1.scope.kind≠.module) (hf0:e0.frame=some L0) (hk0:e0.scope.kind≠.module)
  (hF:(f,oF)∈T) (hoF:oF.data=.func fd) (hTn:∀ p∈Tn,p∈T) (H:kI w hb tabs f Tn msg)
  (k:∀ s' sl tk,Kp s s'->St hb tabs L l ((L0,slo o0 sl)::T) s'.heap->R (.ok (.ret (.str msg tk))) s') :
  zW (y6 pw w) A (.call (.ref 314) ⟨[.ref f],[]⟩) R s:=by
 refine rq G S (lk314 _) (dn 20 hd) (binds:=[(yZ "call", .ref f)]) (body:=aD (st1 pw 15)) (Ba (by kernel_rfl)) ?_ ht (hct:=hct)
 intro L' ai oL r S' hk hnew
 have nfr:∀ b∈[L',L,L0],∃ o,ai.get? b=some o/\∀ vs,o.data≠.fields vs:=λb hm=>by
  rcases za.mp hm with rfl|hm
  ·obtain⟨o,e,r⟩:=S'.fm
   exact⟨o,e,r.nf⟩
  rcases za.mp hm with rfl|hm
  ·exact⟨oL,S'.obj (b,oL) m0,r.nf⟩
  rw[y9] at hm;subst hm
  exact⟨o0,S'.obj (b,o0) m1,r0.nf⟩
 have hF':ai.FunFrames (DN ai [L',L,L0]) (Ah (jt w.params) L' 314::[e1,e0]):=by
  refine⟨λe=>Bo e,?_,hk1,?_,hk0,?_,trivial⟩
  ·obtain⟨o,a,b⟩:=nfr L' (.head _)
   exact⟨L',o,rfl,Gq _ (.head _),a,b⟩
  ·obtain⟨o,a,b⟩:=nfr L (aj (.head _))
   exact⟨L,o,hf1,Gq _ (aj (.head _)),a,b⟩
  ·obtain⟨o,a,b⟩:=nfr L0 m2
   exact⟨L0,o,hf0,Gq _ m2,a,b⟩
 have hfr':=BW (env:=Ah (jt w.params) L' 314) hfr
 refine z9 (KY ?_)
 refine bR (bV (ac S' m0 ?_))
 have hfo:ai.get? f=some oF:=S'.obj _ (aj (aj hF))
 refine callWith_function (o:=oF) (fd:=fd) (PySem.evalArgs_none ⟨⟨hfo,hoF⟩,BU ?_⟩)
 refine H (base:=DN ai [L',L,L0]) (fr:=Ah (jt w.params) L' 314::[e1,e0]) S' (λp hp=>aj (aj (hTn p hp))) (by show A.depth+1+10<zj;exact dn 9 hd) hh hfr' (λb o q=>Ma _ q) hF' ?_
 intro s₁ e ar F1
 obtain⟨t,hfl,⟨tk,htup⟩,hnt⟩:=F1.fl
 replace ar:Kp s s₁:=⟨ar.os,ar.gens⟩
 refine wpAny_looks_onW hfr' rfl hfl λam hheld2 sm2=>(wpAny_landsW hheld2 λak hfl3 sm3=>?_)
 have ff:=(F1.sl.trans sm2).trans sm3
 obtain⟨fz,s03,ae⟩:=S'.flown r r0 hfl3.1 ff
 refine wpAny_handleBy_builtin_as (X := "ValueError") (T := "ValueError") (b:=true) PySem.F.isExc_ValueError PySem.F.notTuple_ValueError (by rw[Be];kernel_rfl) (cN G ae PyProof.Rows.Boot.«ValueError» ⟨rfl,hfl3.there,?_⟩)
 refine lands_againW hfl3 λau hfl4 sm4=>?_
 obtain⟨g4,s04,S4⟩:=S'.flown r r0 hfl4.1 (ff.trans sm4)
 have e8:=((htup.of_slots sm2).of_slots sm3).of_slots sm4
 obtain⟨oe,ws,hoe,hoec,hoed,hoe0⟩:=hfl4.first
 have hexc:au.ExcAt e "ValueError" (.ref t):=⟨oe,ws,hoe,hoec,hoed,hoe0⟩
 obtain⟨mm,na,nb,nc⟩:=S4.fm.ns
 have hlk:(Ah (jt w.params) L' 314).kindOf (yZ "e")=some .local:=by kernel_rfl
 have hpl:((Ah (jt w.params) L' 314).scope.kind==.class || ((Ah (jt w.params) L' 314).scope.kind==.module&&(Ah (jt w.params) L' 314).locals != (Ah (jt w.params) L' 314).globals))=false:=rfl
 refine FH hlk na (λax hn5 hs5=>?_) hpl
 have S5:=S4.setNs (bU.fm (.new (by kernel_rfl)) hn5 nb nc) hs5
 have he5:e≠L':=λq=>by
  obtain⟨o,a,b⟩:=S4.fm
  rw[<- q,hoe] at a
  cases a
  exact b.nf _ hoed
 have ht5:t≠L':=λq=>by
  obtain⟨o,a,b⟩:=S4.fm
  obtain⟨ot,n,c1,c2,c3⟩:=e8
  rw[<- q,c1] at a
  cases a
  obtain⟨es,ep,m,d,_⟩:=b
  rw[c3] at d;cases d
 have hexc5:ax.ExcAt e "ValueError" (.ref t):=⟨oe,ws,(hs5.2 e he5).trans hoe,hoec,hoed,hoe0⟩
 have e9:ax.TupAt t [.str msg tk]:=by
  obtain⟨ot,n,c1,c2,c3⟩:=e8
  exact⟨ot,n,(hs5.2 t ht5).trans c1,c2,c3⟩
 refine cO (rp G S5 PyProof.Rows.Boot.«str» (bln S5 m0 (P.str_of_exc_one PySem.F.excStr_ValueError (by show A.units+_+2<AB;exact dn 35 hu) hexc5 e9 ?_)))
 obtain⟨g5,na5,-,-⟩:=S5.fm.ns
 refine wpAny_nameGoes hlk na5 hpl λaz g6 hn6 hs6=>?_
 have S6:=S5.setNs (Fm.of_ns (l:=[]) hn6 (zm _) C9) hs6
 have S7:=S6.leave 0 rfl (r.slo _)
 exact k _ s04 tk ⟨ar.os,ar.gens⟩ S7
end
end
section
variable{tabs:List zh}{l lb:LV}{T:LO}
theorem yS{R:Cm->zc->Prop}{oc:Value}{od:Option zh}{osl:Array (Option Value)}{args:M5}{binds:LV}{body:List Cv}{cs:zh->List (zK×zh)}{cm:zK->Option Value}
  (G:Gd K tabs hb) (S:St hb tabs L l T s.heap) (ho:K.lookup fa=some ⟨oc,od,.func fd,osl⟩) (hroom:A.depth<zj)
  (hbind:Fn s fd args binds)
  (h:∀ L' s₁ oL (obs:zh->AR),bL oL l->(∀ p∈cs L',(obs p.2).data=.cell (cm p.1))->Kp s s₁->St hb tabs L' lb ((cs L').map (λp=>(p.2,obs p.2))++(L,oL)::T) s₁.heap ->
   y7 (y6 prog w) (A.deeper (zB fd L' fa)) (z5 body (zB fd L' fa)) (kFn R)
    (kLv (y6 prog w) (A.deeper (zB fd L' fa)) (zB fd L' fa) R) s₁)
  (hcs:∀ L':zh,Eb (L'+1) fd.scope.names []=cs L') (hlk:∀ L':zh,∀ p∈cs L',(cs L').lookup p.1=some p.2/\L'<p.2)
  (hbL:∀ L':zh,∀ p∈lb,bindL (zB fd L' fa).kindOf binds (λZ=>none) p.1=some p.2) (hbC:∀ L':zh,∀ p∈cs L',Nv (zB fd L' fa).kindOf binds (λZ=>none) p.1=cm p.1)
  (hkind:∀ L':zh,∀ x∈binds,fd.scope.names.lookup x.1=some .local\/(fd.scope.names.lookup x.1=some .cell/\((cs L').lookup x.1).isSome=true)) (hnd:(lb.map (·.1)).Nodup)
  (hclo:fd.closure=[]:=by kernel_rfl)
  (hft:fa∉tabs:=by decide)
  (hcd:∀ hh:AJ,K.In hh->hh.CodeRec fd.code fd.qualname:=by exact crO (by kernel_rfl))
  (hct:(match fd.code with|.ref c=>tabs.contains c|_=>false)=false:=by kernel_rfl)
  (hbody:fd.body=.stmts body:=by kernel_rfl)
  (hco:fd.scope.isCoroutine=false:=by kernel_rfl) (hgen:fd.scope.isGenerator=false:=by kernel_rfl) (hk:fd.scope.kind=.function:=by kernel_rfl) :
  zW (y6 prog w) A (.call (.ref fa) args) R s:=by
 have hcr:s.heap.CodeRec fd.code fd.qualname:=by
  obtain⟨c,o,vs,t,e1,e2,e3,e4⟩:=hcd hb G.k
  refine⟨c,o,vs,t,e1,S.old e2 (λq=>?_),e3,e4⟩
  rw[e1] at hct
  have hct':tabs.contains c=false:=hct
  rw[AZ.mpr q] at hct'
  nomatch hct'
 refine FK hroom (S.old (G.k _ _ ho) hft) rfl hco hgen hbody hcr ?_
 rw[hclo]
 refine hbind _ _ _ _ (Ew hk (λx hx=>?_) λenv he s' x=>?_)
 ·rcases hkind s.heap.objs.size x hx with q|⟨q,e⟩
  ·exact .inl q
  ·exact .inr ⟨q,by rw[hcs];exact e⟩
 subst he
 refine⟨(S.lim G).keeps x.toInCall.keep,Kt ?_⟩
 have hcell:∀ p∈cs s.heap.objs.size,∃ ob,s'.heap.get? p.2=some ob/\ob.data=.cell (cm p.1):=λp hp=>by
  obtain⟨ob,e1,e2⟩:=x.cell p.1 p.2 (by
   show (Eb (s.heap.objs.size+1) fd.scope.names []).lookup p.1=_
   rw[hcs];exact (hlk _ p hp).1)
  have e3:Nv (Nb fd.scope s.heap.objs.size fd.globals (Eb (s.heap.objs.size+1) fd.scope.names []) (fd.qualname ++ ".<locals>.") (some fa) fd.code none fd.builtins).kindOf binds (λZ=>none) p.1=cm p.1:=hbC _ p hp
  rw[e3] at e2
  exact⟨ob,e1,e2⟩
 have hfm:Fm s'.heap s.heap.objs.size lb:=Fm.of_ns x.toInCall.ns (λp hp=>hbL s.heap.objs.size p hp) hnd
 obtain⟨oL,r,S'⟩:=S.enter (L':=s.heap.objs.size) rfl hfm x.toInCall.keep
 obtain⟨hh,tk,hsame⟩:=x.toInCall.same
 have K':Kp s s':=by rw[hsame];exact⟨rfl,id⟩
 have hap:((cs s.heap.objs.size).map (·.2)).Nodup:=by
  have:=x.apart
  rw[show (Nb fd.scope s.heap.objs.size fd.globals (Eb (s.heap.objs.size+1) fd.scope.names []) (fd.qualname ++ ".<locals>.") (some fa) fd.code none fd.builtins).cells=cs s.heap.objs.size from hcs _] at this
  exact AX.mpr this
 refine h s.heap.objs.size s' oL (λa=>(s'.heap.get? a).getD AF) r (λp hp=>?_) K' ⟨S'.fm,S'.lnew,S'.keep,S'.tab,λp hp=>?_,λp hp=>?_,?_⟩
 ·obtain⟨ob,e1,e2⟩:=hcell p hp
  rw[e1];exact e2
 ·rcases zf.mp hp with hp|hp
  ·obtain⟨q,hq,rfl⟩:=zd.mp hp
   obtain⟨ob,e1,e2⟩:=hcell q hq
   show s'.heap.get? q.2=some ((s'.heap.get? q.2).getD AF)
   rw[e1];rfl
  ·exact S'.obj p hp
 ·rcases zf.mp hp with hp|hp
  ·obtain⟨q,hq,rfl⟩:=zd.mp hp
   exact zn S'.lnew (Ak (hlk _ q hq).2)
  ·exact S'.new p hp
 ·have nd:=zu.mp S'.nd
  have hL:L<s.heap.objs.size:=S.fm.lt
  have big:∀ a∈((cs s.heap.objs.size).map (λp=>(p.2,(s'.heap.get? p.2).getD AF))).map (·.1),s.heap.objs.size<a:=λa ha=>by
   rw[CR] at ha
   obtain⟨q,hq,rfl⟩:=zd.mp ha
   exact (hlk _ q hq).2
  have old:∀ a∈(((L,oL)::T).map (·.1)),a<s.heap.objs.size:=λa ha=>by
   rcases za.mp ha with rfl|ha
   ·exact hL
   ·obtain⟨p,hp,rfl⟩:=zd.mp ha
    exact S.lt hp
  rw[zG]
  refine zu.mpr ⟨λq=>?_,CW.mpr ⟨?_,nd.2,λa ha b hb' e=>?_⟩⟩
  ·rcases zf.mp q with q|q
   ·exact Ao _ (big _ q)
   ·exact nd.1 q
  ·rw[CR];exact hap
  ·exact Ao _ (CA (e▸big a ha) (old b hb'))
end
section
variable{tabs:List zh}{l:LV}{T:LO}{x:zK}{v:Value}
theorem gw{Q:UP}{c:zh}{ob:AR}{v0:Option Value}(i:Nat)(S:St hb tabs L l T s.heap)(hi:T[i]? = some (c,ob))(hob:ob.data=.cell v0)
  (h:∀ h' ob',ob'.data=.cell (some v)->St hb tabs L l (T.set i (c,ob')) h'->Q () (wh s h'))
  (hk:env.scope.kind=.function:=by kernel_rfl) (hl:env.kindOf x=some .cell:=by kernel_rfl) (hc:env.cells.lookup x=some c:=by rfl) :
  y7 (y6 prog w) A (Ff env x v) Q E s :=
 wpAny_storeName_cell hk hl hc ⟨ob,S.obj _ (zp hi),hob⟩ λh' hv hs=>by
  obtain⟨ob',e1,e2⟩:=hv
  exact h h' ob' e2 (S.change i hi hs e1)
end
section
open PySem.Spec
noncomputable def mY:MU:={ posonlyargs:=[],args:=[],vararg:=none,kwonlyargs:=[],kw_defaults:=[],kwarg:=none,defaults:=[] }
noncomputable def lM:DB:={ kind:=.function,names:=[(yZ "number", .free),(yZ "some", .free),(yZ "word", .free),(yZ "get_close_matches", .globalImplicit)],isGenerator:=false,isCoroutine:=false,more:=[] }
noncomputable abbrev qE (qual:zK) (body:Expr) (cl:List (zK×zh)) (pm:Value) (c':zh) (ctv:Value):AR:=kla_obj (yZ "<lambda>") qual mY body lM cl pm c' ctv
noncomputable abbrev gY(qual:zK)(L' f c':zh)(cl:List (zK×zh)):II:=envX qual lM L' f (.ref c') cl
def uu(oc:AR)(qual:zK):Prop:=∃ vs t,oc.data=.fields vs/\vs[1]? = some (.str qual t)
section
variable{tabs:List zh}{f:zh}{l:LV}{T:LO}{body:Expr}
theorem xb(G:Gd K tabs hb)(S:St hb tabs L l T s.heap)(ho:(f,qE qual body cl pm c' ctv)∈T)(hoc:(c',oc)∈T)(hq:uu oc qual)(hroom:A.depth<zj)
  (h:∀ L' ai oL,bL oL l->St hb tabs L' [] ((L,oL)::T) ai->(∀ b o,s.heap.get? b=some o->ai.get? b=some o)->(∀ base:AJ,base.StaysIn s.heap->base.get? L'=none) ->
   y7 (y6 prog w) (A.deeper (gY qual L' f c' cl)) (Ax body (gY qual L' f c' cl)) (λv s'=>R (.ok (.ret v)) s')
    (kLv (y6 prog w) (A.deeper (gY qual L' f c' cl)) (gY qual L' f c' cl) R)
    (wht s ai s.toks)) :
  zW (y6 prog w) A (.call (.ref f) ⟨[],[]⟩) R s:=by
 obtain⟨vs,t,hd,hv⟩:=hq
 refine kla_callFunE (fd:=kla_fn (yZ "<lambda>") qual mY body lM cl pm (.ref c') ctv) hroom (S.obj _ ho) rfl rfl rfl rfl ⟨c',oc,vs,t,rfl,S.obj _ hoc,hd,hv⟩ ?_
 have hb0:bindArgs (kla_fn (yZ "<lambda>") qual mY body lM cl pm (.ref c') ctv) ⟨[],[]⟩=AA []:=by kernel_rfl
 rw[hb0]
 refine y4 (FZ (λx hx=>?_) (zm _) (λai hns hsb=>⟨((S.lim G).fresh _ hsb),?_⟩) rfl)
 ·have:=zF.mp (show (lM.names.all λx=>x.2 != .cell)=true by kernel_rfl) x hx
  simpa using this
 have hk:∀ b o,s.heap.get? b=some o->ai.get? b=some o:=λb o e=>hsb.extBut b o (Ag (AL e)) (zC _ e)
 obtain⟨oL,r,S'⟩:=S.enter (L':=s.heap.objs.size) rfl (Fm.of_ns (l:=[]) hns (zm _) C9) hk
 exact kla_codeExpr (h s.heap.objs.size ai oL r S' hk λbase hs=>hs.fresh)
end
section
variable{tabs:List zh}{l:LV}{T:LO}{x:zK}{v:Value}{pos:Ej}
theorem gx{Q:VP}{c:zh}{ob:AR}(S:St hb tabs L l T s.heap)(hm:(c,ob)∈T)(hob:ob.data=.cell (some v))(h:Q v s)
  (hk:env.scope.kind=.function:=by kernel_rfl) (hl:env.kindOf x=some .free:=by kernel_rfl) (hc:env.cells.lookup x=some c:=by rfl)
  (hd:(x==("__debug__" : zK))=false:=by kernel_rfl) (hn:(x==("__classdict__" : zK))=false:=by kernel_rfl):y7 (y6 prog w) A (Ax (.Name x pos) env) Q E s :=
 H4 (wpAny_loadName_free hk hl hc ⟨ob,S.obj _ hm,hob⟩ h hn) hd
end
noncomputable abbrev clL (cw cs cn:zh):List (zK×zh):=[(yZ "word", cw),(yZ "some", cs),(yZ "number", cn)]
theorem qT{w:As}{A:AU}{s:zc}{env:II}{fr:List II}{base h₀ ai:AJ}{L' e:zh}{msg:zK}{Q:UP}{E:VP}(hfr:A.frames=some (env::fr))(hf:env.frame=some L')(hk:∀ b o,h₀.get? b=some o->ai.get? b=some o)(F:Fly base (env::fr) e msg ai s.heap)
  (h:∀ h',Fly base fr e msg h₀ h'->Q () (wh s h')):y7 (y6 pw w) A (leaving env (.ref e)) Q E s:=by
 obtain⟨t,hfl,⟨tk,htup⟩,hnt⟩:=F.fl
 exact wpAny_leaves_onW hfr hf hfl λh' x1 x2=>h h' ⟨⟨t,x1,⟨tk,htup.of_slots x2⟩,hnt⟩,(CY hk).trans (F.sl.trans x2)⟩
section
variable{tabs:List zh}{f cw cs cn:zh}{Tn:LO}{pv:Value}{ow os on':AR}{p4 p5 p6 p7 p8:Ej}{k1:Nat}{m:Int}
structure xk(Tn:LO)(f c' cw cs cn:zh)(oL oc ow os on':AR)(qual:zK)(wv pv nv:Value):Prop where
 o:(f,oL)∈Tn
 c:(c',oc)∈Tn
 q:uu oc qual
 wm:(cw,ow)∈Tn
 hw:ow.data=.cell (some wv)
 sm:(cs,os)∈Tn
 hs:os.data=.cell (some pv)
 n:(cn,on')∈Tn
 hn:on'.data=.cell (some nv)
theorem lam1(G:Gd (KN w.params) tabs hb)(ht:286∉tabs)(hct:(match (dI w.params).code with|.ref c=>tabs.contains c|_=>false)=false)
  (H:xk Tn f c' cw cs cn (qE qual (.Call (.Name (yZ "get_close_matches") p1) [.Name (yZ "word") p2,.Name (yZ "some") p3,.Name (yZ "number") p4] [] p5) (clL cw cs cn) pm c' ctv) oc ow os on' qual wv pv (.int m tn)) (hm:m<=0) (Rv:jk (.int m tn) txt) :
  kI w hb tabs f Tn (yZ "n must be > 0: " ++ txt):=by
 intro A s L l T base fr R S hT hd hh hfr hst hF k
 refine xb G S (hT _ H.o) (hT _ H.c) H.q (dn 10 hd) ?_
 intro L' ai oL r S' hk hnew
 have hF':ai.FunFrames base (gY qual L' f c' (clL cw cs cn)::fr):=by
  obtain⟨mm,a1,a2,a3⟩:=S'.fm.ns
  exact DD (λe=>Bo e) rfl a1 (hnew base hst) (hF.of_keeps λb o q Z=>⟨o,hk b o q,rfl⟩)
 have hfr':=BW (env:=gY qual L' f c' (clL cw cs cn)) hfr
 refine uX (env:=gY qual L' f c' (clL cw cs cn)) G S' (v:=.ref 286) (by kernel_rfl) (args_cons (gx (env:=gY qual L' f c' (clL cw cs cn)) (c:=cw) S' (aj (hT _ H.wm)) H.hw (args_cons (gx (env:=gY qual L' f c' (clL cw cs cn)) (c:=cs) S' (aj (hT _ H.sm)) H.hs (args_cons (gx (env:=gY qual L' f c' (clL cw cs cn)) (c:=cn) S' (aj (hT _ H.n)) H.hn (zq ?_)))))))
 refine⟨⟨_,_,_,S'⟩,?_⟩
 exact nu (base:=base) (fr:=gY qual L' f c' (clL cw cs cn)::fr) G S' ht hct (by show A.depth+1+2<zj;exact dn 7 hd) hh hfr' (λb o q=>hk b o (hst b o q)) hF' (BB (o:=uJ w.params) rfl (S'.kin G 281 _ (by kernel_rfl)) rfl rfl rfl) hm Rv (λs₁ e ar F1=>qT hfr' rfl hk F1 λh' F'=>(k _ e ⟨ar.os,ar.gens⟩ F'))
theorem lam2(G:Gd (KN w.params) tabs hb)(ht:286∉tabs)(hct:(match (dI w.params).code with|.ref c=>tabs.contains c|_=>false)=false)
  (H:xk Tn f c' cw cs cn (qE qual (.Call (.Name (yZ "get_close_matches") p1) [.Name (yZ "word") p2,.Name (yZ "some") p3] [⟨some (yZ "n"),.Name (yZ "number") p4,p6⟩,⟨some (yZ "cutoff"),.Constant (.float 4611686018427387904) 0 p7,p8⟩] p5) (clL cw cs cn) pm c' ctv) oc ow os on' qual wv pv (.int m tn)) (hm:m<=0) (Rv:jk (.int m tn) txt) :
  kI w hb tabs f Tn (yZ "n must be > 0: " ++ txt):=by
 intro A s L l T base fr R S hT hd hh hfr hst hF k
 refine xb G S (hT _ H.o) (hT _ H.c) H.q (dn 10 hd) ?_
 intro L' ai oL r S' hk hnew
 have hF':ai.FunFrames base (gY qual L' f c' (clL cw cs cn)::fr):=by
  obtain⟨mm,a1,a2,a3⟩:=S'.fm.ns
  exact DD (λe=>Bo e) rfl a1 (hnew base hst) (hF.of_keeps λb o q Z=>⟨o,hk b o q,rfl⟩)
 have hfr':=BW (env:=gY qual L' f c' (clL cw cs cn)) hfr
 refine eD (cG (env:=gY qual L' f c' (clL cw cs cn)) G S' (v:=.ref 286) (by kernel_rfl) (kB G (oA _) (args_cons (gx (env:=gY qual L' f c' (clL cw cs cn)) (c:=cw) S' (aj (hT _ H.wm)) H.hw (args_cons (gx (env:=gY qual L' f c' (clL cw cs cn)) (c:=cs) S' (aj (hT _ H.sm)) H.hs (zq ?_)))))))
 refine Ex (gx (env:=gY qual L' f c' (clL cw cs cn)) (c:=cn) S' (aj (hT _ H.n)) H.hn (Ex (Ct (Jt ⟨⟨_,_,_,by exact S'⟩,?_⟩))))
 exact nu (base:=base) (fr:=gY qual L' f c' (clL cw cs cn)::fr) G S' ht hct (by show A.depth+1+2<zj;exact dn 7 hd) hh hfr' (λb o q=>hk b o (hst b o q)) hF' (BB (o:=uJ w.params) rfl (S'.kin G 281 _ (by kernel_rfl)) rfl rfl rfl) hm Rv (λs₁ e ar F1=>qT hfr' rfl hk F1 λh' F'=>(k _ e ⟨ar.os,ar.gens⟩ F'))
theorem lam3{cv:Value}{b:Bool}(G:Gd (KN w.params) tabs hb)(ht:286∉tabs)(hct:(match (dI w.params).code with|.ref c=>tabs.contains c|_=>false)=false)
  (H:xk Tn f c' cw cs cn (qE qual (.Call (.Name (yZ "get_close_matches") p1) [.Name (yZ "word") p2] [⟨some (yZ "possibilities"),.Name (yZ "some") p3,p6⟩,⟨some (yZ "cutoff"),.Name (yZ "number") p4,p7⟩] p5) (clL cw cs cn) pm c' ctv) oc ow os on' qual wv pv cv) (C:jP cv b) (Rv:jk cv txt) :
  kI w hb tabs f Tn (yZ "cutoff must be in [0.0, 1.0]: " ++ txt):=by
 intro A s L l T base fr R S hT hd hh hfr hst hF k
 refine xb G S (hT _ H.o) (hT _ H.c) H.q (dn 10 hd) ?_
 intro L' ai oL r S' hk hnew
 have hF':ai.FunFrames base (gY qual L' f c' (clL cw cs cn)::fr):=by
  obtain⟨mm,a1,a2,a3⟩:=S'.fm.ns
  exact DD (λe=>Bo e) rfl a1 (hnew base hst) (hF.of_keeps λb o q Z=>⟨o,hk b o q,rfl⟩)
 have hfr':=BW (env:=gY qual L' f c' (clL cw cs cn)) hfr
 refine eD (cG (env:=gY qual L' f c' (clL cw cs cn)) G S' (v:=.ref 286) (by kernel_rfl) (kB G (oA _) (args_cons (gx (env:=gY qual L' f c' (clL cw cs cn)) (c:=cw) S' (aj (hT _ H.wm)) H.hw (zq (Ex (gx (env:=gY qual L' f c' (clL cw cs cn)) (c:=cs) S' (aj (hT _ H.sm)) H.hs ?_)))))))
 refine Ex (gx (env:=gY qual L' f c' (clL cw cs cn)) (c:=cn) S' (aj (hT _ H.n)) H.hn (Jt ⟨⟨_,_,_,by exact S'⟩,?_⟩))
 exact tH (m:=3) (tn:=_) (base:=base) (fr:=gY qual L' f c' (clL cw cs cn)::fr) G S' ht hct (by show A.depth+1+2<zj;exact dn 7 hd) hh hfr' (λb o q=>hk b o (hst b o q)) hF' (BB (o:=uJ w.params) rfl (S'.kin G 281 _ (by kernel_rfl)) rfl rfl rfl) (by decide) C Rv (λs₁ e ar F1=>qT hfr' rfl hk F1 λh' F'=>(k _ e ⟨ar.os,ar.gens⟩ F'))
end
noncomputable def hbR(hb:AJ)(ps:Array Value):AJ:=hb.update 316 (λZ=>Fe ps)
section
variable{ps' ps0:Array Value}{tabs:List zh}{l:LV}{T:LO}
theorem gr(h0:hb.get? 316=some (Fe ps0)):(hbR hb ps).get? 316=some (Fe ps):=zt _ h0 rfl
theorem bT{b:zh}(hn:b≠316):(hbR hb ps).get? b=hb.get? b:=FD _ _ (Js hn)
theorem dH:(hbR hb ps).objs.size=hb.objs.size:=Heap.size_after_update ..
theorem Gd.reb(G:Gd K tabs hb)(hK:K.lookup 316=none):Gd K tabs (hbR hb ps):=by
 have hs:BZ 316 hb (hbR hb ps):=zw ..
 have n1:(Bp:zh)≠316:=by decide
 have n2:(GC:zh)≠316:=by decide
 have n3:(cStatics:zh)≠316:=by decide
 refine⟨λa o e=>?_,?_,?_,?_,?_,G.n1,G.n2,G.n3,G.nt⟩
 ·rw[bT (λq=>by rw[q,hK] at e;nomatch e)]
  exact G.k a o e
 ·obtain⟨mg,a⟩:=G.mg;exact⟨mg,a.sameBut hs n1⟩
 ·obtain⟨mb,a,b⟩:=G.bl;exact⟨mb,a.sameBut hs n2,b⟩
 ·obtain⟨mc,a,b⟩:=G.lim;exact⟨mc,a.sameBut hs n3,b⟩
 ·obtain⟨mc,a,b⟩:=G.nb;exact⟨mc,a.sameBut hs n3,b⟩
theorem BM.reb(B:BM hb)(h0:hb.get? 316=some (Fe ps0)):BM (hbR hb ps):=by
 obtain⟨mg,bm,ob,M⟩:=B
 have hs:BZ 316 hb (hbR hb ps):=zw ..
 have hbm:bm≠316:=λq=>by
  have:=M.obj
  rw[q,h0] at this
  cases this
  exact nomatch M.cls
 exact⟨mg,bm,ob,M.ns.sameBut hs (by decide),M.name,M.ne,(bT hbm).trans M.obj,M.cls,M.dict,M.data⟩
theorem St.reb(S:St (hbR hb ps) tabs L l T h)(h0:hb.get? 316=some (Fe ps0))(ht:316∉tabs)(hk:∀ b o,b≠316->h.get? b=some o->h'.get? b=some o)(hP:h'.get? 316=some (Fe ps')):St (hbR hb ps') tabs L l T h':=by
 have hlt:316<hb.objs.size:=AL h0
 have new:∀ b,(hbR hb ps).objs.size<=b->b≠316:=λb hb' q=>by
  rw[dH,q] at hb';exact absurd hlt (Bw.mpr hb')
 obtain⟨oL,e,r⟩:=S.fm
 refine⟨⟨oL,hk _ _ (new _ S.lnew) e,r⟩,by have:=S.lnew;rw[dH] at this ⊢;exact this,λb o e hn=>?_,λt htt=>?_,λp hp=>hk _ _ (new _ (S.new p hp)) (S.obj p hp),λp hp=>by have:=S.new p hp;rw[dH] at this ⊢;exact this,S.nd⟩
 ·by_cases q:b=316
  ·subst q
   rw[gr h0] at e
   rw[hP];exact e
  ·rw[bT q] at e
   exact hk b o q (S.keep b o ((bT q).trans e) hn)
 ·have q:t≠316:=λq=>ht (q▸htt)
  obtain⟨qs,more,a,b,c⟩:=S.tab t htt
  rw[bT q] at a
  exact⟨qs,more,(bT q).trans a,hk _ _ q b,c⟩
theorem St.reb0(S:St hb tabs L l T h)(h0:hb.get? 316=some (Fe ps0)):St (hbR hb ps0) tabs L l T h:=by
 have e:∀ b,(hbR hb ps0).get? b=hb.get? b:=λb=>by
  by_cases q:b=316
  ·subst q;rw[gr h0,h0]
  ·exact bT q
 refine⟨S.fm,by rw[dH];exact S.lnew,λb o q hn=>S.keep b o (by rw[<- e];exact q) hn,λt ht=>?_,S.obj,λp hp=>by rw[dH];exact S.new p hp,S.nd⟩
 obtain⟨qs,more,a,b,c⟩:=S.tab t ht
 exact⟨qs,more,(e t).trans a,b,c⟩
theorem St.unreb(S:St (hbR hb ps) tabs L l T h)(h0:hb.get? 316=some (Fe #[]))(ht:316∉tabs)(hp:C7 ps.toList):St hb (316::tabs) L l T h:=by
 refine⟨S.fm,by have:=S.lnew;rw[dH] at this;exact this,λb o e hn=>?_,λt htt=>?_,S.obj,λp hp=>by have:=S.new p hp;rw[dH] at this;exact this,S.nd⟩
 ·have q:b≠316:=λq=>hn (q▸.head _)
  exact S.keep b o ((bT q).trans e) λz=>hn (aj z)
 ·rcases za.mp htt with rfl|htt
  ·refine⟨#[],ps,h0,?_,?_⟩
   ·rw[GP];exact S.keep 316 _ (gr h0) ht
   ·rw[GP];exact hp
  ·have q:t≠316:=λq=>ht (q▸htt)
   obtain⟨qs,more,a,b,c⟩:=S.tab t htt
   exact⟨qs,more,by rw[<- bT q];exact a,b,c⟩
end
theorem oS{pos:Ej}{a b:Int}{t u:AQ}{c cv:Value}(l:List Value)(h:C7 l)(hc:Gy pos (l++[.int a t,.int b u,c])=some cv):Gy pos l=some cv\/cv=c:=by
 fun_induction C7 l with
 | case1 =>
  simp only[Dm,Gy] at hc
  by_cases q:(a==(pos.line:Int)&&b==(pos.col:Int))=true
  ·rw[if_pos q] at hc;exact .inr (AG hc).symm
  ·rw[if_neg q] at hc;nomatch hc
 | case2 line t1 col u1 x rest ih =>
  simp only[Bu,Gy] at hc ⊢
  by_cases q:(line==(pos.line:Int)&&col==(pos.col:Int))=true
  ·rw[if_pos q] at hc ⊢;exact .inl hc
  ·rw[if_neg q] at hc ⊢;exact ih h hc
 | case3=>exact h.elim
structure xj(qual:zK)(ps:Array Value)(T:LO):Prop where
 ok:C7 ps.toList
 code:∀ pos cv,Gy pos ps.toList=some cv->∃ c oc,cv=.ref c/\(c,oc)∈T/\uu oc qual
theorem xj.mono{qual:zK}{ps:Array Value}{T T':LO}(H:xj qual ps T)(hs:∀ p∈T,p∈T'):xj qual ps T' :=
 ⟨H.ok,λpos cv e=>by obtain⟨c,oc,a,b,d⟩:=H.code pos cv e;exact⟨c,oc,a,hs _ b,d⟩⟩
theorem rZ{qual:zK}{T:LO}:xj qual #[] T:=⟨trivial,λpos cv e=>nomatch e⟩
section
variable{tabs:List zh}{c:zh}{l:LV}{T:LO}{body:Expr}{pos:Ej}
theorem wX {Q:VP}{T1:LO} (G:Gd K tabs hb) (hK:K.lookup 316=none) (B:BM hb) (h0:hb.get? 316=some (Fe #[])) (hnt:316∉tabs) (S:St (hbR hb ps) tabs L l T s.heap) (hq:env.qual ++ "<lambda>" = qual) (I:xj qual ps T1) (dk:∀ p∈T1,p∈T) (hcode:env.code=.ref c) (C:CodeHd s.heap c 316)
  (hg:env.globals=Bp) (hcl:FR lM env=AA cl)
  (k:∀ f c' oc ctv pm ps' X h' tk,uu oc qual->(c',oc)∈X++T1->xj qual ps' (X++T1)->St (hbR hb ps') tabs L l ((f,qE qual body cl pm c' ctv)::(X++T)) h'->Q (.ref f) (wht s h' tk)) :
  y7 (y6 prog w) A (Ax (.Lambda mY body lM pos) env) Q E s:=by
 have G':Gd K tabs (hbR hb ps):=G.reb hK
 obtain⟨mg,bm,ob,M⟩:BM (hbR hb ps):=B.reb h0
 have hgm:s.heap.Ns Bp mg:=S.oldNs M.ns G'.n1
 have hP:s.heap.get? 316=some (Fe ps):=S.keep 316 _ (gr h0) hnt
 have hbo:=S.old M.obj (S.notTab M.obj (by rw[M.cls];exact nofun))
 have hbP:bm≠316:=λq=>by
  have:=M.obj
  rw[q,gr h0] at this
  cases this
  exact nomatch M.cls
 have hbG:bm≠Bp:=λq=>by
  obtain⟨o,es,ep,e,hd,_⟩:=hgm
  rw[q,e] at hbo;cases hbo
  have:=M.data
  rw[hd] at this;nomatch this
 have hbA:s.heap.BuiltinsAt mg 316:=⟨bm,ob,M.name,M.ne,hbG,hbP,hbo,M.cls,M.dict,M.data⟩
 refine kla_eval rfl ?_
 rw[hq]
 cases hf:Gy pos ps.toList with
 | some cv =>
  obtain⟨c',oc,rfl,hm,hco⟩:=I.code pos cv hf
  exact kla_makeFunctionHit (mg:=mg) hcl hg hgm hcode C hP I.ok hf hbA λctv h' tk hk hsz=>(k _ c' oc ctv _ ps [] _ tk hco hm I ((S.grown hk).push _))
 | none =>
  refine kla_makeFunction (mg:=mg) hcl hg hgm hcode C hP I.ok hf (by decide) hbA λc' ctv h' tk hx hge hlt hrec htab=>?_
  obtain⟨bu,oc,vs,t,e2,hoc,hd,hv⟩:=hrec
  cases e2
  have ah:=S.reb h0 hnt (λb o q e=>hx b o q e) htab
  have hL:=S.fm.lt
  have af:St (hbR hb (ps++#[Cz pos.line,Cz pos.col,.ref c'])) tabs L l ((c',oc)::T) h':=by
   refine⟨ah.fm,ah.lnew,ah.keep,ah.tab,λp hp=>?_,λp hp=>?_,?_⟩
   ·rcases za.mp hp with rfl|hp
    ·exact hoc
    ·exact ah.obj p hp
   ·rcases za.mp hp with rfl|hp
    ·exact zn ah.lnew (zn (Ak hL) hge)
    ·exact ah.new p hp
   ·have nd:=zu.mp ah.nd
    refine zu.mpr ⟨λq=>?_,zu.mpr ⟨λq=>?_,nd.2⟩⟩
    ·rcases za.mp q with q|q
     ·exact Ao _ (zN (show c'<_ from (show L=c' from ‹L=_›)▸hL) hge)
     ·exact nd.1 q
    ·obtain⟨p,hp,e⟩:=zd.mp q
     have e:p.1=c':=e
     exact absurd (e▸S.lt hp) (Bw.mpr hge)
  refine k _ c' oc ctv _ _ [(c',oc)] _ tk ⟨vs,t,hd,hv⟩ (.head _) ⟨?_,λpos' cv e=>?_⟩ (af.push _)
  ·rw[EN];exact Mu _ _ _ _ I.ok
  ·rw[EN] at e
   rcases oS ps.toList I.ok e with q|q
   ·obtain⟨c3,oc3,a,b,d⟩:=I.code pos' cv q
    exact⟨c3,oc3,a,aj b,d⟩
   ·exact⟨c',oc,q,.head _,vs,t,hd,hv⟩
end
theorem jg{P:zI}{h:AJ}(k:(KN P).In h):CodeHd h 320 316 :=
 ⟨o320 P,_,_,_,_,_,_,_,_,k 320 _ (by kernel_rfl),rfl,rfl,rfl,rfl,rfl,rfl,rfl,rfl,by decide⟩
section
variable{vs:List Value}
abbrev ym(Inv:Nat->zc->Prop)(R:Cm->zc->Prop)(i:Nat)(f:Nk)(s3:zc):Prop:=match f with
 | .next|.cont=>Inv (i+1) s3
 | .brk=>R (.ok .next) s3
 | .ret v=>R (.ok (.ret v)) s3
structure LookL(prog:Bm)(w:As)(A:AU)(env:II)(target:Expr)(body:List Cv)(I d:zh)(vs:List Value)(Inv:Nat->zc->Prop)(R:Cm->zc->Prop)(i:Nat)(s₁:zc)(hb:AJ)(tabs:List zh)(L:zh)(l:LV)(T:LO)(o:AR)(n:Nat):Prop where
 st:St hb tabs L l ((I,o)::T) s₁.heap
 at_:bY o d i
 mem:(d,ap vs n)∈T
 turn:∀ (hi:i<vs.length) h' o',bY o' d (i+1)->St hb tabs L l ((I,o')::T) h'->∀ E,y7 (y6 prog w) A (BR target env vs[i]) (oD (y6 prog w) A env E body (ym Inv R i)) E (wh s₁ h')
 fin:i=vs.length->∀ h',St hb tabs L l T h'->R (.ok .next) (wh s₁ h')
theorem l9{R:Cm->zc->Prop}(Inv:Nat->zc->Prop)(hh:A.handled=none)(h0:Inv 0 s)
  (look:∀ i s₁,Inv i s₁->i<=vs.length->∃ hb tabs L l T o n,LookL prog w A env target body I d vs Inv R i s₁ hb tabs L l T o n)
  (ht:∀ v,C0 target (.ref I) v=AA ():=by intro Z;rfl) :
  zW (y6 prog w) A (.forLoop target (.ref I) body [] env) R s:=by
 refine LN (λk s'=>∃ i,Inv i s'/\i<=vs.length/\k=vs.length - i) ?_ vs.length ⟨0,h0,zD _,rfl⟩ ht
 rintro k s' ⟨i,hI,hi,rfl⟩
 obtain⟨hb,tabs,L,l,T,o,n,S,ho,hm,turn,fin⟩:=look i s' hI hi
 by_cases hlt:i<vs.length
 ·have hx:vs[i]? = some vs[i]:=zl hlt
  refine ij 0 S rfl ho (aj hm) hx λh' o' ho' S'=>(zi (turn hlt h' o' ho' S' _) (λZ ag am=>zi am (λf s3 ak=>?_) λZ Z e=>e) λZ Z e=>e)
  cases f with
  | next=>exact⟨vs.length - (i+1),by exact z8t hlt,i+1,ak,hlt,rfl⟩
  | cont=>exact⟨vs.length - (i+1),by exact z8t hlt,i+1,ak,hlt,rfl⟩
  | brk=>exact ak
  | ret v=>exact ak
 ·have hin:i=vs.length:=z8u hi hlt
  subst hin
  exact iV hh (T:=T) (S.perm (zM (l₁:=[(I,o)]) (l₂:=T))) ho hm λh' S'=>CZ (fin rfl h' S')
end
noncomputable abbrev bJ(w:As)(L':zh):II:=zB (yG w.params) L' 321
section
variable{l:LV}{T:LO}{pv:Value}
noncomputable abbrev bodyN:List Cv:=aD (((aD (st1 pw 16))[0]?).getD AF)
noncomputable abbrev bodyC:List Cv:=aD (((aD (st1 pw 16))[1]?).getD AF)
noncomputable abbrev qR:zK:=yZ "_law_refusals_right" ++ ".<locals>." ++ "<lambda>"
structure RS(hb:AJ)(L' L:zh)(lc:LV)(Bs:LO)(I:zh)(o:AR)(ps:Array Value)(oL on:AR)(l:LV)(X:LO)(h:AJ):Prop where
 st:St (hbR hb ps) tabs L' l ((L,oL)::(I,o)::(L'+3,on)::(X++Bs)) h
 fr:bL oL lc
 cell:∃ v,on.data=.cell v
 nm:l=[]\/∃ v,l=[(yZ "told", v)]
 tab:xj qR ps (X++Bs)
theorem mj{prog:Bm}{A:AU}{E:VP}{s:zc}{K:Ht}{f:Value}{first:List Value}{trees:List (Bool×LH Value)}{Q:VP}{pos:Ej}(h:y7 (y6 prog w) A (CH trees) (λvs s₁=>K.In s₁.heap/\zW (y6 prog w) A (.call f ⟨first++vs,[]⟩) (kRes E Q) s₁) E s)
  (hk:NA K f=true:=by kernel_rfl) (hp:trees.any (·.1)=false:=by rfl):y7 (y6 prog w) A (DW pos f first trees []) Q E s :=
 callWith_of (by rw[hp];rfl) (keeps_K hk) (cB hp (zi h (λvs s₁ z=>⟨z.1,BU z.2⟩) λZ Z z=>z))
theorem p4{α:Type}{a b c d:α}{X:List α}:(a::b::c::d::X).Perm (c::a::d::b::X) :=
 (zP a (z8 c b _)).trans ((z8 c a _).trans (zP c (zP a (z8 d b _))))
theorem yT{α:Type}{a b c:α}{X Y:List α}:(X++(a::b::c::Y)).Perm (a::b::c::(X++Y)) :=
 zv.trans (zP a (zv.trans (zP b zv)))
theorem mem3{P:Value->Prop}{a b c v:Value}(ha:P a)(hb:P b)(hc:P c)(h:v∈[a,b,c]):P v:=Ez.mpr ⟨ha,Ez.mpr ⟨hb,List.forall_mem_singleton.mpr hc⟩⟩ v h
theorem mem4{P:Value->Prop}{a b c d v:Value}(ha:P a)(hb:P b)(hc:P c)(hd:P d)(h:v∈[a,b,c,d]):P v:=Ez.mpr ⟨ha,λv=>mem3 hb hc hd⟩ v h
theorem turnN{L' I:zh}{lc:LV}{Bs X:LO}{o oL on ow ops:AR}{ps:Array Value}{m:Int}{tn:AQ}{txt:zK}{E:VP}{Q:FP}{p0:Ej}(G:GK w hb)(B:BM hb)(h0:hb.get? 316=some (Fe #[]))(hd:A.depth+40<zj)(hu:A.units+100<AB)(hh:A.handled=none)
  (hfr:A.frames=some [bJ w L',e0]) (hf0:e0.frame=some L) (hk0:e0.scope.kind≠.module) (H:RS hb L' L lc Bs I o ps oL on l X s.heap) (hw:(L'+1,ow)∈Bs) (hwd:ow.data=.cell (some wv)) (hs:(L'+2,ops)∈Bs) (hsd:ops.data=.cell (some pv))
  (hm:m<=0) (Rv:jk (.int m tn) txt) (hstr:∀ {A:AU}{E:VP}{s:zc}{Q:VP},Q (.str txt s.toks) (wt s (s.toks+1))->y7 (y6 pw w) A (call (.type "str") [.int m tn]) Q E s)
  (k:∀ s' ps' oL' on' l' X',Kp s s'->RS hb L' L lc Bs I o ps' oL' on' l' X' s'.heap->Q .next s') :
  y7 (y6 pw w) A (BR (.Name (yZ "number") p0) (bJ w L') (.int m tn)) (oD (y6 pw w) A (bJ w L') E bodyN Q) E s:=by
 obtain⟨S,r,⟨vc,hvc⟩,hl,TI⟩:=H
 refine aU (gw (env:=bJ w L') (x:=yZ "number") (v:=.int m tn) (c:=L'+3) 2 S rfl hvc ?_)
 intro ai on1 hon1 ah
 have S1':St (hbR hb ps) tabs L' l ((L,oL)::(I,o)::(L'+3,on1)::(X++Bs)) ai:=ah
 have hcode:=jg (P:=w.params) (h:=ai) (λa o e=>S1'.kin (s:=wh s ai) (G.reb (by kernel_rfl)) a o e)
 refine aC (bF (args_cons (bV (cG (env:=bJ w L') (G.reb (ps:=ps) (by kernel_rfl)) S1' (v:=.ref 314) (by kernel_rfl) (mj (K:=KN w.params) (args_cons (wX (c:=320) (cl:=clL (L'+1) (L'+2) (L'+3)) (qual:=qR) G (by kernel_rfl) B h0 (by decide) S1' (by kernel_rfl) TI (λp hp=>aj (aj (aj hp))) rfl hcode rfl (by rfl) ?_)))))))
 refine λbe bu oc2 ctv2 pm2 ps2 X2 am dq hco2 cz TI2 af=>zq ?_
 have G2:=G.reb (ps:=ps2) (by kernel_rfl)
 have S2':=af.perm (T':=(L,oL)::(be,qE qR _ (clL (L'+1) (L'+2) (L'+3)) pm2 bu ctv2)::(X2++((I,o)::(L'+3,on1)::(X++Bs)))) (zv (l₁:=_::X2))
 refine⟨S2'.kin G2,?_⟩
 have mB:∀ p∈Bs,p∈((I,o)::(L'+3,on1)::(X++Bs)):=λp hp=>aj (aj (y5 _ hp))
 have mX:∀ {p:zh×AR}{X':LO},p∈X'++(X++Bs)->p∈X'++((I,o)::(L'+3,on1)::(X++Bs)):=λhp=>by
  rcases zf.mp hp with q|q
  ·exact y8 _ q
  ·exact y5 _ (aj (aj q))
 refine iF (oF:=_) (fd:=_) G2 S2' r (by decide) (by kernel_rfl) (dn 20 hd) (dn 60 hu) hh hfr rfl (λe=>Bo e) hf0 hk0 (.head _) rfl (λp hp=>hp)
  (lam1 G2 (by decide) (by kernel_rfl) ⟨.head _,aj (mX cz),hco2,aj (y5 _ (mB _ hw)),hwd,aj (y5 _ (mB _ hs)),hsd,aj (y5 _ (aj (.head _))),hon1⟩ hm Rv) ?_
 intro s3 sl3 bn aw ae
 have hcode3:=jg (P:=w.params) (h:=s3.heap) (λa o e=>ae.kin G2 a o e)
 refine args_cons (bV (cG (env:=bJ w L') G2 ae (v:=.ref 314) (by kernel_rfl) (mj (K:=KN w.params) (args_cons (wX (c:=320) (cl:=clL (L'+1) (L'+2) (L'+3)) (qual:=qR) G (by kernel_rfl) B h0 (by decide) ae (by kernel_rfl) TI2 (λp hp=>aj (aj (mX hp))) rfl hcode3 rfl (by rfl) ?_)))))
 refine λdp fg oc4 ctv4 pm4 ps4 X4 au da hco4 hc4 TI4 S4=>zq ?_
 have G4:=G.reb (ps:=ps4) (by kernel_rfl)
 generalize hlam2:qE qR _ (clL (L'+1) (L'+2) (L'+3)) pm2 bu ctv2=bg at ae S4
 have S4':=S4.perm (T':=(L,slo oL sl3)::(dp,qE qR _ (clL (L'+1) (L'+2) (L'+3)) pm4 fg ctv4)::(X4++((be,bg)::(X2++((I,o)::(L'+3,on1)::(X++Bs)))))) (zv (l₁:=_::X4))
 refine⟨S4'.kin G4,?_⟩
 have mX4:∀ {p:zh×AR},p∈X4++(X2++(X++Bs))->p∈X4++((be,bg)::(X2++((I,o)::(L'+3,on1)::(X++Bs)))):=λhp=>by
  rcases zf.mp hp with q|q
  ·exact y8 _ q
  ·exact y5 _ (aj (mX q))
 have mB4:∀ {q:zh×AR},∀ p∈(I,o)::(L'+3,on1)::(X++Bs),p∈q::(X4++((be,bg)::(X2++((I,o)::(L'+3,on1)::(X++Bs))))):=λp hp=>aj (y5 _ (aj (y5 _ hp)))
 refine iF (oF:=_) (fd:=_) G4 S4' (r.slo _) (by decide) (by kernel_rfl) (dn 20 hd) (dn 60 hu) hh hfr rfl (λe=>Bo e) hf0 hk0 (.head _) rfl (λp hp=>hp)
  (lam2 G4 (by decide) (by kernel_rfl) ⟨.head _,aj (mX4 hc4),hco4,mB4 _ (mB _ hw),hwd,mB4 _ (mB _ hs),hsd,mB4 _ (aj (.head _)),hon1⟩ hm Rv) ?_
 intro s5 sl5 ed K5 S5
 generalize qE qR _ (clL (L'+1) (L'+2) (L'+3)) pm4 fg ctv4=lam4 at S5
 refine zq ⟨rfl,_,_,_,_,_,by exact S5,?_⟩
 intro D6 az S6
 have hst:bU l (yZ "told") (.ref D6) [(yZ "told", .ref D6)]:=by
  rcases hl with rfl|⟨v,rfl⟩
  ·exact .new (by kernel_rfl)
  ·exact .old .here
 refine aT (env:=bJ w L') S6 hst (λba S7=>restate S7 λs7 K7 S7=>?_)
 replace K7:Kp s s7:=⟨K7.os.trans (K5.os.trans aw.os),λq=>K7.gens (K5.gens (aw.gens q))⟩
 have mC:(L'+3,on1)∈X4++((be,bg)::(X2++((I,o)::(L'+3,on1)::(X++Bs)))):=y5 _ (aj (y5 _ (aj (.head _))))
 refine dB (ay (env:=bJ w L') S7 m0 (wpAny_BinOp (bF (args_cons (wpAny_BinOp (wpAny_Constant_str (uW (env:=bJ w L') G4 S7 PyProof.Rows.Boot.«str» ?_)))))))
 refine args_cons (bI (env:=bJ w L') (c:=L'+3) S7 (aj (aj (aj mC))) hon1 (zq (hstr (Jj ?_ (by have:=Rv.len;rw[zz];show 15+_<=_;exact y6v this)))))
 refine λtk8 t8=>zq ⟨rfl,_,_,_,_,_,by exact S7,?_⟩
 refine λD8 bc S8=>wpAny_Constant_int (xQ S8 m0 (by simp) (by decide) (by decide) (by show 1<=1000;decide) ?_)
 refine λD9 bf S9=>mR (xs:=[(yZ "n must be > 0: " ++ txt,bn),(yZ "n must be > 0: " ++ txt,ed)]) (ys:=[(yZ "n must be > 0: " ++ txt,tk8),(yZ "n must be > 0: " ++ txt,tk8)]) ⟨_,S9.obj _ m2,rfl,_,rfl⟩ ⟨_,S9.obj _ m0,rfl,_,rfl⟩ (dn 100 hu) (zb ⟨λq=>by simp at q,λZ=>?_⟩)
 refine aE (CZ ?_)
 have eX:(dp,lam4)::(X4++((be,bg)::(X2++((I,o)::(L'+3,on1)::(X++Bs)))))=((dp,lam4)::(X4++((be,bg)::X2)))++((I,o)::(L'+3,on1)::(X++Bs)):=by simp
 have S10:=(S9.sub (T':=(L,slo (slo oL sl3) sl5)::(dp,lam4)::(X4++((be,bg)::(X2++((I,o)::(L'+3,on1)::(X++Bs)))))) (.cons _ (.cons _ (.cons _ (Al _)))))
 rw[eX] at S10
 have S11:=S10.perm (T':=(L,slo (slo oL sl3) sl5)::(I,o)::(L'+3,on1)::((((dp,lam4)::(X4++((be,bg)::X2)))++X)++Bs)) (zP _ (by
  rw[zx]
  exact zv.trans (zP _ zv)))
 refine k _ ps4 _ on1 _ _ ⟨K7.os,K7.gens⟩ ⟨S11,r,⟨_,hon1⟩,.inr ⟨_,rfl⟩,TI4.mono λp hp=>?_⟩
 rw[zx]
 rcases zf.mp hp with q|q
 ·exact y8 _ (aj (y8 _ q))
 rcases zf.mp q with q|q
 ·exact y8 _ (aj (y5 _ (aj q)))
 ·exact y5 _ q
theorem turnC{cv:Value}{bb:Bool}{L' I:zh}{lc:LV}{Bs X:LO}{o oL on ow ops:AR}{ps:Array Value}{txt:zK}{E:VP}{Q:FP}{p0:Ej}(G:GK w hb)(B:BM hb)(h0:hb.get? 316=some (Fe #[]))(hd:A.depth+40<zj)(hu:A.units+100<AB)(hh:A.handled=none)
  (hfr:A.frames=some [bJ w L',e0]) (hf0:e0.frame=some L) (hk0:e0.scope.kind≠.module) (H:RS hb L' L lc Bs I o ps oL on l X s.heap) (hw:(L'+1,ow)∈Bs) (hwd:ow.data=.cell (some wv)) (hs:(L'+2,ops)∈Bs) (hsd:ops.data=.cell (some pv))
  (C:jP cv bb) (Rv:jk cv txt)
  (k:∀ s' ps' oL' on' l' X',Kp s s'->RS hb L' L lc Bs I o ps' oL' on' l' X' s'.heap->Q .next s') :
  y7 (y6 pw w) A (BR (.Name (yZ "number") p0) (bJ w L') cv) (oD (y6 pw w) A (bJ w L') E bodyC Q) E s:=by
 obtain⟨S,r,⟨vc,hvc⟩,hl,TI⟩:=H
 refine aU (gw (env:=bJ w L') (x:=yZ "number") (v:=cv) (c:=L'+3) 2 S rfl hvc ?_)
 intro ai on1 hon1 ah
 have S1':St (hbR hb ps) tabs L' l ((L,oL)::(I,o)::(L'+3,on1)::(X++Bs)) ai:=ah
 have hcode:=jg (P:=w.params) (h:=ai) (λa o e=>S1'.kin (s:=wh s ai) (G.reb (by kernel_rfl)) a o e)
 refine aC (bV (cG (env:=bJ w L') (G.reb (ps:=ps) (by kernel_rfl)) S1' (v:=.ref 314) (by kernel_rfl) (mj (K:=KN w.params) (args_cons (wX (c:=320) (cl:=clL (L'+1) (L'+2) (L'+3)) (qual:=qR) G (by kernel_rfl) B h0 (by decide) S1' (by kernel_rfl) TI (λp hp=>aj (aj (aj hp))) rfl hcode rfl (by rfl) ?_)))))
 refine λbe bu oc2 ctv2 pm2 ps2 X2 am dq hco2 cz TI2 af=>zq ?_
 have G2:=G.reb (ps:=ps2) (by kernel_rfl)
 have S2':=af.perm (T':=(L,oL)::(be,qE qR _ (clL (L'+1) (L'+2) (L'+3)) pm2 bu ctv2)::(X2++((I,o)::(L'+3,on1)::(X++Bs)))) (zv (l₁:=_::X2))
 refine⟨S2'.kin G2,?_⟩
 have mB:∀ p∈Bs,p∈((I,o)::(L'+3,on1)::(X++Bs)):=λp hp=>aj (aj (y5 _ hp))
 have mX:∀ {p:zh×AR}{X':LO},p∈X'++(X++Bs)->p∈X'++((I,o)::(L'+3,on1)::(X++Bs)):=λhp=>by
  rcases zf.mp hp with q|q
  ·exact y8 _ q
  ·exact y5 _ (aj (aj q))
 refine iF (oF:=_) (fd:=_) G2 S2' r (by decide) (by kernel_rfl) (dn 20 hd) (dn 60 hu) hh hfr rfl (λe=>Bo e) hf0 hk0 (.head _) rfl (λp hp=>hp)
  (lam3 G2 (by decide) (by kernel_rfl) ⟨.head _,aj (mX cz),hco2,aj (y5 _ (mB _ hw)),hwd,aj (y5 _ (mB _ hs)),hsd,aj (y5 _ (aj (.head _))),hon1⟩ C Rv) ?_
 intro s3 sl3 bn aw ae
 generalize qE qR _ (clL (L'+1) (L'+2) (L'+3)) pm2 bu ctv2=bg at ae
 have hst:bU l (yZ "told") (.str (yZ "cutoff must be in [0.0, 1.0]: " ++ txt) bn) [(yZ "told", .str (yZ "cutoff must be in [0.0, 1.0]: " ++ txt) bn)]:=by
  rcases hl with rfl|⟨v,rfl⟩
  ·exact .new (by kernel_rfl)
  ·exact .old .here
 refine aT (env:=bJ w L') ae hst (λba S7=>restate S7 λs7 K7 S7=>?_)
 replace K7:Kp s s7:=⟨K7.os.trans aw.os,λq=>K7.gens (aw.gens q)⟩
 have mC:(L'+3,on1)∈X2++((I,o)::(L'+3,on1)::(X++Bs)):=y5 _ (aj (.head _))
 refine dB (ay (env:=bJ w L') S7 m0 (wpAny_BinOp (wpAny_Constant_str (oN (env:=bJ w L') G2 S7 PyProof.Rows.Boot.«repr» (args_cons (bI (env:=bJ w L') (c:=L'+3) S7 (aj (aj mC)) hon1 (zq ?_)))))))
 refine Rv.call (Jj ?_ (by have:=Rv.len;rw[zz];show 30+_<=_;exact y6w this))
 refine λtk8 t8=>Nz ?_
 rw[bne_self_eq_false]
 refine zb ⟨λq=>(by cases q),λZ=>?_⟩
 refine aE (CZ ?_)
 have eX:(be,bg)::(X2++((I,o)::(L'+3,on1)::(X++Bs)))=((be,bg)::X2)++((I,o)::(L'+3,on1)::(X++Bs)):=rfl
 rw[eX] at S7
 have S11:=S7.perm (T':=(L,slo oL sl3)::(I,o)::(L'+3,on1)::((((be,bg)::X2)++X)++Bs)) (zP _ (by
  rw[zx]
  exact zv.trans (zP _ zv)))
 refine k _ ps2 _ on1 _ _ ⟨K7.os,K7.gens⟩ ⟨S11,r,⟨_,hon1⟩,.inr ⟨_,rfl⟩,TI2.mono λp hp=>?_⟩
 rw[zx]
 rcases zf.mp hp with q|q
 ·exact y8 _ (aj q)
 ·exact y5 _ q
theorem rc{f:UInt64}{t:AQ}{b:Bool}(h1:(zZ 0 f==some Ordering.lt || zZ 0 f==some Ordering.eq)=b)(h2:b=true->(zZ f 4607182418800017408==some Ordering.lt || zZ f 4607182418800017408==some Ordering.eq)=false):jP (.float f t) b :=
 ⟨λh=>FE (by rw[h1];exact h),λe Z Z Z Z Z Z h=>FE (by rw[h2 e];exact h)⟩
theorem rb{n:Int}{t:AQ}{b:Bool}(h1:(CB 0 n==some Ordering.lt || CB 0 n==some Ordering.eq)=b)(h2:b=true->(CB 4607182418800017408 n==some Ordering.gt || CB 4607182418800017408 n==some Ordering.eq)=false):jP (.int n t) b :=
 ⟨λh=>Ng (by rw[h1];exact h),λe Z Z Z Z Z Z h=>Nh (by rw[h2 e];exact h)⟩
theorem nZ(G:GK w hb)(B:BM hb)(h0:hb.get? 316=some (Fe #[]))(S:St hb tabs L l T s.heap)(hd:A.depth+60<zj)(hu:A.units+200<AB)(hh:A.handled=none)
  (hfr:A.frames=some [e0]) (hf0:e0.frame=some L) (hk0:e0.scope.kind≠.module)
  (k:∀ s' ps,Kp s s'->C7 ps.toList->St (hbR hb ps) tabs L l T s'.heap->R (.ok (.ret (.bool true))) s') :
  zW (y6 pw w) A (.call (.ref 321) ⟨[wv,pv],[]⟩) R s:=by
 refine yS (lb:=[]) (cs:=λL'=>[(yZ "number", L'+3),(yZ "some", L'+2),(yZ "word", L'+1)])
  (cm:=λx=>if x=yZ "word" then some wv else if x=yZ "some" then some pv else none) G S (lk321 _) (dn 60 hd)
  (binds:=[(yZ "word", wv),(yZ "some", pv)]) (body:=aD (st1 pw 16)) (Ba (by kernel_rfl)) ?_
  (λL'=>by kernel_rfl) ?_ (λL' p hp=>by cases hp) ?_ ?_ C9
 ·intro L' s₁ oL obs r hobs ar ah
  have hn0:=hobs _ (.head _)
  have hs0:=hobs _ (aj (.head _))
  have hw0:=hobs _ m2
  have S1':St hb tabs L' [] ([(L'+3,obs (L'+3)),(L'+2,obs (L'+2)),(L'+1,obs (L'+1))]++(L,oL)::T) s₁.heap:=ah
  clear ah
  generalize obs (L'+3)=on at *
  generalize obs (L'+2)=ops at *
  generalize obs (L'+1)=ow at *
  replace hn0:on.data=.cell none:=hn0
  replace hs0:ops.data=.cell (some pv):=hs0
  replace hw0:ow.data=.cell (some wv):=hw0
  have af:=(S1'.reb0 h0).perm (T':=(L,oL)::(L'+3,on)::(L'+2,ops)::(L'+1,ow)::T) zv
  clear S1' hobs
  refine eY (bF (args_cons (wpAny_Constant_int (args_cons (Ea (wpAny_Constant_int (Ko ?_)))))))
  refine args_cons (Ea (wpAny_BinOp (wpAny_Constant_int (wpAny_Constant_int (Lf (by decide) (by decide) (by decide) (by decide) (by decide +kernel) (Ko (zq ?_)))))))
  refine⟨rfl,_,_,_,_,_,by exact af,?_⟩
  refine λd3 ak ae=>Cb (items:=Gu _) ⟨_,ae.obj _ m0,rfl,0,rfl⟩ ?_
  have S4:=ae.push (gW d3 0)
  have hfr':(A.deeper (bJ w L')).frames=some [bJ w L',e0]:=BW hfr
  obtain⟨t1,t2,t3,I,hI,S5⟩:∃ t1 t2 t3 I,I=ak.objs.size/\St (hbR hb #[]) tabs L' [] ((L,oL)::(I,gW d3 0)::(L'+3,on)::([]++(d3,ap [.int 0 t1,.int (-1) t2,.int (-1000000000000000000000000000000) t3] 0)::(L'+2,ops)::(L'+1,ow)::T)) (ak.push (gW d3 0)) :=
   ⟨_,_,_,_,rfl,S4.perm p4⟩
  clear S4 ae
  rw[<- hI]
  let H:Nat->zc->Prop:=λi s=>∃ ps oL on o l' X,bY o d3 i/\Kp s₁ s/\RS hb L' L l ((d3,ap [.int 0 t1,.int (-1) t2,.int (-1000000000000000000000000000000) t3] 0)::(L'+2,ops)::(L'+1,ow)::T) I o ps oL on l' X s.heap
  refine l9 (vs:=[.int 0 t1,.int (-1) t2,.int (-1000000000000000000000000000000) t3]) (d:=d3) H hh ?_ ?_
  ·exact⟨#[],oL,on,_,[],[],⟨rfl,rfl⟩,⟨rfl,id⟩,S5,r,⟨_,hn0⟩,.inl rfl,rZ⟩
  rintro i s6 ⟨ps,oL6,on6,o6,l6,X6,hat,K6,H6⟩ hi
  refine⟨hbR hb ps,tabs,L',l6,(L,oL6)::(L'+3,on6)::(X6++(d3,ap [.int 0 t1,.int (-1) t2,.int (-1000000000000000000000000000000) t3] 0)::(L'+2,ops)::(L'+1,ow)::T),o6,0,H6.st.perm (z8 _ _ _),hat,aj (aj (y5 _ (.head _))),λhlt h' o' ho' S' E=>?_,λhfin h' S'=>?_⟩
  ·have num:=mem3 (P:=λv=>∃ m tn txt,v=.int m tn/\m<=0/\m.natAbs.log2<1920/\yZ (toString m)=txt/\txt.length<=1000) ⟨_,_,_,rfl,by decide,by decide +kernel,rfl,by decide +kernel⟩ ⟨_,_,_,rfl,by decide,by decide +kernel,rfl,by decide +kernel⟩ ⟨_,_,_,rfl,by decide,by decide +kernel,rfl,by decide +kernel⟩ (Ac hlt)
   obtain⟨m,tn,txt,em,hm,ha,et,hl⟩:=num
   rw[em]
   exact turnN (s:=wh s6 h') G B h0 (by show A.depth+1+40<zj;exact dn 19 hd) (by show A.units+_+100<AB;exact dn 97 hu) hh hfr' hf0 hk0 ⟨S'.perm (z8 _ _ _),H6.fr,H6.cell,H6.nm,H6.tab⟩ m2 hw0 (aj (.head _)) hs0 hm (lN et ha hl) (λh=>PySem.P.str_of_int ha (by rw[<- et] at h;exact h)) (λs7 ps7 oL7 on7 l7 X7 K7 H7=>⟨ps7,oL7,on7,o',l7,X7,ho',(kt K6 K7),H7⟩)
  obtain⟨v6,hv6⟩:=H6.cell
  have nm6:=H6.nm
  have fr6:=H6.fr
  have tab6:=H6.tab
  clear hat H6 hfin
  refine eY (bF (args_cons (Ea (Ct (neg_float (args_cons (Ct ?_)))))))
  refine args_cons (wpAny_Constant_int (args_cons (Ea (wpAny_Constant_int (Ko (zq ⟨rfl,_,_,_,_,_,by exact S',?_⟩))))))
  refine λd8 bc S8=>Cb (items:=Gu _) ⟨_,S8.obj _ m0,rfl,0,rfl⟩ ?_
  have S9:=S8.push (gW d8 0)
  generalize hB:(d3,ap [Cc 0 t1,.int (-1) t2,.int (-1000000000000000000000000000000) t3] 0)::(L'+2,ops)::(L'+1,ow)::T=B1 at *
  have mw:(L'+1,ow)∈B1:=by rw[<- hB];exact aj (aj (.head _))
  have ms:(L'+2,ops)∈B1:=by rw[<- hB];exact aj (.head _)
  obtain⟨u1,u2,u3,u4,I9,hI9,S10⟩:∃ u1 u2 u3 u4 I,I=bc.objs.size/\St (hbR hb ps) tabs L' l6 ((L,oL6)::(I,gW d8 0)::(L'+3,on6)::([]++(d8,ap [.float (Jk 4602678819172646912) u1,.float 4609434218613702656 u2,.int 2 u3,.int (-1) u4] 0)::(X6++B1))) (bc.push (gW d8 0)) :=
   ⟨_,_,_,_,_,rfl,S9.perm p4⟩
  clear S9 S8 S'
  rw[<- hI9]
  let H:Nat->zc->Prop:=λi s=>∃ ps oL on o l' X,bY o d8 i/\Kp s₁ s/\RS hb L' L l ((d8,ap [.float (Jk 4602678819172646912) u1,.float 4609434218613702656 u2,.int 2 u3,.int (-1) u4] 0)::(X6++B1)) I9 o ps oL on l' X s.heap
  refine l9 (vs:=[.float (Jk 4602678819172646912) u1,.float 4609434218613702656 u2,.int 2 u3,.int (-1) u4]) (d:=d8) H hh ?_ ?_
  ·exact⟨ps,oL6,on6,_,l6,[],⟨rfl,rfl⟩,⟨K6.os,K6.gens⟩,S10,fr6,⟨_,hv6⟩,nm6,tab6.mono λp hp=>aj hp⟩
  rintro i s11 ⟨ps1,oL1,on1,c8,l₁,X1,hat,K11,H1⟩ hi
  refine⟨hbR hb ps1,tabs,L',l₁,(L,oL1)::(L'+3,on1)::(X1++(d8,ap [.float (Jk 4602678819172646912) u1,.float 4609434218613702656 u2,.int 2 u3,.int (-1) u4] 0)::(X6++B1)),c8,0,H1.st.perm (z8 _ _ _),hat,aj (aj (y5 _ (.head _))),λhlt h' o' ho' S' E=>?_,λhfin h' S'=>?_⟩
  ·have num:=mem4 (P:=λv=>∃ b txt,jP v b/\jk v txt) ⟨_,_,rc rfl (by decide +kernel),kZ rfl (by decide +kernel)⟩ ⟨_,_,rc rfl (by decide +kernel),kZ rfl (by decide +kernel)⟩ ⟨_,_,rb rfl (by decide +kernel),lN rfl (by decide +kernel) (by decide +kernel)⟩ ⟨_,_,rb rfl (by decide +kernel),lN rfl (by decide +kernel) (by decide +kernel)⟩ (Ac hlt)
   obtain⟨b,txt,C,Rv⟩:=num
   exact turnC (s:=wh s11 h') G B h0 (by show A.depth+1+40<zj;exact dn 19 hd) (by show A.units+_+100<AB;exact dn 97 hu) hh hfr' hf0 hk0 ⟨S'.perm (z8 _ _ _),H1.fr,H1.cell,H1.nm,H1.tab⟩ (aj (y5 _ mw)) hw0 (aj (y5 _ ms)) hs0 C Rv (λs7 ps7 oL7 on7 l7 X7 K7 H7=>⟨ps7,oL7,on7,o',l7,X7,ho',(kt K11 K7),H7⟩)
  have fr1:=H1.fr
  have tab1:=H1.tab
  refine cO (Ei ?_)
  have S12:=S'.leave 0 rfl fr1
  refine k _ ps1 ⟨K11.os.trans ar.os,λq=>K11.gens (ar.gens q)⟩ tab1.ok (S12.sub ?_)
  rw[<- hB]
  exact .cons _ ((Hm _ ((((((Al T).cons _).cons _).cons _).trans (Ai _ _)))).trans (Ai _ _))
 ·intro L' p hp
  rcases za.mp hp with rfl|hp
  ·exact⟨by kernel_rfl,Cu (by decide)⟩
  rcases za.mp hp with rfl|hp
  ·exact⟨by kernel_rfl,Cu (by decide)⟩
  rw[y9] at hp;subst hp
  exact⟨by kernel_rfl,Cu (by decide)⟩
 ·intro L' p hp
  rcases za.mp hp with rfl|hp
  ·rfl
  rcases za.mp hp with rfl|hp
  ·rfl
  rw[y9] at hp;subst hp
  rfl
 ·intro L' x hx
  rcases za.mp hx with rfl|hx
  ·exact .inr ⟨by kernel_rfl,rfl⟩
  rw[y9] at hx;subst hx
  exact .inr ⟨by kernel_rfl,rfl⟩
end
end
section
open PySem.Spec PySem.SeqAt
structure Scr(hb:AJ)(sc:zh)(scv:List Value):Prop where
 obj:Ex2 λo n=>An3 (hb.get? sc=some o) (o.cls=.type "list") (o.data=.seq scv.toArray n)
 nt:sc∉tabs
 isInts:∀ v∈scv,Ex2 λi t=>v=.int i t
 small:scv.length<=63
theorem Scr.isList{hb:AJ}{sc:zh}{scv:List Value}(H:Scr hb sc scv){L:zh}{l:LV}{T:LO}{h:AJ}(S:St hb tabs L l T h):h.IsList sc scv.toArray:=by
 obtain⟨o,n,a,b,c⟩:=H.obj
 exact⟨o,S.old a H.nt,b,n,c⟩
theorem ints2(a b:Int)(t1 t2:AQ):∀ v∈[Cc a t1,.int b t2],Ex2 λi t=>v=Cc i t:=by
 intro v hv
 simp at hv
 rcases hv with rfl|rfl<;> exact⟨_,_,rfl⟩
structure Sw(ws:List (zK×AQ))(tk:Nat):Prop where
 lo:∀ p∈ws,776<=p.2/\p.2<tk
 inj:∀ p∈ws,∀ q∈ws,p.2=q.2->p.1=q.1
theorem Sw.nil{tk:Nat}:Sw [] tk:=⟨λp hp=>(nomatch hp),λp hp=>(nomatch hp)⟩
theorem Sw.mono{ws:List (zK×AQ)}{tk tk':Nat}(H:Sw ws tk)(h:tk<=tk'):Sw ws tk':=⟨λp hp=>⟨(H.lo p hp).1,zN (H.lo p hp).2 h⟩,H.inj⟩
theorem Sw.snoc{ws:List (zK×AQ)}{tk tk':Nat}(H:Sw ws tk){p:zK×AQ}(h7:776<=tk)(h1:tk<=p.2)(h2:p.2<tk'):Sw (ws++[p]) tk':=by
 have key:∀ q∈ws,q.2≠p.2:=λq hq e=>absurd (H.lo q hq).2 (Bw.mpr (e▸h1))
 refine⟨λq hq=>?_,λq hq r hr e=>?_⟩
 ·rcases zf.mp hq with h|h
  ·exact⟨(H.lo q h).1,CA (zN (H.lo q h).2 h1) h2⟩
  ·rw[y9] at h;subst h;exact⟨zn h7 h1,h2⟩
 ·rcases zf.mp hq with h|h<;> rcases zf.mp hr with h'|h'
  ·exact H.inj q h r h' e
  ·rw[y9] at h';subst h';exact absurd e (key q h)
  ·rw[y9] at h;subst h;exact absurd e.symm (key r h')
  ·rw[y9] at h h';rw[h,h']
theorem Sw.again{ws:List (zK×AQ)}{tk:Nat}(H:Sw ws tk){p:zK×AQ}(h:p∈ws):Sw (ws++[p]) tk:=by
 refine⟨λq hq=>?_,λq hq r hr e=>?_⟩
 ·rcases zf.mp hq with h'|h'
  ·exact H.lo q h'
  ·rw[y9] at h';subst h';exact H.lo q h
 ·have m:∀ q∈ws++[p],q∈ws:=λq hq=>by
   rcases zf.mp hq with h'|h'
   ·exact h'
   ·rw[y9] at h';subst h';exact h
  exact H.inj q (m q hq) r (m r hr) e
section
variable{sc:zh}{T:LO}
noncomputable abbrev iY:List Cv:=aD (st1 pw 18)
noncomputable abbrev evL(w:As)(L':zh):II:=zB (yF w.params) L' 331
theorem vP{d:zh}{Q:VP}{vs:List Value}(hl1:s.heap.IsList sc vs.toArray)(hl2:s.heap.IsList d ([]:List Value).toArray)(hu:A.units<AB)(h:Q (.bool (decide (vs≠[]))) s):y7 (y6 pw w) A (AK .NotEq (.ref sc) (.ref d)) Q E s:=by
 cases vs with
 | nil =>
  exact mR (xs:=[]) (ys:=[]) hl1 hl2 hu h
 | cons v r =>
  have:=RcNeAt.lists_lengths (A:=A) (s:=s) hl1 hl2 (by simp) hu
  exact this pw w E Q h
theorem law_a (G:GK w hb) (hd:A.depth+60<zj) (hu:A.units+100<AB) (hh:A.handled=none) (H:Scr hb sc scv) (htk:776<=s.toks) (S:St hb tabs L' [(yZ "script", .ref sc)] T s.heap) {Q:FP}
  (k:∀ (s':zc) (X:LO) (d:zh) (n:Nat) (ws:List (zK×AQ)),Kp s s'->776<=s'.toks->Sw ws s'.toks->(∀ p∈ws,Wd p.1 5)->3<=ws.length->ws.length<=6 ->
   St hb tabs L' [(yZ "words", .ref d),(yZ "script", .ref sc)] ((d,ap (ws.map aM) n)::(X++T)) s'.heap->y7 (y6 pw w) A (z5 (iY.drop 1) (evL w L')) Q E s') :
  y7 (y6 pw w) A (z5 iY (evL w L')) Q E s:=by
 refine eW (hb:=hb) (tabs:=tabs) (cl:=[]) (env:=evL w L') (l':=λD=>[(yZ "words", .ref D),(yZ "script", .ref sc)]) hh ?_ rfl rfl (.inl ⟨_,_,rfl⟩) rfl (by decide) rfl (by decide)
 refine wpAny_BinOp (AH htk (zi (Q:=λv s₁=>∃ D X vs n,v=.ref D/\Kp s s₁/\1<=vs.length/\vs.length<=4/\(∀ v∈vs,Ex2 λi t=>v=.int i t)/\St hb tabs L' [(yZ "script", .ref sc)] ((D,ap vs n)::(X++T)) s₁.heap) ?_ (λv s₁ h=>?_) λZ Z e Z=>e))
 ·refine IfExp_ (wpAny_isTrue_Compare1 (ay (env:=evL w L') S m0 (bF (zq ⟨rfl,_,_,_,_,_,S,?_⟩))))
  refine λD0 h₀ S0=>vP (H.isList S0) ⟨_,S0.obj _ m0,rfl,_,rfl⟩ (dn 100 hu) (zb ?_)
  by_cases hn:scv=[]
  ·rw[if_neg (by rw[decide_eq_false (λq=>q hn)];exact zR)]
   refine bF (args_cons (wpAny_Constant_int (zq ⟨rfl,_,_,_,_,_,S0,?_⟩)))
   exact λD1 ai ah=>⟨D1,[],[.int 5141 _],_,rfl,⟨rfl,id⟩,zk 1,(by show 1<=4;decide),λv hv=>by rw[y9] at hv;subst hv;exact⟨_,_,rfl⟩,ah.sub (.cons_cons _ (zo _ _))⟩
  ·rw[if_pos (decide_eq_true hn)]
   refine uW (env:=evL w L') G S0 (id := "list") (by kernel_rfl) (args_cons (lK (hb:=hb) (tabs:=tabs) (ay (env:=evL w L') S0 m0 (wpAny_Constant_int ⟨_,_,_,sc,4,_,scv,rfl,rfl,S0,H.isList S0,by have:=H.small;exact up 937 this,?_⟩))))
   refine λD1 X1 ai ah=>zq (sw (vs:=scv.take 4) (n:=0) ah (.inl rfl) (ah.obj _ m0) rfl rfl (by rw[Bh];exact y0s) ?_)
   refine λD2 bu am af=>⟨D2,(D1,ap (scv.take 4) 0)::(X1++[(D0,ap ([]:List Value) 0)]),scv.take 4,bu,rfl,⟨rfl,id⟩,?_,(by rw[Bh];exact Nat.min_le_left _ _),λv hv=>H.isInts v (AI hv),?_⟩
   ·rw[Bh]
    have:0<scv.length:=Gm.mpr hn
    exact y0t this
   ·have e:(D1,ap (scv.take 4) 0)::(X1++[(D0,ap ([]:List Value) 0)])++T=(D1,ap (scv.take 4) 0)::(X1++(D0,ap ([]:List Value) 0)::T):=by simp
    rw[e]
    exact af
 obtain⟨D1,X1,vs,g7,rfl,ar,hl1,hl4,hint,ah⟩:=h
 refine λd7=>AH d7 (bF (args_cons (wpAny_Constant_int (args_cons (wpAny_Constant_int (zq ⟨rfl,_,_,_,_,_,by exact ah,?_⟩))))))
 refine λD2 am af ht3=>pZ (vs:=vs) (us:=[_,_]) af m1 m0 (by show vs.length+2<=1000;exact y0u hl4) (λD3 ak ae=>⟨_,_,D3,_,0,λi tk acc X=>∃ ws:List (zK×AQ),acc=ws.map aM/\ws.length=i/\X=[]/\776<=tk/\Sw ws tk/\∀ p∈ws,Wd p.1 5,⟨rfl,by exact ae,m0,?_,?_,?_,?_⟩,λD=>.new (by kernel_rfl),?_⟩)
 ·rw[zO];simp only[zL,Ck];exact y0v hl4
 ·exact⟨[],rfl,rfl,rfl,ht3,.nil,λp hp=>nomatch hp⟩
 ·rintro i tk tk' acc X h ⟨ws,a,b,c,d,e,f⟩
  exact⟨ws,a,b,c,zn d h,e.mono h,f⟩
 ·rintro C D oL E' i v acc c X own s4 hv hacc ⟨ws,rfl,rfl,rfl,h7,hsw,hwd⟩ r K4 S4
  obtain⟨x,t,rfl⟩:∃ x t,v=.int x t:=by
   have hm:=zp hv
   rcases zf.mp hm with h|h
   ·obtain⟨x,t,e⟩:=hint v h;exact⟨x,t,e⟩
   ·obtain⟨x,t,e⟩:=ints2 _ _ _ _ v h;exact⟨x,t,e⟩
  refine aU (AH (zk s4.toks) (aT (env:=At _ [] C _) S4 (.new (by kernel_rfl)) ?_))
  refine λax S5 e9=>DZ (uX (env:=At _ [] C _) G S5 (v:=.ref 293) (by kernel_rfl) (aln (env:=At _ [] C _) S5 m0 ⟨⟨_,_,_,by exact S5⟩,?_⟩))
  refine xq G S5 (dn 50 hd) hh (λs6 y ty K6 S6 hy hy1 hy2=>⟨[],_,(kt K4 K6),by exact S6,ws++[(y,ty)],by rw[zG];rfl,by rw[zO];rfl,rfl,?_,hsw.snoc h7 (zn e9 hy1) hy2,?_⟩)
  ·exact zn h7 (zn e9 (zn hy1 (Ak hy2)))
  ·intro p hp
   rcases zf.mp hp with q|q
   ·exact hwd p q
   ·rw[y9] at q;subst q;exact hy
 ·rintro s4 D acc c X K4 S4 el ⟨ws,rfl,hlen,rfl,h7,hsw,hwd⟩
  rw[zO] at hlen
  simp only[zL,Ck] at hlen
  refine k s4 ((D3,_)::(D2,_)::(D1,_)::X1) D c ws (kt ar K4) h7 hsw hwd (y0x hl1 hlen) (y0y hl4 hlen) S4
end
theorem kh(x:zK):aA (x++x)=aA x++aA x:=by
 obtain⟨a⟩:=x
 show ((a++a).toList.map λc=>(⟨#[c]⟩:zK))=(a.toList.map _)++(a.toList.map _)
 rw[EN,zG]
theorem Wd.twice{y:zK}{n:Nat}(h:Wd y n):Wd (y++y) (n+n):=by
 refine⟨?_,λc hc=>?_⟩
 ·show (y.cps++y.cps).size<=_
  rw[FF];exact Nat.add_le_add h.1 h.1
 ·rw[kh] at hc
  rcases zf.mp hc with q|q<;> exact h.2 c q
theorem Wd.le{y:zK}{n m:Nat}(h:Wd y n)(hm:n<=m):Wd y m:=⟨zn h.1 hm,h.2⟩
section
variable{sc:zh}{T:LO}{n:Nat}{ws:List (zK×AQ)}
theorem uk{prog:Bm}{tabs:List zh}{L:zh}{l:LV}{y:zK}{ty:AQ}{Q:VP}(hy:y.cps.size<=60)
  (h:∀ (s':zc) (t':AQ),Kp s s'->St hb tabs L l T s'.heap->s.toks<=s'.toks->((y++y,t')=(y,ty)\/(s.toks<=t'/\t'<s'.toks))->Q (.str (y++y) t') s') (S:St hb tabs L l T s.heap) :
  y7 (y6 prog w) A (EQ .Add (.str y ty) (.str y ty)) Q E s:=by
 refine LR ?_
 by_cases h0:(y.length==0)=true
 ·rw[if_pos h0]
  have hz:y.cps.size=0:=Aw h0
  have e:y++y=y:=by
   obtain⟨a⟩:=y
   obtain rfl:=Ix.mp hz
   show Str.mk (#[]++#[])=_
   simp
  have:=h s ty Kp.refl S (zk _) (.inl (by rw[e]))
  rw[e] at this
  exact this
 ·rw[if_neg h0,if_neg h0]
  refine⟨?_,h _ _ ⟨rfl,id⟩ S (C6 _) (.inr ⟨zk _,Bi _⟩)⟩
  show (y.cps++y.cps).size<=_
  rw[zz,FF]
  exact y1s hy
theorem law_b(G:GK w hb)(hh:A.handled=none)(htk:776<=s.toks)(hsw:Sw ws s.toks)(hwd:∀ p∈ws,Wd p.1 5)(h3:3<=ws.length)(h6:ws.length<=6)
  (S:St hb tabs L' [(yZ "words", .ref d),(yZ "script", .ref sc)] ((d,ap (ws.map aM) n)::T) s.heap) {Q:FP}
  (k:∀ (s':zc) (X:LO) (d:zh) (n:Nat) (p:zK×AQ) (ws:List (zK×AQ)),Kp s s'->776<=s'.toks->Sw (p::ws) s'.toks->Wd p.1 5->(∀ p∈ws,Wd p.1 10)->4<=ws.length->ws.length<=7 ->
   St hb tabs L' [(yZ "words", .ref d),(yZ "script", .ref sc)] ((d,ap ((p::ws).map aM) n)::(X++T)) s'.heap->y7 (y6 pw w) A (z5 (iY.drop 2) (evL w L')) Q E s') :
  y7 (y6 pw w) A (z5 (iY.drop 1) (evL w L')) Q E s:=by
 obtain⟨p,r,rfl⟩:∃ p r,ws=p::r:=by
  cases ws with
  | nil=>exact absurd h3 (by decide)
  | cons p r=>exact⟨p,r,rfl⟩
 have hp5:=hwd p (.head _)
 have hsz:((p::r).map aM).length<=1000:=by rw[ze];exact up 994 h6
 refine aC (wpAny_BinOp (ay (env:=evL w L') S m0 (bF (args_cons (AH htk (AH (zk s.toks) (iG (hb:=hb) (tabs:=tabs) false ?_)))))))
 refine gU Bg (ay (env:=evL w L') S m0 (wpAny_Constant_int ⟨⟨_,S.obj _ m0,rfl⟩,?_⟩))
 refine gL (k:=0) (x:=aM p) S m0 hsz rfl (bS (wpAny_Constant_int (dX ⟨⟨aM p,aA p.1⟩,some (1,_),none,L',_,_,rfl,rfl,rfl,rfl,by exact S,.str p.1 p.2 (by have:=hp5.1;exact up 55 this),(by rw[aF];have:=hp5.1;exact y1p this),dF (by show 1<12;decide),(λk hk=>by cases hk),?_⟩)))
 intro y s₁ X1 ar ah hy b6 dz d7 tn1 hts1 ht7
 obtain⟨z,tz,rfl⟩:∃ z tz,y=⟨.str z tz,aA z⟩:=by
  cases hy with
  | str y t h=>exact⟨y,t,rfl⟩
  | tup a ps h1 h2=>cases b6
 have hz:Wd z 5:=by
  have e:aA z=(aA p.1).drop 1:=by
   rw[show aA z=_ from dz];show ((aA p.1).take (aA p.1).length).drop 1=_
   rw[z4]
  refine⟨?_,λc hc=>hp5.2 c (Ji (e▸hc))⟩
  rw[<- aF,e,EJ,aF];have:=hp5.1;exact y1q this
 have hsw1:Sw ((p::r)++[(z,tz)]) s₁.toks:=by
  rcases tn1 with q|q|⟨z',t',q,h1,h2⟩
  ·injection q with e1 e2
   have:(z,tz)=p:=Ks e1 e2
   rw[this]
   exact (hsw.mono hts1).again (.head _)
  ·cases q
  ·injection q with e1 e2
   subst e2
   exact hsw.snoc htk (by simp only at h1;exact z3m h1) h2
 refine args_cons (wpAny_BinOp (gU Bg (ay (env:=evL w L') ah m0 (wpAny_Constant_int ⟨⟨_,ah.obj _ (y5 _ m0),rfl⟩,?_⟩))))
 refine gL (k:=0) (x:=aM p) ah (y5 _ m0) hsz rfl (gU Bg (ay (env:=evL w L') ah m0 (wpAny_Constant_int ⟨⟨_,ah.obj _ (y5 _ m0),rfl⟩,?_⟩)))
 refine gL (k:=0) (x:=aM p) ah (y5 _ m0) hsz rfl (uk (hb:=hb) (tabs:=tabs) (L:=L') (by have:=hp5.1;exact up 55 this) ?_ ah)
 intro ag tq ao af cg hq2
 have hsw2:Sw ((p::r)++[(z,tz)]++[(p.1++p.1,tq)]) ag.toks:=by
  have hle:s₁.toks<=ag.toks:=by simp only at cg;exact z3m cg
  rcases hq2 with q|⟨h1,h2⟩
  ·rw[q];exact (hsw1.mono hle).again (.head _)
  ·exact hsw1.snoc ht7 (by simp only at h1;exact z3m h1) h2
 have hle2:s₁.toks<=ag.toks:=by simp only at cg;exact z3m cg
 refine zq ⟨rfl,_,_,_,_,_,by exact af,?_⟩
 refine λD3 ak ae=>pZ ae (aj (y5 _ m0)) m0 (by rw[ze];show (p::r).length+2<=1000;exact y1t h6) (λD4 au S4=>aT (env:=evL w L') S4 (.old .here) ?_)
 intro ax S5
 have e:((p::r).map aM)++[.str z tz,.str (p.1++p.1) tq]=(p::(r++[(z,tz),(p.1++p.1,tq)])).map aM:=by simp
 rw[e] at S5
 have hl:(r++[(z,tz),(p.1++p.1,tq)]).length=r.length+2:=by rw[zO];rfl
 simp only[zL] at h3 h6
 refine k _ ((D3,ap [.str z tz,.str (p.1++p.1) tq] 0)::(X1++[(d,ap ((p::r).map aM) n)])) D4 0 p (r++[(z,tz),(p.1++p.1,tq)]) ⟨ao.os.trans ar.os,λq=>ao.gens (ar.gens q)⟩ ?_ ?_ hp5 (λq hq=>?_) (by rw[hl];exact C8 h3) (by rw[hl];exact C8 h6) ?_
 ·show 776<=ag.toks+1;exact y1w htk d7 cg
 ·have:=hsw2.mono (C6 ag.toks)
  have e2:p::r++[(z,tz)]++[(p.1++p.1,tq)]=p::(r++[(z,tz),(p.1++p.1,tq)]):=by simp
  rw[e2] at this
  exact this
 ·rcases zf.mp hq with h|h
  ·exact (hwd q (aj h)).le (by decide)
  ·rcases za.mp h with rfl|h
   ·exact hz.le (by decide)
   ·rw[y9] at h;subst h
    exact hp5.twice
 ·have e3:((D3,ap [.str z tz,.str (p.1++p.1) tq] 0)::(X1++[(d,ap ((p::r).map aM) n)]))++T=(D3,ap [.str z tz,.str (p.1++p.1) tq] 0)::(X1++(d,ap ((p::r).map aM) n)::T):=by simp
  rw[e3]
  exact S5
end
theorem qi:Dq Hg "proto.is" = some Az.«proto.is»:=B2 (by kernel_rfl)
theorem qh:FT "proto.is" = true:=by decide +kernel
theorem pI{Q:BP}{y z:zK}{u v:AQ}(NB:B8 s.heap)(hu:u≠0)(hv:v≠0)(ht:u=v->y=z)(h:∀ c:Bool,(c=true->y=z)->Q c s):y7 (y6 prog w) A (isSame (.str y u) (.str z v)) Q E s:=by
 have h0:(u==0 || v==0)=false:=by rw[beq_eq_false_iff_ne.mpr hu,beq_eq_false_iff_ne.mpr hv];rfl
 refine zA h0 ?_
 by_cases huv:u=v
 ·refine Bq (beq_iff_eq.mpr huv) (y4 (h true λZ=>ht huv))
 ·refine zA (beq_eq_false_iff_ne.mpr huv) ?_
  by_cases hyz:y=z
  ·refine zA (by rw[beq_iff_eq.mpr hyz];rfl) (y0 (B4 NB ?_))
   refine zA rfl (y0 (B4 NB ?_))
   refine zA rfl (y0 (AS ?_))
   refine y0 (B0 ?_)
   exact y4 (h _ λZ=>hyz)
  ·refine Bq (by rw[beq_eq_false_iff_ne.mpr hyz];rfl) (y4 (h false λq=>by cases q))
noncomputable def siF(x:Value×Value)(_:Option Bool×Unit):LH (ForInStep (Option Bool×Unit)):=do
 match <- runValue (Code.builtin "proto.is" { pos:=[x.1,x.2] }) with
 | FM true=>do
  let w:=(<- ask).params
  if (!joinedAsOfOld w x.1 x.2)=true then AA (Jl (some false,()))
  else do
   if (!(<- Jm w x.1 x.2))=true then AA (Jl (some false,()))
   else AA (IB (none,()))
 | _=>AA (Jl (some false,()))
theorem oG(NB:B8 s.heap):∀ {ps qs:List (zK×AQ)}{Q:Option Bool×Unit->zc->Prop},ps.length=qs.length->(∀ p∈ps,p.2≠0)->(∀ q∈qs,q.2≠0)->(∀ p∈ps,∀ q∈qs,p.2=q.2->p.1=q.1) ->
  Q (some false,()) s->(ps.map (·.1)=qs.map (·.1)->Q (none,()) s)->y7 (y6 prog w) A (Dt ((ps.map aM).zip (qs.map aM)) (none,()) siF) Q E s:=by
 intro ps
 induction ps with
 | nil =>
  intro qs Q hl Z Z Z Z h1
  cases qs with
  | nil =>
   show y7 _ _ (Dt [] _ _) _ _ _
   rw[Er]
   exact y4 (h1 rfl)
  | cons q qs=>cases hl
 | cons p ps ih =>
  intro qs Q hl hp hq hpq h0 h1
  cases qs with
  | nil=>cases hl
  | cons q qs =>
   show y7 _ _ (Dt ((aM p,aM q)::(ps.map aM).zip (qs.map aM)) _ _) _ _ _
   rw[AC]
   refine y0 (y0 (G3 (Ad qi ?_)))
   rw[BV qh _]
   refine y0 (pI NB (hp p (.head _)) (hq q (.head _)) (hpq p (.head _) q (.head _)) λc hc=>?_)
   refine y4 ?_
   cases c with
   | false=>exact y4 (y4 h0)
   | true =>
    refine y0 (B0 ?_)
    refine aQ (by show ¬ ((!true)=true);decide) (y0 (m:=Jm _ _ _) (y4 ?_))
    refine aQ (by decide) (y4 (ih (Nat.succ.inj hl) (λp hp'=>hp p (aj hp')) (λq hq'=>hq q (aj hq')) (λp hp' q hq'=>hpq p (aj hp') q (aj hq')) h0 λe=>h1 ?_))
    rw[AD,AD,e,hc rfl]
theorem same_items{ps qs:List (zK×AQ)}{Q:BP}(NB:B8 s.heap)(hp:∀ p∈ps,p.2≠0)(hq:∀ q∈qs,q.2≠0)(hpq:∀ p∈ps,∀ q∈qs,p.2=q.2->p.1=q.1)(h:∀ c:Bool,(c=true->ps.map (·.1)=qs.map (·.1))->Q c s) :
  y7 (y6 prog w) A (sameItems (ps.map aM).toArray (qs.map aM).toArray) Q E s:=by
 by_cases hl:ps.length=qs.length
 ·exact aQ (by simp[hl]) (y0 (oG NB hl hp hq hpq (y4 (h false λq=>by cases q)) λe=>y4 (h true λZ=>e)))
 ·exact bW (by simpa using hl) (y4 (h false λq=>by cases q))
theorem l4{a b:zh}{ps qs:List (zK×AQ)}{T₀:LO}(ha:(a,aG (ps.map aM))∈T₀)(hb:(b,aG (qs.map aM))∈T₀)(hp:∀ p∈ps,p.2≠0)(hq:∀ q∈qs,q.2≠0)(hpq:∀ p∈ps,∀ q∈qs,p.2=q.2->p.1=q.1) :
  aP w T₀ (.ref a) (.ref b) (cts ps=cts qs):=by
 intro A E s Q NB hT h
 have h1:=hT _ ha
 have h2:=hT _ hb
 refine y0 ?_
 by_cases e:a=b
 ·refine bW (by simpa using e) (y4 (y4 (h true λZ=>?_)))
  subst e
  have h1':s.heap.get? a=some (aG (ps.map aM)):=h1
  have h2':s.heap.get? a=some (aG (qs.map aM)):=h2
  rw[h1'] at h2'
  have e3:(ps.map aM).toArray=(qs.map aM).toArray:=by
   injection h2' with e1
   injection e1 with _ _ e2 _
   injection e2
  have e4:ps.map aM=qs.map aM:=by simpa using e3
  have e5:ps=qs:=DR (f:=aM) (λp q e=>by injection e with e1 e2;exact Ks e1 e2) |>.mp e4
  rw[e5]
 ·refine aQ (by simpa using e) (y0 (Dv h1 (y0 (Dv h2 ?_))))
  by_cases he:((ps.map aM).toArray.isEmpty&&(qs.map aM).toArray.isEmpty)=true
  ·refine bW he (y0 (AS (y4 (y4 (h true λZ=>?_)))))
   simp at he
   rw[he.1,he.2]
  ·refine aQ he (y0 (B0 ?_))
   dsimp only
   split
   ·exact y4 (y4 (h false λq=>by cases q))
   split
   ·exact y4 (y4 (h false λq=>by cases q))
   refine y0 (zs (same_items NB hp hq hpq λc hc=>?_))
   cases c with
   | true =>
    exact bW rfl (y0 (AS (y4 (y4 (h true λZ=>hc rfl)))))
   | false =>
    exact aQ zR (y4 (y4 (h false λq=>by cases q)))
theorem gp{a:zh}{y:zK}{t:AQ}{T₀:LO}{C:Prop}:aP w T₀ (.ref a) (.str y t) C:=by
 intro A E s Q NB hT h
 exact y0 (y4 (y4 (h false λq=>by cases q)))
noncomputable abbrev xm (vs:List Value) (c:Nat):AR:={ cls:=.type "list", dict:=none,data:=.seq vs.toArray c,slots:=#[] }
noncomputable abbrev lw(x:zK)(t:Nat):List (zK×AQ):=(aA x).zipIdx t
theorem tN{R:Cm->zc->Prop}{x:zK}{t:AQ}{S I:zh}{res:Value}{t0:Nat}{h₀:AJ}(hh:A.handled=none)(hSI:S≠I)(hn:x.cps.size<=DY)
  (hR:∀ h' c,(∀ b o,b≠S->b≠I->h₀.get? b=some o->h'.get? b=some o)->h'.get? S=some (xm ((lw x t0).map aM) c)->R (.ok (.ret res)) (wht s h' (t0+x.cps.size))) :
  ∀ (k i:Nat) (h:AJ) (c:Nat),x.cps.size - i=k->i<=x.cps.size->h.IsStrIter I "str_ascii_iterator" x t i->h.get? S=some (xm (((lw x t0).take i).map aM) c)->(∀ b o,b≠S->b≠I->h₀.get? b=some o->h.get? b=some o) ->
   zW (y6 prog w) A (.builtin "list.extend.loop" ⟨[.ref S,.ref I,res],[]⟩) R (wht s h (t0+i)):=by
 have hlen:(lw x t0).length=x.cps.size:=by simp[aA]
 intro k
 induction k with
 | zero =>
  intro i h c hk hi hit hS hk0
  have hin:i=x.cps.size:=z94 hk hi
  subst hin
  refine Ad DO ?_
  rw[BV Cq _]
  refine y0 (m:=Di (.ref I)) (wpAny_pyNext_ascii_end (A:=A.in1) hh hit (by simp) λh' he=>?_)
  refine y4 (hR h' c (λb o h1 h2 e=>he b o h2 (hk0 b o h1 h2 e)) ?_)
  rw[<- hlen,z4] at hS
  exact he S _ hSI hS
 | succ k ih =>
  intro i h c hk hi hit hS hk0
  have hlt:i<x.cps.size:=z96 hk
  refine Ad DO ?_
  rw[BV Cq _]
  refine y0 (m:=Di (.ref I)) (wpAny_pyNext_ascii_item hit (c:=x.cps[i]) (by simp[hlt]) λh' hit' hs'=>?_)
  have hS':h'.get? S=some (xm (((lw x t0).take i).map aM) c):=(hs'.2 S hSI).trans hS
  refine y0 (m:=Jr S (·.push (.str ⟨#[x.cps[i]]⟩ (t0+i)))) ?_
  have hlt':i<(lw x t0).length:=by rw[hlen];exact hlt
  have hsz:(((lw x t0).take i).map aM).toArray.size=i:=by simp[aA];exact y4u hi
  have e1:(((lw x t0).take i).map aM).toArray.push (.str ⟨#[x.cps[i]]⟩ (t0+i))=(((lw x t0).take (i+1)).map aM).toArray:=by
   rw[Am,zl hlt',GX,zG]
   have:(lw x t0)[i]=(⟨#[x.cps[i]]⟩,t0+i):=by simp[lw,aA]
   rw[this]
   apply EH.mp
   simp
  refine BH hS' rfl (y4 ⟨Au Cq _,?_⟩) (by rw[hsz];exact y6h hn hlt) (by show (Array.push _ _).size<=DY+1;rw[E5,hsz];exact y6i hn hlt)
  have hu:=zt (zS λxs=>xs.push (.str ⟨#[x.cps[i]]⟩ (t0+i))) hS' rfl
  obtain⟨c',e2⟩:∃ c',zS (λxs=>xs.push (.str ⟨#[x.cps[i]]⟩ (t0+i))) (xm (((lw x t0).take i).map aM) c) = { xm [] 0 with data:=.seq ((((lw x t0).take i).map aM).toArray.push (.str ⟨#[x.cps[i]]⟩ (t0+i))) c' }:=⟨_,rfl⟩
  refine ih (i+1) _ c' (z9a hk) hlt ?_ ?_ ?_
  ·obtain⟨o,a,b,d⟩:=hit'
   exact⟨o,(FD _ _ hSI).trans a,b,d⟩
  ·rw[hu]
   rw[e2,e1]
  ·exact λb o h1 h2 e=>(FD _ _ (Js h1)).trans ((hs'.2 b h2).trans (hk0 b o h1 h2 e))
theorem lz{Q:LP}(hh:A.handled=none)(x:zK)(t:AQ)(ha:x.cps.all (· < 128)=true)(hn:x.cps.size<=DY)
  (hQ:∀ h',(∀ b o,s.heap.get? b=some o->h'.get? b=some o)->Q ((lw x s.toks).map aM) (wht s h' (s.toks+x.cps.size))) :
  y7 (y6 prog w) A (collect (.str x t)) Q E s:=by
 refine y0 (G3 (Ad PySem.F.entry_proto_collect ?_))
 show y7 _ A.in1 (newList []>>=λl=>again (.builtin "list.__iadd__" ⟨[l,.str x t],[]⟩)) _ _ s
 refine y0 (Af ?_)
 refine y4 ⟨Au HT _,Ad PySem.F.entry_list_iadd ?_⟩
 show y7 _ A.in1 (Gs (.ref s.heap.objs.size) (.str x t) (.ref s.heap.objs.size)) _ _ _
 refine y0 (Dr (T := "str") (v:=.str x t) rfl ?_)
 refine y0 (wpAny_pyIter_ascii ha ?_)
 refine y0 (zs ?_)
 refine y0 (BX (T := "str") (v:=.str x t) rfl PySem.F.str_len ?_)
 wp_delta
 refine y0 (AO (T := "str") (v:=.str x t) (b:=true) rfl (by rw[Be];kernel_rfl) ?_)
 refine y0 (m:=Dc (Value.str x t)) (Dr (T := "str") (v:=.str x t) rfl ?_)
 refine y4 (aQ (by decide) ?_)
 generalize hH:s.heap.push { cls:=.type "list", data:=.seq ([]:List Value).toArray } = H
 have hHs:H.objs.size=s.heap.objs.size+1:=by rw[<- hH,GQ]
 have hS:(H.push { cls:=.type "str_ascii_iterator", data:=.fields #[.str x t,.int 0 0] }).get? s.heap.objs.size=some (xm [] 0):=zC _ (hH▸zU _ rfl)
 have hSI:s.heap.objs.size≠H.objs.size:=by rw[hHs];exact Ag (Bi _)
 have hkp:∀ b o,s.heap.get? b=some o->b≠s.heap.objs.size/\b≠H.objs.size/\(H.push { cls:=.type "str_ascii_iterator", data:=.fields #[.str x t,.int 0 0] }).get? b=some o:=λb o e=>by
  have hlt:=AL e
  exact⟨Ag hlt,by rw[hHs];exact Ag (Fw hlt),zC _ (hH▸zC _ e)⟩
 refine y4 ⟨Au Cq _,tN (t:=t) (t0:=s.toks) (h₀:=H.push { cls:=.type "str_ascii_iterator", data:=.fields #[.str x t,.int 0 0] }) (A:=A) hh hSI hn (λh' c hk hS'=>?_) x.cps.size 0 _ 0 rfl (zD _) ⟨_,zU _ rfl,rfl,rfl⟩ hS (λZ Z Z Z e=>e)⟩
 refine y0 (m:=load s.heap.objs.size) (Dv hS' ?_)
 exact y4 (hQ h' λb o e=>let ⟨a,b',c⟩:=hkp b o e;hk b o a b' c)
theorem gV(x:zK)(t:AQ)(ha:x.cps.all (· < 128)=true)(hn:x.cps.size<=DY) :
  Meets (Az.«tuple.__new__» ⟨[.type "tuple", .str x t],[]⟩)
   (λA R s=>A.handled=none/\∀ (h':AJ),(∀ b o,s.heap.get? b=some o->h'.get? b=some o) ->
    R (.ok (.ret (.ref h'.objs.size))) (wht s (h'.push { cls:=.type "tuple", data:=.seq ((lw x s.toks).map aM).toArray }) (s.toks+x.cps.size))) :=
 .of_wp λprog w A R s h=>by
  obtain⟨hh,h⟩:=h
  have hsub:=sub_tuple_self
  have hinit:=init_tuple_lookup
  have hmh:=madeHere_tuple
  have hT:s.TypeIs (.str x t) "str" := rfl
  have hh1:A.in1.handled=none:=hh
  have hlen:(lw x s.toks).length=x.cps.size:=by simp[aA]
  wp_walk using Dr hT,lz hh1 x t ha hn
  intro h' hk
  show y7 _ _ (MS ((lw x s.toks).map aM).toArray>>=λv=>ret v) _ _ _
  refine y0 (Af ?_ (show ((lw x s.toks).map aM).toArray.size<=DY by rw[zg,ze,hlen];exact hn))
  exact y4 ⟨_,rfl,h h' hk⟩
theorem jh{Q:VP}(hh:A.handled=none)(x:zK)(t:AQ)(ha:x.cps.all (· < 128)=true)(hn:x.cps.size<=DY)
  (h:∀ h':AJ,(∀ b o,s.heap.get? b=some o->h'.get? b=some o)->Q (.ref h'.objs.size) (wht s (h'.push { cls:=.type "tuple", data:=.seq ((lw x s.toks).map aM).toArray }) (s.toks+x.cps.size))) :
  y7 (y6 prog w) A (call (.type "tuple") [.str x t]) Q E s :=
 Ie F.called_tuple (by decide) (F.typeCall_tuple_1 _) (F.newCall_tuple_1 _) (λobj=>I8 obj _) Kg
  (gV x t ha hn) ⟨hh,λh' hk=>⟨⟨_,zU _ rfl,rfl⟩,h h' hk⟩⟩
structure Wl(w:As)(T:LO)(xs:List WX):Prop where
 wt:∀ x∈xs,WT T x
 kind:∀ x∈xs,∀ y∈xs,isR x.v=isR y.v
 len:∀ x∈xs,x.c.length<=10
 abc:∀ x∈xs,∀ c∈x.c,Abc c
 told0:∀ x∈xs,aP w T x.v (.str (yZ "") 540) (x.c=[])
 told1:∀ x∈xs,aP w T x.v (.str (yZ "") 539) (x.c=[])
 told:∀ x∈xs,∀ y∈xs,aP w T x.v y.v (x.c=y.c)
theorem Wl.mono{w:As}{T T':LO}{xs:List WX}(H:Wl w T xs)(h:∀ p∈T,p∈T'):Wl w T' xs :=
 ⟨λx hx=>(H.wt x hx).mono h,H.kind,H.len,H.abc,λx hx=>aP.mono (H.told0 x hx) h,λx hx=>aP.mono (H.told1 x hx) h,λx hx y hy=>aP.mono (H.told x hx y hy) h⟩
theorem Wl.ws{w:As}{hb:AJ}{T:LO}{x:WX}{r:List WX}(H:Wl w T (x::r))(h5:x.c.length<=5)(hc:r.length<12):Ws w hb T x r :=
 ⟨H.wt x (.head _),λp hp=>H.wt p (aj hp),λp hp=>H.kind p (aj hp) x (.head _),h5,λp hp=>H.len p (aj hp),H.abc,hc,H.told0 x (.head _),λy hy p hp=>by
  rcases za.mp hp with rfl|hp
  ·exact H.told1 y (aj hy)
  ·exact H.told y (aj hy) p (aj hp)⟩
noncomputable abbrev sX(p:zK×AQ):WX:=⟨.str p.1 p.2,aA p.1⟩
noncomputable abbrev tX(q:zh×List (zK×AQ)):WX:=⟨.ref q.1,cts q.2⟩
theorem u8{w:As}{T:LO}{ws:List (zK×AQ)}{tk:Nat}(H:Sw ws tk)(h:∀ p∈ws,Wd p.1 10):Wl w T (ws.map sX):=by
 have m:∀ x∈ws.map sX,∃ p∈ws,x=sX p:=λx hx=>(zd.mp hx).imp λZ z=>⟨z.1,z.2.symm⟩
 have t0:∀ (y:zK) (t u:AQ) (z:zK),t≠u->0<u->0<t->aA z=[]->aP w T (.str y t) (.str z u) (aA y=[]):=λy t u z hne hu ht hz =>
  aP.imp (jI (Ci ht) (Ci hu) λe=>absurd e hne) λe=>e▸hz
 refine⟨λx hx=>?_,λx hx y hy=>?_,λx hx=>?_,λx hx=>?_,λx hx=>?_,λx hx=>?_,λx hx y hy=>?_⟩
 ·obtain⟨p,hp,rfl⟩:=m x hx
  exact .str _ _ (zn (h p hp).1 (by decide))
 ·obtain⟨p,hp,rfl⟩:=m x hx
  obtain⟨q,hq,rfl⟩:=m y hy
  rfl
 ·obtain⟨p,hp,rfl⟩:=m x hx
  rw[aF];exact (h p hp).1
 ·obtain⟨p,hp,rfl⟩:=m x hx
  exact (h p hp).2
 ·obtain⟨p,hp,rfl⟩:=m x hx
  have:=(H.lo p hp).1
  exact λA E s Q nb hT k=>t0 p.1 p.2 540 (yZ "") (y20 this) (by decide) (y21 this) rfl nb hT k
 ·obtain⟨p,hp,rfl⟩:=m x hx
  have:=(H.lo p hp).1
  exact λA E s Q nb hT k=>t0 p.1 p.2 539 (yZ "") (y22 this) (by decide) (y21 this) rfl nb hT k
 ·obtain⟨p,hp,rfl⟩:=m x hx
  obtain⟨q,hq,rfl⟩:=m y hy
  have h1:=(H.lo p hp).1
  have h2:=(H.lo q hq).1
  exact λA E s Q nb hT k=>jI (T₀:=T) (y1z h1) (y1z h2) (H.inj p hp q hq) nb hT λc hc=>k c λe=>by show aA p.1=aA q.1;rw[hc e]
theorem u7{w:As}{T:LO}{pss:List (zh×List (zK×AQ))}{tk:Nat}(hT:∀ q∈pss,(q.1,aG (q.2.map aM))∈T)(H:Sw (pss.flatMap (·.2)) tk)(h:∀ q∈pss,q.2.length<=10/\∀ c∈cts q.2,Abc c):Wl w T (pss.map tX):=by
 have m:∀ x∈pss.map tX,∃ p∈pss,x=tX p:=λx hx=>(zd.mp hx).imp λZ z=>⟨z.1,z.2.symm⟩
 have f:∀ q∈pss,∀ p∈q.2,p∈pss.flatMap (·.2):=λq hq p hp=>BY.mpr ⟨q,hq,hp⟩
 have nz:∀ q∈pss,∀ p∈q.2,p.2≠0:=λq hq p hp=>by have:=(H.lo p (f q hq p hp)).1;exact y1z this
 refine⟨λx hx=>?_,λx hx y hy=>?_,λx hx=>?_,λx hx=>?_,λx hx=>?_,λx hx=>?_,λx hx y hy=>?_⟩
 ·obtain⟨p,hp,rfl⟩:=m x hx
  exact .tup _ _ (hT p hp) (zn (h p hp).1 (by decide))
 ·obtain⟨p,hp,rfl⟩:=m x hx
  obtain⟨q,hq,rfl⟩:=m y hy
  rfl
 ·obtain⟨p,hp,rfl⟩:=m x hx
  simpa using (h p hp).1
 ·obtain⟨p,hp,rfl⟩:=m x hx
  exact (h p hp).2
 ·obtain⟨p,hp,rfl⟩:=m x hx
  exact gp
 ·obtain⟨p,hp,rfl⟩:=m x hx
  exact gp
 ·obtain⟨p,hp,rfl⟩:=m x hx
  obtain⟨q,hq,rfl⟩:=m y hy
  exact l4 (hT p hp) (hT q hq) (nz p hp) (nz q hq) λa ha b hb=>H.inj a (f p hp a ha) b (f q hq b hb)
theorem Sw.zip:∀ (l:List zK) {ls:List (zK×AQ)}{t tk:Nat},Sw ls tk->776<=tk->tk<=t->Sw (ls++l.zipIdx t) (t+l.length):=by
 intro l
 induction l with
 | nil =>
  intro ls t tk H h7 ht
  rw[List.zipIdx_nil,Aq];exact H.mono ht
 | cons a l ih =>
  intro ls t tk H h7 ht
  have:=ih (H.snoc (p:=(a,t)) h7 ht (Bi t)) (y1x h7 ht) (zk _)
  rw[List.zipIdx_cons,zL]
  rw[zx] at this
  rw[show t+(l.length+1)=t+1+l.length by exact z2i]
  exact this
theorem lD{y:zK}{n:Nat}(h:Wd y n):y.cps.all (· < 128)=true:=by
 rw[Array.all_eq_true]
 intro i hi
 have hm:(⟨#[y.cps[i]]⟩:zK)∈aA y:=zd.mpr ⟨y.cps[i],by simp,rfl⟩
 have:=h.2 _ hm
 have hA:LA=⟨#[97]⟩:=by decide +kernel
 have hB:LB=⟨#[98]⟩:=by decide +kernel
 have hC:LC=⟨#[99]⟩:=by decide +kernel
 unfold Abc at this
 have key:∀ k:Nat,(⟨#[y.cps[i]]⟩:zK)=⟨#[k]⟩->y.cps[i]=k:=λk e=>by
  have:=congrArg (λs:zK=>s.cps.toList) e
  simpa using this
 rcases this with e|e|e<;> rw[key _ e]<;> rfl
section
variable{sc:zh}{T:LO}{n:Nat}{ws:List (zK×AQ)}{p:zK×AQ}
theorem law_c(G:GK w hb)(hh:A.handled=none)(H:Scr hb sc scv)(htk:776<=s.toks)(hsw:Sw (p::ws) s.toks)(hp5:Wd p.1 5)(hwd:∀ p∈ws,Wd p.1 10)(h3:4<=ws.length)(h6:ws.length<=7)
  (S:St hb tabs L' [(yZ "words", .ref d),(yZ "script", .ref sc)] ((d,ap ((p::ws).map aM) n)::T) s.heap) {Q:FP}
  (k:∀ (s':zc) (X:LO) (d:zh) (n:Nat) (x:WX) (xs:List WX),Kp s s'->776<=s'.toks->Wl w X (x::xs)->x.c.length<=5->4<=xs.length->xs.length<=7 ->
   St hb tabs L' [(yZ "words", .ref d),(yZ "script", .ref sc)] ((d,ap ((x::xs).map WX.v) n)::(X++T)) s'.heap->y7 (y6 pw w) A (z5 (iY.drop 3) (evL w L')) Q E s') :
  y7 (y6 pw w) A (z5 (iY.drop 2) (evL w L')) Q E s:=by
 have hall:∀ q∈p::ws,Wd q.1 10:=λq hq=>by
  rcases za.mp hq with rfl|hq
  ·exact hp5.le (by decide)
  ·exact hwd q hq
 refine dB (wpAny_BinOp (oN (env:=evL w L') G S B5 (aln (env:=evL w L') S m1 (Ce (items:=scv.toArray) (H.isList S) (by have:=H.small;rw[zg];lia) (wpAny_Constant_int (iS (m:=2) (by decide) rfl ?_))))))
 refine λm hm=>wpAny_Constant_int (eq_int (zb ⟨λZ=>?_,λZ=>?_⟩))
 ·refine eW (hb:=hb) (tabs:=tabs) (cl:=[]) (env:=evL w L') (l':=λD=>[(yZ "words", .ref D),(yZ "script", .ref sc)]) hh ?_ rfl rfl (.inl ⟨_,_,rfl⟩) rfl (by decide) rfl (by decide)
  refine ay (env:=evL w L') S m0 ⟨_,_,d,(p::ws).map aM,n,λi tk acc X=>∃ pss:List (zh×List (zK×AQ)),acc=(pss.map tX).map WX.v/\pss.length=i/\(∀ q∈pss,(q.1,aG (q.2.map aM))∈X)/\pss.map (λq=>cts q.2)=((p::ws).take i).map (λq=>aA q.1)/\776<=tk/\Sw (pss.flatMap (·.2)) tk,⟨rfl,by exact S,m0,?_,?_,?_,?_⟩,λD=>.old .here,?_⟩
  ·rw[ze,zL];exact y25 h6
  ·refine⟨[],rfl,rfl,(zm _),rfl,?_,.nil⟩
   simp only;exact y26 htk
  ·rintro i tk tk' acc X h ⟨pss,a,b,c,d,e,f⟩
   exact⟨pss,a,b,c,d,zn e h,f.mono h⟩
  ·rintro C D oL E' i v acc c X own s4 hv hacc ⟨pss,rfl,rfl,hX,hc,h7,hsw'⟩ r K4 S4
   rw[zE] at hv
   obtain⟨q,hq,rfl⟩:=z0.mp hv
   have hqw:=hall q (zp hq)
   refine rD (env:=At _ [] C _) S4 (.new (by kernel_rfl)) (λax S5=>DZ (uW (env:=At _ [] C _) G S5 (id := "tuple") (by kernel_rfl) (aln (env:=At _ [] C _) S5 m0 (jh hh q.1 q.2 (lD hqw) (by have:=hqw.1;rw[zz];exact up 16777206 this) ?_))))
   intro az hk6
   have S6:=(S5.grown hk6).push (aG ((lw q.1 (s4.toks+1)).map aM))
   have hlen:(aA q.1).length=q.1.cps.size:=aF _
   have hz:=Sw.zip (aA q.1) (t:=s4.toks+1) hsw' h7 (C6 _)
   refine⟨(az.objs.size,aG ((lw q.1 (s4.toks+1)).map aM))::X,_,⟨K4.os,K4.gens⟩,S6.perm (z8 _ _ _),pss++[(az.objs.size,lw q.1 (s4.toks+1))],?_,by rw[zO];rfl,?_,?_,?_,?_⟩
   ·rw[zG,zG];rfl
   ·intro u hu
    rcases zf.mp hu with h|h
    ·exact aj (hX u h)
    ·rw[y9] at h;subst h;exact .head _
   ·rw[zG,hc,Am,hq,GX,zG]
    simp[List.zipIdx_map_fst]
   ·show 776<=s4.toks+1+q.1.cps.size;exact y28 h7
   ·rw[List.flatMap_append,List.flatMap_singleton]
    rw[hlen] at hz
    exact hz
  ·rintro s4 D acc c X K4 S4 el ⟨pss,rfl,hlen,hX,hc,h7,hsw'⟩
   rw[ze] at hlen
   rw[ze,z4] at hc
   have hwl:Wl w X (pss.map tX):=u7 hX hsw' λq hq=>by
    have hm:cts q.2∈pss.map λq=>cts q.2:=zd.mpr ⟨q,hq,rfl⟩
    rw[hc] at hm
    obtain⟨r,hr,e⟩:=zd.mp hm
    have hw:=hall r hr
    refine⟨?_,λc hcm=>hw.2 c (e▸hcm)⟩
    have:(cts q.2).length=q.2.length:=by simp
    rw[<- this,<- e,aF];exact hw.1
   obtain⟨q,pr,rfl⟩:∃ q pr,pss=q::pr:=by
    cases pss with
    | nil=>cases hlen
    | cons q pr=>exact⟨q,pr,rfl⟩
   rw[AD,AD] at hc
   injection hc with hc1 hc2
   rw[zL,zL] at hlen
   refine aE (k s4 (X++[(d,ap ((p::ws).map aM) n)]) D c (tX q) (pr.map tX) ⟨K4.os,K4.gens⟩ h7 (hwl.mono λp hp=>y8 _ hp) ?_ (by rw[ze];exact y29 h3 hlen) (by rw[ze];exact y2a h6 hlen) ?_)
   ·show (cts q.2).length<=5
    rw[hc1,aF];exact hp5.1
   ·rw[zx];exact S4
 ·refine aE (k _ [] d n (sX p) (ws.map sX) ⟨rfl,id⟩ ?_ ((u8 (w:=w) hsw hall).mono λp hp=>hp) ?_ (by rw[ze];exact h3) (by rw[ze];exact h6) ?_)
  ·simp only;exact y2b htk
  ·show (aA p.1).length<=5
   rw[aF];exact hp5.1
  ·have e:(sX p::ws.map sX).map WX.v=(p::ws).map aM:=by simp
   rw[e]
   exact S
end
section
variable{tabs:List zh}
theorem nV{Q:VP}{value e:Expr}{p pos:Ej}
  (h:y7 (y6 prog w) A (Ax value env) (λo s₁=>y7 (y6 prog w) A (Ax e env) (λvu ag=>Ex8 λL l T d vs n b tb=>An6 (o=.ref d) (vu=.int ((b:Nat):Int) tb) (St hb tabs L l T ag.heap) ((d,ap vs n)∈T) (vs.length<=1000) (∀ D X h',St hb tabs L l ((D,ap (vs.drop b) 0)::(X++T)) h'->Q (.ref D) (wh ag h'))) E s₁) E s) :
  y7 (y6 prog w) A (Ax (.Subscript value (.Slice (some e) none none p) pos) env) Q E s:=by
 refine cE (zi h (λo s₁ ai=>?_) λZ Z e=>e)
 refine F0 ?_
 rw[HD]
 refine zi ai (λvu ag am=>?_) λZ Z e=>e
 rw[Ec]
 refine y4 (y4 ?_)
 obtain⟨L,l,T,d,vs,n,b,tb,rfl,rfl,S,hm,hz,hQ⟩:=am
 have hl:ag.heap.IsList d vs.toArray:=⟨_,S.obj _ hm,rfl,n,rfl⟩
 have e1:Gz vs.toArray (some ((b:Nat):Int)) none none=(vs.drop b).toArray:=slicePick_from' vs.toArray b
 have ah:=(S.push { cls:=.type "slice", data:=.fields #[.int ((b:Nat):Int) tb,.none,.none] }).push { cls:=.type "list", data:=.seq (Gz vs.toArray (some ((b:Nat):Int)) none none) }
 rw[e1] at ah
 refine⟨(hl.push _).typeIs,Dz (hl.push _) (DS ..) (.int _ _) .none .none (by simp) ?_ (by rw[zz,zg];exact up 16776216 hz)⟩
 rw[e1]
 exact hQ _ [(_,_)] _ ah
end
section
variable{sc:zh}{T X:LO}{n:Nat}{xs:List WX}{x:WX}{ow:AR}
theorem law_d(G:GK w hb)(hh:A.handled=none)(H:Scr hb sc scv)(htk:776<=s.toks)(hw:ow.data=.cell none)(h6:xs.length<=7)
  (S:St hb tabs L' [(yZ "words", .ref d),(yZ "script", .ref sc)] ((d,ap ((x::xs).map WX.v) n)::(X++(L'+3,oa)::(L'+2,oh)::(L'+1,ow)::T)) s.heap) {Q:FP}
  (k:∀ (s':zc) (X':LO) (pd dw:zh) (ow':AR) (np nw m:Nat) (tm:AQ),Kp s s'->776<=s'.toks->ow'.data=.cell (some x.v)->0<m->m<=4 ->
   St hb tabs L' [(yZ "many", .int (m:Nat) tm),(yZ "some", .ref pd),(yZ "words", .ref dw),(yZ "script", .ref sc)] ((L'+3,oa)::(L'+2,oh)::(L'+1,ow')::(pd,ap (xs.map WX.v) np)::(X'++(X++T))) s'.heap->y7 (y6 pw w) A (z5 (iY.drop 4) (evL w L')) Q E s') :
  y7 (y6 pw w) A (z5 (iY.drop 3) (evL w L')) Q E s:=by
 have S0:=S.perm (yT (X:=(d,ap ((x::xs).map WX.v) n)::X))
 have hlen:((x::xs).map WX.v).length<=1000:=by rw[ze,zL];exact y25 h6
 have md:(d,ap ((x::xs).map WX.v) n)∈(L'+3,oa)::(L'+2,oh)::(L'+1,ow)::((d,ap ((x::xs).map WX.v) n)::X++T):=aj m2
 refine j6 (bP (args_cons (gU Bg (ay (env:=evL w L') S0 m0 (wpAny_Constant_int ⟨⟨_,S0.obj _ md,rfl⟩,?_⟩)))))
 refine gL (k:=0) (x:=x.v) S0 md hlen rfl (args_cons (nV (hb:=hb) (tabs:=tabs) (ay (env:=evL w L') S0 m0 (wpAny_Constant_int ⟨L',_,_,d,(x::xs).map WX.v,n,1,_,rfl,rfl,by exact S0,md,hlen,?_⟩))))
 refine λpd X1 ai ah=>args_cons (wpAny_BinOp (wpAny_Constant_int (wpAny_BinOp (wpAny_BinOp (oN (env:=evL w L') G ah B5 (aln (env:=evL w L') ah m1 (Ce (items:=scv.toArray) (H.isList ah) (by have:=H.small;rw[zg];lia) ?_)))))))
 refine wpAny_Constant_int (i6 (by decide) (by rfl) ?_)
 refine λb4=>wpAny_Constant_int (iS (m:=4) (by decide) rfl ?_)
 refine λm hm=>P.add_int (zq ⟨rfl,_,_,_,_,_,by exact ah,?_⟩)
 refine λdt am af=>cH hh af m0 ?_
 intro ak ae
 have e1:(1:Int)+(m:Int)=((m+1:Nat):Int):=y2d
 rw[e1] at ae ⊢
 have S4:=(ae.sub (zo _ _)).perm (yT (X:=(pd,ap (((x::xs).map WX.v).drop 1) 0)::X1))
 refine aZ (gw (env:=evL w L') (x:=yZ "word") (c:=L'+1) 2 S4 rfl hw ?_)
 refine λax ow5 how5 S5=>ib (env:=evL w L') S5 (.new (by kernel_rfl)) (λaz S6=>ib (env:=evL w L') S6 (.new (by kernel_rfl)) (λba S7=>cD ?_))
 have e2:(pd,ap (((x::xs).map WX.v).drop 1) 0)::X1++((d,ap ((x::xs).map WX.v) n)::X++T)=(pd,ap (xs.map WX.v) 0)::((X1++[(d,ap ((x::xs).map WX.v) n)])++(X++T)):=by simp
 have S8:St hb tabs L' _ ((L'+3,oa)::(L'+2,oh)::(L'+1,ow5)::((pd,ap (((x::xs).map WX.v).drop 1) 0)::X1++((d,ap ((x::xs).map WX.v) n)::X++T))) ba:=S7
 rw[e2] at S8
 exact k _ (X1++[(d,ap ((x::xs).map WX.v) n)]) pd d ow5 0 n (m+1) _ ⟨rfl,id⟩ (by simp only;exact y2e htk) how5 (Fx _) hm S8
end
theorem pz(x wd:List zK):bK (cm (x.length+1) x wd:Nat) ((x.length:Int)+wd.length)=scr x wd:=by
 rw[<- ye]
 rfl
section
variable{sc:zh}{T:LO}{n:Nat}{xs:List WX}{x:WX}{ow:AR}{l:LV}
structure ScJ(wd:WX)(xs:List WX)(X:LO)(tk:Nat)(Es:List Sc):Prop where
 xs:Es.map Sc.x=xs
 mem:∀ e∈Es,(e.a,aG [.float e.f e.ft,e.x.v])∈X
 f:∀ e∈Es,e.f=scr e.x.c wd.c
 h7:776<=tk
 lo:∀ e∈Es,776<=e.ft/\e.ft<tk
 inj:∀ e∈Es,∀ e'∈Es,e.ft=e'.ft->e.f=e'.f
theorem yl(G:GK w hb)(hd:A.depth+60<zj)(hu:A.units+200<AB)(hh:A.handled=none)(htk:776<=s.toks)(hwl:Wl w T (x::xs))(h5:x.c.length<=5)(h6:xs.length<=7)(hcw:(L'+1,ow)∈T)(how:ow.data=.cell (some x.v))
  (hpd:(pd,ap (xs.map WX.v) np)∈T) (hl:(yZ "some", .ref pd)∈l) (S:St hb tabs L' l T s.heap) {Q:VP}{pp p0 p1 p2 p3 p4 p5 p6 p7:Ej}{k0:Nat}
  (k:∀ (s':zc) (X:LO) (D:zh) (c:Nat) (Es:List Sc),Kp s s'->ScJ x xs X s'.toks Es->St hb tabs L' l ((D,ap (aB Es) c)::(X++T)) s'.heap->Q (.ref D) s') :
  y7 (y6 pw w) A (Ax (.ListComp (.Tuple [.Call (.Name (yZ "_law_share") p0) [.Name (yZ "one") p1,.Name (yZ "word") p2] [] p3,.Name (yZ "one") p4] k0 p5) [⟨.Name (yZ "one") p6,.Name (yZ "some") p7,[],0⟩]
   { kind:=.function,names:=[(yZ ".0", .local),(yZ "one", .local),(yZ "_law_share", .globalImplicit),(yZ "word", .free)],isGenerator:=false,isCoroutine:=false,more:=[] } pp) (evL w L')) Q E s:=by
 refine iK (hb:=hb) (tabs:=tabs) (cl:=[(yZ "word", L'+1)]) (env:=evL w L') hh ?_ (.inl ⟨_,_,rfl⟩) rfl (by decide) rfl (by decide)
 refine ay (env:=evL w L') S hl ⟨L',l,T,pd,xs.map WX.v,np,λi tk acc X=>∃ Es:List Sc,acc=aB Es/\ScJ x (xs.take i) X tk Es,⟨rfl,S,hpd,by rw[ze];exact up 993 h6,⟨[],rfl,rfl,(zm _),(zm _),htk,(zm _),λe he=>by cases he⟩,?_,?_⟩,?_⟩
 ·rintro i tk tk' acc X h ⟨Es,a,b⟩
  exact⟨Es,a,b.xs,b.mem,b.f,zn b.h7 h,λe he=>⟨(b.lo e he).1,zN (b.lo e he).2 h⟩,b.inj⟩
 ·rintro C D oL E' i v acc c X own s4 hv hacc ⟨Es,rfl,J⟩ r K4 S4
  rw[zE] at hv
  obtain⟨y,hy,rfl⟩:=z0.mp hv
  have hym:=zp hy
  refine rD (env:=At _ _ C _) S4 (.new (by kernel_rfl)) (λax S5=>DZ (bP (args_cons (uX (env:=At _ _ C _) G S5 (v:=.ref 307) (by kernel_rfl) (al (env:=At _ _ C _) S5 m0 (args_cons ?_))))))
  have dy:∀ p∈T,p∈(D,ap (aB Es) c)::(X++((L',oL)::T))++own:=λp hp=>y8 _ (aj (y5 _ (aj hp)))
  refine bI (env:=At _ _ C _) (c:=L'+1) S5 (dy _ hcw) how (zq ⟨⟨_,_,_,by exact S5⟩,?_⟩)
  have hw5:=hwl.mono dy
  have hyl:=hwl.len y (aj hym)
  refine vB G S5 (dn 30 hd) (dn 140 hu) hh (hw5.wt y (aj hym)) (hw5.wt x (.head _)) (hwl.kind y (aj hym) x (.head _)) (y2j hyl) (y1p h5) ?_
  intro s6 X6 t6 K6 S6 ht1 ht2
  rw[pz]
  refine aln (env:=At _ _ C _) S6 m0 ⟨rfl,_,_,_,_,_,by exact S6,?_⟩
  refine λa ba S7=>⟨(a,aG [.float (scr y.c x.c) t6,y.v])::(X6++X),_,⟨K6.os.trans K4.os,λq=>K6.gens (K4.gens q)⟩,S7.perm ?_,Es++[⟨a,scr y.c x.c,t6,y⟩],(jC Es ⟨a,scr y.c x.c,t6,y⟩).symm,?_,?_,?_,?_,?_,?_⟩
  ·have e1:(a,aG [.float (scr y.c x.c) t6,y.v])::(X6++((D,ap (aB Es) c)::(X++((L',oL)::T))++own))=((a,aG [.float (scr y.c x.c) t6,y.v])::X6)++(D,ap (aB Es) c)::(X++((L',oL)::T)++own):=by simp
   have e2:(D,ap (aB Es) c)::((a,aG [.float (scr y.c x.c) t6,y.v])::(X6++X)++((L',oL)::T))++own=(D,ap (aB Es) c)::(((a,aG [.float (scr y.c x.c) t6,y.v])::X6)++(X++((L',oL)::T)++own)):=by simp
   rw[e1,e2]
   exact zv
  ·rw[zG,J.xs,Am,hy];rfl
  ·intro e he
   rcases zf.mp he with q|q
   ·exact aj (y5 _ (J.mem e q))
   ·rw[y9] at q;subst q;exact .head _
  ·intro e he
   rcases zf.mp he with q|q
   ·exact J.f e q
   ·rw[y9] at q;subst q;rfl
  ·have:=J.h7;show 776<=s6.toks;exact y2l ht1 ht2 this
  ·intro e he
   rcases zf.mp he with q|q
   ·exact⟨(J.lo e q).1,by have:=(J.lo e q).2;show e.ft<s6.toks;exact y2m ht1 ht2 this⟩
   ·rw[y9] at q;subst q
    have:=J.h7
    exact⟨by show 776<=t6;exact y2n ht1 this,ht2⟩
  ·intro e he e' he' h
   rcases zf.mp he with q|q<;> rcases zf.mp he' with q'|q'
   ·exact J.inj e q e' q' h
   ·rw[y9] at q';subst q'
    have:=(J.lo e q).2
    have h:e.ft=t6:=h
    lia
   ·rw[y9] at q;subst q
    have:=(J.lo e' q').2
    have h:t6=e'.ft:=h
    lia
   ·rw[y9] at q q';rw[q,q']
 ·rintro s4 D acc c X K4 S4 el ⟨Es,rfl,J⟩
  rw[ze,z4] at J
  exact k s4 X D c Es K4 J S4
end
theorem o9 (a v:Value):CM "sorted" ⟨[a],[(yZ "reverse", v)]⟩:=by unfold CM;kernel_rfl
section
variable{sc:zh}{T:LO}{n:Nat}{tm:AQ}{xs:List WX}{x:WX}{ow:AR}{l:LV}
noncomputable abbrev lv4 (m:Nat) (tm:AQ) (pd dw sc:zh):LV:=[(yZ "many", .int (m:Nat) tm),(yZ "some", .ref pd),(yZ "words", .ref dw),(yZ "script", .ref sc)]
theorem law_e{T₀:LO}(G:GK w hb)(hd:A.depth+60<zj)(hu:A.units+200<AB)(hh:A.handled=none)(htk:776<=s.toks)(h0:∀ p∈T₀,p∈T)(hwl:Wl w T₀ (x::xs))(h5:x.c.length<=5)(h6:xs.length<=7)(hcw:(L'+1,ow)∈T)(how:ow.data=.cell (some x.v))
  (hpd:(pd,ap (xs.map WX.v) np)∈T) (S:St hb tabs L' (lv4 m tm pd dw sc) T s.heap) {Q:FP}
  (k:∀ (s':zc) (X:LO) (D:zh) (c:Nat) (Es:List Sc),Kp s s'->Scd w (X++T₀) x xs Es->kK Es->St hb tabs L' ((yZ "scored", .ref D)::lv4 m tm pd dw sc) ((D,ap (aB Es) c)::(X++T)) s'.heap->y7 (y6 pw w) A (z5 (iY.drop 5) (evL w L')) Q E s') :
  y7 (y6 pw w) A (z5 (iY.drop 4) (evL w L')) Q E s:=by
 refine aC (eD (eA (env:=evL w L') G S eB (Ls (args_cons (yl G hd hu hh htk (hwl.mono h0) h5 h6 hcw how hpd (aj (.head _)) S ?_)))))
 refine λs₁ X D c Es ar J ah=>zq (Ex (Ei (Jt ?_)))
 have hT:kK Es:=λe he=>⟨by have:=(J.lo e he).1;exact y1z this,λe' he'=>J.inj e he e' he'⟩
 have hmx:∀ e∈Es,e.x∈xs:=λe he=>J.xs▸zd.mpr ⟨e,he,rfl⟩
 have hS:SXk (X++T₀) Es:=λe he=>⟨y8 _ (J.mem e he),(hwl.wt _ (aj (hmx e he))).mono λp hp=>y5 _ hp⟩
 have hR:kL rkW Es:=uC (λe he=>⟨by rw[J.f e he];exact gH (hwl.len _ (aj (hmx e he))) h5,hwl.len _ (aj (hmx e he)),hwl.abc _ (aj (hmx e he))⟩) λe he e' he'=>hwl.kind _ (aj (hmx e he)) _ (aj (hmx e' he'))
 have hlen:Es.length=xs.length:=by rw[<- J.xs,ze]
 have hin:∀ T',(∀ p∈(D,ap (aB Es) c)::(X++T),p∈T')->SXk T' Es:=λT' h=>hS.mono λp hp=>h _ (aj ((zf.mp hp).elim (λq=>y8 _ q) λq=>y5 _ (h0 p q)))
 refine iH (κ:=L5 true) (pL rkW Es) ah m0 (by rw[aJ];exact y2q h6 hlen) (o9 _ _) (λx=>nh x) (λx=>kg x) ?_ ?_ ?_
 ·intro h2 s' T' Q' E' S' hT' hq
  have hS':=hin T' hT'
  exact Nw (T:=.type "float") (sc_tups λe he=>(S'.sc (hS' e he)).1) (by rw[ze];rw[aJ] at h2;exact z22 h2) (λv hv=>by
   obtain⟨e,-,rfl⟩:=zd.mp hv
   exact .now) rfl hq
 ·intro s' T' K' S' hT' y hy z hz C hC
  obtain⟨e,he,rfl⟩:=zd.mp hy
  obtain⟨e',he',rfl⟩:=zd.mp hz
  have hS':=hin T' hT'
  have hsc:∀ e∈Es,ScH s'.heap e:=λe he=>S'.sc (hS' e he)
  rw[ig hsc he,ig hsc he'] at hC
  exact uy (by show A.units+1+1+3<AB;exact dn 195 hu) (S'.nb G) hT hR he he' (hsc e he) (hsc e' he') hC
 ·intro s' D' n' vs' X' K' hp hw S'
  obtain⟨P,rfl,hP⟩:=qk hp
  have hsc:∀ e∈Es,ScH s₁.heap e:=λe he=>ah.sc (hin _ (λp hp=>hp) e he)
  have hPm:∀ e∈P,e∈Es:=λe he=>hP.mem_iff.mp he
  have hf:=x0 (rk:=rkW) (λe he=>ig hsc (hPm e he)) hw
  refine aT (env:=evL w L') S' (.new (by kernel_rfl)) (λam af=>k _ (X'++(D,ap (aB Es) c)::X) D' n' P ⟨K'.os.trans ar.os,λq=>K'.gens (ar.gens q)⟩ ⟨λe he=>?_,?_,λe he=>J.f e (hPm e he),?_⟩ (λe he=>⟨(hT e (hPm e he)).1,λe' he'=>(hT e (hPm e he)).2 e' (hPm e' he')⟩) ?_)
  ·have:=hS e (hPm e he)
   have hs:∀ p∈X++T₀,p∈(X'++(D,ap (aB Es) c)::X)++T₀:=λp hp=>by
    rw[zx,Bu]
    exact y5 _ (aj hp)
   exact⟨hs _ this.1,this.2.mono hs⟩
  ·have:=hP.map Sc.x
   rwa [J.xs] at this
  ·show (P.map Sc.x).Pairwise _
   rw[AX]
   refine hf.imp_of_mem λ{a b} ha hb' h=>?_
   have h:rkW b.f b.x.c<=rkW a.f a.x.c:=h
   rw[J.f a (hPm a ha),J.f b (hPm b hb')] at h
   exact h
  ·rw[zx,Bu]
   exact af
end
section
variable{T:LO}{v:Value}{vs:List Value}{d:Hu}{ds:List Hu}{n c:Nat}{a:zh}{x:WX}{xs:List WX}
structure Rd(T:LO)(v:Value)(d:Hu)(m n:Nat):Prop where
 rd:∀ h:AJ,(∀ p∈T,h.get? p.1=some p.2)->∃ as,Reads h v d as
 ok:d.showable=true
 nd:d.hasDict=false
 dep:d.depth<=m
 sh:d.leavesShort 8=true
 wt:d.weight<=n
structure RdA(T:LO)(vs:List Value)(ds:List Hu)(m n:Nat):Prop where
 rd:∀ h:AJ,(∀ p∈T,h.get? p.1=some p.2)->∃ as,ReadsAll h vs ds as
 ok:JW ds=true
 nd:KA ds=false
 dep:LX ds<=m
 sh:IS 8 ds=true
 wt:Lg ds<=vs.length * (n+1)
theorem pN:RdA T [] [] m n:=⟨λh Z=>⟨[],.nil⟩,by decide,by decide,zD _,by decide,zD _⟩
theorem jX(h1:Rd T v d m n)(h2:RdA T vs ds m n):RdA T (v::vs) (d::ds) m n:=by
 refine⟨λh hT=>?_,?_,?_,?_,?_,?_⟩
 ·obtain⟨as,r⟩:=h1.rd h hT
  obtain⟨bs,q⟩:=h2.rd h hT
  exact⟨as++bs,.cons r q⟩
 ·simp only[JW,h1.ok,h2.ok,JK]
 ·simp only[KA,h1.nd,h2.nd,Bool.or_self]
 ·simp only[LX];exact Nat.max_le.mpr ⟨h1.dep,h2.dep⟩
 ·simp only[IS,h1.sh,h2.sh,JK]
 ·simp only[Lg,zL]
  rw[Nd]
  exact y2v h1.wt h2.wt
theorem uD:∀ {vs:List Value},(∀ v∈vs,∃ d,Rd T v d m n)->∃ ds,RdA T vs ds m n:=by
 intro vs
 induction vs with
 | nil =>
  intro Z
  exact⟨[],pN⟩
 | cons v vs ih =>
  intro h
  obtain⟨d,hd⟩:=h v (.head _)
  obtain⟨ds,hs⟩:=ih λv hv=>h v (aj hv)
  exact⟨d::ds,jX hd hs⟩
theorem pO(h:RdA T vs ds m n)(hm:(a,ap vs c)∈T):Rd T (.ref a) (.list ds) (m+1) (vs.length * (n+1)):=by
 refine⟨λh' hT=>?_,?_,?_,?_,?_,?_⟩
 ·obtain⟨as,r⟩:=h.rd h' hT
  exact⟨a::as,.list (hT _ hm) rfl rfl r⟩
 ·simp only[IE,h.ok]
 ·simp only[Jn,h.nd]
 ·simp only[KC];have:=h.dep;exact z6y this
 ·simp only[G5,h.sh]
 ·simp only[JL,h.wt]
theorem xN(h:RdA T vs ds m n)(hm:(a,aG vs)∈T):Rd T (.ref a) (.tuple ds) (m+1) (vs.length * (n+1)):=by
 refine⟨λh' hT=>?_,?_,?_,?_,?_,?_⟩
 ·obtain⟨as,r⟩:=h.rd h' hT
  exact⟨as,.tuple (hT _ hm) rfl rfl r⟩
 ·simp only[IE,h.ok]
 ·simp only[Jn,h.nd]
 ·simp only[KC];have:=h.dep;exact z6y this
 ·simp only[G5,h.sh]
 ·simp only[JL,h.wt]
theorem Rd.le{m' n':Nat}(h:Rd T v d m n)(hm:m<=m')(hn:n<=n'):Rd T v d m' n':=⟨h.rd,h.ok,h.nd,zn h.dep hm,h.sh,zn h.wt hn⟩
theorem uE{y:zK}{t:AQ}(h:y.cps.all (· < 128)=true):Rd T (.str y t) (.str y) 0 y.cps.size:=by
 refine⟨λh' hT=>⟨[],.str y t⟩,?_,?_,?_,?_,?_⟩
 ·simp only[IE]
 ·simp only[Jn]
 ·simp only[KC];exact zk _
 ·simp only[G5,zF,decide_eq_true_eq]
  rw[Array.all_eq_true'] at h
  intro c hc
  have:=h c (EA.mp hc)
  have:c<128:=by simpa using this
  have e:(16:Nat) ^ 8=4294967296:=by decide
  rw[e];exact CA this (by decide)
 ·simp only[JL];exact zk _
theorem xM(W:WT T x)(h10:x.c.length<=10)(ha:∀ c∈x.c,Abc c):∃ d,Rd T x.v d 1 20:=by
 cases W with
 | str y t h =>
  rw[aF] at h10
  exact⟨_,(uE (lD (n:=10) ⟨h10,ha⟩)).le (by decide) (up 10 h10)⟩
 | tup a ps h1 h2 =>
  have hl:ps.length<=10:=by
   have:(cts ps).length<=10:=h10
   simpa using this
  obtain⟨ds,hds⟩:=uD (T:=T) (m:=0) (n:=1) (vs:=ps.map aM) λv hv=>by
   obtain⟨p,hp,rfl⟩:=zd.mp hv
   have hc:Abc p.1:=ha p.1 (zd.mpr ⟨p,hp,rfl⟩)
   have key:p.1.cps.all (· < 128)=true/\p.1.cps.size<=1:=by
    rcases hc with e|e|e<;> rw[e]<;> decide +kernel
   exact⟨_,(uE key.1).le (zk _) key.2⟩
  refine⟨_,(xN hds h1).le (by decide) ?_⟩
  rw[ze]
  exact Nat.mul_le_of_le_div (1+1) _ 20 hl
theorem xL(hw:∀ x∈xs,WT T x/\x.c.length<=10/\∀ c∈x.c,Abc c)(hm:(a,ap (xs.map WX.v) c)∈T)(h7:xs.length<=7):∃ d,Rd T (.ref a) d 2 200:=by
 obtain⟨ds,hds⟩:=uD (T:=T) (m:=1) (n:=20) (vs:=xs.map WX.v) λv hv=>by
  obtain⟨x,hx,rfl⟩:=zd.mp hv
  obtain⟨h1,h2,h3⟩:=hw x hx
  exact xM h1 h2 h3
 refine⟨_,(pO hds hm).le (by decide) ?_⟩
 rw[ze]
 exact y2u h7
end
section
variable{tabs:List zh}{l:LV}{T T':LO}{v u:Value}{d2:Hu}{c:Nat}
theorem uG{Q:VP}(h1:Rd T v d1 2 200)(h2:Rd T u d2 2 200)(S:St hb tabs L l ((D,ap [v,u] c)::T') s.heap)(hT:∀ p∈T,p∈T')(hg:A.guards=some [])(hu:A.units+10<AB)
  (k:∀ (s':zc) (t:AQ),Kp s s'->St hb tabs L l ((D,ap [v,u] c)::T') s'.heap->Q (.str (Hr [d1,d2]).shown t) s') :
  y7 (y6 prog w) A (call (.builtin "repr") [.ref D]) Q E s:=by
 have hl:Rd ((D,ap [v,u] c)::T) (.ref D) (.list [d1,d2]) 3 402:=by
  have m:∀ {v:Value}{d:Hu},Rd T v d 2 200->Rd ((D,ap [v,u] c)::T) v d 2 200:=λh=>⟨λh' hT=>h.rd h' λp hp=>hT p (aj hp),h.ok,h.nd,h.dep,h.sh,h.wt⟩
  have m':∀ {v':Value}{d:Hu},Rd T v' d 2 200->Rd ((D,ap [v,u] c)::T) v' d 2 200:=λh=>⟨λh' hT=>h.rd h' λp hp=>hT p (aj hp),h.ok,h.nd,h.dep,h.sh,h.wt⟩
  exact pO (jX (m' h1) (jX (m' h2) pN)) (.head _)
 obtain⟨as,r⟩:=hl.rd s.heap λp hp=>S.obj p (by
  rcases za.mp hp with rfl|hp
  ·exact .head _
  ·exact aj (hT p hp))
 have hsz:=PyData.shown_le 8 (zk _) _ hl.sh
 have hd:=hl.dep
 refine repr_of_reads' r hl.ok (λe=>by rw[hl.nd] at e;nomatch e) hg (y2y hu hd) (λZ Z e=>e) (λh' t tk hk=>k _ t ⟨rfl,id⟩ (S.grown hk)) ?_
 have:=hl.wt
 exact y2z hsz this
end
end
noncomputable abbrev iC (es:Array (Int×Value)) (ep:Nat) (t:AE):AR:={ cls:=.type "set", dict:=none,data:=.set es ep t }
structure Adds(es:Array (Int×Value))(t:AE)(x:Value)(h:Int)(q:Nat)(es':Array (Int×Value))(t':AE):Prop where
 g1:(t.place.size != es.size || decide (t.fill > t.mask))=false
 g2:t.gaveWay=false
 pb:t.probe (λi=>(es[i]?.map (·.1)).getD 0) h (t.probeStart h)=some (.empty q none)
 go:An3 ((t.put q).1.tooFull=false) (es'=AY es (t.put q).2 (h,x)) (t'=(t.put q).1)\/∃ order,An6 ((t.put q).1.tooFull=true) ((t.put q).1.relaid ((AY es (t.put q).2 (h,x)).map (·.1)) (G6 (es.size+1))=some (t',order))
  (((t.put q).1.place.size != (AY es (t.put q).2 (h,x)).size || decide ((t.put q).1.fill > (t.put q).1.mask))=false) (SetTable.sizeAbove (G6 (es.size+1))<=4096) ((order.filterMap ((AY es (t.put q).2 (h,x))[·]?)).size=(AY es (t.put q).2 (h,x)).size)
  (es'=order.filterMap ((AY es (t.put q).2 (h,x))[·]?))
theorem kl{α:Type}(xs:Array α)(p:Nat)(x:α):(AY xs p x).size<=xs.size+1:=by
 unfold AY
 simp only[FF,E5,JX]
 exact zjf
section
variable{a:zh}{es':Array (Int×Value)}{t t':AE}{f:UInt64}{h:Int}
theorem aK{Q:(Array (Int×Value)×Nat×AE)->zc->Prop}(ho:s.heap.get? a=some (iC es ep t))(hc:(t.place.size != es.size || decide (t.fill > t.mask))=false)(hq:Q (es,ep,t) s):y7 (y6 prog w) A (HU a) Q E s:=by
 refine y0 (Dv ho ?_)
 dsimp only
 rw[hc]
 exact y4 hq
theorem vv{Q:SetFound->zc->Prop}{x:Value}{q:Nat}(ho:s.heap.get? a=some (iC es ep t))(h1:(t.place.size != es.size || decide (t.fill > t.mask))=false)(h2:t.gaveWay=false)
  (h3:t.probe (λi=>(es[i]?.map (·.1)).getD 0) h (t.probeStart h)=some (.empty q none)) (hq:Q (.free q false) s):y7 (y6 prog w) A (setSearch a x h true) Q E s:=by
 refine y0 (m:=HU a) (aK ho h1 (aQ (tL h2) ?_))
 generalize hm:t.probe _ h _=o
 replace hm:o=some (.empty q none):=hm.symm.trans h3
 subst hm
 exact y4 hq
theorem vd{α:Type}{Q:α->zc->Prop}{F:Bool->LH α}{G:LH α}{c:Bool}(hf:(CU f).isSome=true)(k1:y7 (y6 prog w) A (F true) Q E s)(k2:y7 (y6 prog w) A G Q E s):y7 (y6 prog w) A (if c=true then hashByValue 8 (.float f tk)>>=F else G) Q E s:=by
 cases c with
 | true =>
  refine y0 ?_
  show y7 _ _ (AA (CU f).isSome) _ _ _
  rw[hf];exact y4 k1
 | false=>exact k2
theorem jV{Q:BP}{q:Nat}(ho:s.heap.get? a=some (iC es ep t))(H:Adds es t (.float f tk) h q es' t')(hf:(CU f).isSome=true)(hz:es.size<=100)
  (hQ:∀ h' ep',BZ a s.heap h'->h'.get? a=some (iC es' ep' t')->Q true (wh s h')):y7 (y6 prog w) A (KE a (.float f tk) h) Q E s:=by
 refine zs (y0 (m:=HU a) (aK ho H.g1 (aQ (tL (b:=byScan (.float f tk) es) rfl) (y0 (vv ho H.g1 H.g2 H.pb (y0 (m:=HU a) (aK ho H.g1 ?_)))))))
 have hsz:=kl es (t.put q).2 (h,BE f tk)
 have e1:=LY (AY es (t.put q).2 (h,BE f tk)) (t.put q).1 (o:=iC es ep t) rfl
 have hs1:=zw s.heap a (NI (AY es (t.put q).2 (h,BE f tk)) (t.put q).1)
 have ho1:(s.heap.update a (NI (AY es (t.put q).2 (h,BE f tk)) (t.put q).1)).get? a=some (iC (AY es (t.put q).2 (h,BE f tk)) (ep+1) (t.put q).1):=by
  rw[zt _ ho (by rw[e1];rfl),e1]
 have go:=H.go
 suffices k:y7 (y6 prog w) A (do
   storeSet a (AY es (t.put q).2 (h,BE f tk)) (t.put q).1
   if (!false&&(t.put q).1.tooFull)=true then do
    setRelay a (G6 (es.size+1))
    AA true
   else AA true) Q E s from vd hf k k
 refine y0 (HV ho rfl ?_ (by rw[zz];exact zjg hz hsz))
 generalize AY es (t.put q).2 (h,BE f tk)=e2 at *
 generalize (t.put q).1=t2 at *
 clear H e1
 obtain⟨b1,rfl,rfl⟩|⟨order,b1,b2,b3,b4,b5,rfl⟩:=go
 ·exact aQ (by rw[b1];exact zR) (y4 (hQ _ _ hs1 ho1))
 ·refine bW (by rw[b1];rfl) (y0 (y0 (m:=HU a) (aK ho1 b3 (aQ (Bw.mpr (zn b4 (by rw[zz];decide))) (y0 ?_)))))
  rw[b2]
  refine aQ (c:=(_ != _)=true) (by rw[b5,bne_self_eq_false];exact zR) (y4 (HV ho1 rfl ?_ (by rw[b5,zz];exact zjg hz hsz)))
  have e2:=LY (order.filterMap (e2[·]?)) t' (o:=iC e2 (ep+1) t2) rfl
  refine y4 (hQ _ (ep+1+1) (hs1.trans (zw _ a _)) ?_)
  rw[zt _ ho1 (by rw[e2];rfl),e2]
end
namespace SetA
open SetTable
def Up(xs:Array Nat):Prop:=∀ i j,i<j->j<xs.size->xs.getD i 0<xs.getD j 0
theorem xf(xs:Array Nat)(q f lo hi:Nat):below.go xs q (f+1) lo hi=if lo<hi then (if xs.getD ((lo+hi) / 2) q<q then below.go xs q f ((lo+hi) / 2+1) hi else below.go xs q f lo ((lo+hi) / 2)) else lo:=rfl
theorem ue(xs:Array Nat)(q:Nat)(hu:Up xs):∀ (f lo hi:Nat),hi - lo<=f->lo<=hi->hi<=xs.size->(∀ i<lo,xs.getD i 0<q)->(∀ i,hi<=i->i<xs.size->q<=xs.getD i 0) ->
  below.go xs q f lo hi<=xs.size/\(∀ i<below.go xs q f lo hi,xs.getD i 0<q)/\(∀ i,below.go xs q f lo hi<=i->i<xs.size->q<=xs.getD i 0):=by
 intro f
 induction f with
 | zero =>
  intro lo hi hf h1 h2 h3 h4
  have:lo=hi:=y4x hf h1
  subst this
  exact⟨h2,h3,h4⟩
 | succ f ih =>
  intro lo hi hf h1 h2 h3 h4
  rw[xf]
  by_cases hl:lo<hi
  ·rw[if_pos hl]
   have hm1:lo<=(lo+hi) / 2:=y50 hl
   have hm2:(lo+hi) / 2<hi:=y54 hl
   generalize hm:(lo+hi) / 2=m at hm1 hm2
   rw[show xs.getD m q=xs.getD m 0 by
    rw[zJ,zJ,zH (zN hm2 h2)]
    rfl]
   by_cases hc:xs.getD m 0<q
   ·rw[if_pos hc]
    refine ih (m+1) hi (y55 hf hm) hm2 h2 (λi hi'=>?_) h4
    rcases DV (CC hi') with z|rfl
    ·exact CA (hu i m z (zN hm2 h2)) hc
    ·exact hc
   ·rw[if_neg hc]
    refine ih lo m (y57 hf hm) hm1 (zn (Ak hm2) h2) h3 (λi h5 h6=>?_)
    rcases DV h5 with z|rfl
    ·exact zn (Bw.mp hc) (Ak (hu m i z h6))
    ·exact Bw.mp hc
  ·rw[if_neg hl]
   have:lo=hi:=z8u h1 hl
   subst this
   exact⟨h2,h3,h4⟩
theorem iu(xs:Array Nat)(q:Nat)(hu:Up xs):below xs q<=xs.size/\(∀ i<below xs q,xs.getD i 0<q)/\(∀ i,below xs q<=i->i<xs.size->q<=xs.getD i 0) :=
 ue xs q hu xs.size 0 xs.size zf7 (zD _) (zk _) (λi h=>absurd h (Bt _)) λi h1 h2=>absurd h2 (Bw.mpr h1)
theorem uh(xs:Array Nat)(hu:Up xs){i:Nat}(hi:i<xs.size):below xs (xs.getD i 0)=i:=by
 obtain⟨h1,h2,h3⟩:=iu xs (xs.getD i 0) hu
 rcases Du (below xs (xs.getD i 0)) i with q|q|q
 ·have:=h3 _ (zk _) (CA q hi)
  exact absurd (hu _ i q hi) (Bw.mpr this)
 ·exact q
 ·exact absurd (h2 i q) (Ao _)
theorem wI{α:Type}(xs:Array α)(p:Nat)(x:α)(hp:p<=xs.size)(i:Nat):(insertAt xs p x)[i]? = if i<p then xs[i]? else if i=p then some x else xs[i - 1]?:=by
 unfold insertAt
 have e1:(xs.extract 0 p).size=p:=by simp;exact y4u hp
 rw[Array.getElem?_append,E5,e1,Array.getElem?_push,e1]
 by_cases h1:i<p
 ·rw[if_pos (by exact Nat.lt_add_right 1 h1),if_neg (by exact Ag h1),if_pos h1,Iy,if_pos (by exact y4z hp h1)]
  congr 1;exact Fk _
 ·rw[if_neg h1]
  by_cases h2:i=p
  ·rw[if_pos (by exact y52 h2),if_pos h2.symm.symm,if_pos h2]
  ·rw[if_neg (by exact y53 h1 h2),if_neg h2,Iy]
   by_cases h3:i - 1<xs.size
   ·rw[if_pos (by exact y56 h1 h2 h3)];congr 1;exact y58 h1 h2
   ·rw[if_neg (by exact y59 h3),BG (by exact EC h3)]
theorem ni{α:Type}(xs:Array α)(p:Nat)(x:α)(hp:p<=xs.size):(insertAt xs p x).size=xs.size+1:=by
 unfold insertAt
 simp only[FF,E5,JX]
 exact y4w
theorem qJ(q:Nat):has #[] q=false:=by
 unfold has;simp
theorem pf(t:AE)(hu:Up t.place){i:Nat}(hi:i<t.place.size):t.slot (t.place.getD i 0)=.live i:=by
 unfold slot
 dsimp only
 rw[uh _ hu hi,zH hi,if_pos]
 rw[zJ,zH hi]
 simp
theorem jA(t:AE)(hu:Up t.place)(hd:t.dummies = #[])(q:Nat):(∃ i,i<t.place.size/\t.place.getD i 0=q/\t.slot q=.live i)\/((∀ i<t.place.size,t.place.getD i 0≠q)/\t.slot q=.empty):=by
 by_cases h:∃ i,i<t.place.size/\t.place.getD i 0=q
 ·obtain⟨i,hi,rfl⟩:=h
  exact .inl ⟨i,hi,rfl,pf t hu hi⟩
 ·refine .inr ⟨λi hi e=>h ⟨i,hi,e⟩,?_⟩
  unfold slot
  dsimp only
  rw[hd,qJ]
  rw[if_neg,if_neg zR]
  intro e
  have e2:=Aw e
  obtain⟨hb,e3⟩:=EB.mp e2
  refine h ⟨_,hb,?_⟩
  rw[zJ,e2];rfl
theorem sY(xs:Array Nat)(p x:Nat)(hp:p<=xs.size)(i:Nat):(insertAt xs p x).getD i 0=if i<p then xs.getD i 0 else if i=p then x else xs.getD (i - 1) 0:=by
 rw[zJ,wI xs p x hp]
 by_cases h1:i<p
 ·rw[if_pos h1,if_pos h1,zJ]
 ·rw[if_neg h1,if_neg h1]
  by_cases h2:i=p
  ·rw[if_pos h2,if_pos h2];rfl
  ·rw[if_neg h2,if_neg h2,zJ]
structure Tb(t:AE):Prop where
 up:Up t.place
 dm:t.dummies = #[]
 top:∀ i<t.place.size,t.place.getD i 0<=t.mask
theorem x5{t:AE}(B:Tb t){q:Nat}(hq:t.slot q=.empty)(hm:q<=t.mask) :
  Tb (t.put q).1/\(t.put q).1.mask=t.mask/\(t.put q).2<=t.place.size/\(t.put q).1.place.size=t.place.size+1:=by
 have hno:∀ i<t.place.size,t.place.getD i 0≠q:=by
  rcases jA t B.up B.dm q with⟨i,_,_,e⟩|⟨h,_⟩
  ·rw[e] at hq;nomatch hq
  ·exact h
 obtain⟨b1,b2,b3⟩:=iu t.place q B.up
 have e2:(t.put q).2=below t.place q:=rfl
 have e3:(t.put q).1.place=insertAt t.place (below t.place q) q:=rfl
 have e4:(t.put q).1.dummies = #[]:=by
  show (if has t.dummies q then eraseAt t.dummies (below t.dummies q) else t.dummies) = #[]
  rw[B.dm,qJ,if_neg zR]
 have e5:(t.put q).1.mask=t.mask:=rfl
 have hsz:(t.put q).1.place.size=t.place.size+1:=by rw[e3,ni _ _ _ b1]
 rw[e2]
 generalize hp:below t.place q=p at *
 have gt:∀ i,p<=i->i<t.place.size->q<t.place.getD i 0:=λi h1 h2=>Nat.lt_of_le_of_ne (b3 i h1 h2) (hno i h2).symm
 have g:∀ i,(t.put q).1.place.getD i 0=if i<p then t.place.getD i 0 else if i=p then q else t.place.getD (i - 1) 0:=λi=>by rw[e3];exact sY _ _ _ b1 i
 have up:Up (t.put q).1.place:=by
  intro i k h1 h2
  rw[hsz] at h2
  rw[g,g]
  by_cases c1:i<p
  ·rw[if_pos c1]
   by_cases c2:k<p
   ·rw[if_pos c2];exact B.up i k h1 (zgf b1 c2)
   ·rw[if_neg c2]
    by_cases c3:k=p
    ·rw[if_pos c3];exact b2 i c1
    ·rw[if_neg c3];exact CA (b2 i c1) (gt (k - 1) (y5i c2 c3) (y5j b1 h2 c1))
  ·rw[if_neg c1,if_neg (show ¬ k<p by exact y5k h1 c1),if_neg (show ¬ k=p by exact y5l h1 c1)]
   by_cases c3:i=p
   ·rw[if_pos c3];exact gt (k - 1) (y5m h1 c3) (y5n h1 h2)
   ·rw[if_neg c3];exact B.up (i - 1) (k - 1) (y5o h1 c1 c3) (y5n h1 h2)
 refine⟨⟨up,e4,λi hi=>?_⟩,e5,b1,hsz⟩
 rw[hsz] at hi
 rw[g,e5]
 by_cases c1:i<p
 ·rw[if_pos c1];exact B.top i (zgf b1 c1)
 ·rw[if_neg c1]
  by_cases c3:i=p
  ·rw[if_pos c3];exact hm
  ·rw[if_neg c3];exact B.top (i - 1) (y5p hi c1 c3)
theorem uj{t t':AE}(h:t'.mask=t.mask)(P:Probe):t'.advance P=t.advance P:=by
 unfold advance;rw[h]
noncomputable def lT(t:AE):Nat->Probe->List Nat
 | 0,_=>[]
 | f+1,P=>P.j::lT t f (t.advance P)
theorem go_s{t:AE}{H:Nat->Int}{h:Int}{f:Nat}{P:Probe}:probe.go t H h (f+1) P=(match t.slot P.j with|.empty=>some (.empty P.j P.dummy)|.dummy=>probe.go t H h f (t.advance { P with dummy:=some P.j })|.live i=>if H i==h then some (.candidate P.j i (t.advance P)) else probe.go t H h f (t.advance P)):=rfl
theorem yB{t:AE}{H:Nat->Int}{h:Int}(B:Tb t):∀ (f:Nat) (P:Probe),P.dummy=none ->
  (∃ j i next,probe.go t H h f P=some (.candidate j i next)/\i<t.place.size/\H i=h)\/(∃ q,probe.go t H h f P=some (.empty q none)/\t.slot q=.empty/\q∈lT t f P)\/(∀ q∈lT t f P,∃ i<t.place.size,t.place.getD i 0=q):=by
 intro f
 induction f with
 | zero =>
  intro P Z
  exact .inr (.inr λq hq=>nomatch hq)
 | succ f ih =>
  intro P hd
  rw[go_s]
  show _\/_\/∀ q∈P.j::lT t f (t.advance P),_
  rcases jA t B.up B.dm P.j with⟨k,hk,e,e'⟩|⟨_,e'⟩
  ·rw[e']
   dsimp only
   by_cases c:H k=h
   ·rw[if_pos (beq_iff_eq.mpr c)]
    exact .inl ⟨_,_,_,rfl,hk,c⟩
   ·rw[if_neg (λz=>c (Aw z))]
    have hd':(t.advance P).dummy=none:=by
     unfold advance
     split<;> exact hd
    rcases ih (t.advance P) hd' with z|⟨q,a,b,c⟩|z
    ·exact .inl z
    ·exact .inr (.inl ⟨q,a,b,aj c⟩)
    ·refine .inr (.inr λq hq=>?_)
     rcases za.mp hq with rfl|hq
     ·exact⟨k,hk,e⟩
     ·exact z q hq
  ·rw[e']
   exact .inr (.inl ⟨P.j,by rw[hd],e',.head _⟩)
theorem wN{t:AE}{H:Nat->Int}{h:Int}(B:Tb t)(f:Nat)(P:Probe)(hd:P.dummy=none)(D:List Nat)(hD:D.Nodup)(hp:∀ q∈D,q∈lT t f P)(hn:t.place.size<D.length) :
  (∃ j i next,probe.go t H h f P=some (.candidate j i next)/\i<t.place.size/\H i=h)\/(∃ q,probe.go t H h f P=some (.empty q none)/\t.slot q=.empty/\q∈lT t f P):=by
 rcases yB (H:=H) (h:=h) B f P hd with z|z|z
 ·exact .inl z
 ·exact .inr z
 ·exfalso
  have hsub:∀ q∈D,q∈(zQ t.place.size).map λi=>t.place.getD i 0:=λq hq=>by
   obtain⟨i,hi,e⟩:=z q (hp q hq)
   exact zd.mpr ⟨i,zV.mpr hi,e⟩
  have:=hD.length_le_of_subset hsub
  rw[ze,Ca] at this
  exact absurd hn (Bw.mpr this)
noncomputable def tm(m:Nat):AE:={ mask:=m,place:=#[],dummies:=#[],finger:=0,led:=true,moves:=0,plain:=true }
noncomputable def hF(f:UInt64):Int:=(CU f).getD 0
theorem qm{t t':AE}(h:t'.mask=t.mask):∀ (f:Nat) (P:Probe),lT t' f P=lT t f P:=by
 intro f
 induction f with
 | zero =>
  intro Z
  exact rfl
 | succ f ih =>
  intro P
  show _::lT t' f (t'.advance P)=_::lT t f (t.advance P);rw[uj h,ih]
theorem k9(t:AE):∀ (f g:Nat) (P:Probe),f<=g->∀ q∈lT t f P,q∈lT t g P
 | 0,_,_,_,q,hq=>nomatch hq
 | f+1,0,_,h,_,_=>absurd h (FV _)
 | f+1,g+1,P,h,q,hq=>by
  rcases za.mp hq with rfl|hq
  ·exact .head _
  ·exact aj (k9 t f g _ (DU h) q hq)
theorem uA(m i:Nat)(h:i<=m):runEnd m i<=m/\i<=runEnd m i:=by
 unfold runEnd
 split;exact⟨‹_›,Cp _ _⟩;exact⟨h,zk _⟩
theorem vZ(t:AE):∀ (f:Nat) (P:Probe),P.j+P.more<=t.mask->∀ q∈lT t f P,q<=t.mask:=by
 intro f
 induction f with
 | zero =>
  intro Z Z q hq
  nomatch hq
 | succ f ih =>
  intro P h q hq
  rcases za.mp hq with rfl|hq
  ·exact zia h
  ·refine ih (t.advance P) ?_ q hq
   unfold advance
   by_cases c:P.more > 0
   ·rw[if_pos c];dsimp only;exact y5g h c
   ·rw[if_neg c]
    dsimp only
    have h1:(leap t.mask P.i P.perturb).1<=t.mask:=CC (MH _ (Fx _))
    generalize (leap t.mask P.i P.perturb)=L at h1
    obtain⟨a,b⟩:=L
    have:=uA t.mask a h1
    exact y5h this.1 this.2
theorem r8(t:AE)(h:Int):(t.probeStart h).j+(t.probeStart h).more<=t.mask:=by
 unfold probeStart
 dsimp only
 have h1:bits h % (t.mask+1)<=t.mask:=CC (MH _ (Fx _))
 have:=uA t.mask _ h1
 exact y5e this.1 this.2
theorem sE:(shL.all λf=>[7,31].all λm=>Cj 8 ((zQ (m+1)).filter λq=>(lT (tm m) 22 ((tm m).probeStart (hF f))).contains q).length)=true:=by decide +kernel
noncomputable def oJ(mask:Nat):Nat->Nat->Nat->List Nat
 | 0,_,_=>[]
 | f+1,i,pt=>(zQ (runEnd mask i+1 - i)).map (i + ·)++oJ mask f (leap mask i pt).1 (leap mask i pt).2
theorem uU(mask:Nat)(owner:Array (Option Nat))(f i pt:Nat):layClean.free mask owner (f+1) i pt=(match (zQ (runEnd mask i+1 - i)).find? λk=>(owner.getD (i+k) (some 0)).isNone with|some k=>some (i+k)|none=>layClean.free mask owner f (leap mask i pt).1 (leap mask i pt).2):=by rfl
theorem wQ(mask:Nat)(owner:Array (Option Nat)):∀ (f i pt j:Nat),layClean.free mask owner f i pt=some j->owner.getD j (some 0)=none:=by
 intro f
 induction f with
 | zero =>
  intro i pt j h
  nomatch h
 | succ f ih =>
  intro i pt j h
  rw[uU] at h
  cases hq:(zQ (runEnd mask i+1 - i)).find? λk=>(owner.getD (i+k) (some 0)).isNone with
  | some k =>
   rw[hq] at h
   cases h
   have z:=(List.find?_eq_some_iff_append.mp hq).1
   exact Option.isNone_iff_eq_none.mp z
  | none =>
   rw[hq] at h
   exact ih _ _ j h
theorem qO(mask:Nat)(owner:Array (Option Nat)):∀ (f g i pt:Nat),f<=g->layClean.free mask owner g i pt=none->∀ q∈oJ mask f i pt,owner.getD q (some 0)≠none:=by
 intro f
 induction f with
 | zero =>
  intro g i pt h1 h2 q hq
  nomatch hq
 | succ f ih =>
  intro g i pt hfg h q hq
  cases g with
  | zero=>exact absurd hfg (FV _)
  | succ g =>
   rw[uU] at h
   cases hf:(zQ (runEnd mask i+1 - i)).find? λk=>(owner.getD (i+k) (some 0)).isNone with
   | some k=>rw[hf] at h;nomatch h
   | none =>
    rw[hf] at h
    rcases zf.mp hq with hm|hm
    ·obtain⟨x,hx,rfl⟩:=zd.mp hm
     intro e
     have:=Fa.mp hf x hx
     rw[e] at this
     exact this rfl
    ·exact ih g _ _ (DU hfg) h q hm
theorem qP:(shL.all λf=>Cj 8 ((zQ 32).filter λq=>(oJ 31 6 (bits (hF f) % 32) (bits (hF f))).contains q).length)=true:=by decide +kernel
structure Ow(mask:Nat)(hs:List Int)(owner:Array (Option Nat)):Prop where
 size:owner.size=mask+1
 lt:∀ (q y:Nat),owner[q]? = some (some y)->y<hs.length
 inj:∀ (q q' y:Nat),owner[q]? = some (some y)->owner[q']? = some (some y)->q=q'
 found:∀ x<hs.length,∃ q:Nat,owner[q]? = some (some x)
theorem v7{mask:Nat}{hs:List Int}{owner:Array (Option Nat)}(O:Ow mask hs owner){h:Int}{j:Nat}(h3:owner.getD j (some 0)=none):Ow mask (hs++[h]) (owner.setIfInBounds j (some hs.length)):=by
 have hjm:j<owner.size:=Nat.lt_of_not_le λc=>by
  rw[zJ,BG c] at h3
  nomatch h3
 have hjn:owner[j]? = some none:=by
  rw[zJ,zH hjm] at h3
  rw[zH hjm]
  exact congrArg some h3
 have g:∀ q:Nat,(owner.setIfInBounds j (some hs.length))[q]? = if j=q then some (some hs.length) else owner[q]?:=λq=>by
  rw[Array.getElem?_setIfInBounds]
  by_cases e:j=q
  ·rw[if_pos e,if_pos hjm,if_pos e]
  ·rw[if_neg e,if_neg e]
 refine⟨by rw[Array.size_setIfInBounds];exact O.size,λq y e=>?_,λq q' y e e'=>?_,λx hx=>?_⟩
 ·rw[zO]
  rw[g] at e
  by_cases c:j=q
  ·rw[if_pos c] at e;cases e;exact Bi _
  ·rw[if_neg c] at e;exact Fw (O.lt q y e)
 ·rw[g] at e e'
  by_cases c:j=q
  ·rw[if_pos c] at e
   cases e
   by_cases c':j=q'
   ·exact c.symm.trans c'
   ·rw[if_neg c'] at e';exact absurd (O.lt _ _ e') (Ao _)
  ·rw[if_neg c] at e
   by_cases c':j=q'
   ·rw[if_pos c'] at e';cases e';exact absurd (O.lt _ _ e) (Ao _)
   ·rw[if_neg c'] at e';exact O.inj q q' y e e'
 ·rw[zO] at hx
  rcases DV (CC hx) with q|rfl
  ·obtain⟨z,hz⟩:=O.found x q
   exact⟨z,by rw[g,if_neg (λc=>by rw[<- c,hjn] at hz;nomatch hz)];exact hz⟩
  ·exact⟨j,by rw[g,if_pos rfl]⟩
def Wide(h:Int):Prop:=Cj 8 ((zQ 32).filter λq=>(oJ 31 6 (bits h % 32) (bits h)).contains q).length=true
theorem qN{hs:List Int}{owner:Array (Option Nat)}(O:Ow 31 hs owner)(hn:hs.length<=7){h:Int}(hw:Wide h):∃ j,layClean.free 31 owner (turns 31) (bits h % 32) (bits h)=some j:=by
 cases hf:layClean.free 31 owner (turns 31) (bits h % 32) (bits h) with
 | some j=>exact⟨j,rfl⟩
 | none =>
  exfalso
  have hno:=qO 31 owner 6 _ _ _ (by decide) hf
  have hD:((zQ 32).filter λq=>(oJ 31 6 (bits h % 32) (bits h)).contains q).Nodup:=HW.filter _
  generalize hDD:(zQ 32).filter (λq=>(oJ 31 6 (bits h % 32) (bits h)).contains q)=D at hD
  have h8:8<=D.length:=by rw[<- hDD];exact CJ hw
  have hocc:∀ q∈D,∃ y:Nat,owner[q]? = some (some y):=λq hq=>by
   rw[<- hDD] at hq
   obtain⟨h1,h2⟩:=BC.mp hq
   have hqm:q<owner.size:=by rw[O.size];exact zV.mp h1
   have h3:=hno q (AZ.mp h2)
   rw[zJ,zH hqm] at h3
   rw[zH hqm]
   cases e:owner[q] with
   | none=>exact absurd e h3
   | some y=>exact⟨y,rfl⟩
  have hmap:(D.map λq=>((owner[q]?).getD none).getD 0).Nodup:=by
   refine AX.mpr (EW (λ{a b} ha hb' hne e=>?_) hD)
   obtain⟨y,e1⟩:=hocc a ha
   obtain⟨z,e2⟩:=hocc b hb'
   rw[e1,e2] at e
   have e':y=z:=e
   subst e'
   exact hne (O.inj a b y e1 e2)
  have:=hmap.length_le_of_subset (l₂:=zQ hs.length) λy hy=>by
   obtain⟨q,hq,rfl⟩:=zd.mp hy
   obtain⟨y,e1⟩:=hocc q hq
   rw[e1]
   exact zV.mpr (O.lt q y e1)
  rw[ze,Ca] at this
  exact y5r hn h8 this
theorem yk(hs:List Int)(hn:hs.length<=7)(hw:∀ h∈hs,Wide h):∃ owner,layClean 31 hs.toArray=some owner/\Ow 31 hs owner:=by
 have go:∀ (todo done:List Int) (owner:Array (Option Nat)),Ow 31 done owner->(done++todo).length<=7->(∀ h∈todo,Wide h) ->
   ∃ owner',todo.foldl (λ(acc:Option (Array (Option Nat)×Nat)) h=>do
    let (owner,k) <- acc
    let j <- layClean.free 31 owner (turns 31) (bits h % (31+1)) (bits h)
    AA (owner.setIfInBounds j (some k),k+1)) (some (owner,done.length))=some (owner',(done++todo).length)/\Ow 31 (done++todo) owner':=by
  intro todo
  induction todo with
  | nil=>intro done owner O Z Z;exact⟨owner,by rw[Aq];rfl,by rw[Aq];exact O⟩
  | cons h todo ih =>
   intro done owner O hl hw
   obtain⟨j,hj⟩:=qN O (by rw[zO] at hl;exact Nat.le_of_add_right_le hl) (hw h (.head _))
   obtain⟨owner',e,O'⟩:=ih (done++[h]) _ (v7 O (wQ _ _ _ _ _ _ hj)) (by rw[zx];exact hl) λx hx=>hw x (aj hx)
   rw[zx] at e O'
   refine⟨owner',?_,O'⟩
   refine Eq.trans ?_ e
   rw[Ga]
   congr 1
   show (layClean.free 31 owner (turns 31) (bits h % (31+1)) (bits h)>>=λj=>AA (owner.setIfInBounds j (some done.length),done.length+1))=_
   rw[hj,zO]
   rfl
 have no:∀ (q y:Nat),(IF (31+1) (none:Option Nat))[q]? = some (some y)->False:=λq y e=>by
  rw[Array.getElem?_replicate] at e
  split at e<;> nomatch e
 have O0:Ow 31 [] (IF (31+1) none):=⟨by simp,λq y e=>(no q y e).elim,λq q' y e Z=>(no q y e).elim,(λx h=>absurd h (Bt _))⟩
 obtain⟨owner,e,O⟩:=go hs [] _ O0 hn hw
 refine⟨owner,?_,O⟩
 unfold layClean
 rw[<- Array.foldl_toList]
 have e':hs.foldl _ (some (IF (31+1) none,0))=some (owner,hs.length):=e
 rw[e']
 rfl
noncomputable def gn(mask:Nat)(owner:Array (Option Nat)):List (Nat×Nat):=(zQ (mask+1)).filterMap λj=>(owner.getD j none).map (j,·)
theorem gm{mask:Nat}{owner:Array (Option Nat)}(hs:owner.size=mask+1){j x:Nat}:(j,x)∈gn mask owner↔owner[j]? = some (some x):=by
 unfold gn
 rw[List.mem_filterMap]
 constructor
 ·rintro⟨a,ha,e⟩
  cases h:owner.getD a none with
  | none=>rw[h] at e;nomatch e
  | some y =>
   rw[h] at e
   injection e with e
   injection e with e1 e2
   subst e1 e2
   have hlt:a<owner.size:=by rw[hs];exact zV.mp ha
   rw[zJ,zH hlt] at h
   rw[zH hlt]
   exact congrArg some h
 ·intro e
  have hlt:=(EB.mp e).1
  refine⟨j,zV.mpr (by rw[<- hs];exact hlt),?_⟩
  rw[zJ,e];rfl
theorem wB(mask:Nat)(owner:Array (Option Nat)):((gn mask owner).map (·.1)).Pairwise (· < ·):=by
 unfold gn
 rw[AX,List.pairwise_filterMap]
 refine Ft.imp λ{a b} h x hx y hy=>?_
 cases h1:owner.getD a none with
 | none=>rw[h1] at hx;nomatch hx
 | some u =>
  cases h2:owner.getD b none with
  | none=>rw[h2] at hy;nomatch hy
  | some v =>
   rw[h1] at hx
   rw[h2] at hy
   cases hx
   cases hy
   exact h
theorem wD{fin mv:Nat}{led pl:Bool}(hs:List Int)(hn:hs.length<=7)(hw:∀ h∈hs,Wide h) :
  ∃ t2 order,laid 31 fin mv led pl hs.toArray=some (t2,order)/\Tb t2/\t2.mask=31/\t2.led=led/\t2.plain=pl/\t2.place.size=hs.length/\order.toList.Perm (zQ hs.length):=by
 obtain⟨owner,e,O⟩:=yk hs hn hw
 have hpr:=wB 31 owner
 have hndL:((gn 31 owner).map (·.1)).Nodup:=hpr.imp λh=>Ag h
 have hndX:((gn 31 owner).map (·.2)).Nodup:=by
  refine AX.mpr ((AX.mp hndL).imp_of_mem λ{a b} ha hb' hne q=>?_)
  obtain⟨a1,a2⟩:=a
  obtain⟨b1,b2⟩:=b
  have q':a2=b2:=q
  subst q'
  exact hne (O.inj _ _ _ ((gm O.size).mp ha) ((gm O.size).mp hb'))
 have hperm:((gn 31 owner).map (·.2)).Perm (zQ hs.length):=by
  refine (List.perm_ext_iff_of_nodup hndX HW).mpr λx=>?_
  rw[zV,zd]
  constructor
  ·rintro⟨⟨q,y⟩,hm,rfl⟩
   exact O.lt q y ((gm O.size).mp hm)
  ·intro hx
   obtain⟨q,h2⟩:=O.found x hx
   exact⟨(q,x),(gm O.size).mpr h2,rfl⟩
 have hlen:(gn 31 owner).length=hs.length:=by
  have:=hperm.length_eq
  rwa [ze,Ca] at this
 obtain⟨t2,h2⟩:∃ t:AE,t = { mask:=31,place:=((gn 31 owner).map (·.1)).toArray,dummies:=#[],finger:=fin,led,moves:=mv,plain:=pl }:=⟨_,rfl⟩
 have hpl:t2.place=((gn 31 owner).map (·.1)).toArray:=by rw[h2]
 have hmk:t2.mask=31:=by rw[h2]
 have hB:Tb t2:=by
  have up:Up t2.place:=λi k h1 h2'=>by
   rw[hpl] at h2' ⊢
   have h2':k<((gn 31 owner).map (·.1)).length:=by simpa using h2'
   have:=EK.mp hpr i k (CA h1 h2') h2' h1
   rw[zJ,zJ,FL,FL,zl h2',zl (CA h1 h2')]
   exact this
  refine⟨up,by rw[h2],λi hi=>?_⟩
  rw[hpl] at hi ⊢
  rw[hmk]
  have hi':i<((gn 31 owner).map (·.1)).length:=by simpa using hi
  rw[zJ,FL,zl hi']
  obtain⟨⟨q,y⟩,hm,eq⟩:=zd.mp (Ac hi')
  show ((gn 31 owner).map (·.1))[i]<=31
  rw[<- eq]
  have:=(EB.mp ((gm O.size).mp hm)).1
  rw[O.size] at this
  exact CC this
 have hsz:t2.place.size=hs.length:=by rw[hpl];simp[hlen]
 refine⟨t2,((gn 31 owner).map (·.2)).toArray,?_,hB,hmk,by rw[h2],by rw[h2],hsz,hperm⟩
 unfold laid
 rw[e,h2]
 rfl
end SetA
section
variable{a:zh}{t:AE}{f:UInt64}{tk':AQ}{h:Int}
theorem vH(x:Value)(hx:MI x=true):∀ (ys:List Value),(∀ y∈ys,MI y=true)->∀ {Q:BP},Q false s->y7 (y6 prog w) A (searchCouldBeSeen x ys) Q E s:=by
 refine λys hy Q hQ=>y0 (ke ys.length (zk _) (λi y hi hy' Q' hQ'=>?_) (λZ=>?_) (λy hy'=>?_))
 ·have hc:=hy y (zp hy')
  dsimp only
  rw[hx,hc,JK,Bool.or_true]
  exact y4 hQ'
 ·exact y4 hQ
 ·rw[zT (zk _)] at hy';nomatch hy'
theorem r9{Q:SetFound->zc->Prop}{j i:Nat}{next:MJ}(ho:s.heap.get? a=some (iC es ep t))(hc1:(t.place.size != es.size || decide (t.fill > t.mask))=false)(hc2:t.gaveWay=false)
  (hr:t.probe (λi=>(es[i]?.map (·.1)).getD 0) h (t.probeStart h)=some (.candidate j i next)) (hi:es[i]? = some (h,.float f tk')) (hfl:∀ p∈es.toList,∃ g u,p.2=.float g u) (hq:(zZ f f==some Ordering.eq)=true) (NB:B8 s.heap) (ht:tk'≠0) (hu:tk≠0)
  (hQ:Q (.there none) s):y7 (y6 prog w) A (setSearch a (.float f tk) h true) Q E s:=by
 refine y0 (m:=HU a) (aK ho hc1 (aQ (tL hc2) ?_))
 generalize hm:t.probe _ h _=o
 replace hm:o=some (.candidate j i next):=hm.symm.trans hr
 subst hm
 cases hl:t.led with
 | true =>
  refine aQ (by simp) ?_
  rw[hi]
  refine y0 (zs (dD NB ht hu (λZ=>rfl) hq ?_))
  rw[hq]
  refine y0 (aK ho hc1 ?_)
  exact bW rfl (y4 hQ)
 | false =>
  refine bW (by simp) (y0 (vH _ rfl _ (λy hy=>?_) ?_))
  ·obtain⟨p,hp,rfl⟩:=zd.mp hy
   have hp':p∈es.toList:=by
    have:=EA.mp hp
    exact EA.mpr (Array.mem_filter.mp this).1
   obtain⟨g,u,e⟩:=hfl p hp'
   rw[e];rfl
  refine aQ zR ?_
  rw[hi]
  refine y0 (zs (dD NB ht hu (λZ=>rfl) hq ?_))
  rw[hq]
  refine y0 (aK ho hc1 ?_)
  exact bW rfl (y4 hQ)
theorem jU{Q:BP}{j i:Nat}{next:MJ}(ho:s.heap.get? a=some (iC es ep t))(hc1:(t.place.size != es.size || decide (t.fill > t.mask))=false)(hc2:t.gaveWay=false)
  (hr:t.probe (λi=>(es[i]?.map (·.1)).getD 0) h (t.probeStart h)=some (.candidate j i next)) (hi:es[i]? = some (h,.float f tk')) (hfl:∀ p∈es.toList,∃ g u,p.2=.float g u) (hq:(zZ f f==some Ordering.eq)=true) (NB:B8 s.heap) (ht:tk'≠0) (hu:tk≠0)
  (hQ:Q false s):y7 (y6 prog w) A (KE a (.float f tk) h) Q E s:=by
 exact zs (y0 (m:=HU a) (aK ho hc1 (aQ (tL (b:=byScan (.float f tk) es) rfl) (y0 (r9 ho hc1 hc2 hr hi hfl hq NB ht hu (y4 hQ))))))
end
section
open SetTable SetA
noncomputable abbrev hAt(es:Array (Int×Value))(i:Nat):Int:=(es[i]?.map (·.1)).getD 0
noncomputable abbrev entF(p:UInt64×AQ):Int×Value:=(SetA.hF p.1,.float p.1 p.2)
structure lG(fs:List (UInt64×AQ))(es:Array (Int×Value))(t:AE):Prop where
 tb:Tb t
 sz:t.place.size=es.size
 few:fs.length<=7
 mask:t.mask=if fs.length<=4 then 7 else 31
 plain:t.plain=true
 perm:es.toList.Perm (fs.map entF)
 shl:∀ p∈fs,p.1∈shL
theorem ln:(shL.all λa=>shL.all λb=>!(SetA.hF a==SetA.hF b) || a==b)=true:=by decide +kernel
theorem tB{a b:UInt64}(ha:a∈shL)(hb:b∈shL)(h:SetA.hF a=SetA.hF b):a=b:=by
 have:=zF.mp (zF.mp ln a ha) b hb
 rw[h,beq_self_eq_true] at this
 exact Aw this
theorem sr(fin mv:Nat)(led:Bool):lG [] #[] (.fresh fin mv led) :=
 ⟨⟨λi j Z h=>absurd h (Bt _),rfl,λi h=>absurd h (Bt _)⟩,rfl,zD _,rfl,rfl,BI _,λp hp=>by cases hp⟩
theorem n9{fs:List (UInt64×AQ)}{es:Array (Int×Value)}{t:AE}(I:lG fs es t){f:UInt64}(hf:f∈shL) :
  (∃ j i next u,t.probe (hAt es) (SetA.hF f) (t.probeStart (SetA.hF f))=some (.candidate j i next)/\es[i]? = some (SetA.hF f,.float f u)/\(f,u)∈fs) \/
  (∃ q,t.probe (hAt es) (SetA.hF f) (t.probeStart (SetA.hF f))=some (.empty q none)/\t.slot q=.empty/\q<=t.mask):=by
 have hm:t.mask=7\/t.mask=31:=by rw[I.mask];split<;> simp
 have hle:es.size=fs.length:=by
  have:=I.perm.length_eq
  rwa [ze,Bf] at this
 have hw:=zF.mp (zF.mp sE f hf) t.mask (by rcases hm with h|h<;> rw[h]<;> simp)
 have hstart:t.probeStart (SetA.hF f)=(tm t.mask).probeStart (SetA.hF f):=rfl
 have hturn:22<=10 * turns t.mask:=by rcases hm with h|h<;> rw[h]<;> decide
 rcases wN (H:=hAt es) (h:=SetA.hF f) I.tb (10 * turns t.mask) (t.probeStart (SetA.hF f)) rfl
  ((zQ (t.mask+1)).filter λq=>(lT (tm t.mask) 22 ((tm t.mask).probeStart (SetA.hF f))).contains q) (HW.filter _) (λq hq=>by
   have:=AZ.mp (BC.mp hq).2
   rw[<- hstart,<- qm (t:=tm t.mask) (t':=t) rfl] at this
   exact k9 t 22 _ _ hturn q this) (by
   have:=CJ hw
   rw[I.sz,hle]
   exact Bv I.few this) with⟨j,i,next,h1,h2,h3⟩|⟨q,h1,h2,h3⟩
 ·rw[I.sz] at h2
  have hm':es[i]∈es.toList:=EA.mpr (Array.getElem_mem h2)
  obtain⟨p,hp,ep⟩:=zd.mp (I.perm.mem_iff.mp hm')
  have e0:es[i]? = some (entF p):=by rw[zH h2,ep]
  have e1:hAt es i=SetA.hF p.1:=by
   show ((es[i]?.map (·.1)).getD 0)=_
   rw[e0];rfl
  have e2:=tB (I.shl p hp) hf (e1.symm.trans h3)
  subst e2
  exact .inl ⟨j,i,next,p.2,h1,e0,hp⟩
 ·exact .inr ⟨q,h1,h2,vZ t _ _ (r8 t _) q h3⟩
theorem sW{α:Type}(xs:Array α)(p:Nat)(x:α)(hp:p<=xs.size):(insertAt xs p x).toList.Perm (x::xs.toList):=by
 unfold insertAt
 have e:xs.toList=xs.toList.take p++xs.toList.drop p:=(CK _ _).symm
 have e2:((xs.extract 0 p).push x++xs.extract p xs.size).toList=xs.toList.take p++x::xs.toList.drop p:=by
  simp[Array.toList_extract,List.extract_eq_take_drop]
  exact C5 (by simp)
 rw[e2]
 exact zv.trans (by rw[<- e])
theorem yE(es:Array (Int×Value)):∀ l:List Nat,(∀ x∈l,x<es.size)->l.filterMap (es[·]?)=l.map λx=>(es[x]?).getD (0,.none):=by
 intro l
 induction l with
 | nil =>
  intro Z
  exact rfl
 | cons a l ih =>
  intro h
  rw[JB,zH (h a (.head _)),AD,ih λx hx=>h x (aj hx),zH (h a (.head _))]
  rfl
theorem qA(es:Array (Int×Value)):(zQ es.size).map (λx=>(es[x]?).getD (0,.none))=es.toList:=by
 refine Lc (by simp) λi h1 h2=>?_
 rw[DH,GW]
 have:i<es.size:=by simpa using h2
 rw[zH this]
 simp
theorem vE{fs:List (UInt64×AQ)}{es:Array (Int×Value)}{t:AE}(I:lG fs es t)(h6:fs.length<=6){p:UInt64×AQ}(hp:p.1∈shL){q:Nat}(h1:t.probe (hAt es) (SetA.hF p.1) (t.probeStart (SetA.hF p.1))=some (.empty q none))(h2:t.slot q=.empty)(h3:q<=t.mask) :
  ∃ es' t',Adds es t (.float p.1 p.2) (SetA.hF p.1) q es' t'/\lG (p::fs) es' t'/\t'.led=t.led:=by
 obtain⟨c1,c2,c3',c4'⟩:=x5 I.tb h2 h3
 have c4:(t.put q).2<=es.size:=by rw[<- I.sz];exact c3'
 have hle:es.size=fs.length:=by
  have:=I.perm.length_eq
  rwa [ze,Bf] at this
 have hm:t.mask=7\/t.mask=31:=by rw[I.mask];split<;> simp
 have hfill:t.fill=fs.length:=by
  show t.place.size+t.dummies.size=_
  rw[I.tb.dm,I.sz,hle];rfl
 have g1:(t.place.size != es.size || decide (t.fill > t.mask))=false:=by
  rw[I.sz,hfill,bne_self_eq_false,decide_eq_false];rfl
  exact Bw.mpr (zn h6 (by rcases hm with h|h<;> rw[h]<;> decide))
 have g2:t.gaveWay=false:=by unfold gaveWay;rcases hm with h|h<;> rw[h]<;> rfl
 have hs:(insertAt es (t.put q).2 (SetA.hF p.1,BE p.1 p.2)).size=es.size+1:=ni _ _ _ c4
 have c3:(t.put q).1.place.size=(insertAt es (t.put q).2 (SetA.hF p.1,BE p.1 p.2)).size:=by rw[c4',hs,I.sz]
 have hperm:(insertAt es (t.put q).2 (SetA.hF p.1,BE p.1 p.2)).toList.Perm ((p::fs).map entF):=(sW es _ _ c4).trans (zP _ I.perm)
 have hfill1:(t.put q).1.fill=fs.length+1:=by
  show (t.put q).1.place.size+(t.put q).1.dummies.size=_
  rw[c1.dm,c3,hs,hle];rfl
 have hsh:∀ x∈p::fs,x.1∈shL:=λx hx=>by
  rcases za.mp hx with rfl|hx
  ·exact hp
  ·exact I.shl x hx
 have hful:(t.put q).1.tooFull=decide (fs.length=4):=by
  unfold tooFull
  rw[hfill1,c2,I.mask]
  by_cases h4:fs.length<=4
  ·rw[if_pos h4];exact decide_eq_decide.mpr (x16 h4)
  ·rw[if_neg h4];exact decide_eq_decide.mpr (x17 h6 h4)
 by_cases h4:fs.length=4
 ·generalize hE:insertAt es (t.put q).2 (SetA.hF p.1,BE p.1 p.2)=es1 at *
  have hl1:es1.toList.length=5:=by rw[Bf,hs,hle,h4]
  have hh:(es1.toList.map (·.1)).Perm ((p::fs).map λx=>SetA.hF x.1):=by
   have:=hperm.map (·.1)
   rw[CR] at this
   exact this
  obtain⟨t2,order,e,tb2,m2,l2,p2,sz2,op2⟩:=wD (fin:=(t.put q).1.finger) (mv:=(t.put q).1.movedTo 31) (led:=(t.put q).1.led) (pl:=(t.put q).1.plain) (es1.toList.map (·.1)) (by rw[ze,hl1];decide)
   (λh hh'=>by
    obtain⟨x,hx,rfl⟩:=zd.mp (hh.mem_iff.mp hh')
    exact zF.mp qP x.1 (hsh x hx))
  have hrel:(t.put q).1.relaid (es1.map (·.1)) (G6 (es.size+1))=some (t2,order):=by
   rw[hle,h4]
   have:es1.map (·.1)=(es1.toList.map (·.1)).toArray:=by rw[<- Array.toList_map]
   rw[this]
   exact e
  have h5:es1.size=5:=by rw[<- Bf,hl1]
  have hlen5:(es1.toList.map (·.1)).length=5:=by rw[ze,hl1]
  have hes2:(order.filterMap (es1[·]?)).toList=order.toList.map λx=>(es1[x]?).getD (0,.none):=by
   rw[Array.toList_filterMap]
   exact yE es1 _ λx hx=>by
    have:=zV.mp (op2.mem_iff.mp hx)
    rw[hlen5] at this
    rw[h5];exact this
  have hp2:(order.filterMap (es1[·]?)).toList.Perm es1.toList:=by
   rw[hes2,<- qA es1]
   have:=op2.map λx=>(es1[x]?).getD ((0,.none):Int×Value)
   rw[hlen5,<- h5] at this
   exact this
  have hz2:(order.filterMap (es1[·]?)).size=es1.size:=by
   rw[<- Bf,hp2.length_eq,Bf]
  have b3:((t.put q).1.place.size != es1.size || decide ((t.put q).1.fill > (t.put q).1.mask))=false:=by
   rw[c3,hfill1,c2,I.mask,h4,bne_self_eq_false];rfl
  subst hE
  refine⟨_,_,⟨g1,g2,h1,.inr ⟨order,hful.trans (decide_eq_true h4),hrel,b3,by rw[hle,h4];decide,hz2,rfl⟩⟩,⟨tb2,?_,by show fs.length+1<=7;exact y5w h4,?_,p2.trans I.plain,hp2.trans hperm,hsh⟩,l2⟩
  ·rw[sz2,hz2,hlen5,h5]
  ·rw[m2,if_neg (by show ¬ fs.length+1<=4;exact y5x h4)]
 ·refine⟨_,_,⟨g1,g2,h1,.inl ⟨hful.trans (decide_eq_false h4),rfl,rfl⟩⟩,⟨c1,c3,by show fs.length+1<=7;exact C8 h6,?_,I.plain,hperm,hsh⟩,rfl⟩
  rw[c2,I.mask]
  by_cases h5:fs.length<=4
  ·rw[if_pos h5,if_pos (by exact y5z h4 h5)]
  ·rw[if_neg h5,if_neg (by exact y60 h5)]
end
section
open SetTable SetA
noncomputable abbrev cP(p:UInt64×AQ):Value:=.float p.1 p.2
theorem tA:(shL.all λf=>(CU f).isSome&&decide (-(2 ^ 63:Int)<=SetA.hF f)&&decide (SetA.hF f<2 ^ 63)&&(SetA.hF f != -1)&&(zZ f f==some Ordering.eq))=true:=by decide +kernel
theorem nk{f:UInt64}(h:f∈shL):An5 ((CU f).isSome=true) (-(2 ^ 63:Int)<=SetA.hF f) (SetA.hF f<2 ^ 63) ((SetA.hF f != -1)=true) ((zZ f f==some Ordering.eq)=true):=by
 have:=zF.mp tA f h
 simp only[HK,decide_eq_true_eq] at this
 exact⟨this.1.1.1.1,this.1.1.1.2,this.1.1.2,this.1.2,this.2⟩
section
variable{f:UInt64}{t:AQ}
theorem gZ{h:Int}(hf:CU f=some h):Gives (Az.«float.__hash__» ⟨[.float f t],[]⟩) (.int h):=by
 refine .of_wp λM A E s Q hq=>?_
 obtain⟨hp,g,d,tk,os⟩:=s
 wp_walk
 rw[hf]
 wp_walk
 exact⟨_,rfl,hq⟩
theorem fR{Q:Int->zc->Prop}(hs:(CU f).isSome=true)(h0 : -(2 ^ 63:Int)<=SetA.hF f)(h1:SetA.hF f<2 ^ 63)(h2:(SetA.hF f != -1)=true)(h:Q (SetA.hF f) (wt s (s.toks+1))) :
  y7 (y6 prog w) A (pyHash (.float f t)) Q E s:=by
 have hf:CU f=some (SetA.hF f):=by
  unfold SetA.hF
  cases hh:CU f with
  | none=>rw[hh] at hs;cases hs
  | some x=>rfl
 have hv:[BE f t].any Value.onHeap=false:=rfl
 refine y0 ?_
 rw[cRoomFor,if_neg (by rw[hv];exact zR)];refine y4 ?_
 refine y0 (BX (B7 s f t) FG.lookup ?_)
 refine aQ (by rw[beq_builtin_none];exact zR) (y0 (BX (B7 s f t) FG.lookup ?_))
 refine y0 (wpAny_callSpecialIfBoundUnlessNone?_slot (B7 s f t) FG
  (call_gives FG (B7 s f t) F.entry_float_hash (F.args_float_hash_1 _) (gZ hf) ?_))
 refine bW (by rw[decide_eq_true h0,decide_eq_true h1];rfl) ?_
 have h3:(SetA.hF f == -1)=false:=by simpa using h2
 rw[h3]
 exact y4 h
end
theorem lG.size{fs:List (UInt64×AQ)}{es:Array (Int×Value)}{t:AE}(I:lG fs es t):es.size=fs.length:=by
 have:=I.perm.length_eq
 rwa [ze,Bf] at this
theorem lG.okc{fs:List (UInt64×AQ)}{es:Array (Int×Value)}{t:AE}(I:lG fs es t):(t.place.size != es.size || decide (t.fill > t.mask))=false:=by
 have hfill:t.fill=fs.length:=by
  show t.place.size+t.dummies.size=_
  rw[I.tb.dm,I.sz,I.size];rfl
 have hm:t.mask=7\/t.mask=31:=by rw[I.mask];split<;> simp
 have hf:=I.few
 rw[I.sz,hfill,bne_self_eq_false,decide_eq_false (by rcases hm with h|h<;> rw[h]<;> lia)];rfl
section
variable{a:zh}{t:AE}{p:UInt64×AQ}
theorem vD{Q:BP}(I:lG fs es t)(ho:s.heap.get? a=some (iC es ep t))(hp:p.1∈shL)(h6:fs.length<=6)(hp0:p.2≠0)(hf0:∀ q∈fs,q.2≠0)(NB:B8 s.heap)
  (hQ:∀ h' fs' es' t' ep' b,BZ a s.heap h'->h'.get? a=some (iC es' ep' t')->lG fs' es' t'->(∀ q∈fs',q=p\/q∈fs)->(∀ x,x=p.1\/x∈fs.map (·.1)->x∈fs'.map (·.1))->fs'.length<=fs.length+1->t'.led=t.led->Q b (wh s h')) :
  y7 (y6 prog w) A (KE a (.float p.1 p.2) (SetA.hF p.1)) Q E s:=by
 obtain⟨k1,k2,k3,k4,k5⟩:=nk hp
 rcases n9 I hp with⟨j,i,next,u,hr,e',hq⟩|⟨q,q1,q2,q3⟩
 ·have hin:p.1∈fs.map (·.1):=zd.mpr ⟨_,hq,rfl⟩
  have hm:t.mask=7\/t.mask=31:=by rw[I.mask];split<;> simp
  refine jU ho I.okc (by unfold gaveWay;rcases hm with h|h<;> rw[h]<;> rfl) hr e' (λy hy=>?_) k5 NB (hf0 _ hq) hp0 ?_
  ·obtain⟨z,-,rfl⟩:=zd.mp (I.perm.mem_iff.mp hy)
   exact⟨_,_,rfl⟩
  ·refine hQ s.heap fs es t ep false (Km a s.heap) ho I (λq hq=>.inr hq) (λx hx=>?_) (C6 _) rfl
   rcases hx with rfl|hx
   ·exact hin
   ·exact hx
 ·obtain⟨es',t',h1,h2,h3⟩:=vE I h6 hp q1 q2 q3
  refine jV ho h1 k1 (by rw[I.size];exact zn h6 (by decide)) λh' ep' hs ho'=>(hQ h' (p::fs) es' t' ep' true hs ho' h2 (λq hq=>?_) (λx hx=>?_) (zk _) h3)
  ·rcases za.mp hq with h|h
   ·exact .inl h
   ·exact .inr h
  ·rcases hx with rfl|hx
   ·exact .head _
   ·exact aj hx
end
structure SetOf(ps fs:List (UInt64×AQ)):Prop where
 sub:∀ q∈fs,q∈ps
 all:∀ q∈ps,q.1∈fs.map (·.1)
 len:fs.length<=ps.length
section
variable{tabs:List zh}{l:LV}{T:LO}{n:Nat}{ps:List (UInt64×AQ)}
def nQ(ps:List (UInt64×AQ)):Prop:=ps.length<=7/\∀ p∈ps,p.1∈shL/\p.2≠0
theorem pF{R:Cm->zc->Prop}{ld:Bool}(G:Gd K tabs hb)(hh:A.handled=none)(hok:nQ ps)(hd:(d,ap (ps.map cP) n)∈T)
  (hR:∀ s' fs es ep tb,Kp s s'->lG fs es tb->SetOf ps fs->tb.led=ld->St hb tabs L l ((D,iC es ep tb)::T) s'.heap->R (.ok (.ret .none)) s') :
  ∀ (k i:Nat) (fs:List (UInt64×AQ)) (es:Array (Int×Value)) (ep:Nat) (tb:AE) (o:AR) (s₁:zc),ps.length - i=k->i<=ps.length->lG fs es tb->SetOf (ps.take i) fs->tb.led=ld->Kp s s₁->bY o d i->St hb tabs L l ((D,iC es ep tb)::(I,o)::T) s₁.heap ->
   zW (y6 prog w) A (.builtin "set.update.loop" ⟨[.ref D,.ref I],[]⟩) R s₁:=by
 intro k
 induction k with
 | zero =>
  intro i fs es ep tb o s₁ hk hi SI SO hl K ho S
  have hin:i=ps.length:=z94 hk hi
  subst hin
  rw[z4] at SO
  refine Ad EP ?_
  have ho':bY o d (ps.map cP).length:=by rw[ze];exact ho
  refine y0 (iV (vs:=ps.map cP) (T:=(D,iC es ep tb)::T) hh (S.perm (zP _ (zM (l₁:=[(I,o)]) (l₂:=T)))) ho' (aj hd) λh' S'=>?_)
  exact y4 (hR _ fs es ep tb ⟨K.os,K.gens⟩ SI SO hl S')
 | succ k ih =>
  intro i fs es ep tb o s₁ hk hi SI SO hl K ho S
  have hlt:i<ps.length:=z96 hk
  refine Ad EP ?_
  have hx:(ps.map cP)[i]? = some (cP ps[i]):=by simp[hlt]
  refine y0 (ij 1 S rfl ho (aj (aj hd)) hx λam dh di af=>?_)
  obtain⟨q1,q2⟩:=hok.2 ps[i] (Ac hlt)
  obtain⟨k1,k2,k3,k4,k5⟩:=nk q1
  have hlen:fs.length<=i:=by have:=SO.len;rw[Bh] at this;exact y63 this
  refine y0 (m:=Hd [cP ps[i]] (setAdd D (.float ps[i].1 ps[i].2))) (zs ?_)
  refine zs (y0 (fR k1 k2 k3 k4 ?_))
  refine vD SI (af.obj _ m0) q1 (by have:=hok.1;exact y64 hlt hlen this) q2 (λq hq=>(hok.2 q (AI (SO.sub q hq))).2) (af.nb G) λak fs3 es3 tb3 ep3 b c9 ho3 SI3 c1 c2 c3 ei=>?_
  have ae:=af.change (o':=iC es3 ep3 tb3) 0 rfl c9 ho3
  refine y4 ⟨Au JC _,?_⟩
  have ht:ps.take (i+1)=ps.take i++[ps[i]]:=List.take_succ_eq_append_getElem hlt
  refine ih (i+1) fs3 es3 ep3 tb3 dh _ (z9a hk) hlt SI3 ⟨λq hq=>?_,λq hq=>?_,?_⟩ (ei.trans hl) ⟨K.os,K.gens⟩ di ae
  ·rw[ht]
   rcases c1 q hq with rfl|h
   ·exact y5 _ (.head _)
   ·exact y8 _ (SO.sub q h)
  ·rw[ht] at hq
   rcases zf.mp hq with h|h
   ·exact c2 _ (.inr (SO.all q h))
   ·cases y9.mp h
    exact c2 _ (.inl rfl)
  ·have:=SO.len
   rw[ht,zO]
   exact zn c3 (C8 this)
theorem ia(a:Value){Q₁:VP}
  (h:Q₁ (.ref s.heap.objs.size) { s with heap:=s.heap.push { cls:=.type "set", dict:=none,data:=.set #[] 0 (.fresh 0 0 (!(w.params.followText "set-order"))) } }) :
  zW (y6 prog w) A (.call (.builtin "set.__new__") ⟨[.type "set", a],[]⟩) (NK Q₁ E) s:=by
 refine EY ?_
 show y7 _ A.in1 (do EF "set.__new__" ⟨[.type "set", a],[]⟩;again (.builtin "set.__new__" ⟨[.type "set", a],[]⟩)) _ _ s
 refine y0 (Ay (PySem.F.newCall_set_1 a) (y4 ⟨Au PySem.F.plain_set_new _,Ad PySem.F.entry_set_new ?_⟩))
 unfold Az.«set.__new__» MK
 have hsub:=PySem.sub_set_self
 obtain⟨hp,g,d,tk,os⟩:=s
 wp_walk
 refine B0 (y4 ?_)
 refine y0 (Lq (y4 ?_))
 exact y4 h
theorem xP{Q:VP}(G:Gd K tabs hb)(hh:A.handled=none)(S:St hb tabs L l T s.heap)(hm:(d,ap (ps.map cP) n)∈T)(hok:nQ ps)
  (h:∀ (s':zc) D fs es ep tb,Kp s s'->lG fs es tb->SetOf ps fs->(tb.led = !(w.params.followText "set-order"))->St hb tabs L l ((D,iC es ep tb)::T) s'.heap->Q (.ref D) s') :
  y7 (y6 prog w) A (call (.type "set") [.ref d]) Q E s:=by
 obtain⟨c,tl,hmro⟩:=Co.mro
 have hmade:=Co.made
 have hsub:=Co.sub
 refine BU (EY ?_)
 refine y4 ⟨JT _ (by decide +kernel),Ad PySem.F.entry_type_call ?_⟩
 rw[Around.under_plain (weight_type_call_type "set" [.ref d] []) rfl]
 have h1:=Co.notType
 have h2:=Co.canCreate
 have hct:=PySem.F.typeCall_set_1 (.ref d)
 repeat (any_goals (first|assumption|wp_step))
 refine Gr (ia (.ref d) (E:=E) (Q₁:=λobj s₁=>obj=.ref s.heap.objs.size/\s₁ = { s with heap:=s.heap.push { cls:=.type "set", dict:=none,data:=.set #[] 0 (.fresh 0 0 (!(w.params.followText "set-order"))) } }) ⟨rfl,rfl⟩) λr s₁ hr=>?_
 generalize hled:(!(w.params.followText "set-order"))=led at *
 cases r with
 | error e=>exact hr
 | ok fl =>
  cases fl with
  | ret obj =>
   obtain⟨rfl,rfl⟩:=hr
   have ah:=S.push (iC #[] 0 (.fresh 0 0 led))
   have hS:(s.heap.push { cls:=.type "set", dict:=none,data:=.set #[] 0 (.fresh 0 0 led) }).get? s.heap.objs.size=some { cls:=.type "set", dict:=none,data:=.set #[] 0 (.fresh 0 0 led) }:=zU _ rfl
   have hT:MQ { s with heap:=s.heap.push { cls:=.type "set", dict:=none,data:=.set #[] 0 (.fresh 0 0 led) } } (.ref s.heap.objs.size) "set" := ⟨_,hS,rfl⟩
   have hli:=Co.init.lookup
   have hbi:=Co.init.bind (.ref s.heap.objs.size)
   repeat (any_goals (first|assumption|wp_step))
   refine Gr (Cr (R:=NK (λr ag=>r=.none/\Q (.ref s.heap.objs.size) ag) E) Co.init.plain PySem.F.entry_set_init (PySem.check_set_init_1 hT ?_)) λbw ag bp=>?_
   ·have hl1:(s.heap.push { cls:=.type "set", dict:=none,data:=.set #[] 0 (.fresh 0 0 led) }).IsList d (ps.map cP).toArray:=⟨_,ah.obj _ (.tail (s.heap.objs.size,iC #[] 0 (.fresh 0 0 led)) hm),rfl,n,rfl⟩
    have hol':=ah.obj _ (.tail (s.heap.objs.size,iC #[] 0 (.fresh 0 0 led)) hm)
    have hsls:=PySem.F.sub_list_set
    have hslf:=PySem.F.sub_list_frozenset
    have hne:(An "list" == An "dict")=false:=by decide
    unfold Az.«set.__init__» noKeywords LZ
    generalize hPI:EM=PI
    wp_walk
    subst hPI
    refine Cb hl1 (y0 (G3 ?_))
    have af:=(ah.push (gW d 0)).perm (z8 _ _ _)
    refine pF (s:=s) (ld:=led) G (by simp[hh]) hok hm ?_ ps.length 0 [] #[] 0 (.fresh 0 0 led) (gW d 0) _ rfl (zD _) (sr _ _ _) ⟨zm _,zm _,zD _⟩ rfl ⟨rfl,id⟩ ⟨rfl,rfl⟩ af
    exact λs' fs es' ep' tb' K' SI' SO' hl' S'=>y4 (y4 ⟨rfl,h s' _ fs es' ep' tb' K' SI' SO' hl' S'⟩)
   ·cases bw with
    | error e=>exact bp
    | ok fw =>
     cases fw with
     | ret r =>
      obtain⟨rfl,hq⟩:=bp
      repeat (any_goals (first|assumption|wp_step))
     | _=>exact bp.elim
  | _=>exact hr.elim
end
end
section
open SetTable SetA
theorem bC:ND "set_iterator" "__next__" "set_iterator.__next__" :=
 .of (owner := "set_iterator") (n := "__next__") (by rw[Bj,Ae];kernel_rfl) (by decide +kernel) (by decide +kernel) (by decide +kernel)
  (by first|exact .inl (by decide +kernel)|exact .inr (by decide +kernel)) (by rw[Be];kernel_rfl)
theorem eL:ND "set_iterator" "__iter__" "set_iterator.__iter__" :=
 .of (owner := "set_iterator") (n := "__iter__") (by rw[Bj,Ae];kernel_rfl) (by decide +kernel) (by decide +kernel) (by decide +kernel)
  (by first|exact .inl (by decide +kernel)|exact .inr (by decide +kernel)) (by rw[Be];kernel_rfl)
theorem dZ:Dq Hg "set_iterator.__next__" = some Az.«set_iterator.__next__»:=B2 (by kernel_rfl)
theorem i5:Dq Hg "set_iterator.__iter__" = some Az.«dict_keyiterator.__iter__» :=
 GD (id' := "dict_keyiterator.__iter__") (by kernel_rfl) rfl (by decide +kernel) (by kernel_rfl)
theorem ju:Dq Hg "set.__iter__" = some Az.«frozenset.__iter__» :=
 GD (id' := "frozenset.__iter__") (by kernel_rfl) rfl (by decide +kernel) (by kernel_rfl)
theorem eR (a:Value):CM "set_iterator.__next__" ⟨[a],[]⟩:=by unfold CM;kernel_rfl
theorem jw (a:Value):CM "set_iterator.__iter__" ⟨[a],[]⟩:=by unfold CM;kernel_rfl
noncomputable abbrev nX (a i:Nat) (d:zh) (n ep:Nat):AR:={ cls:=.type "set_iterator", dict:=none,data:=.fields #[Cz a,Cz i,.ref d,Cz n,Cz ep] }
noncomputable def byT (w:As):Bool:=w.params.followText "set-order"
noncomputable def posN(t:AE):Nat->Nat
 | 0=>0
 | k+1=>t.place.getD k 0+1
noncomputable def lS(w:As)(t:AE)(i:Nat):Nat:=if byT w=true then 0 else posN t i
theorem jJ{α:Type}:∀ (l:List α) (i:Nat) (h:i<l.length),(l[i]::l.eraseIdx i).Perm l
 | a::l,0,h=>BI _
 | a::l,i+1,h=>by
  have hi:i<l.length:=H2 h
  exact (z8 _ _ _).trans (zP a (jJ l i hi))
noncomputable def oU(w:As)(d:zh)(ep:Nat)(es:Array (Int×Value)):Array (Int×Value):=if byT w=true then pickOrder (w.params.setOrder d ep) es else es
theorem rB{t:AE}(B:Tb t){i:Nat}(hi:i<=t.place.size):below t.place (posN t i)=i:=by
 cases i with
 | zero =>
  obtain⟨a,b,c⟩:=iu t.place 0 B.up
  rcases Nat.eq_zero_or_pos (below t.place 0) with h|h
  ·exact h
  ·exact absurd (b 0 h) (Bt _)
 | succ k =>
  obtain⟨a,b,c⟩:=iu t.place (t.place.getD k 0+1) B.up
  rcases Du (below t.place (t.place.getD k 0+1)) (k+1) with h|h|h
  ·have:=c k (zg7 h) hi
   exact y68 this
  ·exact h
  ·have h1:=b (k+1) h
   have h2:=B.up k (k+1) (Bi _) (zN h a)
   exact y6a h1 h2
theorem x6{α:Type}{next:Nat->Nat}{f k:Nat}{l:List α}{out:Array α}:pickOrder.go next (f+1) k l out=(match l[next k % l.length]? with|some x=>pickOrder.go next f (k+1) (l.eraseIdx (next k % l.length)) (out.push x)|none=>out):=rfl
theorem vX{α:Type}(next:Nat->Nat):∀ (f k:Nat) (l:List α) (out:Array α),l.length<=f->(pickOrder.go next f k l out).toList.Perm (out.toList++l):=by
 intro f
 induction f with
 | zero =>
  intro k l out h
  have:l=[]:=List.length_eq_zero_iff.mp (Lv.mp h)
  subst this
  rw[Aq]
  exact BI _
 | succ f ih =>
  intro k l out h
  rw[x6]
  cases l with
  | nil=>rw[Aq];exact BI _
  | cons x r =>
   have hlt:next k % (x::r).length<(x::r).length:=MH _ (Fx _)
   rw[zl hlt]
   refine (ih (k+1) _ _ (by rw[List.length_eraseIdx_of_lt hlt];simp only[zL] at h ⊢;exact CC h)).trans ?_
   rw[Array.toList_push,zx]
   exact Ed _ (jJ _ _ hlt)
theorem qj{α:Type}(next:Nat->Nat)(xs:Array α):(pickOrder next xs).toList.Perm xs.toList:=by
 have:=vX next xs.size 0 xs.toList #[] (by rw[Bf];exact zk _)
 exact this
theorem mW(w:As)(d:zh)(ep:Nat)(es:Array (Int×Value)):(oU w d ep es).toList.Perm es.toList:=by
 unfold oU
 split
 ·exact qj _ _
 ·exact BI _
theorem j9(w:As)(d:zh)(ep:Nat)(es:Array (Int×Value)):(oU w d ep es).size=es.size:=by
 have:=(mW w d ep es).length_eq
 rwa [Bf,Bf] at this
section
variable{t:AE}
structure rF(w:As)(d:zh)(fs:List (UInt64×AQ))(es:Array (Int×Value))(ep:Nat)(t:AE)(h:AJ):Prop where
 obj:h.get? d=some (iC es ep t)
 inv:lG fs es t
 led:t.led = !(byT w)
theorem iw{Q:BP}(h:Q (byT w) s):y7 (y6 prog w) A setsByText Q E s:=by
 exact y0 (B0 (y4 h))
theorem jx{Q:Option (Value×Nat)->zc->Prop}(X:rF w d fs es ep t s.heap)(hi:i<=es.size)(h:Q ((oU w d ep es)[i]?.map λe=>(e.2,lS w t (i+1))) s) :
  y7 (y6 prog w) A (setNext d (lS w t i) i ep) Q E s:=by
 refine y0 (aK X.obj X.inv.okc ?_)
 dsimp only
 refine y0 (iw ?_)
 cases hb:byT w with
 | true =>
  rw[if_pos rfl,if_neg (by rw[bne_self_eq_false];exact zR)]
  refine y0 (y0 (aK X.obj X.inv.okc ?_))
  dsimp only
  refine y0 (iw ?_)
  rw[hb,if_pos rfl]
  refine y0 (B0 (y4 ?_))
  refine y4 ?_
  unfold oU lS at h
  rw[hb,if_pos rfl] at h
  rw[if_pos rfl] at h
  unfold lS
  rw[hb,if_pos rfl]
  exact h
 | false =>
  refine aQ zR ?_
  have hpl:=X.inv.plain
  show y7 _ _ (if (!t.plain&&decide (es.size > 1))=true then _ else _) Q E s
  rw[hpl,HF,Jo,if_neg zR]
  have hld:=X.led
  rw[hb] at hld
  show y7 _ _ ((if (!t.led&&!es.isEmpty)=true then _ else AA ())>>=_) Q E s
  rw[hld,Bool.not_false,HF,Jo,if_neg zR]
  refine y0 (y4 ?_)
  unfold lS at h ⊢
  rw[hb,if_neg zR] at h
  rw[hb,if_neg zR]
  rw[rB X.inv.tb (by rw[X.inv.sz];exact hi)]
  unfold oU at h
  rw[hb,if_neg zR] at h
  rcases AP i es.size with hlt|hge
  ·have hlt':i<t.place.size:=by rw[X.inv.sz];exact hlt
   rw[zH hlt,zH hlt']
   rw[zH hlt] at h
   have e:t.place.getD i 0=t.place[i]:=by rw[zJ,zH hlt'];rfl
   have e2:posN t (i+1)=t.place[i]+1:=by show t.place.getD i 0+1=_;rw[e]
   rw[e2] at h
   exact y4 h
  ·rw[BG hge]
   rw[BG hge] at h
   exact y4 h
theorem lR{Q:VP}(X:rF w d fs es ep t s.heap)(h:Q (.ref s.heap.objs.size) (wh s (s.heap.push (nX 0 0 d es.size ep)))):y7 (y6 prog w) A (EM (.ref d)) Q E s:=by
 have hT:s.TypeIs (.ref d) "set" := ⟨_,X.obj,rfl⟩
 refine Hk hT IW (zX IW hT ju ?_ (PySem.F.args_set_iter_1 _))
 unfold Az.«frozenset.__iter__» M1 slotArgs
 simp only[KQ,HF,GO,↓reduceIte,bind_assoc,Ck,bne_self_eq_false]
 refine y0 (y4 ?_)
 try dsimp only
 refine y0 (y4 ?_)
 refine y0 (y0 (y0 (aK X.obj X.inv.okc (y4 (y4 ?_)))))
 refine y0 (y0 (aK X.obj X.inv.okc ?_))
 refine y0 (iw (y4 ?_))
 have hpl:=X.inv.plain
 show y7 _ _ (if (!(byT w)&&(!t.plain&&decide (es.size > 1)))=true then _ else _) _ _ s
 rw[hpl,HF,Jo,Jh,if_neg zR]
 refine y0 (y4 ?_)
 refine y0 (y0 (aK X.obj X.inv.okc (y4 ?_)))
 refine y0 (Af (y4 ⟨_,rfl, "set_iterator", _,⟨_,zU _ rfl,rfl⟩,bC.lookup,?_⟩))
 exact h
theorem pE{Q:Option Value->zc->Prop}(X:rF w d fs es ep t s.heap)(hit:s.heap.get? I=some (nX (lS w t i) i d es.size ep))(hi:i<es.size){x:Int×Value}(hx:(oU w d ep es)[i]? = some x)
  (h:∀ h',BZ I s.heap h'->h'.get? I=some (nX (lS w t (i+1)) (i+1) d es.size ep)->Q (some x.2) (wh s h')):y7 (y6 prog w) A (Di (.ref I)) Q E s:=by
 have hT:s.TypeIs (.ref I) "set_iterator" := ⟨_,hit,rfl⟩
 refine y0 (Dw (Ab (name:=yZ "__next__") hT bC
  (zX bC hT dZ ?_ (eR _))))
 refine y0 (y4 ?_)
 refine y0 (GV hit rfl ?_)
 refine y0 (y0 (aK X.obj X.inv.okc (y4 ?_)))
 refine aQ (by simp) (y0 (m:=setNext d (lS w t i) i ep) (jx X (Ak hi) ?_))
 rw[hx]
 refine y0 (m:=setField (.ref I) 0 (Cz (lS w t (i+1):Nat))) (DG hit rfl (by simp) ?_)
 have h1:=zt (MT (·.setIfInBounds 0 (Cz (lS w t (i+1):Nat)))) hit rfl
 refine y0 (DG h1 rfl (by simp) ?_)
 have h2:=zt (MT (·.setIfInBounds 1 (Cz ((i:Int)+1)))) h1 rfl
 refine y4 ⟨_,rfl,y4 ?_⟩
 exact h _ ((zw ..).trans (zw ..)) h2
theorem sn{Q:Option Value->zc->Prop}(hh:A.handled=none)(X:rF w d fs es ep t s.heap)(hit:s.heap.get? I=some (nX (lS w t es.size) es.size d es.size ep))
  (h:∀ h',He I s.heap h'->Q none (wh s h')):y7 (y6 prog w) A (Di (.ref I)) Q E s:=by
 have hT:s.TypeIs (.ref I) "set_iterator" := ⟨_,hit,rfl⟩
 refine y0 (Dw (Ab (name:=yZ "__next__") hT bC
  (zX bC hT dZ ?_ (eR _))))
 refine y0 (y4 ?_)
 refine y0 (GV hit rfl ?_)
 refine y0 (y0 (aK X.obj X.inv.okc (y4 ?_)))
 refine aQ (by simp) (y0 (m:=setNext d (lS w t es.size) es.size ep) (jx X (zk _) ?_))
 rw[BG (by rw[j9];exact zk _)]
 refine y0 (m:=setField (.ref I) 2 .none) (DG hit rfl (by simp) ?_)
 refine y0 (m:=NE (.type "StopIteration") []) (y0 (Af ?_ (by size_fits)))
 refine y0 (m:=De _ _) (Ay (a:=CO) (by first|rfl|(simp only[De];rfl)) ?_)
 refine Af ?_ (by size_fits)
 refine y0 (HA ?_)
 rw[show A.in1.handled=none from hh]
 refine y0 (y4 (I7 ?_))
 refine y0 (AO (T := "StopIteration") (b:=true) ⟨_,zU _ rfl,rfl⟩ GN ?_)
 exact y4 (h _ (((zw ..).extBut.push _).push _))
theorem pD{a b n:Nat}{Q:VP}(hit:s.heap.get? I=some (nX a b d n ep))(h:Q (.ref I) s):y7 (y6 prog w) A (EM (.ref I)) Q E s:=by
 have hT:s.TypeIs (.ref I) "set_iterator" := ⟨_,hit,rfl⟩
 refine Hk hT eL (zX eL hT i5 ?_ (jw _))
 refine y0 (y4 ?_)
 exact y4 ⟨_,rfl, "set_iterator", _,hT,bC.lookup,h⟩
theorem nW(hh:A.handled=none)(I d:zh)(hne:d≠I) :
  Walks prog w A I [I,d] [I] es.size (λi v=>∃ x,(oU w d ep es)[i]? = some x/\v=x.2) (λi h=>h.get? I=some (nX (lS w t i) i d es.size ep)/\rF w d fs es ep t h) where
 sub:=λb hb=>by simp at hb;simp[hb]
 frame:=λZ Z Z st hk=>⟨hk I (by simp) _ st.1,hk d (by simp) _ st.2.obj,st.2.inv,st.2.led⟩
 item:=λi s Q E hi st hQ=>by
  have hx:(oU w d ep es)[i]? = some ((oU w d ep es)[i]'(by rw[j9];exact hi)):=zH _
  exact pE st.2 st.1 hi hx λh' hs hit'=>(hQ _ h' s.toks ⟨_,hx,rfl⟩ ⟨hit',hs.extBut d _ hne st.2.obj,st.2.inv,st.2.led⟩ λb o hb e=>hs.extBut b o (λh=>hb (by simp[h])) e)
 done:=λs Q E st hQ=>sn hh st.2 st.1 λh' he'=>hQ h' s.toks λb o hb e=>he' b o (λh=>hb (by simp[h])) e
 self:=λZ Z Z Z st hQ=>pD st.1 hQ
theorem tv {Q:BP} (hT:s.TypeIs (.ref d) "set") (h:Q false s):y7 (y6 prog w) A (L6 (.ref d)) Q E s:=by
 refine y0 (BX hT PySem.F.slot_set_len.lookup ?_)
 generalize hid:("set.__len__" : String)=id0
 wp_delta
 subst hid
 refine y0 (AO (T := "set") (b:=true) hT (by rw[Be];kernel_rfl) ?_)
 refine E4 (λhab=>absurd hab (by decide)) (λZ=>?_)
 refine E4 (λZ=>?_) (λhab=>absurd (by decide +kernel) hab)
 refine y0 (Dr hT ?_)
 exact y4 h
theorem sk (X0:lG fs es t) (hl:t.led = !(byT w)):KdlSrc prog w "set" d d es.size (λi v=>∃ x,(oU w d ep es)[i]? = some x/\v=x.2) (λh=>h.get? d=some (iC es ep t)) where
 type:=λZ hm=>⟨_,hm,rfl⟩
 there:=λZ hm=>⟨AL hm,AL hm⟩
 keep:=λZ Z hm hk=>hk d (.inl rfl) _ hm
 notList:=by decide
 notTuple:=by decide
 hint:=λZ Z Z Z hm hq=>tv ⟨_,hm,rfl⟩ hq
 iter:=λZ s hh hm=>⟨_,_,(λZ Z hq=>lR ⟨hm,X0,hl⟩ hq),nW (fs:=fs) (t:=t) hh _ d (Ag (AL hm)),
  ⟨(by
   have e:lS w t 0=0:=by unfold lS;split<;> rfl
   rw[e]
   exact zU _ rfl),zC _ hm,X0,hl⟩⟩
theorem lJ{n r:Nat}{T:String}{P:Nat->Value->Prop}{OK:AJ->Prop}{R:LP}(K:KdlSrc prog w T r d n P OK)(hh:A.handled=none)(hok:OK s.heap)(hn:n<=DY)
  (h:∀ (h':AJ) (tk:Nat) (acc:Array Value),(∀ b o,s.heap.get? b=some o->h'.get? b=some o)->ItemsOf P acc n->R acc.toList (wht s h' tk)) :
  y7 (y6 prog w) A (collect (.ref r)) R E s:=by
 obtain⟨hr,hd⟩:=K.there _ hok
 refine y0 (G3 (Ad entry_proto_collect' ?_))
 refine y0 (Af ?_)
 refine y4 ⟨Au HT _,Ad entry_list_iadd' ?_⟩
 have hS1:(s.heap.push { cls:=.type "list", data:=.seq ([]:List Value).toArray }).get? s.heap.objs.size=some { cls:=.type "list", data:=.seq #[] }:=zU _ rfl
 have key:=kdl_extend (A:=A) (s:={ s with heap:=s.heap.push { cls:=.type "list", data:=.seq ([]:List Value).toArray } })
  (R:=λ(q:Cm) (s':zc)=>∃ (h':AJ) (tk:Nat) (acc':Array Value) (c':Nat),q=.ok (.ret (.ref s.heap.objs.size))/\s'=wht s h' tk /\
   (∀ b o,s.heap.get? b=some o->h'.get? b=some o)/\h'.get? s.heap.objs.size=some { cls:=.type "list", dict:=none,data:=.seq acc' c',slots:=#[] }/\ItemsOf P acc' n)
  K hh (K.keep _ _ hok λb Z o e=>zC _ e) s.heap.objs.size (Ci hr) (Ci hd) (.ref s.heap.objs.size) 0 hS1
  (λh' tk acc' c' hk hS' hG=>⟨h',tk,acc',c',rfl,rfl,λb o e=>hk b o (Ag (AL e)) (zC _ e),hS',hG⟩) hn
 refine zi key (λfin s' x=>?_) λe s' x=>?_
 ·cases fin with
  | done f =>
   obtain⟨h',tk,acc',c',e,rfl,hk,hS',hG⟩:=x
   cases e
   refine y0 (m:=load s.heap.objs.size) (Dv hS' ?_)
   exact y4 (h h' tk acc' hk hG)
  | again g8 =>
   refine⟨x.1,Gr x.2 λq ag y=>?_⟩
   obtain⟨h',tk,acc',c',rfl,rfl,hk,hS',hG⟩:=y
   refine y0 (m:=load s.heap.objs.size) (Dv hS' ?_)
   exact y4 (h h' tk acc' hk hG)
 ·obtain⟨_,_,_,_,e',_⟩:=x
  cases e'
end
end
section
open PySem.Spec
theorem pa (a:Value):CM "sorted" ⟨[a],[]⟩:=by unfold CM;kernel_rfl
theorem sd{rkv:Value->Nat}{vs:List Value}{p:Array Nat}(hp:Pm vs.length p)(hs:aS (λi=>rkv (vs.getD i .none)) p vs.length) :
  (p.toList.map λi=>vs.getD i .none).Perm vs/\(p.toList.map λi=>vs.getD i .none).Pairwise (λa b=>rkv a<=rkv b):=by
 refine⟨perm_of hp,?_⟩
 rw[EK]
 intro i j hi hj hij
 rw[ze,Bf] at hi hj
 have h:=hs i j (Ak hij) (by rw[<- hp.size];exact hj)
 unfold Rk at h
 rw[DH,DH,Ey,Ey]
 have e1:p.getD i 0=p[i]:=by simp[GJ,hi]
 have e2:p.getD j 0=p[j]:=by simp[GJ,hj]
 rw[e1,e2] at h
 exact h
section
variable{tabs:List zh}{l:LV}{T:LO}{t:AE}
theorem wS{f g:UInt64}{t u:AQ}{Q:BP}(h:Q (zZ f g==some Ordering.lt) s):y7 (y6 prog w) A (I4 Mm (.float f t) (.float g u)) Q E s:=by
 exact iQ h
theorem vN{ps:List (UInt64×AQ)}{Q:VP}{n:Nat}(rkF:UInt64->Nat)(S:St hb tabs L l ((d,ap (ps.map cP) n)::T) s.heap)(h64:ps.length<64)
  (hrk:∀ p∈ps,∀ q∈ps,(zZ p.1 q.1==some Ordering.lt)=decide (rkF p.1<rkF q.1))
  (k:∀ s' n' (P:List (UInt64×AQ)),Kp s s'->P.Perm ps->P.Pairwise (λa b=>rkF a.1<=rkF b.1)->St hb tabs L l ((d,ap (P.map cP) n')::T) s'.heap->Q .none s') :
  y7 (y6 prog w) A (call (.builtin "list.sort") [.ref d]) Q E s:=by
 have hlen:(ps.map cP).length=ps.length:=ze _
 have mem:∀ i,i<(ps.map cP).length->∃ p∈ps,(ps.map cP).getD i .none=cP p:=λi hi=>by
  have hi':i<ps.length:=by rw[<- hlen];exact hi
  exact⟨ps[i],Ac _,by rw[Bl,zE,zl hi'];rfl⟩
 by_cases h2:2<=ps.length
 ·refine pQ (pre:=[]) (post:=T) (Tt:=.type "float") (H:=True) (rk:=λi=>(λv=>match v with|.float f _=>rkF f|_=>0) ((ps.map cP).getD i .none)) S (by rw[hlen];exact h2) (by rw[hlen];exact h64) (λh' Z v hv=>?_) rfl (by kernel_rfl) (λs' e1 K' S' i j hi hj C hC=>?_) λs' n' p K' hpm hso S'=>?_
  ·obtain⟨p,-,rfl⟩:=zd.mp hv
   exact .now
  ·obtain⟨p,hp,e1⟩:=mem i hi
   obtain⟨q,hq,e2⟩:=mem j hj
   rw[e1,e2]
   refine wS (hC _ s'.toks λZ=>?_)
   rw[hrk p hp q hq,e1,e2]
  ·obtain⟨a,b⟩:=sd (rkv:=λv=>match v with|.float f _=>rkF f|_=>0) hpm (hso trivial)
   obtain⟨P,hP,hperm⟩:=bO _ a
   rw[hP,AX] at b
   refine k s' n' P K' hperm b ?_
   rw[<- hP]
   exact S'
 ·refine iI 0 S rfl (by rw[hlen];exact z0d h2) λh' n' S'=>(k (wh s h') n' ps ⟨rfl,id⟩ (BI _) ?_ S')
  exact mT h2
theorem lO {Q:VP} (rkF:UInt64->Nat) (hh:A.handled=none) (S:St hb tabs L l T s.heap) (hm:(d,iC es ep t)∈T) (SI:lG fs es t) (hl:t.led = !(w.params.followText "set-order"))
  (hrk:∀ p∈fs,∀ q∈fs,(zZ p.1 q.1==some Ordering.lt)=decide (rkF p.1<rkF q.1))
  (k:∀ s' D n' (P:List (UInt64×AQ)),Kp s s'->P.Perm fs->P.Pairwise (λa b=>rkF a.1<=rkF b.1)->St hb tabs L l ((D,ap (P.map cP) n')::T) s'.heap->Q (.ref D) s') :
  y7 (y6 prog w) A (call (.builtin "sorted") [.ref d] []) Q E s:=by
 refine Ij kind_sorted plain_sorted entry_sorted (pa _) (y0 (m:=Mr "sorted" 1 1 _) (y4 ?_))
 have h7:=SI.few
 have hsz:=SI.size
 refine y0 (lJ (sk (d:=d) (ep:=ep) SI hl) hh (S.obj _ hm) (by rw[zz,hsz];exact up 16777209 h7) λh' tk acc hk hacc=>?_)
 have ah:=S.grown hk
 have hacc':acc.toList=(oU w d ep es).toList.map (·.2):=by
  apply Cx
  intro i
  rw[zE,IX,IX]
  rcases AP i acc.size with hi|hi
  ·obtain⟨x,hx,e⟩:=hacc.2 i acc[i] (zH hi)
   rw[hx,zH hi,e];rfl
  ·rw[BG hi,BG (by rw[j9,<- hacc.1];exact hi)];rfl
 have hp:acc.toList.Perm (fs.map cP):=by
  rw[hacc']
  have:=((mW w d ep es).trans SI.perm).map (·.2)
  rw[CR] at this
  exact this
 obtain⟨P0,hP0,hperm⟩:=bO _ hp
 rw[hP0]
 have hl0:P0.length=fs.length:=hperm.length_eq
 refine y0 (EU ?_ (by rw[zz,ze];exact y6d h7 hl0))
 have ae:=ah.push (ap (P0.map cP) 0)
 refine y0 (zs ?_)
 exact vN rkF ae (y2q h7 hl0) (λp hp q hq=>hrk p (hperm.mem_iff.mp hp) q (hperm.mem_iff.mp hq)) λs' n' P K' hP hw S'=>(y4 ⟨_,rfl,k s' _ n' P ⟨K'.os,K'.gens⟩ (hP.trans hperm) hw S'⟩)
end
end
section
open PySem.Spec PySem.SeqAt
noncomputable abbrev yD(Es:List Sc):List (UInt64×AQ):=Es.map λe=>(e.f,e.ft)
structure Shr(Es:List Sc)(P:List (UInt64×AQ)):Prop where
 shl:∀ q∈P,q.1∈shL
 sub:∀ q∈P,∃ e∈Es,e.f=q.1
 pos:P≠[]
 len:P.length<=7
section
variable{sc:zh}{T:LO}{n c:Nat}{tm:AQ}{xs:List WX}{x:WX}{ow:AR}{l:LV}{Es:List Sc}{d2:Hu}
noncomputable abbrev lv5 (D:zh) (m:Nat) (tm:AQ) (pd dw sc:zh):LV:=(yZ "scored", .ref D)::lv4 m tm pd dw sc
theorem law_f(G:GK w hb)(hd:A.depth+60<zj)(hu:A.units+200<AB)(hh:A.handled=none)(hg:A.guards=some [])(hS:Scd w T x xs Es)(hT:kK Es)(h1:1<=xs.length)(h6:xs.length<=7)(hshl:∀ e∈Es,e.f∈shL)
  (hcw:(L'+1,ow)∈T) (how:ow.data=.cell (some x.v)) (hD:(D,ap (aB Es) c)∈T) (r1:Rd T x.v d1 2 200) (r2:Rd T (.ref pd) d2 2 200) (S:St hb tabs L' (lv5 D m tm pd dw sc) T s.heap) {Q:FP}
  (k:∀ (s':zc) (X:LO) (F:zh) (cf:Nat) (t:AQ) (P:List (UInt64×AQ)),Kp s s'->Shr Es P ->
   St hb tabs L' ((yZ "shares", .ref F)::(yZ "before", .str (Hr [d1,d2]).shown t)::lv5 D m tm pd dw sc) ((F,ap (P.map cP) cf)::(X++T)) s'.heap->y7 (y6 pw w) A (z5 (iY.drop 6) (evL w L')) Q E s') :
  y7 (y6 pw w) A (z5 (iY.drop 5) (evL w L')) Q E s:=by
 have hlen:Es.length=xs.length:=by
  have:=hS.perm.length_eq
  rwa [ze] at this
 refine eM [yZ "shares", yZ "before"] (args_cons (oN (env:=evL w L') G S eB (args_cons (uW (env:=evL w L') G S (id := "set") (by kernel_rfl) (args_cons (cM (hb:=hb) (tabs:=tabs) (cl:=[]) (env:=evL w L') hh ?_ (.inr ⟨_,_,_,rfl⟩) rfl (by decide) rfl (by decide)))))))
 refine ay (env:=evL w L') S m0 ⟨L',_,T,D,aB Es,c,λi acc X=>X=[]/\acc=(yD (Es.take i)).map cP,⟨rfl,S,hD,by rw[aJ];exact y30 h6 hlen,⟨rfl,rfl⟩,?_⟩,?_⟩
 ·rintro C' D' oL' E' i v acc c' X own ag hi hacc ⟨rfl,hJ⟩ bp ao af
  have hv:∃ e,Es[i]? = some e/\v=.ref e.a:=by
   rw[aB,zE] at hi
   obtain⟨e,h1,h2⟩:=z0.mp hi
   exact⟨e,h1,h2.symm⟩
  obtain⟨e,he,rfl⟩:=hv
  refine cH hh af (y8 _ (aj (aj (hS.ok e (zp he)).1))) (λak ae=>ib (env:=At _ [] C' _) ae (.new (by kernel_rfl)) (λau S4=>ib (env:=At _ [] C' _) S4 (.new (by kernel_rfl)) (λax S5=>cD (DZ (ay (env:=At _ [] C' _) S5 m1 ⟨[],_,⟨ao.os,ao.gens⟩,S5,rfl,?_⟩)))))
  rw[hJ,Am,he]
  simp[yD]
 ·rintro ag bd acc c' X ao af f9 ⟨rfl,rfl⟩
  rw[aJ,z4] at af
  refine zq (xP (ps:=yD Es) G hh af m0 ⟨by rw[ze];exact le_of_eq_of_le hlen h6,λp hp=>?_⟩ ?_)
  ·obtain⟨e,he,rfl⟩:=zd.mp hp
   exact⟨hshl e he,(hT e he).1⟩
  refine λs3 D3 fs es ep tb aw I O hled ae=>zq (lO UInt64.toNat hh ae m0 I hled ?_ ?_)
  ·intro p hp q hq
   rw[nI (I.shl p hp) (I.shl q hq)]
   rcases Du p.1.toNat q.1.toNat with h|h|h
   ·rw[Fz.mpr h,decide_eq_true h];rfl
   ·rw[FA.mpr h,decide_eq_false (by exact z20 h)];rfl
   ·rw[Hq.mpr h,decide_eq_false (Nat.not_lt_of_gt h)];rfl
  refine λs4 F cf P K4 hP hw S4=>args_cons (oN (env:=evL w L') G S4 boot_repr (args_cons (bF (args_cons (bI (env:=evL w L') (c:=L'+1) S4 (aj (aj (aj hcw))) how (aln (env:=evL w L') S4 m2 ⟨rfl,_,_,_,_,_,by exact S4,?_⟩))))))
  refine λD5 ax S5=>zq (uG r1 r2 S5 (λp hp=>aj (aj (aj hp))) hg (dn 190 hu) ?_)
  refine λs6 t K6 S6=>zq ⟨rfl,rfl,hh,_,_,_,_,_,S6,?_⟩
  refine λba S7=>mA (aT (env:=evL w L') S7 (.new (by kernel_rfl)) ?_)
  refine λbc S8=>mA (aT (env:=evL w L') S8 (.new (by kernel_rfl)) ?_)
  refine λbf S9=>eQ ?_
  have hPm:∀ q∈P,q∈yD Es:=λq hq=>O.sub q (hP.mem_iff.mp hq)
  refine k _ ((D5,ap [x.v,.ref pd] 0)::[(D3,iC es ep tb),(bd,ap ((yD Es).map cP) c')]) F cf t P ⟨K6.os.trans (K4.os.trans (aw.os.trans ao.os)),λq=>K6.gens (K4.gens (aw.gens (ao.gens q)))⟩ ⟨λq hq=>I.shl q (hP.mem_iff.mp hq),λq hq=>?_,?_,?_⟩ ?_
  ·obtain⟨e,he,h⟩:=zd.mp (hPm q hq)
   exact⟨e,he,by rw[<- h]⟩
  ·intro h
   rw[h] at hP
   have h0:=hP.symm.eq_nil
   have h1:0<Es.length:=hlen▸h1
   have:=O.all _ (zd.mpr ⟨Es[0],Ac h1,rfl⟩)
   rw[h0] at this
   cases this
  ·rw[hP.length_eq];exact I.few
  ·exact S9.perm (z8 _ _ _)
end
theorem v8:(4607182418800017408:UInt64)∈shL:=by decide +kernel
section
variable{sc:zh}{T X:LO}{n c:Nat}{tm tb:AQ}{Es:List Sc}{P:List (UInt64×AQ)}
noncomputable abbrev lv7 (F:zh) (txt:zK) (tb:AQ) (D:zh) (m:Nat) (tm:AQ) (pd dw sc:zh):LV:=(yZ "shares", .ref F)::(yZ "before", .str txt tb)::lv5 D m tm pd dw sc
theorem law_g(G:GK w hb)(hh:A.handled=none)(H:Scr hb sc scv)(hP:Shr Es P)(hF:(F,ap (P.map cP) cf)∈X)(hoh:oh.data=.cell none)(hoa:oa.data=.cell none)
  (S:St hb tabs L' (lv7 F txt tb D m tm pd dw sc) (X++(L'+3,oa)::(L'+2,oh)::T) s.heap) {Q:FP}
  (k:∀ (s':zc) (oa' oh':AR) (Da:zh) (f g:UInt64) (tf tg:AQ) (vs:List Value) (na:Nat) (X':LO),Kp s s'->oh'.data=.cell (some (.float f tf))->oa'.data=.cell (some (.ref Da))->f∈shL->g∈shL->(∃ e∈Es,e.f=f)->vs.length<=900 ->
   St hb tabs L' (lv7 F txt tb D m tm pd dw sc) ((L'+3,oa')::(L'+2,oh')::(Da,ap (.float g tg::vs) na)::(X'++(X++T))) s'.heap->y7 (y6 pw w) A (z5 (iY.drop 8) (evL w L')) Q E s') :
  y7 (y6 pw w) A (z5 (iY.drop 6) (evL w L')) Q E s:=by
 have S0:St hb tabs L' (lv7 F txt tb D m tm pd dw sc) ((L'+3,oa)::(L'+2,oh)::(X++T)) s.heap:=S.perm (zv.trans (zP _ zv))
 have hFm:∀ {a b:zh×AR},(F,ap (P.map cP) cf)∈a::b::(X++T):=aj (aj (y8 _ hF))
 have hp0:0<P.length:=Gm.mpr hP.pos
 have hp7:=hP.len
 have hP':(P.map cP).length=P.length:=ze ..
 refine aC (gU Bg (ay (env:=evL w L') S0 m0 (wpAny_BinOp (oN (env:=evL w L') G S0 B5 (aln (env:=evL w L') S0 m6 (Ce (items:=scv.toArray) (H.isList S0) (by have:=H.small;rw[zg];lia) (oN (env:=evL w L') G S0 B5 ?_)))))))
 refine aln (env:=evL w L') S0 m0 (Ce (items:=(P.map cP).toArray) ⟨_,S0.obj _ hFm,rfl,cf,rfl⟩ (by rw[zg];lia) (iS (m:=P.length) hp0 (by rw[zg,hP']) ?_))
 refine λi hi=>⟨⟨_,S0.obj _ hFm,rfl⟩,?_⟩
 refine gL (k:=i) (x:=cP P[i]) S0 hFm (y30 hp7 hP') (by rw[zE,zl hi];rfl) ?_
 refine gw (env:=evL w L') (x:=yZ "here") (c:=L'+2) 1 S0 rfl hoh ?_
 intro ai oh' hoh' ah
 have ah:St hb tabs L' (lv7 F txt tb D m tm pd dw sc) ((L'+3,oa)::(L'+2,oh')::(X++T)) ai:=ah
 refine aC (wpAny_BinOp (cM (hb:=hb) (tabs:=tabs) (cl:=[(yZ "here", L'+2)]) (env:=evL w L') hh ?_ (.inl ⟨_,_,rfl⟩) rfl (by decide) rfl (by decide)))
 refine ay (env:=evL w L') ah m0 ⟨L',_,_,F,P.map cP,cf,λi acc X=>∃ B:List (UInt64×AQ),X=[]/\acc=B.map cP/\B.length<=i/\∀ q∈B,q∈P,⟨rfl,by exact ah,hFm,by exact y30 hp7 hP',⟨[],rfl,rfl,zk _,λq hq=>by cases hq⟩,?_⟩,?_⟩
 ·rintro C' D' oL' E' j v acc c' X2 own ag hj hacc ⟨B,rfl,rfl,hBj,hB⟩ bp ao af
  rw[zE] at hj
  obtain⟨q,hq,rfl⟩:=z0.mp hj
  refine rD (env:=At _ _ C' _) af (.new (by kernel_rfl)) (λak ae=>LU (wpAny_isTrue_Compare1 (ay (env:=At _ _ C' _) ae m0 (bI (env:=At _ _ C' _) (c:=L'+2) ae (y8 _ m3) hoh' (Hp (zb ?_))))))
  cases hc:(zZ q.1 P[i].1==some Ordering.gt) with
  | true =>
   refine ay (env:=At _ _ C' _) ae m0 ⟨[],_,⟨ao.os,ao.gens⟩,ae,B++[q],rfl,by rw[zG];rfl,by rw[zO];exact C8 hBj,λz hz=>?_⟩
   rcases zf.mp hz with h|h
   ·exact hB z h
   ·rw[y9] at h;subst h;exact zp hq
  | false=>exact⟨[],_,⟨ao.os,ao.gens⟩,ae,B,rfl,rfl,Eg hBj,hB⟩
 ·rintro ag Db acc c' X2 ao af f9 ⟨B,rfl,rfl,hBj,hB⟩
  refine bF (args_cons (Br (zq ⟨rfl,_,_,_,_,_,by exact af,?_⟩)))
  refine λD3 ak ae=>pZ ae m1 m0 (by rw[ze];simp only[zL,Ck];exact y36 hp7 hP' hBj) ?_
  intro Da au S4
  have S5:St hb tabs L' (lv7 F txt tb D m tm pd dw sc) ((L'+3,oa)::(L'+2,oh')::(Da,ap (B.map cP++[.float 4607182418800017408 ag.toks]) 0)::([(D3,ap [.float 4607182418800017408 ag.toks] 0),(Db,ap (B.map cP) c')]++(X++T))) au:=(show St hb tabs L' (lv7 F txt tb D m tm pd dw sc) ([(Da,ap (B.map cP++[.float 4607182418800017408 ag.toks]) 0),(D3,ap [.float 4607182418800017408 ag.toks] 0),(Db,ap (B.map cP) c')]++(L'+3,oa)::(L'+2,oh')::(X++T)) au from S4).perm (zv.trans (zP _ zv))
  refine gw (env:=evL w L') (x:=yZ "above") (c:=L'+3) 0 S5 rfl hoa ?_
  intro az oa' hoa' S6
  obtain⟨g,tg,vs,e,hg,hv⟩:∃ g tg vs,B.map cP++[.float 4607182418800017408 ag.toks]=.float g tg::vs/\g∈shL/\vs.length<=900:=by
   cases B with
   | nil=>exact⟨_,_,[],rfl,v8,zD _⟩
   | cons q r =>
    refine⟨q.1,q.2,_,rfl,hP.shl q (hB q (.head _)),?_⟩
    show (r.map cP++[BE 4607182418800017408 ag.toks]).length<=900
    rw[zO,ze]
    exact y37 hp7 hP' hBj
  have S7:St hb tabs L' (lv7 F txt tb D m tm pd dw sc) ((L'+3,oa')::(L'+2,oh')::(Da,ap (B.map cP++[.float 4607182418800017408 ag.toks]) 0)::([(D3,ap [.float 4607182418800017408 ag.toks] 0),(Db,ap (B.map cP) c')]++(X++T))) az:=S6
  rw[e] at S7
  exact k _ oa' oh' Da P[i].1 g P[i].2 tg vs 0 _ ⟨ao.os,ao.gens⟩ hoh' hoa' (hP.shl _ (Ac hi)) hg (hP.sub _ (Ac hi)) hv S7
end
theorem rO:((0:UInt64)∈shL/\shL.all λc=>(zZ 0 c==some Ordering.lt || zZ 0 c==some Ordering.eq)&&(zZ c 4607182418800017408==some Ordering.lt || zZ c 4607182418800017408==some Ordering.eq)):=by decide +kernel
theorem ml(w:As){c:UInt64}(hc:c∈shL)(t:AQ):ut w (.float c t) (geF c):=by
 have h:=zF.mp rO.2 c hc
 obtain⟨h1,h2⟩:=zr.mp h
 exact⟨λhq=>NO hq,λhq=>FE (by rw[h1];exact hq),λhq=>FE (by rw[h2];exact hq)⟩
theorem lv:(CB 0 0==some Ordering.lt || CB 0 0==some Ordering.eq)=true/\(CB 4607182418800017408 0==some Ordering.gt || CB 4607182418800017408 0==some Ordering.eq)=true:=by decide +kernel
theorem cutI1(w:As)(t:AQ):ut w (.int 0 t) geI :=
 ⟨λhq=>NJ hq,λhq=>Ng (by rw[lv.1];exact hq),λhq=>Nh (by rw[lv.2];exact hq)⟩
section
variable{sc:zh}{T:LO}{n c:Nat}{tm tb:AQ}{ow:AR}{Es:List Sc}{xs:List WX}{x:WX}{l:LV}
noncomputable abbrev bodyQ:List Cv:=aD ((iY[8]?).getD AF)
theorem xu{p0:Ej}{Q:FP}(G:GK w hb)(B:BM hb)(hd:A.depth+70<zj)(hu:A.units+310<AB)(hh:A.handled=none)(C:ut w cut g)(W:Ws w hb T x xs)(hg:∀ y∈xs,jr g y.c x.c=g (scr y.c x.c))
  (hcw:(L'+1,ow)∈T) (how:ow.data=.cell (some x.v)) (hpd:(pd,ap (xs.map WX.v) np)∈T) (hD:(D,ap (aB Es) c)∈T) (H:Scd w T x xs Es) (hm:0<m) (hm4:m<=4)
  (hl:∃ l',bU l (yZ "cutoff") cut l'/\l'=(yZ "cutoff", cut)::lv7 F txt tb D m tm pd dw sc)
  (S:St hb tabs L' l T s.heap) (k:∀ s' X,Kp s s'->St hb tabs L' ((yZ "cutoff", cut)::lv7 F txt tb D m tm pd dw sc) (X++T) s'.heap->Q .next s') :
  y7 (y6 pw w) A (BR (.Name (yZ "cutoff") p0) (evL w L') cut) (oD (y6 pw w) A (evL w L') E bodyQ Q) E s:=by
 obtain⟨l',hst,rfl⟩:=hl
 refine rD (env:=evL w L') S hst (λai ah=>lQ (isTrue_not (B3 (uX (env:=evL w L') G ah (v:=.ref 326) (by kernel_rfl) (args_cons (bI (env:=evL w L') (c:=L'+1) ah hcw how (al (env:=evL w L') ah m5 (al (env:=evL w L') ah m3 ?_))))))))
 refine al (env:=evL w L') ah m4 (aln (env:=evL w L') ah m0 ⟨⟨_,_,_,by exact ah⟩,?_⟩)
 refine xg G B ah (dn 10 hd) (dn 10 hu) hh C W hg hpd hD H hm (zn hm4 (by decide)) (λag X ao af=>zb ⟨λe=>(by cases e),λZ=>?_⟩)
 exact aE (aE (k ag X ⟨ao.os,ao.gens⟩ af))
end
theorem Scd.mono{w:As}{T T':LO}{wd:WX}{rw:List WX}{Es:List Sc}(H:Scd w T wd rw Es)(h:∀ p∈T,p∈T'):Scd w T' wd rw Es :=
 ⟨λe he=>⟨h _ (H.ok e he).1,(H.ok e he).2.mono h⟩,H.perm,H.f,H.falls⟩
section
variable{sc:zh}{T:LO}{n c:Nat}{tm tb:AQ}{ow:AR}{Es:List Sc}{xs:List WX}{x:WX}{l:LV}{f g:UInt64}{vs:List Value}
theorem law_h{Q:FP}(G:GK w hb)(B:BM hb)(hd:A.depth+70<zj)(hu:A.units+320<AB)(hh:A.handled=none)(W:Ws w hb T x xs)(hf:f∈shL)(hg:g∈shL)
  (hcw:(L'+1,ow)∈T) (how:ow.data=.cell (some x.v)) (hch:(L'+2,oh)∈T) (hoh:oh.data=.cell (some (.float f tf))) (hca:(L'+3,oa)∈T) (hoa:oa.data=.cell (some (.ref Da))) (hDa:(Da,ap (.float g tg::vs) na)∈T) (hvs:vs.length<=900)
  (hpd:(pd,ap (xs.map WX.v) np)∈T) (hD:(D,ap (aB Es) c)∈T) (H:Scd w T x xs Es) (hm:0<m) (hm4:m<=4)
  (S:St hb tabs L' (lv7 F txt tb D m tm pd dw sc) T s.heap)
  (k:∀ s' X cut,Kp s s'->St hb tabs L' ((yZ "cutoff", cut)::lv7 F txt tb D m tm pd dw sc) (X++T) s'.heap->y7 (y6 pw w) A (z5 (iY.drop 9) (evL w L')) Q E s') :
  y7 (y6 pw w) A (z5 (iY.drop 8) (evL w L')) Q E s:=by
 refine eY (bF (args_cons (wpAny_Constant_int (args_cons (bI (env:=evL w L') (c:=L'+2) S hch hoh (args_cons (gU Bg ?_)))))))
 refine bI (env:=evL w L') (c:=L'+3) S hca hoa (wpAny_Constant_int ⟨⟨_,S.obj _ hDa,rfl⟩,?_⟩)
 refine gu S hDa hvs (zq ⟨rfl,_,_,_,_,_,by exact S,?_⟩)
 refine λd3 ak ae=>Cb (items:=Gu _) ⟨_,ae.obj _ m0,rfl,0,rfl⟩ ?_
 have S4:=ae.push (gW d3 0)
 obtain⟨t0,I,hI,S5⟩:∃ t0 I,I=ak.objs.size/\St hb tabs L' (lv7 F txt tb D m tm pd dw sc) ((I,gW d3 0)::([]++(d3,ap [.int 0 t0,.float f tf,.float g tg] 0)::T)) (ak.push (gW d3 0)):=⟨_,_,rfl,S4⟩
 clear S4 ae
 rw[<- hI]
 have hwl:=W.wlen
 have hC:∀ cut∈[Cc 0 t0,.float f tf,.float g tg],∃ g,ut w cut g/\∀ y∈xs,jr g y.c x.c=g (scr y.c x.c):=by
  intro cut hc
  rcases za.mp hc with rfl|hc
  ·exact⟨geI,cutI1 w t0,λy hy=>by rw[sS (W.rlen y hy) hwl,kr (gH (W.rlen y hy) hwl)]⟩
  rcases za.mp hc with rfl|hc
  ·exact⟨geF f,ml w hf tf,λy hy=>l3 (W.rlen y hy) hwl hf⟩
  rw[y9] at hc;subst hc
  exact⟨geF g,ml w hg tg,λy hy=>l3 (W.rlen y hy) hwl hg⟩
 let HH:Nat->zc->Prop:=λi s₁=>∃ o l X,bY o d3 i/\Kp s s₁/\(l=lv7 F txt tb D m tm pd dw sc/\i=0\/∃ v,l=(yZ "cutoff", v)::lv7 F txt tb D m tm pd dw sc)/\St hb tabs L' l ((I,o)::(X++(d3,ap [.int 0 t0,.float f tf,.float g tg] 0)::T)) s₁.heap
 refine l9 (vs:=[.int 0 t0,.float f tf,.float g tg]) (d:=d3) HH hh ?_ ?_
 ·exact⟨_,_,[],⟨rfl,rfl⟩,⟨rfl,id⟩,.inl ⟨rfl,rfl⟩,S5⟩
 rintro i s₁ ⟨o,l,X,hat,ar,hl,ah⟩ hi
 refine⟨hb,tabs,L',l,X++(d3,ap [.int 0 t0,.float f tf,.float g tg] 0)::T,o,0,ah,hat,y5 _ (.head _),λhlt h' o' ho' S' E=>?_,λhfin h' S'=>?_⟩
 ·obtain⟨gg,C,hkg⟩:=hC _ (Ac hlt)
  have hT:∀ p∈T,p∈(I,o')::(X++(d3,ap [.int 0 t0,.float f tf,.float g tg] 0)::T):=λp hp=>aj (y5 _ (aj hp))
  generalize [Cc 0 t0,.float f tf,.float g tg][i]=cut at *
  refine xu (s:=wh s₁ h') (txt:=txt) (tb:=tb) (tm:=tm) (dw:=dw) (sc:=sc) (F:=F) G B hd (dn 10 hu) hh C (W.mono hT) hkg (hT _ hcw) how (hT _ hpd) (hT _ hD) (H.mono hT) hm hm4 ?_ S' ?_
  ·rcases hl with⟨rfl,-⟩|⟨v,rfl⟩
   ·exact⟨_,.new (by kernel_rfl),rfl⟩
   ·exact⟨_,.old .here,rfl⟩
  ·refine λag X2 ao af=>⟨o',(yZ "cutoff", cut)::lv7 F txt tb D m tm pd dw sc,X2++X,ho',(kt ar ao),.inr ⟨_,rfl⟩,?_⟩
   rw[zx]
   exact af.perm zv
 ·rcases hl with⟨-,e⟩|⟨v,rfl⟩
  ·rw[e] at hfin;cases hfin
  ·refine k _ (X++[(d3,ap [.int 0 t0,.float f tf,.float g tg] 0)]) v ⟨ar.os,ar.gens⟩ ?_
   rw[zx]
   exact S'
end
theorem yz{a b:Prop}(h:b):if (false:Bool)=true then a else b:=h
theorem if_t{a b:Prop}(h:a):if (true:Bool)=true then a else b:=h
theorem ud{Es:List Sc}{f g:UInt64}(hf:f∈shL)(hg:g∈shL)(hs:∀ e∈Es,e.f∈shL)(he:∃ e∈Es,e.f=f)(hgt:(zZ g f==some Ordering.gt)=true):(aL (geF g) Es).length<(aL (geF f) Es).length:=by
 have hlt:f.toNat<g.toNat:=by
  rw[nI hg hf] at hgt
  rcases Du g.toNat f.toNat with h|h|h
  ·rw[Fz.mpr h] at hgt;nomatch hgt
  ·rw[FA.mpr h] at hgt;nomatch hgt
  ·exact h
 have h0:∀ {l:List Sc},(∀ e∈l,e.f∈shL)->(aL (geF g) l).length<=(aL (geF f) l).length:=λ{l} hs=>by
  rw[ze,ze]
  have e:(l.filter λe=>geF g e.f)=(l.filter λe=>geF f e.f).filter λe=>geF g e.f:=by
   rw[List.filter_filter]
   refine Fp λe he=>?_
   rw[dY hg (hs e he),dY hf (hs e he)]
   by_cases q:g.toNat<=e.f.toNat
   ·rw[decide_eq_true q,decide_eq_true (by exact zg6 hlt q)];rfl
   ·rw[decide_eq_false q];rfl
  rw[e]
  exact BO _ _
 obtain⟨e,he,rfl⟩:=he
 obtain⟨l₁,l₂,rfl⟩:=GZ he
 have h1:=h0 λe he=>hs e (y8 _ he)
 have h2:=h0 λe he=>hs e (y5 _ (aj he))
 have e1:geF e.f e.f=true:=by rw[dY hf hf,decide_eq_true (zk _)]
 have e2:geF g e.f=false:=by rw[dY hg hf,decide_eq_false (by exact ze4 hlt)]
 unfold aL at *
 rw[ze] at h1 h2 ⊢
 rw[ze] at h1 h2 ⊢
 rw[Bx,Bx,HQ (by rw[e2];exact zR),HR (by exact e1),zO,zO,zL]
 exact y15 h1 h2
section
variable{sc:zh}{T:LO}{n c:Nat}{tm tb:AQ}{ow:AR}{Es:List Sc}{xs:List WX}{x:WX}{l:LV}{f g:UInt64}{vs:List Value}
theorem kF{env:II}{L:zh}{cond:Expr}{gg:UInt64->Bool}{cl:List (zK×zh)}{scope:DB}{p1 p2 p3 p:Ej}{kx:Nat}(hh:A.handled=none)(H:Scd w T x xs Es)(h12:Es.length<=12)(hD:(D,ap (aB Es) c)∈T)(S:St hb tabs L l T s.heap)
  (hc:∀ (C:zh) (e:Sc) (s5:zc) (Tt:LO) (Q:BP) (E:VP),(∀ q∈T,q∈Tt)->St hb tabs C (nmSO e) Tt s5.heap->(∀ s6,Kp s5 s6->St hb tabs C (nmSO e) Tt s6.heap->Q (gg e.f) s6)->y7 (y6 pw w) A (isTrue cond (At scope cl C env) (Ax cond (At scope cl C env))) Q E s5)
  (h1:∀ C,oz (At scope cl C env).scope ((At scope cl C env).kindOf (yZ "share")) (yZ "share")=true) (h2:∀ C,oz (At scope cl C env).scope ((At scope cl C env).kindOf (yZ "one")) (yZ "one")=true) :
  srcF pw w A hb tabs (.Tuple [.Name (yZ "share") p1,.Name (yZ "one") p2] kx p) (.Name (yZ "one") p3) [cond] scope cl env L l T D (aB Es) c (λi acc X=>X=[]/\acc=(aL gg (Es.take i)).map WX.v) (.ref D) s:=by
 refine⟨rfl,S,hD,by rw[aJ];exact up 988 h12,⟨rfl,rfl⟩,?_⟩
 rintro C' D oL' E' i v acc c X own ag hi hacc ⟨rfl,hJ⟩ bp ao af
 have hv:∃ e,Es[i]? = some e/\v=.ref e.a:=by
  rw[aB,zE] at hi
  obtain⟨e,h1,h2⟩:=z0.mp hi
  exact⟨e,h1,h2.symm⟩
 obtain⟨e,he,rfl⟩:=hv
 have hst:aL gg (Es.take (i+1))=aL gg (Es.take i)++if gg e.f then [e.x] else []:=by
  unfold aL
  rw[Am,he,Bx,zG]
  cases h:gg e.f<;> simp[h]
 refine mG (b:=gg e.f) e hh af (H.ok e (zp he)).1 rfl ao (hc C' e) (λhb'=>⟨rfl,?_⟩) (λhb'=>⟨rfl,?_⟩) (h1 _) (h2 _)
 ·rw[hst,if_pos hb',hJ,zG];rfl
 ·rw[hst,if_neg (by rw[hb'];exact zR),hJ,Aq]
theorem kG{gg:UInt64->Bool}{acc:List Value}{X:LO}(h:X=[]/\acc=(aL gg (Es.take (aB Es).length)).map WX.v):X=[]/\acc=(aL gg Es).map WX.v:=by
 rwa [aJ,z4] at h
end
section
variable{sc:zh}{T:LO}{n c:Nat}{tm tb:AQ}{ow:AR}{Es:List Sc}{xs:List WX}{x:WX}{l:LV}{f g:UInt64}{vs:List Value}
theorem law_i{Q:FP}(G:GK w hb)(hu:A.units+100<AB)(hh:A.handled=none)(W:Ws w hb T x xs)(hf:f∈shL)(hg:g∈shL)
  (hch:(L'+2,oh)∈T) (hoh:oh.data=.cell (some (.float f tf))) (hca:(L'+3,oa)∈T) (hoa:oa.data=.cell (some (.ref Da))) (hDa:(Da,ap (.float g tg::vs) na)∈T) (hvs:vs.length<=900)
  (hD:(D,ap (aB Es) c)∈T) (H:Scd w T x xs Es) (h12:Es.length<=12) (he:∃ e∈Es,e.f=f) (hshl:∀ e∈Es,e.f∈shL)
  (S:St hb tabs L' ((yZ "cutoff", cut)::lv7 F txt tb D m tm pd dw sc) T s.heap)
  (k:∀ s' X Bd,Kp s s'->St hb tabs L' ((yZ "best", .ref Bd)::(yZ "cutoff", cut)::lv7 F txt tb D m tm pd dw sc) (X++T) s'.heap->y7 (y6 pw w) A (z5 (iY.drop 11) (evL w L')) Q E s') :
  y7 (y6 pw w) A (z5 (iY.drop 9) (evL w L')) Q E s:=by
 have hbl:∀ {gg:UInt64->Bool},(aL gg Es).length<=12:=λ{gg}=>by
  rw[ze]
  exact zn (BO _ _) h12
 refine iM (hb:=hb) (tabs:=tabs) (cl:=[(yZ "here", L'+2)]) (env:=evL w L') (l':=λD'=>(yZ "best", .ref D')::(yZ "cutoff", cut)::lv7 F txt tb D m tm pd dw sc) hh ?_ rfl rfl (.inr ⟨_,_,_,rfl⟩) rfl (by decide) rfl (by decide)
 refine ay (env:=evL w L') S m3 ⟨_,_,_,_,_,_,kF (gg:=geF f) hh H h12 hD S ?_ (λZ=>by kernel_rfl) (λZ=>by kernel_rfl),λD'=>.new (by kernel_rfl),?_⟩
 ·exact λC e s5 Tt Q E hTt S5 hQ=>wpAny_isTrue_Compare1 (ay (env:=At _ _ C _) S5 m1 (bI (env:=At _ _ C _) (c:=L'+2) S5 (hTt _ hch) hoh ((ml w hf tf).ge (zb (hQ _ Kp.refl S5)))))
 intro s₁ Bd acc cb X1 ar ah g9 hJ1
 obtain⟨rfl,rfl⟩:=kG hJ1
 have af:St hb tabs L' ((yZ "best", .ref Bd)::(yZ "cutoff", cut)::lv7 F txt tb D m tm pd dw sc) ((Bd,ap ((aL (geF f) Es).map WX.v) cb)::T) s₁.heap:=ah
 refine lQ (isTrue_or (wpAny_isTrue_Compare1 (ay (env:=evL w L') af m0 (bF (zq ⟨rfl,_,_,_,_,_,by exact af,?_⟩)))))
 intro D3 ak ae
 have hbm:=(H.best (g:=geF f)).2.2
 have hb1:1<=(aL (geF f) Es).length:=by
  obtain⟨e,he,rfl⟩:=he
  refine Ib (a:=e.x) (zd.mpr ⟨e,BC.mpr ⟨he,?_⟩,rfl⟩)
  rw[dY hf hf,decide_eq_true (zk _)]
 have hbl1:=hbl (gg:=geF f)
 refine fX (xs:=aL (geF f) Es) (ys:=[]) ⟨_,ae.obj _ m1,rfl,cb,rfl⟩ ⟨_,ae.obj _ m0,rfl,0,rfl⟩ (dn 99 hu) (λy hy=>((W.hrs y (hbm y hy)).mono λp hp=>aj (aj hp)).wh ae) (zm _) (λy hy z hz=>by cases hz) ?_
 rw[decide_eq_false (show ¬ cW (aL (geF f) Es)=cW [] by
  intro e
  have e:=congrArg CE e
  rw[ze] at e
  rw[e] at hb1
  cases hb1)]
 refine zb (yz ?_)
 refine isTrue_or (Mk (wpAny_isTrue_Compare1 (gU Bg (bI (env:=evL w L') (c:=L'+3) ae (aj (aj hca)) hoa (wpAny_Constant_int ⟨⟨_,ae.obj _ (aj (aj hDa)),rfl⟩,?_⟩)))))
 refine gu ae (aj (aj hDa)) hvs (bI (env:=evL w L') (c:=L'+2) ae (aj (aj hch)) hoh (Hp ?_))
 cases hgt:(zZ g f==some Ordering.gt) with
 | false =>
  refine zb (yz (yz (isTrue_or_nil ⟨λe=>(by cases e),λZ=>?_⟩)))
  exact aE (k _ [(D3,ap [] 0),(Bd,ap ((aL (geF f) Es).map WX.v) cb)] Bd ⟨ar.os,ar.gens⟩ ae)
 | true =>
  refine zb (if_t ?_)
  refine Mk (wpAny_isTrue_Compare1 (oN (env:=evL w L') G ae B5 (args_cons (cM (hb:=hb) (tabs:=tabs) (cl:=[(yZ "above", L'+3)]) (env:=evL w L') hh ?_ (.inr ⟨_,_,_,rfl⟩) rfl (by decide) rfl (by decide)))))
  refine ay (env:=evL w L') ae m4 ⟨_,_,_,_,_,_,_,kF (gg:=geF g) hh (H.mono λp hp=>aj (aj hp)) h12 (aj (aj hD)) ae ?_ (λZ=>by kernel_rfl) (λZ=>by kernel_rfl),?_⟩
  ·refine λC e s5 Tt Q E hTt S5 hQ=>wpAny_isTrue_Compare1 (ay (env:=At _ _ C _) S5 m1 (gU Bg (bI (env:=At _ _ C _) (c:=L'+3) S5 (hTt _ (aj (aj hca))) hoa (wpAny_Constant_int ⟨⟨_,S5.obj _ (hTt _ (aj (aj hDa))),rfl⟩,?_⟩))))
   exact gu S5 (hTt _ (aj (aj hDa))) hvs ((ml w hg tg).ge (zb (hQ _ ⟨rfl,id⟩ S5)))
  intro s4 Cd acc cc X4 K4 S4 el hJ4
  obtain⟨rfl,rfl⟩:=kG hJ4
  have hbl2:=hbl (gg:=geF g)
  refine zq (Ce (items:=((aL (geF g) Es).map WX.v).toArray) ⟨_,S4.obj _ m0,rfl,cc,rfl⟩ (by rw[zg,ze];lia) (oN (env:=evL w L') G S4 B5 (aln (env:=evL w L') S4 m0 (Ce (items:=((aL (geF f) Es).map WX.v).toArray) ⟨_,S4.obj _ m2,rfl,cb,rfl⟩ (by rw[zg,ze];lia) ?_))))
  rw[zg,zg,ze (as:=aL (geF g) Es) WX.v,ze (as:=aL (geF f) Es) WX.v]
  refine L4 ?_
  have:=ud hf hg hshl he hgt
  rw[decide_eq_false (show ¬ ((aL (geF f) Es).length:Int)<=((aL (geF g) Es).length:Int) by exact y18 this)]
  refine zb (yz (yz (isTrue_or_nil ⟨λe=>(by cases e),λZ=>?_⟩)))
  exact aE (k _ [(Cd,ap ((aL (geF g) Es).map WX.v) cc),(D3,ap [] 0),(Bd,ap ((aL (geF f) Es).map WX.v) cb)] Bd ⟨K4.os.trans ar.os,λq=>K4.gens (ar.gens q)⟩ S4)
end
theorem s06:(4603579539098121011:UInt64)∈shL:=by decide +kernel
section
variable{sc:zh}{T:LO}{n c:Nat}{tm tb:AQ}{ow:AR}{Es:List Sc}{xs:List WX}{x:WX}{l:LV}{f g:UInt64}{vs:List Value}
noncomputable abbrev lv9 (Bd:zh) (cut:Value) (F:zh) (txt:zK) (tb:AQ) (D:zh) (m:Nat) (tm:AQ) (pd dw sc:zh):LV:=(yZ "best", .ref Bd)::(yZ "cutoff", cut)::lv7 F txt tb D m tm pd dw sc
theorem law_j{Bd:zh}{Q:FP}(G:GK w hb)(B:BM hb)(hd:A.depth+70<zj)(hu:A.units+320<AB)(hh:A.handled=none)(W:Ws w hb T x xs)(hcw:(L'+1,ow)∈T)(how:ow.data=.cell (some x.v))
  (hpd:(pd,ap (xs.map WX.v) np)∈T) (hD:(D,ap (aB Es) c)∈T) (H:Scd w T x xs Es) (h12:Es.length<=12)
  (S:St hb tabs L' (lv9 Bd cut F txt tb D m tm pd dw sc) T s.heap)
  (k:∀ s' X,Kp s s'->St hb tabs L' (lv9 Bd cut F txt tb D m tm pd dw sc) (X++T) s'.heap->y7 (y6 pw w) A (z5 (iY.drop 12) (evL w L')) Q E s') :
  y7 (y6 pw w) A (z5 (iY.drop 11) (evL w L')) Q E s:=by
 have hwl:=W.wlen
 have hcnt:=W.cnt
 refine dB (uX (env:=evL w L') G S (v:=.ref 286) (by kernel_rfl) (args_cons (bI (env:=evL w L') (c:=L'+1) S hcw how (args_cons (uW (env:=evL w L') G S (id := "tuple") (by kernel_rfl) (aln (env:=evL w L') S m6 (call_tuple_list (items:=(xs.map WX.v).toArray) ⟨_,S.obj _ hpd,rfl,np,rfl⟩ (λai b6=>?_) (by rw[zz,zg,ze];exact ul 16777204 hcnt))))))))
 have ah:=(S.grown b6).push (aG (xs.map WX.v))
 have dk:∀ p∈T,p∈(ai.objs.size,aG (xs.map WX.v))::T:=λp hp=>aj hp
 refine zq ⟨⟨_,_,_,by exact ah⟩,?_⟩
 refine tF (n:=3) (tn:=_) (g:=geF 4603579539098121011) (cut:=.float 4603579539098121011 _) G B ah (dn 30 hd) (dn 120 hu) hh (ml w s06 _) (W.mono dk) (BB (o:=uJ w.params) rfl (St.kin ah G 281 _ (by kernel_rfl)) rfl rfl rfl)
  pG (λp hp=>by rw[y9] at hp;subst hp;exact .head _) (by decide) (λy hy=>l3 (W.rlen y hy) hwl s06) ?_
 intro ag X2 bw nr2 P ao af hP hf2
 have c5:∀ p∈T,p∈(bw,ap ((P.take 3).map WX.v) nr2)::(X2++(ai.objs.size,aG (xs.map WX.v))::T):=λp hp=>aj (y5 _ (aj hp))
 refine gE (hb:=hb) (tabs:=tabs) (cM (hb:=hb) (tabs:=tabs) (cl:=[]) (env:=evL w L') hh ?_ (.inr ⟨_,_,_,rfl⟩) rfl (by decide) rfl (by decide))
 refine ay (env:=evL w L') af m4 ⟨_,_,_,_,_,_,_,kF (gg:=geF 4603579539098121011) hh (H.mono c5) h12 (c5 _ hD) af ?_ (λZ=>by kernel_rfl) (λZ=>by kernel_rfl),?_⟩
 ·exact λC e s5 Tt Q E hTt S5 hQ=>wpAny_isTrue_Compare1 (ay (env:=At _ _ C _) S5 m1 (Br ((ml w s06 _).ge (zb (hQ _ ⟨rfl,id⟩ S5)))))
 intro s3 Cd acc cc X3 aw ae ei hJ3
 obtain⟨rfl,rfl⟩:=kG hJ3
 have hbl:(aL (geF 4603579539098121011) Es).length<=12:=by
  rw[ze]
  exact zn (BO _ _) h12
 refine wpAny_Constant_int ⟨L',_,_,Cd,(aL (geF 4603579539098121011) Es).map WX.v,cc,3,_,rfl,rfl,by exact ae,m0,by rw[ze (as:=aL (geF 4603579539098121011) Es) WX.v];exact up 988 hbl,?_⟩
 intro D4 X4 au S4
 rw[<- Cg] at S4
 obtain⟨hBp,hBf,hBm⟩:=H.best (g:=geF 4603579539098121011)
 have hF:∀ y∈xs.filter (λy=>geF 4603579539098121011 (scr y.c x.c)),y∈xs:=λy hy=>(BC.mp hy).1
 have d0:=gI W hP hBp hF hf2 hBf
 have hPm:∀ y∈P,y∈xs:=λy hy=>hF y (hP.mem_iff.mp hy)
 have hT4:∀ p∈T,p∈(D4,ap ((FS 3 (aL (geF 4603579539098121011) Es)).map WX.v) 0)::(X4++(Cd,ap ((aL (geF 4603579539098121011) Es).map WX.v) cc)::([]++(bw,ap ((P.take 3).map WX.v) nr2)::(X2++(ai.objs.size,aG (xs.map WX.v))::T))):=λp hp=>aj (y5 _ (aj (c5 p hp)))
 have hWH:∀ y∈xs,WH au y:=λy hy=>((W.hrs y hy).mono hT4).wh S4
 refine pR (xs:=P.take 3) (ys:=(aL (geF 4603579539098121011) Es).take 3) ⟨_,S4.obj (bw,_) (aj (y5 _ (aj (.head _)))),rfl,nr2,rfl⟩ ⟨_,S4.obj _ m0,rfl,0,rfl⟩ (dn 319 hu)
  (λy hy=>hWH y (hPm y (AI hy))) (λy hy=>hWH y (hBm y (AI hy))) (λy hy z hz=>(W.kind y (hPm y (AI hy))).trans (W.kind z (hBm z (AI hz))).symm) ?_
 rw[decide_eq_true (show cW (P.take 3)=cW ((aL (geF 4603579539098121011) Es).take 3) by show (P.take 3).map WX.c=((aL (geF 4603579539098121011) Es).take 3).map WX.c;rw[Cg,Cg];exact congrArg (FS 3) d0)]
 refine zb ⟨λe=>(by cases e),λZ=>?_⟩
 refine aE (k _ ((D4,ap ((FS 3 (aL (geF 4603579539098121011) Es)).map WX.v) 0)::(X4++(Cd,ap ((aL (geF 4603579539098121011) Es).map WX.v) cc)::(bw,ap ((P.take 3).map WX.v) nr2)::(X2++[(ai.objs.size,aG (xs.map WX.v))]))) ⟨aw.os.trans ao.os,λq=>aw.gens (ao.gens q)⟩ ?_)
 simp only[Bu,zx,Dm]
 exact S4
end
section
variable{sc:zh}{T:LO}{n c:Nat}{tm tb:AQ}{ow:AR}{Es:List Sc}{xs:List WX}{x:WX}{l:LV}{f g:UInt64}{vs:List Value}{d2:Hu}
theorem law_k{Bd:zh}{Q:FP}(G:GK w hb)(B:BM hb)(h0:hb.get? 316=some (Fe #[]))(hd:A.depth+70<zj)(hu:A.units+320<AB)(hh:A.handled=none)(hg:A.guards=some [])(hfr:A.frames=some [evL w L'])
  (W:Ws w hb T x xs) (hcw:(L'+1,ow)∈T) (how:ow.data=.cell (some x.v)) (r1:Rd T x.v d1 2 200) (r2:Rd T (.ref pd) d2 2 200)
  (S:St hb tabs L' (lv9 Bd cut F (Hr [d1,d2]).shown tb D m tm pd dw sc) T s.heap)
  (k:∀ s' X ps,Kp s s'->C7 ps.toList->St (hbR hb ps) tabs L' (lv9 Bd cut F (Hr [d1,d2]).shown tb D m tm pd dw sc) (X++T) s'.heap->Q (.ret (.bool true)) s') :
  y7 (y6 pw w) A (z5 (iY.drop 12) (evL w L')) Q E s:=by
 refine cO (MF (wpAny_Compare1 (uX (env:=evL w L') G S (v:=.ref 286) (by kernel_rfl) (args_cons (bI (env:=evL w L') (c:=L'+1) S hcw how (args_cons (bF ?_)))))))
 refine zq ⟨rfl,_,_,_,_,_,by exact S,?_⟩
 refine λD1 ai ah=>zq ⟨⟨_,_,_,by exact ah⟩,?_⟩
 refine tF (rw:=[]) (n:=3) (tn:=_) (g:=geF 4603579539098121011) (cut:=.float 4603579539098121011 _) G B ah (dn 30 hd) (dn 120 hu) hh (ml w s06 _) ((W.mono λp hp=>aj hp).sub (rw':=[]) (zm _) (by decide)) (BB (o:=uJ w.params) rfl (St.kin ah G 281 _ (by kernel_rfl)) rfl rfl rfl)
  (gG (n:=0)) (λp hp=>by rw[y9] at hp;subst hp;exact .head _) (by decide) (zm _) ?_
 intro ag X2 bw nr2 P ao af hP hf2
 have hP:P=[]:=hP.eq_nil
 subst hP
 refine bF (zq ⟨rfl,_,_,_,_,_,by exact af,?_⟩)
 refine λD3 ak ae=>fX (xs:=[]) (ys:=[]) ⟨_,ae.obj _ m1,rfl,nr2,rfl⟩ ⟨_,ae.obj _ m0,rfl,0,rfl⟩ (dn 319 hu) (zm _) (zm _) (zm _) (zb (if_t ?_))
 refine MF (uX (env:=evL w L') G ae (v:=.ref 321) (by kernel_rfl) (args_cons (bI (env:=evL w L') (c:=L'+1) ae (aj (aj (y5 _ (aj hcw)))) how (aln (env:=evL w L') ae m6 ⟨⟨_,_,_,by exact ae⟩,?_⟩))))
 refine nZ G B h0 ae (dn 10 hd) (dn 120 hu) hh hfr rfl (λe=>Bo e) (λs4 ps K4 hps S4=>zb (if_t ?_))
 refine BoolOp_one (wpAny_Compare1 (oN (env:=evL w L') (G.reb (ps:=ps) (by kernel_rfl)) S4 boot_repr (args_cons (bF (args_cons (bI (env:=evL w L') (c:=L'+1) S4 (aj (aj (y5 _ (aj hcw)))) how (aln (env:=evL w L') S4 m6 ?_)))))))
 refine⟨rfl,_,_,_,_,_,S4,?_⟩
 refine λD5 ax S5=>zq (uG r1 r2 S5 (λp hp=>aj (aj (y5 _ (aj hp)))) hg (dn 310 hu) ?_)
 refine λs6 t K6 S6=>ay (env:=evL w L') S6 m3 (ME ?_)
 rw[beq_self_eq_true]
 have S7:St (hbR hb ps) tabs L' (lv9 Bd cut F (Hr [d1,d2]).shown tb D m tm pd dw sc) (((D5,ap [x.v,.ref pd] 0)::(D3,ap [] 0)::(bw,ap [] nr2)::(X2++[(D1,ap [] 0)]))++T) s6.heap:=by
  simp only[Bu,zx,Dm]
  exact S6
 exact k _ _ ps ⟨K6.os.trans (K4.os.trans ao.os),λq=>K6.gens (K4.gens (ao.gens q))⟩ hps S7
end
section
variable{tabs:List zh}{lb:LV}
theorem xc{R:Cm->zc->Prop}{oc:Value}{od:Option zh}{osl:Array (Option Value)}{args:M5}{binds:LV}{body:List Cv}{cs:zh->List (zK×zh)}{cm:zK->Option Value}{n:Nat}
  (G:Gd K tabs s.heap) (htab:∀ t∈tabs,∃ ps,s.heap.get? t=some (Em ps)/\C7 ps.toList) (ho:K.lookup fa=some ⟨oc,od,.func fd,osl⟩) (hroom:A.depth<zj) (hn:n<=s.toks)
  (hbind:Fn s fd args binds)
  (h:∀ L' s₁ (obs:zh->AR),(∀ p∈cs L',(obs p.2).data=.cell (cm p.1))->Kp s s₁->n<=s₁.toks->St s.heap tabs L' lb ((cs L').map (λp=>(p.2,obs p.2))) s₁.heap ->
   y7 (y6 prog w) (A.deeper (zB fd L' fa)) (z5 body (zB fd L' fa)) (kFn R)
    (kLv (y6 prog w) (A.deeper (zB fd L' fa)) (zB fd L' fa) R) s₁)
  (hcs:∀ L':zh,Eb (L'+1) fd.scope.names []=cs L') (hlk:∀ L':zh,∀ p∈cs L',(cs L').lookup p.1=some p.2/\L'<p.2)
  (hbL:∀ L':zh,∀ p∈lb,bindL (zB fd L' fa).kindOf binds (λZ=>none) p.1=some p.2) (hbC:∀ L':zh,∀ p∈cs L',Nv (zB fd L' fa).kindOf binds (λZ=>none) p.1=cm p.1)
  (hkind:∀ L':zh,∀ x∈binds,fd.scope.names.lookup x.1=some .local\/(fd.scope.names.lookup x.1=some .cell/\((cs L').lookup x.1).isSome=true)) (hnd:(lb.map (·.1)).Nodup)
  (hclo:fd.closure=[]:=by kernel_rfl)
  (hcd:∀ hh:AJ,K.In hh->hh.CodeRec fd.code fd.qualname:=by exact crO (by kernel_rfl))
  (hbody:fd.body=.stmts body:=by kernel_rfl)
  (hco:fd.scope.isCoroutine=false:=by kernel_rfl) (hgen:fd.scope.isGenerator=false:=by kernel_rfl) (hk:fd.scope.kind=.function:=by kernel_rfl) :
  zW (y6 prog w) A (.call (.ref fa) args) R s:=by
 refine FK hroom (G.k _ _ ho) rfl hco hgen hbody (hcd _ G.k) ?_
 rw[hclo]
 refine hbind _ _ _ _ (AH hn (Ew hk (λx hx=>?_) λenv he s' x=>?_))
 ·rcases hkind s.heap.objs.size x hx with q|⟨q,e⟩
  ·exact .inl q
  ·exact .inr ⟨q,by rw[hcs];exact e⟩
 subst he
 refine λhn'=>⟨G.lim.keeps x.toInCall.keep,Kt ?_⟩
 have hcell:∀ p∈cs s.heap.objs.size,∃ ob,s'.heap.get? p.2=some ob/\ob.data=.cell (cm p.1):=λp hp=>by
  obtain⟨ob,e1,e2⟩:=x.cell p.1 p.2 (by
   show (Eb (s.heap.objs.size+1) fd.scope.names []).lookup p.1=_
   rw[hcs];exact (hlk _ p hp).1)
  have e3:Nv (Nb fd.scope s.heap.objs.size fd.globals (Eb (s.heap.objs.size+1) fd.scope.names []) (fd.qualname ++ ".<locals>.") (some fa) fd.code none fd.builtins).kindOf binds (λZ=>none) p.1=cm p.1:=hbC _ p hp
  rw[e3] at e2
  exact⟨ob,e1,e2⟩
 have hfm:Fm s'.heap s.heap.objs.size lb:=Fm.of_ns x.toInCall.ns (λp hp=>hbL s.heap.objs.size p hp) hnd
 obtain⟨hh,tk,hsame⟩:=x.toInCall.same
 have K':Kp s s':=by rw[hsame];exact⟨rfl,id⟩
 have hap:((cs s.heap.objs.size).map (·.2)).Nodup:=by
  have:=x.apart
  rw[show (Nb fd.scope s.heap.objs.size fd.globals (Eb (s.heap.objs.size+1) fd.scope.names []) (fd.qualname ++ ".<locals>.") (some fa) fd.code none fd.builtins).cells=cs s.heap.objs.size from hcs _] at this
  exact AX.mpr this
 refine h s.heap.objs.size s' (λa=>(s'.heap.get? a).getD AF) (λp hp=>?_) K' hn' ⟨hfm,zk _,λb o e Z=>x.toInCall.keep b o e,λt ht=>?_,λp hp=>?_,λp hp=>?_,?_⟩
 ·obtain⟨ob,e1,e2⟩:=hcell p hp
  rw[e1];exact e2
 ·obtain⟨ps,e,ok⟩:=htab t ht
  exact⟨ps,#[],e,by rw[JY];exact x.toInCall.keep _ _ e,by rw[JY];exact ok⟩
 ·obtain⟨q,hq,rfl⟩:=zd.mp hp
  obtain⟨ob,e1,e2⟩:=hcell q hq
  show s'.heap.get? q.2=some ((s'.heap.get? q.2).getD AF)
  rw[e1];rfl
 ·obtain⟨q,hq,rfl⟩:=zd.mp hp
  exact Ak (hlk _ q hq).2
 ·have big:∀ a∈((cs s.heap.objs.size).map (λp=>(p.2,(s'.heap.get? p.2).getD AF))).map (·.1),s.heap.objs.size<a:=λa ha=>by
   rw[CR] at ha
   obtain⟨q,hq,rfl⟩:=zd.mp ha
   exact (hlk _ q hq).2
  refine zu.mpr ⟨λq=>Ao _ (big _ q),?_⟩
  rw[CR];exact hap
end
theorem Rd.mono{T T':LO}{v:Value}{d:Hu}{m n:Nat}(h:Rd T v d m n)(hT:∀ p∈T,p∈T'):Rd T' v d m n:=⟨λh' q=>h.rd h' λp hp=>q p (hT p hp),h.ok,h.nd,h.dep,h.sh,h.wt⟩
section
variable{sc:zh}
theorem sR(G:Gd (KN w.params) tabs s.heap)(B:BM s.heap)(h0:s.heap.get? 316=some (Fe #[]))(htab:∀ t∈tabs,∃ ps,s.heap.get? t=some (Em ps)/\C7 ps.toList)(hd:A.depth+100<zj)(hu:A.units+2000<AB)(hh:A.handled=none)(hg:A.guards=some [])(hfr:A.frames=some [])
  (H:Scr s.heap sc scv) (htk:776<=s.toks)
  (k:∀ (s':zc) (L':zh) (l':LV) (X:LO) (ps:Array Value),Kp s s'->C7 ps.toList->St (hbR s.heap ps) tabs L' l' X s'.heap->R (.ok (.ret (.bool true))) s') :
  zW (y6 pw w) A (.call (.ref 331) ⟨[.ref sc],[]⟩) R s:=by
 refine xc (lb:=[(yZ "script", .ref sc)]) (cs:=λL'=>[(yZ "above", L'+3),(yZ "here", L'+2),(yZ "word", L'+1)]) (cm:=λx=>none) (n:=776) G htab (lk331 _) (dn 100 hd) htk
  (binds:=[(yZ "script", .ref sc)]) (body:=iY) (Ba (by kernel_rfl)) ?_ (λL'=>by kernel_rfl) ?_ (λL' p hp=>?_) ?_ ?_ (dG (by kernel_rfl))
 ·intro L' s₁ obs hobs ar htk1 ah
  have ho0:=hobs _ (.head _)
  have hh0:=hobs _ (aj (.head _))
  have hw0:=hobs _ m2
  have S1':St s.heap tabs L' [(yZ "script", .ref sc)] [(L'+3,obs (L'+3)),(L'+2,obs (L'+2)),(L'+1,obs (L'+1))] s₁.heap:=ah
  clear ah
  generalize obs (L'+3)=oa at *
  generalize obs (L'+2)=oh at *
  generalize obs (L'+1)=ow at *
  replace ho0:oa.data=.cell none:=ho0
  replace hh0:oh.data=.cell none:=hh0
  replace hw0:ow.data=.cell none:=hw0
  clear hobs
  have hfr':(A.deeper (evL w L')).frames=some [evL w L']:=BW hfr
  have hd':(A.deeper (evL w L')).depth+90<zj:=by show A.depth+1+90<zj;exact dn 9 hd
  have hu':(A.deeper (evL w L')).units+1900<AB:=by show A.units+_+1900<AB;exact dn 97 hu
  have hh':(A.deeper (evL w L')).handled=none:=hh
  have hg':(A.deeper (evL w L')).guards=some []:=hg
  clear hfr hd hu hh hg
  generalize A.deeper (evL w L')=A' at *
  refine law_a G (dn 30 hd') (dn 1800 hu') hh' H htk1 S1' (λag X2 ga gb ws2 ao htk2 hsw2 hwd2 h32 h62 af=>law_b G hh' htk2 hsw2 hwd2 h32 h62 af (λs3 X3 d3 gc gd ws3 aw htk3 hsw3 hp3 hwd3 h43 h73 ae=>law_c G hh' H htk3 hsw3 hp3 hwd3 h43 h73 ae ?_))
  intro s4 X4 d4 gf x xs K4 htk4 hwl h5 h4 h7 S4
  have d0:X4++(X3++(X2++[(L'+3,oa),(L'+2,oh),(L'+1,ow)]))=(X4++(X3++X2))++[(L'+3,oa),(L'+2,oh),(L'+1,ow)]:=by simp
  rw[d0] at S4
  refine law_d G hh' H htk4 hw0 h7 S4 ?_
  intro s5 X5 pd dw ow' np nw m tm K5 htk5 how hm0 hm4 S5
  have hwl5:Wl w ((pd,ap (xs.map WX.v) np)::X4) (x::xs):=hwl.mono λp hp=>aj hp
  obtain⟨d1,r1⟩:=xM (hwl5.wt x (.head _)) (zn h5 (by decide)) (hwl.abc x (.head _))
  obtain⟨d2,r2⟩:=xL (xs:=xs) (λy hy=>⟨hwl5.wt y (aj hy),hwl.len y (aj hy),hwl.abc y (aj hy)⟩) (.head _) h7
  replace r1:=r1.le (m':=2) (n':=200) (by decide) (by decide)
  have hin:∀ {a b c:zh×AR},∀ p∈(pd,ap (xs.map WX.v) np)::X4,p∈a::b::c::(pd,ap (xs.map WX.v) np)::(X5++(X4++(X3++X2)++[])):=λp hp=>by
   rcases za.mp hp with rfl|hp
   ·exact aj m2
   ·exact aj (aj (aj (aj (y5 _ (y8 _ (y8 _ hp))))))
  refine law_e (T₀:=(pd,ap (xs.map WX.v) np)::X4) G (dn 30 hd') (dn 1700 hu') hh' htk5 hin hwl5 h5 h7 m2 how m3 S5 ?_
  intro s6 X6 D c Es K6 H6 hTk S6
  generalize hZ:X5++(X4++(X3++X2)++[])=Z at *
  have hlen:Es.length=xs.length:=by
   have:=H6.perm.length_eq
   rwa [ze] at this
  have hshl:∀ e∈Es,e.f∈shL:=λe he=>by
   have hx:e.x∈xs:=H6.perm.mem_iff.mp (zd.mpr ⟨e,he,rfl⟩)
   rw[H6.f e he]
   exact gH (hwl.len _ (aj hx)) h5
  have hin6:∀ {a b c d:zh×AR},∀ p∈X6++((pd,ap (xs.map WX.v) np)::X4),p∈d::(X6++a::b::c::(pd,ap (xs.map WX.v) np)::Z):=λp hp=>by
   rcases zf.mp hp with hp|hp
   ·exact aj (y8 _ hp)
   ·exact aj (y5 _ (hin p hp))
  have hin7:∀ {a b c d:zh×AR},∀ p∈(pd,ap (xs.map WX.v) np)::X4,p∈d::(X6++a::b::c::(pd,ap (xs.map WX.v) np)::Z):=λp hp=>aj (y5 _ (hin p hp))
  refine law_f G (dn 30 hd') (dn 1700 hu') hh' hg' (H6.mono hin6) hTk (Nat.one_le_of_lt h4) h7 hshl (aj (y5 _ m2)) how (.head _) (r1.mono hin7) (r2.mono hin7) S6 ?_
  intro s7 X7 F cf tb P K7 hP S7
  have e7:(F,ap (P.map cP) cf)::(X7++(D,ap (aB Es) c)::(X6++(L'+3,oa)::(L'+2,oh)::(L'+1,ow')::(pd,ap (xs.map WX.v) np)::Z))=((F,ap (P.map cP) cf)::(X7++(D,ap (aB Es) c)::X6))++(L'+3,oa)::(L'+2,oh)::(L'+1,ow')::(pd,ap (xs.map WX.v) np)::Z:=by simp
  rw[e7] at S7
  refine law_g G hh' H hP (.head _) hh0 ho0 S7 ?_
  intro s8 oa' oh' Da f g tf tg vs na X8 K8 hoh' hoa' hf hg he hvs S8
  have hm:∀ {a b d:zh×AR},∀ p∈(D,ap (aB Es) c)::X6++((L'+1,ow')::(pd,ap (xs.map WX.v) np)::Z),p∈a::b::d::(X8++(((F,ap (P.map cP) cf)::(X7++(D,ap (aB Es) c)::X6))++((L'+1,ow')::(pd,ap (xs.map WX.v) np)::Z))):=λp hp=>by
   refine aj (aj (aj (y5 _ ?_)))
   rcases zf.mp hp with hp|hp
   ·exact y8 _ (aj (y5 _ hp))
   ·exact y5 _ hp
  have hZ':∀ p∈X4,p∈Z:=λp hp=>hZ▸y5 _ (y8 _ (y8 _ hp))
  have hU:∀ p∈(pd,ap (xs.map WX.v) np)::X4,p∈(L'+1,ow')::(pd,ap (xs.map WX.v) np)::Z:=λp hp=>by
   rcases za.mp hp with rfl|hp
   ·exact aj (.head _)
   ·exact aj (aj (hZ' p hp))
  have hUm:∀ {a b d:zh×AR},∀ p∈(pd,ap (xs.map WX.v) np)::X4,p∈a::b::d::(X8++(((F,ap (P.map cP) cf)::(X7++(D,ap (aB Es) c)::X6))++((L'+1,ow')::(pd,ap (xs.map WX.v) np)::Z))):=λp hp=>hm p (y5 _ (hU p hp))
  have hH:Scd w ((L'+3,oa')::(L'+2,oh')::(Da,ap (.float g tg::vs) na)::(X8++(((F,ap (P.map cP) cf)::(X7++(D,ap (aB Es) c)::X6))++((L'+1,ow')::(pd,ap (xs.map WX.v) np)::Z)))) x xs Es:=H6.mono λp hp=>by
   rcases zf.mp hp with hp|hp
   ·exact hm p (y8 _ (aj hp))
   ·exact hUm p hp
  have hcw:=hm (a:=(L'+3,oa')) (b:=(L'+2,oh')) (d:=(Da,ap (.float g tg::vs) na)) (L'+1,ow') (y5 _ (.head _))
  have hpd:=hm (a:=(L'+3,oa')) (b:=(L'+2,oh')) (d:=(Da,ap (.float g tg::vs) na)) (pd,ap (xs.map WX.v) np) (y5 _ (aj (.head _)))
  have hD:=hm (a:=(L'+3,oa')) (b:=(L'+2,oh')) (d:=(Da,ap (.float g tg::vs) na)) (D,ap (aB Es) c) (.head _)
  have W:=(hwl5.mono (hUm (a:=(L'+3,oa')) (b:=(L'+2,oh')) (d:=(Da,ap (.float g tg::vs) na)))).ws (hb:=s.heap) h5 (y1j h7)
  replace r1:=r1.mono (hUm (a:=(L'+3,oa')) (b:=(L'+2,oh')) (d:=(Da,ap (.float g tg::vs) na)))
  replace r2:=r2.mono (hUm (a:=(L'+3,oa')) (b:=(L'+2,oh')) (d:=(Da,ap (.float g tg::vs) na)))
  have hca:(L'+3,oa')∈(L'+3,oa')::(L'+2,oh')::(Da,ap (.float g tg::vs) na)::(X8++(((F,ap (P.map cP) cf)::(X7++(D,ap (aB Es) c)::X6))++((L'+1,ow')::(pd,ap (xs.map WX.v) np)::Z))):=.head _
  have hch:(L'+2,oh')∈(L'+3,oa')::(L'+2,oh')::(Da,ap (.float g tg::vs) na)::(X8++(((F,ap (P.map cP) cf)::(X7++(D,ap (aB Es) c)::X6))++((L'+1,ow')::(pd,ap (xs.map WX.v) np)::Z))):=aj (.head _)
  have hDa:(Da,ap (.float g tg::vs) na)∈(L'+3,oa')::(L'+2,oh')::(Da,ap (.float g tg::vs) na)::(X8++(((F,ap (P.map cP) cf)::(X7++(D,ap (aB Es) c)::X6))++((L'+1,ow')::(pd,ap (xs.map WX.v) np)::Z))):=aj (aj (.head _))
  clear hm hUm hU hZ' hin hin6 hin7 H6 e7 d0 S7 S6 S5 S4 ae af S1'
  generalize (L'+3,oa')::(L'+2,oh')::(Da,ap (.float g tg::vs) na)::(X8++(((F,ap (P.map cP) cf)::(X7++(D,ap (aB Es) c)::X6))++((L'+1,ow')::(pd,ap (xs.map WX.v) np)::Z)))=T8 at *
  refine law_h G B (dn 20 hd') (dn 1580 hu') hh' W hf hg hcw how hch hoh' hca hoa' hDa hvs hpd hD hH hm0 hm4 S8 ?_
  intro s9 X9 cut K9 S9
  have i9:∀ p∈T8,p∈X9++T8:=λp hp=>y5 _ hp
  refine law_i G (dn 1800 hu') hh' (W.mono i9) hf hg (i9 _ hch) hoh' (i9 _ hca) hoa' (i9 _ hDa) hvs (i9 _ hD) (hH.mono i9) (y1m h7 hlen) he hshl S9 ?_
  intro s10 X10 Bd K10 S10
  have i10:∀ p∈T8,p∈X10++(X9++T8):=λp hp=>y5 _ (i9 p hp)
  refine law_j G B (dn 20 hd') (dn 1580 hu') hh' (W.mono i10) (i10 _ hcw) how (i10 _ hpd) (i10 _ hD) (hH.mono i10) (y1m h7 hlen) S10 ?_
  intro s11 X11 K11 S11
  have i11:∀ p∈T8,p∈X11++(X10++(X9++T8)):=λp hp=>y5 _ (i10 p hp)
  refine law_k G B h0 (dn 20 hd') (dn 1580 hu') hh' hg' hfr' (W.mono i11) (i11 _ hcw) how (r1.mono i11) (r2.mono i11) S11 ?_
  intro s12 X12 ps K12 hps S12
  have K:=((((((((((ar.trans ao).trans aw).trans K4).trans K5).trans K6).trans K7).trans K8).trans K9).trans K10).trans K11).trans K12
  exact k s12 L' _ _ ps ⟨K.os,K.gens⟩ hps S12
 ·intro L' p hp
  rcases za.mp hp with rfl|hp
  ·exact⟨by kernel_rfl,Cu (by decide)⟩
  rcases za.mp hp with rfl|hp
  ·exact⟨by kernel_rfl,Cu (by decide)⟩
  rw[y9] at hp;subst hp
  exact⟨by kernel_rfl,Cu (by decide)⟩
 ·rw[y9] at hp;subst hp;rfl
 ·intro L' p hp
  rcases za.mp hp with rfl|hp
  ·rfl
  rcases za.mp hp with rfl|hp
  ·rfl
  rw[y9] at hp;subst hp;rfl
 ·intro L' y hy
  rw[y9] at hy;subst hy;exact .inl (by kernel_rfl)
end
end
theorem kk_in{w:As}{b9:zc}{h:AJ}(y:aa.map b9.heap.get? = (KK w.params).map λp=>some p.2)(kp:∀ b o,b9.heap.get? b=some o->h.get? b=some o):(KK w.params).In h:=by
 have ea:aa=(KK w.params).map (·.1):=rfl
 rw[ea] at y
 have A:=PySem.W.X.allIn_of y
 refine λa o e=>kp a o ?_
 revert A e
 generalize KK w.params=K
 intro A e
 induction K with
 | nil=>cases e
 | cons p r ih =>
  obtain⟨b,o'⟩:=p
  rw[ED] at e
  split at e
  ·rename_i hq
   cases e
   rw[beq_iff_eq.mp hq];exact A.1
  ·exact ih A.2 e
theorem v9{hb h:AJ}{tabs:List zh}{L:zh}{l:LV}{T:LO}(S:St hb tabs L l T h)(ht:∀ t∈tabs,isCodeTable hb t):OldK hb h:=by
 refine⟨λb o e=>?_,λb o e=>?_⟩
 ·by_cases q:b∈tabs
  ·obtain⟨ps,more,e1,e2,_⟩:=S.tab b q
   rw[e1] at e;cases e
   exact .inr (.inl ⟨ht b q,rfl,ps,more,rfl,e2⟩)
  ·exact .inl (S.old e q)
 ·by_cases q:b∈tabs
  ·obtain⟨ps,more,e1,e2,_⟩:=S.tab b q
   exact⟨_,e2⟩
  ·exact⟨o,S.old e q⟩
theorem qG{vs:List Value}{ns:List Int}(r:IntsAre vs ns):∀ v∈vs,Ex2 λi t=>v=Cc i t:=by
 induction r with
 | nil=>intro v h;cases h
 | cons n t r ih=>exact Ez.mpr ⟨⟨n,t,rfl⟩,ih⟩
theorem wa{K:Ht}{h:AJ}{a:zh}{m:zK->Option Value}{x:zK}(k:K.In h)(N:h.Ns a m)(e:Nl K a x=some none):m x=none:=by
 obtain⟨o,es,ep,ho,hd,_,hf⟩:=N
 unfold Nl at e
 cases q:K.lookup a with
 | none=>rw[q] at e;cases e
 | some ob =>
  rw[q] at e
  have z:=k a ob q
  rw[ho] at z
  obtain rfl:=AG z
  obtain⟨c,d,dt,sl⟩:=o
  simp only at hd
  subst hd
  simp only at e
  cases q':es.toList.find? (·.key.isStr x) with
  | some v=>rw[q'] at e;cases e
  | none =>
   rw[<- hf]
   unfold nsFind findBy
   rw[<- Array.find?_toList,q']
   rfl
theorem gd_of{w:As}{b9:zc}{mg mb:zK->Option Value}{h:AJ}{R:Ny}{XP:(zK->Option Value)->AJ->Prop}(G:Ground qq loose R XP w b9 mg mb h)(k:(KN w.params).In h):Gd (KN w.params) tabs h where
 k:=k
 mg:=⟨mg,G.T.g⟩
 bl:=⟨mb,G.T.b,G.T.builtins⟩
 lim:=G.T.nolimit
 nb:=by
  obtain⟨mc,h1,h2⟩:=G.T.nolimit
  exact⟨mc,h1,wa k h1 (by kernel_rfl)⟩
 n1:=by decide
 n2:=by decide
 n3:=by decide
 nt:=KN_nt _
theorem bm_of{w:As}{b9:zc}{mg mb:zK->Option Value}{h:AJ}{R:Ny}{XP:(zK->Option Value)->AJ->Prop}(G:Ground qq loose R XP w b9 mg mb h):BM h:=by
 obtain⟨bm,ob,h1,h2,h3,h4,h5,h6⟩:=G.T.bmain
 exact⟨mg,bm,ob,G.T.g,h1,h2,h3,h4,h5,h6⟩
theorem o4{w:As}{h:AJ}(k:(KK w.params).In h):∀ t∈316::tabs,isCodeTable h t:=by
 intro t ht
 rcases za.mp ht with rfl|ht
 ·exact⟨320,o320 w.params,_,k _ _ (by kernel_rfl),rfl,rfl,rfl⟩
 obtain rfl:t=248:=by simpa using ht
 exact⟨252,o252 w.params,_,k _ _ (by kernel_rfl),rfl,rfl,rfl⟩
theorem vp{w:As}{h:AJ}(k:(KK w.params).In h):∀ t∈tabs,∃ ps,h.get? t=some (Em ps)/\C7 ps.toList:=by
 intro t ht
 obtain rfl:t=248:=by simpa using ht
 exact⟨#[],k 248 (o248 w.params) (by kernel_rfl),by trivial⟩
theorem rm{w:As}{b9 s₁:zc}{mg mb:zK->Option Value}{R:Ny}{XP:(zK->Option Value)->AJ->Prop}{fa sc:zh}{vs:List Value}{ns:List Int}{Q:VP}{E:VP}
  (G:Ground qq loose R XP w b9 mg mb s₁.heap) (k:(KK w.params).In s₁.heap) (hfa:mg (yZ "law")=some (.ref fa)) (hl:s₁.heap.IsList sc vs.toArray) (hi:IntsAre vs ns) (hn:ns.length<=63) (htk:776<=s₁.toks)
  (h:∀ s',OldK s₁.heap s'.heap->s'.os=s₁.os->(M7 s₁.gens->M7 s'.gens)->Q (.bool true) s') :
  y7 (y6 pw w) callerA (call (.ref fa) [.ref sc]) Q E s₁:=by
 have kn:=KN_in k
 have e:mg (yZ "law")=some (.ref 331):=mg_of kn G.T.g (by kernel_rfl)
 rw[hfa] at e
 injection e with e;injection e with e
 subst e
 refine BU ?_
 have h0:s₁.heap.get? 316=some (Fe #[]):=k 316 (o316 w.params) (by kernel_rfl)
 refine sR (scv:=vs) (sc:=sc) (gd_of G kn) (bm_of G) h0 (vp k) (by decide) (by decide) rfl rfl rfl ⟨?_,?_,qG hi,?_⟩ htk ?_
 ·obtain⟨o,a,b,n,c⟩:=hl
  exact⟨o,n,a,b,c⟩
 ·intro q
  obtain rfl:sc=248:=by simpa using q
  obtain⟨o,a,b,n,c⟩:=hl
  have:=k 248 (o248 w.params) (by kernel_rfl)
  rw[this] at a
  cases a
  cases b
 ·rw[IntsAre.length hi];exact hn
 ·exact λs' L' l' X ps K hps S=>h s' (v9 (S.unreb h0 (by decide) hps) (o4 k)) K.os K.gens
end
end Mine
open PySem PySem.W PyProof.Rows
set_option maxHeartbeats 0
open Mine in
theorem PySem.Challenge.cw_yj0002_01_holds : PySem.Challenge.rw_yj0002_01.Holds := by
 w_on
 refine holds_law (by kernel_rfl) λsaid=>?_
 refine holds_openX (q:=qq) (loose:=loose) (Xt:=Xt) (XP:=XL qq []) (Yf:=λs=>(aa.map s.heap.get?,Cj tk0 s.toks)) (Ya:=λw=>((KK w.params).map λp=>some p.2,true)) (N:=4910) ?hl (λs e=>xl_of s (zr.mp e).1) XL.keeps
  (by rfl) (by rfl) (by rfl) (λs e=>recFacts_of (zr.mp e).2) (by rfl) (by first|assumption|decide +kernel) (by decide +kernel) ⟨rfl,rfl,rfl,rfl,rfl,by decide +kernel⟩ ?hw ?hc
 case hl=>exact left
 case hw=>w_witness2
 case hc =>
  intro w b9 s₁ mg mb G Y fa o pm cd doc dV kV ho hd hcd hD hmg hg args vals as La hpre hlay hrd hwl hlo
  clear hcd hd hD ho
  have hfa:mg "law" = some (.ref fa):=hmg
  clear hmg
  wrow_args hpre hlay hrd hwl hlo
  rename_i ns _ _ _ _ _ _ _ sc vs _ hL _ _ _ hI _ hn _
  have k:=kk_in (congrArg Prod.fst Y) La.keeps
  have ht:776<=s₁.toks:=zn (zn (by decide:776<=tk0) (CJ (congrArg My Y))) (X.script_toks La rfl)
  refine rm (ns:=ns) G k hfa hL hI (by exact zbi hn) ht λs' K os gens=>?_
  exact⟨.inl ⟨_,_,[],rfl,λ_=>rfl,ReadsW.bool true,by first|rfl|wrow_post,λ_=>⟨C9,λ_ hm=>(nomatch hm)⟩⟩,K,os,gens (by rw[hg];exact AllBare.empty)⟩
