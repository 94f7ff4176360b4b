import PyProof.Rows.All
import Wide.All
import OpenK.AllK
import KE.KDictIter
import OpenK.ZHead
import OpenK.XOpen
import Lean
import PySem.Challenge.RW_yj0002_01
set_option genInjectivity false
set_option genCtorIdx false
set_option bootstrap.genMatcherCode false
set_option genSizeOfSpec false
set_option maxHeartbeats 0
set_option Elab.async false
set_option maxRecDepth 100000
set_option linter.unusedVariables false
open PySem.Str renaming ofString->yW
open PySem renaming wpAny_bind->yX,wpAny_pure->yY,model->y0,wpAny->y4,wpAny_truthy_bool->y8,Shared->y9,Addr->ze,wpAny_mono->zf,recursionLimit->zg,wpAny_holding->zp,wpAny_seqItems->zv,sizeLine_eq->zw,callEnvC->zy,Params->zF,Str->zH,codeAny->zS,wpAny_call_entry->zT,execs->zY,wpAny_execs_cons->zZ,wpAny_callSpecial?_slot->z4,codeAny_builtin->z8,builtinLookup_eq_fast->z9,wpAny_newObj_type->Aa,callEnv->Ac,strKind->Ak,World->Am,compEnvC->An,plainId_quiet->Ao,eval->Aq,wpAny_of_eq->As,Builtin->At,cLine->Aw,SetTable->Az,wpAny_with_toks->AC,Heap->AE,compareOp->AF,starEach->AI,wpAny_field->AK,wpAny_isInstance->AL,Tok->AN,Obj->AO,wpAny_rule->AP,Around->AR,valueAt->AS,isSubtype_type->AZ,list_getitem_lookup->Bb,typeLookup_type->Bf,Program->Bh,bootBuiltins->Bi,mainGlobals->Bl,wpAny_richCompare_same_room->Bv,wpAny_Constant_none->Bw,FuncData->Bz,wpAny_updateSeq->BD,Spec->BG,typeLookup->BH,seqItems?->BK,assign->BL,assignEach->BN,wpAny_call->BO,wpAny_specialOf->BS,wpAny_askSetting->BW,entryFor_of_tree->BX,wpAny_sharingNotTold_none->BZ,boot_len->B0,NoneBooked->B4,isInstance->B5,wpAny_pyIter_list->B7,assignInOrder->Ca,Result->Cg,backTo->Ci,codeAny_call_builtin->Cn,wpAny_Constant_float->Co,Stmt->Cq,intKind->Cr,rawInt->Cv,keywordEach->Cz,spliced->CD,isSubtype_tuple_tuple->CH,argsOk->CI,isSubtype->CJ,type_list_append->CL,wpAny_standAt->CO,DictEntry->CR,foldedSetIterable->CT,wpAny_execs_nil->CV,letOwnedTupleGo->CW,TriplesOk->C3,typeOf->C6,firstArgMember->C8,getItem->Dc,pyNext->De,wpAny_loadName_local->Dl,entryFor->Dm,wpAny_typeOf->Dn,wpAny_load->Dr,wpAny_attempt->Ds,wpAny_getItem_list_slice->Dv,Scope->Dx,wpAny_tryCatch->DB,wpAny_setField->DC,wpAny_letGo->DE,richCompare->DF,wpAny_setField_rec->DP,callWith->DS,backToKw->DT,sizeLine->DU,wpAny_tests_nil->DV,wpAny_UnaryOp->DX,cellsFrom->DY,evalPart_none->DZ,wpAny_Constant_bool->Ee,Pos->Ef,builtinKind->Ek,strIterType->El,wpAny_letTemporaryGo->Ep,wpAny_newFunctionEnv_cells->Er,checkBuiltinCall->EB,specialOf->EC,wpAny_eqBool_int->EE,pyIter->EI,binaryOp->EM,NameKind->EN,wpAny_newList->EQ,codeAny_of_tree->EU,wpAny_ite_split->EW,storeName->E9,BindsTo->Fi,letTemporaryGo->Fj,wpAny_newTuple->Fl,eqBool->Fu,wpAny_storeName_local->FD,wpAny_pyIter_listiter->FF,codeAny_call_function->FG,swapsWith->FK,closureFor->FM,plainId->FO,notedBy->FQ,field->FT,wpAny_newFunctionEnv->FV,wpAny_Slice->FW,importedModules->F0,wpAny_operating->F8,wpAny_loadPart'->Gb,slicePick_upto'->Gc,builtinType_eq_fast->Gg,codeAny_mono->Gn,codeAmong->Gu,slicePick->Gv,builtinsNs->Gy,entryFor_alias->Gz,step->GA,wpAny_pyIter_tuple->GB,wpAny_pyIter_range->GC,isSubtype_stop->GH,wpAny_fieldsOf->GQ,wpAny_runValue->GY,getAttr->G7,holding->G9,table->Hb,subscripted->Hc,wpAny_pyIter_slot->Hg,PyData->Hp,swappedStores->Hq,stored->Ht,wpAny_handled->Hw,wpAny_comprehension_free->Hy,evalPart_some->Hz,Model->HF,getMethod->HG,seqIndex?->HK,setState->HQ,wpAny_storeSet_of->HR,wpAny_Name->HZ,meets_dict_get_default->H3,call_meets->H8,callType_new->H9,wpAny_nextOf_list_item->Ia,typeIs_int->Io,codeAny_compStart_list->Iq,compEnv->Ir,Env->ID,exec_Assign_Name_used->IK,wpAny_throw->I1,truthOfDropped->I5,wpAny_updateSeq_pair->Ja,emptiesJoinedAsOfOld->Ji,updateSeq->Jn,codeAny_forLoop_any->Ju,behindInMarks->JA,KeyKind->JC,wpAny_onRaise->JE,wpAny_assign_Tuple->JL,call_function_tree->JR,Operator->JZ,operate->J5,getMethod_builtin->J7,callSpecial?->Ke,codeAny_func->Ko,wpAny_sequenceKey->Ks,call_range_1->Kt,setAddHashed->Ky,ClassData->KH,codeAny_call_def->KI,Fin->KO,wpAny_Try_except->KU,wpAny_pyIter_zip->KW,interactive->Lf,builtinType->Li,wpAny_alloc->Lm,sliceBounds->Lr,Sem->Lz,codeAny_forLoop->LJ,wpAny_tests_one->LN,call_repr_gives->LQ,putSet_of->LS,is_none->LX,checkBoundCall->Md,typeIs_str->Mf,callType_codes->Ml,checkCount->Mn,TriplesOk_snoc->Mp,evalPart->Mz,carriedByValue->ME,Arguments->MQ,Args->M1,splitId->M5,newEnv->M7,Flow->Ng,loadName->Ni,evalArgs->Nj,bindName->Nk,bindC->Nq,WalksU->Nx,Slot->Ny,newExc->Nz,call->NA,wants->NG
open List renaming mem_append_right->yZ,mem_append_left->y5,mem_singleton->y6,mem_cons->y7,mem_map->za,length_map->zb,mem_append->zc,size_toArray->zd,perm_append_comm->zi,getElem?_eq_getElem->zj,sublist_cons_self->zl,mem_of_getElem?->zm,nodup_cons->zr,perm_middle->zs,append_assoc->zu,getElem?_map->zB,all_eq_true->zC,map_append->zD,length_cons->zI,length_append->zK,range->zM,getElem?_eq_none->zP,mem_range->zR,getElem?_eq_some_iff->zU,take_length->zX,getElem_mem->z5,sublist_append_right->Ad,take_add_one->Ah,append_nil->Al,forIn_cons->Ax,map_cons->Ay,mem_of_mem_take->AD,pairwise_map->AT,contains_iff_mem->AV,length_take->Bc,getD_eq_getElem?_getD->Bg,cons_append->Bp,filter_append->Bt,mem_filter->By,length_filter_le->BJ,mem_flatMap->BU,length_range->B6,map_take->Cb,length_nil->Cf,ext_getElem?->Ct,length->CA,take_append_drop->CG,map_map->CN,nodup_append->CS,length_reverse->CZ,take_of_length_le->C1,nodup_nil->C5,getElem?_append_left->Dd,nil_append->Dh,getElem?_set->Do,getElem?_take_of_lt->Dw,getElem_map->DD,pairwise_cons->DM,map_inj_right->DN,length_singleton->Eb,reverse_perm->Ed,mem_cons_of_mem->Eh,forIn_nil->Em,drop_zero->En,forall_mem_cons->Ev,lookup_cons->Ez,filter_cons->EA,length_drop->EF,pairwise_iff_getElem->EG,mem_of_find?_eq_some->EH,mergeSort_perm->EK,filter_nil->EY,find?_eq_none->E6,getElem?_drop->E7,getElem?_cons_succ->Fd,filter_congr->Fk,pairwise_lt_range->Fn,getElem?_toArray->FH,mem_reverse->FJ,take->FN,map_eq_cons_iff->FX,eq_nil_of_length_eq_zero->FZ,foldl_cons->F6,length_pos_iff->Gi,toArray->Gp,getElem?_append_right->Gx,getElem_range->GR,append_of_mem->GV,findSome?_eq_none_iff->GW,replicate->GX,drop_eq_getElem_cons->G3,foldl_append->Hh,filter_cons_of_neg->HM,filter_cons_of_pos->HN,pairwise_mergeSort->HO,nodup_range->HS,find?_cons_of_neg->H0,filter_eq_nil_iff->H4,length_pos_of_mem->H5,find?_some->Iz,set_append_right->IG,cons_lt_cons_iff->IJ,mem_iff_getElem->IX,pairwise_append->I7,drop_drop->Jb,mem_of_mem_drop->Jd,toList_toArray->Jt,filterMap_cons->Jx,any_cons->JB,map_drop->JF,getElem?_inj->J0,map_nil->J4,map_set->J6,mem_range'_1->Kf,drop_sublist->Kg,all_eq_false->Kv,any_eq_true->KA,isEmpty_nil->KJ,map_snd_zip->KL,nil_sublist->KR,ext_getElem->KY,lookup->Ld,range'->Ln,all_cons->MI
open Nat renaming le_refl->zh,le_trans->zk,zero_le->zA,lt_of_lt_of_le->zJ,lt_mul_div_succ->z0,ne_of_lt->Ab,le_of_lt->Af,lt_irrefl->Aj,lt_or_ge->AM,mul_div_le->AY,lt_succ_self->Be,not_lt_zero->Bo,lt_of_le_of_lt->Bq,not_lt->Br,max_eq_right->BF,ne_of_gt->Cc,ble->Ce,le_add_right->Ck,lt_add_of_pos_right->Cp,lt_trans->Cw,le_of_lt_succ->Cy,le_of_ble_eq_true->CF,le_succ->C2,succ_le_succ->C4,mul_le_mul_right->Dk,lt_trichotomy->Dq,le_of_succ_le_succ->DQ,lt_or_eq_of_le->DR,le_succ_of_le->Ec,le_of_not_lt->Ey,zero_add->Fg,lt_succ_of_lt->Fq,succ_pos->Ft,compare_eq_lt->Fv,compare_eq_eq->Fw,lt_of_succ_lt->Fx,succ_ne_self->FL,not_succ_le_zero->FR,le_antisymm->F5,le_of_eq->Gl,add_sub_cancel->GG,lt_of_lt_of_eq->GU,compare_eq_gt->Hm,add_assoc->HA,add_sub_cancel_left->HD,lt_of_succ_lt_succ->HX,mul_comm->HY,not_le->Ig,add_zero->Ii,min_eq_left->Iv,max_eq_left->Iw,strongRecOn->Iy,eq_of_beq_eq_true->IC,add_lt_add_left->Jq,lt_asymm->JW,lt_succ_of_le->JX,sub_pos_of_lt->Kj,min_le_right->KS,not_le_of_lt->KX,mod_eq_of_lt->KZ,pow_pos->Lp,le_zero->Lq,noConfusion->Lw,le_max_left->LG,mod_lt->MD,le_total->M0,add_comm->M4,succ_mul->M9
open PyProof.Rows renaming args_nil->zn,isTrue_plain->BY,len_list->B9,slot_tuple_getitem->CC,add_int->CP,Subscript_->Dt,kws_cons->Et,listUpdate_at->EP,entry_list_sort->EV,eqBool_str->E5,slot_list_sort->Ff,seqEpoch_at->FU,lt_int->GO,isTrue_and_nil->GP,call_function_entry_kw->Ie,sub_int->Ij,gt_int->Ik,keyLt'->IY,add_str->Jf,kws_nil->Jp,dflt->Js,wpAny_call_entry_kw->Jv,subscriptTail->JD,assignInOrder_cons->JK,truthy_int->JN,seen->JO,assignInOrder_nil->J3,listItems_at->Ka,general'->Kb,neg_int->Kk,entry_tuple_getitem->Ku,args_tuple_getitem->Kz,callWith_kw->Lo,ge_int->LY,tuples'->LZ,SortKind->L5,callWith_type->L8,isTrue_and->Mg,oneType'->Mi,args_list_sort->Mj,keyKind'->Mm,getItem_tuple->Mt,slicePart_none->Mx,BoolOp_and->MB,isTrue_not->MR,args_cons->M2,AllBare->M3,len_tuple->M6,le_fi->Nb,le_if->Nc,tail_any->Nm,UnaryOp_->Nt,ne_str->Nv,ge_fi->NF,arrOf->NH
open Bool renaming and_eq_true_iff->zo,false_ne_true->zN,or_eq_false_iff->FS,false_eq_true->GI,eq_false_iff->Hk,not_true->HB,and_eq_true->HE,and_false->Jc,false_and->Jk,and_self->JG,or_eq_true->Ls
open PySem.Heap renaming get?_update_self->zq,get?_push_of_some->zz,get?_push_size->zQ,lt_size->AH,SameBut->BV,get?_update_other->Fy,dictOf_iff->F3,size_push->GL,ExtBut->Ha
open PySem.Heap.SameBut renaming update->zt,refl->Ki
open PySem.W.KFB renaming if_not->zx,if_so->Bm
open Array renaming getElem?_eq_getElem->zE,getD_eq_getD_getElem?->zG,length_toList->Ba,getElem?_eq_none->BC,perm_iff_toList_perm->C7,getElem_toList->Eu,mem_toList_iff->Ew,getElem?_eq_some_iff->Ex,toList_inj->ED,toList_append->EJ,size_push->EX,size_append->FA,getD->GF,empty_append->GJ,toList->Ip,size_eq_zero_iff->It,getElem?_extract->Iu,replicate->IB,getElem?_toList->IQ,forIn_toList->JM,append_assoc->JQ,size_extract->JT,append_empty->JU,any->KG
open List.Perm renaming cons->zL,swap->AJ,refl->BE,append_left->D7,append_right->Il,trans->LK
open PySem.Obj renaming mapSeq->zO,data_mapFields->E4,isFreed_of_fields->II,cls_mapFields->Kh,data->Mr,mapFields->MO,putSet->NE
open PySem.Float64 renaming cmp->zV,cmpInt->Cx,hash?->CQ,ofInt->ER,neg->Jg,div->Lj,mul->Lk
open Option renaming map_eq_some_iff->zW,getD_none->CM,bind_eq_some_iff->DA,toList_some->GS
open PySem.Builtin.Range renaming rangeSize->Ae,small->Dy
open List.Sublist renaming refl->Ag,cons->Hi,cons_cons->Na
open PySem.Value renaming type->Ai,ref->AG,float->BA,int->B8,none->CK,builtin->DW,bool->FI,isStr->G8
open LawfulBEq renaming eq_of_beq->Ap
open Pure renaming pure->Au
open Inhabited renaming default->AA
open Option.some renaming inj->AB
open PySem.F renaming slot_tuple_iterator_next->AQ,slot_list_append->Bu,called_set->Cj,plain_extend_loop->Cm,args_tuple_iterator_next_1->CX,entry_tuple_iterator_next->C0,slot_range_iterator_next->C9,entry_extend_loop->DK,slot_dict_get->Ea,slot_dict_getattribute->EO,slot_tuple_eq->EZ,slot_set_getattribute->Fa,slot_list_sort->Fp,slot_float_hash->FC,type_dict_get->FE,slot_tuple_getitem->FY,slot_dict_setdefault->F4,slot_tuple_lt->F9,slot_tuple_gt->Ga,args_range_iterator_next_1->Ge,slot_zip_next->Gf,entry_range_iterator_next->Gr,args_tuple_getitem_2->G5,args_tuple_lt_2->Hj,entry_tuple_getitem->Hx,entry_tuple_lt->HL,plain_list_iadd->HP,entry_dict_get->H2,type_list_sort->Im,slot_list_pop->IE,slot_str_getitem->IL,slot_int_rmul->IM,slot_set_iter->IP,args_object_init_3->IZ,args_object_init_2->I4,entry_tuple_new->Kc,args_tuple_gt_2->Kl,args_tuple_eq_2->Km,args_zip_next_1->Kr,entry_tuple_gt->KP,entry_tuple_eq->KQ,entry_zip_next->KV,slot_float_lt->LI
open PySem.SetTable renaming insertAt->AU,grown->G0,Probe->MF
open PySem.BindsTo renaming of_eq->AW,of_defaults->Bx
open Int renaming ofNat_toNat->AX,toNat->Dg,ofNat_lt->Di,le_trans->DG,ofNat_le->DH,natCast_nonneg->DI,sub_nonneg_of_le->Eg,toNat_natCast->Fo,natCast_add->F7,zero_add->Gj,mul_comm->Gk,not_lt->Gw,lt_of_le_of_lt->GD,mul_one->G6,ofNat->HC,add_zero->HT,le_of_eq->HU,le_of_lt->HV,not_le->HW,one_mul->IR,le_refl->I6,toNat_of_nonneg->Jr,min_eq_right->KC,max_eq_right->KE,neg_mul->Lc,min_eq_left->Lu,max_eq_left->Lv,mul_nonneg->L3,add_assoc->MH,ofNat_inj->MJ,mul_zero->MY,zero_mul->MZ,min_def->Nl
open PySem.ScopeKind renaming noConfusion->Bj
open PySem.AutoFloatOps renaming wpAny_Constant_float->Bn,typeIs_float->B3,le_0->Fz,truediv_fi_2->G1,gt_0->Hl,eq_0->NI,lt_0->NJ,ge_0->NK
open Classical renaming byContradiction->BB
open PySem.Manifest renaming toldItsClass->BI,signature?->Gh,varargsMethods->HJ
open PySem.Around renaming under_plainId->BQ,frames_deeper->BR
open PySem.Builtin.SmallTypes renaming nextOf->B2,ownedTupleIsFree->ET,ownedTupleHandOut->Jw,refuseKeywords->JV,newRecord->LF,newClass->LW,iterAll->Mk
open PySem.W renaming Looks->Cu,hideAll->DJ,looks_findIn->DL,tabObj->E8,hideAll_none->Gm,check_slot->GN,Frag->Ho,hideAll_get->IS,findIn->IW,looks_mroIn->I0,absHeap->Jl,kas_rev->Jm,fencedOpening->Jz,dictOf->JJ,SharedT->JY,kas_desc->J8,kas_descPart->J9,plainGet_of->Lg,lookIn_dict->Lh,of_hideAll->L6,handedIn->L9,kat_cons->Mw,kas_tail3->MS,kas_place->MT,handed_on->MU,methodObj->MV,kat_yes->M8,openSeen->Nd,openGood->Nf,nsIn->Nh,kat_kind->Nr,WRecords->Nu,keepIn->Nw,kat_go->NC,kat_no->ND,getL->NM
open PySem.Builtin.Tuple renaming tupleCompareSizes->CB,tupleItemsOf->Eo,tupleExact->MN
open PySem.Builtin.Slice renaming sliceAdjust->CE,slicePlaces->Df,slicePartIndex->LM,sliceApplied->My
open PySem.Heap.UpToSlots renaming of_keeps->CU
open PySem.Builtin renaming divisionGoesByPylong->CY
open ForIn renaming forIn->Dp
open PySem.W.Looks renaming of_peek->Du,of_pure->MK
open PySem.Heap.FunFrames renaming cons->Dz
open PySem.Heap.IsSliceOf renaming new->DO
open PySem.W.X renaming tableObj->Ei
open PySem.Calls renaming Name_function_global->Ej,loadGlobal_builtin->JI,loadGlobal_global->J1,evalArgs_plain->L7
open PyProof.Rows.F renaming entry_set_update_loop->EL,plain_set_update_loop->Jy
open List.Pairwise renaming imp_of_mem->ES,nil->Kq,filter->Np
open PySem.Builtin.List renaming listUpdate->Fe,listExtendWith->Go,listSameRef->Hu,listItems->Ib,listLengthHint->L2,listFitsIndex->MC,listTooLong->MM
open PySem.PyData renaming keyHash->Fh,leavesShort->GZ,list->Hn,showable->IA,leavesShortAll->IN,hasDict->Jj,weight->JH,showableAll->JS,hasDictAll->Kw,depth->Kx,weightAll->Lb,depthAll->LR
open PySem.Challenge renaming rw_yj0002_01->F2,pw_yj0002_01->Lx
open PySem.Builtin.Builtins renaming bindParams->Gq
open PySem.Builtin.Str renaming strSliceIndices->Gs
open PySem.WalksT renaming enumerateD->Hd
open PySem.Shared renaming heap->He,TypeIs->ML
open List.cons renaming inj->Hr
open PySem.Bind renaming madeHere->Hv,madeBy->Ll,staticBase->LH,checkArgs->Mc
open PyProof.Rows.SortSt renaming mk'->Ic
open PySem.Flt renaming isZero_ofInt->Ih,fin_of_fits->IF,Over->Mo
open ForInStep renaming yield->Ix,done->Jh
open PySem.AutoFloatG5 renaming float___lt___float_float_0->I8
open Ne renaming symm->Jo
open PySem.Code renaming quiet_builtin->JP
open PySem.callAny renaming viaDunder->Kd
open Prod renaming ext->Kn,snd->Mu
open PySem.AutoIntOps renaming pow_4->K0
open PySem.W.Fast renaming ofString_ofList->Ly
open PySem.MeetsSeq renaming list_pop_last->LD
open PySem.P renaming add_str->LL,gt_str->Mq,eq_str->MA,neg_int->MW
open PySem.Builtin.Frozenset renaming updateFrom->LU,oneOther->Me,newClass->MG,slot0->MX
open Min renaming min->L4
open PySem.isSame renaming created->Ma
open PySem.Sem renaming wp_release->Mb
open PySem.Walks renaming list->Mh,range->Nn
open MonadExcept renaming tryCatch->Mv
open PySem.W.KasT renaming ask->No
open PySem.Stmt renaming Pass->NL
open MonadState renaming get->NN
open PySem.Heap.DictOf renaming new->NO
noncomputable section
namespace Mine
namespace Ar
noncomputable def ev:List Int->List Int->Int
 | a::f,x::e=>a * x+ev f e
 | _,_=>0
noncomputable def add:List Int->List Int->List Int
 | a::f,b::g=>(a+b)::add f g
 | [],g=>g
 | f,[]=>f
noncomputable def sm(m:Int)(f:List Int):List Int:=f.map (m * ·)
theorem eP(e:List Int):ev [] e=0:=by cases e<;> rfl
theorem nA(f:List Int):∀ g e:List Int,ev (add f g) e=ev f e+ev g e:=by
 induction f with
 | nil=>intro g e;rw[eP,Gj];rfl
 | cons a f ih =>
  intro g e
  cases g with
  | nil=>rw[eP,HT];rfl
  | cons b g =>
   cases e with
   | nil=>rfl
   | cons x e =>
    refine (congrArg ((a+b) * x + ·) (ih g e)).trans ?_
    show _=a * x+ev f e+(b * x+ev g e)
    rw[Int.add_mul,MH,MH,Int.add_left_comm (b * x)]
theorem tL(m:Int)(f:List Int):∀ e:List Int,ev (sm m f) e=m * ev f e:=by
 induction f with
 | nil=>intro e;rw[eP,MY];exact eP e
 | cons a f ih =>
  intro e
  cases e with
  | nil=>exact (MY m).symm
  | cons x e=>exact (congrArg (m * a * x + ·) (ih e)).trans (by rw[Int.mul_assoc];exact (Int.mul_add _ _ _).symm)
noncomputable def sub(f g:List Int):List Int:=add f (sm (-1) g)
theorem ny(f g e:List Int):ev (sub f g) e=ev f e - ev g e:=(nA _ _ _).trans (by rw[tL,Lc,IR];rfl)
noncomputable def uf:Nat->List Int
 | 0=>[1]
 | i+1=>0::uf i
noncomputable def cf(f:List Int)(i:Nat):Int:=f.getD i 0
noncomputable def bad(c:List Int):Bool:=match c with
 | []=>false
 | a::f=>decide (a<0)&&f.all λb=>decide (b=0)
noncomputable def one(i:Nat)(cs:List (List Int)):List (List Int) :=
 (cs.filter λc=>decide (cf c i=0))++(cs.filter λc=>decide (0<cf c i)).flatMap λp=>(cs.filter λc=>decide (cf c i<0)).map λq=>add (sm (-(cf q i)) p) (sm (cf p i) q)
noncomputable def fm:Nat->List (List Int)->Bool
 | 0,cs=>cs.any bad
 | n+1,cs=>cs.any bad || fm n (one (n+1) cs)
theorem wT(f:List Int):∀ (e:List Int),(f.all λb=>decide (b=0))=true->ev f e=0:=by
 induction f with
 | nil=>exact λe Z=>eP e
 | cons a f ih =>
  intro e h
  have h:=zo.mp (MI.symm.trans h)
  cases e with
  | nil=>rfl
  | cons x e=>exact (congrArg (a * x + ·) (ih e h.2)).trans (by rw[of_decide_eq_true h.1,MZ];rfl)
def lF(e:List Int)(gs:List (List Int)):Prop:=∀ g∈gs,0<=ev g (1::e)
variable{e:List Int}
theorem uV{cs:List (List Int)}(h:lF e cs)(hb:cs.any bad=true):False:=by
 obtain⟨c,hc,hb⟩:=KA.mp hb
 have:=h _ hc
 cases c with
 | nil=>cases hb
 | cons a f =>
  have hb:=zo.mp hb
  exact absurd (of_decide_eq_true hb.1) (Gw.mpr (DG this (HU ((congrArg (a * 1 + ·) (wT f e hb.2)).trans (by rw[G6];exact HT a)))))
theorem fm_no(n:Nat):∀ cs:List (List Int),lF e cs->fm n cs=true->False:=by
 induction n with
 | zero=>exact λcs=>uV
 | succ n ih =>
  refine λcs h hf=>((Ls _ _).mp hf).elim (uV h) (ih _ λc hc=>(zc.mp hc).elim (λhc=>h c (By.mp hc).1) λhc=>?_)
  obtain⟨p,hp,hc⟩:=BU.mp hc
  obtain⟨r,hr,rfl⟩:=za.mp hc
  have hp:=By.mp hp
  have hr:=By.mp hr
  rw[nA,tL,tL]
  exact Int.add_nonneg (L3 (Int.neg_nonneg_of_nonpos (HV (of_decide_eq_true hr.2))) (h p hp.1)) (L3 (HV (of_decide_eq_true hp.2)) (h r hr.1))
theorem eG{a b:List (List Int)}(h:lF e a)(h2:lF e b):lF e (a++b):=λg hg=>(zc.mp hg).elim (h g) (h2 g)
theorem gr{c:List Int}{b:List (List Int)}(h:0<=ev c (1::e))(h2:lF e b):lF e (c::b):=λg hg=>(y7.mp hg).elim (λz=>z▸h) (h2 g)
abbrev Fs:=List (List (List Int)×List Int)
def Is(e:List Int)(z:Int)(p:List (List Int)×List Int):Prop:=lF e p.1/\ev p.2 (1::e)=z
def Has(e:List Int)(z:Int)(l:Fs):Prop:=∃ p∈l,Is e z p
noncomputable def cad(x y:Fs):Fs:=x.flatMap λp=>y.map λq=>(p.1++q.1,add p.2 q.2)
noncomputable def csm(m:Int)(x:Fs):Fs:=x.map λp=>(p.1,sm m p.2)
noncomputable def cs2(f g:List Int->List Int->List Int)(x y:Fs):Fs:=x.flatMap λp=>y.flatMap λq=>[(sub p.2 q.2::p.1++q.1,f p.2 q.2),(sub q.2 p.2::p.1++q.1,g p.2 q.2)]
variable{x y:Fs}{a b z:Int}
theorem km{f:List Int}(h:ev f (1::e)=z):Has e z [([],f)]:=⟨_,.head _,λg hg=>(by cases hg),h⟩
theorem Has.to{l:Fs}(h:Has e a l)(i:a=b):Has e b l:=i▸h
theorem rj(hx:Has e a x)(hy:Has e b y):Has e (a+b) (cad x y) :=
 hx.elim λp hp=>hy.elim λq hq=>⟨_,BU.mpr ⟨p,hp.1,za.mpr ⟨q,hq.1,rfl⟩⟩,eG hp.2.1 hq.2.1,by rw[nA,hp.2.2,hq.2.2]⟩
theorem nE(m:Int)(hx:Has e a x):Has e (m * a) (csm m x):=hx.elim λp hp=>⟨_,za.mpr ⟨p,hp.1,rfl⟩,hp.2.1,by rw[tL,hp.2.2]⟩
theorem rb{f g:List Int->List Int->List Int}(hx:Has e a x)(hy:Has e b y)(h1:b<=a->∀ p q,ev p (1::e)=a->ev q (1::e)=b->ev (f p q) (1::e)=z)(h2:a<=b->∀ p q,ev p (1::e)=a->ev q (1::e)=b->ev (g p q) (1::e)=z):Has e z (cs2 f g x y) :=
 hx.elim λp hp=>hy.elim λq hq=>(Int.le_total b a).elim
  (λh=>⟨_,BU.mpr ⟨p,hp.1,BU.mpr ⟨q,hq.1,.head _⟩⟩,gr (by rw[ny,hp.2.2,hq.2.2];exact Eg h) (eG hp.2.1 hq.2.1),h1 h _ _ hp.2.2 hq.2.2⟩)
  λh=>⟨_,BU.mpr ⟨p,hp.1,BU.mpr ⟨q,hq.1,.tail _ (.head _)⟩⟩,gr (by rw[ny,hp.2.2,hq.2.2];exact Eg h) (eG hp.2.1 hq.2.1),h2 h _ _ hp.2.2 hq.2.2⟩
theorem yc(hx:Has e a x)(hy:Has e b y):Has e (L4 a b) (cs2 (λZ q=>q) (λp Z=>p) x y):=rb hx hy (λh Z Z Z i=>i.trans (KC h).symm) λh Z Z i Z=>i.trans (Lu h).symm
theorem x6(hx:Has e a x)(hy:Has e b y):Has e (max a b) (cs2 (λp Z=>p) (λZ q=>q) x y):=rb hx hy (λh Z Z i Z=>i.trans (Lv h).symm) λh Z Z Z i=>i.trans (KE h).symm
inductive E where
 | v (i:Nat)
 | n (k:Nat)
 | a (x y:E)
 | s (x y:E)
 | mn (x y:E)
 | mx (x y:E)
 | m (k:Nat) (x:E)
inductive F where
 | c (x:E)
 | w (i:Nat)
 | k (z:Int)
 | a (x y:F)
 | s (x y:F)
 | mn (x y:F)
 | mx (x y:F)
 | m (z:Int) (x:F)
 | g (x:F)
noncomputable def E.d(xs:List Nat):E->Nat
 | .v i=>xs.getD i 0
 | .n k=>k
 | .a x y=>x.d xs+y.d xs
 | .s x y=>x.d xs - y.d xs
 | .mn x y=>L4 (x.d xs) (y.d xs)
 | .mx x y=>max (x.d xs) (y.d xs)
 | .m k x=>k * x.d xs
noncomputable def F.d(xs:List Nat)(ys:List Int):F->Int
 | .c x=>(x.d xs:Int)
 | .w i=>ys.getD i 0
 | .k z=>z
 | .a x y=>x.d xs ys+y.d xs ys
 | .s x y=>x.d xs ys - y.d xs ys
 | .mn x y=>L4 (x.d xs ys) (y.d xs ys)
 | .mx x y=>max (x.d xs ys) (y.d xs ys)
 | .m z x=>z * x.d xs ys
 | .g x=>- x.d xs ys
noncomputable def E.l(j:Nat):E->Fs
 | .v i=>[([],if i<j then uf (i+1) else [])]
 | .n k=>[([],[HC k])]
 | .a x y=>cad (x.l j) (y.l j)
 | .s x y=>cs2 sub (λZ Z=>[]) (x.l j) (y.l j)
 | .mn x y=>cs2 (λZ q=>q) (λp Z=>p) (x.l j) (y.l j)
 | .mx x y=>cs2 (λp Z=>p) (λZ q=>q) (x.l j) (y.l j)
 | .m k x=>csm (HC k) (x.l j)
noncomputable def F.l(j:Nat):F->Fs
 | .c x=>x.l j
 | .w i=>[([],uf (j+i+1))]
 | .k z=>[([],[z])]
 | .a x y=>cad (x.l j) (y.l j)
 | .s x y=>cad (x.l j) (csm (-1) (y.l j))
 | .mn x y=>cs2 (λZ q=>q) (λp Z=>p) (x.l j) (y.l j)
 | .mx x y=>cs2 (λp Z=>p) (λZ q=>q) (x.l j) (y.l j)
 | .m z x=>csm z (x.l j)
 | .g x=>csm (-1) (x.l j)
noncomputable def en(xs:List Nat)(ys:List Int):List Int:=xs.map HC++ys
variable{xs:List Nat}{ys:List Int}
theorem yJ(i:Nat):∀ e:List Int,ev (uf i) e=e.getD i 0:=by
 induction i with
 | zero =>
  intro e
  cases e with
  | nil=>rfl
  | cons x e=>exact (congrArg (1 * x + ·) (eP e)).trans (by rw[IR];exact HT x)
 | succ i ih =>
  intro e
  cases e with
  | nil=>rfl
  | cons x e=>exact (congrArg (0 * x + ·) (ih e)).trans (by rw[MZ];exact Gj _)
theorem ku(z:Int):ev [z] (1::e)=z:=(congrArg (z * 1 + ·) (eP e)).trans (by rw[G6];exact HT z)
theorem en_v{i:Nat}(h:i<xs.length):ev (uf (i+1)) (1::en xs ys)=(xs.getD i 0:Int):=by
 rw[yJ]
 show (xs.map HC++ys).getD i 0=_
 rw[Bg,Bg,Dd (by rw[zb];exact h),zB,zj h];rfl
theorem E.ok:∀ x:E,Has (en xs ys) (x.d xs) (x.l xs.length)
 | .v i=>km (by
  show ev (if i<xs.length then uf (i+1) else []) _=_
  by_cases h:i<xs.length
  ·rw[if_pos h];exact en_v h
  ·rw[if_neg h,eP];show (0:Int)=(xs.getD i 0:Nat);rw[Bg,zP (Ey h)];rfl)
 | .n k=>km (ku _)
 | .a x y=>rj x.ok y.ok
 | .s x y=>rb x.ok y.ok (λh Z Z i j=>by rw[ny,i,j];exact (Int.ofNat_sub (DH.mp h)).symm) λh Z Z Z Z=>by
   show ev [] _=((x.d xs - y.d xs:Nat):Int)
   rw[eP,Nat.sub_eq_zero_of_le (DH.mp h)];rfl
 | .mn x y=>(yc x.ok y.ok).to ((M0 (x.d xs) (y.d xs)).elim (λh=>(Lu (DH.mpr h)).trans (congrArg _ (Iv h).symm)) λh=>(KC (DH.mpr h)).trans (congrArg _ (Nat.min_eq_right h).symm))
 | .mx x y=>(x6 x.ok y.ok).to ((M0 (x.d xs) (y.d xs)).elim (λh=>(KE (DH.mpr h)).trans (congrArg _ (BF h).symm)) λh=>(Lv (DH.mpr h)).trans (congrArg _ (Iw h).symm))
 | .m k x=>nE _ x.ok
theorem F.ok:∀ x:F,Has (en xs ys) (x.d xs ys) (x.l xs.length)
 | .c x=>x.ok
 | .w i=>km (by
  rw[yJ]
  show (xs.map HC++ys).getD (xs.length+i) 0=ys.getD i 0
  rw[Bg,Gx (by rw[zb];exact Ck _ _),zb,HD];rfl)
 | .k z=>km (ku z)
 | .a x y=>rj x.ok y.ok
 | .s x y=>(rj x.ok (nE (-1) y.ok)).to (by rw[Lc,IR];rfl)
 | .mn x y=>yc x.ok y.ok
 | .mx x y=>x6 x.ok y.ok
 | .m z x=>nE z x.ok
 | .g x=>(nE (-1) x.ok).to (by rw[Lc,IR];rfl)
abbrev Cs:=List (List (List Int))
def Som(e:List Int)(l:Cs):Prop:=∃ c∈l,lF e c
noncomputable def pr(a b:Cs):Cs:=a.flatMap λp=>b.map λq=>p++q
noncomputable def rl(k:List Int)(x y:Fs):Cs:=x.flatMap λp=>y.map λq=>add k (sub q.2 p.2)::p.1++q.1
noncomputable def rle(x y:Fs):Bool->Cs
 | true=>rl [] x y
 | false=>rl [-1] y x
noncomputable def req(x y:Fs):Bool->Cs
 | true=>pr (rl [] x y) (rl [] y x)
 | false=>rl [-1] x y++rl [-1] y x
theorem kR{a b:Cs}(h:Som e a)(h2:Som e b):Som e (pr a b):=h.elim λc hc=>h2.elim λd hd=>⟨_,BU.mpr ⟨c,hc.1,za.mpr ⟨d,hd.1,rfl⟩⟩,eG hc.2 hd.2⟩
theorem r9{a b:Cs}(h:Som e a):Som e (a++b):=h.elim λc hc=>⟨c,y5 _ hc.1,hc.2⟩
theorem r8{a b:Cs}(h:Som e b):Som e (a++b):=h.elim λc hc=>⟨c,yZ _ hc.1,hc.2⟩
theorem xD{k:List Int}{c:Int}(hx:Has e a x)(hy:Has e b y)(hk:ev k (1::e)=c)(h:0<=c+(b - a)):Som e (rl k x y) :=
 hx.elim λp hp=>hy.elim λq hq=>⟨_,BU.mpr ⟨p,hp.1,za.mpr ⟨q,hq.1,rfl⟩⟩,gr (by rw[nA,ny,hk,hp.2.2,hq.2.2];exact h) (eG hp.2.1 hq.2.1)⟩
theorem rl_le(hx:Has e a x)(hy:Has e b y)(h:a<=b):Som e (rl [] x y):=xD hx hy (eP _) (by rw[Gj];exact Eg h)
theorem vG(hx:Has e a x)(hy:Has e b y)(h:a<b):Som e (rl [-1] x y):=xD hx hy (ku _) (by rw[Int.add_comm];exact Int.le_sub_one_of_lt (Int.sub_pos_of_lt h))
def Ok(e:List Int)(p:Prop)(w:Bool->Cs):Prop:=(p->Som e (w true))/\(¬ p->Som e (w false))
theorem n9(hx:Has e a x)(hy:Has e b y):Ok e (a<=b) (rle x y):=⟨rl_le hx hy,λh=>vG hy hx (HW.mp h)⟩
theorem sC(hx:Has e a x)(hy:Has e b y):Ok e (a=b) (req x y):=⟨λh=>kR (rl_le hx hy (HU h)) (rl_le hy hx (HU h.symm)),
 λh=>(Int.lt_or_gt_of_ne h).elim (λq=>r9 (vG hx hy q)) λq=>r8 (vG hy hx q)⟩
theorem Ok.to{p q:Prop}{w:Bool->Cs}(h:Ok e p w)(i:q↔p):Ok e q w:=⟨λz=>h.1 (i.mp z),λz=>h.2 λy=>z (i.mpr y)⟩
theorem Ok.no{p:Prop}{w:Bool->Cs}(h:Ok e p w):Ok e (¬ p) λb=>w !b:=⟨h.2,λz=>h.1 (Classical.not_not.mp z)⟩
theorem Ok.dec{p:Prop}[Decidable p]{w:Bool->Cs}(h:Ok e p w):∀ t:Bool,Ok e (decide p=t) λb=>w (b==t)
 | true=>h.to (decide_eq_true_iff)
 | false=>h.no.to (decide_eq_false_iff_not)
inductive P where
 | le (x y:E)
 | lt (x y:E)
 | eq (x y:E)
 | ne (x y:E)
 | Le (x y:F)
 | Lt (x y:F)
 | Eq (x y:F)
 | Ne (x y:F)
 | dl (x y:F) (b:Bool)
 | de (x y:F) (b:Bool)
 | f
 | no (p:P)
 | an (p q:P)
 | or (p q:P)
 | i (p q:P)
def P.d(xs:List Nat)(ys:List Int):P->Prop
 | .le x y=>x.d xs<=y.d xs
 | .lt x y=>x.d xs<y.d xs
 | .eq x y=>x.d xs=y.d xs
 | .ne x y=>x.d xs≠y.d xs
 | .Le x y=>x.d xs ys<=y.d xs ys
 | .Lt x y=>x.d xs ys<y.d xs ys
 | .Eq x y=>x.d xs ys=y.d xs ys
 | .Ne x y=>x.d xs ys≠y.d xs ys
 | .dl x y b=>decide (x.d xs ys<y.d xs ys)=b
 | .de x y b=>decide (x.d xs ys<=y.d xs ys)=b
 | .f=>False
 | .no p=>¬ p.d xs ys
 | .an p q=>p.d xs ys/\q.d xs ys
 | .or p q=>p.d xs ys\/q.d xs ys
 | .i p q=>p.d xs ys->q.d xs ys
noncomputable def P.w(j:Nat):P->Bool->Cs
 | .le x y=>rle (x.l j) (y.l j)
 | .lt x y=>λb=>rle (y.l j) (x.l j) !b
 | .eq x y=>req (x.l j) (y.l j)
 | .ne x y=>λb=>req (x.l j) (y.l j) !b
 | .Le x y=>rle (x.l j) (y.l j)
 | .Lt x y=>λb=>rle (y.l j) (x.l j) !b
 | .Eq x y=>req (x.l j) (y.l j)
 | .Ne x y=>λb=>req (x.l j) (y.l j) !b
 | .dl x y t=>λb=>rle (y.l j) (x.l j) !(b==t)
 | .de x y t=>λb=>rle (x.l j) (y.l j) (b==t)
 | .f=>λb=>if b then [] else [[]]
 | .no p=>λb=>p.w j !b
 | .an p q=>λb=>if b then pr (p.w j true) (q.w j true) else p.w j false++q.w j false
 | .or p q=>λb=>if b then p.w j true++q.w j true else pr (p.w j false) (q.w j false)
 | .i p q=>λb=>if b then p.w j false++q.w j true else pr (p.w j true) (q.w j false)
theorem P.ok:∀ p:P,Ok (en xs ys) (p.d xs ys) (p.w xs.length)
 | .le x y=>(n9 x.ok y.ok).to DH.symm
 | .lt x y=>(n9 y.ok x.ok).no.to (Di.symm.trans HW.symm)
 | .eq x y=>(sC x.ok y.ok).to MJ.symm
 | .ne x y=>(sC x.ok y.ok).no.to (not_congr MJ.symm)
 | .Le x y=>n9 x.ok y.ok
 | .Lt x y=>(n9 y.ok x.ok).no.to HW.symm
 | .Eq x y=>sC x.ok y.ok
 | .Ne x y=>(sC x.ok y.ok).no
 | .dl x y t=>(((n9 y.ok x.ok).no.to HW.symm).dec t)
 | .de x y t=>(n9 x.ok y.ok).dec t
 | .f=>⟨False.elim,λZ=>⟨[],.head _,λg hg=>by cases hg⟩⟩
 | .no p=>p.ok.no
 | .an p q=>⟨λh=>kR (p.ok.1 h.1) (q.ok.1 h.2),λh=>(Classical.not_and_iff_not_or_not.mp h).elim (λz=>r9 (p.ok.2 z)) λz=>r8 (q.ok.2 z)⟩
 | .or p q=>⟨λh=>h.elim (λz=>r9 (p.ok.1 z)) λz=>r8 (q.ok.1 z),λh=>kR (p.ok.2 λz=>h (.inl z)) (q.ok.2 λz=>h (.inr z))⟩
 | .i p q=>⟨λh=>(Classical.em (p.d xs ys)).elim (λz=>r8 (q.ok.1 (h z))) λz=>r9 (p.ok.2 z),
   λh=>kR (p.ok.1 (BB λz=>h λy=>absurd y z)) (q.ok.2 λz=>h λZ=>z)⟩
noncomputable def us:Nat->List (List Int)
 | 0=>[]
 | k+1=>uf (k+1)::us k
theorem xo:∀ k,k<=xs.length->lF (en xs ys) (us k)
 | 0,_=>λg hg=>by cases hg
 | k+1,h=>gr (by rw[en_v h];exact DI _) (xo k (Af h))
def D(xs:List Nat)(ys:List Int):List P->P->Prop
 | [],c=>c.d xs ys
 | h::t,c=>h.d xs ys->D xs ys t c
noncomputable def W(j:Nat):List P->P->Cs
 | [],c=>c.w j false
 | h::t,c=>pr (h.w j true) (W j t c)
theorem D_ok(c:P):∀ hs:List P,(Som (en xs ys) (W xs.length hs c)->False)->D xs ys hs c:=by
 intro hs
 induction hs with
 | nil =>
  intro k
  exact BB λq=>k (c.ok.2 q)
 | cons _ t ih =>
  intro k
  exact λz=>ih λq=>k (kR (P.ok _ |>.1 z) q)
noncomputable abbrev A:E:=.v 0
noncomputable abbrev B:E:=.v 1
noncomputable abbrev C:E:=.v 2
noncomputable abbrev G:E:=.v 3
noncomputable abbrev H:E:=.v 4
noncomputable abbrev I:E:=.v 5
noncomputable abbrev J:E:=.v 6
noncomputable abbrev K:E:=.v 7
theorem ok(hs:List P)(c:P)(xs:List Nat)(ys:List Int:=[])(h:((W xs.length hs c).all λq=>fm (xs.length+ys.length) (us xs.length++q))=true:=by kernel_rfl):D xs ys hs c :=
 D_ok c hs λq=>q.elim λg hg=>fm_no _ _ (eG (xo _ (zh _)) hg.2) (zC.mp h g hg.1)
end Ar
end Mine
end
noncomputable section
namespace Mine
theorem dn(k:Nat){x m:Nat}(h:x+k<m):x<m:=Bq (Ck x k) h
theorem up(k:Nat){x m:Nat}(h:x<=m):x<=m+k:=zk h (Ck m k)
theorem ul(k:Nat){x m:Nat}(h:x<m):x<=m+k:=zk (Af h) (Ck m k)
section
open Ar
open Ar.E (n v)
set_option linter.defProp false
variable{a b c d e f g h i j k l m:Nat}
def z02:=ok [] (.le A (.a (.a (.a A (.a (.a (n 0) (n 1)) (n 1))) (n 1)) (n 1))) [a]
def z03:=ok [] (.lt (.a (.a (.a A (.a (.a (n 0) (n 1)) (n 1))) (n 1)) (n 1)) (.a (.a (.a (.a A (.a (.a (n 0) (n 1)) (n 1))) (n 1)) (n 1)) (n 1))) [a]
def z04:=ok [] (.le A (.a A (.a (.a (n 0) (n 1)) (n 1)))) [a]
def z05:=ok [] (.lt (.a A (.a (.a (n 0) (n 1)) (n 1))) (.a (.a A (.a (.a (n 0) (n 1)) (n 1))) (n 1))) [a]
def z07:=ok [.eq A (n 0)] (.eq B (.a B A)) [a,b]
def z08:=ok [] (.le A (.a A (n 1))) [a]
def z09:=ok [.eq A (.a B C)] (.eq (.a A G) (.a (.a B C) G)) [a,b,c,d]
def z0a:=ok [] (.eq (.a A (.a B C)) (.a (.a A B) C)) [a,b,c]
def z0b:=ok [] (.eq (.a A (.a B C)) (.a B (.a A C))) [a,b,c]
def z0c:=ok [.no (.lt A B)] (.le B A) [a,b]
def z0d:=ok [.no (.le (n 2) A)] (.lt A (n 2)) [a]
def z0e:=ok [.le A B,.le (.a B C) (.mx A G),.le H (.s B A),.le I (.s G (.a B C))] (.le (.a (.a C H) I) (.s G A)) [a,b,c,d,e,f]
def z0j:=ok [.le A (n 60),.le B A] (.lt B (n 64)) [a,b]
def z0k:=ok [.le A (n 60),.le B A] (.le B (n 60)) [a,b]
def z0l:=ok [.le A (n 60),.lt B A,.le C B] (.le C (n 1000)) [a,b,c]
def z0m:=ok [.le A B,.le C (.a A (n 1))] (.le C (.a B (n 1))) [a,b,c]
def z0n:=ok [.eq (.a A B) C,.eq (.a G H) (.a (.a A B) I)] (.eq (.a G H) (.a C I)) [a,b,c,d,e,f]
def z0o:=ok [.le A (n 60),.le B A] (.le B (n 10000)) [a,b]
def z0q:=ok [.le A (n 60),.le B A] (.le B (n 61)) [a,b]
def z0v:=ok [.eq A B,.eq C A] (.eq C B) [a,b,c]
def z0w:=ok [.le A (n 62),.eq B A] (.le B (n 100)) [a,b]
def z0x:=ok [] (.Eq (.a (.c A) (.c B)) (.c (.a A B))) [a,b]
def z0z:=ok [] (.le A (.a (.a A (.a (n 0) (n 1))) (n 1))) [a]
def z11:=ok [] (.le (.a A (n 3)) (.a A (n 10))) [a]
def z12:=ok [.le A B,.le (.a B (n 1)) C] (.le A C) [a,b,c]
def z13:=ok [] (.Le (.k 0) (.c A)) [a]
def z14:=ok [.le A (n 60),.le B A] (.Le (.c B) (.k 1000)) [a,b]
def z15:=ok [] (.Le (.k 0) (.a (.c A) (.c B))) [a,b]
def z16:=ok [.le A (n 60),.le B (n 60)] (.Le (.a (.c A) (.c B)) (.k 1000)) [a,b]
def z18:=ok [.lt (.a A (n 6)) B,.eq C (.a A (n 1))] (.lt (.a C (n 4)) B) [a,b,c]
def z19:=ok [.lt (.a A (n 40)) B,.le C (.a A (n 10))] (.lt (.a C (n 20)) B) [a,b,c]
def z1a:=ok [.lt (.a A (n 6)) B,.eq C (.a A (n 1))] (.lt C B) [a,b,c]
def z1f:=ok [.le (.a A (n 1)) B] (.le A B) [a,b]
def z1i:=ok [.lt (n 0) A] (.no (.eq A (n 0))) [a]
def z1k:=ok [] (.le (n 1) (.a A (n 1))) [a]
def z1r:=ok [.le A B,.le C A] (.le C B) [a,b,c]
def z1s:=ok [] (.or (.le A B) (.le B A)) [a,b]
def z1w:=ok [.ne A (n 1)] (.no (.Eq (.c A) (.k 1))) [a]
def z1y:=ok [.de (.c B) (.c A) true] (.le B A) [a,b]
def z1z:=ok [.de (.c B) (.c A) false] (.lt A B) [a,b]
def z20:=ok [.eq A B] (.no (.lt A B)) [a,b]
def z21:=ok [.le A (n 60)] (.lt A (n 64)) [a]
def z22:=ok [.le (n 2) A] (.lt (n 0) A) [a]
def z26{a:Int}:=ok [.Le (.k (-60)) (.w 0),.Le (.w 0) (.k 0)] (.an (.Le (.k (-400)) (.w 0)) (.Le (.w 0) (.k 400))) [] [a]
theorem z27{a b:Nat}{c d:Int}(h:decide (a=b)=true)(q:(c==d)=true):¬↑a * 1000+c < ↑b * 1000+d:=by rw[of_decide_eq_true h,Ap q];exact Int.lt_irrefl _
def z2a:=ok [.lt A B,.eq B C] (.lt A C) [a,b,c]
def z2b{b:Int}:=ok [.Le (.g (.c A)) (.w 0)] (.Le (.g (.c (.a A (n 1)))) (.w 0)) [a] [b]
def z2c{a:Int}:=ok [.Le (.w 0) (.k 0)] (.Le (.s (.w 0) (.k 1)) (.k 0)) [] [a]
def z2d{b:Int}:=ok [.Le (.g (.c A)) (.w 0)] (.Le (.g (.c (.a A (n 1)))) (.s (.w 0) (.k 1))) [a] [b]
def z2e{b:Int}:=ok [.lt A (n 60),.Le (.w 0) (.k 0),.Le (.g (.c A)) (.w 0)] (.an (.Le (.k (-60)) (.w 0)) (.Le (.w 0) (.k 0))) [a] [b]
def z2f:=ok [.lt A B] (.le A B) [a,b]
def z2g:=ok [] (.Le (.g (.a (.c A) (.c (.a B (n 1))))) (.g (.c A))) [a,b]
def z2h:=ok [] (.Le (.g (.c A)) (.k 0)) [a]
def z2i:=ok [] (.eq (.a A (.a B (n 1))) (.a (.a A (n 1)) B)) [a,b]
def z2j{c:Int}:=ok [.Le (.g (.a (.c (.a A (n 1))) (.c B))) (.w 0),.Le (.w 0) (.k 0)] (.an (.Le (.g (.a (.c A) (.c (.a B (n 1))))) (.w 0)) (.Le (.w 0) (.k 0))) [a,b] [c]
def z2k:=ok [.le A (n 60),.lt B A] (.lt B (n 61)) [a,b]
def z2l:=ok [.lt A B,.eq C A] (.le C B) [a,b,c]
def z2m{d:Int}:=ok [.le A (n 60),.lt B A,.eq C B,.Le (.g (.a (.c (n 0)) (.c C))) (.w 0),.Le (.w 0) (.k 0)] (.an (.Le (.k (-60)) (.w 0)) (.Le (.w 0) (.k 0))) [a,b,c] [d]
def z2n:=ok [.le A (n 60),.lt B A,.eq C B] (.le C (n 1000)) [a,b,c]
def z2o:=ok [.lt (n 0) A,.eq B A,.eq B (n 0)] .f [a,b]
def z2q:=ok [] (.Le (.g (.c A)) (.g (.c A))) [a]
def z2r:=ok [.eq A B,.eq C B,.lt G A] (.lt G C) [a,b,c,d]
def z2u:=ok [.le A (n 60),.eq (.a B (n 1)) A] (.le B (n 999)) [a,b]
def z2v:=ok [.eq A B,.lt C B] (.lt C A) [a,b,c]
theorem z2w{a b:Nat}{c:Prop}(h:a+1=b)(q:0=b):c:=(Lw (h.trans q.symm))
def z2x:=ok [.le A (n 60),.eq (.a B (n 1)) A] (.le B (n 900)) [a,b]
theorem z2y{a b:Nat}(h:decide (a<b)=false):b<=a:=Ey (of_decide_eq_false h)
theorem z2z{a:Nat}{b:Prop}(h:0<a)(q:0=a):b:=(Ab h q).elim
def z30:=ok [.le A (n 60),.lt B A,.eq (.a C (n 1)) B] (.le C (n 900)) [a,b,c]
def z31:=ok [.le A (n 60),.lt B A] (.lt B (n 60)) [a,b]
def z32:=ok [.le A (n 60),.lt B A] (.le B (n 60)) [a,b]
theorem z33{a:Int}{b:Nat}(h : -60<=a):0<=↑b * 1000+a+60:=by rw[Gk];exact ok [.Le (.k (-60)) (.w 0)] (.Le (.k 0) (.a (.a (.m 1000 (.c A)) (.w 0)) (.k 60))) [b] [a] (by kernel_rfl) h
def z34:=ok [.le A (n 60),.lt B A,.eq (.a C (n 1)) B] (.lt (.a C (n 1)) (n 64)) [a,b,c]
def z37{a b:Int}:=ok [.Eq (.c A) (.mx (.a (.w 0) (.k 60)) (.k 0)),.Eq (.c B) (.mx (.a (.w 1) (.k 60)) (.k 0)),.le A B,.Le (.k 0) (.a (.w 1) (.k 60))] (.Le (.w 0) (.w 1)) [(Dg (a+(60:Int))),(Dg (b+(60:Int)))] [a,b] (by kernel_rfl) (AX (a+(60:Int))) (AX (b+(60:Int)))
def z38:=ok [] (.le (.mn A B) A) [a,b]
def z3c:=ok [] (.Le (.k 0) (.mn (.c A) (.c B))) [a,b]
def z3d:=ok [.le A (n 60)] (.Le (.mn (.c A) (.c B)) (.k 1000)) [a,b]
def z3m:=ok [.le (.a (.a A (n 1)) (n 1)) B] (.le A B) [a,b]
def z4h:=ok [.lt A B] (.eq (.mn A B) A) [a,b]
def z4j:=ok [.lt (n 0) A] (.Ne (.c A) (.k 0)) [a]
def z64:=ok [] (.lt (n 0) (.a A (n 1))) [a]
def z6o:=ok [.no (.eq A (n 0))] (.lt (n 0) A) [a]
def z6t:=ok [.lt A B,.eq C A,.le B (n 60),.le G C] (.le G (n 1000)) [a,b,c,d]
def z6u:=ok [.le A (n 60)] (.no (.Le (.k 200) (.c A))) [a]
def z6x:=ok [.lt A B,.le C A,.le B (n 60)] (.le C (n 1000)) [a,b,c]
def z6y:=ok [.le A B] (.le (.a A (n 1)) (.a B (n 1))) [a,b]
def z6z:=ok [.dl (.k 0) (.s (.c A) (.c B)) true] (.lt B A) [a,b]
def z70:=ok [.dl (.k 0) (.s (.c A) (.c B)) false] (.no (.lt B A)) [a,b]
def z72:=ok [.le A B,.le (.a C G) A,.dl (.c H) (.c C) true] (.lt (.s C (n 1)) B) [a,b,c,d,e]
def z73:=ok [.dl (.c A) (.c B) true] (.Eq (.s (.c B) (.k 1)) (.c (.s B (n 1)))) [a,b]
def z74:=ok [.dl (.c A) (.c B) true] (.lt A B) [a,b]
def z75:=ok [.le A B,.dl (.a (.c C) (.c G)) (.c A) true] (.lt (.a C G) B) [a,b,c,d]
def z76:=ok [.dl (.a (.c A) (.c B)) (.c C) true] (.lt (.a A B) C) [a,b,c]
def z77:=ok [.le A (n 100),.le B C,.le G A,.lt C G] (.le B (n 1000)) [a,b,c,d]
def z78:=ok [.le A B] (.le A (.a B (n 1))) [a,b]
def z79:=ok [.lt A B,.le B A] (.le C A) [a,b,c]
def z7a:=ok [.le A (n 100),.lt B C,.le G B,.le C A] (.le G (n 100)) [a,b,c,d]
def z7b:=ok [.le A B,.lt B C] (.an (.le A B) (.lt B C)) [a,b,c]
def z7c:=ok [.de (.c A) (.c B) true] (.le A B) [a,b]
def z7d:=ok [.le A (n 100),.le B C,.le C A] (.le B (n 100)) [a,b,c]
def z7e:=ok [.dl (.c A) (.c B) false] (.le B A) [a,b]
def z7f:=ok [.de (.c A) (.c B) false] (.lt B A) [a,b]
def z7j:=ok [.le A (.s (.a B (n 1)) C)] (.Eq (.a (.s (.c B) (.c A)) (.k 1)) (.c (.s (.a B (n 1)) A))) [a,b,c]
def z7k:=ok [.dl (.c A) (.c B) false] (.no (.lt A B)) [a,b]
def z7l:=ok [] (.Le (.k (-1000)) (.c A)) [a]
def z7m:=ok [.le A B,.le B C,.le C (n 60)] (.Le (.c A) (.k 1000)) [a,b,c]
def z7n:=ok [.le A B,.le B (n 60)] (.Le (.c A) (.k 1000)) [a,b]
def z7o:=ok [.Eq (.c C) (.mx (.s (.c A) (.c B)) (.k 0))] (.eq C (.s A B)) [a,b,(Dg (((a:Nat):Int) - ((b:Nat):Int)))] [] (by kernel_rfl) (AX (((a:Nat):Int) - ((b:Nat):Int)))
def z7p:=ok [.Eq (.c H) (.mx (.s (.c A) (.c G)) (.k 0)),.le A B,.lt C H] (.lt (.a G C) B) [a,b,c,d,(Dg (((a:Nat):Int) - ((d:Nat):Int)))] [] (by kernel_rfl) (AX (((a:Nat):Int) - ((d:Nat):Int)))
def z7q:=ok [] (.le A (.a A B)) [a,b]
def z7s:=ok [] (.lt A (.a A (.a B (n 1)))) [a,b]
def z7v:=ok [.dl (.c A) (.c B) false] (.no (.an (.lt C G) (.lt A B))) [a,b,c,d]
def z7w:=ok [.dl (.c A) (.c B) false] (.no (.an (.lt A B) (.lt C G))) [a,b,c,d]
def z7x:=ok [.le A (n 1000),.le B (n 1)] (.le (.a A B) (n 10000)) [a,b]
def z7y:=ok [.dl (.a (.c A) (.c B)) (.c C) false] (.no (.an (.lt (.a G B) H) (.lt (.a A B) C))) [a,b,c,d,e]
def z7z:=ok [.dl (.a (.c A) (.c B)) (.c C) false] (.no (.an (.lt (.a A B) C) (.lt (.a G B) H))) [a,b,c,d,e]
def z80:=ok [] (.eq (.a (n 0) (.a A (n 0))) A) [a]
def z81:=ok [.le A B] (.le (.a (n 0) (.a (.s A C) (n 0))) B) [a,b,c]
def z82:=ok [.le A (n 60),.le (.a B C) A,.le G C,.eq G H] (.le H (n 61)) [a,b,c,d,e]
def z85:=ok [.le (.a A (n 1)) (n 61)] (.le A (n 1000)) [a]
def z86:=ok [.le A (n 60),.le B C,.le (.a C (.a G H)) A] (.le B (n 1000)) [a,b,c,d,e]
def z87:=ok [.le (.a A (.a B C)) G] (.le (.a A B) G) [a,b,c,d]
def z88:=ok [] (.lt A (.a A (.a (.a (.m 2 B) (n 1)) (n 0)))) [a,b]
def z8a:=ok [.ne A (n 0),.le (.a (.a A B) C) G,.le H (n 1),.le I (n 1),.eq H J,.eq I K] (.lt (.a (.m 2 (.a (.a (v 8) B) C)) (.a (.a (v 9) J) K)) (.a (.m 2 (.a (v 8) G)) (.a (v 9) (n 1)))) [a,b,c,d,e,f,g,i,j,k]
def z8b:=ok [.eq (.a A (.a B C)) G,.eq C (.a (.a H I) J)] (.eq (.a (.a A H) (.a (.a B I) J)) G) [a,b,c,d,e,f,g]
def z8c:=ok [.le (.a A (.a B C)) G,.le (.a (.a H I) J) C] (.le (.a (.a A H) (.a (.a B I) J)) G) [a,b,c,d,e,f,g]
def z8d:=ok [.eq (.a A B) C,.eq B (n 0)] (.eq A C) [a,b,c]
def z8e:=ok [.le A B,.le (.a B C) G] (.le A G) [a,b,c,d]
def z8f:=ok [.le A B,.le B C] (.le A C) [a,b,c]
def z8h:=ok [.lt (.a A (n 1)) (.a B (n 1))] (.lt A B) [a,b]
def z8j:=ok [.lt A B] (.lt (.a A (n 1)) (.a B (n 1))) [a,b]
def z8k:=ok [.le A B,.le A C,.eq B G,.eq C H] (.le A (.mn G H)) [a,b,c,d,e]
def z8l:=ok [.eq A B,.eq C G,.eq H (.mn B G)] (.or (.le A H) (.le C H)) [a,b,c,d,e]
def z8m:=ok [.eq A B,.eq C G,.eq H (.mn B G)] (.or (.le C H) (.le A H)) [a,b,c,d,e]
def z8n:=ok [.eq A B,.eq C (.mn B G),.eq B G] (.le A C) [a,b,c,d]
def z8o:=ok [.eq A B,.eq C (.mn G B),.eq G B] (.le A C) [a,b,c,d]
def z8p:=ok [.le A (n 60)] (.Lt (.c A) (.k 9223372036854775808)) [a]
def z8t:=ok [.lt A B] (.lt (.s B (.a A (n 1))) (.s B A)) [a,b]
def z8u:=ok [.le A B,.no (.lt A B)] (.eq A B) [a,b]
def z93:=ok [.le A (n 1000)] (.le (.a A (n 1)) (n 16777216)) [a]
def z94:=ok [.eq (.s A B) (n 0),.le B A] (.eq B A) [a,b]
def z96:=ok [.eq (.s A B) (.a C (n 1))] (.lt B A) [a,b,c]
def z98:=ok [.le A (n 1000),.le B A,.eq C B] (.le C (n 16777216)) [a,b,c]
def z99:=ok [.le A (n 1000),.le B A,.eq C B] (.le (.a C (n 1)) (.a (n 16777216) (n 1))) [a,b,c]
def z9a:=ok [.eq (.s A B) (.a C (n 1))] (.eq (.s A (.a B (n 1))) C) [a,b,c]
def z9b:=ok [.eq (.s A B) (.a C (n 1))] (.le (.a B (n 1)) A) [a,b,c]
def z9e:=ok [.lt A (n 2)] (.le A (.a (n 16777216) (n 1))) [a]
def z9h:=ok [.le A B] (.no (.lt B A)) [a,b]
def z9i:=ok [.le A B] (.no (.lt B A)) [a,b]
def z9j{a:Int}:=ok [.Eq (.c A) (.mx (.w 0) (.k 0)),.no (.Lt (.w 0) (.k 0))] (.Eq (.w 0) (.c A)) [(Dg a)] [a] (by kernel_rfl) (AX a)
def z9k:=ok [.lt A B] (.le (n 1) B) [a,b]
def z9m:=ok [.lt A B,.lt C A] (.lt C B) [a,b,c]
def z9n:=ok [.le (.m 2 B) (.s (.a (.m 2 A) (n 1)) (n 1)),.lt (.s (.a (.m 2 A) (n 1)) (n 1)) (.m 2 (.a B (n 1)))] (.eq B A) [a,((((2 * a)+1) - 1) / 2)] [] (by kernel_rfl) (AY _ 2) (z0 _ (by decide))
def z9o:=ok [.le (.m 2 B) (.s (.a (.a (.m 2 A) (n 1)) (n 1)) (n 1)),.lt (.s (.a (.a (.m 2 A) (n 1)) (n 1)) (n 1)) (.m 2 (.a B (n 1)))] (.eq B A) [a,(((((2 * a)+1)+1) - 1) / 2)] [] (by kernel_rfl) (AY _ 2) (z0 _ (by decide))
def z9p:=ok [.le (.m 2 C) B,.lt B (.m 2 (.a C (n 1))),.lt A C] (.lt A B) [a,b,(b / 2)] [] (by kernel_rfl) (AY _ 2) (z0 _ (by decide))
def z9r:=ok [.le (.m 2 C) B,.lt B (.m 2 (.a C (n 1))),.lt A C] (.lt (.a (.m 2 A) (n 1)) B) [a,b,(b / 2)] [] (by kernel_rfl) (AY _ 2) (z0 _ (by decide))
def z9t:=ok [] (.le (n 1) (.a (.m 2 A) (n 1))) [a]
def z9u:=ok [] (.le (n 1) (.a (.a (.m 2 A) (n 1)) (n 1))) [a]
def z9v{d e:Int}:=ok [.no (.lt (.a (.a (.m 2 A) (n 1)) (n 1)) B),.lt C B,.eq C (.a (.m 2 A) (n 2))] (.Le (.w 0) (.w 1)) [a,b,c] [d,e]
def z9w:=ok [.eq A B] (.le A B) [a,b]
theorem z9x{a:Nat}{b:Prop}(h:(↑(0:Nat):Int) - (1:Int)=(↑a:Int)):b:=(ok [.Eq (.s (.c (n 0)) (.k 1)) (.c A)] .f [a] [] (by kernel_rfl) h).elim
def z9y:=ok [.le A (n 1000),.eq B A] (.le B (n 1000)) [a,b]
def z9z:=ok [.no (.eq A B),.le B A] (.lt B A) [a,b]
theorem za0{a:Nat}{b:Prop}(h:(↑(a+(1:Nat)):Int) - (1:Int)<(0:Int)):b:=(ok [.Lt (.s (.c (.a A (n 1))) (.k 1)) (.k 0)] .f [a] [] (by kernel_rfl) h).elim
def za1:=ok [.Eq (.s (.c (.a A (n 1))) (.k 1)) (.c B)] (.eq B A) [a,b]
def za2:=ok [.lt A B] (.ne A B) [a,b]
def za3:=ok [.le (.m 2 J) G,.lt G (.m 2 (.a J (n 1))),.eq (.s A B) C,.eq G A,.lt B J,.eq H B,.lt H I] (.lt (.s A I) C) [a,b,c,d,e,f,(d / 2)] [] (by kernel_rfl) (AY _ 2) (z0 _ (by decide))
def za4:=ok [.eq A B,.lt A C] (.ne C B) [a,b,c]
def za5:=ok [.eq A B,.lt C A] (.lt C B) [a,b,c]
def za6:=ok [.no (.lt A B)] (.le B A) [a,b]
def za7:=ok [.le (.m 2 G) A,.lt A (.m 2 (.a G (n 1))),.eq A B,.no (.lt C G)] (.le B (.a (.m 2 C) (n 1))) [a,b,c,(a / 2)] [] (by kernel_rfl) (AY _ 2) (z0 _ (by decide))
def za8:=ok [.le A (n 1000)] (.no (.lt (n 2500) A)) [a]
def za9{c d:Int}:=ok [.lt A (n 2),.le (n 1) B,.lt B A] (.Le (.w 0) (.w 1)) [a,b] [c,d]
theorem zab{a:Nat}(h:¬a<(2:Nat)):(↑(a / (2:Nat)):Int) - (2:Int)=(↑(a / (2:Nat) - (1:Nat)):Int) - (1:Int):=ok [.no (.lt A (n 2)),.lt A (.m 2 (.a B (n 1)))] (.Eq (.s (.c B) (.k 2)) (.s (.c (.s B (n 1))) (.k 1))) [a,a / 2] [] (by kernel_rfl) h (z0 a (by decide))
def zae:=ok [.le (.m 2 B) A,.lt A (.m 2 (.a B (n 1))),.no (.lt A (n 2))] (.lt (.s B (n 1)) A) [a,(a / 2)] [] (by kernel_rfl) (AY _ 2) (z0 _ (by decide))
theorem zaf{a b:Nat}{c d:Int}(h:a<b)(q:b / 2 - 1+1<=(a - 1) / 2):c<=d:=(ok [.lt A B,.le (.a (.s C (n 1)) (n 1)) G,.lt B (.m 2 (.a C (n 1))),.le (.m 2 G) (.s A (n 1))] .f [a,b,b / 2,(a - 1) / 2] [] (by kernel_rfl) h q (z0 b (by decide)) (AY (a - 1) 2)).elim
theorem zag{a:Nat}{b:Prop}(h:0<a)(q:a=0):b:=(Cc h q).elim
def zak:=ok [.eq (.s A (n 0)) (.a B (n 1))] (.eq (.s A (n 1)) B) [a,b]
def zam:=ok [] (.lt (n 0) (n 1)) []
def zas:=ok [.le (n 2) A] (.no (.lt A (n 2))) [a]
def zat:=ok [.le (n 2) A,.eq B A] (.le (n 2) B) [a,b]
def zau:=ok [.lt A (n 64),.eq B A] (.lt B (n 64)) [a,b]
def zav:=ok [.lt A (n 64)] (.le A (.a (n 16777216) (n 1))) [a]
def zax{a:Int}:=ok [.Eq (.c A) (.mx (.w 0) (.k 0)),.Le (.w 0) (.k 100)] (.le A (n 100)) [(Dg a)] [a] (by kernel_rfl) (AX a)
def zay:=ok [.le (.a A B) (n 1000)] (.le (.a A B) (n 16777216)) [a,b]
def zaz:=ok [.eq A B,.no (.lt C A)] (.le B C) [a,b,c]
def zb1{a:Int}:=ok [.Le (.k 0) (.w 0),.Le (.w 0) (.k 100)] (.an (.Le (.k (-9223372036854775808)) (.w 0)) (.Lt (.w 0) (.k 9223372036854775808))) [] [a]
theorem zb4{a:Nat}{b:Int}(h:a * Dg b<=100000):a * Dg b<=16777216:=zk h (by decide)
def zb9{a b:Int}:=ok [.Lt (.w 0) (.w 1)] (.no (.Le (.w 1) (.w 0))) [] [a,b]
def zba{a b:Int}:=ok [.no (.Lt (.w 0) (.w 1))] (.Le (.w 1) (.w 0)) [] [a,b]
def zbb:=ok [.le A (n 1000)] (.no (.lt (n 16777216) A)) [a]
def zbc:=ok [.le (.a A (.a B (n 1))) C] (.lt A C) [a,b,c]
def zbe:=ok [.le (.a A (.a B (n 1))) C] (.le (.a (.a A (n 1)) B) C) [a,b,c]
def zbf:=ok [] (.le (.a (n 0) A) A) [a]
def zbg:=ok [] (.no (.Lt (.c A) (.k 0))) [a]
def zbi:=ok [.no (.Lt (.c (n 63)) (.c A))] (.le A (n 63)) [a]
def zbj:=ok [.le A B,.eq B (.s C (n 1)),.lt (n 0) C] (.le (.a A (n 1)) C) [a,b,c]
def zbm:=ok [] (.Eq (.s (.s (.c A) (.c B)) (.k 1)) (.s (.c A) (.c (.a B (n 1))))) [a,b]
def zbp:=ok [.lt A (n 1)] (.eq A (n 0)) [a]
theorem zbr{a b:Nat}{c:Bool}(h:a<0):a<=0/\a<=b/\c=true:=(Bo a h).elim
def zbs:=ok [.lt A B] (.lt (n 0) B) [a,b]
theorem zbt{a b:Nat}{c:Bool}(h:0<a)(q:b+a<=0):c=false:=(ok [.lt (n 0) A,.le (.a B A) (n 0)] .f [a,b] [] (by kernel_rfl) h q).elim
def zbv:=ok [.le A B,.lt B (.a A (.s C A))] (.lt B C) [a,b,c]
def zbx:=ok [.lt A B,.le C A] (.lt C B) [a,b,c]
def zby:=ok [.lt A B,.le C A] (.le C B) [a,b,c]
def zbz:=ok [.lt A B] (.lt A (.a C (.s B C))) [a,b,c]
theorem zc0{a:Nat}{b:Bool}(h:a+1=0):b=false:=Lw h
def zc1:=ok [.lt A (.a B (n 1)),.le C (.s (.a B (n 1)) A)] (.le (.a C (n 1)) (.s (.a (.a B (n 1)) (n 1)) A)) [a,b,c]
def zc2:=ok [.le (.a A (.a B (n 1))) (.a C (n 1))] (.le (.a A B) C) [a,b,c]
def zc3:=ok [.le (.a A (.a B (n 1))) C] (.le (.a A B) (.s C (n 1))) [a,b,c]
def zc4:=ok [.lt A B,.le C (.s B (n 1))] (.le (.a C (n 1)) B) [a,b,c]
def zc5:=ok [.lt A (.a B (n 1)),.lt B A] (.le (.a C (n 1)) (.s (.a (.a B (n 1)) (n 1)) A)) [a,b,c]
def zc7:=ok [] (.eq (.s (.a A (n 1)) (.a B (n 1))) (.s A B)) [a,b]
def zc8:=ok [] (.eq (.s A (.a B (n 1))) (.s (.s A (n 1)) B)) [a,b]
def zc9:=ok [.no (.lt (.a A (n 1)) B)] (.le (.a (n 0) (n 1)) (.s (.a (.a A (n 1)) (n 1)) B)) [a,b]
def zcb:=ok [] (.le (n 0) (.s (.a (.a A (n 1)) (n 1)) B)) [a,b]
theorem zcc{a b c:Nat}{d:Bool}(h:a+1<0+1):a+1<=b+1/\a+1<=c/\d=true:=(Bo a (HX h)).elim
theorem zce{a b c:Nat}{d:Bool}(h:a<0):a<=b+1/\a<=c/\d=true:=(Bo a h).elim
def zcg:=ok [.no (.lt A B)] (.le (.a (n 0) (n 1)) (.s (.a A (n 1)) B)) [a,b]
def zbw:=ok [] (.le (n 0) (.s (.a A (n 1)) B)) [a,b]
def zch:=ok [.Eq (.c A) (.c B)] (.eq A B) [a,b]
def zci:=ok [] (.no (.an (.lt A A) (.lt B C))) [a,b,c]
def zcj:=ok [] (.le A (.a A (n 0))) [a]
theorem zck{a:Nat}(h:a+1<=0):true=false:=(FR a h).elim
def zcl:=ok [.le A B,.le B C,.le G C] (.le A C) [a,b,c,d]
def zcm:=ok [.lt A B] (.Eq (.s (.c B) (.k 1)) (.c (.s B (n 1)))) [a,b]
def zcn:=ok [.Eq (.c (.s A (n 1))) (.c B)] (.eq (.s A (n 1)) B) [a,b]
def zcp:=ok [.lt A B] (.le A (.s B (n 1))) [a,b]
def zcq:=ok [.lt A B] (.lt (.s A (n 1)) B) [a,b]
def zcr:=ok [.no (.lt A B)] (.no (.an (.lt C G) (.lt A B))) [a,b,c,d]
def zcs:=ok [.no (.lt A B),.Eq (.s (.c B) (.k 1)) (.c C),.le A C] .f [a,b,c]
def zct:=ok [.lt (n 0) A,.le A (.s (.a B (n 1)) C)] (.le C (.s (.a B (n 1)) A)) [a,b,c]
def zcu:=ok [.lt A B,.le C (.s (.a A (n 1)) G)] (.le (.a (.s (.a A (n 1)) C) C) (.mx G B)) [a,b,c,d]
def zcv:=ok [.eq A B,.lt (n 0) B] (.lt (.s (.s B (n 1)) C) A) [a,b,c]
def zcw:=ok [.le A (.s (.a B (n 1)) C),.lt G A] (.eq (.a (.s (.a B (n 1)) A) G) (.s B (.s (.s A (n 1)) G))) [a,b,c,d]
def zcx:=ok [.eq A B,.lt (n 0) B] (.lt (n 0) A) [a,b]
def zcy:=ok [.eq A B,.lt C (.s (.a G (n 1)) B)] (.le (.a C A) G) [a,b,c,d]
def zcz:=ok [] (.eq (.s (.s (.a A (n 1)) B) (n 1)) (.s A B)) [a,b]
def zd0:=ok [.le A (.s (.a B (n 1)) C)] (.eq (.a (.s (.a B (n 1)) A) A) (.a B (n 1))) [a,b,c]
def zd1:=ok [.lt (.a (.s (.a A (n 1)) B) B) C] (.lt (.a A (n 1)) C) [a,b,c]
def zd2:=ok [.le A B] (.lt A (.a B (n 1))) [a,b]
theorem zd3{a:Nat}(h:a+1<=a):true=false:=(Nat.not_succ_le_self a h).elim
def zd5:=ok [.lt (.s A B) (n 0)] (.eq C G) [a,b,c,d]
def zd6:=ok [.le A B,.le (.a B C) (.mx A G),.eq (.mx A G) A] (.eq C (n 0)) [a,b,c,d]
def zd7:=ok [.lt (.s A B) (.a C (n 1)),.no (.eq G (n 0)),.le B H,.le (.a H G) (.mx B A)] (.lt (.s H B) C) [a,b,c,d,e]
def zd8:=ok [.lt (.s A B) (.a C (n 1)),.no (.eq G (n 0)),.le B H,.le (.a H G) (.mx B A)] (.lt (.s A (.a H G)) C) [a,b,c,d,e]
def zd9:=ok [.eq A (.a B C)] (.eq (.a G A) (.a (.a G B) C)) [a,b,c,d]
def zdb:=ok [.le (n 1) A,.le B C] (.le (.a B (n 1)) (.a A C)) [a,b,c]
def zdc:=ok [.eq A (.a (.m 2 B) C)] (.eq (.a (.a (.m 2 G) (n 1)) A) (.a (.m 2 (.a G B)) (.a C (n 1)))) [a,b,c,d]
def zde:=ok [.eq (.mx A B) B,.le B C,.le (.a G H) (.mx A B)] (.le G C) [a,b,c,d,e]
def zdf:=ok [.eq (.mx A B) B,.le B C,.ne G (n 0),.le (.a H G) (.mx A B)] (.lt (.s H A) C) [a,b,c,d,e]
def zdg:=ok [.lt (.a A B) C] (.le (.a A B) C) [a,b,c]
def zdh:=ok [.le A B,.le (.a C G) (.mx H A)] (.lt (.s C H) (.a B (n 1))) [a,b,c,d,e]
def zdi:=ok [.no (.an (.lt A B) (.lt C G))] (.or (.le B A) (.le G C)) [a,b,c,d]
def zdj:=ok [] (.le (.a (.s A B) (n 0)) (.s A B)) [a,b]
def zdk:=ok [] (.le (.a (.s A (.a B C)) (n 0)) (.s A (.a B C))) [a,b,c]
def zdm:=ok [.le A B] (.lt (.s A (.a C G)) (.a B (n 1))) [a,b,c,d]
def zdn:=ok [.no (.an (.lt (.a A B) C) (.lt (.a G B) H))] (.or (.le C (.a A B)) (.le H (.a G B))) [a,b,c,d,e]
def zdo:=ok [.eq A B,.le C B,.lt A G] (.le C G) [a,b,c,d]
def zdp:=ok [.le A B,.ne B A] (.le (.a A (n 1)) B) [a,b]
def zdq:=ok [.le (.m 2 B) (.s A (n 1)),.lt (.s A (n 1)) (.m 2 (.a B (n 1))),.le (n 1) A] (.lt B A) [a,((a - 1) / 2)] [] (by kernel_rfl) (AY _ 2) (z0 _ (by decide))
def zdr:=ok [.le (.m 2 C) (.s A (n 1)),.lt (.s A (n 1)) (.m 2 (.a C (n 1))),.le (n 1) A,.eq C B] (.or (.eq A (.a (.m 2 B) (n 1))) (.eq A (.a (.m 2 B) (n 2)))) [a,b,((a - 1) / 2)] [] (by kernel_rfl) (AY _ 2) (z0 _ (by decide))
def zds:=ok [.no (.eq A (n 0))] (.le (n 1) A) [a]
def zdu{d e:Int}:=ok [.le A B,.eq C A,.lt B C] (.Le (.w 0) (.w 1)) [a,b,c] [d,e]
def zdx{a b c:Int}:=ok [.Le (.w 0) (.w 1),.Le (.w 1) (.w 2)] (.Le (.w 0) (.w 2)) [] [a,b,c]
def zdy:=ok [.lt A B,.le B A] .f [a,b]
def zdz{a b:Int}:=ok [.Lt (.w 0) (.w 1)] (.Le (.w 0) (.w 1)) [] [a,b]
def ze0{a b c:Int}:=ok [.Lt (.w 0) (.w 1),.Le (.w 1) (.w 2)] (.Le (.w 0) (.w 2)) [] [a,b,c]
def ze1:=ok [.eq A B,.lt A C,.eq G C,.lt G H] (.ne H B) [a,b,c,d,e]
def ze2:=ok [.eq A B,.lt A C,.le G B] (.le G C) [a,b,c,d]
def ze3:=ok [.lt A B,.lt C A] (.ne C B) [a,b,c]
def ze4:=ok [.lt A B] (.no (.le B A)) [a,b]
def ze5:=ok [.le A (n 15)] (.lt A (n 16)) [a]
def ze6:=ok [.eq A B] (.le B A) [a,b]
def ze7:=ok [.le A (n 5)] (.lt A (n 6)) [a]
def ze8:=ok [.le A (n 5),.le B A] (.lt B (n 6)) [a,b]
theorem ze9{a b c:Nat}(h:a<b)(q:c * b<=3 * b):c * b+a<b * 4:=by rw[HY b 4];exact ok [.lt A B,.le C (.m 3 B)] (.lt (.a C A) (.m 4 B)) [a,b,c * b] [] (by kernel_rfl) h q
def zea:=ok [.le A B,.le A C] (.le A (.mn B C)) [a,b,c]
def zeb:=ok [.le A B,.le B (.mn C G)] (.le (.m 2 A) (.a C G)) [a,b,c,d]
def zec:=ok [] (.Eq (.mn (.c A) (.c B)) (.c (.mn A B))) [a,b]
def zed:=ok [.le A (n 10),.le B (n 5)] (.le (.a A B) (n 15)) [a,b]
def zee:=ok [] (.le (.m 2 (.mn A B)) (.a A B)) [a,b]
def zef:=ok [.le A (n 5)] (.le (.mn B A) (n 5)) [a,b]
def zeg:=ok [.le A (n 5),.le B C,.le C (.mn G A)] (.le B (n 5)) [a,b,c,d]
def zeh:=ok [.le A (.mn B C)] (.le (.m 2 A) (.a B C)) [a,b,c]
def zej:=ok [.le A (n 5),.le B (.mn C A)] (.le B (n 5)) [a,b,c]
def zek:=ok [.le (.m 1 A) B,.lt (n 0) A] (.lt (n 0) (.a B C)) [a,b,c]
theorem zel{a b c d:Nat}(h:a<1048576)(q:b<c):b * 1048576+a<c * 1048576+d:=by rw[HY b,HY c];exact ok [.lt A (n 1048576),.lt B C] (.lt (.a (.m 1048576 B) A) (.a (.m 1048576 C) G)) [a,b,c,d] [] (by kernel_rfl) h q
theorem zen{a b c:Nat}(h:a * b+c<0):false=true:=(Bo _ h).elim
def zep:=ok [.eq (.a B A) (.a B C)] (.eq A C) [a,b,c]
theorem zer{a:Bool}{b c d:Nat}(h:a=true↔b<c)(q:a=true):d * 1048576+b<d * 1048576+c:=Jq (h.mp q) _
def zes:=ok [.lt A B,.le (.a C B) G] (.lt (.a C A) (.a G H)) [a,b,c,d,e]
def zet:=ok [.lt (.a B A) (.a B C)] (.lt A C) [a,b,c]
theorem zev{a b c d e:Nat}(h:a > b)(q:a<b):a * c+d<b * c+e:=(JW q h).elim
theorem zew{a b c d e:Nat}(h:a<b)(q:c * b+b<=d * b)(r:d * b+e<c * b+a):d<c:=(ok [.lt A B,.le (.a C B) G,.lt (.a G H) (.a C A)] .f [a,b,c * b,d * b,e] [] (by kernel_rfl) h q r).elim
def zey:=ok [.lt A B] (.le (.s B (.a C (n 1))) (.s (.s (.a (.s B (.a C (n 1))) B) (n 1)) A)) [a,b,c]
def zez:=ok [.lt (n 0) A,.le A B] (.lt (n 0) B) [a,b]
def zf0:=ok [.le A B,.lt B (n 1)] (.eq A B) [a,b]
def zf1:=ok [.lt A (.a B (n 1)),.le B A] (.eq A B) [a,b]
def zf2:=ok [] (.eq (.a (.a A (n 1)) B) (.a A (.a B (n 1)))) [a,b]
def zf3:=ok [.le (.s A (.a B (n 1))) C,.lt C A] (.lt (.s (.s (.a (.s A (.a B (n 1))) A) (n 1)) C) A) [a,b,c]
def zf4:=ok [.le A B,.le (.s B A) (n 0)] (.eq A B) [a,b]
def zf6:=ok [.le A B,.le C (.a A (.s B A))] (.le C B) [a,b,c]
def zf7:=ok [] (.le (.s A (n 0)) A) [a]
def zf9:=ok [.le A B] (.no (.lt B A)) [a,b]
def zfa:=ok [.lt A B] (.le (.a (.a A (n 1)) (.s B (.a A (n 1)))) B) [a,b]
def zfb:=ok [.le A B,.eq C B] (.le A C) [a,b,c]
def zfd:=ok [.lt (n 0) A] (.eq (.mx A (n 1)) A) [a]
def zfe:=ok [.eq (.a A (.a B (n 1))) C] (.eq (.a (.a A (n 1)) B) C) [a,b,c]
def zfg:=ok [.le (.s (.a A (n 1)) (.a (n 0) (n 1))) B,.lt B (.a A (n 1))] (.eq B (.s (.a A (n 1)) (n 1))) [a,b]
def zfh:=ok [] (.le (n 0) A) [a]
def zfj:=ok [.le A B,.lt B C] (.lt A C) [a,b,c]
def zfk:=ok [.eq (.a A (.a B (n 1))) C,.eq G C] (.lt A G) [a,b,c,d]
def zfl:=ok [.lt (n 0) A] (.lt (.s A (n 1)) A) [a]
def zfn:=ok [.le (.a A (n 1)) B] (.lt (n 0) B) [a,b]
def zfo:=ok [] (.le (.s A B) A) [a,b]
def zfq:=ok [.le A B] (.le (.s (.s (.a (n 0) C) (n 1)) B) (.s (.s (.a (n 0) C) (n 1)) A)) [a,b,c]
def zfr:=ok [.lt A B] (.lt (.s (.s (.a (n 0) B) (n 1)) C) B) [a,b,c]
def zfs:=ok [.lt (n 0) A,.le B (.a (n 1) (.s A (n 1)))] (.le B A) [a,b]
def zft:=ok [.no (.lt A B),.le C B] (.le C A) [a,b,c]
def zfu:=ok [.le (.m 2 G) (.a B A),.lt (.a B A) (.m 2 (.a G (n 1))),.le (.s A B) (.a C (n 1))] (.le (.s G B) C) [a,b,c,((b+a) / 2)] [] (by kernel_rfl) (AY _ 2) (z0 _ (by decide))
def zfv:=ok [.lt A B,.le C (.a (.a A (n 1)) (.s B (.a A (n 1))))] (.le C B) [a,b,c]
def zfw:=ok [.lt A B,.le B C] (.lt A C) [a,b,c]
def zf8:=ok [.le A B,.le B A] (.eq A B) [a,b]
def zfy:=ok [.le (.m 2 G) (.a B A),.lt (.a B A) (.m 2 (.a G (n 1))),.le (.s A B) (.a C (n 1))] (.le (.s A (.a G (n 1))) C) [a,b,c,((b+a) / 2)] [] (by kernel_rfl) (AY _ 2) (z0 _ (by decide))
def zfz:=ok [.lt (n 0) A,.le B (.a (n 1) (.s A (n 1))),.ne B A] (.lt B A) [a,b]
def zg0:=ok [.lt A B,.le C (.a (.a A (n 1)) (.s B (.a A (n 1)))),.eq G B] (.le C G) [a,b,c,d]
def zg1:=ok [.lt A (.a B (n 1))] (.le A B) [a,b]
def zg2:=ok [.le A B] (.eq (.s B (.s B A)) A) [a,b]
def zg3:=ok [.le (.a A (n 1)) B] (.le A B) [a,b]
def zg4:=ok [.le A B,.eq A C,.no (.eq B C)] (.lt C B) [a,b,c]
def zg6:=ok [.lt A B,.le B C] (.le A C) [a,b,c]
def zg7:=ok [.lt A (.a B (n 1))] (.le A B) [a,b]
def zg8:=ok [.lt (n 0) A,.le B (.a (n 1) (.s A (n 1))),.ne B A] (.lt B (.a (n 1) (.s A (n 1)))) [a,b]
def zg9:=ok [.le A B,.eq A C,.no (.eq B C)] (.le C (.s B (n 1))) [a,b,c]
def zga:=ok [.le (.a A (.a B (n 1))) C,.eq G C] (.le A G) [a,b,c,d]
def zgb:=ok [.le (n 1) A] (.lt (.s A (n 1)) A) [a]
def zgc:=ok [.le A B,.lt B (.a C (n 1)),.eq A G,.no (.eq B G)] (.lt (.s B (n 1)) C) [a,b,c,d]
def zgd:=ok [.le A B,.lt C A] (.no (.eq B C)) [a,b,c]
def zge:=ok [.no (.lt A B),.le A C,.le C B] (.eq C A) [a,b,c]
def zgf:=ok [.le A B,.lt C A] (.lt C B) [a,b,c]
def zgg:=ok [.lt (n 0) A,.eq B A,.le C (.a (n 1) (.s A (n 1)))] (.le C B) [a,b,c]
def zgh:=ok [.no (.lt A B),.le A C] (.le B C) [a,b,c]
def zgi:=ok [.le A B] (.le (.s A (n 1)) (.s B (n 1))) [a,b]
def zgj:=ok [.lt A B] (.lt (.s (.s (.a (n 0) B) (n 1)) A) B) [a,b]
def zgk:=ok [.le (.s (.a A (n 1)) (.a (.a B (n 1)) (n 1))) C] (.le (.s A (.a B (n 1))) C) [a,b,c]
def zgl:=ok [.lt A (.a B (n 1)),.lt C G,.le G B] (.lt (.s A (n 1)) B) [a,b,c,d]
def zgm:=ok [.le A B,.no (.eq A C),.eq B C] (.lt A C) [a,b,c]
def zgn:=ok [.no (.lt A B),.no (.lt B A),.eq C B] (.eq C A) [a,b,c]
def zgo:=ok [.le A B,.lt B (.a C (n 1))] (.le A C) [a,b,c]
def zgp:=ok [.le A B,.no (.an (.lt C A) (.le A G)),.lt C B,.le B G] (.le A (.s B (n 1))) [a,b,c,d]
def zgq:=ok [.lt A B,.eq B C] (.le A C) [a,b,c]
def zgr:=ok [.lt A B,.le B C] (.lt (.s B (n 1)) C) [a,b,c]
def zgs:=ok [.le A B,.no (.lt A C)] (.no (.lt B C)) [a,b,c]
def zgu:=ok [.le A B,.lt C (.a B (n 1)),.no (.eq C A),.no (.an (.lt A C) (.le C B))] (.lt C B) [a,b,c]
def zgv:=ok [.lt (n 0) A,.ne (n 1) A] (.lt (n 1) A) [a]
def zgw:=ok [.lt (n 0) A,.ne (n 1) A] (.lt (n 1) (.a (n 1) (.s A (n 1)))) [a]
def zgx:=ok [.lt A (.a (n 1) (n 1)),.lt B A] (.eq B (n 0)) [a,b]
def zgy:=ok [.lt A (.a (n 1) (n 1)),.lt B A] (.eq A (n 1)) [a,b]
def zgz:=ok [] (.eq (.a (.a A B) (n 1)) (.a A (.a (n 1) B))) [a,b]
def zh0:=ok [] (.eq (.a (n 1) A) (.a A (n 1))) [a]
def zh1:=ok [] (.le (.a (n 0) (n 1)) (.a A (n 1))) [a]
def zh2:=ok [.le (.a A (.a (.a B (n 1)) (n 1))) (.a C (n 1))] (.lt A C) [a,b,c]
def zh3:=ok [.le A B] (.eq (.s (.mn A B) C) (.s A C)) [a,b,c]
def zh4:=ok [.le A B] (.eq (.a A (.s B A)) B) [a,b]
def zh5:=ok [.le (.a (.a A B) C) G,.lt H C] (.lt (.a A (.a B H)) G) [a,b,c,d,e]
def zh7:=ok [.le A (.a B (n 1)),.no (.eq A (.a B (n 1)))] (.lt A (.a B (n 1))) [a,b]
def zh8:=ok [.le (.a A (.a (.a B (n 1)) (n 1))) (.a C (n 1))] (.le (.a A (.a B (n 1))) (.a (.s C (n 1)) (n 1))) [a,b,c]
def zh9:=ok [.le A B] (.le (.a A C) (.a (.s (.a B C) (n 1)) (n 1))) [a,b,c]
def zha:=ok [.le A (.a B (n 1)),.no (.eq A (.a B (n 1)))] (.le A B) [a,b]
def zhb:=ok [.le A B,.le (.a (.a C G) H) A,.lt I H] (.lt (.a (.a C G) I) B) [a,b,c,d,e,f]
def zhc:=ok [.le A B,.le (.a C G) (.s B A)] (.le (.a (.a A C) G) B) [a,b,c,d]
def zhd:=ok [.lt A (.a B (n 1))] (.lt (.a A (n 1)) (.a (.a B (n 1)) (n 1))) [a,b]
def zhe:=ok [] (.eq (.s (.s A (n 1)) B) (.s A (.a B (n 1)))) [a,b]
def zhf:=ok [.lt (n 0) A] (.lt (.s (.s A (n 1)) B) A) [a,b]
def zhg:=ok [] (.le (.a A B) (.a (.s (.a (.a A C) B) (n 1)) (n 1))) [a,b,c]
def zhh:=ok [.no (.lt A B)] (.le (.mn B C) A) [a,b,c]
def zhi:=ok [.lt A B] (.eq (.s (.s (.a C B) (n 1)) A) (.a C (.s (.s B (n 1)) A))) [a,b,c]
def zhk:=ok [.lt A B] (.lt (.s (.s B (n 1)) A) B) [a,b]
def zhl:=ok [.le A B,.lt (n 0) C] (.le A (.s (.a B C) (n 1))) [a,b,c]
def zhm:=ok [.lt (n 0) A,.le (.a B A) C] (.lt (.s (.a B A) (n 1)) C) [a,b,c]
def zhn:=ok [.lt A B] (.eq (.s (.s (.a (.a C G) B) (n 1)) A) (.a (.a C G) (.s (.s B (n 1)) A))) [a,b,c,d]
def zho:=ok [.lt (n 0) A] (.eq (.s (.a B A) (n 1)) (.a B (.s A (n 1)))) [a,b]
def zhp:=ok [.lt A B] (.le C (.s (.a (.a C G) B) (n 1))) [a,b,c,d]
def zhq:=ok [.lt A B,.le (.a C B) (.s G H)] (.lt (.s (.a (.a H C) B) (n 1)) G) [a,b,c,d,e]
def zhr:=ok [.le A B,.lt B A] (.or (.lt (.s (.a C (n 1)) A) G) (.an (.eq (.s (.a C (n 1)) A) G) (.le (.s (.a H (n 1)) A) I))) [a,b,c,d,e,f]
def zhs:=ok [.lt (n 0) A] (.eq (.s (.a (.s (.a B A) (n 1)) (n 1)) A) B) [a,b]
def zht:=ok [.lt (n 0) A] (.le (.s (.a (.s (.a B A) (n 1)) (n 1)) A) B) [a,b]
theorem zhu{a b c:Nat}(h:a<b)(q:b<=c)(r:c<=a):true=false:=(ok [.lt A B,.le B C,.le C A] .f [a,b,c] [] (by kernel_rfl) h q r).elim
def zhv:=ok [.le A (.s (.a B (n 1)) C),.lt B (.s (.a G A) (n 1))] (.lt (.s (.a B (n 1)) A) G) [a,b,c,d]
def zhw:=ok [.lt (n 0) A,.eq B (.s (.a C A) (n 1))] (.eq (.s (.a B (n 1)) A) C) [a,b,c]
def zhx:=ok [.le A (.mn (.s B C) (.s G H)),.lt I (.a (.s (.s B C) A) (n 1))] (.le (.a I A) (.s B C)) [a,b,c,d,e,f]
def zhy:=ok [.lt A (.s (.a B C) (n 1))] (.le (.s (.a A (n 1)) C) B) [a,b,c]
def zhz:=ok [.le A (.mn (.s B C) (.s G H)),.lt I (.a (.s (.s G H) A) (n 1))] (.le (.a I A) (.s G H)) [a,b,c,d,e,f]
def zi0:=ok [.eq A (n 0),.lt (n 0) B] (.lt A B) [a,b]
def zi1:=ok [.le (.a A B) C] (.lt (.s A G) (.a (.s (.s C G) B) (n 1))) [a,b,c,d]
def zi2:=ok [.le A B,.le (.a B C) G] (.le (.a (.a A (.s B A)) C) G) [a,b,c,d]
def zi3:=ok [.le A B] (.eq (.a (.a A (.s B A)) C) (.a B C)) [a,b,c]
def zi4:=ok [.le (.a A B) C,.lt G (.s A H)] (.le (.a (.a H G) B) C) [a,b,c,d,e]
def zi5:=ok [] (.le A (.a A (.s B A))) [a,b]
theorem zi6{a b c d e:Nat}(h:a<=b)(q:c<d - e)(r:b<a+(b - a)\/b=a+(b - a)/\d<=e+c):true=false:=(ok [.le A B,.lt C (.s G H),.or (.lt B (.a A (.s B A))) (.an (.eq B (.a A (.s B A))) (.le G (.a H C)))] .f [a,b,c,d,e] [] (by kernel_rfl) h q r).elim
def zi7:=ok [.le A B,.le (.a B C) G,.lt H (.a (.s (.s G A) C) (n 1))] (.le (.a (.a A H) C) G) [a,b,c,d,e]
theorem zi8{a b c d e f:Nat}(h:a<b - c)(q:b<c+a\/b=c+a/\d<=e+f):true=false:=(ok [.lt A (.s B C),.or (.lt B (.a C A)) (.an (.eq B (.a C A)) (.le G (.a H I)))] .f [a,b,c,d,e,f] [] (by kernel_rfl) h q).elim
def zi9:=ok [.le A B,.le C G,.le (.a B H) I,.le (.a G H) J] (.le H (.mn (.s I A) (.s J C))) [a,b,c,d,e,f,g]
def zia:=ok [.le (.a A B) C] (.le A C) [a,b,c]
def zib:=ok [.le A B] (.eq (.a (.s B A) C) (.s (.a B C) A)) [a,b,c]
def zic:=ok [.le A B] (.le A (.a B C)) [a,b,c]
def zid:=ok [.le A B,.le (.a C G) A] (.le C B) [a,b,c,d]
def zif:=ok [.le (.a (n 1) A) (n 0)] .f [a]
def zig:=ok [.le (.a A B) (.a C (.a A G))] (.le B (.a C G)) [a,b,c,d]
def zih:=ok [.le (.a A (n 1)) (.mn B C)] (.le A (.mn B C)) [a,b,c]
def zii:=ok [.le A (.a B C)] (.le (.a A (n 1)) (.a B (.a C (n 1)))) [a,b,c]
def zij:=ok [.lt A B,.le C A,.or (.eq C A) (.eq C B)] (.an (.le (.a (n 1) C) (.a (n 1) A)) (.an (.le (.a (n 1) C) B) (.or (.eq (.a (n 1) C) (.a (n 1) A)) (.eq (.a (n 1) C) B)))) [a,b,c]
def zik:=ok [.le A B,.le A C,.or (.eq G B) (.eq G C)] (.le A G) [a,b,c,d]
def zil:=ok [.le (.a A B) C] (.le B (.s C A)) [a,b,c]
def zim:=ok [.le A (.mn B C),.lt G (.a (.s B A) (n 1))] (.le (.a G A) B) [a,b,c,d]
def zin:=ok [.no (.lt A B),.le C B,.or (.eq C A) (.eq C B)] (.an (.le C (.a (n 1) A)) (.an (.le C B) (.or (.eq C (.a (n 1) A)) (.eq C B)))) [a,b,c]
def zio:=ok [.le A (.mn B C),.lt G (.a (.s C A) (n 1))] (.le (.a G A) C) [a,b,c,d]
def zip:=ok [.le A B,.le A C,.le G H,.le G I,.eq J (.a B (.a K H)),.eq (v 8) (.a C (.a K I))] (.an (.le (.a (.a K A) G) J) (.le (.a (.a K A) G) (v 8))) [a,b,c,d,e,f,g,i,j]
def zir:=ok [.le (.a (.a A (n 1)) (n 1)) B,.le (.a (.a B (n 1)) (n 1)) C] (.le (.a (.a A (n 1)) (n 1)) C) [a,b,c]
def zis:=ok [.le (.a (.a A (n 1)) (n 1)) B,.le (.a (.a (.a (.a (.a (.a B (n 1)) (n 1)) (n 1)) (n 1)) (n 1)) (n 1)) C] (.le (.a (.a A (n 1)) (n 1)) C) [a,b,c]
def zit:=ok [.lt A (n 6)] (.Le (.c A) (.k 1000)) [a]
def ziu:=ok [.le (.a (.a A (n 1)) (n 1)) B] (.lt (.a A (.a (n 0) (n 1))) (.a (.a B (n 1)) (n 1))) [a,b]
def ziv:=ok [.le (.a (.a A (n 1)) (n 1)) B] (.le A (.a (.a B (n 1)) (n 1))) [a,b]
def ziy:=ok [.Eq (.c G) (.mx (.s (.c A) (.k 0)) (.k 0)),.lt A (n 6),.le B C,.lt C G] (.le B (n 60)) [a,b,c,(Dg (((a:Nat):Int) - (0:Int)))] [] (by kernel_rfl) (AX (((a:Nat):Int) - (0:Int)))
def zj3:=ok [.le A B,.lt B C,.le (.a (.a (.a (.a (.a C (n 1)) (n 1)) (n 1)) (n 1)) (n 1)) G,.le (.a (.a (.a (.a G (n 1)) (n 1)) (n 1)) (n 1)) H] (.le A H) [a,b,c,d,e]
def zj4:=ok [.Eq (.c B) (.mx (.s (.c A) (.k 0)) (.k 0)),.lt A (n 6)] (.le B (n 5)) [a,(Dg (((a:Nat):Int) - (0:Int)))] [] (by kernel_rfl) (AX (((a:Nat):Int) - (0:Int)))
def zj5{a:Int}:=ok [.Lt (.k 0) (.w 0)] (.no (.Le (.w 0) (.k 0))) [] [a]
def zj6:=ok [.lt A B] (.Lt (.k 0) (.s (.c B) (.c A))) [a,b]
def zj7:=ok [.le A B,.le B (n 1000),.eq C G,.lt G A] (.le C (n 10000)) [a,b,c,d]
def zj8:=ok [] (.Eq (.a (.g (.c A)) (.k (-1))) (.g (.c (.a A (n 1))))) [a]
def zj9:=ok [.le B A,.eq (.s A B) (n 0)] (.eq A B) [a,b]
def zja:=ok [] (.Le (.s (.c A) (.c A)) (.k 0)) [a]
def zjb:=ok [.le (.m 2 C) (.s A (n 1)),.lt (.s A (n 1)) (.m 2 (.a C (n 1))),.lt A B] (.lt C B) [a,b,((a - 1) / 2)] [] (by kernel_rfl) (AY _ 2) (z0 _ (by decide))
def zjc:=ok [.lt A B] (.Lt (.c A) (.c B)) [a,b]
theorem zjd{a b:Int}{c d:Nat}(h : -60<=a)(q:b<=0)(r : ↑c * 1000+a<=↑d * 1000+b):c<=d:=by rw[Gk,Gk ↑d] at r;exact ok [.Le (.k (-60)) (.w 0),.Le (.w 1) (.k 0),.Le (.a (.m 1000 (.c A)) (.w 0)) (.a (.m 1000 (.c B)) (.w 1))] (.le A B) [c,d] [a,b] (by kernel_rfl) h q r
def zjf:=ok [] (.le (.a (.a (.s (.mn A B) (n 0)) (n 1)) (.s (.mn B B) A)) (.a B (n 1))) [a,b]
def zjg:=ok [.le A (n 100),.le B (.a A (n 1))] (.le B (n 16777216)) [a,b]
def x00:=ok [.lt A B,.le C (.s (.a (.s B (n 1)) (n 1)) A)] (.le (.a C (n 1)) (.s (.a B (n 1)) A)) [a,b,c]
def x01:=ok [.lt A B,.lt (.s B (n 1)) A] (.le (.a C (n 1)) (.s (.a B (n 1)) A)) [a,b,c]
def x02:=ok [.no (.lt A B)] (.le (n 1) (.s (.a A (n 1)) B)) [a,b]
def x03:=ok [.eq A B,.le A (.s (.a C (n 1)) G)] (.le B (.s (.a C (n 1)) G)) [a,b,c,d]
def x04:=ok [.le A B,.lt B A] (.le C (.s (.a B (n 1)) A)) [a,b,c]
theorem x05{a b c:Nat}(h:a<=b)(q:¬ c≥a):(c+a) / 2<b:=Nat.div_lt_of_lt_mul (ok [.le A B,.no (.le A C)] (.lt (.a C A) (.m 2 B)) [a,b,c] [] (by kernel_rfl) h q)
theorem x06{a b:Nat}(h:¬ a≥b):a<=(a+b) / 2:=(Nat.le_div_iff_mul_le (by decide)).mpr (HY 2 a▸ok [.no (.le B A)] (.le (.m 2 A) (.a A B)) [a,b] [] (by kernel_rfl) h)
theorem x10{a b:Int}(p:0<=a+60):a<b↔(a+60).toNat<(b+60).toNat :=
 ⟨ok [.Eq (.c A) (.mx (.a (.w 0) (.k 60)) (.k 0)),.Eq (.c B) (.mx (.a (.w 1) (.k 60)) (.k 0)),.Le (.k 0) (.a (.w 0) (.k 60)),.Lt (.w 0) (.w 1)] (.lt A B) [(a+60).toNat,(b+60).toNat] [a,b] (by kernel_rfl) (AX _) (AX _) p,
  ok [.Eq (.c A) (.mx (.a (.w 0) (.k 60)) (.k 0)),.Eq (.c B) (.mx (.a (.w 1) (.k 60)) (.k 0)),.Le (.k 0) (.a (.w 0) (.k 60)),.lt A B] (.Lt (.w 0) (.w 1)) [(a+60).toNat,(b+60).toNat] [a,b] (by kernel_rfl) (AX _) (AX _) p⟩
theorem x11{a b:Nat}(h:a<b):(0<=(a:Int)/\(a:Int)<b)/\(a:Int).toNat=a:=⟨⟨DI a,Di.mpr h⟩,rfl⟩
theorem x12{a b:Int}{c d:Nat}(h1 : -400<=a)(h2:a<=400)(h3 : -400<=b)(h4:b<=400)(q:decide (c=d)=false):c<d↔↑c * 1000+a < ↑d * 1000+b:=by
 rw[Gk,Gk ↑d]
 exact⟨ok [.Le (.k (-400)) (.w 0),.Le (.w 0) (.k 400),.Le (.k (-400)) (.w 1),.Le (.w 1) (.k 400),.lt A B] (.Lt (.a (.m 1000 (.c A)) (.w 0)) (.a (.m 1000 (.c B)) (.w 1))) [c,d] [a,b] (by kernel_rfl) h1 h2 h3 h4,
  ok [.Le (.k (-400)) (.w 0),.Le (.w 0) (.k 400),.Le (.k (-400)) (.w 1),.Le (.w 1) (.k 400),.ne A B,.Lt (.a (.m 1000 (.c A)) (.w 0)) (.a (.m 1000 (.c B)) (.w 1))] (.lt A B) [c,d] [a,b] (by kernel_rfl) h1 h2 h3 h4 (of_decide_eq_false q)⟩
theorem x13{a b:Nat}{c d:Int}(q:decide (a=b)=true):c<d↔↑a * 1000+c < ↑b * 1000+d:=by rw[of_decide_eq_true q];exact (Int.add_lt_add_iff_left _).symm
def x14:=ok [.le A B,.ne C (n 0),.lt (.a G C) A] (.lt (.s A (.a G C)) B) [a,b,c,d]
theorem x15{a b:Int}(h:a<b):b - a=((b - a).toNat:Int):=(Jr (Eg (HV h))).symm
theorem x16{a:Nat}(h:a<=4):(a+1) * 5≥7 * 3↔a=4:=(by decide:∀ a:Fin 5,(a.1+1) * 5≥7 * 3↔a.1=4) ⟨a,JX h⟩
theorem x17{a:Nat}(h:a<=6)(q:¬a<=4):(a+1) * 5≥31 * 3↔a=4:=(by decide:∀ a:Fin 7,¬a.1<=4->((a.1+1) * 5≥31 * 3↔a.1=4)) ⟨a,JX h⟩ q
theorem x19{a b:Int}(h:¬a<b):(0:Int)=((b - a).toNat:Int):=by rw[Int.toNat_of_nonpos (Int.sub_nonpos_of_le (Gw.mp h))];rfl
def x20:=ok [.le A (n 1000),.lt B A] (.Lt (.c B) (.k 9223372036854775808)) [a,b]
def x30:=ok [.le A B,.lt B C,.eq G (.a (.a (.a (.a C (n 1)) (n 1)) (n 1)) (n 1))] (.le A G) [a,b,c,d]
def x31:=ok [.le A B,.lt B C,.le (.a (.a (.a (.a (.a C (n 1)) (n 1)) (n 1)) (n 1)) (n 1)) G] (.le A G) [a,b,c,d]
def x32:=ok [.le (.a (.a (.a (.a (.a A (n 1)) (n 1)) (n 1)) (n 1)) (n 1)) B,.le (.a (.a (.a (.a B (n 1)) (n 1)) (n 1)) (n 1)) C,.eq G (.a (.a (.a (.a A (n 1)) (n 1)) (n 1)) (n 1))] (.lt G C) [a,b,c,d]
def x33:=ok [.le (.a (.a (.a (.a A (n 1)) (n 1)) (n 1)) (n 1)) B,.lt C A] (.lt C B) [a,b,c]
end
end Mine
end
noncomputable section
namespace Mine
universe u
inductive Ex2 {A0:Sort _}{A1:Sort _} (P:A0->A1->Prop):Prop
 | mk:∀ a0 a1,P a0 a1->Ex2 P
inductive Ex3 {A0:Sort _}{A1:Sort _}{A2:Sort _} (P:A0->A1->A2->Prop):Prop
 | mk:∀ a0 a1 a2,P a0 a1 a2->Ex3 P
inductive Ex4 {A0:Sort _}{A1:Sort _}{A2:Sort _}{A3:Sort _} (P:A0->A1->A2->A3->Prop):Prop
 | mk:∀ a0 a1 a2 a3,P a0 a1 a2 a3->Ex4 P
inductive Ex5 {A0:Sort _}{A1:Sort _}{A2:Sort _}{A3:Sort _}{A4:Sort _} (P:A0->A1->A2->A3->A4->Prop):Prop
 | mk:∀ a0 a1 a2 a3 a4,P a0 a1 a2 a3 a4->Ex5 P
inductive Ex6 {A0:Sort _}{A1:Sort _}{A2:Sort _}{A3:Sort _}{A4:Sort _}{A5:Sort _} (P:A0->A1->A2->A3->A4->A5->Prop):Prop
 | mk:∀ a0 a1 a2 a3 a4 a5,P a0 a1 a2 a3 a4 a5->Ex6 P
inductive Ex7 {A0:Sort _}{A1:Sort _}{A2:Sort _}{A3:Sort _}{A4:Sort _}{A5:Sort _}{A6:Sort _} (P:A0->A1->A2->A3->A4->A5->A6->Prop):Prop
 | mk:∀ a0 a1 a2 a3 a4 a5 a6,P a0 a1 a2 a3 a4 a5 a6->Ex7 P
inductive Ex8 {A0:Sort _}{A1:Sort _}{A2:Sort _}{A3:Sort _}{A4:Sort _}{A5:Sort _}{A6:Sort _}{A7:Sort _} (P:A0->A1->A2->A3->A4->A5->A6->A7->Prop):Prop
 | mk:∀ a0 a1 a2 a3 a4 a5 a6 a7,P a0 a1 a2 a3 a4 a5 a6 a7->Ex8 P
inductive Ex13 {A0:Sort _}{A1:Sort _}{A2:Sort _}{A3:Sort _}{A4:Sort _}{A5:Sort _}{A6:Sort _}{A7:Sort _}{A8:Sort _}{A9:Sort _}{A10:Sort _}{A11:Sort _}{A12:Sort _} (P:A0->A1->A2->A3->A4->A5->A6->A7->A8->A9->A10->A11->A12->Prop):Prop
 | mk:∀ a0 a1 a2 a3 a4 a5 a6 a7 a8 a9 a10 a11 a12,P a0 a1 a2 a3 a4 a5 a6 a7 a8 a9 a10 a11 a12->Ex13 P
inductive An3 (p0 p1 p2:Prop):Prop
 | mk:p0->p1->p2->An3 p0 p1 p2
inductive An4 (p0 p1 p2 p3:Prop):Prop
 | mk:p0->p1->p2->p3->An4 p0 p1 p2 p3
inductive An5 (p0 p1 p2 p3 p4:Prop):Prop
 | mk:p0->p1->p2->p3->p4->An5 p0 p1 p2 p3 p4
inductive An6 (p0 p1 p2 p3 p4 p5:Prop):Prop
 | mk:p0->p1->p2->p3->p4->p5->An6 p0 p1 p2 p3 p4 p5
inductive An7 (p0 p1 p2 p3 p4 p5 p6:Prop):Prop
 | mk:p0->p1->p2->p3->p4->p5->p6->An7 p0 p1 p2 p3 p4 p5 p6
inductive An8 (p0 p1 p2 p3 p4 p5 p6 p7:Prop):Prop
 | mk:p0->p1->p2->p3->p4->p5->p6->p7->An8 p0 p1 p2 p3 p4 p5 p6 p7
inductive An9 (p0 p1 p2 p3 p4 p5 p6 p7 p8:Prop):Prop
 | mk:p0->p1->p2->p3->p4->p5->p6->p7->p8->An9 p0 p1 p2 p3 p4 p5 p6 p7 p8
inductive An11 (p0 p1 p2 p3 p4 p5 p6 p7 p8 p9 p10:Prop):Prop
 | mk:p0->p1->p2->p3->p4->p5->p6->p7->p8->p9->p10->An11 p0 p1 p2 p3 p4 p5 p6 p7 p8 p9 p10
end Mine
end
noncomputable section
open PySem PySem.W PyProof.Rows
namespace Mine
noncomputable def anyF(as:Array Nat)(p:Nat->Bool)(i:Nat)(j:Nat):Bool :=
 match Nat.beq i 0&&Nat.beq j as.size with
 | true=>as.toList.any p
 | false=>as.any p i j
theorem yU(as:Array Nat)(p:Nat->Bool)(i j:Nat):KG as p i j=anyF as p i j:=by
 unfold anyF
 split
 ·rename_i h
  rw[HE] at h
  rw[IC h.1,IC h.2,Array.any_toList]
 ·rfl
theorem xe : @KG Nat=anyF:=by
 funext as p i j;exact yU as p i j
abbrev AnyT:Type:=Array Nat->(Nat->Bool)->Nat->Nat->Bool
noncomputable def tnG:AnyT->At:=by
 have go:∀ (a:AnyT) (f:At),((@KG Nat:AnyT)=a->At.«type.__new__» = f)->True:=λZ Z Z=>trivial
 refine λa=>(λ(f:At) (_:True)=>f) ?f (go a ?f ?h)
 case h =>
  intro e
  delta At.«type.__new__»
  rw[e]
noncomputable def tnF:At:=tnG anyF
theorem xw:At.«type.__new__» = tnF:=by
 have h:At.«type.__new__» = tnG (@KG Nat):=by kernel_rfl
 rw[h,xe,tnF]
noncomputable def T2 (tn:At) (id:String):Option At:=if id == "type.__new__" then some tn else treeTable id
theorem T2_eq:treeTable=T2 tnF:=by
 funext id
 unfold T2
 split
 ·rename_i h
  have h:=beq_iff_eq.mp h
  subst h
  rw[<- xw]
  kernel_rfl
 ·rfl
noncomputable def iw(tb:String->Option At)(p:Bh)(w:Am)(bq:Nat)(ann:Option Value):Nat->JY->Thread->Option JY
 | 0,_,_=>none
 | n+1,s,t=>match through t with
  | true=>some s
  | false=>match stepOk bq ann t with
   | false=>none
   | true=>match stepT (denote tb) p w s t with
    | some (s',t')=>iw tb p w bq ann n s' t'
    | none=>none
theorem oY{tb:String->Option At}{p:Bh}{w:Am}{bq:Nat}{ann:Option Value}{n:Nat}{s:JY}{t:Thread}:iw tb p w bq ann (n+1) s t=match through t with
  | true=>some s
  | false=>match stepOk bq ann t with
   | false=>none
   | true=>match stepT (denote tb) p w s t with
    | some (s',t')=>iw tb p w bq ann n s' t'
    | none=>none:=rfl
theorem nS{tb:String->Option At}{p:Bh}{w:Am}{bq:Nat}{ann:Option Value}:∀ {n:Nat}{s s':JY}{t:Thread},
  iw tb p w bq ann n s t=some s'->topRun tb p w bq ann n s.abs t=some s'.abs:=by
 intro n
 induction n with
 | zero =>
  intro Z Z Z h
  nomatch h
 | succ n ih =>
  intro s s' t h
  rw[oY] at h
  unfold topRun
  cases he:through t with
  | true=>rw[he] at h;cases h;rfl
  | false =>
   rw[he] at h
   cases hk:stepOk bq ann t with
   | false=>rw[hk] at h;nomatch h
   | true =>
    rw[hk] at h
    cases hs:stepT (denote tb) p w s t with
    | none=>rw[hs] at h;nomatch h
    | some r=>obtain⟨ag,b7⟩:=r;rw[hs] at h;rw[stepT_spec hs];exact ih h
noncomputable def ni:List AO->Nat->BT->Option BT
 | [],_,t=>some t
 | o::l,i,t=>match ((t.ins i o).get i).isSome with
  | true=>ni l (i+1) (t.ins i o)
  | false=>none
theorem oG{life:Life}:∀ {l:List AO}{i:Nat}{t t':BT},ni l i t=some t' ->
  (Jl t' (i+l.length) life).objs=(Jl t i life).objs++l.toArray:=by
 intro l
 induction l with
 | nil =>
  intro i t t' h
  cases h;simp
 | cons o l IH =>
  intro i t t' h
  replace h:(match ((t.ins i o).get i).isSome with|true=>ni l (i+1) (t.ins i o)|false=>none)=some t':=h
  cases hg:((t.ins i o).get i).isSome with
  | false=>rw[hg] at h;nomatch h
  | true =>
   rw[hg] at h
   have ih:=IH h
   rw[show i+(o::l).length=i+1+l.length by simp;exact z2i,ih,absHeap_ins hg]
   show (Jl t i life).objs.push o++l.toArray=_
   simp
noncomputable def toT(s:y9):Option JY :=
 (ni s.heap.objs.toList 0 .nil).map λt=>⟨t,s.heap.objs.toList.length,s.heap.life,s.gens,s.drawn,s.toks,s.os⟩
theorem ve{s:y9}{t:JY}(h:toT s=some t):t.abs=s/\t.n=s.heap.objs.size:=by
 unfold toT at h
 obtain⟨b,hb,rfl⟩:=zW.mp h
 have e:=oG (life:=s.heap.life) hb
 rw[Fg] at e
 refine⟨?_,by simp⟩
 obtain⟨⟨objs,life⟩,gens,drawn,toks,os⟩:=s
 show Shared.mk (Jl b objs.toList.length life) gens drawn toks os=_
 have e2:Jl b objs.toList.length life=⟨objs,life⟩:=by
  have:(Jl BT.nil 0 life).objs = #[]:=rfl
  rw[this] at e
  have e3:(Jl b objs.toList.length life).objs=objs:=by rw[e];simp
  show Heap.mk _ _=_
  exact congrArg (Heap.mk · life) e3
 rw[e2]
noncomputable def fT(tb:String->Option At)(p:Bh)(w:Am)(N:Nat)(b9:y9):Option y9 :=
 match b9.heap.isNs Bl&&b9.gens.size==0 with
 | true=>(toT b9).bind λt=>(iw tb p w t.n (b9.heap.nsMap Bl "__annotations__") N t (topStub p)).bind λr =>
   match staticsOk (F0 p.main.body) b9.heap r.abs.heap&&namesBound p r.abs.heap&&gensDone r.abs&&laidKept b9.heap r.abs.heap with
   | true=>some r.abs
   | false=>none
 | false=>none
theorem lI{tb:String->Option At}{p:Bh}{w:Am}{N:Nat}{b9 s:y9}(h:fT tb p w N b9=some s):topFrom tb p w N b9=some s:=by
 unfold fT at h
 unfold topFrom
 cases hg:(b9.heap.isNs Bl&&b9.gens.size==0) with
 | false=>rw[hg] at h;nomatch h
 | true =>
  rw[hg] at h
  obtain⟨t,ht,h⟩:=DA.mp h
  obtain⟨r,hr,h⟩:=DA.mp h
  obtain⟨e1,e2⟩:=ve ht
  have hr':=nS hr
  rw[e1,e2] at hr'
  dsimp only
  rw[hr']
  exact h
theorem wz{p q:Bh}{loose:List zH}{Xt:y9->Bool}{α:Type}{Yf:y9->α}{Ya:Am->α}{N:Nat}{g0:Bool}
  (h:∀ w,((Jz (T2 tnF) p w N).bind (fT (T2 tnF) p w N)).map (λs=>(Nd q loose (F0 p.main.body) Xt g0 s,Yf s))=some (Nf q loose,Ya w)) :
  LeftO p q loose Xt Yf Ya N g0:=λw=>by
 rw[T2_eq]
 obtain⟨s,hs,e⟩:=zW.mp (h w)
 obtain⟨b9,h0,h1⟩:=DA.mp hs
 unfold openEnds
 rw[h0]
 show (topFrom (T2 tnF) p w N b9).map _=_
 rw[lI h1]
 exact congrArg some e
noncomputable def fV{β:Type}(v:Value)(k:Value->β):β:=match v with
 | .none=>k .none
 | .ellipsis=>k .ellipsis
 | .notImplemented=>k .notImplemented
 | .bool b=>k (.bool b)
 | .int i t=>k (.int i t)
 | .float x t=>k (.float x t)
 | .str s t=>k (.str s t)
 | .bytes b t=>k (.bytes b t)
 | .type n=>k (.type n)
 | .builtin i=>k (.builtin i)
 | .ref a=>k (.ref a)
noncomputable def fL{α β:Type}(f:α->(α->β)->β):List α->(List α->β)->β
 | [],k=>k []
 | a::l,k=>f a λa'=>fL f l λl'=>k (a'::l')
noncomputable def fO{α β:Type}(f:α->(α->β)->β)(x:Option α)(k:Option α->β):β:=match x with
 | none=>k none
 | some a=>f a λa'=>k (some a')
noncomputable def fE{β:Type}(e:CR)(k:CR->β):β:=match e with
 | ⟨h,a,b⟩=>fV a λa'=>fV b λb'=>k ⟨h,a',b'⟩
noncomputable def fA{α β:Type}(f:α->(α->β)->β)(x:Array α)(k:Array α->β):β:=match x with
 | ⟨l⟩=>fL f l λl'=>k ⟨l'⟩
noncomputable def fI{α β:Type}(x:α)(k:α->β):β:=k x
noncomputable def fF{β:Type}(f:Bz)(k:Bz->β):β:=match f with
 | ⟨a,b,c,d,e,g,cl,df,kd,dc,pm,an,cd,ct,bi⟩=>fL (λ(x:zH×ze) k=>match x with|(u,v)=>k (u,v)) cl λcl=>fV df λdf=>fV kd λkd=>fV dc λdc=>fV pm λpm=>fO fI an λan=>fV cd λcd=>fV ct λct =>
   match d with
   | .stmts d=>k ⟨a,b,c,.stmts d,e,g,cl,df,kd,dc,pm,an,cd,ct,bi⟩
   | .expr d=>k ⟨a,b,c,.expr d,e,g,cl,df,kd,dc,pm,an,cd,ct,bi⟩
noncomputable def fC{β:Type}(c:KH)(k:KH->β):β:=match c with
 | ⟨n,bs,mro,ns,qn,hd,sl,sub,ab,co,del⟩=>fL fV bs λbs=>fL fV mro λmro=>fL fI sl λsl=>fL fV sub λsub=>fO fI co λco=>k ⟨n,bs,mro,ns,qn,hd,sl,sub,ab,co,del⟩
noncomputable def fD{β:Type}(d:Data)(k:Data->β):β:=match d with
 | .plain=>k .plain
 | .prim v=>fV v λv=>k (.prim v)
 | .seq xs n=>fA fV xs λxs=>k (.seq xs n)
 | .dict es n=>fA fE es λes=>k (.dict es n)
 | .set es n t=>k (.set es n t)
 | .bytearray b e=>k (.bytearray b e)
 | .cell v=>fO fV v λv=>k (.cell v)
 | .func f=>fF f λf=>k (.func f)
 | .cls c=>fC c λc=>k (.cls c)
 | .fields vs=>fA fV vs λvs=>k (.fields vs)
 | .freed=>k .freed
noncomputable def fObj{β:Type}(o:AO)(k:AO->β):β:=match o with
 | ⟨c,d,dt,sl⟩=>fV c λc=>fO fI d λd=>fD dt λdt=>fA (fO fV) sl λsl=>k ⟨c,d,dt,sl⟩
theorem kr{β:Type}(v:Value)(k:Value->β):fV v k=k v:=by cases v<;> rfl
theorem qV{α β:Type}{f:α->(α->β)->β}(hf:∀ a k,f a k=k a):∀ (l:List α) (k:List α->β),fL f l k=k l:=by
 intro l
 induction l with
 | nil =>
  intro Z
  exact rfl
 | cons a l ih =>
  intro k
  exact (hf a _).trans (ih _)
theorem oK{α β:Type}{f:α->(α->β)->β}(hf:∀ a k,f a k=k a)(x:Option α)(k:Option α->β):fO f x k=k x:=by
 cases x with
 | none=>rfl
 | some a=>unfold fO;dsimp only;rw[hf]
theorem wS{α β:Type}{f:α->(α->β)->β}(hf:∀ a k,f a k=k a)(x:Array α)(k:Array α->β):fA f x k=k x:=by
 obtain⟨l⟩:=x
 unfold fA
 dsimp only
 rw[qV hf]
theorem fE_id{β:Type}(e:CR)(k:CR->β):fE e k=k e:=by
 obtain⟨a,b,c⟩:=e
 unfold fE
 dsimp only
 rw[kr,kr]
theorem tJ{α β:Type}(x:α)(k:α->β):fI x k=k x:=rfl
theorem fF_id{β:Type}(f:Bz)(k:Bz->β):fF f k=k f:=by
 obtain⟨a,b,c,d,e,g,cl,df,kd,dc,pm,an,cd,ct,bi⟩:=f
 unfold fF
 dsimp only
 rw[qV (λx k=>by obtain⟨u,v⟩:=x;rfl)]
 simp only[kr,oK (λx k=>tJ (β:=β) x k)]
 cases d<;> rfl
theorem fC_id{β:Type}(c:KH)(k:KH->β):fC c k=k c:=by
 obtain⟨n,bs,mro,ns,qn,hd,sl,sub,ab,co,del⟩:=c
 unfold fC
 dsimp only
 simp only[qV (λv k=>kr (β:=β) v k),qV (λx k=>tJ (β:=β) x k),oK (λx k=>tJ (β:=β) x k)]
theorem fD_id{β:Type}(d:Data)(k:Data->β):fD d k=k d:=by
 cases d<;> unfold fD<;> dsimp only<;> simp only[kr,wS (λv k=>kr (β:=β) v k),wS (λe k=>fE_id (β:=β) e k),oK (λv k=>kr (β:=β) v k),fF_id,fC_id]
theorem wR{β:Type}(o:AO)(k:AO->β):fObj o k=k o:=by
 obtain⟨c,d,dt,sl⟩:=o
 unfold fObj
 dsimp only
 simp only[kr,oK (λx k=>tJ (β:=β) x k),fD_id,wS (λv k=>oK (λx k=>kr (β:=β) x k) v k)]
theorem ll{p q:Bh}{loose:List zH}{Xt:y9->Bool}{as:List ze}{Ya:Am->List (Option AO)}{N tk:Nat}{g0:Bool}
  (h:∀ w,((Jz (T2 tnF) p w N).bind (fT (T2 tnF) p w N)).bind (λs=>fL (fO fObj) (as.map s.heap.get?) λl=>some (Nd q loose (F0 p.main.body) Xt g0 s,l,Ce tk s.toks))=some (Nf q loose,Ya w,true)) :
  LeftO p q loose Xt (λs=>(as.map s.heap.get?,Ce tk s.toks)) (λw=>(Ya w,true)) N g0:=wz λw=>by
 obtain⟨s,hs,e⟩:=DA.mp (h w)
 rw[qV (λx k=>oK (λo k=>wR o k) x k)] at e
 rw[hs]
 exact e
end Mine
end
noncomputable section
open PySem PySem.W PyProof.Rows
namespace Mine
noncomputable def st1(p:Bh)(i:Nat):Cq:=(p.main.body[i]?).getD (NL AA)
noncomputable def stP:Cq->List Cq×List Cq×MQ×Dx×Expr
 | .FunctionDef _ a b _ _ _ s _ _ _=>(b,[],a,s,AA)
 | .ClassDef _ _ _ b _ _ _ _ _ _ _=>(b,[],AA,AA,AA)
 | .For t _ b _ _=>(b,[],AA,AA,t)
 | .While _ b _ _=>(b,[],AA,AA,AA)
 | .If _ b o _=>(b,o,AA,AA,AA)
 | .Try b _ o _ _=>(b,o,AA,AA,AA)
 | _=>AA
noncomputable def aD(s:Cq):List Cq:=(stP s).1
noncomputable def orB(s:Cq):List Cq:=(stP s).2.1
noncomputable def uS(s:Cq):MQ:=(stP s).2.2.1
noncomputable def qO(s:Cq):Dx:=(stP s).2.2.2.1
noncomputable def st2(p:Bh)(i j:Nat):Cq:=((aD (st1 p i))[j]?).getD (NL AA)
noncomputable def ky (st:Cq):zH:=(docOf (aD st)).getD (yW "")
def pw:Bh:=Lx
noncomputable def fnO (n q:String) (st:Cq) (df doc:Value) (m:String) (tm:AN) (cd:ze):AO:=⟨.type "function", none,.func { name:=yW n,qualname:=yW q,params:=uS st,body:=.stmts (aD st),scope:=qO st,globals:=3,closure:=[],defaults:=df,kwdefaults:=.none,doc:=doc,pyModule:=.str (yW m) tm,annotations:=none,code:=.ref cd,closureTuple:=.none,builtins:=0 },#[]⟩
noncomputable def cdO (n q:String) (t:Nat) (a b c d e:Int) (r1:ze) (bo:Bool) (i:Int) (r2:ze) (v1 v2 v3 v4:Value) (k1 k2:Int) (t4:AN):AO:=⟨.type "code", none,.fields #[.str (yW n) t,.str (yW q) (t+1),.str (yW "/claim/cut.py") (t+2),.int a 0,.int b 0,.int c 0,.int d 0,.int e 0,.ref r1,.bool bo,.int i 0,.ref r2,v1,v2,v3,v4,.int k1 0,.int k2 0,.str (yW "/claim/cut.py") t4],#[]⟩
noncomputable def ent(P:zF)(k:String)(t:AN)(v:Value):CR:=⟨Fh P (yW k),.str (yW k) t,v⟩
noncomputable def o2 (P:zF):AO:=⟨.none,none,(.dict #[ent P "im\x70ort.loaded._heapq" 186 (.bool true),ent P "class._frozen_importlib_external._LoaderBasics" 191 (.ref 16),ent P "watched.im\x70ort" 207 (.ref 20),ent P "class._frozen_importlib_external.FileLoader" 208 (.ref 22),ent P "class._frozen_importlib_external.ExtensionFileLoader" 229 (.ref 27),ent P "class._frozen_importlib.ModuleSpec" 257 (.ref 33),ent P "sys.modules.booked-epoch" 286 (.int (3) 0),ent P "im\x70ort.later-laid._heapq" 304 (.bool true),ent P "watched.library" 306 (.ref 38),ent P "watched.library-objects" 0 (.str "\x0d" 0)] 10),#[]⟩
noncomputable def o3 (P:zF):AO:=⟨(.type "dict"),none,(.dict #[ent P "__name__" 165 (.str "law_yj0002_01" 739),ent P "__doc__" 166 .none,ent P "__package__" 167 .none,ent P "__loader__" 168 (.builtin "__main__.__loader__#opaque"),ent P "__spec__" 169 .none,ent P "__annotations__" 170 (.ref 6),ent P "__builtins__" 171 (.ref 4),ent P "__file__" 173 (.str "/claim/cut.py" 172),ent P "__cached__" 174 .none,ent P "heapify" 312 (.builtin "_heapq.heapify"),ent P "heapreplace" 315 (.builtin "_heapq.heapreplace"),ent P "_wall" 328 (.ref 49),ent P "_tuplegetter" 387 (.ref 88),ent P "Match" 515 (.ref 163),ent P "_calculate_ratio" 523 (.ref 173),ent P "SequenceMatcher" 719 (.ref 270),ent P "nlargest" 727 (.ref 280),ent P "get_close_matches" 738 (.ref 286),ent P "_law_word" 750 (.ref 293),ent P "_law_common" 762 (.ref 300),ent P "_law_share" 771 (.ref 307),ent P "_law_refused" 779 (.ref 314),ent P "_law_refusals_right" 791 (.ref 321),ent P "_law_asked_right" 797 (.ref 326),ent P "law" 803 (.ref 331)] 25),#[]⟩
noncomputable def o96 (P:zF):AO:=⟨(.type "cell"),none,(Data.cell (some (.ref 163))),#[]⟩
noncomputable def o109 (P:zF):AO:=cdO "__new__" "Match.__new__" 409 30 4 0 0 3 104 true 316 105 .none (.ref 106) (.ref 107) (.ref 108) 416 30 417
noncomputable def o110 (P:zF):AO:=fnO "__new__" "Match.__new__" (st2 pw 4 4) .none (.str "Create new in\x73tance of Match(a, b, size)" 418) "cpy313.difflib" 329 109
noncomputable def o116 (P:zF):AO:=cdO "_make" "Match._make" 420 34 2 0 0 3 111 true 316 112 .none (.ref 113) (.ref 114) (.ref 115) 426 34 427
noncomputable def o117 (P:zF):AO:=⟨(.type "function"),none,(.func { name := "_make", qualname := "Match._make", params:=uS (st2 pw 4 5),body:=FuncBody.stmts (aD (st2 pw 4 5)),scope:=qO (st2 pw 4 5),globals:=3,closure:=[],defaults:=.none,kwdefaults:=.none,doc:=(.str "Make a new Match object from a sequence or iterable" 428),pyModule:=(.str "cpy313.difflib" 329),annotations:=(some 120),code:=(.ref 116),closureTuple:=.none,builtins:=0 }),#[]⟩
noncomputable def o119 (P:zF):AO:=⟨(.type "classmethod"),(some 118),(.fields #[(.ref 117),(FI false)]),#[]⟩
noncomputable def o121 (P:zF):AO:=⟨(.type "tuple"),none,(.seq #[(.ref 96)] 0),#[]⟩
noncomputable def o162 (P:zF):AO:=⟨(.type "dict"),none,(.dict #[ent P "__module__" 395 (.str "cpy313.difflib" 329),ent P "__firstlineno__" 399 (.int (24) 398),⟨(Fh P "__doc__"),(.str "__doc__" 401),(.str "Match(a, b, size)" 400)⟩,ent P "__slots__" 403 (.ref 101),ent P "_fields" 407 (.ref 102),ent P "_field_defaults" 408 (.ref 103),ent P "__new__" 419 (.ref 164),ent P "_make" 441 (.ref 119),ent P "_replace" 452 (.ref 128),ent P "__replace__" 453 (.ref 128),ent P "__repr__" 461 (.ref 135),ent P "_asdict" 468 (.ref 142),ent P "__getnewargs__" 476 (.ref 149),ent P "__match_args__" 480 (.ref 150),ent P "a" 490 (.ref 152),ent P "b" 500 (.ref 155),ent P "size" 510 (.ref 158),ent P "__static_attributes__" 511 (.ref 160)] 2),#[]⟩
noncomputable def o163 (P:zF):AO:=⟨(.type "type"),none,(.cls { name := "Match", bases:=[(.type "tuple")],mro:=[(.ref 163),(.type "tuple"),(.type "object")],ns:=162,qualname := "Match", hasDict:=false,slotNames:=[],subclasses:=[],abstract:=false,collection:=none,hasDel:=false }),#[some (.ref 93),none,some (.str "Match" 388),some (.str "Match" 396),some .none,some (FI false)]⟩
noncomputable def o164 (P:zF):AO:=⟨(.type "staticmethod"),none,(.fields #[(.ref 110)]),#[]⟩
noncomputable def o172 (P:zF):AO:=cdO "_calculate_ratio" "_calculate_ratio" 516 67 2 0 0 3 167 true 316 168 .none (.ref 169) (.ref 170) (.ref 171) 521 67 522
noncomputable def o173 (P:zF):AO:=fnO "_calculate_ratio" "_calculate_ratio" (st1 pw 5) .none .none "cpy313.difflib" 329 172
noncomputable def o181 (P:zF):AO:=⟨(.type "tuple"),none,(.seq #[.none,(.str "" 539),(.str "" 540),(FI true)] 0),#[]⟩
noncomputable def o187 (P:zF):AO:=cdO "__init__" "SequenceMatcher.__init__" 541 146 5 0 0 3 182 true 316 183 .none (.ref 184) (.ref 185) (.ref 186) 549 146 550
noncomputable def o188 (P:zF):AO:=fnO "__init__" "SequenceMatcher.__init__" (st2 pw 6 1) (.ref 181) (.str (ky (st2 pw 6 1)) 551) "cpy313.difflib" 329 187
noncomputable def o194 (P:zF):AO:=cdO "set_seqs" "SequenceMatcher.set_seqs" 553 174 3 0 0 3 189 true 316 190 .none (.ref 191) (.ref 192) (.ref 193) 559 174 560
noncomputable def o195 (P:zF):AO:=fnO "set_seqs" "SequenceMatcher.set_seqs" (st2 pw 6 2) .none (.str (ky (st2 pw 6 2)) 561) "cpy313.difflib" 329 194
noncomputable def o201 (P:zF):AO:=cdO "set_seq1" "SequenceMatcher.set_seq1" 563 185 2 0 0 3 196 true 316 197 .none (.ref 198) (.ref 199) (.ref 200) 568 185 569
noncomputable def o202 (P:zF):AO:=fnO "set_seq1" "SequenceMatcher.set_seq1" (st2 pw 6 3) .none (.str (ky (st2 pw 6 3)) 570) "cpy313.difflib" 329 201
noncomputable def o208 (P:zF):AO:=cdO "set_seq2" "SequenceMatcher.set_seq2" 572 210 2 0 0 3 203 true 316 204 .none (.ref 205) (.ref 206) (.ref 207) 577 210 578
noncomputable def o209 (P:zF):AO:=fnO "set_seq2" "SequenceMatcher.set_seq2" (st2 pw 6 4) .none (.str (ky (st2 pw 6 4)) 579) "cpy313.difflib" 329 208
noncomputable def o215 (P:zF):AO:=cdO "__chain_b" "SequenceMatcher.__chain_b" 581 237 1 0 0 3 210 true 316 211 .none (.ref 212) (.ref 213) (.ref 214) 596 237 597
noncomputable def o216 (P:zF):AO:=fnO "__chain_b" "SequenceMatcher.__chain_b" (st2 pw 6 5) .none .none "cpy313.difflib" 329 215
noncomputable def o217 (P:zF):AO:=⟨(.type "tuple"),none,(.seq #[(.int 0 599),.none,(.int 0 600),.none] 0),#[]⟩
noncomputable def o223 (P:zF):AO:=cdO "find_longest_match" "SequenceMatcher.find_longest_match" 601 261 5 0 0 3 218 true 316 219 .none (.ref 220) (.ref 221) (.ref 222) 623 261 624
noncomputable def o224 (P:zF):AO:=fnO "find_longest_match" "SequenceMatcher.find_longest_match" (st2 pw 6 6) (.ref 217) (.str (ky (st2 pw 6 6)) 625) "cpy313.difflib" 329 223
noncomputable def o230 (P:zF):AO:=cdO "get_matching_blocks" "SequenceMatcher.get_matching_blocks" 627 336 1 0 0 3 225 true 316 226 .none (.ref 227) (.ref 228) (.ref 229) 650 336 651
noncomputable def o231 (P:zF):AO:=fnO "get_matching_blocks" "SequenceMatcher.get_matching_blocks" (st2 pw 6 7) .none (.str (ky (st2 pw 6 7)) 652) "cpy313.difflib" 329 230
noncomputable def o248(P:zF):AO:=⟨.none,none,(.fields #[]),#[]⟩
noncomputable def o252 (P:zF):AO:=cdO "ratio" "SequenceMatcher.ratio" 670 390 1 0 0 3 247 true 316 248 .none (.ref 249) (.ref 250) (.ref 251) 675 390 676
noncomputable def o253 (P:zF):AO:=fnO "ratio" "SequenceMatcher.ratio" (st2 pw 6 10) .none (.str (ky (st2 pw 6 10)) 677) "cpy313.difflib" 329 252
noncomputable def o259 (P:zF):AO:=cdO "quick_ratio" "SequenceMatcher.quick_ratio" 679 414 1 0 0 3 254 true 316 255 .none (.ref 256) (.ref 257) (.ref 258) 689 414 690
noncomputable def o260 (P:zF):AO:=fnO "quick_ratio" "SequenceMatcher.quick_ratio" (st2 pw 6 11) .none (.str (ky (st2 pw 6 11)) 691) "cpy313.difflib" 329 259
noncomputable def o266 (P:zF):AO:=cdO "real_quick_ratio" "SequenceMatcher.real_quick_ratio" 693 437 1 0 0 3 261 true 316 262 .none (.ref 263) (.ref 264) (.ref 265) 699 437 700
noncomputable def o267 (P:zF):AO:=fnO "real_quick_ratio" "SequenceMatcher.real_quick_ratio" (st2 pw 6 12) .none (.str (ky (st2 pw 6 12)) 701) "cpy313.difflib" 329 266
noncomputable def o269d (d:zH) (P:zF):AO:=⟨(Ai "dict"),none,(Data.dict #[ent P "__module__" 531 (.str (yW "cpy313.difflib") 329),ent P "__firstlineno__" 535 (.int (71) 534),ent P "__doc__" 537 (.str d 536),ent P "__init__" 552 (.ref 188),ent P "set_seqs" 562 (.ref 195),ent P "set_seq1" 571 (.ref 202),ent P "set_seq2" 580 (.ref 209),ent P "_SequenceMatcher__chain_b" 598 (.ref 216),ent P "find_longest_match" 626 (.ref 224),ent P "get_matching_blocks" 653 (.ref 231),ent P "get_opcodes" 660 (.ref 238),ent P "get_grouped_opcodes" 669 (.ref 246),ent P "ratio" 678 (.ref 253),ent P "quick_ratio" 692 (.ref 260),ent P "real_quick_ratio" 702 (.ref 267),ent P "__static_attributes__" 713 (.ref 268),ent P "__dict__" 715 (.ref 271),ent P "__weakref__" 717 (.ref 272)] 3),#[]⟩
noncomputable def o270 (P:zF):AO:=⟨(.type "type"),none,(.cls { name := "SequenceMatcher", bases:=[(.type "object")],mro:=[(.ref 270),(.type "object")],ns:=269,qualname := "SequenceMatcher", hasDict:=true,slotNames:=[],subclasses:=[],abstract:=false,collection:=none,hasDel:=false }),#[none,none,some (.str "SequenceMatcher" 524),some (.str "SequenceMatcher" 532),some (DW "object.__new__"),some (FI true)]⟩
noncomputable def o275 (P:zF):AO:=⟨(.type "tuple"),none,(.seq #[.none] 0),#[]⟩
noncomputable def o279 (P:zF):AO:=cdO "nlargest" "nlargest" 722 446 3 0 0 3 276 true 316 277 .none .none .none (.ref 278) 725 446 726
noncomputable def o280 (P:zF):AO:=fnO "nlargest" "nlargest" (st1 pw 8) (.ref 275) .none "heapq" 720 279
noncomputable def uG (P:zF):AO:=⟨(.type "tuple"),none,(.seq #[(.int 3 730),(BA 4603579539098121011 731)] 0),#[]⟩
noncomputable def o285 (P:zF):AO:=cdO "get_close_matches" "get_close_matches" 732 492 4 0 0 3 282 true 316 283 .none .none .none (.ref 284) 735 492 736
noncomputable def o286 (P:zF):AO:=fnO "get_close_matches" "get_close_matches" (st1 pw 10) (.ref 281) (.str (ky (st1 pw 10)) 737) "cpy313.difflib" 728 285
noncomputable def o292 (P:zF):AO:=cdO "_law_word" "_law_word" 741 534 1 0 0 3 287 true 316 288 .none (.ref 289) (.ref 290) (.ref 291) 748 534 749
noncomputable def o293 (P:zF):AO:=fnO "_law_word" "_law_word" (st1 pw 12) .none .none "law_yj0002_01" 739 292
noncomputable def o299 (P:zF):AO:=cdO "_law_common" "_law_common" 751 540 2 0 0 3 294 true 316 295 .none (.ref 296) (.ref 297) (.ref 298) 760 540 761
noncomputable def o300 (P:zF):AO:=fnO "_law_common" "_law_common" (st1 pw 13) .none .none "law_yj0002_01" 739 299
noncomputable def o306 (P:zF):AO:=cdO "_law_share" "_law_share" 763 548 2 0 0 3 301 true 316 302 .none (.ref 303) (.ref 304) (.ref 305) 769 548 770
noncomputable def o307 (P:zF):AO:=fnO "_law_share" "_law_share" (st1 pw 14) .none .none "law_yj0002_01" 739 306
noncomputable def o313 (P:zF):AO:=cdO "_law_refused" "_law_refused" 772 551 1 0 0 3 308 true 316 309 .none (.ref 310) (.ref 311) (.ref 312) 777 551 778
noncomputable def o314 (P:zF):AO:=fnO "_law_refused" "_law_refused" (st1 pw 15) .none .none "law_yj0002_01" 739 313
noncomputable def o316(P:zF):AO:=⟨.none,none,(.fields #[]),#[]⟩
noncomputable def o320 (P:zF):AO:=cdO "_law_refusals_right" "_law_refusals_right" 780 557 2 0 0 3 315 true 316 316 .none (.ref 317) (.ref 318) (.ref 319) 789 557 790
noncomputable def o321 (P:zF):AO:=fnO "_law_refusals_right" "_law_refusals_right" (st1 pw 16) .none .none "law_yj0002_01" 739 320
noncomputable def o325 (P:zF):AO:=cdO "_law_asked_right" "_law_asked_right" 792 570 5 0 0 3 322 true 316 323 .none .none .none (.ref 324) 795 570 796
noncomputable def o326 (P:zF):AO:=fnO "_law_asked_right" "_law_asked_right" (st1 pw 17) .none .none "law_yj0002_01" 739 325
noncomputable def o330 (P:zF):AO:=cdO "law" "law" 798 574 1 0 0 3 327 true 316 328 .none .none .none (.ref 329) 801 574 802
noncomputable def o331 (P:zF):AO:=fnO "law" "law" (st1 pw 18) .none .none "law_yj0002_01" 739 330
noncomputable def K1(P:zF):Ho:=[(2,o2 P),(3,o3 P),(96,o96 P),(109,o109 P),(110,o110 P),(116,o116 P),(117,o117 P),(119,o119 P),(121,o121 P),(162,o162 P),(163,o163 P),(164,o164 P),(172,o172 P),(173,o173 P),(181,o181 P),(187,o187 P),(188,o188 P),(194,o194 P),(195,o195 P),(201,o201 P),(202,o202 P),(208,o208 P),(209,o209 P),(215,o215 P),(216,o216 P),(217,o217 P),(223,o223 P),(224,o224 P),(230,o230 P),(231,o231 P)]
noncomputable def K2(d:zH)(P:zF):Ho:=[(252,o252 P),(253,o253 P),(259,o259 P),(260,o260 P),(266,o266 P),(267,o267 P),(269,o269d d P),(270,o270 P),(275,o275 P),(279,o279 P),(280,o280 P),(281,uG P),(285,o285 P),(286,o286 P),(292,o292 P),(293,o293 P),(299,o299 P),(300,o300 P),(306,o306 P),(307,o307 P),(313,o313 P),(314,o314 P)]
noncomputable def K3(P:zF):Ho:=[(320,o320 P),(321,o321 P),(325,o325 P),(326,o326 P),(330,o330 P),(331,o331 P)]
noncomputable def KD(d:zH)(P:zF):Ho:=K1 P++(248,o248 P)::(K2 d P++(316,o316 P)::K3 P)
noncomputable def KK(P:zF):Ho:=KD (ky (st1 pw 6)) P
noncomputable def aa:List ze:=[2,3,96,109,110,116,117,119,121,162,163,164,172,173,181,187,188,194,195,201,202,208,209,215,216,217,223,224,230,231,248,252,253,259,260,266,267,269,270,275,279,280,281,285,286,292,293,299,300,306,307,313,314,316,320,321,325,326,330,331]
noncomputable def qq:Bh:=view pw [0,18]
noncomputable def loose:List zH:=[yW "_wall", yW "_tuplegetter", yW "Match", yW "_calculate_ratio", yW "SequenceMatcher", yW "nlargest", yW "get_close_matches", yW "_law_word", yW "_law_common", yW "_law_share", yW "_law_refused", yW "_law_refusals_right", yW "_law_asked_right"]
noncomputable def law:OpenLaw:=F2
noncomputable abbrev Xt(s:y9):Bool:=xlAt qq [] s&&recOk law.row.records s
def tk0:Nat:=804
noncomputable def lhs(pg:Bh)(w:Am):=((Jz (T2 tnF) pg w 4910).bind (fT (T2 tnF) pg w 4910)).bind (λs=>fL (fO fObj) (aa.map s.heap.get?) λl=>some (Nd qq loose (F0 pw.main.body) Xt true s,l,Ce tk0 s.toks))
noncomputable def obsL(d:zH)(w:Am):List (Option AO):=(KD d w.params).map λp=>some p.2
noncomputable def rhs(d:zH)(w:Am):=some ((expectedOf qq,bltViewBooted,true,true,pinGoodD (drecsOf qq),plainGoodE qq (looseW qq loose),plainGoodD qq loose,wideGood qq,clsGoodW qq loose),obsL d w,true)
noncomputable def xB:{ q:zH->Cq // q (ky (st1 pw 6))=st1 pw 6 }:=⟨λd=>.ClassDef _ _ _ (.Expr (.Constant (.str d) _ _) _::(aD (st1 pw 6)).tail) _ _ _ _ _ _ _,rfl⟩
noncomputable def pwD(p:Bh)(d:zH):Bh:={ p with main:={ p.main with body:=p.main.body.set 6 (xB.1 d) } }
noncomputable def docL:{ cs:List Char // ky (st1 pw 6)=yW (String.ofList cs) }:=⟨_,rfl⟩
noncomputable def docA:zH:=⟨(docL.1.map Char.toNat).toArray⟩
theorem wW:docA=ky (st1 pw 6):=(docL.2.trans (Ly _)).symm
theorem chk0(w:Am):lhs (pwD pw docA) w=rhs docA w:=by kernel_rfl
theorem vT:pwD pw (ky (st1 pw 6))=pw:=by kernel_rfl
theorem chk(w:Am):lhs pw w=rhs (ky (st1 pw 6)) w:=by
 have h:=chk0 w
 rw[wW,vT] at h
 exact h
theorem xE(w:Am):rhs (ky (st1 pw 6)) w=some (Nf qq loose,((KK w.params).map λp=>some p.2,true)):=by kernel_rfl
end Mine
end
noncomputable section
open PySem PySem.W PyProof.Rows
namespace Mine
theorem left:LeftO pw qq loose Xt (λs=>(aa.map s.heap.get?,Ce tk0 s.toks)) (λw=>((KK w.params).map λp=>some p.2,true)) 4910 :=
 ll (Ya:=λw=>(KK w.params).map λp=>some p.2) λw=>(chk w).trans (xE w)
end Mine
end
noncomputable section
namespace Mine
section
open Ar
open Ar.E (n v)
set_option linter.defProp false
variable{a b c d e f g h i j k l m:Nat}
def y0m:=ok [] (.le (.s (.mn A B) C) B) [a,b,c]
theorem y0n{a:Int}{b:Nat}(h:0<=a):(a + ↑b * 1).toNat=Dg a+b:=by rw[G6];exact ok [.Eq (.c B) (.mx (.a (.w 0) (.c A)) (.k 0)),.Eq (.c C) (.mx (.w 0) (.k 0)),.Le (.k 0) (.w 0)] (.eq B (.a C A)) [b,(a+b).toNat,a.toNat] [a] (by kernel_rfl) (AX _) (AX _) h
def y0o:=ok [.lt A (n 12),.le B A] (.le B (n 16777216)) [a,b]
def y0s:=ok [] (.le (.mn (n 4) A) (n 1000)) [a]
def y0t:=ok [.lt (n 0) A] (.le (n 1) (.mn (n 4) A)) [a]
def y0u:=ok [.le A (n 4)] (.le (.a A (n 2)) (n 1000)) [a]
def y0v:=ok [.le A (n 4)] (.le (.a A (.a (.a (n 0) (n 1)) (n 1))) (n 1000)) [a]
def y0x:=ok [.le (n 1) A,.eq B (.a A (.a (.a (n 0) (n 1)) (n 1)))] (.le (n 3) B) [a,b]
def y0y:=ok [.le A (n 4),.eq B (.a A (.a (.a (n 0) (n 1)) (n 1)))] (.le B (n 6)) [a,b]
def y15:=ok [.le A B,.le C G] (.lt (.a A C) (.a B (.a G (n 1)))) [a,b,c,d]
def y18:=ok [.lt A B] (.no (.Le (.c B) (.c A))) [a,b]
def y1j:=ok [.le A (n 7)] (.lt A (n 12)) [a]
def y1m:=ok [.le A (n 7),.eq B A] (.le B (n 12)) [a,b]
def y1p:=ok [.le A (n 5)] (.lt A (n 12)) [a]
def y1q:=ok [.le A (n 5)] (.le (.s A (n 1)) (n 5)) [a]
def y1s:=ok [.le A (n 60)] (.le (.a A A) (n 16777216)) [a]
def y1t:=ok [.le A (n 6)] (.le (.a A (n 2)) (n 1000)) [a]
def y1w:=ok [.le (n 776) A,.le (.a (.a A (n 1)) (n 1)) B,.le (.a (.a B (n 1)) (n 1)) C] (.le (n 776) (.a C (n 1))) [a,b,c]
theorem y1x{a b:Nat}(h:776<=a)(q:a<=b):776<=Nat.succ b:=Ec (zk h q)
def y1z:=ok [.le (n 776) A] (.ne A (n 0)) [a]
def y20:=ok [.le (n 776) A] (.ne A (n 540)) [a]
def y21:=ok [.le (n 776) A] (.lt (n 0) A) [a]
def y22:=ok [.le (n 776) A] (.ne A (n 539)) [a]
def y25:=ok [.le A (n 7)] (.le (.a A (n 1)) (n 1000)) [a]
def y26:=ok [.le (n 776) A] (.le (n 776) (.a (.a (.a (.a (.a A (n 1)) (n 1)) (n 1)) (n 1)) (n 1))) [a]
def y28:=ok [.le (n 776) A] (.le (n 776) (.a (.a A (n 1)) B)) [a,b]
def y29:=ok [.le (n 4) A,.eq (.a B (n 1)) (.a A (n 1))] (.le (n 4) B) [a,b]
def y2a:=ok [.le A (n 7),.eq (.a B (n 1)) (.a A (n 1))] (.le B (n 7)) [a,b]
def y2b:=ok [.le (n 776) A] (.le (n 776) (.a (.a (.a (.a (.a A (n 1)) (n 1)) (n 1)) (n 1)) (n 1))) [a]
def y2d:=ok [] (.Eq (.a (.k 1) (.c A)) (.c (.a A (n 1)))) [a]
def y2e:=ok [.le (n 776) A] (.le (n 776) (.a (.a (.a (.a (.a (.a (.a (.a (.a (.a (.a (.a A (n 1)) (n 1)) (n 1)) (n 1)) (n 1)) (n 1)) (n 1)) (n 1)) (n 1)) (n 1)) (n 1)) (n 1))) [a]
def y2j:=ok [.le A (n 10)] (.lt A (n 12)) [a]
def y2l:=ok [.le (.a A (n 1)) B,.lt B C,.le (n 776) A] (.le (n 776) C) [a,b,c]
def y2m:=ok [.le (.a A (n 1)) B,.lt B C,.lt G A] (.lt G C) [a,b,c,d]
def y2n:=ok [.le (.a A (n 1)) B,.le (n 776) A] (.le (n 776) B) [a,b]
def y2q:=ok [.le A (n 7),.eq B A] (.lt B (n 64)) [a,b]
theorem y2u{a:Nat}(h:a<=7):a * (20+1)<=200:=zk (Dk _ h) (by decide)
def y2v:=ok [.le A B,.le C G] (.le (.a (.a A (n 1)) C) (.a G (.a B (n 1)))) [a,b,c,d]
def y2y:=ok [.lt (.a A (n 10)) B,.le C (n 3)] (.lt (.a A (.a C (n 1))) B) [a,b,c]
def y2z:=ok [.le A (.a (.m (8+2) B) (n 8)),.le B (n 402)] (.le A (n 16777216)) [a,b]
def y30:=ok [.le A (n 7),.eq B A] (.le B (n 1000)) [a,b]
def y36:=ok [.le A (n 7),.eq B A,.le C B] (.le (.a C (.a (n 0) (n 1))) (n 1000)) [a,b,c]
def y37:=ok [.le A (n 7),.eq B A,.le (.a C (n 1)) B] (.le (.a C (.a (n 0) (n 1))) (n 900)) [a,b,c]
def y3g:=ok [.le A (n 1000),.le B C,.lt C A] (.le B (n 10000)) [a,b,c]
def y4u:=ok [.le A B] (.eq (.mn A B) A) [a,b]
def y4w:=ok [] (.eq (.a (.a (.s (.mn A B) (n 0)) (n 1)) (.s (.mn B B) A)) (.a B (n 1))) [a,b]
def y4x:=ok [.le (.s A B) (n 0),.le B A] (.eq B A) [a,b]
def y4z:=ok [.le A B,.lt C A] (.lt C (.s (.mn A B) (n 0))) [a,b,c]
def y50:=ok [.le (.m 2 C) (.a A B),.lt (.a A B) (.m 2 (.a C (n 1))),.lt A B] (.le A C) [a,b,((a+b) / 2)] [] (by kernel_rfl) (AY _ 2) (z0 _ (by decide))
def y52:=ok [.eq A B] (.lt A (.a B (n 1))) [a,b]
def y53:=ok [.no (.lt A B),.no (.eq A B)] (.no (.lt A (.a B (n 1)))) [a,b]
def y54:=ok [.le (.m 2 C) (.a A B),.lt (.a A B) (.m 2 (.a C (n 1))),.lt A B] (.lt C B) [a,b,((a+b) / 2)] [] (by kernel_rfl) (AY _ 2) (z0 _ (by decide))
def y55:=ok [.le (.m 2 H) (.a B A),.lt (.a B A) (.m 2 (.a H (n 1))),.le (.s A B) (.a C (n 1)),.eq H G] (.le (.s A (.a G (n 1))) C) [a,b,c,d,((b+a) / 2)] [] (by kernel_rfl) (AY _ 2) (z0 _ (by decide))
def y56:=ok [.no (.lt A B),.no (.eq A B),.lt (.s A (n 1)) C] (.lt (.s A (.a B (n 1))) (.s (.mn C C) B)) [a,b,c]
def y57:=ok [.le (.m 2 H) (.a B A),.lt (.a B A) (.m 2 (.a H (n 1))),.le (.s A B) (.a C (n 1)),.eq H G] (.le (.s G B) C) [a,b,c,d,((b+a) / 2)] [] (by kernel_rfl) (AY _ 2) (z0 _ (by decide))
def y58:=ok [.no (.lt A B),.no (.eq A B)] (.eq (.a B (.s A (.a B (n 1)))) (.s A (n 1))) [a,b]
def y59:=ok [.no (.lt (.s A (n 1)) B)] (.no (.lt (.s A (.a C (n 1))) (.s (.mn B B) C))) [a,b,c]
def y5e:=ok [.le A B,.le C A] (.le (.a C (.s A C)) B) [a,b,c]
def y5g:=ok [.le (.a A B) C,.lt (n 0) B] (.le (.a (.a A (n 1)) (.s B (n 1))) C) [a,b,c]
def y5h:=ok [.le A B,.le C A] (.le (.a C (.s A C)) B) [a,b,c]
def y5i:=ok [.no (.lt A B),.no (.eq A B)] (.le B (.s A (n 1))) [a,b]
def y5j:=ok [.le A B,.lt C (.a B (n 1)),.lt G A] (.lt (.s C (n 1)) B) [a,b,c,d]
def y5k:=ok [.lt A B,.no (.lt A C)] (.no (.lt B C)) [a,b,c]
def y5l:=ok [.lt A B,.no (.lt A C)] (.no (.eq B C)) [a,b,c]
def y5m:=ok [.lt A B,.eq A C] (.le C (.s B (n 1))) [a,b,c]
def y5n:=ok [.lt A B,.lt B (.a C (n 1))] (.lt (.s B (n 1)) C) [a,b,c]
def y5o:=ok [.lt A B,.no (.lt A C),.no (.eq A C)] (.lt (.s A (n 1)) (.s B (n 1))) [a,b,c]
def y5p:=ok [.lt A (.a B (n 1)),.no (.lt A C),.no (.eq A C)] (.lt (.s A (n 1)) B) [a,b,c]
def y5r:=ok [.le A (n 7),.le (n 8) B,.le B A] .f [a,b]
def y5w:=ok [.eq A (n 4)] (.le (.a A (n 1)) (n 7)) [a]
def y5x:=ok [.eq A (n 4)] (.no (.le (.a A (n 1)) (n 4))) [a]
def y5z:=ok [.no (.eq A (n 4)),.le A (n 4)] (.le (.a A (n 1)) (n 4)) [a]
def y60:=ok [.no (.le A (n 4))] (.no (.le (.a A (n 1)) (n 4))) [a]
def y63:=ok [.le A (.mn B C)] (.le A B) [a,b,c]
def y64:=ok [.lt A B,.le C A,.le B (n 7)] (.le C (n 6)) [a,b,c]
def y68:=ok [.le (.a A (n 1)) A] (.eq B (.a C (n 1))) [a,b,c]
def y6a:=ok [.lt A (.a B (n 1)),.lt B A] (.eq C (.a G (n 1))) [a,b,c,d]
def y6d:=ok [.le A (n 7),.eq B A] (.le B (n 16777216)) [a,b]
theorem y6h{a b c:Nat}:a<=b->c<a->c<=b:=ok [.le A B,.lt C A] (.le C B) [a,b,c]
theorem y6i{a b c:Nat}:a<=b->c<a->c+1<=b+1:=ok [.le A B,.lt C A] (.le (.a C (n 1)) (.a B (n 1))) [a,b,c]
def y6k:=ok [.le A (n 1000),.le B (n 1000)] (.le (.a A B) (n 16777216)) [a,b]
def y6v:=ok [.le A (n 1000)] (.le (.a (n 15) A) (n 16777216)) [a]
def y6w:=ok [.le A (n 1000)] (.le (.a (n 30) A) (n 16777216)) [a]
def y7a:=ok [.lt (.a (.a A (.a B (n 1))) (n 10)) C] (.lt A C) [a,b,c]
def y7c:=ok [.lt A (n 12),.eq (.mn A B) C] (.lt C (n 12)) [a,b,c]
def y7e:=ok [.lt A B] (.Eq (.s (.c B) (.c A)) (.c (.s B A))) [a,b]
def y7h:=ok [.lt (.s A (.a B (n 1))) C] (.or (.eq C (.s A B)) (.lt (.s A B) C)) [a,b,c]
def y7i:=ok [.eq (.mn A B) C,.eq (.s C G) H] (.le H A) [a,b,c,d,e]
def y7j:=ok [.eq (.mn A B) C,.eq (.s C G) H] (.le H B) [a,b,c,d,e]
def y7k:=ok [.eq (.mn A B) C,.eq (.s C G) H] (.Le (.k (-1000)) (.a (.s (.c A) (.c H)) (.k 1))) [a,b,c,d,e]
def y7l:=ok [.lt A (n 12)] (.Le (.a (.s (.c A) (.c B)) (.k 1)) (.k 1000)) [a,b]
def y7m:=ok [.Eq (.c I) (.mx (.s (.a (.s (.c A) (.c H)) (.k 1)) (.k 0)) (.k 0)),.eq (.mn A B) C,.eq (.s C G) H] (.eq I (.a (.s A H) (n 1))) [a,b,c,d,e,(Dg (((((a:Nat):Int) - ((e:Nat):Int))+(1:Int)) - (0:Int)))] [] (by kernel_rfl) (AX (((((a:Nat):Int) - ((e:Nat):Int))+(1:Int)) - (0:Int)))
def y7n:=ok [.eq (.mn A B) C,.eq (.s C G) H] (.Le (.k (-1000)) (.a (.s (.c B) (.c H)) (.k 1))) [a,b,c,d,e]
def y7o:=ok [.Eq (.c I) (.mx (.s (.a (.s (.c B) (.c H)) (.k 1)) (.k 0)) (.k 0)),.eq (.mn A B) C,.eq (.s C G) H] (.eq I (.a (.s B H) (n 1))) [a,b,c,d,e,(Dg (((((b:Nat):Int) - ((e:Nat):Int))+(1:Int)) - (0:Int)))] [] (by kernel_rfl) (AX (((((b:Nat):Int) - ((e:Nat):Int))+(1:Int)) - (0:Int)))
def y7p:=ok [.eq (.mn A B) C,.eq (.s C G) H,.lt I (.a (.s A H) (n 1))] (.le (.a I H) A) [a,b,c,d,e,f]
def y7q:=ok [.eq (.mn A B) C,.eq (.s C G) H,.lt I (.a (.s B H) (n 1))] (.le (.a I H) B) [a,b,c,d,e,f]
def y7r:=ok [.lt A (n 12),.le (.a B C) A] (.lt B (n 12)) [a,b,c]
def y7s:=ok [.lt A (n 12),.le (.a B C) A] (.lt (.a B C) (n 12)) [a,b,c]
def y7t:=ok [.lt (.a (.a A (.m 3 (.a B (n 1)))) (n 10)) C] (.lt (.a A (n 3)) C) [a,b,c]
def y7u:=ok [.lt (.a (.a A (.a B (n 1))) (n 10)) C] (.lt (.a (.a (.a A (n 1)) B) (n 10)) C) [a,b,c]
def y7v:=ok [.lt (.a (.a A (.m 3 (.a B (n 1)))) (n 10)) C] (.lt (.a (.a (.a A (n 3)) (.m 3 B)) (n 10)) C) [a,b,c]
def y7w:=ok [.lt A (.a B (n 1)),.lt C G,.eq (.s G C) H,.le (.a I H) A] (.lt (.mn I A) B) [a,b,c,d,e,f]
def y7x:=ok [.lt A (.a B (n 1)),.eq (.mn A C) G,.lt H G,.eq (.s G H) I] (.lt (.s A (.a J I)) B) [a,b,c,d,e,f,g]
def y7z:=ok [.lt (n 0) A] (.lt (.s B B) A) [a,b]
def y80:=ok [.eq A B,.le A C,.le A G] (.le (.m 2 B) (.a C G)) [a,b,c,d]
def y82:=ok [.le A (.a B (n 1)),.le (.a (.a B (n 1)) (n 1)) C] (.le A C) [a,b,c]
def y84:=ok [.lt A (n 12),.lt B (n 12)] (.Le (.a (.c A) (.c B)) (.k 1000)) [a,b]
def y86:=ok [.le A B] (.le A (.a (.a B (n 1)) (n 1))) [a,b]
def y87:=ok [.lt (.a A (n 30)) B,.lt C (n 12)] (.lt (.a (.a (.a A (n 1)) (.a C (n 1))) (n 10)) B) [a,b,c]
def y88:=ok [.lt (.a A (n 60)) B,.lt C (n 12)] (.lt (.a (.a (.a A (n 3)) (.m 3 (.a C (n 1)))) (n 10)) B) [a,b,c]
def y89:=ok [.lt A (n 12),.lt B (n 12),.le (.m 2 C) (.a A B)] (.Le (.c C) (.k 1000)) [a,b,c]
def y8c:=ok [.no (.Lt (.k 0) (.a (.c A) (.c B)))] (.Eq (.a (.c A) (.c B)) (.k 0)) [a,b]
end
end Mine
end
open PySem PySem.W PySem.W.X PySem.Calls PyProof.Rows
namespace Mine
abbrev VP:=Value->y9->Prop
abbrev FP:=Ng->y9->Prop
abbrev UP:=Unit->y9->Prop
abbrev BP:=Bool->y9->Prop
abbrev LP:=List Value->y9->Prop
theorem aj{α:Type}{a b:α}{l:List α}(h:a∈l):a∈b::l:=List.Mem.tail b h
abbrev LV:=List (zH×Value)
abbrev LO:=List (ze×AO)
noncomputable section
variable{prog:Bh}{w:Am}{A:AR}{E Q:VP}{hb h h':AE}{L t u fa C dx F d I P mp it D res sj L' nn dj d2 dd mbl pd L0 c' dw Da:ze}{M:HF}{s:y9}{env e0:ID}{K:Ho}{fd:Bz}{p' tpos p spos py p1 p2 p3:Ef}{rest body orelse:List Cq}{value test target:Expr}{name txt qual:zH}{od oj oL o2 oc oi oa oh:AO}{first scv:List Value}{trees:List (Bool×Lz Value)}{args:M1}{fp wr:List ze}{i x1 j alo ahi blo bhi m nq na nr np ep cf:Nat}{Wt:Nat->AE->Prop}{elts:List Expr}{key Js va vb mb fc sp cut wv cv pm ctv:Value}{Pt:Nat->Array Value->Prop}{Mid:Nat->ze->AE->Prop}{α:Type}{g:UInt64->Bool}{rk:UInt64->List zH->Nat}{R:Cg->y9->Prop}{κ:L5}{la lb:List zH}{ta tc td ti tj t1 t2 t3 tk tn ts tf tg:AN}{kvj:List (Int×Value)}{vsc ps:Array Value}{after:Int}{rkv:Value->Nat}{cl:List (zH×ze)}{d1:Hp}{es:Array (Int×Value)}{fs:List (UInt64×AN)}
noncomputable abbrev wh(s:y9)(h:AE):y9:={ s with heap:=h }
noncomputable abbrev wht(s:y9)(h:AE)(t:AN):y9:={ s with heap:=h,toks:=t }
noncomputable abbrev wt(s:y9)(t:AN):y9:={ s with toks:=t }
section
variable(M:HF)(A:AR)(env:ID)(E:VP)
abbrev sR(rest:List Cq)(Q:FP){α:Type}(_:α)(s:y9):Prop:=y4 M A (zY rest env) Q E s
abbrev uO(x:zH)(rest:List Cq)(Q:FP)(v:Value)(s:y9):Prop:=y4 M A (E9 env x v) (sR M A env E rest Q) E s
abbrev kSetB(attr:zH)(v:Value)(rest:List Cq)(Q:FP)(ov:Value)(s:y9):Prop:=y4 M A (setAttr ov attr v) (sR M A env E rest Q) E s
abbrev kSetA(o:Expr)(attr:zH)(rest:List Cq)(Q:FP)(v:Value)(s:y9):Prop:=y4 M A (Aq o env) (kSetB M A env E attr v rest Q) E s
abbrev ym(t:Expr)(rest:List Cq)(Q:FP)(v:Value){α:Type}(_:α)(s:y9):Prop:=y4 M A (BL t env v) (sR M A env E rest Q) E s
abbrev wC(t:Expr)(rest:List Cq)(Q:FP)(v:Value)(s:y9):Prop:=y4 M A (BL t env v) (sR M A env E rest Q) E s
abbrev kTwo(t u:Expr)(rest:List Cq)(Q:FP)(v:Value)(s:y9):Prop:=y4 M A (BL t env v) (ym M A env E u rest Q v) E s
abbrev yl(t u:Expr)(rest:List Cq)(Q:FP)(v:Value){α:Type}(_:α)(s:y9):Prop:=y4 M A (BL t env v) (ym M A env E u rest Q v) E s
abbrev yk(t u z:Expr)(rest:List Cq)(Q:FP)(v:Value)(s:y9):Prop:=y4 M A (BL t env v) (yl M A env E u z rest Q v) E s
abbrev kAugB(x:zH)(op:JZ)(old:Value)(rest:List Cq)(Q:FP)(v:Value)(s:y9):Prop:=y4 M A (inplaceOp op old v) (uO M A env E x rest Q) E s
abbrev kAug(x:zH)(op:JZ)(value:Expr)(rest:List Cq)(Q:FP)(old:Value)(s:y9):Prop:=y4 M A (Aq value env) (kAugB M A env E x op old rest Q) E s
abbrev kExpr(rest:List Cq)(Q:FP)(v:Value)(s:y9):Prop:=match v with|.ref _=>False|_=>y4 M A (zY rest env) Q E s
abbrev yp(rest:List Cq)(Q:FP)(f:Ng)(s:y9):Prop:=match f with|.next=>y4 M A (zY rest env) Q E s|f=>Q f s
structure kIf(body orelse rest:List Cq)(Q:FP)(b:Bool)(s:y9):Prop where
 h1:b=true->y4 M A (zY body env) (yp M A env E rest Q) E s
 h2:b=false->y4 M A (zY orelse env) (yp M A env E rest Q) E s
abbrev kRet(Q:FP)(v:Value)(s:y9):Prop:=Q (.ret v) s
abbrev wB(pos:Ef)(args:List Expr)(Q:VP)(f:Value)(s:y9):Prop:=y4 M A (DS pos f [] (Ci pos (AI args env)) []) Q E s
abbrev yq(pos:Ef)(args:List Expr)(Q:VP)(fx:Value×List Value)(s:y9):Prop:=y4 M A (DS pos fx.1 fx.2 (Ci pos (AI args env)) []) Q E s
abbrev kMeth(name:zH)(pl:Lz Bool)(pos:Ef)(args:List Expr)(Q:VP)(ov:Value)(s:y9):Prop:=y4 M A (HG ov name pl) (yq M A env E pos args Q) E s
abbrev yt(Q:LP)(v:Value)(vs:List Value)(s:y9):Prop:=Q (v::vs) s
abbrev wD(pos:Ef)(rest:List Expr)(Q:LP)(v:Value)(s:y9):Prop:=y4 M A (CD (Ci pos (AI rest env))) (yt Q v) E s
abbrev kBinB(op:JZ)(a:Value)(Q:VP)(b:Value)(s:y9):Prop:=y4 M A (EM op a b) Q E s
abbrev kBin(op:JZ)(r:Expr)(Q:VP)(a:Value)(s:y9):Prop:=y4 M A (Aq r env) (kBinB M A E op a Q) E s
abbrev kCmpB(op:CmpOp)(a:Value)(Q:VP)(b:Value)(s:y9):Prop:=y4 M A (AF op a b) Q E s
abbrev kCmp(op:CmpOp)(r:Expr)(Q:VP)(a:Value)(s:y9):Prop:=y4 M A (Aq r env) (kCmpB M A E op a Q) E s
abbrev uN(Q:BP)(c:Value)(s:y9):Prop:=y4 M A (truthy c) Q E s
abbrev kNot(Q:BP)(c:Bool)(s:y9):Prop:=Q (!c) s
structure kAnd(rest:List Expr)(pos:Ef)(whole:Lz Value)(Q:BP)(c:Bool)(s:y9):Prop where
 h1:c=true->y4 M A (isTrue (.BoolOp .And rest pos) env whole) Q E s
 h2:c=false->Q false s
abbrev kFn(R:Cg->y9->Prop)(f:Ng)(s:y9):Prop:=R (.ok (.ret (match f with|.ret v=>v|_=>.none))) s
abbrev kLv(R:Cg->y9->Prop)(e:Value)(s:y9):Prop:=y4 M A (leaving env e) (λZ s'=>R (.error e) s') (λe' s'=>R (.error e') s') s
abbrev kRes(Q:VP)(r:Cg)(s:y9):Prop:=match r with|.ok (.ret v)=>Q v s|.ok _=>False|.error e=>E e s
abbrev kBi(id:String)(first:List Value)(Q:VP)(vs:List Value)(s:y9):Prop:=y4 M A (call (.builtin id) (first++vs)) Q E s
abbrev kTy(T:String)(first:List Value)(Q:VP)(vs:List Value)(s:y9):Prop:=y4 M A (call (.type T) (first++vs)) Q E s
abbrev kDot(name:zH)(Q:VP)(ov:Value)(s:y9):Prop:=y4 M A (G7 ov name true) Q E s
abbrev kOrd(ts:List (Value->Lz Unit))(xs:List Value)(Q:UP)(_:Unit)(s:y9):Prop:=y4 M A (Ca ts xs) Q E s
abbrev sQ(name:zH)(v:Value)(Q:UP)(ov:Value)(s:y9):Prop:=y4 M A (setAttr ov name v) Q E s
abbrev yn(ov v:Value)(Q:UP)(iv:Value)(s:y9):Prop:=y4 M A (setItem ov iv v) Q E s
abbrev yo(i:Expr)(v:Value)(Q:UP)(ov:Value)(s:y9):Prop:=y4 M A (Aq i env) (yn M A E ov v Q) E s
abbrev kGetB(T:String)(o:Value)(Q:VP)(i:Value)(s:y9):Prop:=s.TypeIs o T/\y4 M A (Dc o i) Q E s
abbrev kGet(T:String)(e:Expr)(Q:VP)(o:Value)(s:y9):Prop:=y4 M A (Aq e env) (kGetB M A E T o Q) E s
end
theorem aQ{α:Type}{Q:α->y9->Prop}{c:Prop}[Decidable c]{a b:Lz α}(h:¬ c)(k:y4 M A b Q E s):y4 M A (if c then a else b) Q E s:=by rw[if_neg h];exact k
theorem bX{α:Type}{Q:α->y9->Prop}{c:Prop}[Decidable c]{a b:Lz α}(h:c)(k:y4 M A a Q E s):y4 M A (if c then a else b) Q E s:=by rw[if_pos h];exact k
theorem tI{b:Bool}(h:b=false):¬ b=true:=h▸zN
theorem args_cons{e:Expr}{rest:List Expr}{pos:Ef}{Q:LP}(h:y4 M A (Aq e env) (wD M A env E pos rest Q) E s)
  (he:AI (e::rest) env=(false,Aq e env)::AI rest env:=by rfl):y4 M A (CD (Ci pos (AI (e::rest) env))) Q E s:=M2 h he
theorem wpAny_BinOp{l op r pos}{Q:VP}(h:y4 M A (Aq l env) (kBin M A env E op r Q) E s):y4 M A (Aq (.BinOp l op r pos) env) Q E s:=PySem.wpAny_BinOp h
theorem wpAny_isTrue_Compare1{l op r pos whole}{Q:BP}(h:y4 M A (Aq l env) (kCmp M A env E op r (uN M A E Q)) E s)
  (hm:JA op r=false:=by with_unfolding_all rfl):y4 M A (isTrue (.Compare l [op] [r] pos) env whole) Q E s:=PySem.wpAny_isTrue_Compare1 h hm
theorem wpAny_Compare1{l op r pos}{Q:VP}(h:y4 M A (Aq l env) (kCmp M A env E op r Q) E s)
  (hm:JA op r=false:=by with_unfolding_all rfl):y4 M A (Aq (.Compare l [op] [r] pos) env) Q E s:=PySem.wpAny_Compare1 h hm
theorem isTrue_not{x pos whole}{Q:BP}(h:y4 M A (isTrue x env (Aq x env)) (kNot Q) E s):y4 M A (isTrue (.UnaryOp .Not x pos) env whole) Q E s:=MR h
theorem wpAny_Constant_int{i k pos}{Q:VP}(h:Q (.int i s.toks) (wt s (s.toks+1))):y4 M A (Aq (.Constant (.int i) k pos) env) Q E s:=PySem.wpAny_Constant_int h
theorem wpAny_Constant_str{x:zH}{k pos}{Q:VP}(h:Q (.str x s.toks) (wt s (s.toks+1))):y4 M A (Aq (.Constant (.str x) k pos) env) Q E s:=PySem.wpAny_Constant_str h
section
variable{a b:Int}{t u:AN}
theorem P.add_int(h:Q (.int (a+b) s.toks) (wt s (s.toks+1))):y4 (y0 prog w) A (EM .Add (.int a t) (.int b u)) Q E s:=PySem.P.add_int h
theorem P.sub_int(h:Q (.int (a - b) s.toks) (wt s (s.toks+1))):y4 (y0 prog w) A (EM .Sub (.int a t) (.int b u)) Q E s:=PySem.P.sub_int h
end
def bL(oL:AO)(l:LV):Prop :=
 Ex3 λ(es:Array CR) (ep:Nat) (m:zH->Option Value)=>An5 (oL.data=.dict es ep) (StrKeys es) ((∀ name,nsFind es name=m name)) ((∀ p∈l,m p.1=some p.2)) ((l.map (·.1)).Nodup)
def Fm(h:AE)(L:ze)(l:LV):Prop:=∃ oL,h.get? L=some oL/\bL oL l
theorem Fm.lt{h:AE}{L:ze}{l:LV}(F:Fm h L l):L<h.objs.size:=by obtain⟨_,e,_⟩:=F;exact AH e
theorem Fm.ns{h:AE}{L:ze}{l:LV}(F:Fm h L l):∃ m,An3 (h.Ns L m) ((∀ p∈l,m p.1=some p.2)) ((l.map (·.1)).Nodup) :=
 by obtain⟨oL,e,es,ep,m,a,b,c,d,n⟩:=F;exact⟨m,⟨oL,es,ep,e,a,b,c⟩,d,n⟩
theorem Fm.of_ns{h:AE}{L:ze}{m:zH->Option Value}{l:LV}(hn:h.Ns L m)(hl:∀ p∈l,m p.1=some p.2)(nd:(l.map (·.1)).Nodup):Fm h L l :=
 by obtain⟨o,es,ep,e,a,b,c⟩:=hn;exact⟨o,e,es,ep,m,a,b,c,hl,nd⟩
inductive ui:LV->zH->Value->LV->Prop
 | here {x:zH}{u v:Value}{l:LV}:ui ((x,u)::l) x v ((x,v)::l)
 | there {p:zH×Value}{x:zH}{v:Value}{l l':LV}:ui l x v l'->ui (p::l) x v (p::l')
theorem ui.keys{l l':LV}{x:zH}{v:Value}(h:ui l x v l'):l'.map (·.1)=l.map (·.1)/\x∈l.map (·.1):=by
 induction h with
 | here=>exact⟨rfl,List.mem_cons_self⟩
 | there _ ih=>exact⟨by rw[Ay,Ay,ih.1],Eh _ ih.2⟩
theorem ui.ok{l l':LV}{x:zH}{v:Value}{m:zH->Option Value}(h:ui l x v l')(hl:∀ p∈l,m p.1=some p.2)(nd:(l.map (·.1)).Nodup) :
  ∀ p∈l',(if p.1=x then some v else m p.1)=some p.2:=by
 induction h with
 | here =>
  intro p hp
  rcases y7.mp hp with rfl|hp
  ·rw[if_pos rfl]
  ·have n:=(zr.mp nd).1
   rw[if_neg λe=>n (by rw[<- show p.1=_ from e];exact za.mpr ⟨p,hp,rfl⟩)]
   exact hl p (aj hp)
 | there h ih =>
  intro p hp
  have n:=zr.mp nd
  rcases y7.mp hp with rfl|hp
  ·rw[if_neg λe=>n.1 (by show p.1∈_;rw[show p.1=_ from e];exact h.keys.2)]
   exact hl p (.head _)
  ·exact ih (λp hp=>hl p (aj hp)) n.2 p hp
def bV(l:LV)(x:zH)(v:Value)(l':LV):Prop:=ui l x v l'\/((l.map (·.1)).contains x=false/\l'=(x,v)::l)
theorem bV.old{l l':LV}{x:zH}{v:Value}(h:ui l x v l'):bV l x v l':=.inl h
theorem bV.new{l:LV}{x:zH}{v:Value}(h:(l.map (·.1)).contains x=false):bV l x v ((x,v)::l):=.inr ⟨h,rfl⟩
theorem bV.fm{h':AE}{L:ze}{l l':LV}{x:zH}{v:Value}{m:zH->Option Value}(st:bV l x v l')(hn:h'.Ns L (λy=>if y=x then some v else m y))
  (hl:∀ p∈l,m p.1=some p.2) (nd:(l.map (·.1)).Nodup):Fm h' L l':=by
 rcases st with s|⟨c,rfl⟩
 ·exact .of_ns hn (s.ok hl nd) (by rw[s.keys.1];exact nd)
 ·have hx:x∉l.map (·.1):=λq=>by rw[AV.mpr q] at c;nomatch c
  refine .of_ns hn (λp hp=>?_) (zr.mpr ⟨hx,nd⟩)
  rcases y7.mp hp with rfl|hp
  ·exact if_pos rfl
  ·have:p.1≠x:=λe=>hx (e▸za.mpr ⟨p,hp,rfl⟩)
   rw[if_neg this]
   exact hl p hp
structure St(hb:AE)(tabs:List ze)(L:ze)(l:LV)(T:LO)(h:AE):Prop where
 fm:Fm h L l
 lnew:hb.objs.size<=L
 keep:∀ b o,hb.get? b=some o->b∉tabs->h.get? b=some o
 tab:∀ t∈tabs,Ex2 λps more=>An3 (hb.get? t=some (Ei ps)) (h.get? t=some (Ei (ps++more))) (C3 (ps++more).toList)
 obj:∀ p∈T,h.get? p.1=some p.2
 new:∀ p∈T,hb.objs.size<=p.1
 nd:(L::T.map (·.1)).Nodup
section
variable{tabs:List ze}{l l':LV}{T T':LO}
theorem dB{h:AE}{a:ze}{o:AO}(e:h.get? a=some o):a<h.objs.size:=AH e
theorem St.old(S:St hb tabs L l T h){b:ze}{o:AO}(e:hb.get? b=some o)(hn:b∉tabs):h.get? b=some o:=S.keep b o e hn
theorem St.oldNeL(S:St hb tabs L l T h){b:ze}{o:AO}(e:hb.get? b=some o):b≠L:=Ab (zJ (dB e) S.lnew)
theorem St.tabLt(S:St hb tabs L l T h){t:ze}(ht:t∈tabs):t<hb.objs.size:=by
 obtain⟨ps,more,e,_⟩:=S.tab t ht;exact dB e
theorem St.sub(S:St hb tabs L l T h)(hs:T'.Sublist T):St hb tabs L l T' h :=
 ⟨S.fm,S.lnew,S.keep,S.tab,λp hp=>S.obj p (hs.subset hp),λp hp=>S.new p (hs.subset hp),(S.nd.sublist (.cons_cons L (hs.map _)))⟩
theorem St.get(S:St hb tabs L l T h)(i:Nat){a:ze}{o:AO}(hi:T[i]? = some (a,o)):h.get? a=some o:=S.obj (a,o) (zm hi)
theorem St.lt(S:St hb tabs L l T h){p:ze×AO}(hp:p∈T):p.1<h.objs.size:=dB (S.obj p hp)
theorem St.push(S:St hb tabs L l T h)(o:AO)(hf:o.isFreed=false:=by rfl):St hb tabs L l ((h.objs.size,o)::T) (h.push o):=by
 have hsz:hb.objs.size<=h.objs.size:=Af (Bq S.lnew S.fm.lt)
 obtain⟨oL,hL,r⟩:=S.fm
 refine⟨⟨oL,zz _ hL,r⟩,S.lnew,λb o' e hn=>zz _ (S.keep b o' e hn),λt ht=>?_,λp hp=>?_,λp hp=>?_,?_⟩
 ·obtain⟨ps,more,e1,e2,e3⟩:=S.tab t ht
  exact⟨ps,more,e1,zz _ e2,e3⟩
 ·rcases y7.mp hp with rfl|hp
  ·exact zQ _ hf
  ·exact zz _ (S.obj p hp)
 ·rcases y7.mp hp with rfl|hp
  ·exact hsz
  ·exact S.new p hp
 ·have hL':=AH hL
  have nd:=zr.mp S.nd
  refine zr.mpr ⟨λhm=>?_,zr.mpr ⟨λhm=>?_,nd.2⟩⟩
  ·rcases y7.mp hm with q|q
   ·exact absurd hL' (Br.mpr (Gl q.symm))
   ·exact nd.1 q
  ·obtain⟨p,hp,e⟩:=za.mp hm
   exact absurd (S.lt hp) (Br.mpr (Gl e.symm))
theorem St.setNs(S:St hb tabs L l T h)(hn:Fm h' L l')(hs:BV L h h'):St hb tabs L l' T h':=by
 have nd:=zr.mp S.nd
 refine⟨hn,S.lnew,λb o e hn'=>(hs.2 b (S.oldNeL e)).trans (S.keep b o e hn'),λt ht=>?_,λp hp=>?_,S.new,S.nd⟩
 ·obtain⟨ps,more,e1,e2,e3⟩:=S.tab t ht
  exact⟨ps,more,e1,(hs.2 t (S.oldNeL e1)).trans e2,e3⟩
 ·exact (hs.2 p.1 (λq=>nd.1 (q▸za.mpr ⟨p,hp,rfl⟩))).trans (S.obj p hp)
theorem St.enter(S:St hb tabs L l T h){L':ze}(hL:L'=h.objs.size)(hn:Fm h' L' l')(hk:∀ b o,h.get? b=some o->h'.get? b=some o) :
  ∃ oL,bL oL l/\St hb tabs L' l' ((L,oL)::T) h':=by
 obtain⟨oL,e,r⟩:=S.fm
 have hLs:=AH e
 refine⟨oL,r,hn,?_,λb o e hn'=>hk b o (S.keep b o e hn'),λt ht=>?_,λp hp=>?_,λp hp=>?_,?_⟩
 ·rw[hL];exact Af (Bq S.lnew hLs)
 ·obtain⟨ps,more,e1,e2,e3⟩:=S.tab t ht
  exact⟨ps,more,e1,hk _ _ e2,e3⟩
 ·rcases y7.mp hp with rfl|hp
  ·exact hk _ _ e
  ·exact hk _ _ (S.obj p hp)
 ·rcases y7.mp hp with rfl|hp
  ·exact S.lnew
  ·exact S.new p hp
 ·refine zr.mpr ⟨λhm=>?_,S.nd⟩
  rcases y7.mp hm with q|q
  ·exact absurd hLs (Br.mpr (Gl (hL.symm.trans q)))
  ·obtain⟨p,hp,e⟩:=za.mp q
   exact absurd (S.lt hp) (Br.mpr (Gl (hL.symm.trans e.symm)))
theorem St.leave{L':ze}{oL:AO}(S:St hb tabs L' l' T' h')(i:Nat)(hi:T'[i]? = some (L,oL))(r:bL oL l):St hb tabs L l (T'.eraseIdx i) h':=by
 have hm:=zm hi
 have hsub:(T'.eraseIdx i).Sublist T':=List.eraseIdx_sublist T' i
 refine⟨⟨oL,S.get i hi,r⟩,S.new _ hm,S.keep,S.tab,λp hp=>S.obj p (hsub.subset hp),λp hp=>S.new p (hsub.subset hp),?_⟩
 have nd:=(zr.mp S.nd).2
 refine zr.mpr ⟨λhm'=>?_,nd.sublist (hsub.map _)⟩
 obtain⟨p,hp,e⟩:=za.mp hm'
 obtain⟨j,hj,hji⟩:=List.mem_eraseIdx_iff_getElem?.mp hp
 have h1:(T'.map (·.1))[i]? = some L:=by rw[zB,hi];rfl
 have h2:(T'.map (·.1))[j]? = some L:=by rw[zB,hji];exact congrArg some e
 exact hj ((J0 (zU.mp h2).1 nd).mp (h2.trans h1.symm))
end
structure Gd(K:Ho)(tabs:List ze)(hb:AE):Prop where
 k:K.In hb
 mg:∃ mg,hb.Ns Bl mg
 bl:∃ mb,hb.Ns Gy mb/\∀ x:zH,x ≠ "__name__" -> mb x=Bi x
 lim:hb.NoLimit
 nb:B4 hb
 n1:Bl∉tabs
 n2:Gy∉tabs
 n3:cStatics∉tabs
 nt:(K.all λp=>!tabs.contains p.1)=true
noncomputable def gh:List zH->Bool
 | []=>true
 | a::l=>!l.contains a&&gh l
theorem crO{K:Ho}{cd:Value}{q:zH}(e:codeIn K cd q=true)(h:AE)(k:K.In h):h.CodeRec cd q:=codeRec_of k e
theorem sE{a:zH}{l:List zH}:gh (a::l)=(!l.contains a&&gh l):=rfl
theorem dF:∀ {l:List zH},gh l=true->l.Nodup:=by
 intro l
 induction l with
 | nil =>
  intro Z
  exact C5
 | cons a l ih =>
  intro h
  obtain⟨h1,h2⟩:=zo.mp h
  refine zr.mpr ⟨λq=>?_,ih h2⟩
  rw[AV.mpr q] at h1
  cases h1
theorem jF:∀ (l:LV),(l.map (·.1)).Nodup->∀ {p:zH×Value},p∈l->l.reverse.lookup p.1=some p.2:=by
 intro l
 induction l with
 | nil =>
  intro Z Z hp
  cases hp
 | cons q r ih =>
  intro hn p hp
  have n:=zr.mp hn
  rw[List.reverse_cons,List.lookup_append]
  rcases y7.mp hp with rfl|hp
  ·have:r.reverse.lookup p.1=none:=by
    rw[List.lookup_eq_none_iff]
    intro z hz
    have hz:=FJ.mp hz
    have:z.1≠p.1:=λe=>n.1 (by show p.1∈_;rw[<- e];exact za.mpr ⟨z,hz,rfl⟩)
    simpa using this.symm
   rw[this]
   simp[Ld]
  ·rw[ih n.2 hp];rfl
section
variable{tabs:List ze}{l l':LV}{T:LO}{x:zH}{v:Value}{pos:Ef}
theorem St.oldNs(S:St hb tabs L l T s.heap){a:ze}{m:zH->Option Value}(hn:hb.Ns a m)(ha:a∉tabs):s.heap.Ns a m :=
 by obtain⟨o,es,ep,e,r⟩:=hn;exact⟨o,es,ep,S.old e ha,r⟩
theorem St.nb(S:St hb tabs L l T s.heap)(G:Gd K tabs hb):B4 s.heap:=by obtain⟨mc,a,b⟩:=G.nb;exact⟨mc,S.oldNs a G.n3,b⟩
theorem St.lim(S:St hb tabs L l T s.heap)(G:Gd K tabs hb):s.heap.NoLimit:=by obtain⟨mc,a,b⟩:=G.lim;exact⟨mc,S.oldNs a G.n3,b⟩
noncomputable def ou (sc:Dx) (k:Option EN) (x:zH):Bool:=sc.kind==.function&&(k==some .local&&!(x==("__debug__" : zH)))
noncomputable def wM (sc:Dx) (k:Option EN) (x:zH) (g:ze):Bool:=sc.kind==.function&&(k==some .globalImplicit&&(!(x==("__debug__" : zH))&&g==Bl))
noncomputable def xb (K:Ho) (sc:Dx) (k:Option EN) (x:zH) (g b:ze):Bool:=wM sc k x g&&(!(x==("__name__" : zH))&&(b==Gy&&match Nh K Bl x with|some none=>true|_=>false))
theorem ke {sc:Dx}{k:Option EN}{x:zH} (h:ou sc k x=true):sc.kind=.function/\k=some .local/\(x==("__debug__" : zH))=false:=by
 obtain⟨a,h⟩:=zo.mp h
 obtain⟨b,h⟩:=zo.mp h
 exact⟨Ap a,Ap b,by simpa using h⟩
noncomputable def sN(sc:Dx)(k:Option EN):Bool:=sc.kind==.function&&k==some .local
theorem qA{sc:Dx}{k:Option EN}(h:sN sc k=true):sc.kind=.function/\k=some .local:=by
 obtain⟨a,b⟩:=zo.mp h
 exact⟨Ap a,Ap b⟩
theorem uM{sc:Dx}{k:Option EN}{x:zH}(h:ou sc k x=true):sN sc k=true:=by
 obtain⟨a,b,-⟩:=ke h
 unfold sN
 rw[a,b];rfl
theorem ko {sc:Dx}{k:Option EN}{x:zH}{g:ze} (h:wM sc k x g=true):sc.kind=.function/\k=some .globalImplicit/\(x==("__debug__" : zH))=false/\g=Bl:=by
 obtain⟨a,h⟩:=zo.mp h
 obtain⟨b,h⟩:=zo.mp h
 obtain⟨c,h⟩:=zo.mp h
 exact⟨Ap a,Ap b,by simpa using c,Ap h⟩
theorem rx {K:Ho}{sc:Dx}{k:Option EN}{x:zH}{g b:ze} (h:xb K sc k x g b=true):wM sc k x g=true/\(x==("__name__" : zH))=false/\b=Gy/\Nh K Bl x=some none:=by
 obtain⟨a,h⟩:=zo.mp h
 obtain⟨c,h⟩:=zo.mp h
 obtain⟨d,h⟩:=zo.mp h
 refine⟨a,by simpa using c,Ap d,?_⟩
 revert h
 cases Nh K Bl x with
 | none=>intro h;cases h
 | some o =>
  cases o with
  | none=>intro Z;rfl
  | some v=>intro h;cases h
theorem ac{Q:VP}(S:St hb tabs L l T s.heap)(hv:(x,v)∈l)(h:Q v s)
  (c:ou fd.scope ((Ac fd L fa).kindOf x) x=true:=by kernel_rfl) :
  y4 (y0 prog w) A (Aq (.Name x pos) (Ac fd L fa)) Q E s:=by
 obtain⟨hk,hl,hd⟩:=ke c
 obtain⟨m,a,b,_⟩:=S.fm.ns
 exact HZ (Dl hk hl a (b _ hv) h) hd
theorem xQ{Q:VP}(S:St hb tabs L l T s.heap)(hv:(x,v)∈l)(h:Q v s)
  (c:ou fd.scope ((Ac fd L fa).kindOf x) x=true:=by kernel_rfl) :
  y4 (y0 prog w) A (Ni (Ac fd L fa) x) Q E s:=by
 obtain⟨hk,hl,-⟩:=ke c
 obtain⟨m,a,b,_⟩:=S.fm.ns
 exact Dl hk hl a (b _ hv) h
theorem aq{Q:UP}(S:St hb tabs L l T s.heap)(st:bV l x v l')(h:∀ h',St hb tabs L l' T h'->Q () (wht s h' (s.toks+1)))
  (c:sN fd.scope ((Ac fd L fa).kindOf x)=true:=by kernel_rfl) :
  y4 (y0 prog w) A (E9 (Ac fd L fa) x v) Q E s:=by
 obtain⟨hk,hl⟩:=qA c
 obtain⟨m,a,b,c⟩:=S.fm.ns
 exact FD hl a (λh' hn hs=>h h' (S.setNs (st.fm hn b c) hs))
  (by show (fd.scope.kind==.class || (fd.scope.kind==.module&&L != fd.globals))=false;rw[hk];rfl)
theorem mR{Q:VP}(G:Gd K tabs hb)(S:St hb tabs L l T s.heap)(e:Nh K Bl x=some (some v))(h:Q v s)
  (c:wM fd.scope ((Ac fd L fa).kindOf x) x fd.globals=true:=by kernel_rfl):y4 (y0 prog w) A (Aq (.Name x pos) (Ac fd L fa)) Q E s:=by
 obtain⟨hk,hl,hd,hg⟩:=ko c
 obtain⟨mg,a⟩:=G.mg
 refine Ej hk hl (J1 (mg:=mg) ?_ (mg_of G.k a e) h) hd
 show s.heap.Ns fd.globals mg
 rw[hg];exact S.oldNs a G.n1
theorem cO{Q:VP}(G:Gd K tabs hb)(S:St hb tabs L l T s.heap)(hv:Bi x=some v)(h:Q v s)
  (c:xb K fd.scope ((Ac fd L fa).kindOf x) x fd.globals fd.builtins=true:=by kernel_rfl):y4 (y0 prog w) A (Aq (.Name x pos) (Ac fd L fa)) Q E s:=by
 obtain⟨c,hn,hbi,e⟩:=rx c
 obtain⟨hk,hl,hd,hg⟩:=ko c
 obtain⟨mg,a⟩:=G.mg
 obtain⟨mb,b,c⟩:=G.bl
 refine Ej hk hl (JI (mg:=mg) (mb:=mb) ?_ (mg_none_of G.k a e) ?_ ((c x (beq_eq_false_iff_ne.mp hn)).trans hv) h) hd
 ·show s.heap.Ns fd.globals mg
  rw[hg];exact S.oldNs a G.n1
 ·show s.heap.Ns fd.builtins mb
  rw[hbi];exact S.oldNs b G.n2
theorem dQ{R:Cg->y9->Prop}{oc:Value}{od:Option ze}{osl:Array (Option Value)}{args:M1}{binds:LV}{body:List Cq}
  (G:Gd K tabs hb) (S:St hb tabs L l T s.heap) (ho:K.lookup fa=some ⟨oc,od,.func fd,osl⟩) (hroom:A.depth<zg)
  (hbind:Fi s fd args binds)
  (h:∀ L' ai oL,bL oL l->St hb tabs L' binds ((L,oL)::T) ai ->
   y4 (y0 prog w) (A.deeper (Ac fd L' fa)) (zY body (Ac fd L' fa)) (kFn R)
    (kLv (y0 prog w) (A.deeper (Ac fd L' fa)) (Ac fd L' fa) R)
    (wht s ai (s.toks+binds.length)))
  (hft:fa∉tabs:=by decide)
  (hcd:∀ hh:AE,K.In hh->hh.CodeRec fd.code fd.qualname:=by exact crO (by kernel_rfl))
  (hct:(match fd.code with|.ref c=>tabs.contains c|_=>false)=false:=by kernel_rfl)
  (hbody:fd.body=.stmts body:=by kernel_rfl)
  (hcell:(fd.scope.names.all λx=>x.2 != .cell)=true:=by kernel_rfl) (hloc:(binds.all λx=>fd.scope.names.lookup x.1==some .local)=true:=by kernel_rfl)
  (hnd':gh (binds.map (·.1))=true:=by kernel_rfl)
  (hco:fd.scope.isCoroutine=false:=by kernel_rfl) (hgen:fd.scope.isGenerator=false:=by kernel_rfl) (hk:fd.scope.kind=.function:=by kernel_rfl) :
  zS (y0 prog w) A (.call (.ref fa) args) R s:=by
 have hnd:=dF hnd'
 have hcr:s.heap.CodeRec fd.code fd.qualname:=by
  obtain⟨c,o,vs,t,e1,e2,e3,e4⟩:=hcd hb G.k
  refine⟨c,o,vs,t,e1,S.old e2 (λq=>?_),e3,e4⟩
  rw[e1] at hct
  have hct':tabs.contains c=false:=hct
  rw[AV.mpr q] at hct'
  cases hct'
 refine KI (fd:=fd) (body:=body) (binds:=binds) hroom (S.old (G.k _ _ ho) hft) rfl (S.lim G) hcr hbody hbind
  (λy hy=>by have:=zC.mp hcell y hy;simpa using this) (λy hy=>by have:=zC.mp hloc y hy;simpa using this) (λai hns b8=>?_) hco hgen hk
 have hfm:Fm ai s.heap.objs.size binds:=Fm.of_ns hns (λp hp=>jF binds hnd hp) hnd
 obtain⟨oL,r,S'⟩:=S.enter (L':=s.heap.objs.size) rfl hfm b8
 exact h _ ai oL r S'
end
section
variable{x:zH}{v:Value}{pos:Ef}{e o:Expr}{attr:zH}{Q:FP}
theorem aF(h:Q .next s):y4 (y0 prog w) A (zY [] env) Q E s:=CV h
theorem aC(h:y4 (y0 prog w) A (Aq value env) (uO (y0 prog w) A env E x rest Q) E s)
  (hs:FK value (some (.Name x p')) pos.line env=Au false:=by rfl):y4 (y0 prog w) A (zY (.Assign [.Name x p'] value pos::rest) env) Q E s :=
 zZ (wpAny_Assign_Name h hs)
theorem cZ(h:y4 (y0 prog w) A (Aq value env) (kSetA (y0 prog w) A env E o attr rest Q) E s)
  (hs:FK value (some (.Attribute o attr p')) pos.line env=Au false:=by rfl):y4 (y0 prog w) A (zY (.Assign [.Attribute o attr p'] value pos::rest) env) Q E s :=
 zZ (plainObj_wpAny_Assign_Attribute h hs)
theorem j4{elts:List Expr}{k:Nat}{tpos:Ef}(h:y4 (y0 prog w) A (Aq value env) (wC (y0 prog w) A env E (.Tuple elts k tpos) rest Q) E s)
  (hs:swapsWithSole [.Tuple elts k tpos] value pos.line env=Au false:=by rfl) (hw:Hq [.Tuple elts k tpos] value env=Au none:=by rfl) :
  y4 (y0 prog w) A (zY (.Assign [.Tuple elts k tpos] value pos::rest) env) Q E s :=
 zZ (Assign_Tuple h hs hw)
theorem j3{b6 b7:Expr}(h:y4 (y0 prog w) A (Aq value env) (kTwo (y0 prog w) A env E b6 b7 rest Q) E s)
  (he:(BN [b6,b7] env).map (·.2)=[BL b6 env,BL b7 env]:=by rfl) (hw:Hq [b6,b7] value env=Au none:=by rfl) :
  y4 (y0 prog w) A (zY (.Assign [b6,b7] value pos::rest) env) Q E s :=
 zZ (wpAny_Assign_two h he hw)
theorem vR{b6 b7 bx:Expr}(h:y4 (y0 prog w) A (Aq value env) (yk (y0 prog w) A env E b6 b7 bx rest Q) E s)
  (he:(BN [b6,b7,bx] env).map (·.2)=[BL b6 env,BL b7 env,BL bx env]:=by rfl) (hw:Hq [b6,b7,bx] value env=Au none:=by rfl) :
  y4 (y0 prog w) A (zY (.Assign [b6,b7,bx] value pos::rest) env) Q E s :=
 zZ (wpAny_Assign_three h he hw)
theorem xW{op:JZ}(h:y4 (y0 prog w) A (Ni env x) (kAug (y0 prog w) A env E x op value rest Q) E s) :
  y4 (y0 prog w) A (zY (.AugAssign (.Name x p') op value pos::rest) env) Q E s :=
 zZ (wpAny_AugAssign_Name h)
theorem bS(h:y4 (y0 prog w) A (Aq e env) (kExpr (y0 prog w) A env E rest Q) E s)
  (hi:Lf env=false:=by rfl) (hs:FK e none pos.line env=Au false:=by rfl):y4 (y0 prog w) A (zY (.Expr e pos::rest) env) Q E s :=
 zZ (wpAny_Expr (zf h (λv s' h'=>by cases v<;> exact h') λZ Z x=>x) hi hs)
theorem eZ{c:zH}{k:Nat}(h:y4 (y0 prog w) A (zY rest env) Q E (wt s (s.toks+1)))(hi:Lf env=false:=by rfl):y4 (y0 prog w) A (zY (.Expr (.Constant (.str c) k p') pos::rest) env) Q E s :=
 bS (Constant_str h) hi
theorem lQ(h:y4 (y0 prog w) A (isTrue test env (Aq test env)) (kIf (y0 prog w) A env E body orelse rest Q) E s) :
  y4 (y0 prog w) A (zY (.If test body orelse pos::rest) env) Q E s :=
 zZ (wpAny_If (zf h (λb s' h'=>by cases b;exact h'.2 rfl;exact h'.1 rfl) λZ Z x=>x))
theorem cP(h:y4 (y0 prog w) A (Aq e env) (kRet Q) E s):y4 (y0 prog w) A (zY (.Return (some e) pos::rest) env) Q E s :=
 zZ (wpAny_Return_some h)
theorem uF(h:Q (.ret .none) s):y4 (y0 prog w) A (zY (.Return none pos::rest) env) Q E s:=zZ (wpAny_Return_none h)
theorem vS(h:Q .brk s):y4 (y0 prog w) A (zY (.Break pos::rest) env) Q E s:=zZ (λZ Z Z=>h)
theorem n7(h:Q .cont s):y4 (y0 prog w) A (zY (.Continue pos::rest) env) Q E s:=zZ (λZ Z Z=>h)
end
section
variable{tabs:List ze}{l l':LV}{T T':LO}
theorem l4:∀ (l:List ze) {h:AE}{b:ze}{o:AO},(DJ h l).get? b=some o->b∉l:=λl h b o e hm=>by
 rw[Gm l hm] at e;nomatch e
theorem St.toK(S:St hb tabs L l T h):Ex2 λ(m:zH->Option Value) (TL:LO)=>An6 (Fr (DJ hb tabs) L h m) (News (DJ hb tabs) L h (TL++T)) ((∀ p∈l,m p.1=some p.2)) ((l.map (·.1)).Nodup) ((∀ p∈TL,p.1<hb.objs.size)) (∀ (h':AE) (m':zH->Option Value) (T':LO) (l':LV),Fr (DJ hb tabs) L h' m'->News (DJ hb tabs) L h' (TL++T')->(∀ p∈l',m' p.1=some p.2)->(l'.map (·.1)).Nodup ->
   (∀ p∈T',hb.objs.size<=p.1)->(L::T'.map (·.1)).Nodup->St hb tabs L l' T' h'):=by
 obtain⟨m,hn,hl,nd⟩:=S.fm.ns
 have hTL:∃ TL:LO,TL.map (·.1)=tabs/\∀ p∈TL,Ex2 λps more=>An4 (hb.get? p.1=some (Ei ps)) (h.get? p.1=some p.2) (p.2=Ei (ps++more)) (C3 (ps++more).toList):=by
  have:∀ ts:List ze,(∀ t∈ts,t∈tabs)->∃ TL:LO,TL.map (·.1)=ts/\∀ p∈TL,Ex2 λps more=>An4 (hb.get? p.1=some (Ei ps)) (h.get? p.1=some p.2) (p.2=Ei (ps++more)) (C3 (ps++more).toList):=by
   intro ts
   induction ts with
   | nil=>intro Z;exact⟨[],rfl,λp hp=>nomatch hp⟩
   | cons t ts ih =>
    intro hs
    obtain⟨TL,e,k⟩:=ih λt ht=>hs t (aj ht)
    obtain⟨ps,more,e1,e2,e4⟩:=S.tab t (hs t (.head _))
    exact⟨(t,Ei (ps++more))::TL,by rw[Ay,e],λp hp=>by
     rcases y7.mp hp with rfl|hp
     ·exact⟨ps,more,e1,e2,rfl,e4⟩
     ·exact k p hp⟩
  exact this tabs λZ h=>h
 obtain⟨TL,eT,kT⟩:=hTL
 have hlt:∀ p∈TL,p.1<hb.objs.size:=λp hp=>by obtain⟨ps,more,e1,_⟩:=kT p hp;exact AH e1
 refine⟨m,TL,⟨hn,λb o e=>S.keep b o (L6 _ e) (l4 _ e),by rw[hideAll_size];exact S.lnew⟩,λp hp=>?_,hl,nd,hlt,λh' m' T' l' F N hl' nd' hT' ndT=>?_⟩
 ·rcases zc.mp hp with hp|hp
  ·obtain⟨ps,more,e1,e2,e3,e4⟩:=kT p hp
   refine⟨e2,S.oldNeL e1,?_⟩
   exact Gm _ (by rw[<- eT];exact za.mpr ⟨p,hp,rfl⟩)
  ·refine⟨S.obj p hp,λq=>(zr.mp S.nd).1 (q▸za.mpr ⟨p,hp,rfl⟩),?_⟩
   cases q:(DJ hb tabs).get? p.1 with
   | none=>rfl
   | some o=>exact absurd (AH (L6 _ q)) (Br.mpr (S.new p hp))
 ·refine⟨Fm.of_ns F.ns hl' nd',S.lnew,λb o e hn=>F.keep b o (IS _ e hn),λt ht=>?_,λp hp=>(N p (yZ _ hp)).1,hT',ndT⟩
  rw[<- eT] at ht
  obtain⟨p,hp,rfl⟩:=za.mp ht
  obtain⟨ps,more,e1,e2,e3,e4⟩:=kT p hp
  exact⟨ps,more,e1,by rw[(N p (y5 _ hp)).1,e3],e4⟩
end
section
variable{tabs:List ze}{l l':LV}{T:LO}{x:ze}{v:Value}{fl fl':LV}
theorem St.kin(S:St hb tabs L l T s.heap)(G:Gd K tabs hb):K.In s.heap:=λa o e=>by
 have hnt:=G.nt
 refine S.old (G.k a o e) λq=>?_
 have hm:(a,o)∈K:=by
  clear G hnt
  induction K with
  | nil=>nomatch e
  | cons p r ih =>
   obtain⟨b,o'⟩:=p
   rw[Ez] at e
   split at e
   ·rename_i hq
    cases e
    rw[beq_iff_eq.mp hq];exact .head _
   ·exact aj (ih e)
 have:=zC.mp hnt _ hm
 rw[AV.mpr q] at this
 nomatch this
inductive mD:List CR->LV->Prop
 | nil:mD [] []
 | cons {h:Int}{k:zH}{t:AN}{v:Value}{es:List CR}{fl:LV}:mD es fl->mD (⟨h,.str k t,v⟩::es) ((k,v)::fl)
def bH(o:AO)(fl:LV):Prop:=Ex2 λes n=>An3 (o=JJ es n) (mD es fl) (gh (fl.map (·.1))=true)
theorem mD.len{es:List CR}(h:mD es fl):es.length=fl.length:=by
 induction h with
 | nil=>rfl
 | cons _ ih=>rw[zI,zI,ih]
theorem mD.get{es:List CR}(h:mD es fl)(nd:(fl.map (·.1)).Nodup)(hm:(name,v)∈fl):NM name es=some (some v):=by
 induction h with
 | nil=>nomatch hm
 | cons h ih =>
  rename_i hh k t u es fl
  have n:=zr.mp nd
  unfold NM
  rcases y7.mp hm with e|hm
  ·cases e
   rw[List.find?_cons_of_pos (by simp[G8])]
  ·have hk:¬ (k==name)=true:=λq=>n.1 (by show k∈_;rw[beq_iff_eq.mp q];exact za.mpr ⟨_,hm,rfl⟩)
   rw[H0 (by simpa [G8] using hk)]
   have:=ih n.2 hm
   unfold NM at this
   cases q:es.find? (λe=>e.key.isStr name) with
   | some e=>rw[q] at this;exact this
   | none=>rw[q] at this;dsimp only at this;split at this<;> nomatch this
inductive Put:LV->zH->Value->LV->Prop
 | nil {x:zH}{v:Value}:Put [] x v [(x,v)]
 | here {x:zH}{u v:Value}{l:LV}:Put ((x,u)::l) x v ((x,v)::l)
 | there {y x:zH}{u v:Value}{l l':LV}:(y==x)=false->Put l x v l'->Put ((y,u)::l) x v ((y,u)::l')
theorem mD.put{es:List CR}{hsh:Int}{t:AN}(h:mD es fl)(hp:Put fl name v fl'):mD (putL name hsh (.str name t) v es) fl':=by
 induction h generalizing fl' with
 | nil =>
  cases hp
  exact .cons .nil
 | cons h ih =>
  rename_i hh k t' u es fl
  unfold putL
  cases hp with
  | here =>
   rw[if_pos (by simp[G8])]
   exact .cons h
  | there hne hp =>
   rw[if_neg (by simpa [G8] using hne)]
   exact .cons (ih hp)
theorem mD.known{es:List CR}(h:mD es fl):(NM name es).isSome=true:=by
 have:es.any (·.refKey)=false:=by
  induction h with
  | nil=>rfl
  | cons _ ih=>rw[JB,ih];rfl
 unfold NM
 cases es.find? (λe=>e.key.isStr name) with
 | some e=>rfl
 | none=>rw[this];rfl
theorem sw{l l':LV}{x:zH}{v:Value}(hp:Put l x v l'):∀ z,z∈l'.map (·.1)->z∈l.map (·.1)\/z=x:=by
 induction hp with
 | nil=>intro z hz;simp at hz;exact .inr hz
 | here=>intro z hz;exact .inl hz
 | there _ _ ih =>
  intro z hz
  rcases y7.mp hz with rfl|hz
  ·exact .inl (.head _)
  ·rcases ih z hz with q|q
   ·exact .inl (aj q)
   ·exact .inr q
theorem qe{l l':LV}{x:zH}{v:Value}(hp:Put l x v l')(nd:gh (l.map (·.1))=true):gh (l'.map (·.1))=true:=by
 induction hp with
 | nil=>rfl
 | here=>exact nd
 | there hne hp ih =>
  rename_i y x u v l l'
  rw[Ay] at nd ⊢
  rw[sE] at nd ⊢
  obtain⟨a,b⟩:=zo.mp nd
  rw[ih b,Bool.and_true]
  cases q:(l'.map (·.1)).contains y with
  | false=>rfl
  | true =>
   rcases sw hp y (AV.mp q) with z|z
   ·rw[AV.mpr z] at a;nomatch a
   ·rw[z] at hne;simp at hne
end
theorem cC{f:Value}:∀ {trees:List (Bool×Lz Value)}{Q:M1->y9->Prop} (_:trees.any (·.1)=false) (_:y4 M A (CD trees) (λvs s'=>Q ⟨vs,[]⟩ s') E s),y4 M A (Nj f true trees []) Q E s
 | [],Q,hp,h=>by
  refine yX (zf h (λvs s' h'=>?_) λZ Z x=>x)
  refine yX (yY ?_)
  exact zp (yX (yY (yX (yY (yY h')))))
 | (true,x)::rest,Q,hp,h=>by cases hp
 | (false,x)::rest,Q,hp,h=>L7 h
section
variable{tabs:List ze}{l l':LV}{T:LO}{x:ze}{v f:Value}{fl fl':LV}{pos apos:Ef}{sl:Array (Option Value)}{args:List Expr}{o:Expr}
abbrev kRef(M:HF)(A:AR)(E:VP)(hb:AE)(tabs:List ze)(f:Value)(first:List Value)(Q:VP)(vs:List Value)(s:y9):Prop :=
 (Ex3 λL l T=>St hb tabs L l T s.heap)/\zS M A (.call f ⟨first++vs,[]⟩) (kRes E Q) s
theorem cS(G:Gd K tabs hb)(h:y4 (y0 prog w) A (CD trees) (kRef (y0 prog w) A E hb tabs f first Q) E s)
  (hk:Nw K f=true:=by kernel_rfl) (hp:trees.any (·.1)=false:=by rfl):y4 (y0 prog w) A (DS pos f first trees []) Q E s :=
 callWith_of (by rw[hp];rfl) (keeps_K hk) (cC hp (zf h (λvs s₁ z=>by obtain⟨⟨_,_,_,S⟩,z⟩:=z;exact⟨S.kin G,BO z⟩) λZ Z z=>z))
theorem aI{id:String}(h:y4 (y0 prog w) A (CD trees) (kBi (y0 prog w) A E id first Q) E s)
  (hp:trees.any (·.1)=false:=by rfl):y4 (y0 prog w) A (DS pos (.builtin id) first trees []) Q E s:=callWith_builtin hp (cC hp h)
theorem q6{T:String}(h:y4 (y0 prog w) A (CD trees) (kTy (y0 prog w) A E T first Q) E s)
  (hp:trees.any (·.1)=false:=by rfl):y4 (y0 prog w) A (DS pos (.type T) first trees []) Q E s:=L8 hp (cC hp h)
theorem aV{pl:Lz Bool}(h:y4 (y0 prog w) A (Aq o env) (kMeth (y0 prog w) A env E name pl pos args Q) E s)
  (he:Aq (.Call (.Attribute o name apos) args [] pos) env=(do
   let ov <- Aq o env
   standAt apos.atName
   let (f,first) <- G9 [ov] (HG ov name pl)
   DS pos f first (Ci pos (AI args env)) (DT pos (Cz [] env))):=by rfl) :
  y4 (y0 prog w) A (Aq (.Call (.Attribute o name apos) args [] pos) env) Q E s:=methodCall_KW h he
theorem mD.get_none{es:List CR}(h:mD es fl)(hn:(fl.map (·.1)).contains name=false):NM name es=some none:=by
 have hany:es.any (·.refKey)=false:=by
  clear hn
  induction h with
  | nil=>rfl
  | cons _ ih=>rw[JB,ih];rfl
 have hf:es.find? (λe=>e.key.isStr name)=none:=by
  clear hany
  induction h with
  | nil=>rfl
  | cons h ih =>
   rename_i hh k t u es fl
   rw[Ay,List.contains_cons,FS] at hn
   have hk:(k==name)=false:=by
    cases q:k==name with
    | false=>rfl
    | true =>
     have:=beq_iff_eq.mp q
     have h1:=hn.1
     rw[this] at h1
     simp at h1
   rw[H0 (by simpa [G8] using hk)]
   exact ih hn.2
 unfold NM
 rw[hf,hany]
 rfl
theorem bB{expr:Bool}(G:Gd K tabs hb)(S:St hb tabs L l T s.heap)(hx:(x,(⟨.ref C,some dx,.plain,sl⟩:AO))∈T)(hd:(dx,od)∈T)(hf:bH od fl)(hm:(name,v)∈fl)(h:Q v (wt s (s.toks+1)))
  (hg:plainGet K C name=true:=by kernel_rfl) (hh:hasDictIn K C=true:=by kernel_rfl) (ha:IW K (.ref C) name=some none:=by kernel_rfl) (hv:L9 v=true:=by rfl) :
  y4 (y0 prog w) A (G7 (.ref x) name expr) Q E s:=by
 obtain⟨es,n,rfl,he,nd⟩:=hf
 exact get_value (S.kin G) ⟨S.obj _ hx,rfl,rfl,S.obj _ hd⟩ (Lg hg).1 (findObj_own hh ha rfl (by rw[Lh];exact he.get (dF nd) hm)) hv h
theorem dL{pl:Lz Bool}{Q:Value×List Value->y9->Prop}{f:ze}(G:Gd K tabs hb)(S:St hb tabs L l T s.heap)(hx:(x,(⟨.ref C,some dx,.plain,sl⟩:AO))∈T)(hd:(dx,od)∈T)(hf:bH od fl)(h:Q (.ref f,[.ref x]) s)
  (hn:(fl.map (·.1)).contains name=false:=by kernel_rfl) (hm:IW K (.ref C) name=some (some (.ref f)):=by kernel_rfl) (hg:plainGet K C name=true:=by kernel_rfl) (ht:isFn K (.ref f)=true:=by kernel_rfl) :
  y4 (y0 prog w) A (HG (.ref x) name pl) Q E s:=by
 obtain⟨es,n,rfl,he,nd⟩:=hf
 exact method_fn (ox:=(⟨.ref C,some dx,.plain,sl⟩:AO)) (od:=some (JJ es n)) (S.kin G) ⟨S.obj _ hx,rfl,rfl,S.obj _ hd⟩ (Lg hg).1 (Lg hg).2 hm (beq_iff_eq.mp ht) (by show (lookIn name (JJ es n)).map _=_;rw[Lh,he.get_none hn];rfl) h
theorem ic{α:Type}{T:List α}{i:Nat}{a b:α}(hi:T[i]? = some a):T=T.take i++a::T.drop (i+1)/\T.set i b=T.take i++b::T.drop (i+1):=by
 induction T generalizing i with
 | nil=>simp at hi
 | cons c r ih =>
  cases i with
  | zero=>simp at hi;subst hi;simp
  | succ i =>
   have:=ih (i:=i) (by simpa using hi)
   constructor
   ·have h1:=congrArg (c::·) this.1;simpa using h1
   ·simp[this.2]
theorem si{T:LO}{i:Nat}{a:ze}{o o':AO}(hi:T[i]? = some (a,o)):(T.set i (a,o')).map (·.1)=T.map (·.1):=by
 obtain⟨e1,e2⟩:=ic (b:=(a,o')) hi
 rw[e2]
 conv=>rhs;rw[e1]
 simp
theorem aN{Q:UP}(i:Nat)(G:Gd K tabs hb)(S:St hb tabs L l T s.heap)(hx:(x,(⟨.ref C,some dx,.plain,sl⟩:AO))∈T)(hi:T[i]? = some (dx,od))(hf:bH od fl)(hp:Put fl name v fl')
  (h:∀ h' od',St hb tabs L l (T.set i (dx,od')) h'->bH od' fl'->Q () (wht s h' (s.toks+2)))
  (hz:Ce fl'.length 1000=true:=by kernel_rfl)
  (hs:IW K (.ref C) "__setattr__" = some (some (.builtin "object.__setattr__")):=by kernel_rfl) (hpo:plainOver K C=true:=by kernel_rfl) (ht:takerIn K C name=some none:=by kernel_rfl) (hh:hasDictIn K C=true:=by kernel_rfl) :
  y4 (y0 prog w) A (setAttr (.ref x) name v) Q E s:=by
 obtain⟨es,n,rfl,he,nd⟩:=hf
 obtain⟨m,TL,F,N,hl,ndl,hTL,back⟩:=S.toK
 obtain⟨e1,-⟩:=ic (b:=(dx,JJ es n)) hi
 have hdm:=zm hi
 have hdn:=S.new _ hdm
 have e3:TL++T=(TL++T.take i)++(dx,JJ es n)::T.drop (i+1):=by rw[zu,<- e1]
 rw[e3] at N
 have ndT:=(zr.mp S.nd).2
 have ndT':((T.take i).map (·.1)++dx::(T.drop (i+1)).map (·.1)).Nodup:=by
  have:T.map (·.1)=(T.take i).map (·.1)++dx::(T.drop (i+1)).map (·.1):=by
   conv=>lhs;rw[e1]
   simp
  rw[<- this];exact ndT
 obtain⟨-,nd2,nd3⟩:=CS.mp ndT'
 have I:InstAt s.heap x (⟨.ref C,some dx,.plain,sl⟩:AO) C (some (JJ es n)):=⟨S.obj _ hx,rfl,rfl,S.obj _ hdm⟩
 have he':=he.put (hsh:=Fh w.params name) (t:=s.toks+1) hp
 refine set_plain (S.kin G) I hs (osa_dict (s:=(wt s (s.toks+1))) F N (S.kin G) I rfl hpo ht hh (by rw[Lh];exact he.known) (λp hp'=>?_) (λp hp'=>?_) (by rw[putName_dict]) rfl
  (by rw[he'.len];exact CF hz) λh' F' N'=>?_)
 ·rcases zc.mp hp' with q|q
  ·exact Ab (zJ (hTL p q) hdn)
  ·exact nd3 _ (za.mpr ⟨p,q,rfl⟩) _ (.head _)
 ·exact λe=>(zr.mp nd2).1 (e▸za.mpr ⟨p,hp',rfl⟩)
 ·refine h h' (JJ (putL name (Fh w.params name) (.str name (s.toks+1)) v es) (putN name es n)) (back h' m (T.set i (dx,JJ (putL name (Fh w.params name) (.str name (s.toks+1)) v es) (putN name es n))) l F' ?_ hl ndl (λp hp'=>?_) (by rw[si hi];exact S.nd)) ⟨_,_,rfl,he',qe hp nd⟩
  ·rw[(ic hi).2,<- zu];exact N'
  ·rcases List.mem_or_eq_of_mem_set hp' with q|rfl
   ·exact S.new p q
   ·exact hdn
end
structure Kp(s s':y9):Prop where
 os:s'.os=s.os
 gens:M3 s.gens->M3 s'.gens
theorem Kp.refl{s:y9}:Kp s s:=⟨rfl,id⟩
theorem Kp.trans{a b c:y9}(h:Kp a b)(k:Kp b c):Kp a c:=⟨k.os.trans h.os,λz=>k.gens (h.gens z)⟩
theorem kt{a b b' c:y9}(h:Kp a b)(k:Kp b' c)(e:(b'.os,b'.gens)=(b.os,b.gens):=by rfl):Kp a c:=by
 injection e with e1 e2
 exact⟨k.os.trans (e1.trans h.os),λz=>k.gens (e2▸h.gens z)⟩
theorem Kp.with{a b:y9}(k:Kp a b){h:AE}{t:AN}:Kp a (wht b h t):=⟨k.os,k.gens⟩
section
variable{tabs:List ze}{l l':LV}{T T' own:LO}
theorem St.perm(S:St hb tabs L l T h)(p:T.Perm T'):St hb tabs L l T' h :=
 ⟨S.fm,S.lnew,S.keep,S.tab,λq hq=>S.obj q (p.symm.subset hq),λq hq=>S.new q (p.symm.subset hq),((zL L (p.map _)).nodup_iff).mp S.nd⟩
theorem St.last{p:ze×AO}(S:St hb tabs L l (p::T) h):St hb tabs L l (T++[p]) h:=S.perm (zi (l₁:=[p]))
theorem St.front{p:ze×AO}(S:St hb tabs L l (T++[p]) h):St hb tabs L l (p::T) h:=S.perm (zi (l₂:=[p]))
theorem St.drop(S:St hb tabs L l (T++own) h)(hk:∀ b o,b∉own.map (·.1)->h.get? b=some o->h'.get? b=some o):St hb tabs L l T h':=by
 have nd:=zr.mp S.nd
 rw[zD] at nd
 have hL:L∉own.map (·.1):=λq=>nd.1 (yZ _ q)
 obtain⟨-,-,n3⟩:=CS.mp nd.2
 have hT:∀ p∈T,p.1∉own.map (·.1):=λp hp q=>n3 _ (za.mpr ⟨p,hp,rfl⟩) _ q rfl
 have lF:∀ b,b<hb.objs.size->b∉own.map (·.1):=λb hlt q=>by
  obtain⟨p,hp,e⟩:=za.mp q
  have:=S.new p (yZ _ hp)
  rw[e] at this
  exact absurd hlt (Br.mpr this)
 obtain⟨oL,e,r⟩:=S.fm
 refine⟨⟨oL,hk _ _ hL e,r⟩,S.lnew,λb o e hn=>hk b o (lF b (dB e)) (S.keep b o e hn),λt ht=>?_,λp hp=>hk _ _ (hT p hp) (S.obj p (y5 _ hp)),λp hp=>S.new p (y5 _ hp),?_⟩
 ·obtain⟨ps,more,e1,e2,e3⟩:=S.tab t ht
  exact⟨ps,more,e1,hk _ _ (lF t (dB e1)) e2,e3⟩
 ·exact zr.mpr ⟨λq=>nd.1 (y5 _ q),(CS.mp nd.2).1⟩
theorem St.moved(S:St hb tabs L l (T++own) h)(hk:∀ b o,b∉own.map (·.1)->h.get? b=some o->h'.get? b=some o)(hex:∀ b∈own.map (·.1),∃ o,h'.get? b=some o) :
  ∃ own',own'.map (·.1)=own.map (·.1)/\St hb tabs L l (T++own') h':=by
 have S1:=S.drop hk
 have hm:(own.map λp=>(p.1,(h'.get? p.1).getD AA)).map (·.1)=own.map (·.1):=by rw[CN];rfl
 refine⟨own.map λp=>(p.1,(h'.get? p.1).getD AA),hm,S1.fm,S1.lnew,S1.keep,S1.tab,λp hp=>?_,λp hp=>?_,?_⟩
 ·rcases zc.mp hp with q|q
  ·exact S1.obj p q
  ·obtain⟨p',hp',rfl⟩:=za.mp q
   obtain⟨o,e⟩:=hex p'.1 (za.mpr ⟨p',hp',rfl⟩)
   show h'.get? p'.1=some ((h'.get? p'.1).getD AA)
   rw[e];rfl
 ·rcases zc.mp hp with q|q
  ·exact S1.new p q
  ·obtain⟨p',hp',rfl⟩:=za.mp q
   exact S.new p' (yZ _ hp')
 ·rw[zD,hm,<- zD];exact S.nd
end
abbrev kEnd(B:Prop)(R:Cg->y9->Prop)(f:Ng)(s3:y9):Prop:=match f with
 | .next|.cont=>B
 | .brk=>R (.ok .next) s3
 | .ret v=>R (.ok (.ret v)) s3
theorem sS{B B':Prop}{R:Cg->y9->Prop}{f:Ng}{s3:y9}(q:B->B')(k:kEnd B R f s3):kEnd B' R f s3:=by
 cases f with
 | next=>exact q k
 | cont=>exact q k
 | brk=>exact k
 | ret v=>exact k
abbrev qD(hb:AE)(tabs:List ze)(L:ze)(own Ro:LO)(J:AN->LV->LO->Prop)(s:y9)(R:Cg->y9->Prop)(f:Ng)(s3:y9):Prop :=
 kEnd (Ex2 λl₂ T₂=>An4 (St hb tabs L l₂ (T₂++own) s3.heap) (J s3.toks l₂ T₂) (∀ p∈Ro,p∈T₂) (Kp s s3)) R f s3
abbrev kTurn(hb:AE)(tabs:List ze)(L:ze)(own Ro:LO)(J:LV->LO->Prop)(s:y9)(R:Cg->y9->Prop)(f:Ng)(s3:y9):Prop:=qD hb tabs L own Ro (λZ=>J) s R f s3
abbrev oB(M:HF)(A:AR)(env:ID)(E:VP)(body:List Cq)(B:FP)(_:Unit)(s:y9):Prop:=y4 M A (zY body env) B E s
abbrev yr(M:HF)(A:AR)(env:ID)(E:VP)(rest:List Cq)(Q:FP)(r:Cg)(s:y9):Prop:=match r with
 | .ok .next=>y4 M A (zY rest env) Q E s
 | .ok f=>Q f s
 | .error e=>cameBackBy M A env E e s
abbrev kLoop(M:HF)(A:AR)(env:ID)(E:VP)(target:Expr)(body rest:List Cq)(Q:FP)(it:Value)(s:y9):Prop:=zS M A (.forLoop target it body [] env) (yr M A env E rest Q) s
abbrev kIter(M:HF)(A:AR)(env:ID)(E:VP)(target:Expr)(body rest:List Cq)(Q:FP)(x:Value)(s:y9):Prop:=y4 M A (EI x) (kLoop M A env E target body rest Q) E s
section
variable{tabs:List ze}{l l':LV}{T T' own Ro:LO}{n:Nat}
theorem St.same{b:ze}{o:AO}(S:St hb tabs L l (T++own) h)(S':St hb tabs L l' (T'++own) h')(h1:∀ p∈Ro,p∈T)(h2:∀ p∈Ro,p∈T')
  (hr:b∉own.map (·.1)->(∃ o,(b,o)∈Ro)\/∃ o,hb.get? b=some o/\b∉tabs) (e:h.get? b=some o):h'.get? b=some o:=by
 by_cases q:b∈own.map (·.1)
 ·obtain⟨p,hp,rfl⟩:=za.mp q
  exact ((S.obj p (yZ _ hp)).symm.trans e)▸S'.obj p (yZ _ hp)
 ·rcases hr q with⟨o',ho'⟩|⟨o',ho',hnt⟩
  ·exact ((S.obj _ (y5 _ (h1 _ ho'))).symm.trans e)▸S'.obj _ (y5 _ (h2 _ ho'))
  ·exact ((S.keep _ _ ho' hnt).symm.trans e)▸S'.keep _ _ ho' hnt
abbrev LInv(hb:AE)(tabs:List ze)(L:ze)(Ro:LO)(wr:List ze)(Wt:Nat->AE->Prop)(J:Nat->AN->LV->LO->Prop)(z:y9)(n k:Nat)(s':y9):Prop :=
 Ex4 λi l₁ T1 own1=>An8 (own1.map (·.1)=wr) (St hb tabs L l₁ (T1++own1) s'.heap) (Wt i s'.heap) (J i s'.toks l₁ T1) (∀ p∈Ro,p∈T1) (Kp z s') (i<=n) (k=n - i)
theorem mG{J:Nat->AN->LV->LO->Prop}{R:Cg->y9->Prop}{z s3:y9}{f:Ng}(fr:∀ i h h',Wt i h->(∀ b∈fp,∀ o,h.get? b=some o->h'.get? b=some o)->Wt i h')
  (hro:∀ b∈fp,b∉wr->(∃ o,(b,o)∈Ro)\/∃ o,hb.get? b=some o/\b∉tabs) (hlt:i<n) (e:own.map (·.1)=wr) (S:St hb tabs L l (T++own) h) (hst:Wt (i+1) h) (hRo:∀ p∈Ro,p∈T) (k:qD hb tabs L own Ro (J (i+1)) z R f s3) :
  kEnd (∃ m,m<n - i/\LInv hb tabs L Ro wr Wt J z n m s3) R f s3:=by
 refine sS (λq=>?_) k
 obtain⟨l₂,T₂,S',hJ,hRo',K⟩:=q
 exact⟨n - (i+1),z8t hlt,i+1,l₂,T₂,own,e,S',fr _ _ _ hst λb hb' o x=>S.same S' hRo hRo' (e▸hro b hb') x,hJ,hRo',K,hlt,rfl⟩
end
section
variable{iter:Expr}{pos:Ef}{Q:FP}
theorem eY(h:y4 (y0 prog w) A (Aq iter env) (kIter (y0 prog w) A env E target body rest Q) E s)
  (hs:∀ x,CT iter env x=Au x:=by intro Z;rfl):y4 (y0 prog w) A (zY (.For target iter body [] pos::rest) env) Q E s:=by
 refine zZ (wpAny_For (zf h (λx s₁ ai=>zf ai (λit ag am=>Gn am λr s' z=>?_) λZ Z e=>e) λZ Z e=>e) hs)
 rcases r with e|(v|_|_|_)<;> exact z
end
noncomputable abbrev aG (vs:List Value):AO:={ cls:=.type "tuple", data:=.seq vs.toArray }
noncomputable abbrev ap (vs:List Value) (n:Nat):AO:={ cls:=.type "list", data:=.seq vs.toArray n }
section
variable{tabs:List ze}{l l':LV}{T T' own:LO}
theorem St.grown(S:St hb tabs L l T h)(hk:∀ b o,h.get? b=some o->h'.get? b=some o):St hb tabs L l T h' :=
 St.drop (own:=[]) ((Al T).symm▸S) λb o Z e=>hk b o e
theorem St.extBut(S:St hb tabs L l T h)(he:Ha h.objs.size h h'):St hb tabs L l T h' :=
 S.grown λb o e=>he b o (Ab (dB e)) e
end
section
variable{tabs:List ze}{l l':LV}{T:LO}{x:ze}{v f:Value}{pos:Ef}{k:Nat}
abbrev kTup(Q:VP)(vs:List Value)(s₁:y9):Prop:=Ce vs.length 1000=true/\Ex5 λhb tabs L l T=>St hb tabs L l T s₁.heap/\∀ a h',St hb tabs L l ((a,aG vs)::T) h'->Q (.ref a) (wh s₁ h')
abbrev kLst(Q:VP)(vs:List Value)(s₁:y9):Prop:=Ce vs.length 1000=true/\Ex5 λhb tabs L l T=>St hb tabs L l T s₁.heap/\∀ a h',St hb tabs L l ((a,ap vs 0)::T) h'->Q (.ref a) (wh s₁ h')
theorem le_line{n:Nat}(h:Ce n 1000=true):n<=DU:=by rw[zw];exact zk (CF h) (by decide)
theorem bQ(h:y4 (y0 prog w) A (CD (Ci pos (AI elts env))) (kTup Q) E s) :
  y4 (y0 prog w) A (Aq (.Tuple elts k pos) env) Q E s :=
 wpAny_Tuple (zf h (λvs s₁ z=>by obtain⟨hz,_,_,_,_,_,S,z⟩:=z;exact⟨le_line hz,z _ _ (S.push _)⟩) λZ Z z=>z)
theorem bF(h:y4 (y0 prog w) A (CD (Ci pos (AI elts env))) (kLst Q) E s) :
  y4 (y0 prog w) A (Aq (.List elts pos) env) Q E s :=
 wpAny_List (zf h (λvs s₁ z=>by obtain⟨hz,_,_,_,_,_,S,z⟩:=z;exact⟨le_line hz,z _ _ (S.push _)⟩) λZ Z z=>z)
theorem eM{Q:FP}{elts vals:List Expr}{vk:Nat}{vpos:Ef}(names:List zH)(h:y4 (y0 prog w) A (CD (Ci vpos (AI vals env))) (λvs s₁=>vs.length=names.length/\Ce vs.length 1000=true/\A.handled=none/\Ex5 λhb tabs L l T=>St hb tabs L l T s₁.heap/\∀ h',
   St hb tabs L l T h'->y4 (y0 prog w) A (Ca (names.reverse.map λn=>Nk env n) vs.reverse) (λZ ag=>y4 (y0 prog w) A (zY rest env) Q E ag) E (wh s₁ h')) E s)
  (hw:Hq [.Tuple elts k tpos] (.Tuple vals vk vpos) env=Au (some names):=by kernel_rfl) :
  y4 (y0 prog w) A (zY (.Assign [.Tuple elts k tpos] (.Tuple vals vk vpos) pos::rest) env) Q E s:=by
 refine zZ (Assign_Tuple_swapped (bQ (zf h (λvs s₁ z=>?_) λZ Z z=>z)) rfl hw)
 obtain⟨hl,hz,hh,_,_,_,_,_,S,z⟩:=z
 refine⟨hz,_,_,_,_,_,S,λa h' S'=>?_⟩
 have ht:IsTup h' a vs.toArray:=⟨_,S'.get 0 rfl,rfl,_,rfl⟩
 have e:names.length=vs.toArray.size:=by rw[zd];exact hl.symm
 rw[e]
 refine unpackItems_tuple hh ht λam he=>?_
 rw[Jt]
 exact z _ ((S'.sub (zl _ _)).extBut he)
theorem eQ{xs:List Value}{Q:UP}(h:Q () s):y4 (y0 prog w) A (Ca [] xs) Q E s:=J3 h
theorem mz{n:zH}{ts:List (Value->Lz Unit)}{y:Value}{xs:List Value}{Q:UP}(h:y4 (y0 prog w) A (E9 env n y) (kOrd (y0 prog w) A E ts xs Q) E s) :
  y4 (y0 prog w) A (Ca ((λv=>Nk env n v)::ts) (y::xs)) Q E s:=JK (bindName_ h)
theorem bR{o:Expr}(h:y4 (y0 prog w) A (Aq o env) (kDot (y0 prog w) A E name Q) E s)
  (he:Aq (.Attribute o name pos) env=(do
   let v <- Aq o env
   standAt pos.atName
   let r <- G9 [v] (G7 v name true)
   Fj o v r
   Au r):=by with_unfolding_all rfl):y4 (y0 prog w) A (Aq (.Attribute o name pos) env) Q E s:=Attribute_any_ h he
theorem bW{func:Expr}{args:List Expr}(h:y4 (y0 prog w) A (Aq func env) (wB (y0 prog w) A env E pos args Q) E s)
  (he:Aq (.Call func args [] pos) env=(do DS pos (<- Aq func env) [] (Ci pos (AI args env)) (DT pos (Cz [] env))):=by rfl) :
  y4 (y0 prog w) A (Aq (.Call func args [] pos) env) Q E s:=Call_ h he
theorem xO{a b:Int}{t u:AN}(hh:A.handled=none)(S:St hb tabs L l T s.heap)
  (h:∀ h' tk t',St hb tabs L l T h'->Q (.int (L4 a b) t') (wht s h' tk)):y4 (y0 prog w) A (call (.builtin "min") [.int a t,.int b u]) Q E s :=
 min_two_ints hh λh' tk hk=>by
  have:=λt'=>h h' tk t' (S.grown hk)
  by_cases c:b<a
  ·rw[Nl,if_neg (by exact zb9 c)] at this
   rw[if_pos c];exact this _
  ·rw[Nl,if_pos (by exact zba c)] at this
   rw[if_neg c];exact this _
end
section
variable{tabs:List ze}{l l':LV}{T:LO}{x:zH}{v:Value}{pos:Ef}
theorem bl{rest:List Expr}{Q:LP}(S:St hb tabs L l T s.heap)(hv:(x,v)∈l)(h:wD (y0 prog w) A (Ac fd L fa) E p rest Q v s)
  (c:ou fd.scope ((Ac fd L fa).kindOf x) x=true:=by kernel_rfl):y4 (y0 prog w) A (CD (Ci p (AI (.Name x pos::rest) (Ac fd L fa)))) Q E s:=args_cons (ac S hv h c)
theorem bln{Q:LP}(S:St hb tabs L l T s.heap)(hv:(x,v)∈l)(h:Q [v] s)
  (c:ou fd.scope ((Ac fd L fa).kindOf x) x=true:=by kernel_rfl):y4 (y0 prog w) A (CD (Ci p (AI [.Name x pos] (Ac fd L fa)))) Q E s:=bl S hv (zn h) c
theorem jL{id:String}{args:List Expr}{p1:Ef}{Q:VP}(G:Gd K tabs hb)(S:St hb tabs L l T s.heap)(hv:Bi x=some (.builtin id))(h:y4 (y0 prog w) A (CD (Ci pos (AI args (Ac fd L fa)))) (kBi (y0 prog w) A E id [] Q) E s)
  (c:xb K fd.scope ((Ac fd L fa).kindOf x) x fd.globals fd.builtins=true:=by kernel_rfl) (hp:(Ci pos (AI args (Ac fd L fa))).any (·.1)=false:=by rfl):y4 (y0 prog w) A (Aq (.Call (.Name x p1) args [] pos) (Ac fd L fa)) Q E s :=
 bW (cO G S hv (aI h hp) c)
theorem rm{id:String}{args:List Expr}{p1:Ef}{Q:VP}(G:Gd K tabs hb)(S:St hb tabs L l T s.heap)(hv:Bi x=some (.type id))(h:y4 (y0 prog w) A (CD (Ci pos (AI args (Ac fd L fa)))) (kTy (y0 prog w) A E id [] Q) E s)
  (c:xb K fd.scope ((Ac fd L fa).kindOf x) x fd.globals fd.builtins=true:=by kernel_rfl) (hp:(Ci pos (AI args (Ac fd L fa))).any (·.1)=false:=by rfl):y4 (y0 prog w) A (Aq (.Call (.Name x p1) args [] pos) (Ac fd L fa)) Q E s :=
 bW (cO G S hv (q6 h hp) c)
theorem tV{args:List Expr}{p1:Ef}{Q:VP}(G:Gd K tabs hb)(S:St hb tabs L l T s.heap)(e:Nh K Bl x=some (some v))(h:y4 (y0 prog w) A (CD (Ci pos (AI args (Ac fd L fa)))) (kRef (y0 prog w) A E hb tabs v [] Q) E s)
  (c:wM fd.scope ((Ac fd L fa).kindOf x) x fd.globals=true:=by kernel_rfl) (hk:Nw K v=true:=by kernel_rfl) (hp:(Ci pos (AI args (Ac fd L fa))).any (·.1)=false:=by rfl):y4 (y0 prog w) A (Aq (.Call (.Name x p1) args [] pos) (Ac fd L fa)) Q E s :=
 bW (mR G S e (cS G h hk hp) c)
theorem cU{n:zH}{ts:List (Value->Lz Unit)}{y:Value}{xs:List Value}{Q:UP}(S:St hb tabs L l T s.heap)(st:bV l n y l')(h:∀ h',St hb tabs L l' T h'->kOrd (y0 prog w) A E ts xs Q () (wht s h' (s.toks+1)))
  (c:sN fd.scope ((Ac fd L fa).kindOf n)=true:=by kernel_rfl):y4 (y0 prog w) A (Ca ((λv=>Nk (Ac fd L fa) n v)::ts) (y::xs)) Q E s:=mz (aq S st h c)
theorem dA{env:ID}{a b:Expr}{op:CmpOp}{cp:Ef}{body orelse rest:List Cq}{Q:FP}(h:y4 (y0 prog w) A (Aq a env) (kCmp (y0 prog w) A env E op b (uN (y0 prog w) A E (kIf (y0 prog w) A env E body orelse rest Q))) E s)
  (hm:JA op b=false:=by with_unfolding_all rfl):y4 (y0 prog w) A (zY (.If (.Compare a [op] [b] cp) body orelse pos::rest) env) Q E s:=lQ (wpAny_isTrue_Compare1 h hm)
end
section
open PySem.Spec
noncomputable abbrev dict0:AO:={ cls:=.type "dict", data:=.dict #[] }
section
variable{tabs:List ze}{l l':LV}{T:LO}{K:Type}[DecidableEq K]{knd:KeyKind prog w K}
theorem eH:dict0.IsDictOf knd []:=by
 obtain⟨o,ho,hd⟩:=F3.mp (NO (knd:=knd) {})
 have e:=AB ho
 rw[<- e] at hd
 exact hd
theorem St.change(S:St hb tabs L l T h)(i:Nat){a:ze}{o o':AO}(hi:T[i]? = some (a,o))(hs:BV a h h')(ho:h'.get? a=some o'):St hb tabs L l (T.set i (a,o')) h':=by
 have e:=(ic (b:=(a,o')) hi)
 have S1:St hb tabs L l ((T.take i++T.drop (i+1))++[(a,o)]) h:=S.perm (by
  conv=>lhs;rw[e.1]
  rw[zu]
  exact D7 _ (zi (l₁:=[(a,o)])))
 obtain⟨own',hm,S2⟩:=S1.moved (h':=h') (λb x hb' hx=>(hs.2 b (λq=>hb' (by rw[q];exact .head _))).trans hx) (λb hb'=>by
  rw[Ay,J4,y6] at hb'
  exact⟨o',by rw[hb'];exact ho⟩)
 rcases own' with _|⟨⟨a',o''⟩,r⟩
 ·cases hm
 ·rw[Ay,Ay,J4] at hm
  obtain⟨ha,hr⟩:=Hr hm
  rw[List.map_eq_nil_iff] at hr
  subst hr
  have ha':a'=a:=ha
  subst ha'
  have h2:h'.get? a'=some o'':=S2.obj (a',o'') (yZ _ (.head _))
  rw[ho] at h2
  have e2:=AB h2
  subst e2
  refine S2.perm ?_
  rw[e.2,zu]
  exact D7 _ (zi (l₂:=[(a',o')]))
theorem St.notMods{K:Ho}(S:St hb tabs L l T h)(G:Gd K tabs hb){p:ze×AO}(hp:p∈T):(p.1==sysModules)=false :=
 beq_eq_false_iff_ne.mpr (Cc (zJ (modules_low G.lim) (S.new p hp)))
end
section
variable{F:Ho}{tabs:List ze}{l l':LV}{T:LO}{pos:Ef}{o:AO}{K:Type} [DecidableEq K] {knd:KeyKind prog w K}{kvs:List (K×Value)}{k:K}{v:Value}
theorem iK(S:St hb tabs L l T s.heap)(h:∀ d h',St hb tabs L l ((d,dict0)::T) h'->Q (.ref d) (wh s h')):y4 (y0 prog w) A (Aq (.Dict [] [] pos) env) Q E s :=
 wpAny_Dict_empty (h _ _ (S.push _))
theorem i7(S:St hb tabs L l T s.heap)(hm:(d,o)∈T)(hd:o.IsDictOf knd kvs):s.heap.DictOf knd d kvs:=F3.mpr ⟨o,S.obj _ hm,hd⟩
theorem iI{Q:UP}(i:Nat)(S:St hb tabs L l T s.heap)(hi:T[i]? = some (d,o))(hd:o.IsDictOf knd kvs)(hkey:knd.is k key=true)
  (h:∀ h' o',St hb tabs L l (T.set i (d,o')) h'->o'.IsDictOf knd (Ht kvs k v)->Q () (wht s h' (s.toks+1))) (hz:kvs.length<=1000) :
  y4 (y0 prog w) A (setItem (.ref d) key v) Q E s :=
 wpAny_setItem_pairs (hsz:=by rw[zw];exact up 16776216 hz) hkey (i7 S (zm hi) hd) λh' hm hs=>by
  obtain⟨o',ho',hd'⟩:=F3.mp hm
  exact h h' o' (S.change i hi hs ho') hd'
theorem pU(S:St hb tabs L l T s.heap)(hm:(d,o)∈T)(hd:o.IsDictOf knd kvs)(hkey:knd.is k key=true)(hv:AS kvs k=some v)(h:Q v (wt s (s.toks+1))) :
  y4 (y0 prog w) A (Dc (.ref d) key) Q E s:=wpAny_getItem_of hkey (i7 S hm hd).mapOf hv h
theorem pV(G:Gd F tabs hb)(S:St hb tabs L l T s.heap)(hm:(d,o)∈T)(hd:o.IsDictOf knd kvs)(hkey:knd.is k key=true)(h:Q ((AS kvs k).getD Js) (wt s (s.toks+1))) :
  y4 (y0 prog w) A (call (.builtin "dict.get") [.ref d,key,Js]) Q E s :=
 have hD:=i7 S hm hd
 call_meetsIn Ea hD.typeIs H2 (PySem.F.args_dict_get_3 _ _ _) (H3 knd d hkey (S.notMods G hm) Js) ⟨_,hD.mapOf,h⟩
theorem kZ(i:Nat)(G:Gd F tabs hb)(S:St hb tabs L l T s.heap)(hi:T[i]? = some (d,o))(hd:o.IsDictOf knd kvs)(hkey:knd.is k key=true)
  (h1:∀ v,AS kvs k=some v->Q v (wt s (s.toks+1)))
  (h2:AS kvs k=none->∀ h' o',St hb tabs L l (T.set i (d,o')) h'->o'.IsDictOf knd (Ht kvs k Js)->Q Js (wht s h' (s.toks+1))) (hz:kvs.length<=1000) :
  y4 (y0 prog w) A (call (.builtin "dict.setdefault") [.ref d,key,Js]) Q E s :=
 have hm:=zm hi
 have hD:=i7 S hm hd
 call_meetsIn F4 hD.typeIs PySem.F.entry_dict_setdefault (PySem.F.args_dict_setdefault_3 _ _ _) (kt_meets_setdefault knd d hkey (S.notMods G hm) Js)
  ⟨kvs,hD,by rw[zw];exact up 16776216 hz,λv hv=>h1 v hv,λhn h' hmm hs=>by
   obtain⟨o',ho',hd'⟩:=F3.mp hmm
   exact h2 hn h' o' (S.change i hi hs ho') hd'⟩
end
end
section
variable{tabs:List ze}{l:LV}{T:LO}{pos:Ef}
theorem wE{Q:VP}{y z:zH}{u v:AN}(NB:B4 s.heap)(hu:u≠0)(hv:v≠0)(ht:u=v->y=z)(h:∀ c:Bool,(c=true->y=z)->Q (.bool c) s) :
  y4 (y0 prog w) A (AF .Is (.str y u) (.str z v)) Q E s:=by
 have key:∀ {Q:BP},(∀ c:Bool,(c=true->y=z)->Q c s)->y4 (y0 prog w) A (isSame (.str y u) (.str z v)) Q E s:=by
  intro Q h
  show y4 (y0 prog w) A (Ma (y==z) u v) Q E s
  unfold Ma
  have h0:(u==0 || v==0)=false:=by
   cases q:(u==0 || v==0) with
   | false=>rfl
   | true =>
    rcases Bool.or_eq_true_iff.mp q with q|q
    ·exact absurd (beq_iff_eq.mp q) hu
    ·exact absurd (beq_iff_eq.mp q) hv
  refine zx h0 ?_
  by_cases huv:u=v
  ·refine Bm (beq_iff_eq.mpr huv) (yY (h true λZ=>ht huv))
  ·refine zx (beq_eq_false_iff_ne.mpr huv) ?_
   by_cases hyz:y=z
   ·refine zx (by rw[beq_iff_eq.mpr hyz];rfl) (yX (BZ NB ?_))
    refine zx rfl (yX (BZ NB ?_))
    refine zx rfl (yX (AP ?_))
    refine yX (BW ?_)
    exact yY (h _ λZ=>hyz)
   ·refine Bm (by rw[beq_eq_false_iff_ne.mpr hyz];rfl) (yY (h false λq=>by cases q))
 exact yX (key λc hc=>yY (h c hc))
theorem cT{o:Expr}{name:zH}{v:Value}{Q:UP}(h:y4 (y0 prog w) A (Aq o env) (sQ (y0 prog w) A E name v Q) E s) :
  y4 (y0 prog w) A (BL (.Attribute o name pos) env v) Q E s:=by
 exact yX (zp (zf h (λov s₁ z=>yX (CO (yX (zp (zf z (λZ ag z=>λΓ p hΓ=>by simp only[Mb];exact z) λZ Z z=>z))))) λZ Z z=>z))
theorem aU{x:zH}{v:Value}{Q:UP}(h:y4 (y0 prog w) A (E9 env x v) Q E s):y4 (y0 prog w) A (BL (.Name x pos) env v) Q E s:=assign_Name h
end
section
variable{tabs:List ze}{l:LV}{T own Ro:LO}{n:Nat}
theorem toU(W:WalksT prog w A I fp wr n Pt Wt Mid):Nx prog w A I fp wr n Pt Wt Mid :=
 ⟨W.sub,W.frame,λi s Q E hi st hQ=>W.item i s Q E hi st λT vals h' tk a Z c d e=>hQ T vals h' tk a c d e,W.go,W.apart,W.done,W.self⟩
end
section
variable{tabs:List ze}{l:LV}{T own:LO}
theorem St.adds(S:St hb tabs L l T h)(hk:∀ b o,h.get? b=some o->h'.get? b=some o)(ho:∀ p∈own,h'.get? p.1=some p.2)(hn:∀ p∈own,h.objs.size<=p.1)(hd:(own.map (·.1)).Nodup):St hb tabs L l (T++own) h':=by
 have S1:=S.grown hk
 have hsz:hb.objs.size<=h.objs.size:=Af (Bq S.lnew S.fm.lt)
 refine⟨S1.fm,S1.lnew,S1.keep,S1.tab,λp hp=>?_,λp hp=>?_,?_⟩
 ·rcases zc.mp hp with q|q
  ·exact S1.obj p q
  ·exact ho p q
 ·rcases zc.mp hp with q|q
  ·exact S1.new p q
  ·exact zk hsz (hn p q)
 ·rw[zD,<- Bp]
  refine CS.mpr ⟨S.nd,hd,λa ha b hb' e=>?_⟩
  obtain⟨p,hp,e2⟩:=za.mp hb'
  have h1:=hn p hp
  rw[e2,<- e] at h1
  rcases y7.mp ha with q|q
  ·rw[q] at h1
   exact absurd S.fm.lt (Br.mpr h1)
  ·obtain⟨p',hp',e3⟩:=za.mp q
   rw[<- e3] at h1
   exact absurd (S.lt hp') (Br.mpr h1)
end
section
open PySem.Spec
namespace B
theorem slot_md_get:Ny "method_descriptor" "__get__" "method_descriptor.__get__" :=
 .of (owner := "method_descriptor") (n := "__get__") (by rw[Bf,z9];kernel_rfl) (by decide +kernel) (by decide +kernel) (by decide +kernel)
  (by first|exact .inl (by decide +kernel)|exact .inr (by decide +kernel)) (by rw[AZ];kernel_rfl)
theorem entry_md_get:Dm Hb "method_descriptor.__get__" = some At.«method_descriptor.__get__»:=BX (by kernel_rfl)
theorem args_md_get (a b c:Value):CI "method_descriptor.__get__" ⟨[a,b,c],[]⟩:=by unfold CI;kernel_rfl
theorem md_set:BH (.type "method_descriptor") "__set__" = Au none:=by rw[Bf,z9];kernel_rfl
theorem md_delete:BH (.type "method_descriptor") "__delete__" = Au none:=by rw[Bf,z9];kernel_rfl
theorem type_dict_contains:C6 (.builtin "dict.__contains__")=Au (.type "method_descriptor"):=by show Li _=_;rw[Gg];kernel_rfl
end B
noncomputable abbrev bmO (id:String) (d:ze):AO:={ cls:=.type "builtin_function_or_method", data:=.fields #[.builtin id,.ref d] }
theorem nX{P:Fin->y9->Prop}{id T:String}{o:AO}(ho:s.heap.get? d=some o)(hc:o.cls=.type T)(htold:BI.contains id=false)
  (hown : ".".intercalate (id.cutAt '.').dropLast=T) (hsub:CJ (.type T) (.type T)=Au true) (h:P (.done (.ret (.ref s.heap.objs.size))) (wh s (s.heap.push (bmO id d)))) :
  y4 M A (At.«method_descriptor.__get__» ⟨[.builtin id,.ref d,.type T],[]⟩) P E s:=by
 refine yX (As (a:=(.builtin id,some (.ref d),some (.type T))) (by first|rfl|kernel_rfl) ?_)
 dsimp only
 rw[htold,if_neg zN]
 wp_delta
 refine yX ?_
 wp_delta
 refine yX ?_
 wp_delta
 rw[hown]
 refine yY (yX (AL (T:=T) (b:=true) ⟨o,ho,hc⟩ hsub ?_))
 exact yY (yX (Aa (yY h)))
theorem dJ{Q:VP}{id T:String}{o:AO}(ho:s.heap.get? d=some o)(hc:o.cls=.type T)(htold:BI.contains id=false)
  (hown : ".".intercalate (id.cutAt '.').dropLast=T) (hsub:CJ (.type T) (.type T)=Au true) (hty:C6 (.builtin id)=Au (.type "method_descriptor")) (h:Q (.ref s.heap.objs.size) (wh s (s.heap.push (bmO id d)))) :
  y4 (y0 prog w) A (call (.builtin "method_descriptor.__get__") [.builtin id,.ref d,.type T]) Q E s :=
 zT B.slot_md_get hty B.entry_md_get (nX ho hc htold hown hsub ⟨_,rfl,h⟩) (B.args_md_get _ _ _)
theorem gL {P:Fin->y9->Prop}{o:AO}{es:Array CR}{k:Nat}{name:zH}{u:AN}{id:String} (hx:s.heap.get? d=some o) (hc:o.cls=.type "dict") (hdat:o.data=.dict es k) (hd:o.dict=none)
  (hl:BH (.type "dict") name=Au (some (.builtin id))) (hty:C6 (.builtin id)=Au (.type "method_descriptor")) (htold:BI.contains id=false)
  (hown : ".".intercalate (id.cutAt '.').dropLast = "dict") (hname:(["__module__", "__name__", "__qualname__", "__doc__", "__annotations__"]:List zH).contains name=false)
  (h:P (.done (.ret (.ref s.heap.objs.size))) (wh s (s.heap.push (bmO id d)))) :
  y4 (y0 prog w) A (At.«object.__getattribute__» ⟨[.ref d,.str name u],[]⟩) P E s:=by
 obtain⟨c,dct,dat,sl⟩:=o
 simp only at hc hdat hd
 subst hc hdat hd
 obtain⟨hp,g,dr,tk,os⟩:=s
 have hT:(⟨hp,g,dr,tk,os⟩:y9).TypeIs (.ref d) "dict" := ⟨_,hx,rfl⟩
 have hT2:(⟨hp,g,dr,tk,os⟩:y9).TypeIs (.builtin id) "method_descriptor" := hty
 have f1:=B.slot_md_get.lookup
 have f2:=B.md_set
 have f3:=B.md_delete
 have hsub:CJ (.type "dict") (.type "dict")=Au true:=by rw[AZ];kernel_rfl
 repeat (any_goals (first|assumption|((with_reducible show y4 _ _ (call (DW "method_descriptor.__get__") _ _) _ _ _);refine dJ hx rfl htold hown hsub hty ?_)|wp_step))
 refine aQ (by rw[hname];exact zN) ?_
 repeat (any_goals (first|assumption|((with_reducible show y4 _ _ (call (DW "method_descriptor.__get__") _ _) _ _ _);refine dJ hx rfl htold hown hsub hty ?_)|wp_step))
theorem gZ {P:Fin->y9->Prop}{o:AO}{es:Array (Int×Value)}{k:Nat}{tb:Az}{name:zH}{u:AN}{id:String} (hx:s.heap.get? d=some o) (hc:o.cls=.type "set") (hdat:o.data=.set es k tb) (hd:o.dict=none)
  (hl:BH (.type "set") name=Au (some (.builtin id))) (hty:C6 (.builtin id)=Au (.type "method_descriptor")) (htold:BI.contains id=false)
  (hown : ".".intercalate (id.cutAt '.').dropLast = "set") (hname:(["__module__", "__name__", "__qualname__", "__doc__", "__annotations__"]:List zH).contains name=false)
  (h:P (.done (.ret (.ref s.heap.objs.size))) (wh s (s.heap.push (bmO id d)))) :
  y4 (y0 prog w) A (At.«object.__getattribute__» ⟨[.ref d,.str name u],[]⟩) P E s:=by
 obtain⟨c,dct,dat,sl⟩:=o
 simp only at hc hdat hd
 subst hc hdat hd
 obtain⟨hp,g,dr,tk,os⟩:=s
 have hT:(⟨hp,g,dr,tk,os⟩:y9).TypeIs (.ref d) "set" := ⟨_,hx,rfl⟩
 have hT2:(⟨hp,g,dr,tk,os⟩:y9).TypeIs (.builtin id) "method_descriptor" := hty
 have f1:=B.slot_md_get.lookup
 have f2:=B.md_set
 have f3:=B.md_delete
 have hsub:CJ (.type "set") (.type "set")=Au true:=by rw[AZ];kernel_rfl
 repeat (any_goals (first|assumption|((with_reducible show y4 _ _ (call (DW "method_descriptor.__get__") _ _) _ _ _);refine dJ hx rfl htold hown hsub hty ?_)|wp_step))
 refine aQ (by rw[hname];exact zN) ?_
 repeat (any_goals (first|assumption|((with_reducible show y4 _ _ (call (DW "method_descriptor.__get__") _ _) _ _ _);refine dJ hx rfl htold hown hsub hty ?_)|wp_step))
theorem gS:BH (.type "set") "__getattr__" = Au none:=by rw[Bf,z9];kernel_rfl
theorem dP:Dm Hb "set.__getattribute__" = some At.«object.__getattribute__» :=
 Gz (id' := "object.__getattribute__") (by kernel_rfl) (by decide +kernel) (by decide +kernel) (by kernel_rfl)
theorem oP {o:AO}{es:Array CR}{k:Nat}{name:zH}{id:String}{Q:VP} (hx:s.heap.get? d=some o) (hc:o.cls=.type "dict") (hdat:o.data=.dict es k) (hd:o.dict=none)
  (hl:BH (.type "dict") name=Au (some (.builtin id))) (hty:C6 (.builtin id)=Au (.type "method_descriptor")) (htold:BI.contains id=false)
  (hown : ".".intercalate (id.cutAt '.').dropLast = "dict") (hname:(["__module__", "__name__", "__qualname__", "__doc__", "__annotations__"]:List zH).contains name=false)
  (h:Q (.ref s.heap.objs.size) (wht s (s.heap.push (bmO id d)) (s.toks+1))) :
  y4 (y0 prog w) A (G7 (.ref d) name true) Q E s:=by
 obtain⟨c,dct,dat,sl⟩:=o
 simp only at hc hdat hd
 subst hc hdat hd
 obtain⟨hp,g,dr,tk,os⟩:=s
 have hT:∀ tk',(⟨hp,g,dr,tk',os⟩:y9).TypeIs (.ref d) "dict" := λZ=>⟨_,hx,rfl⟩
 have f3:=EO.lookup
 have f4:=EO.bind (.ref d)
 have f5:=am_dict_getattr_none
 repeat (any_goals (first|assumption|exact hT _|((with_reducible show y4 _ _ (call (DW "dict.__getattribute__") _ _) _ _ _);refine zT EO (hT _) am_entry_dict_getattribute (gL hx rfl rfl rfl hl hty htold hown hname ⟨_,rfl,?_⟩) (F.args_dict_getattribute_2 _ _))|wp_step))
theorem rq {o:AO}{es:Array (Int×Value)}{k:Nat}{tb:Az}{name:zH}{id:String}{Q:VP} (hx:s.heap.get? d=some o) (hc:o.cls=.type "set") (hdat:o.data=.set es k tb) (hd:o.dict=none)
  (hl:BH (.type "set") name=Au (some (.builtin id))) (hty:C6 (.builtin id)=Au (.type "method_descriptor")) (htold:BI.contains id=false)
  (hown : ".".intercalate (id.cutAt '.').dropLast = "set") (hname:(["__module__", "__name__", "__qualname__", "__doc__", "__annotations__"]:List zH).contains name=false)
  (h:Q (.ref s.heap.objs.size) (wht s (s.heap.push (bmO id d)) (s.toks+1))) :
  y4 (y0 prog w) A (G7 (.ref d) name true) Q E s:=by
 obtain⟨c,dct,dat,sl⟩:=o
 simp only at hc hdat hd
 subst hc hdat hd
 obtain⟨hp,g,dr,tk,os⟩:=s
 have hT:∀ tk',(⟨hp,g,dr,tk',os⟩:y9).TypeIs (.ref d) "set" := λZ=>⟨_,hx,rfl⟩
 have f3:=Fa.lookup
 have f4:=Fa.bind (.ref d)
 have f5:=gS
 repeat (any_goals (first|assumption|exact hT _|((with_reducible show y4 _ _ (call (DW "set.__getattribute__") _ _) _ _ _);refine zT Fa (hT _) dP (gZ hx rfl rfl rfl hl hty htold hown hname ⟨_,rfl,?_⟩) (F.args_set_getattribute_2 _ _))|wp_step))
theorem mq{P:UP}{id T:String}{rest:List Value}{o:AO}(hx:s.heap.get? d=some o)(hcl:o.cls=.type T)(hnc:∀ c,o.data≠.cls c)(hk:Ek id=some .method)(hva:HJ.contains id=false)
  (hmod:CJ (.type T) (.type "module")=Au false)
  (hargs:(match Gh id with|some sig=>Mc id { sig with full:=s!"{Bind.lastOf T}.{Bind.lastOf id}" } ⟨.ref d::rest,[]⟩|none=>Au ())=Au ()) (h:P () s) :
  y4 (y0 prog w) A (Md id ⟨.ref d::rest,[]⟩) P E s:=by
 have hT:s.TypeIs (.ref d) T:=⟨o,hx,hcl⟩
 unfold Md
 cases hsig:Gh id with
 | none=>exact yY h
 | some sig =>
 rw[hsig] at hargs
 rw[hk]
 refine aQ (by decide) (yX (AL hT hmod ?_))
 rw[hva]
 refine yX (yX (Dr hx (yY ?_)))
 refine zx (c:=_) (by cases q:o.data<;> first|rfl|exact absurd q (hnc _)) (yX (Dn hT ?_))
 exact As hargs h
theorem gN{B:At}{S:BG}{Q:VP}{u:ze}{id T:String}{pos:List Value}(ho:s.heap.get? u=some (bmO id d)){o:AO}(hx:s.heap.get? d=some o)(hcl:o.cls=.type T)(hnc:∀ c,o.data≠.cls c)(hk:Ek id=some .method)(hva:HJ.contains id=false)
  (hmod:CJ (.type T) (.type "module")=Au false)
  (hargs:(match Gh id with|some sig=>Mc id { sig with full:=s!"{Bind.lastOf T}.{Bind.lastOf id}" } ⟨.ref d::pos,[]⟩|none=>Au ())=Au ()) (hq:FO id=true)
  (entry:Dm Hb id=some B) (g:MeetsIn prog w (B ⟨.ref d::pos,[]⟩) S) (h:S A (NG Q E) s):y4 (y0 prog w) A (call (.ref u) pos) Q E s:=by
 refine BO (EU ?_)
 refine yX (Dr ho ?_)
 refine Bm (by kernel_rfl) ?_
 refine Bm (by kernel_rfl) (yX (mq hx hcl hnc hk hva hmod hargs ?_))
 refine yX (yY (yY ?_))
 exact⟨Ao hq _,z8 entry (by rw[BQ hq];exact g A (NG Q E) s h)⟩
section
variable{F:Ho}{tabs:List ze}{l:LV}{T:LO}{pos:Ef}{o:AO}{id:String}{K:Type} [DecidableEq K] {knd:KeyKind prog w K}{kvs:List (K×Value)}{k:K}{v:Value}
theorem pW{name:zH}(id:String)(S:St hb tabs L l T s.heap)(hm:(d,o)∈T)(hd:o.IsDictOf knd kvs)(h:∀ u h',St hb tabs L l ((u,bmO id d)::T) h'->Q (.ref u) (wht s h' (s.toks+1)))
  (hl:BH (.type "dict") name=Au (some (.builtin id))) (hty:C6 (.builtin id)=Au (.type "method_descriptor")) (htold:BI.contains id=false:=by decide +kernel)
  (hown : ".".intercalate (id.cutAt '.').dropLast = "dict" := by decide +kernel) (hname:(["__module__", "__name__", "__qualname__", "__doc__", "__annotations__"]:List zH).contains name=false:=by decide +kernel) :
  y4 (y0 prog w) A (G7 (.ref d) name true) Q E s:=by
 obtain⟨es,ep,hx,hdd,-⟩:=hd
 exact oP (S.obj _ hm) hx.1 hdd hx.2.1 hl hty htold hown hname (h _ _ (S.push _))
theorem eI(h:y4 (y0 prog w) A (CD trees) (λvs s₁=>s₁.heap.get? u=some (bmO id d)/\y4 (y0 prog w) A (call (.ref u) (first++vs)) Q E s₁) E s)(hp:trees.any (·.1)=false:=by rfl) :
  y4 (y0 prog w) A (DS pos (.ref u) first trees []) Q E s:=by
 refine yX (zp (cC hp (zf h (λx s₁ ai=>yX (CO ?_)) λZ Z x=>x)))
 obtain⟨ho,hcall⟩:=ai
 rw[hp]
 refine yX (m:=keeperOf (.ref u)) (yX (Dr ho ?_))
 refine Bm (by kernel_rfl) ?_
 rw[if_pos (c:=((bmO id d).cls==.type "builtin_function_or_method" || (bmO id d).cls==.type "method-wrapper")=true) (by kernel_rfl)]
 exact yY (yX (zf hcall (λr ag hr=>yX (zp (wpAny_point (yY hr)))) λZ Z x=>x))
theorem nC:CJ (.type "dict") (.type "module")=Au false:=by rw[AZ];kernel_rfl
theorem xa (G:Gd F tabs hb) (S:St hb tabs L l T s.heap) (hu:(u,bmO "dict.get" d)∈T) (hm:(d,o)∈T) (hd:o.IsDictOf knd kvs) (hkey:knd.is k key=true) (h:Q ((AS kvs k).getD Js) (wt s (s.toks+1))) :
  y4 (y0 prog w) A (call (.ref u) [key,Js]) Q E s:=by
 have hD:=i7 S hm hd
 obtain⟨es,ep,hx,hdd,-⟩:=id hd
 exact gN (T := "dict") (S.obj _ hu) (S.obj _ hm) hx.1 (λc q=>by rw[hdd] at q;cases q) (by decide +kernel) (by decide +kernel) nC
  (by rw[PySem.signature?_of (id := "dict.get") (n:=['t','e','g']) (o:=['t','c','i','d']) (by kernel_rfl) PySem.F.owner_dict];kernel_rfl) (by decide +kernel) H2 (H3 knd d hkey (S.notMods G hm) Js) ⟨_,hD.mapOf,h⟩
theorem mu (G:Gd F tabs hb) (S:St hb tabs L l T s.heap) (hu:(u,bmO "dict.__contains__" d)∈T) (hm:(d,o)∈T) (hd:o.IsDictOf knd kvs) (hkey:knd.is k key=true) (h:Q (.bool (AS kvs k).isSome) (wt s (s.toks+1))) :
  y4 (y0 prog w) A (call (.ref u) [key]) Q E s:=by
 have hD:=i7 S hm hd
 obtain⟨es,ep,hx,hdd,-⟩:=id hd
 exact gN (T := "dict") (S.obj _ hu) (S.obj _ hm) hx.1 (λc q=>by rw[hdd] at q;cases q) (by decide +kernel) (by decide +kernel) nC
  (by first|kernel_rfl) (by decide +kernel) entry_dict_contains (meets_dict_contains knd d hkey (S.notMods G hm)) ⟨_,hD.mapOf,h⟩
end
end
noncomputable abbrev cK (led:Bool):AO:={ cls:=.type "set", dict:=none,data:=.set #[] 0 (.fresh 0 0 led) }
section
variable{tabs:List ze}{l l':LV}{T own:LO}
theorem St.forget(S:St hb tabs L l T h)(hs:l'.Sublist l):St hb tabs L l' T h:=by
 obtain⟨oL,e,es,ep,m,a,b,c,d,n⟩:=S.fm
 exact⟨⟨oL,e,es,ep,m,a,b,c,λp hp=>d p (hs.subset hp),n.sublist (hs.map _)⟩,S.lnew,S.keep,S.tab,S.obj,S.new,S.nd⟩
end
section
variable{F:Ho}{tabs:List ze}{a:ze}{l:LV}{T:LO}{pos:Ef}{o:AO}{K:Type} [DecidableEq K] {knd:JC prog w K}{k:K}{v:Value}{vs:List Value}{n:Nat}
theorem uC (S:St hb tabs L l T s.heap) (h:∀ a led h',St hb tabs L l ((a,cK led)::T) h'->Q (.ref a) (wh s h')):y4 (y0 prog w) A (call (.type "set") []) Q E s :=
 call_set_0 λled=>h _ led _ (S.push _)
theorem cB(i:Nat)(S:St hb tabs L l T s.heap)(hi:T[i]? = some (d,ap vs n))(h:∀ h',St hb tabs L l (T.set i (d,ap (vs++[v]) (n+1))) h'->Q .none (wh s h'))(hz:vs.length<=10000) :
  y4 (y0 prog w) A (call (.builtin "list.append") [.ref d,v]) Q E s :=
 append_at (hsz:=by rw[zw,zd];exact up 16767216 hz) (S.obj _ (zm hi)) λh' hs ho=>h h' (S.change i hi hs (by rw[ho];simp[ap]))
theorem vD(led:Bool){h:AE}(hx:h.get? d=some (cK led)):h.SetOf knd d (λZ=>false) 0 :=
 ⟨_,#[],0,.fresh 0 0 led,hx,⟨rfl,rfl,rfl⟩,rfl,(λe he=>by simp at he),(λk=>⟨λq=>by simp at q,λq=>by obtain⟨e,he,_⟩:=q;simp at he⟩),by decide,by cases led<;> decide,rfl⟩
theorem xS{name:zH}(id:String)(led:Bool)(S:St hb tabs L l T s.heap)(hm:(d,cK led)∈T)(h:∀ u h',St hb tabs L l ((u,bmO id d)::T) h'->Q (.ref u) (wht s h' (s.toks+1)))
  (hl:BH (.type "set") name=Au (some (.builtin id))) (hty:C6 (.builtin id)=Au (.type "method_descriptor")) (htold:BI.contains id=false:=by decide +kernel)
  (hown : ".".intercalate (id.cutAt '.').dropLast = "set" := by decide +kernel) (hname:(["__module__", "__name__", "__qualname__", "__doc__", "__annotations__"]:List zH).contains name=false:=by decide +kernel) :
  y4 (y0 prog w) A (G7 (.ref d) name true) Q E s :=
 rq (S.obj _ hm) rfl rfl rfl hl hty htold hown hname (h _ _ (S.push _))
theorem vC:CJ (.type "set") (.type "module")=Au false:=by rw[AZ];kernel_rfl
theorem gm(hkey:knd.is k key=true)(hsc:key.scannable=true) :
  MeetsIn prog w (At.«frozenset.__contains__» ⟨[.ref a,key],[]⟩) (λZ R s=>Ex2 λS n=>s.heap.SetOf knd a S n/\R (.ok (.ret (.bool (S k)))) (wt s (s.toks+1))) :=
 .of_wp λA R s ⟨S,n,hS,h⟩=>by
  unfold At.«frozenset.__contains__» Me
  simp only[KJ,bind_assoc]
  refine yX (yY ?_)
  try dsimp only
  refine yX (yY ?_)
  try dsimp only
  refine yX (DB ?_)
  refine zp (yX (knd.pyHash hkey ?_))
  refine yX (wpAny_setFind_of (s:=(wt s (s.toks+1))) hkey hsc hS λr hr=>?_)
  refine yY ?_
  show y4 _ _ (ret (FI r.isSome)) _ _ _
  rw[hr]
  exact yY ⟨_,rfl,h⟩
theorem nM (led:Bool) (S:St hb tabs L l T s.heap) (hu:(u,bmO "set.__contains__" d)∈T) (hm:(d,cK led)∈T) (hkey:knd.is k key=true) (hsc:key.scannable=true) (h:Q (.bool false) (wt s (s.toks+1))) :
  y4 (y0 prog w) A (call (.ref u) [key]) Q E s :=
 gN (T := "set") (S.obj _ hu) (S.obj _ hm) rfl (λc q=>by cases q) (by decide +kernel) (by decide +kernel) vC
  (by first|kernel_rfl) (by decide +kernel) entry_set_contains (gm (knd:=knd) hkey hsc) ⟨_,0,vD led (S.obj _ hm),h⟩
end
def uk(la:List zH)(i:Nat)(v:Value):Prop:=Ex2 λc u=>la[i]? = some c/\v=.str c u
structure ItV(prog:Bh)(w:Am)(hb:AE)(tabs:List ze)(Ra:LO)(I:ze)(n:Nat)(P:Nat->Value->Prop)(Wt:Nat->AE->Prop)(fp:List ze):Prop where
 walks:∀ A:AR,A.handled=none->Walks prog w A I fp [I] n P Wt
 ex:∀ i h,Wt i h->∃ o,h.get? I=some o
 ro:∀ b∈fp,b∉[I]->(∃ o,(b,o)∈Ra)\/∃ o,hb.get? b=some o/\b∉tabs
structure ItU(prog:Bh)(w:Am)(hb:AE)(tabs:List ze)(Ra:LO)(I:ze)(wr:List ze)(n:Nat)(Pt:Nat->Array Value->Prop)(Wt:Nat->AE->Prop)(Mid:Nat->ze->AE->Prop)(fp:List ze):Prop where
 walks:∀ A:AR,A.handled=none->Nx prog w A I fp wr n Pt Wt Mid
 ex:∀ i h,Wt i h->∀ b∈wr,∃ o,h.get? b=some o
 ro:∀ b∈fp,b∉wr->(∃ o,(b,o)∈Ra)\/∃ o,hb.get? b=some o/\b∉tabs
section
variable{z:y9}{tabs:List ze}{l:LV}{T own Ro:LO}{n:Nat}{P:Nat->Value->Prop}
theorem jm{K:Nat->LV->LO->Prop}(i:Nat)(tk tk':AN)(l:LV)(T:LO)(_:tk<=tk')(h:K i l T):K i l T:=h
theorem ow{M:HF}(i:Nat)(s:y9)(v:Value)(Q:UP)(E:VP)(_:Wt i s.heap)(h:Q () s):y4 M A (Au ()) Q E s:=yY h
theorem ItV.loop{o:AO}{R:Cg->y9->Prop}(IV:ItV prog w hb tabs Ro I n P Wt fp)(hh:A.handled=none)(S:St hb tabs L l (T++[(I,o)]) s.heap)(hst:Wt 0 s.heap)
  (J:Nat->AN->LV->LO->Prop) (h0:J 0 s.toks l T) (hR0:∀ p∈Ro,p∈T)
  (GA:∀ E i v l₁ T1 own1 s₁,i<n->P i v->J i s₁.toks l₁ T1->St hb tabs L l₁ (T1++own1) s₁.heap->(∀ p∈Ro,p∈T1)->Kp z s₁ ->
   y4 (y0 prog w) A (BL target env v) (oB (y0 prog w) A env E body (qD hb tabs L own1 Ro (J (i+1)) z R)) E s₁)
  (hR:∀ s' l' T',Kp z s'->St hb tabs L l' T' s'.heap->J n s'.toks l' T'->(∀ p∈Ro,p∈T')->R (.ok .next) s')
  (hmono:∀ i tk tk' l T,tk<=tk'->J i tk l T->J i tk' l T:=by exact jm)
  (hown:∀ i (s:y9) v (Q:UP) E,Wt i s.heap->Q () s->y4 (y0 prog w) A (CW target (.ref I) v) Q E s:=by exact ow) (ez:Kp z s:=by exact⟨rfl,id⟩) :
  zS (y0 prog w) A (.forLoop target (.ref I) body [] env) R s:=by
 refine Ju (LInv hb tabs L Ro [I] Wt J z n) ?_ n ⟨0,l,T,[(I,o)],rfl,S,hst,h0,hR0,ez,zA _,rfl⟩
 rintro k s' ⟨i,l₁,T1,own1,how1,ah,hst1,hJ,hRo,hKp,hi,rfl⟩
 have W:=IV.walks A hh
 by_cases hlt:i<n
 ·refine AC (zh s'.toks) (W.item i _ _ _ hlt hst1 λv ai br hP hst2 b8 htk=>?_)
  obtain⟨own2,bh,af⟩:=ah.moved (h':=ai) (λb o hb' e=>b8 b o (how1▸hb') e) (λb hb'=>by rw[how1,y6] at hb';subst hb';exact IV.ex _ _ hst2)
  exact hown (i+1) _ _ _ _ hst2 (zf (GA _ i v l₁ T1 own2 (wht s' ai br) hlt hP (hmono _ _ _ _ _ htk hJ) af hRo hKp.with) (λZ ag am=>zf am (λf s3 ak=>mG W.frame IV.ro hlt (bh.trans how1) af hst2 hRo ak) λZ Z e=>e) λZ Z e=>e)
 ·cases z8u hi hlt
  exact AC (zh s'.toks) (W.done _ _ _ hst1 λai br b8 htk=>CV (hR _ l₁ T1 hKp.with (ah.drop λb o hb' e=>b8 b o (how1▸hb') e) (hmono _ _ _ _ _ htk hJ) hRo))
theorem ItU.loop{R:Cg->y9->Prop}(IU:ItU prog w hb tabs Ro I wr n Pt Wt Mid fp)(hh:A.handled=none)(how:own.map (·.1)=wr)(S:St hb tabs L l (T++own) s.heap)(hst:Wt 0 s.heap)
  (J:Nat->LV->LO->Prop) (h0:J 0 l T) (hR0:∀ p∈Ro,p∈T)
  (hsz:∀ i vals,Pt i vals->(BN elts env).length=vals.size) (hstar:(BN elts env).findIdx? (·.1)=none)
  (GA:∀ E i vals l₁ T1 own1 s₁,i<n->Pt i vals->J i l₁ T1->St hb tabs L l₁ (T1++own1) s₁.heap->(∀ p∈Ro,p∈T1)->Kp z s₁ ->
   y4 (y0 prog w) A (Ca ((BN elts env).map (·.2)) vals.toList) (oB (y0 prog w) A env E body (kTurn hb tabs L own1 Ro (J (i+1)) z R)) E s₁)
  (hR:∀ s' l' T',Kp z s'->St hb tabs L l' T' s'.heap->J n l' T'->(∀ p∈Ro,p∈T')->R (.ok .next) s') (ez:Kp z s:=by exact⟨rfl,id⟩) :
  zS (y0 prog w) A (.forLoop (.Tuple elts x1 tpos) (.ref I) body [] env) R s:=by
 refine Ju (LInv hb tabs L Ro wr Wt (λi Z=>J i) z n) ?_ n ⟨0,l,T,own,how,S,hst,h0,hR0,ez,zA _,rfl⟩
 rintro k s' ⟨i,l₁,T1,own1,how1,ah,hst1,hJ,hRo,hKp,hi,rfl⟩
 have W:=IU.walks A hh
 by_cases hlt:i<n
 ·refine W.item i _ _ _ hlt hst1 λtu vals ai br hP htu hmid b8=>(W.go elts x1 tpos i tu _ _ _ hmid λam hst2 hk2=>?_)
  have cg:am.IsTuple tu vals:=htu.at λo e=>hk2 tu o (W.apart i tu ai hmid) e
  obtain⟨own2,bh,af⟩:=ah.moved (h':=am) (λb o hb' e=>hk2 b o (how1▸hb') (b8 b o (how1▸hb') e)) (λb hb'=>IU.ex _ _ hst2 b (how1▸hb'))
  refine JL hh cg (hsz i vals hP) hstar λak cq=>?_
  replace cq:Ha am.objs.size am ak:=cq
  have ae:=af.extBut cq
  have hst3:Wt (i+1) ak:=W.frame _ _ _ hst2 λb hb' o e=>cq b o (Ab (AH e)) e
  exact zf (GA _ i vals l₁ T1 own2 (wht s' ak br) hlt hP hJ ae hRo hKp.with) (λZ ag ec=>zf ec (λf s3 h3'=>mG (J:=λi Z=>J i) W.frame IU.ro hlt (bh.trans how1) ae hst3 hRo h3') λZ Z e=>e) λZ Z e=>e
 ·cases z8u hi hlt
  exact W.done _ _ _ hst1 λai br b8=>CV (hR _ l₁ T1 hKp.with (ah.drop λb o hb' e=>b8 b o (how1▸hb') e) hJ hRo)
end
structure SqV(prog:Bh)(w:Am)(hb:AE)(tabs:List ze)(Ra:LO)(va:Value)(la:List zH):Prop where
 len:∀ {A:AR}{E:VP}{s:y9}{L:ze}{l:LV}{T:LO}{Q:VP},St hb tabs L l T s.heap->(∀ p∈Ra,p∈T) ->
  (∀ t tk,Q (.int la.length t) (wt s tk))->y4 (y0 prog w) A (call (.builtin "len") [va]) Q E s
 hand:L9 va=true
 small:la.length<=60
 item:∀ {A:AR}{E:VP}{s:y9}{L:ze}{l:LV}{T:LO}{Q:VP}{value slice:Expr}{i:Nat}{t:AN}{c:zH},St hb tabs L l T s.heap->(∀ p∈Ra,p∈T) ->
  la[i]? = some c->(∀ u tk,Q (.str c u) (wt s tk))->(∀ o k,Hc slice false o (.int k t)=J5 [o,.int k t] (Dc o (.int k t)))->y4 (y0 prog w) A (JD value slice va (.int i t)) Q E s
 iter:∀ {A:AR}{E:VP}{s:y9}{L:ze}{l:LV}{T:LO}{Q:VP},St hb tabs L l T s.heap->(∀ p∈Ra,p∈T) ->
  (∀ I o Wt fp h',ItV prog w hb tabs Ra I la.length (uk la) Wt fp->Wt 0 h'->St hb tabs L l (T++[(I,o)]) h'->Q (.ref I) (wh s h'))->y4 (y0 prog w) A (EI va) Q E s
 enum:∀ {A:AR}{E:VP}{s:y9}{L:ze}{l:LV}{T:LO}{Q:VP},A.handled=none->St hb tabs L l T s.heap->(∀ p∈Ra,p∈T) ->
  (∀ I J o o' Wt Mid fp h',ItU prog w hb tabs Ra I [I,J] la.length (λi vals=>Ex2 λt x=>uk la i x/\vals = #[.int i t,x]) Wt Mid fp->Wt 0 h'->St hb tabs L l (T++[(I,o),(J,o')]) h'->Q (.ref I) (wh s h')) ->
  y4 (y0 prog w) A (call (.type "enumerate") [va]) Q E s
noncomputable def aA(x:zH):List zH:=x.cps.toList.map λc=>⟨#[c]⟩
theorem aH(x:zH):(aA x).length=x.cps.size:=by simp[aA]
theorem eF{x:zH}{i:Nat}{v:Value}(h:SignAt x i v):uk (aA x) i v:=by
 obtain⟨c,u,e,rfl⟩:=h
 exact⟨⟨#[c]⟩,u,by simp[aA,e],rfl⟩
theorem lY{x:zH}{i:Nat}{c:zH}(h:(aA x)[i]? = some c):∃ k,x.cps[i]? = some k/\c=⟨#[k]⟩:=by
 unfold aA at h
 rw[zB] at h
 obtain⟨k,e,rfl⟩:=zW.mp h
 exact⟨k,by simpa using e,rfl⟩
section
variable{tabs:List ze}
theorem bM{A:AR}{I:ze}{fp wr:List ze}{n:Nat}{P P':Nat->Value->Prop}{Wt:Nat->AE->Prop}(W:Walks prog w A I fp wr n P Wt)(h:∀ i v,P i v->P' i v):Walks prog w A I fp wr n P' Wt :=
 ⟨W.sub,W.frame,λi s Q E hi st hQ=>W.item i s Q E hi st λv h' tk a b c=>hQ v h' tk (h _ _ a) b c,W.done,W.self⟩
theorem eS{A:AR}{I:ze}{fp wr:List ze}{n:Nat}{P P':Nat->Array Value->Prop}{Wt:Nat->AE->Prop}{Mid:Nat->ze->AE->Prop}(W:Nx prog w A I fp wr n P Wt Mid)(h:∀ i v,P i v->P' i v):Nx prog w A I fp wr n P' Wt Mid :=
 ⟨W.sub,W.frame,λi s Q E hi st hQ=>W.item i s Q E hi st λT vals h' tk a b c d=>hQ T vals h' tk (h _ _ a) b c d,W.go,W.apart,W.done,W.self⟩
theorem gw{h:AE}{a b:ze}{k:Int}{v:Value}(h':IsEnum h a b k v):∃ o,h.get? a=some o:=⟨_,h'⟩
theorem ut(x:zH)(t:AN)(hx:x.cps.size<=60):SqV prog w hb tabs [] (.str x t) (aA x) where
 len:=λS Z h=>by
  have e:x.length=x.cps.size:=rfl
  refine len_str (by rw[e];lia) ?_
  have:=h
  rw[aH] at this
  exact this _ _
 hand:=rfl
 small:=by rw[aH];exact hx
 item:=λ{A E s L l T Q value slice i u c} S _ hi h hs=>by
  obtain⟨k,e,rfl⟩:=lY hi
  have hlt:i<x.cps.size:=by
   rcases AM i x.cps.size with q|q
   ·exact q
   ·rw[BC q] at e;nomatch e
  refine Nm (Mf s x t) slot_str_getitem.lookup (getItem_str (c:=k) ?_ ?_ (h _ _)) (hs _ _)
  ·simp only[FS,decide_eq_false_iff_not];lia
  ·have:HK (i:Int) x.length=some i:=by
    unfold HK
    simp
    exact x11 hlt
   rw[this];exact e
 iter:=λ{A E s L l T Q} S _ h=>by
  refine wpAny_pyIter_strU ?_
  cases ha:x.cps.all (· < 128)
  ·have e:El x = "str_iterator" := by simp[El,ha]
   rw[e]
   refine h _ _ (λi h=>h.IsStrIter s.heap.objs.size "str_iterator" x t i) _ _ ⟨λA hA=>aH x▸bM (Walks.strWide hA _ x t) λZ Z=>eF,λi h q=>let ⟨o,e,_⟩:=q;⟨o,e⟩,λb hb' hn=>absurd hb' hn⟩ ⟨_,zQ _ rfl,rfl,rfl⟩ (S.push _).last
  ·have e:El x = "str_ascii_iterator" := by simp[El,ha]
   rw[e]
   refine h _ _ (λi h=>h.IsStrIter s.heap.objs.size "str_ascii_iterator" x t i) _ _ ⟨λA hA=>aH x▸bM (Walks.strAscii hA _ x t) λZ Z=>eF,λi h q=>let ⟨o,e,_⟩:=q;⟨o,e⟩,λb hb' hn=>absurd hb' hn⟩ ⟨_,zQ _ rfl,rfl,rfl⟩ (S.push _).last
 enum:=λ{A E s L l T Q} hh S _ h=>by
  refine call_enumerate_str λh' he hi hz hk=>?_
  obtain⟨oe,hoe⟩:=gw he
  obtain⟨oi,hoi,-⟩:=id hi
  have S':St hb tabs L l (T++[(s.heap.objs.size+1,oe),(s.heap.objs.size,oi)]) h':=S.adds hk (λp hp=>by
   rcases y7.mp hp with rfl|hp
   ·exact hoe
   ·rcases y7.mp hp with rfl|hp
    ·exact hoi
    ·nomatch hp) (λp hp=>by
   rcases y7.mp hp with rfl|hp
   ·exact C2 _
   ·rcases y7.mp hp with rfl|hp
    ·exact zh _
    ·nomatch hp) (by simp)
  cases ha:x.cps.all (· < 128)
  ·have e:El x = "str_iterator" := by simp[El,ha]
   rw[e] at hi
   refine h _ _ _ _ _ _ _ _ ⟨λA hA=>aH x▸eS (toU (Hd (Draws.strWide (A:=A.in1) hA s.heap.objs.size x t) (s.heap.objs.size+1) (FL _) (by simp) (by simp))) (λi v q=>?e1),?e2,?e3⟩ ⟨⟨_,he⟩,hi⟩ S'
   case e1 =>
    obtain⟨t,x',a,b⟩:=q
    exact⟨t,x',eF a,b⟩
   case e2 =>
    rintro i h ⟨⟨old,q⟩,q2⟩ b hb'
    rcases y7.mp hb' with rfl|hb'
    ·exact gw q
    ·rw[y6] at hb';subst hb'
     obtain⟨o,e,_⟩:=q2
     exact⟨o,e⟩
   case e3 =>
    exact λb hb' hn=>absurd hb' hn
  ·have e:El x = "str_ascii_iterator" := by simp[El,ha]
   rw[e] at hi
   refine h _ _ _ _ _ _ _ _ ⟨λA hA=>aH x▸eS (toU (Hd (Draws.strAscii (A:=A.in1) hA s.heap.objs.size x t) (s.heap.objs.size+1) (FL _) (by simp) (by simp))) (λi v q=>?e1),?e2,?e3⟩ ⟨⟨_,he⟩,hi⟩ S'
   case e1 =>
    obtain⟨t,x',a,b⟩:=q
    exact⟨t,x',eF a,b⟩
   case e2 =>
    rintro i h ⟨⟨old,q⟩,q2⟩ b hb'
    rcases y7.mp hb' with rfl|hb'
    ·exact gw q
    ·rw[y6] at hb';subst hb'
     obtain⟨o,e,_⟩:=q2
     exact⟨o,e⟩
   case e3 =>
    exact λb hb' hn=>absurd hb' hn
end
section
variable{K:Type}[DecidableEq K]
theorem bD(k k':K)(v:Value)(l:List (K×Value)):AS ((k,v)::l) k'=if k=k' then some v else AS l k':=by
 unfold AS
 by_cases h:k=k'
 ·simp[h]
 ·simp[h]
theorem jk(l r:List (K×Value))(k:K):AS (l++r) k=(AS l k).or (AS r k):=by
 unfold AS
 rw[List.find?_append]
 cases l.find? λkv=>decide (kv.1=k)<;> simp
theorem lH(l:List (K×Value))(k k':K)(v:Value):AS (l.map λkv=>if kv.1=k then (kv.1,v) else kv) k'=if k=k' then (AS l k').map λZ=>v else AS l k':=by
 induction l with
 | nil=>simp[AS]
 | cons p l ih =>
  obtain⟨a,u⟩:=p
  rw[Ay]
  by_cases h:a=k
  ·simp only[h,if_true]
   rw[bD,ih,bD]
   by_cases h2:k=k'
   ·simp[h2]
   ·simp[h2]
  ·simp only[h,if_false]
   rw[bD,ih,bD]
   by_cases h2:a=k'
   ·have:k≠k':=λe=>h (h2.trans e.symm)
    simp[h2,this]
   ·simp[h2]
theorem kG(l:List (K×Value))(k:K):l.any (λkv=>decide (kv.1=k))=(AS l k).isSome:=by
 induction l with
 | nil=>rfl
 | cons p l ih =>
  obtain⟨a,u⟩:=p
  rw[bD,JB,ih]
  by_cases h:a=k<;> simp[h]
theorem cA(l:List (K×Value))(k k':K)(v:Value):AS (Ht l k v) k'=if k=k' then some v else AS l k':=by
 unfold Ht
 split
 ·rename_i h
  rw[lH]
  by_cases h2:k=k'
  ·subst h2
   rw[kG] at h
   obtain⟨u,e⟩:=Option.isSome_iff_exists.mp h
   simp[e]
  ·simp[h2]
 ·rename_i h
  rw[jk]
  have hn:AS l k=none:=by
   rw[kG] at h
   simpa using h
  rw[bD]
  by_cases h2:k=k'
  ·subst h2;simp[hn]
  ·simp[h2,AS]
theorem gD(l:List (K×Value))(k:K)(v:Value):(Ht l k v).length<=l.length+1:=stored_length_le l k v
end
noncomputable def bN(lb:List zH)(c:zH):List Nat:=(zM lb.length).filter λi=>decide (lb[i]? = some c)
theorem iM(lb:List zH)(d c:zH):bN (lb++[d]) c=bN lb c++if d=c then [lb.length] else []:=by
 unfold bN
 rw[zK,Eb,List.range_succ,Bt]
 congr 1
 ·apply Fk
  intro i hi
  have hi:=zR.mp hi
  rw[Dd hi]
 ·rw[EA]
  by_cases h:d=c<;> simp[h]
theorem eO{lb:List zH}{c:zH}:bN lb c=[]↔c∉lb:=by
 unfold bN
 rw[H4]
 constructor
 ·intro h hm
  obtain⟨i,hi,e⟩:=IX.mp hm
  exact h i (zR.mpr hi) (by simp[zj hi,e])
 ·exact λh i hi hd=>h (zm (of_decide_eq_true hd))
inductive bY:List Value->List Nat->Prop
 | nil:bY [] []
 | cons {n:Nat}{t:AN}{vs:List Value}{ns:List Nat}:bY vs ns->bY (.int n t::vs) (n::ns)
theorem bY.snoc{vs:List Value}{ns:List Nat}(h:bY vs ns)(n:Nat)(t:AN):bY (vs++[.int n t]) (ns++[n]):=by
 induction h with
 | nil=>exact .cons .nil
 | cons _ ih=>exact .cons ih
theorem bY.len{vs:List Value}{ns:List Nat}(h:bY vs ns):vs.length=ns.length:=by
 induction h with
 | nil=>rfl
 | cons _ ih=>rw[zI,zI,ih]
theorem bY.get{vs:List Value}{ns:List Nat}(h:bY vs ns){i:Nat}{v:Value}(e:vs[i]? = some v):Ex2 λn t=>ns[i]? = some n/\v=.int n t:=by
 induction h generalizing i with
 | nil=>simp at e
 | cons _ ih =>
  rename_i n t vs ns _
  cases i with
  | zero=>simp at e;subst e;exact⟨n,t,by simp,rfl⟩
  | succ i=>simp at e;obtain⟨m,u,a,b⟩:=ih e;exact⟨m,u,by simpa using a,b⟩
structure aW where
 c:zH
 a:ze
 vs:List Value
 n:Nat
noncomputable def aW.kv(r:aW):zH×Value:=(r.c,.ref r.a)
noncomputable def aW.ob(r:aW):ze×AO:=(r.a,ap r.vs r.n)
structure cJ(lb:List zH)(rows:List aW):Prop where
 nd:(rows.map (·.c)).Nodup
 at_:∀ r∈rows,bY r.vs (bN lb r.c)
 all:∀ c∈lb,c∈rows.map (·.c)
 sub:∀ c∈rows.map (·.c),c∈lb
theorem cV{rows:List aW}{c:zH}{v:Value}(h:AS (rows.map aW.kv) c=some v):Ex2 λ(j:Nat) (r:aW)=>An3 (rows[j]? = some r) (r.c=c) (v=.ref r.a):=by
 induction rows with
 | nil=>simp[AS] at h
 | cons r rows ih =>
  rw[Ay] at h
  rw[show r.kv=(r.c,AG r.a) from rfl,bD] at h
  split at h
  ·rename_i e
   cases h
   exact⟨0,r,rfl,e,rfl⟩
  ·obtain⟨j,r',a,b,c⟩:=ih h
   exact⟨j+1,r',by rw[Fd];exact a,b,c⟩
theorem cX{rows:List aW}{c:zH}(h:AS (rows.map aW.kv) c=none):c∉rows.map (·.c):=by
 intro hm
 obtain⟨r,hr,rfl⟩:=za.mp hm
 have:(AS (rows.map aW.kv) r.c).isSome=true:=by
  rw[<- kG,KA]
  exact⟨r.kv,za.mpr ⟨r,hr,rfl⟩,by simp[aW.kv]⟩
 rw[h] at this;cases this
theorem cJ.old{lb:List zH}{rows:List aW}(R:cJ lb rows){j:Nat}{r:aW}(hj:rows[j]? = some r){t:AN}{n:Nat}:cJ (lb++[r.c]) (rows.set j ⟨r.c,r.a,r.vs++[.int lb.length t],n⟩):=by
 have hm:=zm hj
 have hk:(rows.set j ⟨r.c,r.a,r.vs++[.int lb.length t],n⟩).map (·.c)=rows.map (·.c):=by
  rw[J6]
  apply Ct
  intro i
  rw[Do]
  by_cases e:j=i
  ·subst e
   rw[zB,hj]
   simp[(zU.mp hj).1]
  ·rw[if_neg e]
 refine⟨hk▸R.nd,λr' hr'=>?_,λc hc=>?_,λc hc=>?_⟩
 ·obtain⟨i,hi⟩:=List.mem_iff_getElem?.mp hr'
  rw[Do] at hi
  rw[iM]
  by_cases e:j=i
  ·subst e
   rw[if_pos rfl] at hi
   split at hi
   ·cases hi
    rw[if_pos rfl]
    exact (R.at_ r hm).snoc _ _
   ·cases hi
  ·rw[if_neg e] at hi
   have hne:r.c≠r'.c:=by
    intro q
    have h1:(rows.map (·.c))[j]? = some r.c:=by rw[zB,hj];rfl
    have h2:(rows.map (·.c))[i]? = some r.c:=by rw[zB,hi,q];rfl
    exact e ((J0 (zU.mp h1).1 R.nd).mp (h1.trans h2.symm))
   rw[if_neg hne,Al]
   exact R.at_ r' (zm hi)
 ·rw[hk]
  rcases zc.mp hc with q|q
  ·exact R.all c q
  ·rw[y6.mp q];exact za.mpr ⟨r,hm,rfl⟩
 ·rw[hk] at hc
  exact y5 _ (R.sub c hc)
theorem cJ.new{lb:List zH}{rows:List aW}(R:cJ lb rows){c:zH}(hc:c∉rows.map (·.c)){a:ze}{t:AN}{n:Nat}:cJ (lb++[c]) (rows++[⟨c,a,[.int lb.length t],n⟩]):=by
 have hlb:c∉lb:=λq=>hc (R.all c q)
 refine⟨?_,λr' hr'=>?_,λd hd=>?_,λd hd=>?_⟩
 ·rw[zD,CS]
  refine⟨R.nd,by simp,λd hd e he q=>hc ?_⟩
  simp at he
  rw[<- he,<- q];exact hd
 ·rw[iM]
  rcases zc.mp hr' with q|q
  ·have:c≠r'.c:=λe=>hc (e▸za.mpr ⟨r',q,rfl⟩)
   rw[if_neg this,Al]
   exact R.at_ r' q
  ·rw[y6.mp q]
   rw[if_pos rfl,eO.mpr hlb]
   exact .cons .nil
 ·rw[zD]
  rcases zc.mp hd with q|q
  ·exact y5 _ (R.all d q)
  ·exact yZ _ (by simpa using q)
 ·rw[zD] at hd
  rcases zc.mp hd with q|q
  ·exact y5 _ (R.sub d q)
  ·exact yZ _ (by simpa using q)
theorem cJ.nil:cJ [] []:=⟨C5,nofun,nofun,nofun⟩
theorem ix{rows:List aW}{c:zH}{a:ze}(h:AS (rows.map aW.kv) c=none):Ht (rows.map aW.kv) c (.ref a)=(rows++[(⟨c,a,[],0⟩:aW)]).map aW.kv:=by
 unfold Ht
 rw[kG,h]
 simp[aW.kv]
theorem j9{α:Type}[DecidableEq α]:∀ {l m:List α},l.Nodup->(∀ x∈l,x∈m)->l.length<=m.length:=by
 intro l
 induction l with
 | nil =>
  intro m Z Z
  exact zA _
 | cons a l IH =>
  intro m nd h
  have n:=zr.mp nd
  have ha:=h a (.head _)
  have ih:=IH n.2 (λx hx=>(List.mem_erase_of_ne (λe:x=a=>n.1 (e▸hx))).mpr (h x (aj hx)))
  have:=List.length_erase_of_mem ha
  have hp:0<m.length:=H5 ha
  rw[zI];exact zbj ih this hp
theorem cJ.small{lb:List zH}{rows:List aW}(R:cJ lb rows):rows.length<=lb.length:=by
 have:=j9 R.nd R.sub
 rwa [zb] at this
theorem gJ(lb:List zH)(c:zH):(bN lb c).length<=lb.length:=by
 have:=BJ (λi=>decide (lb[i]? = some c)) (zM lb.length)
 rwa [B6] at this
section
variable{rows:List aW}{r r':aW}{X:LO}
theorem yz(hj:rows[j]? = some r):(rows.map aW.ob++X)[j]? = some r.ob:=by
 have hl:=(zU.mp hj).1
 rw[Dd (by rw[zb];exact hl),zB,hj];rfl
theorem xz(hj:rows[j]? = some r):(rows.map aW.ob++X).set j r'.ob=(rows.set j r').map aW.ob++X:=by
 have hl:=(zU.mp hj).1
 rw[List.set_append_left _ _ (by rw[zb];exact hl),J6]
theorem xA(hj:rows[j]? = some r)(hc:r'.c=r.c)(ha:r'.a=r.a):(rows.set j r').map aW.kv=rows.map aW.kv:=by
 rw[J6]
 apply Ct
 intro i
 rw[Do]
 by_cases e:j=i
 ·subst e
  rw[zB,hj]
  simp[(zU.mp hj).1,aW.kv,hc,ha]
 ·rw[if_neg e]
end
section
open PySem.Spec
section
variable{a b c d e f g i j k:α}{l:List α}
theorem m0:a∈a::l:=.head _
theorem m1:a∈b::a::l:=aj (.head _)
theorem m2:a∈b::c::a::l:=aj m1
theorem m3:a∈b::c::d::a::l:=aj m2
theorem m4:a∈b::c::d::e::a::l:=aj m3
theorem m5:a∈b::c::d::e::f::a::l:=aj m4
theorem m6:a∈b::c::d::e::f::g::a::l:=aj m5
theorem m7:a∈b::c::d::e::f::g::i::a::l:=aj m6
theorem m8:a∈b::c::d::e::f::g::i::j::a::l:=aj m7
theorem m9:a∈b::c::d::e::f::g::i::j::k::a::l:=aj m8
end
section
variable{F:Ho}{tabs:List ze}{a:ze}{l:LV}{T:LO}{pos:Ef}{o:AO}{K:Type} [DecidableEq K] {knd:JC prog w K}{kvs:List (K×Value)}{k:K}{v:Value}{vs:List Value}{n:Nat}
theorem j0 {pl:Lz Bool}{name:zH}{id:String}{Q:Value×List Value->y9->Prop} (S:St hb tabs L l T s.heap) (hm:(d,o)∈T) (hd:o.IsDictOf knd kvs) (slot:Ny "dict" name id) (ty:C6 (.builtin id)=Au (.type "method_descriptor"))
  (h:Q (.builtin id,[.ref d]) s):y4 (y0 prog w) A (HG (.ref d) name pl) Q E s:=by
 obtain⟨es,ep,hx,hdd,-⟩:=hd
 exact J7 ⟨_,S.obj _ hm,hx.1⟩ PySem.F.plainAttrs_dict slot ty (λa e=>by cases e;exact⟨_,S.obj _ hm,hx.2.1⟩) h
theorem cM {pl:Lz Bool}{name:zH}{id:String}{Q:Value×List Value->y9->Prop} (S:St hb tabs L l T s.heap) (hm:(d,ap vs n)∈T) (slot:Ny "list" name id) (ty:C6 (.builtin id)=Au (.type "method_descriptor"))
  (h:Q (.builtin id,[.ref d]) s):y4 (y0 prog w) A (HG (.ref d) name pl) Q E s :=
 J7 ⟨_,S.obj _ hm,rfl⟩ PySem.F.plainAttrs_list slot ty (λa e=>by cases e;exact⟨_,S.obj _ hm,rfl⟩) h
theorem jt:Bi (yW "enumerate")=some (.type "enumerate"):=by kernel_rfl
theorem nL:Bi (yW "set")=some (.type "set"):=by kernel_rfl
end
section
variable{pos:Ef}
theorem aY{n:zH}{es:List Expr}{y:Value}{ys:List Value}{Q:UP}(h:y4 (y0 prog w) A (E9 env n y) (kOrd (y0 prog w) A E ((BN es env).map (·.2)) ys Q) E s)
  (he:(BN (.Name n pos::es) env).map (·.2)=BL (.Name n pos) env::(BN es env).map (·.2):=by rfl) :
  y4 (y0 prog w) A (Ca ((BN (.Name n pos::es) env).map (·.2)) (y::ys)) Q E s:=by
 exact JK (assign_Name h)
theorem cE{Q:UP}(h:Q () s):y4 (y0 prog w) A (Ca ((BN [] env).map (·.2)) []) Q E s:=J3 h
end
section
variable{pos:Ef}{x:Expr}{rest:List Expr}{whole:Lz Value}{Q:BP}
theorem cD(h:y4 M A (isTrue x env (Aq x env)) (kAnd M A env E rest pos whole Q) E s):y4 M A (isTrue (.BoolOp .And (x::rest) pos) env whole) Q E s :=
 Mg (zf h (λc s' z=>by cases c;exact z.2 rfl;exact z.1 rfl) λZ Z z=>z)
end
section
variable{pos:Ef}{o i:Expr}{Q:FP}
theorem k7(P:y9->Prop)(h:y4 (y0 prog w) A (isTrue test env (Aq test env)) (λb ag =>
   (b=true->y4 (y0 prog w) A (zY body env) (λf s'=>f=.next/\P s') E ag) /\
   (b=false->y4 (y0 prog w) A (zY orelse env) (λf s'=>f=.next/\P s') E ag)) E s)
  (k:∀ s',P s'->y4 (y0 prog w) A (zY rest env) Q E s'):y4 (y0 prog w) A (zY (.If test body orelse pos::rest) env) Q E s :=
 lQ (zf h (λb ag z=>⟨λhb=>zf (z.1 hb) (λf s' q=>by obtain⟨rfl,q⟩:=q;exact k _ q) λZ Z z=>z,λhb=>zf (z.2 hb) (λf s' q=>by obtain⟨rfl,q⟩:=q;exact k _ q) λZ Z z=>z⟩) λZ Z z=>z)
theorem k6(h:y4 (y0 prog w) A (Aq value env) (λv s₁=>y4 (y0 prog w) A (Aq o env) (λov ag=>y4 (y0 prog w) A (Aq i env) (λiv s3 =>
   y4 (y0 prog w) A (setItem ov iv v) (λZ s4=>y4 (y0 prog w) A (zY rest env) Q E s4) E s3) E ag) E s₁) E s)
  (hs:FK value (some (.Subscript o i p')) pos.line env=Au false:=by rfl):y4 (y0 prog w) A (zY (.Assign [.Subscript o i p'] value pos::rest) env) Q E s :=
 zZ (wpAny_Assign_Subscript h hs)
end
section
variable{F:Ho}{tabs:List ze}{l:LV}{T:LO}{o:AO}{K:Type} [DecidableEq K] {knd:JC prog w K}{kvs:List (K×Value)}{k:K}{v:Value}{slice:Expr}
theorem xR(S:St hb tabs L l T s.heap)(hm:(d,o)∈T)(hd:o.IsDictOf knd kvs)(hkey:knd.is k key=true)(hv:AS kvs k=some v)(h:Q v (wt s (s.toks+1)))
  (hs:Hc slice false (.ref d) key=J5 [.ref d,key] (Dc (.ref d) key):=by with_unfolding_all rfl):y4 (y0 prog w) A (JD value slice (.ref d) key) Q E s:=by
 have hD:=i7 S hm hd
 exact Nm hD.typeIs PySem.F.slot_dict_getitem.lookup (pU S hm hd hkey hv h) hs
end
section
variable{F:Ho}{tabs:List ze}{l:LV}{T:LO}{vs:List Value}{n:Nat}{pos:Ef}
theorem vN(S:St hb tabs L l T s.heap)(hm:(d,ap vs n)∈T)
  (h:∀ I o Wt fp h',ItV prog w hb tabs [(d,ap vs n)] I vs.length (λi v=>vs[i]? = some v) Wt fp->Wt 0 h'->St hb tabs L l (T++[(I,o)]) h'->Q (.ref I) (wh s h')):y4 (y0 prog w) A (EI (.ref d)) Q E s:=by
 have hl:s.heap.IsList d vs.toArray:=⟨_,S.obj _ hm,rfl,n,rfl⟩
 have hne:d≠s.heap.objs.size:=Ab (S.lt hm)
 refine B7 hl (h _ _ (λi h=>h.IsListIter s.heap.objs.size d i/\h.IsList d vs.toArray) [s.heap.objs.size,d] _ ⟨λA hA=>?_,?_,?_⟩ ⟨⟨_,zQ _ rfl,rfl,rfl⟩,⟨_,zz _ (S.obj _ hm),rfl,n,rfl⟩⟩ (S.push _).last)
 case refine_1 =>
  have W:=Mh (prog:=prog) (w:=w) hA s.heap.objs.size d hne vs.toArray
  exact bM W λi v e=>by simpa using e
 case refine_2 =>
  rintro i h ⟨⟨o,e,_⟩,_⟩
  exact⟨o,e⟩
 case refine_3 =>
  intro b hb' hn
  rcases y7.mp hb' with rfl|hb'
  ·exact absurd (.head _) hn
  ·rw[y6] at hb'
   subst hb'
   exact .inl ⟨_,.head _⟩
theorem pR(S:St hb tabs L l T s.heap)(hm:(d,aG vs)∈T)
  (h:∀ I o Wt fp h',ItV prog w hb tabs [(d,aG vs)] I vs.length (λi v=>vs[i]? = some v) Wt fp->Wt 0 h'->St hb tabs L l (T++[(I,o)]) h'->Q (.ref I) (wh s h')):y4 (y0 prog w) A (EI (.ref d)) Q E s:=by
 have hl:s.heap.IsTuple d vs.toArray:=⟨_,S.obj _ hm,rfl,_,rfl⟩
 have hne:d≠s.heap.objs.size:=Ab (S.lt hm)
 refine GB hl (h _ _ (λi h=>h.IsTupleIter s.heap.objs.size d i/\h.IsTuple d vs.toArray) [s.heap.objs.size,d] _ ⟨λA hA=>?_,?_,?_⟩ ⟨⟨_,zQ _ rfl,rfl,rfl⟩,⟨_,zz _ (S.obj _ hm),rfl,_,rfl⟩⟩ (S.push _).last)
 case refine_1 =>
  have W:=Walks.tuple (prog:=prog) (w:=w) hA s.heap.objs.size d hne vs.toArray
  exact bM W λi v e=>by simpa using e
 case refine_2 =>
  rintro i h ⟨⟨o,e,_⟩,_⟩
  exact⟨o,e⟩
 case refine_3 =>
  intro b hb' hn
  rcases y7.mp hb' with rfl|hb'
  ·exact absurd (.head _) hn
  ·rw[y6] at hb'
   subst hb'
   exact .inl ⟨_,.head _⟩
noncomputable abbrev rngO (a b:Int) (t u v:AN):AO:={ cls:=.type "range", data:=.fields #[.int a t,.int b u,.int 1 v] }
theorem vL {a b:Int}{t u:AN} (S:St hb tabs L l T s.heap) (h:∀ r v h' tk,St hb tabs L l ((r,rngO a b t u v)::T) h'->Q (.ref r) (wht s h' tk)):y4 (y0 prog w) A (call (.type "range") [.int a t,.int b u]) Q E s :=
 call_range_2 (h _ _ _ _ (S.push _))
theorem jX{a b:Int}{t u v:AN}(S:St hb tabs L l T s.heap)(hm:(d,rngO a b t u v)∈T)(ha : -1000<=a)(ha':a<=1000)(hb1 : -1000<=b)(hb':b<=1000)
  (h:∀ I o Wt fp h',ItV prog w hb tabs [] I (b - a).toNat (λi v=>∃ t,v=.int (a+i) t) Wt fp->Wt 0 h'->St hb tabs L l (T++[(I,o)]) h'->Q (.ref I) (wh s h')):y4 (y0 prog w) A (EI (.ref d)) Q E s:=by
 have e:Ae a b 1=((b - a).toNat:Int):=by rw[rangeSize_one];split;exact x15 ‹_›;exact x19 ‹_›
 refine GC (S.obj _ hm) (small_one (DG (by decide) ha) (GD ha' (by decide)) (DG (by decide) hb1) (GD hb' (by decide))) (h _ _ (λi h=>IsRangeIter h s.heap.objs.size (a+(i:Nat) * 1) (((b - a).toNat:Int) - (i:Nat)) 1) [s.heap.objs.size] _ ⟨λA hA=>?_,?_,?_⟩ ?_ (S.push _).last)
 case refine_1 =>
  exact bM (Nn (prog:=prog) (w:=w) hA s.heap.objs.size a 1 (b - a).toNat) λi v q=>by
   obtain⟨t,q⟩:=q
   exact⟨t,by rw[q,G6]⟩
 case refine_2=>exact λi h q=>⟨_,q⟩
 case refine_3 =>
  exact λb hb' hn=>absurd hb' hn
 case refine_4 =>
  rw[e]
  simp
  exact zQ _ rfl
theorem yT{o i:Expr}{v:Value}{Q:UP}(h:y4 (y0 prog w) A (Aq o env) (yo (y0 prog w) A env E i v Q) E s) :
  y4 (y0 prog w) A (BL (.Subscript o i pos) env v) Q E s:=by
 rw[assign_Subscript]
 refine yX (zp (zf h (λov s₁ z=>yX (zp (zf z (λiv ag z=>yX (CO (yX (zp (zf z (λZ s3 z=>λΓ p hΓ=>by rw[Mb];exact z) λZ Z z=>z))))) λZ Z z=>z))) λZ Z z=>z))
theorem cL:Bi (yW "range")=some (.type "range"):=by kernel_rfl
end
section
variable{pos:Ef}{Q:FP}{tabs:List ze}{l:LV}{T:LO}
theorem qa(P:y9->Prop)(I:Nat->y9->Prop)(n:Nat)(h0:I n s)
  (turn:∀ E' n s,I n s->y4 (y0 prog w) A (isTrue test env (Aq test env)) (λb ag =>
   (b=true->y4 (y0 prog w) A (zY body env) (λf s3=>match f with
    | .next|.cont=>∃ m,m<n/\I m s3
    | .brk=>P s3
    | .ret v=>Q (.ret v) s3) E' ag)/\(b=false->P ag)) E' s)
  (k:∀ s',P s'->y4 (y0 prog w) A (zY rest env) Q E s'):y4 (y0 prog w) A (zY (.While test body [] pos::rest) env) Q E s:=by
 refine zZ (wpAny_While (Gn (R:=λr s'=>match r with
   | .ok .next=>P s'
   | .ok .cont=>False
   | .ok .brk=>False
   | .ok (.ret v)=>Q (.ret v) s'
   | .error e=>False) (codeAny_whileLoop I (λn s hI=>?_) n h0) λr s' z=>?_))
 ·refine zf (turn _ n s hI) (λb ag z=>?_) λZ Z z=>z
  cases b with
  | true =>
   refine zf (z.1 rfl) (λf s3 z=>?_) λZ Z z=>z
   cases f<;> exact z
  | false=>exact CV (z.2 rfl)
 ·rcases r with e|(v|_|_|_)<;> first|exact z.elim|exact z|exact k _ z
theorem eE(P:y9->Prop)(h:∀ E',y4 (y0 prog w) A (isTrue test env (Aq test env)) (λb ag=>b=false/\P ag) E' s)
  (k:∀ s',P s'->y4 (y0 prog w) A (zY rest env) Q E s'):y4 (y0 prog w) A (zY (.While test body [] pos::rest) env) Q E s :=
 qa P (λZ s'=>s'=s) 0 rfl (λE' n s' e=>by
  subst e
  exact zf (h E') (λb ag z=>⟨λhb=>(by rw[z.1] at hb;nomatch hb),λZ=>z.2⟩) λZ Z z=>z) k
theorem cI{elts:List Expr}{x1:Nat}{tpos:Ef}{vs:List Value}{Q:UP}(hh:A.handled=none)(S:St hb tabs L l T s.heap)(hm:(d,aG vs)∈T)
  (h:∀ h',St hb tabs L l T h'->y4 (y0 prog w) A (Ca ((BN elts env).map (·.2)) vs) Q E (wh s h'))
  (hsz:(BN elts env).length=vs.length:=by rfl) (hstar:(BN elts env).findIdx? (·.1)=none:=by kernel_rfl) :
  y4 (y0 prog w) A (BL (.Tuple elts x1 tpos) env (.ref d)) Q E s :=
 JL hh (items:=vs.toArray) ⟨_,S.obj _ hm,rfl,_,rfl⟩ (by rw[zd];exact hsz) hstar λh' he=>h h' (S.extBut he)
end
section
variable{tabs:List ze}{l:LV}{T:LO}{t:Lz α}{Q:α->y9->Prop}
theorem restate(S:St hb tabs L l T s.heap)(h:∀ s',Kp s s'->St hb tabs L l T s'.heap->y4 M A t Q E s'):y4 M A t Q E s:=h s Kp.refl S
theorem eV:BH (.type "set") "__contains__" = Au (some (.builtin "set.__contains__")):=by rw[Bf,z9];kernel_rfl
theorem gF:C6 (.builtin "set.__contains__")=Au (.type "method_descriptor"):=by show Li _=_;rw[Gg];kernel_rfl
theorem i6:BH (.type "dict") "get" = Au (some (.builtin "dict.get")):=by rw[Bf,z9];kernel_rfl
theorem kz:C6 (.builtin "dict.get")=Au (.type "method_descriptor"):=by show Li _=_;rw[Gg];kernel_rfl
end
end
def KOk{α:Type}(D:Nat->Nat->Prop)(Ans:Nat->Nat->Bool->Prop)(P:α->Prop):KasT α->Prop
 | .ret a=>P a
 | .ask i j k=>D i j/\∀ b,Ans i j b->KOk D Ans P (k b)
theorem KOk.bind{α β:Type}{D:Nat->Nat->Prop}{Ans:Nat->Nat->Bool->Prop}{P:α->Prop}{P':β->Prop}{f:α->KasT β}:∀ {t:KasT α},KOk D Ans P t->(∀ a,P a->KOk D Ans P' (f a))->KOk D Ans P' (t.bind f)
 | .ret a,h,hf=>hf a h
 | .ask i j k,h,hf=>⟨h.1,λb hb=>KOk.bind (h.2 b hb) hf⟩
theorem KOk.mono{α:Type}{D:Nat->Nat->Prop}{Ans:Nat->Nat->Bool->Prop}{P P':α->Prop}(hp:∀ a,P a->P' a):∀ {t:KasT α},KOk D Ans P t->KOk D Ans P' t
 | .ret a,h=>hp a h
 | .ask i j k,h=>⟨h.1,λb hb=>KOk.mono hp (h.2 b hb)⟩
theorem KOk.wp{α:Type}{D:Nat->Nat->Prop}{Ans:Nat->Nat->Bool->Prop}{P:α->Prop}{cmp:Nat->Nat->(Bool->y9->Prop)->y9->Prop}{Inv:y9->Prop}
  (hc:∀ i j (C:BP) s,Inv s->D i j->(∀ b s',Inv s'->Ans i j b->C b s')->cmp i j C s) {Q:α->y9->Prop} (hQ:∀ a s,Inv s->P a->Q a s) :
  ∀ {t:KasT α}{s:y9},KOk D Ans P t->Inv s->t.kasWp cmp Q s
 | .ret a,s,h,hs=>hQ a s hs h
 | .ask i j k,s,h,hs=>hc i j _ s hs h.1 λb s' hs' hb=>KOk.wp hc hQ (h.2 b hb) hs'
section
variable{n:Nat}{H:Prop}{rk:Nat->Nat}
noncomputable def Rk(rk:Nat->Nat)(p:Array Nat)(i:Nat):Nat:=rk (p.getD i 0)
def aS(rk:Nat->Nat)(p:Array Nat)(m:Nat):Prop:=∀ i j,i<=j->j<m->Rk rk p i<=Rk rk p j
def Pm(n:Nat)(p:Array Nat):Prop:=p.Perm (zM n).toArray
abbrev un(n:Nat)(i j:Nat):Prop:=i<n/\j<n
abbrev ur(H:Prop)(rk:Nat->Nat)(i j:Nat)(b:Bool):Prop:=H->b=decide (rk i<rk j)
theorem Pm.size{p:Array Nat}(h:Pm n p):p.size=n:=by rw[Array.Perm.size_eq h];simp
theorem Pm.lt{p:Array Nat}(h:Pm n p)(hn:0<n)(i:Nat):p.getD i 0<n:=by
 by_cases hi:i<p.size
 ·have e:p.getD i 0=p[i]:=by simp[GF,hi]
  rw[e]
  have hm:p[i]∈p.toList:=by simp
  have:=(C7.mp h).mem_iff.mp hm
  simpa using this
 ·have e:p.getD i 0=0:=by simp[GF,hi]
  rw[e];exact hn
theorem fX{p q:Array Nat}{i j:Nat}(h:p[i]? = q[j]?):Rk rk p i=Rk rk q j:=by
 unfold Rk
 rw[zG,zG,h]
theorem mM{p:Array Nat}{i j:Nat}(hj:j<=p.size)(k:Nat):Rk rk (Jm p i j) k=if i<=k/\k<j then Rk rk p (i+j - 1 - k) else Rk rk p k:=by
 have e:=getElem?_mirror_all (i:=i) hj k
 by_cases h:i<=k/\k<j
 ·rw[if_pos h] at e ⊢;exact fX e
 ·rw[if_neg h] at e ⊢;exact fX e
theorem pm_rev{p:Array Nat}(h:Pm n p)(i j:Nat):Pm n (Jm p i j):=(mirror_perm p i j _).trans h
theorem uW(hn:0<n){p:Array Nat}(hp:Pm n p):∀ (f m:Nat),(H->aS rk p m)->0<m ->
  KOk (un n) (ur H rk) (λr=>m<=r/\r<=m+f/\(H->aS rk p r)/\(H->r<m+f->Rk rk p r<Rk rk p (r - 1))) (kas_asc p f m):=by
 intro f
 induction f with
 | zero =>
  intro m hs hm
  exact⟨zh _,zh _,hs,λZ h=>absurd h (Aj _)⟩
 | succ f IH =>
  intro m hs hm
  refine⟨⟨hp.lt hn _,hp.lt hn _⟩,λb hb=>?_⟩
  cases b with
  | true =>
   refine⟨zh _,Ck _ _,hs,λh Z=>?_⟩
   exact of_decide_eq_true (hb h).symm
  | false =>
   have hs':H->aS rk p (m+1):=λh i j hij hj=>by
    have hlt:¬ Rk rk p m<Rk rk p (m - 1):=of_decide_eq_false (hb h).symm
    rcases AM j m with q|q
    ·exact hs h i j hij q
    ·have:j=m:=zf1 hj q
     subst this
     rcases AM i j with q2|q2
     ·have:=hs h i (j - 1) (zcp q2) (zfl hm)
      exact zft hlt this
     ·have:i=j:=zf8 hij q2
      subst this;exact zh _
   have ih:=IH (m+1) hs' z64
   have:m+1+f=m+(f+1):=zf2
   rw[this] at ih
   refine KOk.mono (λr hr=>⟨by exact zg3 hr.1,hr.2.1,hr.2.2.1,hr.2.2.2⟩) ih
def lD(rk:Nat->Nat)(p:Array Nat)(m:Nat):Prop:=∀ i j,i<=j->j<m->Rk rk p j<=Rk rk p i
def um(rk:Nat->Nat)(p:Array Nat)(m q:Nat):Prop:=∀ x,m - (q+1)<=x->x<m->Rk rk p x=Rk rk p (m - 1)
theorem iD{p:Array Nat}{m q:Nat}(hm:m<=p.size)(he:um rk p m q)(x:Nat):Rk rk (Jm p (m - (q+1)) m) x=Rk rk p x:=by
 rw[mM hm]
 split
 ·rename_i h
  rw[he _ (by exact zey h.2) (by exact zf3 h.1 h.2),he x h.1 h.2]
 ·rfl
theorem wX(hn:0<n):∀ (f:Nat) (p:Array Nat) (m q:Nat),Pm n p->0<m->q<m->m+f<=n->(H->lD rk p m/\um rk p m q) ->
  KOk (un n) (ur H rk) (λr=>Pm n r.1/\m<=r.2.1/\r.2.1<=m+f/\r.2.2<r.2.1/\(H->lD rk r.1 r.2.1/\um rk r.1 r.2.1 r.2.2)) (J8 f p m q):=by
 intro f
 induction f with
 | zero =>
  intro p m q hp hm hq hf hs
  exact⟨hp,zh _,zh _,hq,hs⟩
 | succ f IH =>
  intro p m q hp hm hq hf hs
  have hsz:=hp.size
  refine⟨⟨hp.lt hn _,hp.lt hn _⟩,λb hb=>?_⟩
  have ef:m+1+f=m+(f+1):=zf2
  cases b with
  | true =>
   have next:∀ p',Pm n p'->(H->∀ x,Rk rk p' x=Rk rk p x)->KOk (un n) (ur H rk) (λr=>Pm n r.1/\m<=r.2.1/\r.2.1<=m+(f+1)/\r.2.2<r.2.1/\(H->lD rk r.1 r.2.1/\um rk r.1 r.2.1 r.2.2)) (J8 f p' (m+1) 0):=by
    intro p' hp' hr
    have ih:=IH p' (m+1) 0 hp' z64 z64 (zbe hf) (λh=>by
     have hlt:Rk rk p m<Rk rk p (m - 1):=of_decide_eq_true (hb h).symm
     have hr:=hr h
     refine⟨λi j hij hj=>?_,λx h1 h2=>by congr 1;exact zfg h1 h2⟩
     rw[hr,hr]
     rcases AM j m with q1|q1
     ·exact (hs h).1 i j hij q1
     ·have:j=m:=zf1 hj q1
      subst this
      rcases AM i j with q2|q2
      ·have:=(hs h).1 i (j - 1) (zcp q2) (zfl hm)
       exact zg6 hlt this
      ·have:i=j:=zf8 hij q2
       subst this;exact zh _)
    rw[ef] at ih
    exact KOk.mono (λr hr=>⟨hr.1,by exact zg3 hr.2.1,hr.2.2⟩) ih
   show KOk _ _ _ (if q > 0 then J8 f (Jm p (m - (q+1)) m) (m+1) 0 else J8 f p (m+1) 0)
   split
   ·exact next _ (pm_rev hp _ _) λh x=>iD (zga hf hsz) (hs h).2 x
   ·exact next _ hp λZ Z=>rfl
  | false =>
   show KOk _ _ _ (No (p.getD (m - 1) 0) (p.getD m 0) λd=>if d=true then .ret (p,m,q) else J8 f p (m+1) (q+1))
   refine⟨⟨hp.lt hn _,hp.lt hn _⟩,λd hd=>?_⟩
   cases d with
   | true=>exact⟨hp,zh _,Ck _ _,hq,hs⟩
   | false =>
    have ih:=IH p (m+1) (q+1) hp z64 (z8j hq) (zbe hf) (λh=>by
     have h1:¬ Rk rk p m<Rk rk p (m - 1):=of_decide_eq_false (hb h).symm
     have h2:¬ Rk rk p (m - 1)<Rk rk p m:=of_decide_eq_false (hd h).symm
     refine⟨λi j hij hj=>?_,λx h3 h4=>?_⟩
     ·rcases AM j m with q1|q1
      ·exact (hs h).1 i j hij q1
      ·have:j=m:=zf1 hj q1
       subst this
       rcases AM i j with q2|q2
       ·have:=(hs h).1 i (j - 1) (zcp q2) (zfl hm)
        exact zgh h2 this
       ·have:i=j:=zf8 hij q2
        subst this;exact zh _
     ·rw[GG]
      rcases AM x m with q1|q1
      ·have:=(hs h).2 x (zgk h3) q1
       exact zgn h1 h2 this
      ·have:x=m:=zf1 h4 q1
       subst this;rfl)
    rw[ef] at ih
    exact KOk.mono (λr hr=>⟨hr.1,by exact zg3 hr.2.1,hr.2.2⟩) ih
def CntP(n:Nat)(H:Prop)(rk:Nat->Nat)(r:Nat×Array Nat):Prop:=Pm n r.2/\0<r.1/\r.1<=n/\(H->aS rk r.2 r.1)
theorem mH(hn:0<n){m:Nat}{p:Array Nat}(hp:Pm n p)(hm:0<m)(hmn:m<=n)(hd:H->lD rk p m):KOk (un n) (ur H rk) (CntP n H rk) (MS m n p):=by
 have hsz:=hp.size
 refine KOk.bind (uW hn (pm_rev hp 0 m) (n - m) m (λh i j hij hj=>?_) hm) λr hr=>⟨pm_rev hp 0 m,by show 0<r;exact zez hm hr.1,by show r<=n;exact zf6 hmn hr.2.1,hr.2.2.1⟩
 rw[mM (by exact zfb hmn hsz),mM (by exact zfb hmn hsz),if_pos ⟨by exact zfh,by exact zfj hij hj⟩,if_pos ⟨by exact zfh,hj⟩]
 exact hd h _ _ (zfq hij) (zfr hj)
theorem i8(hn:0<n){m:Nat}{p:Array Nat}(hp:Pm n p)(hm:0<m)(hmn:m<n)(hd:H->lD rk p (m+1)):KOk (un n) (ur H rk) (CntP n H rk) (J9 m n p):=by
 refine KOk.bind (wX hn (n - (m+1)) p (m+1) 0 hp z64 z64 (zfa hmn) (λh=>⟨hd h,λx h1 h2=>by congr 1;exact zfg h1 h2⟩)) λr hr=>?_
 obtain⟨h1,h2,h3,h4,h5⟩:=hr
 have hsz:=h1.size
 show KOk _ _ _ (if r.2.2 > 0 then MS r.2.1 n (Jm r.1 (r.2.1 - (r.2.2+1)) r.2.1) else MS r.2.1 n r.1)
 split
 ·refine mH hn (pm_rev h1 _ _) (zfn h2) (zfv hmn h3) λh i j hij hj=>?_
  rw[iD (by exact zg0 hmn h3 hsz) (h5 h).2,iD (by exact zg0 hmn h3 hsz) (h5 h).2]
  exact (h5 h).1 i j hij hj
 ·exact mH hn h1 (zfn h2) (zfv hmn h3) λh=>(h5 h).1
theorem tR(hn:0<n){p:Array Nat}(hp:Pm n p):KOk (un n) (ur H rk) (CntP n H rk) (kas_count n p):=by
 have hsz:=hp.size
 refine KOk.bind (uW hn hp (n - 1) 1 (λh i j hij hj=>(by exact zf0 hij hj:i=j)▸zh _) (by exact zam)) λm hm=>?_
 obtain⟨h1,h2,h3,h4⟩:=hm
 show KOk _ _ _ (if (m==n)=true then .ret (m,p) else if m > 1 then No (p.getD 0 0) (p.getD (m - 1) 0) λc=>if c=true then .ret (m,p) else J9 m n (Jm p 0 m) else J9 m n p)
 split
 ·exact⟨hp,by show 0<m;exact Ap ‹(m==n)=true›▸hn,Gl (Ap ‹(m==n)=true›),h3⟩
 ·rename_i hne
  have hne:m≠n:=λe=>hne (by rw[e];simp)
  split
  ·refine⟨⟨hp.lt hn _,hp.lt hn _⟩,λb hb=>?_⟩
   cases b with
   | true=>exact⟨hp,by show 0<m;exact h1,by show m<=n;exact zfs hn h2,h3⟩
   | false =>
    refine i8 hn (pm_rev hp _ _) h1 (zfz hn h2 hne) λh i j hij hj=>?_
    have hlt:¬ Rk rk p 0<Rk rk p (m - 1):=of_decide_eq_false (hb h).symm
    have hs:=h3 h
    have hm4:=h4 h (zg8 hn h2 hne)
    have eq:∀ x,x<m->Rk rk p x=Rk rk p 0:=λx hx=>by
     have a:=hs 0 x zfh hx
     have b:=hs x (m - 1) (zcp hx) (zgb h1)
     exact zge hlt a b
    have e1:=eq (m - 1) (zgb h1)
    have val:∀ x,x<=m->Rk rk (Jm p 0 m) x=if x<m then Rk rk p 0 else Rk rk p m:=λx hx=>by
     rw[mM (by exact zgg hn hsz h2)]
     by_cases q:x<m
     ·rw[if_pos ⟨zA _,q⟩,if_pos q,eq (0+m - 1 - x) (zgj q)]
     ·rw[if_neg (λz=>q z.2),if_neg q]
      have:x=m:=z8u hx q
      rw[this]
    rw[val j (zg7 hj),val i (zgo hij hj)]
    by_cases q:i<m
    ·rw[if_pos q]
     split
     ·exact zh _
     ·exact zgq hm4 e1
    ·rw[if_neg q,if_neg (by exact zgs hij q)]
     exact zh _
  ·have hm1:m=1:=F5 (Ey ‹¬m > 1›) h1
   subst hm1
   refine i8 hn hp Nat.one_pos (zgv hn hne) λh i j hij hj=>?_
   have hm4:=h4 h (zgw hn hne)
   rcases AM i j with q|q
   ·have:i=0:=zgx hj q
    have:j=1:=zgy hj q
    subst i j
    exact Af hm4
   ·have:i=j:=zf8 hij q
    subst this;exact zh _
theorem sy(hn:0<n){p:Array Nat}(hp:Pm n p){k:Nat}:∀ (f l r:Nat),l<=r->r<=k->r - l<=f->(H->aS rk p k/\(∀ x,x<l->Rk rk p x<=Rk rk p k)/\∀ x,r<=x->x<k->Rk rk p k<Rk rk p x) ->
  KOk (un n) (ur H rk) (λl=>l<=k/\(H->(∀ x,x<l->Rk rk p x<=Rk rk p k)/\∀ x,l<=x->x<k->Rk rk p k<Rk rk p x)) (MT p k f l r):=by
 intro f
 induction f with
 | zero =>
  intro l r hlr hrk hf hs
  have:l=r:=zf4 hlr hf
  subst this
  exact⟨hrk,λh=>(hs h).2⟩
 | succ f ih =>
  intro l r hlr hrk hf hs
  show KOk _ _ _ (if l≥r then .ret l else No (p.getD k 0) (p.getD ((l+r) / 2) 0) λc=>if c=true then MT p k f l ((l+r) / 2) else MT p k f ((l+r) / 2+1) r)
  split
  ·have:l=r:=F5 hlr ‹l≥r›
   subst this
   exact⟨hrk,λh=>(hs h).2⟩
  ·refine⟨⟨hp.lt hn _,hp.lt hn _⟩,λb hb=>?_⟩
   cases b with
   | true =>
    refine ih l ((l+r) / 2) (x06 ‹¬l≥r›) (Af (x05 hrk ‹¬l≥r›)) (zfu hf) λh=>⟨(hs h).1,(hs h).2.1,λx h1 h2=>?_⟩
    have hlt:Rk rk p k<Rk rk p ((l+r) / 2):=of_decide_eq_true (hb h).symm
    have:=(hs h).1 ((l+r) / 2) x h1 h2
    exact zfw hlt this
   | false =>
    refine ih ((l+r) / 2+1) r (x05 (zh r) ‹¬l≥r›) hrk (zfy hf) λh=>⟨(hs h).1,λx h1=>?_,(hs h).2.2⟩
    have hlt:¬ Rk rk p k<Rk rk p ((l+r) / 2):=of_decide_eq_false (hb h).symm
    have:=(hs h).1 x ((l+r) / 2) (zg1 h1) (x05 hrk ‹¬l≥r›)
    exact zft hlt this
theorem kW{p:Array Nat}{k d:Nat}(hk:k<p.size)(hd:d<=k)(x:Nat):Rk rk (bubble p k d) x=if x=k - d then Rk rk p k else if k - d<x/\x<=k then Rk rk p (x - 1) else Rk rk p x:=by
 have e:=getElem?_bubble hk d hd x
 by_cases h1:x=k - d
 ·rw[if_pos h1] at e ⊢;exact fX e
 ·rw[if_neg h1] at e ⊢
  by_cases h2:k - d<x/\x<=k
  ·rw[if_pos h2] at e ⊢;exact fX e
  ·rw[if_neg h2] at e ⊢;exact fX e
theorem yS(hn:0<n):∀ (f:Nat) (p:Array Nat) (k:Nat),Pm n p->k+f=n->(H->aS rk p k)->KOk (un n) (ur H rk) (λr=>Pm n r/\(H->aS rk r n)) (kas_bin f p k):=by
 intro f
 induction f with
 | zero =>
  intro p k hp hk hs
  have:k=n:=hk
  subst this
  exact⟨hp,hs⟩
 | succ f ih =>
  intro p k hp hk hs
  have hsz:=hp.size
  refine KOk.bind (sy hn hp k 0 k (zA _) (zh _) zf7 λh=>⟨hs h,λx hx=>absurd hx (Bo _),λx h1 h2=>absurd h2 (zf9 h1)⟩) λl hl=>?_
  obtain⟨h1,h2⟩:=hl
  refine ih _ (k+1) ((bubble_perm p k _).trans hp) (zfe hk) λh i j hij hj=>?_
  have hs:=hs h
  obtain⟨ha,hb⟩:=h2 h
  rw[kW (by exact zfk hk hsz) (by exact zfo),kW (by exact zfk hk hsz) (by exact zfo),show k - (k - l)=l by exact zg2 h1]
  by_cases i1:i=l
  ·rw[if_pos i1]
   by_cases j1:j=l
   ·rw[if_pos j1];exact zh _
   ·rw[if_neg j1,if_pos ⟨by exact zg4 hij i1 j1,by exact zg7 hj⟩]
    exact Af (hb _ (zg9 hij i1 j1) (zgc hij hj i1 j1))
  ·rw[if_neg i1]
   by_cases i2:l<i/\i<=k
   ·rw[if_pos i2,if_neg (by exact zgd hij i2.1),if_pos ⟨by exact zgf hij i2.1,by exact zg7 hj⟩]
    exact hs _ _ (zgi hij) (zgl hj i2.1 i2.2)
   ·rw[if_neg i2]
    by_cases j1:j=l
    ·rw[if_pos j1]
     exact ha i (zgm hij i1 j1)
    ·rw[if_neg j1]
     by_cases j2:l<j/\j<=k
     ·rw[if_pos j2]
      exact hs _ _ (zgp hij i2 j2.1 j2.2) (zgr j2.1 j2.2)
     ·rw[if_neg j2]
      exact hs _ _ hij (zgu h1 hj j1 j2)
theorem pa(hn:0<n):KOk (un n) (ur H rk) (λr=>Pm n r/\(H->aS rk r n)) (kas_sort n):=by
 refine KOk.bind (tR hn (Array.Perm.refl _)) λr hr=>?_
 obtain⟨h1,h2,h3,h4⟩:=hr
 show KOk _ _ _ (if r.1<n then kas_bin (n - max r.1 1) r.2 (max r.1 1) else .ret r.2)
 split
 ·have e:max r.1 1=r.1:=zfd h2
  rw[e]
  exact yS hn _ _ _ h1 (Nat.add_sub_of_le (Af ‹r.1<n›)) h4
 ·have e:r.1=n:=F5 h3 (Ey ‹¬r.1<n›)
  exact⟨h1,λh=>e▸h4 h⟩
end
section
open PySem.Spec
section
variable{tabs:List ze}{l:LV}{T pre post:LO}{vs:List Value}{v:Value}{n:Nat}
theorem mO{Q:BP}(S:St hb tabs L l T s.heap)(hm:(d,ap vs n)∈T)(hz:vs.length<=1000)(h:∀ tk,Q (!vs.isEmpty) (wt s tk)):y4 (y0 prog w) A (truthy (.ref d)) Q E s :=
 wpAny_truthy_list (items:=vs.toArray) ⟨_,S.obj _ hm,rfl,n,rfl⟩ (by rw[zd];lia) (by rw[List.isEmpty_toArray];exact h _)
theorem r_pop{Q:VP}(i:Nat)(S:St hb tabs L l T s.heap)(hi:T[i]? = some (d,ap (vs++[v]) n))(hz:vs.length<=1000)(h:∀ h' n',St hb tabs L l (T.set i (d,ap vs n')) h'->Q v (wh s h')) :
  y4 (y0 prog w) A (call (.builtin "list.pop") [.ref d]) Q E s:=by
 have ho:=S.obj _ (zm hi)
 refine H8 IE ⟨_,ho,rfl⟩ PySem.F.entry_list_pop (PySem.F.args_list_pop_1 _) (LD d (vs++[v]).toArray n v (by simp) (by rw[zw,zd,zK,Eb];exact z93 hz)) ⟨ho,?_⟩
 have hs:=zt s.heap d (zO λxs=>xs.eraseIdxIfInBounds ((vs++[v]).toArray.size - 1))
 have e:(zO (λxs=>xs.eraseIdxIfInBounds ((vs++[v]).toArray.size - 1)) (ap (vs++[v]) n))=ap vs (n+1):=by
  have e1:(vs++[v]).toArray.eraseIdxIfInBounds ((vs++[v]).toArray.size - 1)=vs.toArray:=by
   simp[Array.eraseIdxIfInBounds]
   rw[List.eraseIdx_append_of_length_le (zh _)]
   simp
  simp only[zO,ap,e1]
  simp
 exact h _ (n+1) (S.change i hi hs (by rw[zq _ ho (by rw[e];rfl),e]))
theorem pO{Tt:Value}{H:Prop}{rk:Nat->Nat}{Q:VP}(S:St hb tabs L l (pre++(d,ap vs n)::post) s.heap)(h2:2<=vs.length)(h64:vs.length<64)
  (hty:∀ h':AE,(∀ p∈pre++post,h'.get? p.1=some p.2)->∀ v∈vs,Cu (y0 prog w) h' (C6 v) Tt) (hT1:(Tt != Ai "tuple")=true) (hT2:(Tt==Tt)=true)
  (hlt:∀ (s':y9) e1,Kp s s'->St hb tabs L l (pre++(d,ap [] e1)::post) s'.heap->∀ i j,i<vs.length->j<vs.length->∀ C:BP,(∀ b tk,(H->b=decide (rk i<rk j))->C b (wt s' tk)) ->
   y4 (y0 prog w) A.in1 (IY Mi (vs.getD i .none) (vs.getD j .none)) C (λZ Z=>False) s')
  (k:∀ s' n' (p:Array Nat),Kp s s'->Pm vs.length p->(H->aS rk p vs.length)->St hb tabs L l (pre++(d,ap (p.toList.map λi=>vs.getD i .none) n')::post) s'.heap->Q .none s') :
  y4 (y0 prog w) A (call (.builtin "list.sort") [.ref d]) Q E s:=by
 obtain⟨m,TL,F,N,hl,nd,hTL,back⟩:=S.toK
 have hmem:(d,ap vs n)∈pre++(d,ap vs n)::post:=yZ _ (.head _)
 have ho:=S.obj _ hmem
 have hdn:=S.new _ hmem
 have ndT:=(zr.mp S.nd)
 have hdL:d≠L:=λe=>ndT.1 (by rw[<- e];exact za.mpr ⟨_,hmem,rfl⟩)
 have nd2:=ndT.2
 rw[zD,Ay] at nd2
 obtain⟨-,n3,n4⟩:=CS.mp nd2
 have hne:∀ p∈TL++(pre++post),p.1≠d:=λp hp=>by
  rcases zc.mp hp with q|q
  ·exact Ab (zJ (hTL p q) hdn)
  ·rcases zc.mp q with q|q
   ·exact n4 _ (za.mpr ⟨p,q,rfl⟩) _ (.head _)
   ·exact λe=>(zr.mp n3).1 (e▸za.mpr ⟨p,q,rfl⟩)
 have N0:News (DJ hb tabs) L s.heap (TL++(pre++post)):=λp hp=>by
  refine N p ?_
  rcases zc.mp hp with q|q
  ·exact y5 _ q
  ·refine yZ _ ?_
   rcases zc.mp q with q|q
   ·exact y5 _ q
   ·exact yZ _ (aj q)
 have hd0:(DJ hb tabs).get? d=none:=(N _ (yZ _ hmem)).2.2
 have keys:∀ o',(pre++(d,o')::post).map (·.1)=(pre++(d,ap vs n)::post).map (·.1):=λo'=>by simp
 have toSt:∀ (h':AE) (o':AO),Fr (DJ hb tabs) L h' m->News (DJ hb tabs) L h' ((d,o')::(TL++(pre++post)))->St hb tabs L l (pre++(d,o')::post) h':=λh' o' F' N'=>by
  refine back h' m _ l F' (λp hp=>N' p ?_) hl nd (λp hp=>?_) (by rw[keys];exact S.nd)
  ·rcases zc.mp hp with q|q
   ·exact aj (y5 _ q)
   ·rcases zc.mp q with q|q
    ·exact aj (yZ _ (y5 _ q))
    ·rcases y7.mp q with rfl|q
     ·exact .head _
     ·exact aj (yZ _ (yZ _ q))
  ·have hk:p.1∈(pre++(d,ap vs n)::post).map (·.1):=by rw[<- keys o'];exact za.mpr ⟨p,hp,rfl⟩
   obtain⟨p',hp',e⟩:=za.mp hk
   rw[<- e];exact S.new p' hp'
 have toN:∀ (h':AE) (o':AO),St hb tabs L l (pre++(d,o')::post) h'->(∀ p∈TL,h'.get? p.1=some p.2)->News (DJ hb tabs) L h' ((d,o')::(TL++(pre++post))):=λh' o' S' hT=>λp hp=>by
  rcases y7.mp hp with rfl|hp
  ·exact⟨S'.obj _ (yZ _ (.head _)),hdL,hd0⟩
  ·have:=N0 p hp
   refine⟨?_,this.2⟩
   rcases zc.mp hp with q|q
   ·exact hT p q
   ·rcases zc.mp q with q|q
    ·exact S'.obj _ (y5 _ q)
    ·exact S'.obj _ (yZ _ (aj q))
 refine zT Ff ⟨_,ho,rfl⟩ EV ?_ (Mj _)
 refine kas_list_sort (T:=Tt) F N0 ho hdL hd0 hne h2 h64 (λe1 h' F' N' v hv=>?_) hT1 hT2 λe1 h' F' N'=>?_
 ·exact hty h' (λp hp=>(N' p (aj (yZ _ hp))).1) v hv
 ·refine KOk.wp (Inv:=λs'=>Kp s s'/\Fr (DJ hb tabs) L s'.heap m/\News (DJ hb tabs) L s'.heap ((d,seqObj "list" #[] e1)::(TL++(pre++post)))) (λi j C s' hI hD hC=>?_) (λp s' hI hp=>?_) (pa (H:=H) (rk:=rk) (z22 h2:0<vs.length)) ⟨⟨rfl,id⟩,F',N'⟩
  ·obtain⟨K',F',N'⟩:=hI
   have S':=toSt _ _ F' N'
   exact hlt s' e1 K' S' i j hD.1 hD.2 C λb tk hb'=>hC b _ ⟨⟨K'.os,K'.gens⟩,F',N'⟩ hb'
  ·obtain⟨K',F',N'⟩:=hI
   exact KasFin.intro F' N' (.head hne) λh'' c F'' N''=>⟨_,rfl,k _ c p ⟨K'.os,K'.gens⟩ hp.1 hp.2 (toSt _ _ F'' N'')⟩
theorem xL{Tt:Value}{H:Prop}{rk:Nat->Nat}{Q:VP}(S:St hb tabs L l (pre++(d,ap vs n)::post) s.heap)(h2:2<=vs.length)(h64:vs.length<64)
  (hty:∀ v∈vs,Ex2 λa o=>An3 (v=.ref a) ((a,o)∈pre++post) (o.cls=Tt)) (hT1:(Tt != Ai "tuple")=true) (hT2:(Tt==Tt)=true)
  (hlt:∀ (s':y9) e1,Kp s s'->St hb tabs L l (pre++(d,ap [] e1)::post) s'.heap->∀ i j,i<vs.length->j<vs.length->∀ C:BP,(∀ b tk,(H->b=decide (rk i<rk j))->C b (wt s' tk)) ->
   y4 (y0 prog w) A.in1 (IY Mi (vs.getD i .none) (vs.getD j .none)) C (λZ Z=>False) s')
  (k:∀ s' n' (p:Array Nat),Kp s s'->Pm vs.length p->(H->aS rk p vs.length)->St hb tabs L l (pre++(d,ap (p.toList.map λi=>vs.getD i .none) n')::post) s'.heap->Q .none s') :
  y4 (y0 prog w) A (call (.builtin "list.sort") [.ref d]) Q E s :=
 pO S h2 h64 (λh' hm v hv=>let ⟨a,o,e,hp,hc⟩:=hty v hv;by subst e;subst hc;exact (Looks.ld (hm (a,o) hp)).andThen .now) hT1 hT2 hlt k
end
end
namespace MP
theorem pf:Ny "map" "__init__" "object.__init__" :=
 .of (owner := "object") (n := "__init__") (by rw[Bf,z9];kernel_rfl) (by decide +kernel) (by decide +kernel) (by decide +kernel)
  (by first|exact .inl (by decide +kernel)|exact .inr (by decide +kernel)) (by rw[AZ];kernel_rfl)
theorem mro:mroOf (.type "map")=Au [.type "map", .type "object"]:=by rw[mroOf_type];kernel_rfl
theorem og:BH (.type "map") "__new__" = Au (some (.builtin "map.__new__")):=by rw[Bf,z9];kernel_rfl
theorem called:TypeCalled "map" "map.__new__" "object.__init__" :=
 ⟨by decide +kernel,by decide +kernel,⟨_,_,mro⟩,madeBy_type mro og (by decide +kernel),by decide +kernel,by rw[AZ];kernel_rfl,pf⟩
theorem typeCall (a b:Value):checkTypeCall "map" ⟨[a,b],[]⟩=Au ():=by kernel_rfl
theorem newCall (a b:Value):EB "map.__new__" ⟨[.type "map", a,b],[]⟩=Au ():=by kernel_rfl
theorem entry_new:Dm Hb "map.__new__" = some At.«map.__new__»:=BX (by kernel_rfl)
theorem slot_iter:Ny "map" "__iter__" "map.__iter__" :=
 .of (owner := "map") (n := "__iter__") (by rw[Bf,z9];kernel_rfl) (by decide +kernel) (by decide +kernel) (by decide +kernel)
  (by first|exact .inl (by decide +kernel)|exact .inr (by decide +kernel)) (by rw[AZ];kernel_rfl)
theorem entry_iter:Dm Hb "map.__iter__" = some At.«dict_keyiterator.__iter__» :=
 Gz (id' := "dict_keyiterator.__iter__") (by kernel_rfl) (by first|rfl|decide +kernel|(unfold String.splitOn;simp +decide [String.splitOnAux])) (by decide +kernel) (by kernel_rfl)
theorem args_iter (a:Value):CI "map.__iter__" ⟨[a],[]⟩:=by unfold CI;kernel_rfl
theorem slot_next:Ny "map" "__next__" "map.__next__" :=
 .of (owner := "map") (n := "__next__") (by rw[Bf,z9];kernel_rfl) (by decide +kernel) (by decide +kernel) (by decide +kernel)
  (by first|exact .inl (by decide +kernel)|exact .inr (by decide +kernel)) (by rw[AZ];kernel_rfl)
theorem entry_next:Dm Hb "map.__next__" = some At.«map.__next__»:=BX (by kernel_rfl)
theorem args_next (a:Value):CI "map.__next__" ⟨[a],[]⟩:=by unfold CI;kernel_rfl
theorem no_len:BH (.type "map") "__len__" = Au none:=by rw[Bf,z9];kernel_rfl
theorem no_hint:BH (.type "map") "__length_hint__" = Au none:=by rw[Bf,z9];kernel_rfl
theorem sub_map:CJ (.type "map") (.type "map")=Au true:=by rw[AZ];kernel_rfl
end MP
noncomputable abbrev gV (d:ze) (i:Nat):AO:={ cls:=.type "list_iterator", data:=.fields #[.ref d,.int i 0] }
noncomputable abbrev lh (t:ze) (f:Value):AO:={ cls:=.type "map", data:=.fields #[.ref t,f] }
theorem kb(f:Value)(l:ze)(vs:List Value)(n:Nat) :
  Meets (At.«map.__new__» ⟨[.type "map", f,.ref l],[]⟩) (λZ R s=>s.heap.get? l=some (ap vs n) /\
   R (.ok (.ret (.ref ((s.heap.push (gV l 0)).push (aG [.ref s.heap.objs.size])).objs.size))) (wh s (((s.heap.push (gV l 0)).push (aG [.ref s.heap.objs.size])).push (lh (s.heap.push (gV l 0)).objs.size f)))) :=
 .of_wp λprog w A R s h=>by
  obtain⟨hp,g,d,tk,os⟩:=s;obtain⟨hl,h⟩:=h
  have hL:Heap.IsList (He ⟨hp,g,d,tk,os⟩) l vs.toArray:=⟨_,hl,rfl,n,rfl⟩
  have hsub:=MP.sub_map
  unfold At.«map.__new__» LW JV Mk LF
  refine yX (yX (As (a:=true) rfl ?_))
  refine zx rfl (yX (As hsub ?_))
  refine zx rfl (yY ?_)
  refine yX (Bm rfl (yY ?_))
  refine EW (λhab=>absurd hab (by simp)) (λZ=>?_)
  refine yX (yX ?_)
  show y4 _ _ (Dp [AG l] _ _) _ _ _
  rw[Ax]
  refine yX (yX (zp (B7 hL (yY ?_))))
  show y4 _ _ (Dp [] _ _) _ _ _
  rw[Em]
  refine yY (yY ?_)
  refine yX (Fl ?_ (by show 1<=DU;rw[zw];decide))
  refine yX (Aa ?_ (by size_fits))
  exact yY ⟨_,rfl,h⟩
section
variable{tabs:List ze}{l:LV}{T:LO}{vs:List Value}{f x:Value}{n:Nat}
theorem r_map{Q:VP}(S:St hb tabs L l T s.heap)(hm:(d,ap vs n)∈T)(h:∀ mp t it h',St hb tabs L l ((mp,lh t f)::(t,aG [.ref it])::(it,gV d 0)::T) h'->Q (.ref mp) (wh s h')) :
  y4 (y0 prog w) A (call (.type "map") [f,.ref d]) Q E s:=by
 have S':=((S.push (gV d 0)).push (aG [.ref s.heap.objs.size])).push (lh (s.heap.push (gV d 0)).objs.size f)
 refine H9 MP.called (by decide) (MP.typeCall _ _) (MP.newCall _ _) (λobj=>IZ obj _ _) MP.entry_new (kb f d vs n) ⟨S.obj _ hm,⟨_,S'.obj _ m0,rfl⟩,h _ _ _ _ S'⟩
theorem sK{Q:VP}(S:St hb tabs L l T s.heap)(hm:(mp,lh t f)∈T)(h:Q (.ref mp) s):y4 (y0 prog w) A (EI (.ref mp)) Q E s:=by
 have hT:s.TypeIs (.ref mp) "map" := ⟨_,S.obj _ hm,rfl⟩
 refine Hg hT MP.slot_iter (zT MP.slot_iter hT MP.entry_iter ?_ (MP.args_iter _))
 exact yY ⟨_,rfl, "map", _,hT,MP.slot_next.lookup,h⟩
def bZ (o:AO) (d:ze) (i:Nat):Prop:=o.cls=.type "list_iterator" /\ o.data=.fields #[.ref d,.int i 0]
theorem sM{Q:Option Value->y9->Prop}{o:AO}(ii:Nat)(S:St hb tabs L l T s.heap)(hmp:(mp,lh t f)∈T)(ht:(t,aG [.ref it])∈T)(hit:T[ii]? = some (it,o))(ho:bZ o d i)(hd:(d,ap vs n)∈T)(hx:vs[i]? = some x)(hne:mp≠it)
  (h:∀ h' o' E',bZ o' d (i+1)->St hb tabs L l (T.set ii (it,o')) h'->y4 (y0 prog w) A.in1 (call f [x]) (λv s'=>Q (some v) s') E' (wh s h')):y4 (y0 prog w) A (De (.ref mp)) Q E s:=by
 have hT:s.TypeIs (.ref mp) "map" := ⟨_,S.obj _ hmp,rfl⟩
 have hi:=S.obj _ (zm hit)
 refine yX (Ds (z4 (name:=yW "__next__") hT MP.slot_next (zT MP.slot_next hT MP.entry_next ?_ (MP.args_next _))))
 refine yX (m:=FT (.ref mp) 0) (AK (S.obj _ hmp) rfl (x:=.ref t) rfl ?_)
 refine yX (m:=BK (.ref t)) (zv (S.obj _ ht) rfl ?_)
 show y4 _ _ (Dp (#[AG it]:Array Value) _ _>>=_) _ _ s
 rw[<- JM]
 refine yX ?_
 rw[Ax]
 refine yX (yX (zp (Ia (items:=vs.toArray) ⟨_,hi,ho.1,ho.2⟩ ⟨_,S.obj _ hd,rfl,n,rfl⟩ (by simpa using hx) λh' hit' hs'=>yY ?_)))
 show y4 _ _ (Dp [] _ _) _ _ _
 rw[Em]
 obtain⟨o',ho',hc',hd'⟩:=hit'
 have S':=S.change ii hit hs' ho'
 refine yY (yX (m:=FT (.ref mp) 1) (AK (s:=(wh s h')) ((hs'.2 mp hne).trans (S.obj _ hmp)) rfl (x:=f) rfl ?_))
 refine yX (zp ?_)
 refine zf (h h' o' _ ⟨hc',hd'⟩ S') (λv s' hq=>?_) λZ Z z=>z
 exact yX (DE (yY ⟨_,rfl,yY hq⟩))
theorem wu{Q:Option Value->y9->Prop}{o:AO}(ii:Nat)(hh:A.handled=none)(S:St hb tabs L l (T++[(it,o)]) s.heap)(hmp:(mp,lh t f)∈T)(ht:(t,aG [.ref it])∈T)(ho:bZ o d vs.length)(hd:(d,ap vs n)∈T)
  (h:∀ h',St hb tabs L l T h'->Q none (wh s h')):y4 (y0 prog w) A (De (.ref mp)) Q E s:=by
 have hmp':(mp,lh t f)∈T++[(it,o)]:=y5 _ hmp
 have hT:s.TypeIs (.ref mp) "map" := ⟨_,S.obj _ hmp',rfl⟩
 have hi:=S.obj (it,o) (yZ _ (.head _))
 refine yX (Ds (z4 (name:=yW "__next__") hT MP.slot_next (zT MP.slot_next hT MP.entry_next ?_ (MP.args_next _))))
 refine yX (m:=FT (.ref mp) 0) (AK (S.obj _ hmp') rfl (x:=.ref t) rfl ?_)
 refine yX (m:=BK (.ref t)) (zv (S.obj _ (y5 _ ht)) rfl ?_)
 show y4 _ _ (Dp (#[AG it]:Array Value) _ _>>=_) _ _ s
 rw[<- JM]
 refine yX ?_
 rw[Ax]
 refine yX (yX (zp (wpAny_nextOf_list_end (items:=vs.toArray) hh ⟨_,hi,ho.1,ho.2⟩ ⟨_,S.obj _ (y5 _ hd),rfl,n,rfl⟩ (by simp) λh' e he hx=>?_)))
 obtain⟨ox,hox,hcx⟩:=hx
 refine yX (AL (T := "StopIteration") (b:=true) ⟨ox,hox,hcx⟩ GH ?_)
 refine yY (h h' (S.drop (own:=[(it,o)]) λb x hb' e=>he b x (λq=>hb' (by rw[q];exact .head _)) e))
end
section
variable{tabs:List ze}{l:LV}{T:LO}{vs:List Value}{f x res:Value}{n:Nat}{J:Nat->List Value->LO->Prop}{Je:List Value->LO->Prop}
theorem gQ(vs:List Value)(v:Value)(c:Nat):zO (·.push v) (ap vs c)=ap (vs++[v]) (c+1):=by simp[zO,ap]
theorem me(hn:n<=1000)
  (GA:∀ i acc T1 c s₁ E',i<n->acc.length=i->J i acc T1->St hb tabs L l ((D,ap acc c)::T1) s₁.heap->Kp s s₁ ->
   y4 (y0 prog w) A.in1 (De (.ref I)) (λo ag=>Ex2 λv T₂=>An4 (o=some v) (Kp s ag) (St hb tabs L l ((D,ap acc c)::T₂) ag.heap) (J (i+1) (acc++[v]) T₂)) E' s₁)
  (done:∀ acc T1 c s₁ E',acc.length=n->J n acc T1->St hb tabs L l ((D,ap acc c)::T1) s₁.heap->Kp s s₁ ->
   y4 (y0 prog w) A.in1 (De (.ref I)) (λo ag=>o=none/\Kp s ag/\∃ T₂,St hb tabs L l ((D,ap acc c)::T₂) ag.heap/\Je acc T₂) E' s₁)
  (hR:∀ s' acc T' c,Kp s s'->St hb tabs L l ((D,ap acc c)::T') s'.heap->Je acc T'->R (.ok (.ret res)) s') :
  ∀ (k i:Nat) (acc:List Value) (T1:LO) (c:Nat) (s₁:y9),n - i=k->i<=n->acc.length=i->J i acc T1->St hb tabs L l ((D,ap acc c)::T1) s₁.heap->Kp s s₁ ->
   zS (y0 prog w) A (.builtin "list.extend.loop" ⟨[.ref D,.ref I,res],[]⟩) R s₁:=by
 intro k
 induction k with
 | zero =>
  intro i acc T1 c s₁ hk hi hacc hJ S hKp
  have:i=n:=z94 hk hi
  subst this
  refine z8 DK (yX (m:=De (.ref I)) (zf (done acc T1 c s₁ _ hacc hJ S hKp) (λo ag z=>?_) λZ Z z=>z))
  obtain⟨rfl,ao,T₂,af,hJe⟩:=z
  exact yY (hR ag acc T₂ c ao af hJe)
 | succ k ih =>
  refine λi acc T1 c s₁ hk hi hacc hJ S hKp=>z8 DK (yX (m:=De (.ref I)) (zf (GA i acc T1 c s₁ _ (z96 hk) hacc hJ S hKp) (λo ag z=>?_) λZ Z z=>z))
  obtain⟨v,T₂,rfl,ao,af,hJ2⟩:=z
  have ho:=af.obj _ m0
  refine yX (m:=Jn D (·.push v)) ?_
  refine BD ho rfl (yY ⟨Ao Cm _,?_⟩) (by rw[zw,zd];exact z98 hn hi hacc) (by rw[zw,EX,zd];exact z99 hn hi hacc)
  have ae:=af.change (o':=ap (acc++[v]) (c+1)) 0 rfl (zt ag.heap D (zO (·.push v))) (by rw[zq _ ho (by rw[gQ];rfl),gQ])
  exact ih (i+1) (acc++[v]) T₂ _ _ (z9a hk) (z9b hk) (by simp[hacc]) hJ2 ae ⟨ao.os,ao.gens⟩
theorem pQ{Q:VP}(S:St hb tabs L l T s.heap)(hm:(mp,lh t f)∈T)(hn:n<=1000)(h0:J 0 [] T)
  (GA:∀ D i acc T1 c s₁ E',i<n->acc.length=i->J i acc T1->St hb tabs L l ((D,ap acc c)::T1) s₁.heap->Kp s s₁ ->
   y4 (y0 prog w) A.in1.in1 (De (.ref mp)) (λo ag=>Ex2 λv T₂=>An4 (o=some v) (Kp s ag) (St hb tabs L l ((D,ap acc c)::T₂) ag.heap) (J (i+1) (acc++[v]) T₂)) E' s₁)
  (done:∀ D acc T1 c s₁ E',acc.length=n->J n acc T1->St hb tabs L l ((D,ap acc c)::T1) s₁.heap->Kp s s₁ ->
   y4 (y0 prog w) A.in1.in1 (De (.ref mp)) (λo ag=>o=none/\Kp s ag/\∃ T₂,St hb tabs L l ((D,ap acc c)::T₂) ag.heap/\Je acc T₂) E' s₁)
  (k:∀ s' D acc T' c,Kp s s'->St hb tabs L l ((D,ap acc c)::T') s'.heap->Je acc T'->Q (.ref D) s') :
  y4 (y0 prog w) A (call (.type "list") [.ref mp]) Q E s:=by
 refine Ml (Q₁:=λobj s₁=>obj=.ref s.heap.objs.size/\s₁ = { s with heap:=s.heap.push { cls:=.type "list", data:=.seq #[] } }) F.called_list (F.typeCall_list_1 _) F.entry_list_init
  (code_list_new _ ⟨rfl,rfl⟩) λobj s₁ ai=>?_
 obtain⟨rfl,rfl⟩:=ai
 have ah:=S.push (ap [] 0)
 refine⟨⟨_,ah.obj _ m0,rfl⟩,F.args_list_init_2 _ _,?_⟩
 show y4 _ A.in1.in1 (do let old <- Ib (.ref s.heap.objs.size);Fe (.ref s.heap.objs.size) (λZ=>#[]);letGo old.toList.reverse;Go (.ref s.heap.objs.size) (.ref mp) .none) _ _ _
 refine yX (yX (zv (ah.obj _ m0) rfl (yY ?_)))
 refine yX (BD (ah.obj _ m0) rfl ?_)
 obtain⟨c1,hc1⟩:∃ c,zO (λZ=>(#[]:Array Value)) (ap [] 0)=ap [] c:=⟨_,rfl⟩
 have af:=ah.change (o':=ap [] c1) 0 rfl (zt _ s.heap.objs.size (zO λZ=>(#[]:Array Value))) (by rw[zq _ (ah.obj _ m0) rfl,<- hc1])
 refine yX (DE ?_)
 have hmp:(mp,lh t f)∈(s.heap.objs.size,ap [] c1)::T:=aj hm
 have hne:s.heap.objs.size≠mp:=λe=>Aj _ (e▸S.lt hm)
 refine yX (Dn (T := "map") ⟨_,af.obj _ hmp,rfl⟩ ?_)
 have h1:Hu (.ref s.heap.objs.size) (.ref mp)=false:=by simp[Hu,hne]
 have h2:(Ai "map" == Ai "list")=false:=by decide
 have h3:(Ai "map" == Ai "tuple")=false:=by decide
 simp only[h1,h2,h3,Bool.or_false,GI,if_false]
 refine yX (sK af hmp ?_)
 refine yX (zp ?_)
 refine yX (BS (T := "map") ⟨_,af.obj _ hmp,rfl⟩ MP.no_len ?_)
 refine yX (m:=EC (AG mp) (yW "__length_hint__")) (BS (T := "map") ⟨_,af.obj _ hmp,rfl⟩ MP.no_hint ?_)
 refine yY (Bm rfl (yX (AP ?_)))
 refine yX ?_
 obtain⟨c2,hc2⟩:∃ c,zO (·.push CK) (ap [] c1)=ap [.none] c:=⟨_,rfl⟩
 obtain⟨c3,hc3⟩:∃ c,zO (·.pop) (ap [.none] c2)=ap [] c:=⟨_,rfl⟩
 refine yX (BD (af.obj _ m0) rfl ?_)
 have ae:=af.change (o':=ap [.none] c2) 0 rfl (zt _ s.heap.objs.size (zO (·.push CK))) (by rw[zq _ (af.obj _ m0) rfl,<- hc2])
 refine BD (ae.obj _ m0) rfl ?_
 have S4:=ae.change (o':=ap [] c3) 0 rfl (zt _ s.heap.objs.size (zO (·.pop))) (by rw[zq _ (ae.obj _ m0) rfl,<- hc3])
 refine yY ⟨Ao Cm _,?_⟩
 exact me hn (GA _) (done _) (λs' acc T' c K' S' hJ=>⟨rfl,k s' _ acc T' c K' S' hJ⟩) n 0 [] T c3 _ rfl (zA _) rfl h0 S4 ⟨rfl,id⟩
end
section
variable{tabs:List ze}{l:LV}{T own Ro:LO}{vs:List Value}{v:Value}{n:Nat}{P:Nat->Value->Prop}
theorem iH{Q:VP}(i:Nat)(S:St hb tabs L l T s.heap)(hi:T[i]? = some (d,ap vs n))(hz:vs.length<2)(h:∀ h' n',St hb tabs L l (T.set i (d,ap vs n')) h'->Q .none (wh s h')) :
  y4 (y0 prog w) A (call (.builtin "list.sort") [.ref d]) Q E s:=by
 have ho:=S.obj _ (zm hi)
 refine zT Ff ⟨_,ho,rfl⟩ EV ?_ (Mj _)
 rw[list_sort_plain]
 have hlen:=(zU.mp hi).1
 obtain⟨c1,hc1⟩:∃ c,zO (λZ=>(#[]:Array Value)) (ap vs n)=ap [] c:=⟨_,rfl⟩
 refine yX (Ka ho rfl ?_)
 refine yX (EP ho rfl ?_ (by rw[zw,zd];exact ul 16777214 hz) (zA _))
 have ah:=S.change (o':=ap [] c1) i hi (zt _ d (zO λZ=>(#[]:Array Value))) (by rw[zq _ ho rfl,<- hc1])
 have hi1:(T.set i (d,ap [] c1))[i]? = some (d,ap [] c1):=by rw[List.getElem?_set_self hlen]
 refine yX (FU (ah.obj _ (zm hi1)) rfl ?_)
 have af:=ah.push (aG vs.toArray.toList)
 have ae:=af.push (ap [] 0)
 refine yX (Fl ?_ (by show vs.length<=_;rw[zw];exact ul 16777214 hz))
 refine yX (EQ ?_ (zA _))
 refine zp ?_
 have hn2:vs.toArray.size<2:=by rw[zd];exact hz
 rw[if_pos hn2,if_pos hn2]
 refine yX (yY ?_)
 refine yX ?_
 show y4 _ _ (Au ((),Ic Kb (vs.toArray.zip vs.toArray) #[] 7 none)) _ _ _
 refine yY ?_
 have e1:(NH (Ic Kb (vs.toArray.zip vs.toArray) #[] 7 none)).map (·.2)=vs.toArray:=by
  show (vs.toArray.zip vs.toArray).map (·.2)=vs.toArray
  apply ED.mp
  simp
  exact KL (zh _)
 dsimp only
 rw[e1]
 have hm3:(d,ap [] c1)∈((s.heap.update d (zO λZ=>(#[]:Array Value))).push (aG vs.toArray.toList) |>.objs.size,ap [] 0)::((s.heap.update d (zO λZ=>(#[]:Array Value))).objs.size,aG vs.toArray.toList)::T.set i (d,ap [] c1):=aj (aj (zm hi1))
 refine yX (FU (ae.obj _ hm3) rfl ?_)
 obtain⟨c2,hc2⟩:∃ c,zO (λZ=>vs.toArray) (ap [] c1)=ap vs c:=⟨_,rfl⟩
 refine yX (EP (ae.obj _ hm3) rfl ?_ (zA _) (by rw[zw,zd];exact z9e hz))
 have hi3:(((s.heap.update d (zO λZ=>(#[]:Array Value))).push (aG vs.toArray.toList) |>.objs.size,ap [] 0)::((s.heap.update d (zO λZ=>(#[]:Array Value))).objs.size,aG vs.toArray.toList)::T.set i (d,ap [] c1))[i+2]? = some (d,ap [] c1):=hi1
 have S4:=ae.change (o':=ap vs c2) (i+2) hi3 (zt _ d (zO λZ=>vs.toArray)) (by rw[zq _ (ae.obj _ hm3) rfl,<- hc2])
 have S5:=S4.sub (T':=(T.set i (d,ap [] c1)).set i (d,ap vs c2)) (.cons _ (zl _ _))
 rw[List.set_set] at S5
 exact zx (by simp) (yY ⟨_,rfl,h _ c2 S5⟩)
theorem jY{Q:VP}(S:St hb tabs L l T s.heap)(hm:(d,ap vs n)∈T)
  (h:∀ I o Wt fp h',ItV prog w hb tabs [(d,ap vs n)] I vs.length (λi v=>vs[i]? = some v) Wt fp->(∀ (A:AR) elts x1 tpos i (s:y9) v (Q:UP) E,Wt i s.heap->Q () s->y4 (y0 prog w) A (CW (.Tuple elts x1 tpos) (.ref I) v) Q E s) ->
   Wt 0 h'->St hb tabs L l (T++[(I,o)]) h'->Q (.ref I) (wh s h')):y4 (y0 prog w) A (EI (.ref d)) Q E s:=by
 have hl:s.heap.IsList d vs.toArray:=⟨_,S.obj _ hm,rfl,n,rfl⟩
 have hne:d≠s.heap.objs.size:=Ab (S.lt hm)
 refine B7 hl (h _ _ (λi h=>h.IsListIter s.heap.objs.size d i/\h.IsList d vs.toArray) [s.heap.objs.size,d] _ ⟨λA hA=>?_,?_,?_⟩ ?_ ⟨⟨_,zQ _ rfl,rfl,rfl⟩,⟨_,zz _ (S.obj _ hm),rfl,n,rfl⟩⟩ (S.push _).last)
 case refine_1 =>
  have W:=Mh (prog:=prog) (w:=w) hA s.heap.objs.size d hne vs.toArray
  exact bM W λi v e=>by simpa using e
 case refine_2 =>
  rintro i h ⟨⟨o,e,_⟩,_⟩
  exact⟨o,e⟩
 case refine_3 =>
  intro b hb' hn
  rcases y7.mp hb' with rfl|hb'
  ·exact absurd (.head _) hn
  ·rw[y6] at hb'
   subst hb'
   exact .inl ⟨_,.head _⟩
 case refine_4 =>
  intro A elts x1 tpos i s v Q E hw hq
  cases v with
  | ref a=>exact wpAny_letOwnedTupleGo_listiter hw.1 hq
  | _=>exact yY hq
end
noncomputable def dT(a:ze):Lz KO:=(do
  let items <- Ib (.ref a)
  Fe (.ref a) λZ=>#[]
  let before <- seqEpoch a
  let held <- newTuple items.toList
  let keyStore <- newList []
  G9 [held,keyStore] do
   rule "list.sort.reverse"
   let kind <- if items.size<2 then Au Kb else Mm items
   let ((),s) <- (if items.size<2 then Au () else sortRuns').run (Ic kind (items.zip items).reverse #[] 7 none)
   let sorted:=(NH s).map (·.2)
   let touched:=(<- seqEpoch a) != before
   Fe (.ref a) λZ=>sorted.reverse
   if let some e:=failedOf s then rule "list.sort.comparison-raised"; throw e
   if touched then rule "list.sort.modified"; raiseError "ValueError" "list modified during sort"
   ret .none)
theorem kf (a:ze):At.«list.sort» ⟨[.ref a],[(yW "reverse", .bool true)]⟩=dT a:=rfl
theorem gW (a:ze):At.«list.sort» ⟨[.ref a],[(yW "key", .none),(yW "reverse", .bool true)]⟩=dT a:=rfl
section
open PySem.Spec
section
variable{tabs:List ze}{l:LV}{T:LO}{vs:List Value}{n:Nat}
theorem nT{H:Prop}{rk:Nat->Nat}{Q:KO->y9->Prop}(S:St hb tabs L l ((d,ap vs n)::T) s.heap)(h2:2<=vs.length)(h64:vs.length<64)
  (hkind:∀ (s':y9) T' {Q:L5->y9->Prop}{E:VP},St hb tabs L l T' s'.heap->(∀ p∈T,p∈T')->Q κ s'->y4 (y0 prog w) A (Mm vs.toArray) Q E s')
  (hlt:∀ (s':y9) T',Kp s s'->St hb tabs L l T' s'.heap->(∀ p∈T,p∈T')->∀ i j,i<vs.length->j<vs.length->∀ C:BP,(∀ b tk,(H->b=decide (rk i<rk j))->C b (wt s' tk)) ->
   y4 (y0 prog w) A (IY κ (vs.reverse.getD i .none) (vs.reverse.getD j .none)) C (λZ Z=>False) s')
  (k:∀ s' n' (p:Array Nat),Kp s s'->Pm vs.length p->(H->aS rk p vs.length)->St hb tabs L l ((d,ap (p.toList.map λi=>vs.reverse.getD i .none).reverse n')::T) s'.heap->Q (.done (.ret .none)) s') :
  y4 (y0 prog w) A (dT d) Q E s:=by
 have ho:=S.obj _ m0
 obtain⟨c1,hc1⟩:∃ c,zO (λZ=>(#[]:Array Value)) (ap vs n)=ap [] c:=⟨_,rfl⟩
 refine yX (Ka ho rfl ?_)
 refine yX (EP ho rfl ?_ (by rw[zw,zd];exact ul 16777152 h64) (zA _))
 have ah:=S.change (o':=ap [] c1) 0 rfl (zt _ d (zO λZ=>(#[]:Array Value))) (by rw[zq _ ho rfl,<- hc1])
 refine yX (FU (ah.obj _ m0) rfl ?_)
 have af:=ah.push (aG vs.toArray.toList)
 have ae:=af.push (ap [] 0)
 refine yX (Fl ?_ (by show vs.length<=_;rw[zw];exact ul 16777152 h64))
 refine yX (EQ ?_ (zA _))
 refine zp (yX (AP ?_))
 have hn2:¬ vs.toArray.size<2:=by rw[zd];exact zas h2
 rw[if_neg hn2,if_neg hn2]
 refine yX (hkind _ _ ae (λp hp=>aj (aj (aj hp))) ?_)
 have ep:(vs.toArray.zip vs.toArray).reverse=vs.reverse.toArray.zip vs.reverse.toArray:=kat_pairs true (ks:=vs) (vs:=vs) rfl
 rw[ep]
 have hr:vs.reverse.length=vs.length:=CZ
 refine yX (zf (kat_run (ks:=vs.reverse) (vs:=vs.reverse) (κ:=κ) (Q:=λst' s'=>∃ p:Array Nat,NH st'=p.map (kas_item (vs.reverse.toArray.zip vs.reverse.toArray))/\failedOf st'=none/\Kp s s'/\Pm vs.length p/\(H->aS rk p vs.length)/\(Ex4 λa b ta tb=>St hb tabs L l ((a,ta)::(b,tb)::(d,ap [] c1)::T) s'.heap))
  (G:=λp s'=>Kp s s'/\Pm vs.length p/\(H->aS rk p vs.length)/\Ex4 λa b ta tb=>St hb tabs L l ((a,ta)::(b,tb)::(d,ap [] c1)::T) s'.heap) rfl (zat h2 hr) (zau h64 hr) (λp st' s' a1 a2 a3 a4=>⟨p,a2,a3,a4⟩) ?_) ?_ λZ Z x=>x)
 ·rw[hr]
  refine KOk.wp (Inv:=λs'=>Kp s s'/\Ex4 λa b ta tb=>St hb tabs L l ((a,ta)::(b,tb)::(d,ap [] c1)::T) s'.heap) (λi j C s' hI hD hC=>?_) (λp s' hI hp=>?_) (pa (H:=H) (rk:=rk) (z22 h2:0<vs.length)) ⟨⟨rfl,id⟩,_,_,_,_,ae⟩
  ·obtain⟨K',a,b,ta,tb,S'⟩:=hI
   exact hlt s' _ K' S' (λp hp=>aj (aj (aj hp))) i j hD.1 hD.2 C λb' tk hb'=>hC b' _ ⟨⟨K'.os,K'.gens⟩,a,b,ta,tb,S'⟩ hb'
  ·exact⟨hI.1,hp.1,hp.2,hI.2⟩
 rintro⟨⟨⟩,st'⟩ s' ⟨p,har,hf,K',hpm,hso,a,b,ta,tb,S'⟩
 dsimp only
 have e1:(NH st').map (·.2)=Gp (p.toList.map λi=>vs.reverse.getD i .none):=kat_snds rfl har
 rw[e1,hf]
 refine yX (FU (S'.obj _ m2) rfl ?_)
 have e3:(Gp (p.toList.map λi=>vs.reverse.getD i .none)).reverse=(p.toList.map λi=>vs.reverse.getD i .none).reverse.toArray:=by simp
 rw[e3]
 have hpl:p.toList.length=vs.length:=by
  have:=(C7.mp hpm).length_eq
  simpa using this
 obtain⟨c2,hc2⟩:∃ c,zO (λZ=>(p.toList.map λi=>vs.reverse.getD i .none).reverse.toArray) (ap [] c1)=ap (p.toList.map λi=>vs.reverse.getD i .none).reverse c:=⟨_,rfl⟩
 refine yX (EP (S'.obj _ m2) rfl ?_ (zA _) (by rw[zw,zd,CZ,zb,hpl];exact zav h64))
 have S4:=S'.change (o':=ap (p.toList.map λi=>vs.reverse.getD i .none).reverse c2) 2 rfl (zt _ d (zO λZ=>(p.toList.map λi=>vs.reverse.getD i .none).reverse.toArray)) (by rw[zq _ (S'.obj _ m2) rfl,<- hc2])
 have S5:=S4.sub (T':=(d,ap (p.toList.map λi=>vs.reverse.getD i .none).reverse c2)::T) (.cons _ (.cons _ (Ag _)))
 exact zx (by simp) (yY (k _ c2 p ⟨K'.os,K'.gens⟩ hpm hso S5))
end
section
variable{tabs:List ze}{l:LV}{T:LO}{vs:List Value}{n:Nat}
theorem jQ{Q:KO->y9->Prop}(S:St hb tabs L l ((d,ap vs n)::T) s.heap)(hz:vs.length<2)
  (k:∀ h' n',St hb tabs L l ((d,ap vs n')::T) h'->Q (.done (.ret .none)) (wh s h')) :
  y4 (y0 prog w) A (dT d) Q E s:=by
 have ho:=S.obj _ m0
 obtain⟨c1,hc1⟩:∃ c,zO (λZ=>(#[]:Array Value)) (ap vs n)=ap [] c:=⟨_,rfl⟩
 refine yX (Ka ho rfl ?_)
 refine yX (EP ho rfl ?_ (by rw[zw,zd];exact ul 16777214 hz) (zA _))
 have ah:=S.change (o':=ap [] c1) 0 rfl (zt _ d (zO λZ=>(#[]:Array Value))) (by rw[zq _ ho rfl,<- hc1])
 refine yX (FU (ah.obj _ m0) rfl ?_)
 have af:=ah.push (aG vs.toArray.toList)
 have ae:=af.push (ap [] 0)
 refine yX (Fl ?_ (by show vs.length<=_;rw[zw];exact ul 16777214 hz))
 refine yX (EQ ?_ (zA _))
 refine zp (yX (AP ?_))
 have hn2:vs.toArray.size<2:=by rw[zd];exact hz
 rw[if_pos hn2,if_pos hn2]
 refine yX (yY ?_)
 refine yX ?_
 show y4 _ _ (Au ((),Ic Kb (vs.toArray.zip vs.toArray).reverse #[] 7 none)) _ _ _
 refine yY ?_
 have e1:((NH (Ic Kb (vs.toArray.zip vs.toArray).reverse #[] 7 none)).map (·.2)).reverse=vs.toArray:=by
  show (((vs.toArray.zip vs.toArray).reverse).map (·.2)).reverse=vs.toArray
  apply ED.mp
  simp
  exact KL (zh _)
 dsimp only
 rw[e1]
 refine yX (FU (ae.obj _ m2) rfl ?_)
 obtain⟨c2,hc2⟩:∃ c,zO (λZ=>vs.toArray) (ap [] c1)=ap vs c:=⟨_,rfl⟩
 refine yX (EP (ae.obj _ m2) rfl ?_ (zA _) (by rw[zw,zd];exact z9e hz))
 have S4:=ae.change (o':=ap vs c2) 2 rfl (zt _ d (zO λZ=>vs.toArray)) (by rw[zq _ (ae.obj _ m2) rfl,<- hc2])
 have S5:=S4.sub (T':=(d,ap vs c2)::T) (.cons _ (.cons _ (Ag _)))
 exact zx (by simp) (yY (k _ c2 S5))
end
section
variable{tabs:List ze}{l:LV}{T:LO}{vs:List Value}{n:Nat}
theorem lP{kw:LV}{Q:VP}(S:St hb tabs L l T s.heap)(hd:(d,ap vs n)∈T)(hz:vs.length<=1000)
  (ha1:CI "sorted" ⟨[.ref d],kw⟩) (ha2:∀ x,CI "list.sort" ⟨[.ref x],kw⟩) (ht:∀ x,At.«list.sort» ⟨[.ref x],kw⟩=dT x)
  (h:∀ D tmp c h',St hb tabs L l ((D,ap vs 0)::(tmp,ap vs c)::T) h'->y4 (y0 prog w) A.in1.in1 (dT D) (λfin s'=>∃ v,fin=.done (.ret v)/\Q (.ref D) s') E (wh s h')) :
  y4 (y0 prog w) A (call (.builtin "sorted") [.ref d] kw) Q E s:=by
 refine Ie kind_sorted plain_sorted entry_sorted ha1 (yX (m:=Mn "sorted" 1 1 _) (yY ?_))
 refine yX (collect_list (vs:=vs) ⟨_,S.obj _ hd,rfl,n,rfl⟩ ?_ (by rw[zw];exact up 16776216 hz))
 have ah:=S.push (ap [] 0)
 obtain⟨c1,hc1⟩:∃ c,zO (·++vs.toArray) (ap [] 0)=ap vs c:=by
  have hx:∃ c1,zO (·++vs.toArray) (ap [] 0) = { ap [] 0 with data:=.seq ((#[]:Array Value)++vs.toArray) c1 }:=⟨_,rfl⟩
  rw[GJ] at hx
  exact hx
 have af:=ah.change (o':=ap vs c1) 0 rfl (zt _ s.heap.objs.size (zO (·++vs.toArray))) (by rw[zq _ (ah.obj _ m0) (by rw[hc1];rfl),hc1])
 refine yX (EQ ?_ (by rw[zw];exact up 16776216 hz))
 have ae:=af.push (ap vs 0)
 refine yX (zp (Jv Ff ⟨_,ae.obj _ m0,rfl⟩ EV ?body (ha2 _)))
 case body =>
  rw[ht]
  refine zf (h _ _ c1 _ ae) (λfin s' z=>?_) λZ Z x=>x
  obtain⟨v,rfl,q⟩:=z
  exact⟨_,rfl,yY ⟨_,rfl,q⟩⟩
end
end
noncomputable abbrev tabs:List ze:=[248]
noncomputable def KN(P:zF):Ho:=(K1 P++K2 (ky (st1 pw 6)) P)++K3 P
theorem KN_nt(P:zF):((KN P).all λp=>!tabs.contains p.1)=true:=by kernel_rfl
theorem jG{a b:ze}{o:AO}{u:AO}:∀ {l r:Ho},((l++r).all λp=>!(p.1==b))=true->(l++r).lookup a=some o->(l++(b,u)::r).lookup a=some o:=by
 intro l
 induction l with
 | nil =>
  intro r hb e
  show ((b,u)::r).lookup a=_
  rw[Ez]
  split
  ·rename_i hq
   exfalso
   have hm:∀ (m:Ho),m.lookup a=some o->(a,o)∈m:=λm=>by
    induction m with
    | nil=>intro e;cases e
    | cons p r ih =>
     intro e
     rw[Ez] at e
     split at e
     ·rename_i hq
      cases e
      rw[beq_iff_eq.mp hq];exact .head _
     ·exact aj (ih e)
   have:=zC.mp hb _ (hm _ e)
   rw[show ((a,o).1==b)=true from hq] at this
   cases this
  ·exact e
 | cons p l ih =>
  intro r hb e
  obtain⟨c,q⟩:=p
  rw[Bp,Ez] at e ⊢
  rw[Bp,MI] at hb
  split
  ·rename_i hq
   rw[hq] at e;exact e
  ·rename_i hq
   rw[hq] at e
   exact ih (zo.mp hb).2 e
theorem KN_in{P:zF}{h:AE}(k:(KK P).In h):(KN P).In h:=λa o e=>k a o (by
 have e:((K1 P++K2 (ky (st1 pw 6)) P)++(316,o316 P)::K3 P).lookup a=some o:=jG (by kernel_rfl) e
 exact jG (by kernel_rfl) e)
noncomputable def fdO(o:AO):Bz:=match o.data with
 | .func f=>f
 | _=>AA
noncomputable def fd110(P:zF):Bz:=fdO (o110 P)
theorem lk110 (P:zF):(KN P).lookup 110=some ⟨Ai "function", none,.func (fd110 P),#[]⟩:=by kernel_rfl
noncomputable def fd117(P:zF):Bz:=fdO (o117 P)
theorem lk117 (P:zF):(KN P).lookup 117=some ⟨Ai "function", none,.func (fd117 P),#[]⟩:=by kernel_rfl
noncomputable def fd173(P:zF):Bz:=fdO (o173 P)
theorem lk173 (P:zF):(KN P).lookup 173=some ⟨Ai "function", none,.func (fd173 P),#[]⟩:=by kernel_rfl
noncomputable def yI(P:zF):Bz:=fdO (o188 P)
theorem lk188 (P:zF):(KN P).lookup 188=some ⟨Ai "function", none,.func (yI P),#[]⟩:=by kernel_rfl
noncomputable def fd195(P:zF):Bz:=fdO (o195 P)
theorem lk195 (P:zF):(KN P).lookup 195=some ⟨Ai "function", none,.func (fd195 P),#[]⟩:=by kernel_rfl
noncomputable def fd202(P:zF):Bz:=fdO (o202 P)
theorem lk202 (P:zF):(KN P).lookup 202=some ⟨Ai "function", none,.func (fd202 P),#[]⟩:=by kernel_rfl
noncomputable def fd209(P:zF):Bz:=fdO (o209 P)
theorem lk209 (P:zF):(KN P).lookup 209=some ⟨Ai "function", none,.func (fd209 P),#[]⟩:=by kernel_rfl
noncomputable def fd216(P:zF):Bz:=fdO (o216 P)
theorem lk216 (P:zF):(KN P).lookup 216=some ⟨Ai "function", none,.func (fd216 P),#[]⟩:=by kernel_rfl
noncomputable def yH(P:zF):Bz:=fdO (o224 P)
theorem lk224 (P:zF):(KN P).lookup 224=some ⟨Ai "function", none,.func (yH P),#[]⟩:=by kernel_rfl
noncomputable def yG(P:zF):Bz:=fdO (o231 P)
theorem yf (P:zF):(KN P).lookup 231=some ⟨Ai "function", none,.func (yG P),#[]⟩:=by kernel_rfl
noncomputable def yF(P:zF):Bz:=fdO (o253 P)
theorem lk253 (P:zF):(KN P).lookup 253=some ⟨Ai "function", none,.func (yF P),#[]⟩:=by kernel_rfl
noncomputable def yE(P:zF):Bz:=fdO (o260 P)
theorem lk260 (P:zF):(KN P).lookup 260=some ⟨Ai "function", none,.func (yE P),#[]⟩:=by kernel_rfl
noncomputable def fd267(P:zF):Bz:=fdO (o267 P)
theorem lk267 (P:zF):(KN P).lookup 267=some ⟨Ai "function", none,.func (fd267 P),#[]⟩:=by kernel_rfl
noncomputable def aO(P:zF):Bz:=fdO (o280 P)
theorem ye (P:zF):(KN P).lookup 280=some ⟨Ai "function", none,.func (aO P),#[]⟩:=by kernel_rfl
noncomputable def dH(P:zF):Bz:=fdO (o286 P)
theorem oz (P:zF):(KN P).lookup 286=some ⟨Ai "function", none,.func (dH P),#[]⟩:=by kernel_rfl
noncomputable def fd293(P:zF):Bz:=fdO (o293 P)
theorem lk293 (P:zF):(KN P).lookup 293=some ⟨Ai "function", none,.func (fd293 P),#[]⟩:=by kernel_rfl
noncomputable def fd300(P:zF):Bz:=fdO (o300 P)
theorem lk300 (P:zF):(KN P).lookup 300=some ⟨Ai "function", none,.func (fd300 P),#[]⟩:=by kernel_rfl
noncomputable def fd307(P:zF):Bz:=fdO (o307 P)
theorem lk307 (P:zF):(KN P).lookup 307=some ⟨Ai "function", none,.func (fd307 P),#[]⟩:=by kernel_rfl
noncomputable def jq(P:zF):Bz:=fdO (o314 P)
theorem lk314 (P:zF):(KN P).lookup 314=some ⟨Ai "function", none,.func (jq P),#[]⟩:=by kernel_rfl
noncomputable def yD(P:zF):Bz:=fdO (o321 P)
theorem lk321 (P:zF):(KN P).lookup 321=some ⟨Ai "function", none,.func (yD P),#[]⟩:=by kernel_rfl
noncomputable def eJ(P:zF):Bz:=fdO (o326 P)
theorem lk326 (P:zF):(KN P).lookup 326=some ⟨Ai "function", none,.func (eJ P),#[]⟩:=by kernel_rfl
noncomputable def yC(P:zF):Bz:=fdO (o331 P)
theorem lk331 (P:zF):(KN P).lookup 331=some ⟨Ai "function", none,.func (yC P),#[]⟩:=by kernel_rfl
abbrev GK(w:Am)(hb:AE):Prop:=Gd (KN w.params) tabs hb
noncomputable def bK(m n:Int):UInt64:=if n=0 then 4607182418800017408 else Lj (Lk 4611686018427387904 (ER m)) (ER n)
section
variable{l:LV}{T:LO}
theorem eB{n:Int}(h1:0<=n)(h2:n<=1000):n.natAbs<2 ^ 1023:=by
 have:n.natAbs<=1000:=DH.mp (by rw[Int.natAbs_of_nonneg h1];exact h2)
 exact zJ (Bq this (by decide:1000<2 ^ 10)) (Nat.pow_le_pow_right (by decide) (by decide))
theorem jg(G:GK w hb)(S:St hb tabs L l T s.heap)(hd:A.depth<zg){m n:Int}{t u:AN}(m0:0<=m)(m1:m<=1000)(n0:0<=n)(n1:n<=1000)
  (k:∀ h' tk t',s.toks<=t'->t'<tk->St hb tabs L l T h'->R (.ok (.ret (.float (bK m n) t'))) (wht s h' tk)) :
  zS (y0 pw w) A (.call (.ref 173) ⟨[.int m t,.int n u],[]⟩) R s:=by
 refine dQ G S (lk173 _) hd (binds:=[(yW "matches", .int m t),(yW "length", .int n u)]) (body:=aD (st1 pw 5)) (AW (by kernel_rfl)) (λL' ai oL r S'=>lQ (BY (ac S' (aj (.head _)) (JN ⟨λhb=>?_,λhb=>?_⟩))))
 ·have hn:n≠0:=by simpa using hb
  have hO:¬ Mo n:=λq=>by
   have:=eB n0 n1
   exact absurd q (Ig.mpr (zJ this (by decide +kernel)))
  refine cP (wpAny_BinOp (wpAny_BinOp (Bn (ac S' (.head _) (mul_fi_fits (eB m0 m1) (ac S' (aj (.head _)) (G1 (IF hO) (λx=>hn ((Ih n).mp x)) ?_)))))))
  have e:bK m n=Lj (Lk 4611686018427387904 (ER m)) (ER n):=if_neg hn
  refine e▸k _ _ _ ?_ ?_ (S'.leave 0 rfl r)
  ·simp only[zI,Cf];exact z02
  ·simp only[zI,Cf];exact z03
 ·have hn:n=0:=by simpa using hb
  refine aF (cP (Bn ?_))
  have e:bK m n=4607182418800017408:=if_pos hn
  refine e▸k _ _ _ ?_ ?_ (S'.leave 0 rfl r)
  ·simp only[zI,Cf];exact z04
  ·simp only[zI,Cf];exact z05
theorem jK(G:GK w hb)(S:St hb tabs L l T s.heap)(hd:A.depth<zg){m n:Int}{t u:AN}(m0:0<=m)(m1:m<=1000)(n0:0<=n)(n1:n<=1000)
  (k:∀ h' tk t',St hb tabs L l T h'->R (.ok (.ret (.float (bK m n) t'))) (wht s h' tk)) :
  zS (y0 pw w) A (.call (.ref 173) ⟨[.int m t,.int n u],[]⟩) R s :=
 jg G S hd m0 m1 n0 n1 λh' tk t' Z Z S'=>k h' tk t' S'
end
noncomputable abbrev smO(dx:ze):AO:=⟨.ref 270,some dx,.plain,#[]⟩
section
variable{x:ze}{l:LV}{T Ra Rb:LO}{fl:LV}
theorem nZ (G:GK w hb) (S:St hb tabs L l T s.heap) (hd:A.depth+1<zg) (hh:A.handled=none) (hx:(x,smO dx)∈T) (hdx:(dx,od)∈T) (hf:bH od fl) (ha:(yW "a", va)∈fl) (hb':(yW "b", vb)∈fl)
  (Va:SqV (pw) w hb tabs Ra va la) (Vb:SqV pw w hb tabs Rb vb lb) (hRa:∀ p∈Ra,p∈T) (hRb:∀ p∈Rb,p∈T)
  (k:∀ h' tk t',St hb tabs L l T h'->R (.ok (.ret (.float (bK (L4 la.length lb.length) (la.length+lb.length)) t'))) (wht s h' tk)) :
  zS (y0 pw w) A (.call (.ref 267) ⟨[.ref x],[]⟩) R s:=by
 have sa:=Va.small
 have sb:=Vb.small
 refine dQ G S (lk267 _) (dn 1 hd) (binds:=[(yW "self", .ref x)]) (body:=aD (st2 pw 6 12)) (AW (by kernel_rfl)) (λL' ai oL r S'=>eZ (eM [yW "la", yW "lb"] (args_cons (jL G S' B0 (args_cons (bR (ac S' (.head _) (bB G S' (aj hx) (aj hdx) hf ha ?_ (hv:=Va.hand)))))))))
 refine zn (Va.len S' (λp hp=>aj (hRa p hp)) ?_)
 refine λb6 br=>args_cons (jL G S' B0 (args_cons (bR (ac S' (.head _) (bB G S' (aj hx) (aj hdx) hf hb' ?_ (hv:=Vb.hand))))))
 refine zn (Vb.len S' (λp hp=>aj (hRb p hp)) ?_)
 refine λb7 du=>zn ⟨rfl,rfl,hh,_,_,_,_,_,S',?_⟩
 refine λam af=>cU af (.new (by kernel_rfl)) (λak ae=>cU ae (.new (by kernel_rfl)) (λaw S4=>eQ (cP (tV G S4 (v:=.ref 173) (by kernel_rfl) (args_cons (jL G S4 boot_min (bl S4 (.head _) (bln S4 (aj (.head _)) (xO hh S4 ?_)))))))))
 refine λay ed eo S5=>args_cons (wpAny_BinOp (ac S5 (.head _) (ac S5 (aj (.head _)) (CP (zn ⟨⟨_,_,_,S5⟩,?_⟩)))))
 exact jK G S5 hd z3c (z3d sa) z15 (z16 sa sb) (λaz tk6 t6 S6=>k _ _ _ (S6.leave 0 rfl r))
end
section
variable{x:ze}{l:LV}{T:LO}{fl fl1 fl2 fl3:LV}{av v:Value}{T₀:LO}
abbrev aP(w:Am)(T₀:LO)(v u:Value)(C:Prop):Prop:=∀ {A:AR}{E:VP}{s:y9}{Q:VP},B4 s.heap->(∀ p∈T₀,s.heap.get? p.1=some p.2)->(∀ c:Bool,(c=true->C)->Q (.bool c) s)->y4 (y0 pw w) A (AF .Is v u) Q E s
theorem iX{y:zH}{t:AN}:aP w T₀ (.str y t) .none False:=λZ Z h=>LX (h false λq=>by cases q)
theorem jH{y z:zH}{t u:AN}(ht:t≠0)(hu:u≠0)(he:t=u->y=z):aP w T₀ (.str y t) (.str z u) (y=z):=λnb Z h=>wE nb ht hu he h
theorem aP.mono{T1:LO}{u:Value}{C:Prop}(H:aP w T₀ v u C)(h:∀ p∈T₀,p∈T1):aP w T1 v u C:=λnb q=>H nb λp hp=>q p (h p hp)
theorem aP.imp{u:Value}{C C':Prop}(H:aP w T₀ v u C)(h:C->C'):aP w T₀ v u C':=λnb q k=>H nb q λc hc=>k c λe=>h (hc e)
theorem set_seq1 {C:Prop} (G:GK w hb) (S:St hb tabs L l ((x,smO dx)::(dx,od)::T) s.heap) (hd:A.depth<zg) (hf:bH od fl) (ha:(yW "a", av)∈fl) (hav:L9 av=true)
  (his:aP w T₀ v av C) (hT0:∀ p∈T₀,p∈T) (p1:Put fl (yW "a") v fl1) (p2:Put fl1 (yW "matching_blocks") .none fl2) (p3:Put fl2 (yW "opcodes") .none fl3) (hz:Ce fl1.length 1000=true) (hz2:Ce fl2.length 1000=true) (hz3:Ce fl3.length 1000=true)
  (k0:C->∀ h' tk,St hb tabs L l ((x,smO dx)::(dx,od)::T) h'->R (.ok (.ret .none)) (wht s h' tk))
  (k1:∀ h' tk od',St hb tabs L l ((x,smO dx)::(dx,od')::T) h'->bH od' fl3->R (.ok (.ret .none)) (wht s h' tk)) :
  zS (y0 pw w) A (.call (.ref 202) ⟨[.ref x,v],[]⟩) R s:=by
 refine dQ G S (lk202 _) hd (binds:=[(yW "self", .ref x),(yW "a", v)]) (body:=aD (st2 pw 6 3)) (AW (by kernel_rfl)) (λL' ai oL r S'=>eZ (dA (ac S' (aj (.head _)) (bR (ac S' (.head _) (bB G S' (aj (.head _)) (aj (aj (.head _))) hf ha ?_ (hv:=hav)))))))
 refine his (S'.nb G) (λp hp=>S'.obj p (aj (aj (aj (hT0 p hp))))) λc hc=>(y8 ⟨λhb=>?_,λhb=>?_⟩)
 ·exact uF (k0 (hc hb) _ _ (S'.leave 0 rfl r))
 ·refine aF (cZ (ac S' (aj (.head _)) (ac S' (.head _) (aN 2 G S' (aj (.head _)) rfl hf p1 ?_ hz))))
  refine λam od2 af hf2=>j3 (Bw (cT (ac af (.head _) (aN 2 G af (aj (.head _)) rfl hf2 p2 ?_ hz2))))
  refine λak od3 ae hf3=>cT (ac ae (.head _) (aN 2 G ae (aj (.head _)) rfl hf3 p3 ?_ hz3))
  exact λaw od4 S4 hf4=>aF (k1 _ _ _ (S4.leave 0 rfl r) hf4)
end
section
variable{x:ze}{l:LV}{T:LO}{fl:LV}{Rb:LO}{fl1:Value->LV}{fl2:Value->Value->LV}{fl3:Value->Value->Value->LV}
theorem dK{c:zH}{u:AN}:(Ak pw w).is c (.str c u)=true:=by simp[Ak,Value.isStrOf]
theorem w6 (G:GK w hb) (S:St hb tabs L l ((x,smO dx)::(dx,od)::T) s.heap) (hd:A.depth<zg) (hh:A.handled=none) (hf:bH od fl) (hb':(yW "b", vb)∈fl)
  (Vb:SqV pw w hb tabs Rb vb lb) (hRb:∀ p∈Rb,p∈T)
  (p1:∀ v,Put fl (yW "b2j") v (fl1 v)) (p2:∀ v u,Put (fl1 v) (yW "bjunk") u (fl2 v u)) (p3:∀ v u z,Put (fl2 v u) (yW "bpopular") z (fl3 v u z))
  (hij:∀ v u,(yW "isjunk", .none)∈fl2 v u) (haj:∀ v u z,(yW "autojunk", .bool true)∈fl3 v u z)
  (hz:∀ v u z,Ce (fl1 v).length 1000=true/\Ce (fl2 v u).length 1000=true/\Ce (fl3 v u z).length 1000=true)
  (k:∀ s' od' d2 sj sp o2 rows led led',Kp s s'->St hb tabs L l ((x,smO dx)::(dx,od')::(sp,cK led')::(sj,cK led)::(d2,o2)::(rows.map aW.ob++T)) s'.heap->bH od' (fl3 (.ref d2) (.ref sj) (.ref sp)) ->
   o2.IsDictOf (Ak pw w) (rows.map aW.kv)->cJ lb rows->R (.ok (.ret .none)) s') :
  zS (y0 pw w) A (.call (.ref 216) ⟨[.ref x],[]⟩) R s:=by
 refine dQ G S (lk216 _) hd (binds:=[(yW "self", .ref x)]) (body:=aD (st2 pw 6 5)) (AW (by kernel_rfl)) (λL' ai oL r S'=>aC (bR (ac S' m0 (bB G S' m1 m2 hf hb' ?_ (hv:=Vb.hand)))))
 refine aq S' (.new (by kernel_rfl)) (λam af=>j3 (iK af ?_))
 refine λd2 ak ae=>cT (ac ae m1 (aN 3 G ae m2 rfl hf (p1 _) ?_ (hz (.ref d2) .none .none).1))
 refine λaw od4 S4 hf4=>aU (aq S4 (.new (by kernel_rfl)) ?_)
 refine λay S5=>eY (rm G S5 jt (bln S5 m1 (Vb.enum hh S5 (λp hp=>aj (aj (aj (aj (hRb p hp))))) ?_)))
 refine λI J o o' Wt Mid fp az IU hw S6=>(IU.walks (A.deeper _) hh).self 0 _ _ _ ?_ ?_
 ·exact hw
 let H:Nat->LV->LO->Prop:=λi l₁ T1=>l₁=[(yW "b2j", .ref d2),(yW "b", vb),(yW "self", .ref x)] /\
   Ex2 λo2 rows=>An3 (T1=(d2,o2)::(L,oL)::(x,smO dx)::(dx,od4)::(rows.map aW.ob++T)) (o2.IsDictOf (Ak pw w) (rows.map aW.kv)) (cJ (lb.take i) rows)
 refine IU.loop (z:=s) (own:=[(I,o),(J,o')]) hh rfl S6 hw
  H
  ⟨rfl,dict0,[],rfl,eH,cJ.nil⟩ (λp hp=>aj (aj (aj (aj (hRb p hp))))) ?_ (by kernel_rfl) ?_ ?_
 ·rintro i vals ⟨t,y,-,rfl⟩
  rfl
 ·rintro E1 i vals l₁ T1 own1 s₁ hi ⟨t,y,⟨c,u,hc,rfl⟩,rfl⟩ ⟨rfl,o2,rows,rfl,hd2,hrows⟩ S7 hRo hKp
  refine aY (aq S7 (.new (by kernel_rfl)) ?_)
  refine λbc S8=>aY (aq S8 (.new (by kernel_rfl)) ?_)
  refine λbf S9=>cE (aC (aV (ac S9 m2 (j0 S9 m0 hd2 F4 PySem.F.type_dict_setdefault (aI (bl S9 m0 (args_cons ?_)))))))
  refine bF (zn ⟨rfl,_,_,_,_,_,S9,?_⟩)
  refine λa d5 S10=>zn ?_
  have hle:(lb.take i).length=i:=by rw[Bc];exact z4h hi
  have hsm:=Vb.small
  have hrl:=hrows.small
  have hlen:(rows.map aW.kv).length<=1000:=by rw[zb];exact z6t hi hle hsm hrl
  have htk:lb.take (i+1)=lb.take i++[c]:=by rw[List.take_succ,hc];rfl
  refine zf (kZ (E:=E1) (Q:=λv ag=>Ex4 λ(o2':AO) (rows':List aW) (j:Nat) (r:aW)=>An7 (v=.ref r.a) (Kp s ag) (St hb tabs L' [(yW "elt", .str c u),(yW "i", .int i t),(yW "b2j", .ref d2),(yW "b", vb),(yW "self", .ref x)] ((d2,o2')::(L,oL)::(x,smO dx)::(dx,od4)::(rows'.map aW.ob++(T++own1))) ag.heap) (o2'.IsDictOf (Ak pw w) (rows'.map aW.kv)) (rows'[j]? = some r) (r.vs.length<=1000) (cJ (lb.take (i+1)) (rows'.set j ⟨r.c,r.a,r.vs++[.int i t],r.n+1⟩))) 1 G S10 rfl hd2 (k:=c) dK (λv hv=>?_) (λhn cr o2' S11 hd2'=>?_) hlen) ?_ (λZ Z z=>z)
  ·obtain⟨j,r,hj,rfl,rfl⟩:=cV hv
   refine⟨o2,rows,j,r,rfl,⟨hKp.os,hKp.gens⟩,?_,hd2,hj,?_,?_⟩
   ·rw[<- zu]
    exact S10.sub (zl _ _)
   ·rw[(hrows.at_ r (zm hj)).len]
    have:=gJ (lb.take i) r.c
    exact z6t hi hle hsm this
   ·have:=hrows.old hj (t:=t) (n:=r.n+1)
    rw[hle] at this
    rw[htk];exact this
  ·refine⟨o2',rows++[(⟨c,a,[],0⟩:aW)],rows.length,⟨c,a,[],0⟩,rfl,⟨hKp.os,hKp.gens⟩,?_,?_,by simp,by simp,?_⟩
   ·refine S11.perm ?_
    show ((a,ap [] 0)::(d2,o2')::(L,oL)::(x,smO dx)::(dx,od4)::(rows.map aW.ob++T++own1)).Perm _
    rw[zD,zu,zu]
    have:((a,ap [] 0)::((d2,o2')::(L,oL)::(x,smO dx)::(dx,od4)::rows.map aW.ob++(T++own1))).Perm ((d2,o2')::(L,oL)::(x,smO dx)::(dx,od4)::rows.map aW.ob++(a,ap [] 0)::(T++own1)):=zs.symm
    exact this
   ·rw[<- ix hn];exact hd2'
   ·have:=hrows.new (cX hn) (a:=a) (t:=t) (n:=1)
    rw[hle] at this
    rw[htk,IG _ _ (zh _)]
    simpa using this
  ·rintro v ag ⟨o2',rows',j,r,rfl,hKp2,S12,hd2',hj,hvs,hrows'⟩
   refine aq S12 (.new (by kernel_rfl)) (λh13 S13=>bS (aV (ac S13 m0 ?_)))
   have hat:((d2,o2')::(L,oL)::(x,smO dx)::(dx,od4)::(rows'.map aW.ob++(T++own1)))[4+j]? = some (r.a,ap r.vs r.n):=by
    rw[M4]
    exact yz (X:=T++own1) hj
   refine cM S13 (zm hat) Bu CL (aI (bln S13 m2 (cB (4+j) S13 hat ?_ (up 9000 hvs))))
   refine λh14 S14=>aF ⟨[(yW "b2j", .ref d2),(yW "b", vb),(yW "self", .ref x)],(d2,o2')::(L,oL)::(x,smO dx)::(dx,od4)::((rows'.set j ⟨r.c,r.a,r.vs++[.int i t],r.n+1⟩).map aW.ob++T),?_,⟨rfl,o2',_,rfl,?_,hrows'⟩,?_,⟨hKp2.os,hKp2.gens⟩⟩
   ·refine (S14.forget (l':=[(yW "b2j", .ref d2),(yW "b", vb),(yW "self", .ref x)]) ?_).perm ?_
    ·exact .cons _ (.cons _ (.cons _ (Ag _)))
    ·have e:=xz (X:=T++own1) (r':=⟨r.c,r.a,r.vs++[.int i t],r.n+1⟩) hj
     rw[M4 4 j]
     show ((d2,o2')::(L,oL)::(x,smO dx)::(dx,od4)::(rows'.map aW.ob++(T++own1)).set j (aW.ob ⟨r.c,r.a,r.vs++[.int i t],r.n+1⟩)).Perm ((d2,o2')::(L,oL)::(x,smO dx)::(dx,od4)::(((rows'.set j ⟨r.c,r.a,r.vs++[.int i t],r.n+1⟩).map aW.ob++T)++own1))
     rw[e,zu]
   ·have e:List.map aW.kv (rows'.set j ⟨r.c,r.a,r.vs++[B8 i t],r.n+1⟩)=_:=xA hj rfl rfl
    rw[e];exact hd2'
   ·exact λp hp=>aj (aj (aj (aj (yZ _ (hRb p hp)))))
 ·rintro s' l' T' hKp S7 ⟨rfl,o2,rows,rfl,hd2,hrows⟩ hRo
  have htk:lb.take lb.length=lb:=zX
  rw[htk] at hrows
  refine j3 (rm G S7 nL (zn (uC S7 ?_)))
  refine λsj led bc S8=>cT (ac S8 m2 (aN 4 G S8 m3 rfl hf4 (p2 _ _) ?_ (hz (.ref d2) (.ref sj) .none).2.1))
  refine λbf od9 S9 hf9=>aU (aq S9 (.new (by kernel_rfl)) ?_)
  refine λd5 S10=>aC (bR (ac S10 m3 (bB G S10 m3 m4 hf9 (hij _ _) (aq S10 (.new (by kernel_rfl)) ?_))))
  refine λcr S11=>lQ (BY (ac S11 m0 (truthy_none ⟨nofun,λZ=>?_⟩)))
  refine aF (j3 (rm G S11 nL (zn (uC S11 ?_))))
  refine λsp led' cu S12=>cT (ac S12 m4 (aN 5 G S12 m4 rfl hf9 (p3 _ _ _) ?_ (hz (.ref d2) (.ref sj) (.ref sp)).2.2))
  refine λh13 od13 S13 hf13=>aU (aq S13 (.new (by kernel_rfl)) ?_)
  refine λh14 S14=>aC (jL G S14 B0 (bln S14 m4 (Vb.len S14 (λp hp=>aj (aj (aj (aj (aj (aj (yZ _ (hRb p hp)))))))) ?_)))
  refine λb6 br=>aq S14 (.new (by kernel_rfl)) (λh15 S15=>lQ (cD (BY (bR (ac S15 m6 (bB G S15 m4 m5 hf13 (haj _ _ _) (y8 ⟨λZ=>?_,nofun⟩)))))))
  refine cD (wpAny_isTrue_Compare1 (ac S15 m0 (wpAny_Constant_int (LY ?_))))
  have hsm:=Vb.small
  refine y8 ⟨λhb=>absurd (of_decide_eq_true hb) (z6u hsm),λZ=>?_⟩
  refine⟨nofun,λZ=>?_⟩
  refine aF (aF (k _ _ _ _ _ _ _ led led' ?kp ?st hf13 hd2 hrows))
  case kp=>exact⟨hKp.os,hKp.gens⟩
  case st=>exact (S15.leave 3 rfl r).perm ((zi (l₁:=[(sp,cK led'),(sj,cK led),(d2,o2)]) (l₂:=[(x,smO dx),(dx,od13)])).append_right _)
end
section
variable{x:ze}{l:LV}{T:LO}{fl f1 f2 f3 f4:LV}{T₀:LO}{v bv:Value}{Rb:LO}{fl1:Value->LV}{fl2:Value->Value->LV}{fl3:Value->Value->Value->LV}{C:Prop}
abbrev rI(w:Am)(hb:AE)(L x dx:ze)(l:LV)(T:LO)(R:Cg->y9->Prop)(lb:List zH)(fl3:Value->Value->Value->LV)(s:y9):Prop :=
 ∀ s' od' d2 sj sp o2 rows led led',Kp s s'->St hb tabs L l ((x,smO dx)::(dx,od')::(sp,cK led')::(sj,cK led)::(d2,o2)::(rows.map aW.ob++T)) s'.heap->bH od' (fl3 (.ref d2) (.ref sj) (.ref sp)) ->
   o2.IsDictOf (Ak pw w) (rows.map aW.kv)->cJ lb rows->R (.ok (.ret .none)) s'
theorem set_seq2 (G:GK w hb) (S:St hb tabs L l ((x,smO dx)::(dx,od)::T) s.heap) (hd:A.depth+1<zg) (hh:A.handled=none) (hf:bH od fl) (ha:(yW "b", bv)∈fl) (hav:L9 bv=true)
  (Vb:SqV pw w hb tabs Rb v lb) (hRb:∀ p∈Rb,p∈T) (his:aP w T₀ v bv C) (hT0:∀ p∈T₀,p∈T)
  (q1:Put fl (yW "b") v f1) (q2:Put f1 (yW "matching_blocks") .none f2) (q3:Put f2 (yW "opcodes") .none f3) (q4:Put f3 (yW "fullbcount") .none f4)
  (hz1:Ce f1.length 1000=true) (hz2:Ce f2.length 1000=true) (hz3:Ce f3.length 1000=true) (hz4:Ce f4.length 1000=true)
  (hb4:(yW "b", v)∈f4) (hnm:(f4.map (·.1)).contains (yW "_SequenceMatcher__chain_b")=false)
  (p1:∀ v,Put f4 (yW "b2j") v (fl1 v)) (p2:∀ v u,Put (fl1 v) (yW "bjunk") u (fl2 v u)) (p3:∀ v u z,Put (fl2 v u) (yW "bpopular") z (fl3 v u z))
  (hij:∀ v u,(yW "isjunk", .none)∈fl2 v u) (haj:∀ v u z,(yW "autojunk", .bool true)∈fl3 v u z)
  (hz:∀ v u z,Ce (fl1 v).length 1000=true/\Ce (fl2 v u).length 1000=true/\Ce (fl3 v u z).length 1000=true)
  (k0:C->∀ s',Kp s s'->St hb tabs L l ((x,smO dx)::(dx,od)::T) s'.heap->R (.ok (.ret .none)) s')
  (k:rI w hb L x dx l T R lb fl3 s) :
  zS (y0 pw w) A (.call (.ref 209) ⟨[.ref x,v],[]⟩) R s:=by
 refine dQ G S (lk209 _) (dn 1 hd) (binds:=[(yW "self", .ref x),(yW "b", v)]) (body:=aD (st2 pw 6 4)) (AW (by kernel_rfl)) (λL' ai oL r S'=>eZ (dA (ac S' m1 (bR (ac S' m0 (bB G S' m1 m2 hf ha ?_ (hv:=hav)))))))
 refine his (S'.nb G) (λp hp=>S'.obj p (aj (aj (aj (hT0 p hp))))) λc hc=>(y8 ⟨λhb=>?_,λhb=>?_⟩)
 ·exact uF (k0 (hc hb) _ ⟨rfl,id⟩ (S'.leave 0 rfl r))
 ·refine aF (cZ (ac S' m1 (ac S' m0 (aN 2 G S' m1 rfl hf q1 ?_ hz1))))
  refine λam od2 af hf2=>j3 (Bw (cT (ac af m0 (aN 2 G af m1 rfl hf2 q2 ?_ hz2))))
  refine λak od3 ae hf3=>cT (ac ae m0 (aN 2 G ae m1 rfl hf3 q3 ?_ hz3))
  refine λaw od4 S4 hf4=>cZ (Bw (ac S4 m0 (aN 2 G S4 m1 rfl hf4 q4 ?_ hz4)))
  refine λay od5 S5 hf5=>bS (aV (ac S5 m0 (dL (f:=216) G S5 m1 m2 hf5 ?_ (hn:=hnm))))
  refine cS G (zn ⟨⟨_,_,_,S5⟩,?_⟩)
  have S6:=S5.perm (T':=(x,smO dx)::(dx,od5)::(L,oL)::T) ((zi (l₁:=[(L,oL)]) (l₂:=[(x,smO dx),(dx,od5)])).append_right T)
  refine w6 G S6 hd hh hf5 hb4 Vb (λp hp=>aj (hRb p hp)) p1 p2 p3 hij haj hz (λs' od' d2 sj sp o2 rows led led' hKp S7 hf7 hd2 hrows=>aF ?_)
  have S8:=S7.perm (T':=(L,oL)::(x,smO dx)::(dx,od')::(sp,cK led')::(sj,cK led)::(d2,o2)::(rows.map aW.ob++T)) (zs (l₁:=(x,smO dx)::(dx,od')::(sp,cK led')::(sj,cK led)::(d2,o2)::rows.map aW.ob))
  refine k _ _ _ _ _ _ _ led led' ?kp ?st hf7 hd2 hrows
  case kp=>exact⟨hKp.os,hKp.gens⟩
  case st=>exact S8.leave 0 rfl r
end
noncomputable abbrev mf(va vb mb fc j sj sp:Value):LV :=
 [(yW "isjunk", .none),(yW "a", va),(yW "b", vb),(yW "autojunk", .bool true),(yW "matching_blocks", mb),(yW "opcodes", .none),(yW "fullbcount", fc),
  (yW "b2j", j),(yW "bjunk", sj),(yW "bpopular", sp)]
section
variable{x:ze}{l:LV}{T:LO}{fl:LV}{Ra Rb:LO}{tabs:List ze}
theorem yO{rest:List Value}{kw:LV}{fI:ze}(G:Gd K tabs hb)(S:St hb tabs L l T s.heap)
  (h:∀ x dx h',St hb tabs L l ((x,(⟨.ref C,some dx,.plain,#[]⟩:AO))::(dx,dict0)::T) h' ->
   zS (y0 prog w) (A.under (.builtin "type.__call__" ⟨.ref C::rest,kw⟩)) (.call (.ref fI) ⟨.ref x::rest,kw⟩) (InitBack x R) (wh s h'))
  (hm:makesIn K C=true:=by kernel_rfl) (hi:IW K (.ref C) "__init__" = some (some (.ref fI)):=by kernel_rfl) (hf:typeIn K (.ref fI)=some (.type "function"):=by kernel_rfl) :
  zS (y0 prog w) A (.call (.ref C) ⟨rest,kw⟩) R s:=by
 have X:=S.kin G
 obtain⟨hh,g,d,t,os⟩:=s
 refine make_core (makes_of X hm) (DL X hi) (λself=>bind_fn X self hf) (.inl rfl) (h _ hh.objs.size _ ?_)
 have:=(S.push emptyDict).push (instObj C hh.objs.size)
 rwa [GL] at this
end
section
variable{x:ze}{l:LV}{T:LO}{fl:LV}{Ra Rb:LO}
theorem set_seqs(G:GK w hb)(S:St hb tabs L l ((x,smO dx)::(dx,od)::T) s.heap)(hd:A.depth+2<zg)(hh:A.handled=none)
  (hf:bH od [(yW "isjunk", .none),(yW "a", .none),(yW "b", .none),(yW "autojunk", .bool true)])
  (Vb:SqV pw w hb tabs Rb vb lb) (hRb:∀ p∈Rb,p∈T) (ha:aP w [] va .none False) (hb':aP w [] vb .none False)
  (k:rI w hb L x dx l T R lb (mf va vb .none .none) s) :
  zS (y0 pw w) A (.call (.ref 195) ⟨[.ref x,va,vb],[]⟩) R s:=by
 refine dQ G S (lk195 _) (dn 2 hd) (binds:=[(yW "self", .ref x),(yW "a", va),(yW "b", vb)]) (body:=aD (st2 pw 6 2)) (AW (by kernel_rfl)) (λL' ai oL r S'=>eZ (bS (aV (ac S' m0 (dL (f:=202) G S' m1 m2 hf (cS G (bln S' m1 ⟨⟨_,_,_,S'⟩,?_⟩)))))))
 have af:=S'.perm (T':=(x,smO dx)::(dx,od)::(L,oL)::T) ((zi (l₁:=[(L,oL)]) (l₂:=[(x,smO dx),(dx,od)])).append_right T)
 refine set_seq1 (C:=False) (av:=.none) (fl1:=[(yW "isjunk", .none),(yW "a", va),(yW "b", .none),(yW "autojunk", .bool true)])
  (fl2:=[(yW "isjunk", .none),(yW "a", va),(yW "b", .none),(yW "autojunk", .bool true),(yW "matching_blocks", .none)])
  (fl3:=[(yW "isjunk", .none),(yW "a", va),(yW "b", .none),(yW "autojunk", .bool true),(yW "matching_blocks", .none),(yW "opcodes", .none)])
  G af (by show A.depth+1<_;exact dn 1 hd) hf m1 rfl ha (λp hp=>by cases hp) (.there (by kernel_rfl) .here) (.there (by kernel_rfl) (.there (by kernel_rfl) (.there (by kernel_rfl) (.there (by kernel_rfl) .nil))))
  (.there (by kernel_rfl) (.there (by kernel_rfl) (.there (by kernel_rfl) (.there (by kernel_rfl) (.there (by kernel_rfl) .nil))))) rfl rfl rfl nofun ?_
 refine λak tk od3 ae hf3=>bS (aV (ac ae m0 (dL (f:=209) G ae m0 m1 hf3 (cS G (bln ae m2 ⟨⟨_,_,_,ae⟩,?_⟩)))))
 refine set_seq2 (C:=False) (bv:=.none) (f1:=[(yW "isjunk", .none),(yW "a", va),(yW "b", vb),(yW "autojunk", .bool true),(yW "matching_blocks", .none),(yW "opcodes", .none)])
  (f2:=[(yW "isjunk", .none),(yW "a", va),(yW "b", vb),(yW "autojunk", .bool true),(yW "matching_blocks", .none),(yW "opcodes", .none)])
  (f3:=[(yW "isjunk", .none),(yW "a", va),(yW "b", vb),(yW "autojunk", .bool true),(yW "matching_blocks", .none),(yW "opcodes", .none)])
  (f4:=[(yW "isjunk", .none),(yW "a", va),(yW "b", vb),(yW "autojunk", .bool true),(yW "matching_blocks", .none),(yW "opcodes", .none),(yW "fullbcount", .none)])
  (fl1:=λj=>[(yW "isjunk", .none),(yW "a", va),(yW "b", vb),(yW "autojunk", .bool true),(yW "matching_blocks", .none),(yW "opcodes", .none),(yW "fullbcount", .none),(yW "b2j", j)])
  (fl2:=λj sj=>[(yW "isjunk", .none),(yW "a", va),(yW "b", vb),(yW "autojunk", .bool true),(yW "matching_blocks", .none),(yW "opcodes", .none),(yW "fullbcount", .none),(yW "b2j", j),(yW "bjunk", sj)])
  (fl3:=mf va vb .none .none)
  G ae (by show A.depth+1+1<_;exact hd) hh hf3 m2 rfl Vb (λp hp=>aj (hRb p hp)) hb' (λp hp=>by cases hp)
  (.there (by kernel_rfl) (.there (by kernel_rfl) .here))
  (.there (by kernel_rfl) (.there (by kernel_rfl) (.there (by kernel_rfl) (.there (by kernel_rfl) .here))))
  (.there (by kernel_rfl) (.there (by kernel_rfl) (.there (by kernel_rfl) (.there (by kernel_rfl) (.there (by kernel_rfl) .here)))))
  (.there (by kernel_rfl) (.there (by kernel_rfl) (.there (by kernel_rfl) (.there (by kernel_rfl) (.there (by kernel_rfl) (.there (by kernel_rfl) .nil))))))
  rfl rfl rfl rfl m2 (by kernel_rfl)
  (λZ=>.there (by kernel_rfl) (.there (by kernel_rfl) (.there (by kernel_rfl) (.there (by kernel_rfl) (.there (by kernel_rfl) (.there (by kernel_rfl) (.there (by kernel_rfl) .nil)))))))
  (λZ Z=>.there (by kernel_rfl) (.there (by kernel_rfl) (.there (by kernel_rfl) (.there (by kernel_rfl) (.there (by kernel_rfl) (.there (by kernel_rfl) (.there (by kernel_rfl) (.there (by kernel_rfl) .nil))))))))
  (λZ Z Z=>.there (by kernel_rfl) (.there (by kernel_rfl) (.there (by kernel_rfl) (.there (by kernel_rfl) (.there (by kernel_rfl) (.there (by kernel_rfl) (.there (by kernel_rfl) (.there (by kernel_rfl) (.there (by kernel_rfl) .nil)))))))))
  (λZ Z=>m0) (λZ Z Z=>m3) (λZ Z Z=>⟨rfl,rfl,rfl⟩) nofun ?_
 refine λs' od' d2 sj sp o2 rows led led' hKp S7 hf7 hd2 hrows=>aF ?_
 have S8:=S7.perm (T':=(L,oL)::(x,smO dx)::(dx,od')::(sp,cK led')::(sj,cK led)::(d2,o2)::(rows.map aW.ob++T)) (zs (l₁:=(x,smO dx)::(dx,od')::(sp,cK led')::(sj,cK led)::(d2,o2)::rows.map aW.ob))
 refine k _ _ _ _ _ _ _ led led' ?kp ?st hf7 hd2 hrows
 case kp=>exact⟨hKp.os,hKp.gens⟩
 case st=>exact S8.leave 0 rfl r
theorem vv{args:M1}(G:GK w hb)(S:St hb tabs L l ((x,smO dx)::(dx,dict0)::T) s.heap)(hd:A.depth+3<zg)(hh:A.handled=none)
  (Vb:SqV pw w hb tabs Rb vb lb) (hRb:∀ p∈Rb,p∈T) (ha:aP w [] va .none False) (hb':aP w [] vb .none False)
  (hbind:Fi s (yI w.params) args [(yW "self", .ref x),(yW "isjunk", .none),(yW "a", va),(yW "b", vb),(yW "autojunk", .bool true)])
  (k:rI w hb L x dx l T R lb (mf va vb .none .none) s) :
  zS (y0 pw w) A (.call (.ref 188) args) R s:=by
 refine dQ G S (lk188 _) (dn 3 hd) (body:=aD (st2 pw 6 1)) hbind ?_
 intro L' ai oL r S'
 have hf0:bH dict0 []:=⟨[],0,rfl,.nil,rfl⟩
 refine eZ (cZ (ac S' m1 (ac S' m0 (aN (fl':=[(yW "isjunk", .none)]) 2 G S' m1 rfl hf0 .nil ?_))))
 refine λam od2 af hf2=>j3 (Bw (cT (ac af m0 (aN (fl':=[(yW "isjunk", .none),(yW "a", .none)]) 2 G af m1 rfl hf2 (.there (by kernel_rfl) .nil) ?_))))
 refine λak od3 ae hf3=>cT (ac ae m0 (aN (fl':=[(yW "isjunk", .none),(yW "a", .none),(yW "b", .none)]) 2 G ae m1 rfl hf3 (.there (by kernel_rfl) (.there (by kernel_rfl) .nil)) ?_))
 refine λaw od4 S4 hf4=>cZ (ac S4 m4 (ac S4 m0 (aN (fl':=[(yW "isjunk", .none),(yW "a", .none),(yW "b", .none),(yW "autojunk", .bool true)]) 2 G S4 m1 rfl hf4 (.there (by kernel_rfl) (.there (by kernel_rfl) (.there (by kernel_rfl) .nil))) ?_)))
 refine λay od5 S5 hf5=>bS (aV (ac S5 m0 (dL (f:=195) G S5 m1 m2 hf5 (cS G (bl S5 m2 (bln S5 m3 ⟨⟨_,_,_,S5⟩,?_⟩))))))
 have S6:=S5.perm (T':=(x,smO dx)::(dx,od5)::(L,oL)::T) ((zi (l₁:=[(L,oL)]) (l₂:=[(x,smO dx),(dx,od5)])).append_right T)
 refine set_seqs G S6 (by show A.depth+1+2<_;exact hd) hh hf5 Vb (λp hp=>aj (hRb p hp)) ha hb' (λs' od' d2 sj sp o2 rows led led' hKp S7 hf7 hd2 hrows=>aF ?_)
 have S8:=S7.perm (T':=(L,oL)::(x,smO dx)::(dx,od')::(sp,cK led')::(sj,cK led)::(d2,o2)::(rows.map aW.ob++T)) (zs (l₁:=(x,smO dx)::(dx,od')::(sp,cK led')::(sj,cK led)::(d2,o2)::rows.map aW.ob))
 refine k _ _ _ _ _ _ _ led led' ?kp ?st hf7 hd2 hrows
 case kp=>exact⟨hKp.os,hKp.gens⟩
 case st=>exact S8.leave 0 rfl r
end
noncomputable def cnt(c:zH):List zH->Nat
 | []=>0
 | d::l=>(if d=c then 1 else 0)+cnt c l
theorem fM{c d:zH}{l:List zH}:cnt c (d::l)=(if d=c then 1 else 0)+cnt c l:=rfl
theorem bG(c:zH)(l r:List zH):cnt c (l++r)=cnt c l+cnt c r:=by
 induction l with
 | nil=>exact (Fg _).symm
 | cons d l ih=>rw[Bp,fM,ih,fM];exact z0a
theorem nF(c d:zH)(l:List zH):cnt c (l++[d])=cnt c l+if d=c then 1 else 0:=by
 rw[bG];rfl
theorem kC{c:zH}:∀ {l:List zH},cnt c l=0↔c∉l:=by
 intro l
 induction l with
 | nil =>
  exact⟨λZ h=>(nomatch h),λZ=>rfl⟩
 | cons d l ih =>
  rw[fM,y7]
  by_cases h:d=c
  ·rw[if_pos h];constructor
   ·intro q;lia
   ·intro q;exact absurd (.inl h.symm) q
  ·rw[if_neg h,Fg,ih]
   constructor
   ·rintro q (e|e)
    ·exact h e.symm
    ·exact q e
   ·intro q e;exact q (.inr e)
noncomputable def qpr(lb:List zH):List zH->Nat
 | []=>0
 | c::r=>qpr lb r+if cnt c r.reverse<cnt c lb then 1 else 0
theorem vQ{lb r:List zH}{c:zH}:qpr lb (c::r)=qpr lb r+if cnt c r.reverse<cnt c lb then 1 else 0:=rfl
noncomputable def qp(lb la:List zH):Nat:=qpr lb la.reverse
theorem pY(lb l:List zH)(c:zH):qp lb (l++[c])=qp lb l+if cnt c l<cnt c lb then 1 else 0:=by
 unfold qp
 rw[List.reverse_append]
 show qpr lb (c::l.reverse)=_
 rw[vQ,List.reverse_reverse]
theorem uE(lb:List zH):∀ l,qpr lb l<=l.length
 | []=>zh _
 | c::r=>by
  have:=uE lb r
  rw[vQ,zI]
  split<;> lia
theorem xV(lb l:List zH):qp lb l<=l.length:=by
 have:=uE lb l.reverse
 rwa [CZ] at this
def Fb(kvs:LV)(lb:List zH):Prop:=∀ c,(c∉lb->AS kvs c=none)/\(c∈lb->∃ t,AS kvs c=some (.int (cnt c lb) t))
theorem Fb.nil:Fb [] []:=λc=>⟨λZ=>rfl,λh=>nomatch h⟩
theorem Fb.get{kvs:LV}{lb:List zH}(h:Fb kvs lb)(c:zH)(u:AN):∃ t,(AS kvs c).getD (.int 0 u)=.int (cnt c lb) t:=by
 by_cases q:c∈lb
 ·obtain⟨t,e⟩:=(h c).2 q
  exact⟨t,by rw[e];rfl⟩
 ·refine⟨u,?_⟩
  rw[(h c).1 q,kC.mpr q];rfl
theorem Fb.snoc{kvs:LV}{lb:List zH}(h:Fb kvs lb)(c:zH)(t:AN):Fb (Ht kvs c (.int (cnt c lb+1:Int) t)) (lb++[c]):=λd=>by
 rw[cA,nF]
 by_cases e:c=d
 ·subst e
  simp
 ·simp only[if_neg e,Ii]
  refine⟨λq=>(h d).1 λz=>q (y5 _ z),λq=>(h d).2 ?_⟩
  rcases zc.mp q with z|z
  ·exact z
  ·exact absurd (y6.mp z).symm e
def Av(kvs:LV)(JO lb:List zH):Prop:=∀ c,(c∉JO->AS kvs c=none)/\(c∈JO->∃ t,AS kvs c=some (.int ((cnt c lb:Int) - cnt c JO) t))
theorem Av.nil{lb:List zH}:Av [] [] lb:=λc=>⟨λZ=>rfl,λh=>nomatch h⟩
theorem Av.some_iff{kvs:LV}{JO lb:List zH}(h:Av kvs JO lb)(c:zH):(AS kvs c).isSome=true↔c∈JO:=by
 by_cases q:c∈JO
 ·obtain⟨t,e⟩:=(h c).2 q
  simp[e,q]
 ·simp[(h c).1 q,q]
theorem Av.snoc{kvs:LV}{JO lb:List zH}(h:Av kvs JO lb)(c:zH)(t:AN):Av (Ht kvs c (.int ((cnt c lb:Int) - cnt c JO - 1) t)) (JO++[c]) lb:=λd=>by
 rw[cA,nF]
 by_cases e:c=d
 ·subst e
  simp only[if_true]
  refine⟨λq=>absurd (yZ _ (.head _)) q,λZ=>⟨t,?_⟩⟩
  congr 2
  exact zbm
 ·simp only[if_neg e,Ii]
  refine⟨λq=>(h d).1 λz=>q (y5 _ z),λq=>(h d).2 ?_⟩
  rcases zc.mp q with z|z
  ·exact z
  ·exact absurd (y6.mp z).symm e
theorem Fb.case{kvs:LV}{lb JO:List zH}{c:zH}{u:AN}(P:Value->Prop)(h:Fb kvs lb)(hc:c∉JO)(k:∀ t,P (.int ((cnt c lb:Int) - cnt c JO) t)):P ((AS kvs c).getD (.int 0 u)):=by
 obtain⟨t,e⟩:=h.get c u
 rw[e]
 have:=k t
 rw[kC.mpr hc] at this
 simpa using this
def Fc(w:Am)(T:LO)(fc:Value)(lb:List zH):Prop:=fc=.none\/Ex3 λdf o kvs=>An4 (fc=.ref df) ((df,o)∈T) (o.IsDictOf (Ak pw w) kvs) (Fb kvs lb)
theorem Fc.mono{w:Am}{T T':LO}{fc:Value}{lb:List zH}(h:Fc w T fc lb)(hs:∀ p∈T,p∈T'):Fc w T' fc lb:=by
 rcases h with h|⟨df,o,kvs,a,b,c,d⟩
 ·exact .inl h
 ·exact .inr ⟨df,o,kvs,a,hs _ b,c,d⟩
section
variable{x:ze}{l:LV}{T:LO}{j sj:Value}{Ra Rb:LO}
noncomputable abbrev yK(w:Am)(L':ze):ID:=Ac (yE w.params) L' 260
theorem n6 (G:GK w hb) {L' df:ze}{oL of:AO}{kvs:LV} (S:St hb tabs L' [(yW "self", .ref x)] ((L,oL)::(x,smO dx)::(dx,od)::T) s.heap) (r:bL oL l) (hd:A.depth+1<zg) (hh:A.handled=none)
  (hf:bH od (mf va vb mb (.ref df) j sj sp)) (hdf:(df,of)∈T) (hof:of.IsDictOf (Ak pw w) kvs) (hfb:Fb kvs lb)
  (Va:SqV pw w hb tabs Ra va la) (Vb:SqV pw w hb tabs Rb vb lb) (hRa:∀ p∈Ra,p∈T) (hRb:∀ p∈Rb,p∈T)
  (k:∀ s' t',Kp s s'->St hb tabs L l ((x,smO dx)::(dx,od)::T) s'.heap->R (.ok (.ret (.float (bK (qp lb la) (la.length+lb.length)) t'))) s') :
  y4 (y0 pw w) (A.deeper (yK w L')) (zY ((aD (st2 pw 6 11)).drop 2) (yK w L')) (kFn R) E s:=by
 refine aC (bR (ac S m0 (bB G S m1 m2 hf m6 (aq S (.new (by kernel_rfl)) ?_))))
 refine λam af=>aC (iK af ?_)
 refine λd ak ae=>aq ae (.new (by kernel_rfl)) (λaw S4=>eM [yW "availhas", yW "matches"] (args_cons (bR (ac S4 m0 (pW "dict.__contains__" S4 m0 (eH (knd:=Ak pw w)) ?_ ?_ ?_)))))
 rotate_left
 ·exact slot_dict_contains.lookup
 ·exact B.type_dict_contains
 refine λu ay S5=>args_cons (wpAny_Constant_int (zn ⟨rfl,rfl,hh,_,_,_,_,_,S5,?_⟩))
 refine λaz S6=>cU S6 (.new (by kernel_rfl)) (λba S7=>cU S7 (.new (by kernel_rfl)) (λbc S8=>eQ (eY (bR (ac S8 m4 (bB G S8 m3 m4 hf m1 ?_ (hv:=Va.hand)))))))
 refine Va.iter S8 (λp hp=>aj (aj (aj (aj (aj (hRa p hp)))))) ?_
 intro I o Wt fp bf IV hw S9
 let H:Nat->AN->LV->LO->Prop:=λi Z l₁ T1=>Ex3 λtm o2 kv2=>An5 (l₁=[(yW "availhas", .ref u),(yW "matches", .int (qp lb (la.take i)) tm),(yW "avail", .ref d),(yW "fullbcount", .ref df),(yW "self", .ref x)]) (T1=(u,bmO "dict.__contains__" d)::(d,o2)::(L,oL)::(x,smO dx)::(dx,od)::T) (o2.IsDictOf (Ak pw w) kv2) (Av kv2 (la.take i) lb) (kv2.length<=i)
 refine IV.loop (z:=s) hh S9 hw
  H
  ?_ (λp hp=>aj (aj (aj (aj (aj (hRa p hp)))))) ?_ ?_
 ·exact⟨_,dict0,[],rfl,rfl,eH,Av.nil,zh _⟩
 ·rintro E1 i v l₁ T1 own1 s₁ hi ⟨c,u',hc,rfl⟩ ⟨tm,o2,kv2,rfl,rfl,hd2,hav,hlen⟩ S10 hRo hKp
  have hsm:=Va.small
  have hsb:=Vb.small
  refine aU (aq S10 (.new (by kernel_rfl)) ?_)
  intro cr S11
  let P:y9->Prop:=λag=>∃ tn,Kp s₁ ag/\St hb tabs L' [(yW "numb", .int ((cnt c lb:Int) - cnt c (la.take i)) tn),(yW "elt", .str c u'),(yW "availhas", .ref u),(yW "matches", .int (qp lb (la.take i)) tm),(yW "avail", .ref d),(yW "fullbcount", .ref df),(yW "self", .ref x)]
   ((u,bmO "dict.__contains__" d)::(d,o2)::(L,oL)::(x,smO dx)::(dx,od)::(T++own1)) ag.heap
  refine k7 P ?_ ?_
  ·refine BY (bW (ac S11 m1 (eI (id := "dict.__contains__") (d:=d) (bln S11 m0 ⟨S11.obj _ m0,?_⟩))))
   refine mu G S11 m0 m1 hd2 (k:=c) dK (y8 ⟨λhb'=>?_,λhb'=>?_⟩)
   ·have hm:=(hav.some_iff c).mp hb'
    obtain⟨t,e⟩:=(hav c).2 hm
    refine aC (Dt (ac S11 m3 (ac S11 m0 (xR S11 m1 hd2 (k:=c) dK e (aq S11 (.new (by kernel_rfl)) ?_)))))
    exact λcu S12=>aF ⟨rfl,_,⟨rfl,id⟩,S12⟩
   ·have hm:c∉la.take i:=λq=>by rw[(hav.some_iff c).mpr q] at hb';nomatch hb'
    refine aC (aV (ac S11 m4 (j0 S11 (aj (aj (aj (aj (aj (y5 _ hdf)))))) hof Ea FE (aI (bl S11 m0 (args_cons (wpAny_Constant_int ?_)))))))
    refine zn (pV G S11 (aj (aj (aj (aj (aj (y5 _ hdf)))))) hof (k:=c) dK (hfb.case (λv=>y4 _ _ (E9 _ _ v) _ _ _) hm λt=>(aq S11 (.new (by kernel_rfl)) ?_)))
    exact λcu S12=>aF ⟨rfl,_,⟨rfl,id⟩,S12⟩
  ·rintro ag ⟨tn,hKp2,S12⟩
   refine k6 (wpAny_BinOp (ac S12 m0 (wpAny_Constant_int (Ij (ac S12 m4 (ac S12 m1 (iI 1 S12 rfl hd2 (k:=c) dK ?_ (z6x hi hlen hsm))))))))
   intro h13 o3 S13 hd3
   let P:y9->Prop:=λs3=>∃ tm',Kp s₁ s3/\St hb tabs L' [(yW "numb", .int ((cnt c lb:Int) - cnt c (la.take i)) tn),(yW "elt", .str c u'),(yW "availhas", .ref u),(yW "matches", .int (qp lb (la.take (i+1))) tm'),(yW "avail", .ref d),(yW "fullbcount", .ref df),(yW "self", .ref x)]
    ((u,bmO "dict.__contains__" d)::(d,o3)::(L,oL)::(x,smO dx)::(dx,od)::(T++own1)) s3.heap
   refine k7 P ?_ ?_
   ·have htk:la.take (i+1)=la.take i++[c]:=by rw[Ah,hc];rfl
    refine wpAny_isTrue_Compare1 (ac S13 m0 (wpAny_Constant_int (Ik (y8 ⟨λhb'=>?_,λhb'=>?_⟩))))
    ·have hlt:=of_decide_eq_true hb'
     refine aC (wpAny_BinOp (ac S13 m3 (wpAny_Constant_int (CP (aq S13 (.old (.there (.there (.there .here)))) ?_)))))
     refine λh14 S14=>aF ?_
     have e:(qp lb (la.take (i+1)):Int)=qp lb (la.take i)+1:=by
      rw[htk,pY,if_pos (by exact z6z hb')];rfl
     rw[<- e] at S14
     exact⟨rfl,_,⟨hKp2.os,hKp2.gens⟩,S14⟩
    ·have hlt:=of_decide_eq_false hb'
     refine aF ?_
     have e:qp lb (la.take (i+1))=qp lb (la.take i):=by
      rw[htk,pY,if_neg (by exact z70 hb')];rfl
     rw[<- e] at S13
     exact⟨rfl,_,⟨hKp2.os,hKp2.gens⟩,S13⟩
   ·rintro s3 ⟨tm',hKp3,S14⟩
    have htk:la.take (i+1)=la.take i++[c]:=by rw[Ah,hc];rfl
    refine aF ⟨_,_,S14.forget (.cons _ (.cons _ (Ag _))),⟨tm',o3,_,rfl,rfl,hd3,?_,?_⟩,?_,(kt hKp hKp3)⟩
    ·rw[htk];exact hav.snoc c _
    ·exact zk (gD _ _ _) (z6y hlen)
    ·exact λp hp=>aj (aj (aj (aj (aj (hRa p hp)))))
 ·rintro s' l' T' hKp S10 ⟨tm,o2,kv2,rfl,rfl,hd2,hav,hlen⟩ hRo
  have hsm:=Va.small
  have hsb:=Vb.small
  have hql:=xV lb la
  rw[zX] at S10
  refine cP (tV G S10 (v:=.ref 173) (by kernel_rfl) (bl S10 m1 (args_cons (wpAny_BinOp (jL G S10 B0 (args_cons (bR ?_)))))))
  refine ac S10 m4 (bB G S10 m3 m4 hf m1 ?_ (hv:=Va.hand))
  refine zn (Va.len S10 (λp hp=>aj (aj (aj (aj (aj (hRa p hp)))))) ?_)
  refine λb6 br=>jL G S10 B0 (args_cons (bR (ac S10 m4 (bB G S10 m3 m4 hf m2 ?_ (hv:=Vb.hand)))))
  refine zn (Vb.len S10 (λp hp=>aj (aj (aj (aj (aj (hRb p hp)))))) ?_)
  refine λb7 du=>CP (zn ⟨⟨_,_,_,S10⟩,?_⟩)
  refine jK G (by exact S10) (by show A.depth+1<_;exact hd) (by exact z13) (by exact z14 hsm hql) (by exact z15) (by exact z16 hsm hsb) ?_
  intro az tk6 t6 S6
  have S7:=S6.sub (T':=(L,oL)::(x,smO dx)::(dx,od)::T) (.cons _ (.cons _ (Ag _)))
  refine k _ _ ?kp ?st
  case kp=>exact⟨hKp.os,hKp.gens⟩
  case st=>exact S7.leave 0 rfl r
theorem quick_ratio{T₀:LO}(hT0:∀ p∈T₀,p∈T)(G:GK w hb)(S:St hb tabs L l ((x,smO dx)::(dx,od)::T) s.heap)(hd:A.depth+1<zg)(hh:A.handled=none)
  {fc:Value} (hf:bH od (mf va vb mb fc j sj sp)) (hfc:Fc w T₀ fc lb)
  (Va:SqV pw w hb tabs Ra va la) (Vb:SqV pw w hb tabs Rb vb lb) (hRa:∀ p∈Ra,p∈T) (hRb:∀ p∈Rb,p∈T)
  (k:∀ s' t' od' X fc',Kp s s'->St hb tabs L l ((x,smO dx)::(dx,od')::(X++T)) s'.heap->bH od' (mf va vb mb fc' j sj sp)->Fc w (X++T₀) fc' lb->R (.ok (.ret (.float (bK (qp lb la) (la.length+lb.length)) t'))) s') :
  zS (y0 pw w) A (.call (.ref 260) ⟨[.ref x],[]⟩) R s:=by
 refine dQ G S (lk260 _) (dn 1 hd) (binds:=[(yW "self", .ref x)]) (body:=aD (st2 pw 6 11)) (AW (by kernel_rfl)) (λL' ai oL r S'=>eZ (k7 (λag=>Ex5 λod' X df o kvs=>An6 (Kp s ag) (St hb tabs L' [(yW "self", .ref x)] ((L,oL)::(x,smO dx)::(dx,od')::(X++T)) ag.heap) (bH od' (mf va vb mb (.ref df) j sj sp)) ((df,o)∈X++T₀) (o.IsDictOf (Ak pw w) kvs) (Fb kvs lb)) ?_ ?_))
 ·refine wpAny_isTrue_Compare1 (bR (ac S' m0 (bB G S' m1 m2 hf m6 ?_ (hv:=by rcases hfc with rfl|⟨_,_,_,rfl,_⟩<;> rfl))))
  refine Bw ?_
  rcases hfc with rfl|⟨df,o,kvs,rfl,hm,hd2,hfb⟩
  ·refine LX (y8 ⟨λZ=>?_,nofun⟩)
   refine j3 (iK S' ?_)
   refine λdf am af=>cT (ac af m0 (aN (fl':=mf va vb mb (.ref df) j sj sp) 3 G af m2 rfl hf (.there (by kernel_rfl) (.there (by kernel_rfl) (.there (by kernel_rfl) (.there (by kernel_rfl) (.there (by kernel_rfl) (.there (by kernel_rfl) .here)))))) ?_))
   refine λak od3 ae hf3=>aU (aq ae (.new (by kernel_rfl)) ?_)
   refine λaw S4=>eY (bR (ac S4 m1 (bB G S4 m2 m3 hf3 m2 ?_ (hv:=Vb.hand))))
   refine Vb.iter S4 (λp hp=>aj (aj (aj (aj (hRb p hp))))) ?_
   intro I o Wt fp ay IV hw S5
   let H:Nat->AN->LV->LO->Prop:=λi Z l₁ T1=>Ex2 λo2 kv2=>An5 (l₁=[(yW "fullbcount", .ref df),(yW "self", .ref x)]) (T1=(df,o2)::(L,oL)::(x,smO dx)::(dx,od3)::T) (o2.IsDictOf (Ak pw w) kv2) (Fb kv2 (lb.take i)) (kv2.length<=i)
   refine IV.loop (z:=s) hh S5 hw
    H
    ?_ (λp hp=>aj (aj (aj (aj (hRb p hp))))) ?_ ?_
   ·exact⟨dict0,[],rfl,rfl,eH,Fb.nil,zh _⟩
   ·rintro E1 i v l₁ T1 own1 s₁ hi ⟨c,u',hc,rfl⟩ ⟨o2,kv2,rfl,rfl,hd2,hfb,hlen⟩ S10 hRo hKp
    have hsb:=Vb.small
    have htk:lb.take (i+1)=lb.take i++[c]:=by rw[Ah,hc];rfl
    refine aU (aq S10 (.new (by kernel_rfl)) ?_)
    refine λcr S11=>k6 (wpAny_BinOp (aV (ac S11 m1 (j0 S11 m0 hd2 Ea FE (aI (bl S11 m0 (args_cons ?_)))))))
    refine wpAny_Constant_int (zn (pV G S11 m0 hd2 (k:=c) dK (hfb.case (JO:=[]) (λv=>y4 _ _ (Aq _ _) (λw s'=>y4 _ _ (EM _ v w) _ _ s') _ _) nofun λt=>(wpAny_Constant_int (CP (ac S11 m1 (ac S11 m0 ?_)))))))
    refine iI 0 S11 rfl hd2 (k:=c) dK ?_ (z6x hi hlen hsb)
    refine λh13 o3 S13 hd3=>aF ⟨_,_,S13.forget (.cons _ (Ag _)),⟨o3,_,rfl,rfl,hd3,?_,?_⟩,?_,⟨hKp.os,hKp.gens⟩⟩
    ·rw[htk]
     exact hfb.snoc c _
    ·exact zk (gD _ _ _) (z6y hlen)
    ·exact λp hp=>aj (aj (aj (aj (hRb p hp))))
   ·rintro s' l' T' hKp S10 ⟨o2,kv2,rfl,rfl,hd2,hfb,hlen⟩ hRo
    rw[zX] at hfb
    refine aF ⟨rfl,od3,[(df,o2)],df,o2,kv2,⟨hKp.os,hKp.gens⟩,?_,hf3,m0,hd2,hfb⟩
    exact (S10.forget (.cons _ (Ag _))).perm ((zi (l₁:=[(df,o2)]) (l₂:=[(L,oL),(x,smO dx),(dx,od3)])).append_right T)
  ·refine is_ref_none (y8 ⟨nofun,λZ=>?_⟩)
   exact aF ⟨rfl,od,[],df,o,kvs,⟨rfl,id⟩,S',hf,hm,hd2,hfb⟩
 ·rintro ag ⟨od',X,df,o,kvs,hKp,af,hf2,hm,hd2,hfb⟩
  have hm':(df,o)∈X++T:=by
   rcases zc.mp hm with q|q
   ·exact y5 _ q
   ·exact yZ _ (hT0 _ q)
  exact n6 G af r hd hh hf2 hm' hd2 hfb Va Vb (λp hp=>yZ _ (hRa p hp)) (λp hp=>yZ _ (hRb p hp)) (λs' t' hKp' ae=>k s' t' od' X (.ref df) (kt hKp hKp') ae hf2 (.inr ⟨df,o,kvs,rfl,hm,hd2,hfb⟩))
end
theorem jE (X:(KN w.params).In h):Cu M h (CJ (.ref 163) (.type "tuple")) true:=I0 X (by kernel_rfl)
theorem wg(X:(KN w.params).In h):Cu M h (CJ (.ref 163) (.ref 163)) true:=I0 X (by kernel_rfl)
theorem wf (X:(KN w.params).In h):Cu M h (CJ (.ref 163) (.type "object")) true:=I0 X (by kernel_rfl)
theorem qu (X:(KN w.params).In h):Cu M h (BH (.ref 163) "__init__") (some (.builtin "object.__init__")):=DL X (by kernel_rfl)
theorem qo(X:(KN w.params).In h):Cu M h (Ll (.ref 163)) none:=Du X (by kernel_rfl)
theorem qt(X:(KN w.params).In h):Cu M h (isType (.ref 163)) true:=Du X (by kernel_rfl)
theorem wq (X:(KN w.params).In h):Cu M h (EC (.ref 163) "__call__") (some (.builtin "type.__call__")):=looks_specialIn X (by kernel_rfl)
theorem x7 (X:(KN w.params).In h):Cu M h (B5 (.ref 163) (.type "type")) true:=looks_instIn X (by kernel_rfl)
theorem x9 (X:(KN w.params).In h):Cu M h (mroOf (.ref 163)) [.ref 163,.type "tuple", .type "object"]:=Du X (by kernel_rfl)
theorem uH:readsIn (KN w.params) 163 (.type "type")=true:=by kernel_rfl
theorem x8:findCls (KN w.params) (.ref 163) (.type "type") "__new__" = some (.get (.builtin "staticmethod.__get__") (.ref 164) .none (.ref 163)):=by kernel_rfl
theorem wk:findCls (KN w.params) (.type "tuple") (.type "type") "__new__" = some (.val (.builtin "tuple.__new__")):=by kernel_rfl
theorem sI (X:(KN w.params).In h) (t:ze):Cu M h (EB "tuple.__new__" ⟨[.ref 163,.ref t],[]⟩) ():=Du X (by kernel_rfl)
theorem wo (X:(KN w.params).In h):Cu M h (Hv "tuple.__new__" (.ref 163)) ():=Du X (by kernel_rfl)
theorem wj (X:(KN w.params).In h) (t:ze):Cu M h (noKeywords "tuple" ⟨[.ref 163,.ref t],[]⟩) ():=Du X (by kernel_rfl)
theorem oV:Cu M h (C6 (.type "tuple")) (.type "type"):=MK (by kernel_rfl)
theorem tp_ga (X:(KN w.params).In h):Cu M h (EC (.type "tuple") "__getattribute__") (some (.builtin "type.__getattribute__")):=oV.andThen (DL (K:=KN w.params) X (by kernel_rfl))
theorem oW (X:(KN w.params).In h):Cu M h (opaqueClassAbove (.type "tuple")) none:=Du (K:=KN w.params) X (by kernel_rfl)
theorem xt:subIn (KN w.params) (.type "type") (.type "type")=some true:=by kernel_rfl
theorem tp_fi:IW (KN w.params) (.type "type") "__getattribute__" = some (some (.builtin "type.__getattribute__")):=by kernel_rfl
theorem vd (X:(KN w.params).In h):Cu M h (hookBefore (.type "type")) none:=looks_hook X (by kernel_rfl)
theorem qv(X:(KN w.params).In h):Cu M h (classHasDel 163) false:=Du X (by kernel_rfl)
noncomputable abbrev moO(dd:ze)(vs:List Value):AO:={ cls:=.ref 163,dict:=some dd,data:=.seq vs.toArray }
section
variable{l:LV}{T:LO}{vs:List Value}
theorem nK(G:GK w hb)(S:St hb tabs L l T s.heap)(hm:(t,aG vs)∈T)(hz:vs.length<=1000)
  (k:∀ m dd h',St hb tabs L l ((m,moO dd vs)::T) h'->R (.ok (.ret (.ref m))) (wh s h')) :
  zS (y0 pw w) A (.call (.builtin "tuple.__new__") ⟨[.ref 163,.ref t],[]⟩) R s:=by
 have X:=S.kin G
 refine Cn F.plain_tuple_new Kc ((sI X t).here ?_)
 refine yX ((qt X).here ?_)
 refine zx rfl (yX ((jE X).here ?_))
 refine zx rfl (yX (m:=Hv "tuple.__new__" (.ref 163)) ((wo X).here ?_))
 refine yX ((qu X).here ?_)
 refine Bm rfl (yX ((wj X t).here ?_))
 show y4 _ _ (Mn "tuple" 0 1 1>>=_) _ _ _
 refine yX (yY ?_)
 refine zx rfl (yX (wpAny_collect_seq (items:=vs.toArray) t (.inr rfl) (S.obj _ hm) rfl rfl (λh' hk=>?_) (by rw[zw,zd];exact up 16776216 hz)))
 refine yX (yY ?_)
 have S':=S.grown (h':=h') hk
 refine yX (m:=alloc _) (Lm ?_)
 have S2:=S'.push dict0
 refine yX (m:=newObj (.ref 163) (.seq vs.toArray.toList.toArray) (some h'.objs.size)) (aQ (by rw[zw,zd];exact zbb hz) (yX (Lm ?_)))
 have S3:=S2.push (moO h'.objs.size vs)
 refine yX ((qv (S3.kin (s:=(wh s ((h'.push dict0).push (moO h'.objs.size vs)))) G)).here ?_)
 refine zx rfl (yY (yY ?_))
 exact k _ _ _ (S3.sub (.cons_cons _ (zl _ _)))
theorem jM:Bi (yW "tuple")=some (.type "tuple"):=by kernel_rfl
theorem nu {E:VP}{pl:Lz Bool}{Q:Value×List Value->y9->Prop} (X:(KN w.params).In s.heap) (h:Q (.builtin "tuple.__new__", []) (wt s (s.toks+1))) :
  y4 (y0 pw w) A (HG (.type "tuple") "__new__" pl) Q E s:=by
 refine yX ((tp_ga X).here ?_)
 refine bX canon_tga (yX (cls_open X (oW X) oV tp_fi (vd X) xt wk (yY ?_)))
 exact MU rfl (yY h)
theorem qx{a b c:Value}(G:GK w hb)(S:St hb tabs L l T s.heap)(hd:A.depth<zg)
  (k:∀ m dd s',Kp s s'->St hb tabs L l ((m,moO dd [a,b,c])::T) s'.heap->R (.ok (.ret (.ref m))) s') :
  zS (y0 pw w) A (.call (.ref 110) ⟨[.ref 163,a,b,c],[]⟩) R s:=by
 refine dQ G S (lk110 _) hd (binds:=[(yW "_cls", .ref 163),(yW "a", a),(yW "b", b),(yW "size", c)]) (body:=aD (st2 pw 4 4)) (AW (by kernel_rfl)) (λL' ai oL r S'=>eZ (cP (aV (cO G S' jM (nu (S'.kin G) (aI (bl S' m0 (args_cons ?_))))))))
 refine bQ (bl S' m1 (bl S' m2 (bln S' m3 ⟨rfl,_,_,_,_,_,S',?_⟩)))
 refine λt am af=>zn (BO (nK G af m0 (by simp) ?_))
 intro m dd ak ae
 have S4:=ae.sub (T':=(m,moO dd [a,b,c])::(L,oL)::T) (.cons_cons _ (zl _ _))
 exact k _ _ _ ⟨rfl,id⟩ (S4.leave 1 rfl r)
theorem sD (x a b c:Value):CI "object.__init__" ⟨[x,a,b,c],[]⟩:=by unfold CI;kernel_rfl
theorem xG:recIn (KN w.params) 164 "staticmethod" = some [.ref 110]:=by kernel_rfl
theorem w7{a b c:Value}(G:GK w hb)(S:St hb tabs L l T s.heap)(hd:A.depth+1<zg)
  (k:∀ m dd s',Kp s s'->St hb tabs L l ((m,moO dd [a,b,c])::T) s'.heap->R (.ok (.ret (.ref m))) s') :
  zS (y0 pw w) A (.call (.ref 163) ⟨[a,b,c],[]⟩) R s:=by
 have X:=S.kin G
 have hC:s.heap.get? 163=some (o163 w.params):=X 163 _ (by kernel_rfl)
 obtain⟨hh,g,d,t,os⟩:=s
 refine EU (nd_load hC ?_)
 show y4 _ _ (Kd (.ref 163) _) _ _ _
 unfold Kd
 refine yX ((wq X).at ?_)
 dsimp only
 refine yX (yY (yX (yY ?_)))
 refine yY (a:=Fin.again (.call (.builtin "type.__call__") ⟨.ref 163::[a,b,c],[]⟩)) (And.intro rfl ?_)
 refine codeAny_call_builtin_at (JP _ (by decide +kernel)) entry_typeCall (GN tc_kind tc_split (x7 X) (tc_args _ _ _) ?_)
 unfold At.«type.__call__»
 refine zx rfl (yX (m:=mroOf (.ref 163)) ((x9 X).at ?_))
 refine zx rfl (yX (m:=Ll (.ref 163)) ((qo X).at ?_))
 refine yX (m:=G7 (.ref 163) "__new__") (cls_bind X uH x8 (BO (sm_get X xG ?_)))
 refine MU rfl (yX (m:=G9 [AG 110] (call (.ref 110) [.ref 163,a,b,c])) (zp (BO ?_)))
 refine qx G S ?_ ?_
 ·show A.depth+_<_
  exact Bq (Nat.add_le_add_left (CF (by kernel_rfl)) _) hd
 intro m dd s' hKp S'
 have X':=S'.kin G
 have t1:Cu (y0 pw w) s'.heap (C6 (.ref m)) (.ref 163):=(Looks.ld (S'.obj _ m0)).andThen .now
 have t3:Cu (y0 pw w) s'.heap (B5 (.ref m) (.ref 163)) true:=t1.andThen (wg X')
 have t2:Cu (y0 pw w) s'.heap (B5 (.ref m) (.type "object")) true:=t1.andThen (wf X')
 have k':=k m dd s' ⟨hKp.os,hKp.gens⟩ S'
 obtain⟨hh',g',d',t',os'⟩:=s'
 have i1:=qu (M:=y0 pw w) X'
 have md:=qo (M:=y0 pw w) X'
 have b1:Cu (y0 pw w) hh' (bindSpecial (.builtin "object.__init__") (.ref m)) (.builtin "object.__init__", [.ref m]):=MK (oi_bind _)
 refine yX (t3.at ?_)
 refine zx rfl (yX (zp ?_))
 unfold Ke EC
 repeat (first|with_reducible refine BO ?_|lk)
 refine Cn oi_plain entry_oi (@GN (y0 pw w) _ _ _ "object.__init__" "object" "__init__" (.ref m) [a,b,c] [] _ oi_kind oi_split t2 (sD _ _ _ _) ?_)
 unfold At.«object.__init__»
 refine Bm rfl (yX (m:=C6 (.ref m)) (t1.at ?_))
 refine yX (i1.at ?_)
 refine yX (m:=Ll (.ref 163)) (md.at ?_)
 exact zx (by kernel_rfl) (zx (by kernel_rfl) (yY (yY (zx (by kernel_rfl) (yY k')))))
end
noncomputable def eK(la lb:List zH)(i j:Nat):Bool:=match la[i]?,lb[j]? with
 | some c,some d=>decide (c=d)
 | _,_=>false
theorem ik{la lb:List zH}{i j:Nat}:eK la lb i j=true↔∃ c,la[i]? = some c/\lb[j]? = some c:=by
 unfold eK
 cases e1:la[i]? with
 | none=>exact⟨λq=>(by cases q),λ⟨c,h,_⟩=>by cases h⟩
 | some c =>
  cases e2:lb[j]? with
  | none=>exact⟨λq=>(by cases q),λ⟨_,_,h⟩=>by cases h⟩
  | some d =>
   refine⟨λq=>⟨c,rfl,congrArg some (of_decide_eq_true q).symm⟩,?_⟩
   rintro⟨k,h1,h2⟩;exact decide_eq_true ((AB h1).trans (AB h2).symm)
noncomputable def sfx(la lb:List zH)(alo blo:Nat):Nat->Nat->Nat
 | 0,j=>if eK la lb 0 j then 1 else 0
 | i+1,j=>if eK la lb (i+1) j then (if alo<i+1/\blo<j then sfx la lb alo blo i (j - 1) else 0)+1 else 0
noncomputable def pv(la lb:List zH)(alo blo i j:Nat):Nat:=if alo<i/\blo<j then sfx la lb alo blo (i - 1) (j - 1) else 0
theorem sd{j:Nat}:sfx la lb alo blo 0 j=if eK la lb 0 j then 1 else 0:=rfl
theorem pz{i j:Nat}:sfx la lb alo blo (i+1) j=if eK la lb (i+1) j then (if alo<i+1/\blo<j then sfx la lb alo blo i (j - 1) else 0)+1 else 0:=rfl
theorem pB(i j:Nat):sfx la lb alo blo i j=if eK la lb i j then pv la lb alo blo i j+1 else 0:=by
 cases i with
 | zero=>rw[sd,pv];simp
 | succ i=>rw[pz,pv];simp
theorem jS{i j:Nat}(h:eK la lb i j=true):sfx la lb alo blo i j=pv la lb alo blo i j+1:=by rw[pB,if_pos h]
theorem mL{i j:Nat}(h:eK la lb i j=false):sfx la lb alo blo i j=0:=by rw[pB,h];rfl
theorem pA(i j:Nat):sfx la lb alo blo i j<=i+1 - alo\/i<alo:=by
 induction i generalizing j with
 | zero =>
  rw[sd]
  by_cases h:alo=0
  ·subst h;left;split<;> lia
  ·right;exact z6o h
 | succ i ih =>
  rw[pz]
  split
  ·split
   ·rename_i h
    rcases ih (j - 1) with q|q
    ·left;exact zc1 h.1 q
    ·left;exact zc5 h.1 q
   ·by_cases q:i+1<alo
    ·right;exact q
    ·left;exact zc9 q
  ·left;exact zcb
theorem lL(i j:Nat):sfx la lb alo blo i j<=j+1 - blo\/j<blo:=by
 induction i generalizing j with
 | zero =>
  rw[sd]
  by_cases h:j<blo
  ·right;exact h
  ·left;split;exact x02 h;exact zA _
 | succ i ih =>
  rw[pz]
  by_cases q:j<blo
  ·right;exact q
  ·left
   split
   ·split
    ·rename_i h
     rcases ih (j - 1) with q|q;exact x00 h.2 q;exact x01 h.2 q
    ·exact zcg q
   ·exact zbw
theorem vz:∀ (i j t:Nat),t<sfx la lb alo blo i j->t<=i/\t<=j/\eK la lb (i - t) (j - t)=true:=by
 intro i
 induction i with
 | zero =>
  intro j t h
  rw[sd] at h
  split at h
  ·rename_i q
   have:t=0:=zbp h
   subst this;exact⟨zh _,zA _,q⟩
  ·exact zbr h
 | succ i IH =>
  intro j t h
  rw[pz] at h
  split at h
  ·rename_i q
   cases t with
   | zero=>exact⟨zA _,zA _,q⟩
   | succ t =>
    split at h
    ·rename_i q2
     have ih:=IH (j - 1) t (z8h h)
     refine⟨by exact z6y ih.1,by exact zc4 q2.2 ih.2.1,?_⟩
     have e1:i+1 - (t+1)=i - t:=zc7
     have e2:j - (t+1)=j - 1 - t:=zc8
     rw[e1,e2];exact ih.2.2
    ·exact zcc h
  ·exact zce h
theorem se:∀ (i j:Nat),0<sfx la lb alo blo i j->alo+sfx la lb alo blo i j<=i->blo+sfx la lb alo blo i j<=j->eK la lb (i - sfx la lb alo blo i j) (j - sfx la lb alo blo i j)=false:=by
 intro i
 induction i with
 | zero =>
  intro j h h1 h2
  exact zbt h h1
 | succ i IH =>
  intro j h h1 h2
  rw[pz] at h h1 h2 ⊢
  split
  ·rename_i q
   simp only[q,if_true] at h h1 h2
   split
   ·rename_i q2
    rw[if_pos q2] at h1 h2
    by_cases hz:sfx la lb alo blo i (j - 1)=0
    ·rw[hz,Fg]
     rw[pB] at hz
     split at hz
     ·exact zc0 hz
     ·rename_i q3
      simpa using q3
    ·have ih:=IH (j - 1) (z6o hz) (zc2 h1) (zc3 h2)
     have e1:i+1 - (sfx la lb alo blo i (j - 1)+1)=i - sfx la lb alo blo i (j - 1):=zc7
     have e2:j - (sfx la lb alo blo i (j - 1)+1)=j - 1 - sfx la lb alo blo i (j - 1):=zc8
     rw[e1,e2];exact ih
   ·rename_i q2
    rw[if_neg q2] at h1 h2
    exact absurd ⟨by exact h1,by exact h2⟩ q2
  ·rename_i q
   simp only[q] at h
   simp at h
noncomputable def stp(la lb:List zH)(alo blo i:Nat)(st:Nat×Nat×Nat)(j:Nat):Nat×Nat×Nat :=
 if st.2.2<sfx la lb alo blo i j then (i+1 - sfx la lb alo blo i j,j+1 - sfx la lb alo blo i j,sfx la lb alo blo i j) else st
noncomputable def xi(lb:List zH)(blo bhi:Nat)(c:zH):List Nat:=(bN lb c).filter λj=>decide (blo<=j)&&decide (j<bhi)
noncomputable def fW(la lb:List zH)(blo bhi i:Nat):List Nat:=match la[i]? with
 | some c=>xi lb blo bhi c
 | none=>[]
noncomputable def uy(la lb:List zH)(alo blo bhi:Nat)(st:Nat×Nat×Nat)(i:Nat):Nat×Nat×Nat:=(fW la lb blo bhi i).foldl (stp la lb alo blo i) st
noncomputable def flm(la lb:List zH)(alo ahi blo bhi:Nat):Nat×Nat×Nat:=(Ln alo (ahi - alo)).foldl (uy la lb alo blo bhi) (alo,blo,0)
theorem gk{la lb:List zH}{blo bhi i j:Nat}:j∈fW la lb blo bhi i↔eK la lb i j=true/\blo<=j/\j<bhi:=by
 unfold fW
 split
 ·rename_i c e
  unfold xi bN
  rw[By,By,zR,ik]
  simp only[decide_eq_true_eq,HE]
  constructor
  ·rintro⟨⟨a,b⟩,c',d⟩;exact⟨⟨c,e,b⟩,c',d⟩
  ·rintro⟨⟨k,a,b⟩,c',d⟩
   rw[e] at a;cases a
   exact⟨⟨(zU.mp b).1,b⟩,c',d⟩
 ·rename_i e
  rw[ik]
  constructor
  ·intro h;cases h
  ·rintro⟨⟨c,a,b⟩,-⟩;rw[e] at a;cases a
noncomputable def fmx{α:Type}(f:α->Nat)(cs:List α)(st:Option α×Nat):Option α×Nat:=cs.foldl (λst c=>if st.2<f c then (some c,f c) else st) st
def FmI{α:Type}(f:α->Nat)(done:List α)(st:Option α×Nat):Prop :=
 (∀ c∈done,f c<=st.2)/\(match st.1 with|none=>st.2=0|some c=>f c=st.2/\0<st.2/\Ex2 λpre post=>done=pre++c::post/\∀ d∈pre,f d<st.2)
theorem qP{α:Type}(f:α->Nat):∀ (cs done:List α) (st:Option α×Nat),FmI f done st->FmI f (done++cs) (fmx f cs st):=by
 intro cs
 induction cs with
 | nil =>
  intro done st h
  rw[Al];exact h
 | cons c cs ih =>
  intro done st h
  have e:done++c::cs=(done++[c])++cs:=by simp
  rw[e]
  refine ih (done++[c]) _ ?_
  by_cases q:st.2<f c
  ·simp only[if_pos q]
   refine⟨λd hd=>?_,rfl,by show 0<f c;exact zbs q,done,[],rfl,λd hd=>by have:=h.1 d hd;show f d<f c;exact zbx q this⟩
   rcases zc.mp hd with z|z
   ·have:=h.1 d z;show f d<=f c;exact zby q this
   ·rw[y6.mp z];exact zh _
  ·simp only[if_neg q]
   refine⟨λd hd=>?_,?_⟩
   ·rcases zc.mp hd with z|z
    ·exact h.1 d z
    ·rw[y6.mp z];exact z0c q
   ·have h2:=h.2
    cases hs:st.1 with
    | none=>rw[hs] at h2;exact h2
    | some b =>
     rw[hs] at h2
     obtain⟨a,a',pre,post,hd,hp⟩:=h2
     exact⟨a,a',pre,post++[c],by rw[hd];simp,hp⟩
noncomputable def cells(la lb:List zH)(alo ahi blo bhi:Nat):List (Nat×Nat):=(Ln alo (ahi - alo)).flatMap λi=>(fW la lb blo bhi i).map λj=>(i,j)
theorem gl{la lb:List zH}{alo ahi blo bhi i j:Nat}:(i,j)∈cells la lb alo ahi blo bhi↔(alo<=i/\i<ahi)/\eK la lb i j=true/\blo<=j/\j<bhi:=by
 unfold cells
 rw[BU]
 constructor
 ·rintro⟨i',h1,h2⟩
  obtain⟨j',h3,e⟩:=za.mp h2
  cases e
  rw[Kf] at h1
  exact⟨⟨h1.1,by exact zbv h1.1 h1.2⟩,gk.mp h3⟩
 ·rintro⟨⟨a,b⟩,c⟩
  exact⟨i,Kf.mpr ⟨a,by exact zbz b⟩,za.mpr ⟨j,gk.mpr c,rfl⟩⟩
noncomputable def blk(la lb:List zH)(alo blo:Nat)(o:Option (Nat×Nat)×Nat):Nat×Nat×Nat:=match o.1 with
 | none=>(alo,blo,o.2)
 | some (i,j)=>(i+1 - o.2,j+1 - o.2,o.2)
theorem tH(la lb:List zH)(alo blo bhi:Nat):∀ (is:List Nat) (o:Option (Nat×Nat)×Nat),
  is.foldl (uy la lb alo blo bhi) (blk la lb alo blo o)=blk la lb alo blo (fmx (λc=>sfx la lb alo blo c.1 c.2) (is.flatMap λi=>(fW la lb blo bhi i).map λj=>(i,j)) o):=by
 intro is
 induction is with
 | nil =>
  intro o
  exact rfl
 | cons i is IH =>
  intro o
  rw[F6,List.flatMap_cons]
  unfold fmx
  rw[Hh]
  have row:∀ (js:List Nat) (o:Option (Nat×Nat)×Nat),js.foldl (stp la lb alo blo i) (blk la lb alo blo o)=blk la lb alo blo ((js.map λj=>(i,j)).foldl (λst c=>if st.2<sfx la lb alo blo c.1 c.2 then (some c,sfx la lb alo blo c.1 c.2) else st) o):=by
   intro js
   induction js with
   | nil=>intro o;rfl
   | cons j js ih =>
    intro o
    rw[F6,Ay,F6,<- ih]
    congr 1
    have e2:(blk la lb alo blo o).2.2=o.2:=by unfold blk;split<;> rfl
    unfold stp
    rw[e2]
    by_cases q:o.2<sfx la lb alo blo i j
    ·rw[if_pos q,if_pos q];rfl
    ·rw[if_neg q,if_neg q]
  rw[show uy la lb alo blo bhi (blk la lb alo blo o) i=(fW la lb blo bhi i).foldl (stp la lb alo blo i) (blk la lb alo blo o) from rfl,row]
  exact IH _
structure Best(la lb:List zH)(alo ahi blo bhi:Nat)(b:Nat×Nat×Nat):Prop where
 lo:alo<=b.1/\blo<=b.2.1
 hi:b.1+b.2.2<=max alo ahi/\b.2.1+b.2.2<=max blo bhi
 run:∀ t,t<b.2.2->eK la lb (b.1+t) (b.2.1+t)=true
 left:alo<b.1->blo<b.2.1->eK la lb (b.1 - 1) (b.2.1 - 1)=false
 right:b.1+b.2.2<ahi->b.2.1+b.2.2<bhi->eK la lb (b.1+b.2.2) (b.2.1+b.2.2)=false
 most:∀ i j,alo<=i->i<ahi->blo<=j->j<bhi->sfx la lb alo blo i j<=b.2.2
 none:b.2.2=0->b=(alo,blo,0)
theorem qT(la lb:List zH)(alo ahi blo bhi:Nat):flm la lb alo ahi blo bhi=blk la lb alo blo (fmx (λc=>sfx la lb alo blo c.1 c.2) (cells la lb alo ahi blo bhi) (none,0)) :=
 tH la lb alo blo bhi _ (none,0)
theorem cR(la lb:List zH)(alo ahi blo bhi:Nat):Best la lb alo ahi blo bhi (flm la lb alo ahi blo bhi):=by
 rw[qT]
 have inv:=qP (λc:Nat×Nat=>sfx la lb alo blo c.1 c.2) (cells la lb alo ahi blo bhi) [] (none,0) ⟨nofun,rfl⟩
 rw[Dh] at inv
 generalize fmx (λc:Nat×Nat=>sfx la lb alo blo c.1 c.2) (cells la lb alo ahi blo bhi) (none,0)=o at inv
 obtain⟨o,k⟩:=o
 have most:∀ i j,alo<=i->i<ahi->blo<=j->j<bhi->sfx la lb alo blo i j<=k:=by
  intro i j h1 h2 h3 h4
  cases q:eK la lb i j with
  | true=>exact inv.1 (i,j) (gl.mpr ⟨⟨h1,h2⟩,q,h3,h4⟩)
  | false=>rw[mL q];exact zA _
 have h2:=inv.2
 cases o with
 | none =>
  replace h2:k=0:=h2
  subst h2
  refine⟨⟨zh _,zh _⟩,⟨LG ..,LG ..⟩,λt ht=>absurd ht (Bo _),λh=>absurd h (Aj _),λh1 h2=>?_,most,λZ=>rfl⟩
  show eK la lb (alo+0) (blo+0)=false
  replace h2:blo+0<bhi:=h2
  cases q:eK la lb (alo+0) (blo+0) with
  | false=>rfl
  | true =>
   have:=most (alo+0) (blo+0) zcj h1 zcj h2
   rw[jS q] at this
   exact zck this
 | some c =>
  obtain⟨i,j⟩:=c
  obtain⟨hf,hk,pre,post,hc,hp⟩:=h2
  replace hf:sfx la lb alo blo i j=k:=hf
  replace hk:0<k:=hk
  have hm:(i,j)∈cells la lb alo ahi blo bhi:=by rw[hc];exact yZ _ (.head _)
  obtain⟨⟨h1,h2⟩,hq,h3,h4⟩:=gl.mp hm
  have l1:k<=i+1 - alo:=by rcases pA (la:=la) (lb:=lb) (alo:=alo) (blo:=blo) i j with q|q;exact x03 hf q;exact x04 h1 q
  have l2:k<=j+1 - blo:=by rcases lL (la:=la) (lb:=lb) (alo:=alo) (blo:=blo) i j with q|q;exact x03 hf q;exact x04 h3 q
  refine⟨⟨?_,?_⟩,⟨?_,?_⟩,λt ht=>?_,λh5 h6=>?_,λh5 h6=>?_,most,λh=>?_⟩
  ·show alo<=i+1 - k;exact zct hk l1
  ·show blo<=j+1 - k;exact zct hk l2
  ·show i+1 - k+k<=_;exact zcu h2 l1
  ·show j+1 - k+k<=_;exact zcu h4 l2
  ·replace ht:t<k:=ht
   have:=vz (la:=la) (lb:=lb) (alo:=alo) (blo:=blo) i j (k - 1 - t) (zcv hf hk)
   show eK la lb (i+1 - k+t) (j+1 - k+t)=true
   rw[show i+1 - k+t=i - (k - 1 - t) by exact zcw l1 ht,show j+1 - k+t=j - (k - 1 - t) by exact zcw l2 ht]
   exact this.2.2
  ·replace h5:alo<i+1 - k:=h5
   replace h6:blo<j+1 - k:=h6
   have:=se (la:=la) (lb:=lb) (alo:=alo) (blo:=blo) i j (zcx hf hk) (zcy hf h5) (zcy hf h6)
   show eK la lb (i+1 - k - 1) (j+1 - k - 1)=false
   rw[hf] at this
   rw[show i+1 - k - 1=i - k by exact zcz,show j+1 - k - 1=j - k by exact zcz]
   exact this
  ·replace h5:i+1 - k+k<ahi:=h5
   replace h6:j+1 - k+k<bhi:=h6
   show eK la lb (i+1 - k+k) (j+1 - k+k)=false
   rw[show i+1 - k+k=i+1 by exact zd0 l1,show j+1 - k+k=j+1 by exact zd0 l2]
   cases q:eK la lb (i+1) (j+1) with
   | false=>rfl
   | true =>
    have:=most (i+1) (j+1) (z78 h1) (zd1 h5) (z78 h3) (zd1 h6)
    rw[jS q,pv,if_pos ⟨by exact zd2 h1,by exact zd2 h3⟩,GG,GG,hf] at this
    exact zd3 this
  ·replace h:k=0:=h
   lia
def Dj(la lb:List zH)(alo blo i:Nat)(done:List Nat)(kvs:List (Int×Value)):Prop :=
 (∀ j∈done,∃ t,AS kvs (j:Int)=some (.int (sfx la lb alo blo i j:Nat) t))/\∀ z:Int,(∀ j∈done,z≠(j:Int))->AS kvs z=none
theorem Dj.nil{la lb:List zH}{alo blo i:Nat}:Dj la lb alo blo i [] []:=⟨nofun,λz Z=>rfl⟩
theorem Dj.snoc{la lb:List zH}{alo blo i j:Nat}{done:List Nat}{kvs:List (Int×Value)}{t:AN}(h:Dj la lb alo blo i done kvs):Dj la lb alo blo i (done++[j]) (Ht kvs (j:Int) (.int (sfx la lb alo blo i j:Nat) t)):=by
 refine⟨λj' hj=>?_,λz hz=>?_⟩
 ·rw[cA]
  by_cases e:(j:Int)=(j':Int)
  ·rw[if_pos e]
   have:j=j':=zch e
   subst this
   exact⟨t,rfl⟩
  ·rw[if_neg e]
   rcases zc.mp hj with q|q
   ·exact h.1 j' q
   ·exact absurd (by rw[y6.mp q]) e
 ·rw[cA]
  rw[if_neg (λe=>hz j (yZ _ (.head _)) e.symm)]
  exact h.2 z λj' hj'=>hz j' (y5 _ hj')
def Pj(la lb:List zH)(alo blo bhi i:Nat)(kvs:List (Int×Value)):Prop:=(i=alo/\kvs=[])\/(alo<i/\Dj la lb alo blo (i - 1) (fW la lb blo bhi (i - 1)) kvs)
theorem Pj.get{la lb:List zH}{alo blo bhi i j:Nat}{kvs:List (Int×Value)}(h:Pj la lb alo blo bhi i kvs)(hj:blo<=j)(hj2:j<bhi){u:AN}(P:Value->Prop)(k:∀ t,P (.int (pv la lb alo blo i j:Nat) t)):P ((AS kvs ((j:Int) - 1)).getD (.int 0 u)):=by
 have hz:pv la lb alo blo i j=0->AS kvs ((j:Int) - 1)=none->P ((AS kvs ((j:Int) - 1)).getD (.int 0 u)):=λh1 h2=>by
  rw[h2]
  have:=k u
  rw[h1] at this;exact this
 rcases h with⟨rfl,rfl⟩|⟨hi,hd⟩
 ·exact hz (if_neg zci) rfl
 ·by_cases q:blo<j
  ·have epv:pv la lb alo blo i j=sfx la lb alo blo (i - 1) (j - 1):=if_pos ⟨hi,q⟩
   have ej:((j:Int) - 1)=((j - 1:Nat):Int):=zcm q
   by_cases hm:j - 1∈fW la lb blo bhi (i - 1)
   ·obtain⟨t,e⟩:=hd.1 _ hm
    rw[ej,e]
    have:=k t
    rw[epv] at this;exact this
   ·refine hz ?_ (hd.2 _ λj' hj' e=>hm (by rw[ej] at e;rw[show j - 1=j' by exact zcn e];exact hj'))
    rw[epv]
    refine mL ?_
    cases q2:eK la lb (i - 1) (j - 1) with
    | false=>rfl
    | true=>exact absurd (gk.mpr ⟨q2,by exact zcp q,by exact zcq hj2⟩) hm
  ·refine hz (if_neg (zcr q)) (hd.2 _ λj' hj' e=>?_)
   have:=(gk.mp hj').2.1
   exact zcs q e this
theorem j6(lb:List zH)(c:zH):(bN lb c).Pairwise (· < ·):=Np _ Fn
theorem ma{l:List Nat}{t j blo bhi:Nat}(h:l.Pairwise (· < ·))(hj:l[t]? = some j)(hb:bhi<=j):(l.take t).filter (λj=>decide (blo<=j)&&decide (j<bhi))=l.filter λj=>decide (blo<=j)&&decide (j<bhi):=by
 conv=>rhs;rw[<- CG t l]
 rw[Bt]
 have hd:(l.drop t).filter (λj=>decide (blo<=j)&&decide (j<bhi))=[]:=by
  rw[H4]
  intro a ha
  have hp:(l.drop t).Pairwise (· < ·):=h.sublist (Kg t l)
  have hd0:l.drop t=j::l.drop (t+1):=by
   have hl:=(zU.mp hj)
   rw[G3 hl.1,hl.2]
  rw[hd0] at ha hp
  have:j<=a:=by
   rcases y7.mp ha with rfl|q
   ·exact zh _
   ·exact Af ((DM.mp hp).1 a q)
  simp
  exact zcl hb this
 rw[hd,Al]
theorem uP{prog:Bh}{w:Am}{k:Int}{u:AN}:(Cr prog w).is k (.int k u)=true:=by simp[Cr,Value.isInt]
theorem pI{lb:List zH}{rows:List aW}{T:LO}{c:zH}{nn:ze}(P:Value->Prop)(hrows:cJ lb rows)(hob:∀ r∈rows,r.ob∈T)(hn:(nn,ap [] 0)∈T)
  (k:∀ ℓ vs n,(ℓ,ap vs n)∈T->bY vs (bN lb c)->P (.ref ℓ)):P ((AS (rows.map aW.kv) c).getD (.ref nn)):=by
 cases h:AS (rows.map aW.kv) c with
 | none =>
  have:bN lb c=[]:=eO.mpr λq=>cX h (hrows.all c q)
  exact k nn [] 0 hn (by rw[this];exact .nil)
 | some v =>
  obtain⟨j,r,hj,rfl,rfl⟩:=cV h
  have hm:=zm hj
  exact k r.a r.vs r.n (hob r hm) (hrows.at_ r hm)
noncomputable abbrev fJ(w:Am)(L':ze):ID:=Ac (yH w.params) L' 224
noncomputable abbrev nmF(nn dj u d2:ze)(va vb:Value)(x:ze)(alo ahi blo bhi:Nat)(ta tb tc td:AN)(st:Nat×Nat×Nat)(t1 t2 t3:AN):LV :=
 [(yW "nothing", .ref nn),(yW "j2len", .ref dj),(yW "besti", .int st.1 t1),(yW "bestj", .int st.2.1 t2),(yW "bestsize", .int st.2.2 t3),(yW "isbjunk", .ref u),(yW "b2j", .ref d2),
  (yW "b", vb),(yW "a", va),(yW "self", .ref x),(yW "alo", .int alo ta),(yW "ahi", .int ahi tb),(yW "blo", .int blo tc),(yW "bhi", .int bhi td)]
noncomputable abbrev nmI (dn ug:ze) (i:Nat) (ti:AN) (l:LV):LV:=(yW "newj2len", .ref dn)::(yW "j2lenget", .ref ug)::(yW "i", .int i ti)::l
noncomputable abbrev mU:List Cq:=aD (((aD (st2 pw 6 6))[7]?).getD AA)
noncomputable abbrev uQ:List Cq:=aD ((mU[2]?).getD AA)
section
variable{x dn ug:ze}{T:LO}{on:AO}{tb:AN}{st:Nat×Nat×Nat}{kvn:List (Int×Value)}{Q:FP}
theorem tF(G:GK w hb)(hh:A.handled=none)
  (S:St hb tabs L' ((yW "j", .int j tj)::nmI dn ug i ti (nmF nn dj u d2 va vb x alo ahi blo bhi ta tb tc td st t1 t2 t3)) ((dn,on)::T) s.heap) (hug:(ug,bmO "dict.get" dj)∈T) (hdj:(dj,oj)∈T)
  (hon:on.IsDictOf (Cr pw w) kvn) (hoj:oj.IsDictOf (Cr pw w) kvj) (hpj:Pj la lb alo blo bhi i kvj) (hq:eK la lb i j=true) (hlen:kvn.length<=1000) (hi:alo<=i)
  (hc:j<blo->∀ s',Kp s s'->St hb tabs L' (nmI dn ug i ti (nmF nn dj u d2 va vb x alo ahi blo bhi ta tb tc td st t1 t2 t3)) ((dn,on)::T) s'.heap->Q .cont s')
  (hk:bhi<=j->∀ s',Kp s s'->St hb tabs L' (nmI dn ug i ti (nmF nn dj u d2 va vb x alo ahi blo bhi ta tb tc td st t1 t2 t3)) ((dn,on)::T) s'.heap->Q .brk s')
  (hn:blo<=j->j<bhi->∀ s' on' t1 t2 t3 tk,Kp s s'->St hb tabs L' (nmI dn ug i ti (nmF nn dj u d2 va vb x alo ahi blo bhi ta tb tc td (stp la lb alo blo i st j) t1 t2 t3)) ((dn,on')::T) s'.heap ->
   on'.IsDictOf (Cr pw w) (Ht kvn (j:Int) (.int (sfx la lb alo blo i j:Nat) tk))->Q .next s') :
  y4 (y0 pw w) (A.deeper (fJ w L')) (zY uQ (fJ w L')) Q E s:=by
 refine dA (ac S m0 (ac S (aj (aj (aj (aj (aj (aj (aj m9))))))) (GO (y8 ⟨λhb'=>?_,λhb'=>?_⟩))))
 ·refine n7 ?_
  have hlt:=of_decide_eq_true hb'
  exact hc (z74 hb') _ ⟨rfl,id⟩ (S.forget (zl _ _))
 have h1:=of_decide_eq_false hb'
 refine aF (dA (ac S m0 (ac S (aj (aj (aj (aj (aj (aj (aj (aj m9)))))))) (LY (y8 ⟨λhb'=>?_,λhb'=>?_⟩)))))
 ·refine vS ?_
  have hlt:=of_decide_eq_true hb'
  exact hk (z7c hb') _ ⟨rfl,id⟩ (S.forget (zl _ _))
 have h2:=of_decide_eq_false hb'
 refine aF ?_
 have es:(sfx la lb alo blo i j:Int)=(pv la lb alo blo i j:Nat)+1:=by rw[jS hq];rfl
 refine j3 (wpAny_BinOp (bW (ac S m2 (eI (id := "dict.get") (d:=dj) (args_cons (wpAny_BinOp (ac S m0 ?_)))))))
 refine wpAny_Constant_int (Ij (args_cons (wpAny_Constant_int (zn ⟨S.obj _ (aj hug),?_⟩))))
 refine xa G S (aj hug) (aj hdj) hoj (k:=(j:Int) - 1) uP (hpj.get (by exact z7e (decide_eq_false h1)) (by exact z7f (decide_eq_false h2)) (λv=>y4 _ _ (Aq _ _) (λw s'=>y4 _ _ (EM _ v w) _ _ s') _ _) λtp=>(wpAny_Constant_int (CP ?_)))
 rw[<- es]
 refine aU (aq S (.new (by kernel_rfl)) ?_)
 refine λam af=>yT (ac af m2 (ac af m1 (iI 0 af rfl hon (k:=(j:Int)) uP ?_ hlen)))
 refine λak on' ae hon'=>restate ae λs4 K4 S4=>?_
 replace K4:Kp s s4:=⟨K4.os,K4.gens⟩
 refine dA (ac S4 m0 (ac S4 m9 (Ik (y8 ⟨λhb'=>?_,λhb'=>?_⟩))))
 ·have hlt:=of_decide_eq_true hb'
  have est:stp la lb alo blo i st j=(i+1 - sfx la lb alo blo i j,j+1 - sfx la lb alo blo i j,sfx la lb alo blo i j):=if_pos (z74 hb')
  have l1:sfx la lb alo blo i j<=i+1 - alo:=by rcases pA (la:=la) (lb:=lb) (alo:=alo) (blo:=blo) i j with q|q;exact q;exact x04 hi q
  have l2:sfx la lb alo blo i j<=j+1 - blo:=by rcases lL (la:=la) (lb:=lb) (alo:=alo) (blo:=blo) i j with q|q;exact q;exact x04 (z7e (decide_eq_false h1)) q
  refine eM [yW "besti", yW "bestj", yW "bestsize"] (args_cons (wpAny_BinOp (wpAny_BinOp (ac S4 m4 (ac S4 m0 (Ij (wpAny_Constant_int ?_)))))))
  refine CP (args_cons (wpAny_BinOp (wpAny_BinOp (ac S4 m1 (ac S4 m0 (Ij (wpAny_Constant_int ?_)))))))
  refine CP (bln S4 m0 ⟨rfl,rfl,hh,_,_,_,_,_,S4,?_⟩)
  refine λay S5=>cU S5 (.old (.there (.there (.there (.there (.there (.there (.there (.there (.there .here)))))))))) (λaz S6=>cU S6 (.old (.there (.there (.there (.there (.there (.there (.there (.there .here))))))))) (λba S7=>cU S7 (.old (.there (.there (.there (.there (.there (.there (.there .here)))))))) (λbc S8=>eQ (aF (aF ?_)))))
  have e1:((i:Int) - (sfx la lb alo blo i j:Nat)+1)=((stp la lb alo blo i st j).1:Nat):=by rw[est];show _=((i+1 - sfx la lb alo blo i j:Nat):Int);exact z7j l1
  have e2:((j:Int) - (sfx la lb alo blo i j:Nat)+1)=((stp la lb alo blo i st j).2.1:Nat):=by rw[est];show _=((j+1 - sfx la lb alo blo i j:Nat):Int);exact z7j l2
  have e3:((sfx la lb alo blo i j:Nat):Int)=((stp la lb alo blo i st j).2.2:Nat):=by rw[est]
  have S9:=S8.forget (Hi _ (zl _ _))
  rw[e1,e2,e3] at S9
  exact hn (z7e (decide_eq_false h1)) (z7f (decide_eq_false h2)) _ _ _ _ _ _ ⟨K4.os,K4.gens⟩ S9 hon'
 ·have hlt:=of_decide_eq_false hb'
  have est:stp la lb alo blo i st j=st:=if_neg (z7k hb')
  refine aF (aF ?_)
  have S9:=S4.forget (Hi _ (zl _ _))
  rw[<- est] at S9
  exact hn (z7e (decide_eq_false h1)) (z7f (decide_eq_false h2)) _ _ _ _ _ _ K4 S9 hon'
theorem qS{jp:Ef}(G:GK w hb)(hh:A.handled=none)
  (S:St hb tabs L' (nmI dn ug i ti (nmF nn dj u d2 va vb x alo ahi blo bhi ta tb tc td st t1 t2 t3)) ((dn,dict0)::T) s.heap) (hug:(ug,bmO "dict.get" dj)∈T) (hdj:(dj,oj)∈T)
  (hoj:oj.IsDictOf (Cr pw w) kvj) (hpj:Pj la lb alo blo bhi i kvj) {c:zH} (hc:la[i]? = some c) (hi:alo<=i) (hlb:lb.length<=100)
  {ℓ:ze}{vs:List Value}{n:Nat} (hℓ:(ℓ,ap vs n)∈T) (hvs:bY vs (bN lb c))
  (k:∀ s' on' kvn t1 t2 t3,Kp s s'->St hb tabs L' (nmI dn ug i ti (nmF nn dj u d2 va vb x alo ahi blo bhi ta tb tc td (uy la lb alo blo bhi st i) t1 t2 t3)) ((dn,on')::T) s'.heap ->
   on'.IsDictOf (Cr pw w) kvn->Dj la lb alo blo i (fW la lb blo bhi i) kvn->kvn.length<=100->y4 (y0 pw w) (A.deeper (fJ w L')) (zY (mU.drop 3) (fJ w L')) Q E s')
  (E0:VP):y4 (y0 pw w) (A.deeper (fJ w L')) (EI (.ref ℓ)) (λit ag =>
   zS (y0 pw w) (A.deeper (fJ w L')) (.forLoop (.Name (yW "j") jp) it uQ [] (fJ w L')) (λr s'=>match r with
    | .ok .next=>y4 (y0 pw w) (A.deeper (fJ w L')) (zY (mU.drop 3) (fJ w L')) Q E s'
    | .ok f=>Q f s'
    | .error e=>cameBackBy (y0 pw w) (A.deeper (fJ w L')) (fJ w L') E e s') ag) E0 s:=by
 have hrow:fW la lb blo bhi i=xi lb blo bhi c:=by unfold fW;rw[hc]
 refine vN S (aj hℓ) ?_
 intro I o Wt fp am IV hw af
 let H:Nat->AN->LV->LO->Prop:=λt Z l₁ T1=>Ex5 λon' kvn t1 t2 t3=>An5 (l₁=nmI dn ug i ti (nmF nn dj u d2 va vb x alo ahi blo bhi ta tb tc td ((((bN lb c).take t).filter λj=>decide (blo<=j)&&decide (j<bhi)).foldl (stp la lb alo blo i) st) t1 t2 t3)) (T1=(dn,on')::T) (on'.IsDictOf (Cr pw w) kvn) (Dj la lb alo blo i (((bN lb c).take t).filter λj=>decide (blo<=j)&&decide (j<bhi)) kvn) (kvn.length<=t)
 refine IV.loop (z:=s) hh af hw
  H ?_ (λp hp=>by rw[y6] at hp;subst hp;exact aj hℓ) ?_ ?_
 ·exact⟨dict0,[],t1,t2,t3,rfl,rfl,eH,Dj.nil,zh _⟩
 ·rintro E1 t v l₁ T1 own1 s₁ ht hv ⟨on',kvn,t1',t2',t3',rfl,rfl,hon,hdj',hlen⟩ ae hRo hKp
  obtain⟨j,tj,hj,rfl⟩:=hvs.get hv
  have hq:eK la lb i j=true:=by
   have:=zm hj
   unfold bN at this
   rw[By] at this
   exact ik.mpr ⟨c,hc,of_decide_eq_true this.2⟩
  have hpl:=gJ lb c
  have htl:t<(bN lb c).length:=(zU.mp hj).1
  have htk:(bN lb c).take (t+1)=(bN lb c).take t++[j]:=by rw[Ah,hj];rfl
  refine aU (aq ae (.new (by kernel_rfl)) ?_)
  refine λaw S4=>tF (T:=T++own1) G hh S4 (y5 _ hug) (y5 _ hdj) hon hoj hpj hq (z77 hlb hlen hpl htl) hi ?_ ?_ ?_
  ·refine λhlt s' K' S'=>⟨_,_,S',⟨on',kvn,t1',t2',t3',?_,rfl,hon,?_,by exact z78 hlen⟩,?_,(kt hKp K')⟩
   ·rw[htk,Bt,EA,if_neg (by simp;exact z79 hlt),EY,Al]
   ·rw[htk,Bt,EA,if_neg (by simp;exact z79 hlt),EY,Al];exact hdj'
   ·exact λp hp=>by rw[y6] at hp;subst hp;exact aj hℓ
  ·intro hge s' K' S'
   have ef:=ma (blo:=blo) (j6 lb c) hj hge
   rw[hvs.len] at ht
   refine k s' on' kvn t1' t2' t3' ⟨K'.os.trans hKp.os,λz=>K'.gens (hKp.gens z)⟩ ?_ hon ?_ (z7a hlb ht hlen hpl)
   ·unfold uy;rw[hrow];unfold xi;rw[<- ef]
    exact S'.sub (.cons_cons _ (List.sublist_append_left _ _))
   ·rw[hrow];unfold xi;rw[<- ef];exact hdj'
  ·refine λh1 h2 s' on2 t1 t2 t3 tk K' S' hon2=>⟨_,_,S',⟨on2,_,t1,t2,t3,?_,rfl,hon2,?_,?_⟩,?_,(kt hKp K')⟩
   ·rw[htk,Bt,EA,if_pos (by simp;exact z7b h1 h2),EY,Hh];rfl
   ·rw[htk,Bt,EA,if_pos (by simp;exact z7b h1 h2),EY];exact hdj'.snoc
   ·exact zk (gD _ _ _) (z6y hlen)
   ·exact λp hp=>by rw[y6] at hp;subst hp;exact aj hℓ
 ·rintro s' l' T' hKp ae ⟨on',kvn,t1',t2',t3',rfl,rfl,hon,hdj',hlen⟩ hRo
  have hpl:=gJ lb c
  rw[hvs.len] at hlen
  rw[hvs.len,zX] at ae hdj'
  refine k s' on' kvn t1' t2' t3' ⟨hKp.os,hKp.gens⟩ ?_ hon ?_ (z7d hlb hlen hpl)
  ·unfold uy;rw[hrow];exact ae
  ·rw[hrow];exact hdj'
end
theorem qW{la lb:List zH}{i j:Nat}{c d:zH}(h:eK la lb i j=false)(h1:la[i]? = some c)(h2:lb[j]? = some d):c≠d:=by
 rintro rfl
 rw[ik.mpr ⟨c,h1,h2⟩] at h
 nomatch h
section
variable{x:ze}{T:LO}{l:LV}{Ra Rb:LO}{tb:AN}{st:Nat×Nat×Nat}{led:Bool}{rows:List aW}
theorem tG(G:GK w hb)(hd:A.depth+2<zg)(S:St hb tabs L' (nmF nn dj u d2 va vb x alo ahi blo bhi ta tb tc td st t1 t2 t3) T s.heap)
  (hsj:(sj,cK led)∈T) (hu:(u,bmO "set.__contains__" sj)∈T) (B:Best la lb alo ahi blo bhi st)
  (Va:SqV pw w hb tabs Ra va la) (Vb:SqV pw w hb tabs Rb vb lb) (hRa:∀ p∈Ra,p∈T) (hRb:∀ p∈Rb,p∈T) (ha1:alo<=ahi) (ha2:ahi<=la.length) (hb1:blo<=bhi) (hb2:bhi<=lb.length) {Q:FP}
  (k:∀ m dd s' t1 t2 t3,Kp s s'->St hb tabs L' (nmF nn dj u d2 va vb x alo ahi blo bhi ta tb tc td st t1 t2 t3) ((m,moO dd [.int st.1 t1,.int st.2.1 t2,.int st.2.2 t3])::T) s'.heap->Q (.ret (.ref m)) s') :
  y4 (y0 pw w) (A.deeper (fJ w L')) (zY ((aD (st2 pw 6 6)).drop 8) (fJ w L')) Q E s:=by
 have hhi:=B.hi
 rw[BF ha1,BF hb1] at hhi
 have geta:∀ i:Nat,i<la.length->∃ c,la[i]? = some c:=λi h=>⟨la[i],zj h⟩
 have getb:∀ i:Nat,i<lb.length->∃ c,lb[i]? = some c:=λi h=>⟨lb[i],zj h⟩
 refine eE (λs'=>Kp s s'/\St hb tabs L' (nmF nn dj u d2 va vb x alo ahi blo bhi ta tb tc td st t1 t2 t3) T s'.heap) (λE'=>?_) ?_
 ·refine cD (wpAny_isTrue_Compare1 (ac S m2 (ac S (aj m9) (Ik (y8 ⟨λhb'=>?_,λZ=>⟨rfl,⟨rfl,id⟩,S⟩⟩)))))
  have c1:=of_decide_eq_true hb'
  refine cD (wpAny_isTrue_Compare1 (ac S m3 (ac S (aj (aj (aj m9))) (Ik (y8 ⟨λhb'=>?_,λZ=>⟨rfl,⟨rfl,id⟩,S⟩⟩)))))
  have c2:=of_decide_eq_true hb'
  obtain⟨ca,hca⟩:=geta (st.1 - 1) (z72 ha2 hhi.1 (decide_eq_true c1))
  obtain⟨cb,hcb⟩:=getb (st.2.1 - 1) (z72 hb2 hhi.2 hb')
  have e1:((st.1:Int) - 1)=((st.1 - 1:Nat):Int):=z73 (decide_eq_true c1)
  have e2:((st.2.1:Int) - 1)=((st.2.1 - 1:Nat):Int):=z73 hb'
  refine cD (isTrue_not (BY (bW (ac S m5 (eI (id := "set.__contains__") (d:=sj) (args_cons (Dt ?_)))))))
  refine ac S m7 (wpAny_BinOp (ac S m3 (wpAny_Constant_int (Ij ?_))))
  rw[e2]
  refine Vb.item S hRb hcb ?_ (λZ Z=>by with_unfolding_all rfl)
  refine λu1 tk1=>zn ⟨S.obj _ hu,?_⟩
  refine nM led S hu hsj (knd:=Ak pw w) (k:=cb) dK rfl (y8 ⟨λZ=>?_,nofun⟩)
  refine cD (wpAny_isTrue_Compare1 (Dt (ac S m8 (wpAny_BinOp (ac S m2 (wpAny_Constant_int (Ij ?_)))))))
  rw[e1]
  refine Va.item S hRa hca ?_ (λZ Z=>by with_unfolding_all rfl)
  refine λu2 tk2=>Dt (ac S m7 (wpAny_BinOp (ac S m3 (wpAny_Constant_int (Ij ?_)))))
  rw[e2]
  refine Vb.item S hRb hcb ?_ (λZ Z=>by with_unfolding_all rfl)
  refine λu3 tk3=>eq_str ?_
  have hne:=qW (B.left (Di.mp c1) (Di.mp c2)) hca hcb
  refine y8 ⟨λhb'=>absurd (by simpa using hb') hne,λZ=>⟨rfl,⟨rfl,id⟩,S⟩⟩
 rintro ag ⟨ao,af⟩
 refine eE (λs'=>Kp s s'/\St hb tabs L' (nmF nn dj u d2 va vb x alo ahi blo bhi ta tb tc td st t1 t2 t3) T s'.heap) (λE'=>?_) ?_
 ·refine cD (wpAny_isTrue_Compare1 (wpAny_BinOp (ac af m2 (ac af m4 (CP (ac af (aj (aj m9)) (GO ?_)))))))
  refine y8 ⟨λhb'=>?_,λZ=>⟨rfl,⟨ao.os,ao.gens⟩,af⟩⟩
  have c1:=of_decide_eq_true hb'
  refine cD (wpAny_isTrue_Compare1 (wpAny_BinOp (ac af m3 (ac af m4 (CP (ac af (aj (aj (aj (aj m9)))) (GO ?_)))))))
  refine y8 ⟨λhb'=>?_,λZ=>⟨rfl,⟨ao.os,ao.gens⟩,af⟩⟩
  have c2:=of_decide_eq_true hb'
  obtain⟨ca,hca⟩:=geta (st.1+st.2.2) (z75 ha2 (decide_eq_true c1))
  obtain⟨cb,hcb⟩:=getb (st.2.1+st.2.2) (z75 hb2 hb')
  refine cD (isTrue_not (BY (bW (ac af m5 (eI (id := "set.__contains__") (d:=sj) (args_cons (Dt ?_)))))))
  refine ac af m7 (wpAny_BinOp (ac af m3 (ac af m4 (CP (Vb.item af hRb hcb ?_ (λZ Z=>by with_unfolding_all rfl))))))
  refine λu1 tk1=>zn ⟨af.obj _ hu,?_⟩
  refine nM led af hu hsj (knd:=Ak pw w) (k:=cb) dK rfl (y8 ⟨λZ=>?_,nofun⟩)
  refine cD (wpAny_isTrue_Compare1 (Dt (ac af m8 (wpAny_BinOp (ac af m2 (ac af m4 (CP ?_)))))))
  refine Va.item af hRa hca ?_ (λZ Z=>by with_unfolding_all rfl)
  refine λu2 tk2=>Dt (ac af m7 (wpAny_BinOp (ac af m3 (ac af m4 (CP (Vb.item af hRb hcb ?_ (λZ Z=>by with_unfolding_all rfl)))))))
  refine λu3 tk3=>eq_str ?_
  have hne:=qW (B.right (z76 (decide_eq_true c1)) (z76 (decide_eq_true c2))) hca hcb
  refine y8 ⟨λhb'=>absurd (by simpa using hb') hne,λZ=>⟨rfl,⟨ao.os,ao.gens⟩,af⟩⟩
 rintro s3 ⟨ax,ae⟩
 refine eE (λs'=>Kp s s'/\St hb tabs L' (nmF nn dj u d2 va vb x alo ahi blo bhi ta tb tc td st t1 t2 t3) T s'.heap) (λE'=>?_) ?_
 ·refine cD (wpAny_isTrue_Compare1 (ac ae m2 (ac ae (aj m9) (Ik (y8 ⟨λhb'=>?_,λZ=>⟨rfl,⟨ax.os,ax.gens⟩,ae⟩⟩)))))
  have c1:=of_decide_eq_true hb'
  refine cD (wpAny_isTrue_Compare1 (ac ae m3 (ac ae (aj (aj (aj m9))) (Ik (y8 ⟨λhb'=>?_,λZ=>⟨rfl,⟨ax.os,ax.gens⟩,ae⟩⟩)))))
  have c2:=of_decide_eq_true hb'
  obtain⟨cb,hcb⟩:=getb (st.2.1 - 1) (z72 hb2 hhi.2 hb')
  have e2:((st.2.1:Int) - 1)=((st.2.1 - 1:Nat):Int):=z73 hb'
  refine cD (BY (bW (ac ae m5 (eI (id := "set.__contains__") (d:=sj) (args_cons (Dt (ac ae m7 ?_)))))))
  refine wpAny_BinOp (ac ae m3 (wpAny_Constant_int (Ij ?_)))
  rw[e2]
  refine Vb.item ae hRb hcb ?_ (λZ Z=>by with_unfolding_all rfl)
  refine λu1 tk1=>zn ⟨ae.obj _ hu,?_⟩
  exact nM led ae hu hsj (knd:=Ak pw w) (k:=cb) dK rfl (y8 ⟨nofun,λZ=>⟨rfl,⟨ax.os,ax.gens⟩,ae⟩⟩)
 rintro s4 ⟨K4,S4⟩
 refine eE (λs'=>Kp s s'/\St hb tabs L' (nmF nn dj u d2 va vb x alo ahi blo bhi ta tb tc td st t1 t2 t3) T s'.heap) (λE'=>?_) ?_
 ·refine cD (wpAny_isTrue_Compare1 (wpAny_BinOp (ac S4 m2 (ac S4 m4 (CP (ac S4 (aj (aj m9)) (GO ?_)))))))
  refine y8 ⟨λhb'=>?_,λZ=>⟨rfl,⟨K4.os,K4.gens⟩,S4⟩⟩
  have c1:=of_decide_eq_true hb'
  refine cD (wpAny_isTrue_Compare1 (wpAny_BinOp (ac S4 m3 (ac S4 m4 (CP (ac S4 (aj (aj (aj (aj m9)))) (GO ?_)))))))
  refine y8 ⟨λhb'=>?_,λZ=>⟨rfl,⟨K4.os,K4.gens⟩,S4⟩⟩
  have c2:=of_decide_eq_true hb'
  obtain⟨cb,hcb⟩:=getb (st.2.1+st.2.2) (z75 hb2 hb')
  refine cD (BY (bW (ac S4 m5 (eI (id := "set.__contains__") (d:=sj) (args_cons (Dt (ac S4 m7 ?_)))))))
  refine wpAny_BinOp (ac S4 m3 (ac S4 m4 (CP (Vb.item S4 hRb hcb ?_ (λZ Z=>by with_unfolding_all rfl)))))
  refine λu1 tk1=>zn ⟨S4.obj _ hu,?_⟩
  exact nM led S4 hu hsj (knd:=Ak pw w) (k:=cb) dK rfl (y8 ⟨nofun,λZ=>⟨rfl,⟨K4.os,K4.gens⟩,S4⟩⟩)
 rintro s5 ⟨K5,S5⟩
 refine cP (tV G S5 (v:=.ref 163) (by kernel_rfl) (bl S5 m2 (bl S5 m3 (bln S5 m4 ⟨⟨_,_,_,S5⟩,?_⟩))))
 exact w7 G S5 (by show A.depth+1+1<_;exact hd) (λm dd s6 K6 S6=>k m dd s6 _ _ _ (kt K5 K6) S6)
end
section
variable{x:ze}{T:LO}{l:LV}{Ra Rb:LO}{tb:AN}{st:Nat×Nat×Nat}{led:Bool}{rows:List aW}
theorem wQ(G:GK w hb)(hh:A.handled=none){Q:FP}
  (S:St hb tabs L' ((yW "i", .int i ti)::nmF nn dj u d2 va vb x alo ahi blo bhi ta tb tc td st t1 t2 t3) ((dj,oj)::T) s.heap)
  (hoj:oj.IsDictOf (Cr pw w) kvj) (hpj:Pj la lb alo blo bhi i kvj) {c:zH} (hc:la[i]? = some c) (hi:alo<=i)
  (hd2:(d2,o2)∈T) (ho2:o2.IsDictOf (Ak pw w) (rows.map aW.kv)) (hrows:cJ lb rows) (hob:∀ r∈rows,r.ob∈T) (hnn:(nn,ap [] 0)∈T)
  (Va:SqV pw w hb tabs Ra va la) (hRa:∀ p∈Ra,p∈T) (hlb:lb.length<=100)
  (k:∀ s' dn on' kvn t1 t2 t3,Kp s s'->St hb tabs L' (nmF nn dn u d2 va vb x alo ahi blo bhi ta tb tc td (uy la lb alo blo bhi st i) t1 t2 t3) ((dn,on')::T) s'.heap ->
   on'.IsDictOf (Cr pw w) kvn->Dj la lb alo blo i (fW la lb blo bhi i) kvn->Q .next s') :
  y4 (y0 pw w) (A.deeper (fJ w L')) (zY mU (fJ w L')) Q E s:=by
 refine aC (bR (ac S m2 (pW "dict.get" S m0 hoj ?_ i6 kz)))
 refine λug am af=>aq af (.new (by kernel_rfl)) (λak ae=>aC (iK ae ?_))
 refine λdn aw S4=>aq S4 (.new (by kernel_rfl)) (λay S5=>eY (aV (ac S5 m9 (j0 S5 (aj (aj (aj hd2))) ho2 Ea FE (aI (args_cons (Dt (ac S5 (aj (aj m9)) ?_))))))))
 refine ac S5 m2 (Va.item S5 (λp hp=>aj (aj (aj (hRa p hp)))) hc ?_ (λZ Z=>by with_unfolding_all rfl))
 refine λuc tkc=>bln S5 m3 (pV G S5 (aj (aj (aj hd2))) ho2 (k:=c) dK (pI (λv=>y4 _ _ (EI v) _ _ _) hrows hob hnn λℓ vs n hℓ hvs=>(restate S5 λs6 K6 S6=>?_)))
 replace K6:Kp s s6:=⟨K6.os,K6.gens⟩
 refine qS (T:=(ug,bmO "dict.get" dj)::(dj,oj)::T) G hh S6 m0 m1 hoj hpj hc hi hlb (aj (aj hℓ)) hvs ?_ _
 refine λs7 on' kvn t1' t2' t3' K7 S7 hon hdn hln=>aC (ac S7 m0 (aq S7 (.old (.there (.there (.there (.there .here))))) ?_))
 refine λbc S8=>aF (k _ dn on' kvn t1' t2' t3' ⟨K7.os.trans K6.os,λz=>K7.gens (K6.gens z)⟩ ?_ hon hdn)
 exact (S8.forget (.cons _ (.cons _ (.cons _ (Ag _))))).sub (.cons_cons _ (.cons _ (zl _ _)))
end
section
variable{x:ze}{T:LO}{l:LV}{Ra Rb:LO}{tb:AN}{st:Nat×Nat×Nat}{led:Bool}{rows:List aW}
theorem flm_c(G:GK w hb)(S:St hb tabs L l T s.heap)(hd:A.depth+2<zg)(hh:A.handled=none)(hx:(x,smO dx)∈T)(hdx:(dx,od)∈T)(hf:bH od (mf va vb mb fc (.ref d2) (.ref sj) sp))
  (hd2:(d2,o2)∈T) (ho2:o2.IsDictOf (Ak pw w) (rows.map aW.kv)) (hrows:cJ lb rows) (hob:∀ r∈rows,r.ob∈T) (hsj:(sj,cK led)∈T)
  (Va:SqV pw w hb tabs Ra va la) (Vb:SqV pw w hb tabs Rb vb lb) (hRa:∀ p∈Ra,p∈T) (hRb:∀ p∈Rb,p∈T)
  (ha1:alo<=ahi) (ha2:ahi<=la.length) (hb1:blo<=bhi) (hb2:bhi<=lb.length)
  (k:∀ m dd s' t1 t2 t3,Kp s s'->St hb tabs L l ((m,moO dd [.int (flm la lb alo ahi blo bhi).1 t1,.int (flm la lb alo ahi blo bhi).2.1 t2,.int (flm la lb alo ahi blo bhi).2.2 t3])::T) s'.heap->R (.ok (.ret (.ref m))) s') :
  zS (y0 pw w) A (.call (.ref 224) ⟨[.ref x,.int alo ta,.int ahi tb,.int blo tc,.int bhi td],[]⟩) R s:=by
 have hsa:=Va.small
 have hsb:=Vb.small
 refine dQ G S (lk224 _) (dn 2 hd) (binds:=[(yW "self", .ref x),(yW "alo", .int alo ta),(yW "ahi", .int ahi tb),(yW "blo", .int blo tc),(yW "bhi", .int bhi td)]) (body:=aD (st2 pw 6 6)) (kp_binds (S.kin G) (λS=>by kernel_rfl)) (λL' ai oL r S'=>eZ (j4 (bQ (args_cons (bR (ac S' m0 (bB G S' (aj hx) (aj hdx) hf m1 ?_ (hv:=Va.hand))))))))
 refine args_cons (bR (ac S' m0 (bB G S' (aj hx) (aj hdx) hf m2 ?_ (hv:=Vb.hand))))
 refine args_cons (bR (ac S' m0 (bB G S' (aj hx) (aj hdx) hf m7 (args_cons (bR (bR (ac S' m0 ?_)))))))
 refine bB G S' (aj hx) (aj hdx) hf m8 (xS "set.__contains__" led S' (aj hsj) ?_ eV gF)
 refine λu am af=>zn ⟨rfl,_,_,_,_,_,af,?_⟩
 refine λtu ak ae=>cI hh ae m0 ?_
 intro aw S4
 replace S4:=S4.sub (zl _ _)
 refine aY (aq S4 (.new (by kernel_rfl)) ?_)
 refine λay S5=>aY (aq S5 (.new (by kernel_rfl)) ?_)
 refine λaz S6=>aY (aq S6 (.new (by kernel_rfl)) ?_)
 refine λba S7=>aY (aq S7 (.new (by kernel_rfl)) ?_)
 refine λbc S8=>cE (restate S8 λs8 K8 S8=>?_)
 replace K8:Kp s s8:=⟨K8.os,K8.gens⟩
 refine dA (ac S8 m6 (Bw (LX (y8 ⟨nofun,λZ=>?_⟩))))
 refine aF (dA (ac S8 m8 (Bw (LX (y8 ⟨nofun,λZ=>?_⟩)))))
 refine aF (eM [yW "besti", yW "bestj", yW "bestsize"] (bl S8 m5 (bl S8 m7 (args_cons (wpAny_Constant_int (zn ⟨rfl,rfl,hh,_,_,_,_,_,S8,?_⟩))))))
 refine λbf S9=>cU S9 (.new (by kernel_rfl)) (λd5 S10=>cU S10 (.new (by kernel_rfl)) (λcr S11=>cU S11 (.new (by kernel_rfl)) (λcu S12=>eQ (aC (iK S12 ?_)))))
 refine λdj h13 S13=>aq S13 (.new (by kernel_rfl)) (λh14 S14=>aC (bF (zn ⟨rfl,_,_,_,_,_,S14,?_⟩)))
 refine λnn h15 S15=>aq S15 (.new (by kernel_rfl)) (λh16 S16=>eY (rm G S16 cL (bl S16 (aj m9) (bln S16 (aj (aj m9)) (vL S16 ?_)))))
 refine λrg tg h17 tk17 S17=>jX S17 m0 z7l (z7m ha1 ha2 hsa) z7l (z7n ha2 hsa) ?_
 intro I o Wt fp ee IV hw S18
 have S19:St hb tabs L' (nmF nn dj u d2 va vb x alo ahi blo bhi ta tb tc td (alo,blo,0) ta tc _) (((dj,dict0)::(nn,ap [] 0)::(u,bmO "set.__contains__" sj)::(L,oL)::T)++[(I,o)]) ee :=
  (S18.sub (T':=(nn,ap [] 0)::(dj,dict0)::(u,bmO "set.__contains__" sj)::(L,oL)::T++[(I,o)]) (zl _ _)).perm ((zi (l₁:=[(nn,ap [] 0)]) (l₂:=[(dj,dict0)])).append_right _)
 have en:((ahi:Int) - (alo:Int)).toNat=ahi - alo:=z7o
 let H:Nat->AN->LV->LO->Prop:=λt Z l₁ T1=>Ex6 λdj' oj' kvj t1 t2 t3=>An4 (l₁=nmF nn dj' u d2 va vb x alo ahi blo bhi ta tb tc td ((Ln alo t).foldl (uy la lb alo blo bhi) (alo,blo,0)) t1 t2 t3) (T1=(dj',oj')::(nn,ap [] 0)::(u,bmO "set.__contains__" sj)::(L,oL)::T) (oj'.IsDictOf (Cr pw w) kvj) (Pj la lb alo blo bhi (alo+t) kvj)
 refine IV.loop (z:=s) hh S19 hw
  H ?_ (λp hp=>(by cases hp)) ?_ ?_ (ez:=⟨K8.os,K8.gens⟩)
 ·exact⟨dj,dict0,[],_,_,_,rfl,rfl,eH,.inl ⟨rfl,rfl⟩⟩
 ·rintro E1 t v l₁ T1 own1 s₁ ht ⟨ti,hv⟩ ⟨dj',oj',kvj,t1',t2',t3',rfl,rfl,hoj,hpj⟩ S20 hRo hKp
  have hlt:alo+t<la.length:=z7p ha2 ht
  have ev:v=.int ((alo+t:Nat):Int) ti:=by rw[hv,F7]
  clear hv
  subst ev
  refine aU (aq S20 (.new (by kernel_rfl)) ?_)
  refine λh21 S21=>wQ (T:=(nn,ap [] 0)::(u,bmO "set.__contains__" sj)::(L,oL)::(T++own1)) G hh S21 hoj hpj (zj hlt) z7q
   (aj (aj (aj (y5 _ hd2)))) ho2 hrows (λr hr=>aj (aj (aj (y5 _ (hob r hr))))) m0 Va (λp hp=>aj (aj (aj (y5 _ (hRa p hp))))) (up 40 hsb) ?_
  refine λs' dn on' kvn t1 t2 t3 K' S' hon hdn=>⟨_,_,S',⟨dn,on',kvn,t1,t2,t3,?_,rfl,hon,.inr ⟨by exact z7s,hdn⟩⟩,(λp hp=>(by cases hp)),(kt hKp K')⟩
  rw[List.range'_concat,Hh,Nat.one_mul];rfl
 ·rintro s' l' T' hKp S20 ⟨dj',oj',kvj,t1',t2',t3',rfl,rfl,hoj,hpj⟩ hRo
  rw[en] at S20
  refine tG G hd S20 (aj (aj (aj (aj hsj)))) m2 (cR la lb alo ahi blo bhi) Va Vb (λp hp=>aj (aj (aj (aj (hRa p hp))))) (λp hp=>aj (aj (aj (aj (hRb p hp))))) ha1 ha2 hb1 hb2 ?_
  intro m dd ag t1 t2 t3 ao S21
  have S22:=(S21.leave 4 rfl r).sub (T':=(m,moO dd [.int (flm la lb alo ahi blo bhi).1 t1,.int (flm la lb alo ahi blo bhi).2.1 t2,.int (flm la lb alo ahi blo bhi).2.2 t3])::T) (.cons_cons _ (.cons _ (.cons _ (zl _ _))))
  exact k m dd ag t1 t2 t3 (kt hKp ao) S22
end
def uX(h:AE)(t:ze)(items:List Value):Prop:=∃ o,h.get? t=some o/\∃ n,o.data=.seq items.toArray n
theorem uX.at{h h':AE}{t:ze}{items:List Value}(x:uX h t items)(e:∀ o,h.get? t=some o->h'.get? t=some o):uX h' t items:=by obtain⟨o,a,b⟩:=x;exact⟨o,e o a,b⟩
section
variable{items:List Value}
theorem vr{x:Value}{Q:Option Value->y9->Prop}(hit:s.heap.IsTupleIter it t i)(ht:uX s.heap t items)(hx:items[i]? = some x)
  (hQ:∀ h',h'.IsTupleIter it t (i+1)->BV it s.heap h'->Q (some x) (wh s h')):y4 (y0 prog w) A (De (.ref it)) Q E s:=by
 obtain⟨o,ho,hc,hd⟩:=id hit
 obtain⟨ot,hot,n,hdt⟩:=ht
 have hx':items.toArray[i]? = some x:=by simpa using hx
 refine yX (Ds (z4 (name:=yW "__next__") hit.typeIs AQ (zT AQ hit.typeIs C0 ?_ (CX _))))
 refine yX (m:=FT (.ref it) 0) (AK ho hd (x:=.ref t) rfl ?_)
 refine zx rfl (yX (m:=FT (.ref it) 1) (AK ho hd (x:=.int i 0) rfl ?_))
 refine yX (m:=BK (.ref t)) (zv hot hdt ?_)
 simp only[Fo,hx']
 refine yX (DC ho hd (by simp) (yY ⟨x,rfl,yY (hQ _ ⟨_,zq _ ho (II (E4 hd _)),(Kh ..).trans hc,?_⟩ (zt ..))⟩))
 rw[E4 hd];simp[Cv]
theorem xy{Q:Option Value->y9->Prop}(hh:A.handled=none)(hit:s.heap.IsTupleIter it t i)(ht:uX s.heap t items)(hx:items[i]? = none)
  (hQ:∀ h',Ha it s.heap h'->Q none (wh s h')):y4 (y0 prog w) A (De (.ref it)) Q E s:=by
 obtain⟨o,ho,hc,hd⟩:=id hit
 obtain⟨ot,hot,n,hdt⟩:=ht
 have hx':items.toArray[i]? = none:=by simpa using hx
 refine yX (Ds (z4 (name:=yW "__next__") hit.typeIs AQ (zT AQ hit.typeIs C0 ?_ (CX _))))
 refine yX (m:=FT (.ref it) 0) (AK ho hd (x:=.ref t) rfl ?_)
 refine zx rfl (yX (m:=FT (.ref it) 1) (AK ho hd (x:=.int i 0) rfl ?_))
 refine yX (m:=BK (.ref t)) (zv hot hdt ?_)
 simp only[Fo,hx']
 refine yX (AP (yX (DC ho hd (by simp) ?_)))
 refine yX (m:=Nz (.type "StopIteration") []) (yX (Aa ?_ (by size_fits)))
 refine yX (m:=C8 _ _) (As (a:=CK) (by first|rfl|(simp only[C8];rfl)) ?_)
 refine Aa ?_ (by size_fits)
 refine yX (Hw ?_)
 first|rw[show A.in1.handled=none from hh]|rw[hh]
 refine yX (yY (I1 ?_))
 refine yX (AL (T := "StopIteration") (b:=true) ⟨_,zQ _ rfl,rfl⟩ GH ?_)
 exact yY (hQ _ (((zt ..).extBut.push _).push _))
theorem vt(hne:t≠it):∀ (n i:Nat) (s:y9) (Q:LP),s.heap.IsTupleIter it t i->uX s.heap t items->i+n<=items.length ->
  (∀ h',h'.IsTupleIter it t (i+n)->BV it s.heap h'->Q ((items.drop i).take n) (wh s h'))->y4 (y0 prog w) A (draw (.ref it) n) Q E s:=by
 intro n
 induction n with
 | zero =>
  intro i s Q hit Z Z hQ
  exact yY (by simpa using hQ s.heap hit (Ki ..))
 | succ n ih =>
  intro i s Q hit ht hle hQ
  have hlt:i<items.length:=zbc hle
  refine yX (vr hit ht (zj hlt) λai hit1 bz=>?_)
  refine yX (zp (ih (i+1) _ _ hit1 (ht.at λo e=>(bz.2 t hne).trans e) (zbe hle) λam hit2 d6=>yY ?_))
  have:=hQ am (by rw[show i+(n+1)=i+1+n by exact z2i];exact hit2) (bz.trans d6)
  rw[G3 hlt,List.take_succ_cons] at this
  exact this
end
section
variable{m:ze}{l:LV}{T:LO}{vs:List Value}
theorem qr (w:Am):IW (KN w.params) (.ref 163) "__iter__" = some (some (.builtin "tuple.__iter__")):=by kernel_rfl
theorem rS:FO "tuple.__iter__" = true:=by decide +kernel
theorem vi:Ek "tuple.__iter__" = some .slot:=by decide +kernel
theorem rR:M5 "tuple.__iter__" = some ("tuple", "__iter__"):=by decide +kernel
theorem oD{Q:VP}(G:GK w hb)(S:St hb tabs L l T s.heap)(hm:(m,moO dd vs)∈T)
  (h:Q (.ref s.heap.objs.size) { s with heap:=s.heap.push { cls:=.type "tuple_iterator", data:=.fields #[.ref m,.int 0 0] } }):y4 (y0 pw w) A (EI (.ref m)) Q E s:=by
 have X:=S.kin G
 have t1:Cu (y0 pw w) s.heap (C6 (.ref m)) (.ref 163):=(Looks.ld (S.obj _ hm)).andThen .now
 have t2:Cu (y0 pw w) s.heap (B5 (.ref m) (.type "tuple")) true:=t1.andThen (jE X)
 have t3:Cu (y0 pw w) s.heap (EC (.ref m) "__iter__") (some (.builtin "tuple.__iter__")):=t1.andThen (DL X (qr w))
 have call:∀ {Q:VP},Q (.ref s.heap.objs.size) { s with heap:=s.heap.push { cls:=.type "tuple_iterator", data:=.fields #[.ref m,.int 0 0] } }->y4 (y0 pw w) A (call (.builtin "tuple.__iter__") [.ref m]) Q E s:=λ{Q} h=>by
  refine BO (Cn rS F.entry_tuple_iter (@GN (y0 pw w) _ _ _ "tuple.__iter__" "tuple" "__iter__" (.ref m) [] [] _ vi rR t2 (F.args_tuple_iter_1 _) ?_))
  show y4 _ _ (do ret (<- newFields "tuple_iterator" [.ref m,Cv 0])) _ _ s
  exact yX (Aa (yY h))
 refine yX (t3.here ?_)
 refine yX (zp (yX (yX (t3.here ?_))))
 refine yX (BW (wpAny_ite ?_))
 have fin:y4 (y0 pw w) A (NA (.builtin "tuple.__iter__") [.ref m]>>=λv=>Au (some v)) (λv s'=>y4 (y0 pw w) A (match v with
   | some it=>(do match <- EC it "__next__" with
    | none=>rule "iter.non-iterator"; raiseError "TypeError" s!"iter() returned non-iterator of type '{← PySem.typeNameOf it}'"
    | some _=>Au it)
   | none=>(do match <- bindSpecialIfBound? (.ref m) "__getitem__" with
    | none=>rule "iter.not-iterable"; raiseError "TypeError" s!"'{← PySem.typeNameOf (.ref m)}' object is not iterable"
    | some _=>rule "iter.getitem-fallback"; newFields "iterator" [(.ref m),<- mkInt 0])) Q E s') E s :=
  yX (call (yY (yX (BS (T := "tuple_iterator") ⟨_,zQ _ rfl,rfl⟩ AQ.lookup (yY h)))))
 split
 ·exact yX (yY (yY (zx rfl fin)))
 ·exact DB (yX (yY (yY (zx rfl fin))))
theorem kM{targets:List (Bool×(Value->Lz Unit))}{Q:UP}(hh:A.handled=none)(G:GK w hb)(S:St hb tabs L l T s.heap)(hm:(m,moO dd vs)∈T)
  (hn:targets.length=vs.length) (hstar:targets.findIdx? (·.1)=none)
  (h:∀ h',St hb tabs L l T h'->y4 (y0 pw w) A (Ca (targets.map (·.2)) vs) Q E (wh s h')):y4 (y0 pw w) A (unpack (.ref m) targets) Q E s:=by
 have X:=S.kin G
 have t1:Cu (y0 pw w) s.heap (C6 (.ref m)) (.ref 163):=(Looks.ld (S.obj _ hm)).andThen .now
 have t3:Cu (y0 pw w) s.heap (EC (.ref m) "__iter__") (some (.builtin "tuple.__iter__")):=t1.andThen (DL X (qr w))
 have hlt:m≠s.heap.objs.size:=Ab (S.lt hm)
 unfold unpack unpackItems
 rw[hn,hstar]
 refine yX (zp (yX ?_))
 refine yX (t3.here ?_)
 refine Bm rfl (yY (zx rfl (yX (zp (oD G S hm ?_)))))
 have hs:uX (s.heap.push { cls:=.type "tuple_iterator", data:=.fields #[.ref m,.int 0 0] }) m vs:=⟨_,zz _ (S.obj _ hm),_,rfl⟩
 refine yX (zp (vt hlt vs.length 0 _ _ ⟨_,zQ _ rfl,rfl,rfl⟩ hs zbf λai hit1 bz=>?_))
 rw[En,zX]
 refine aQ (Aj _) ?_
 have d7:uX ai m vs:=hs.at λo e=>(bz.2 m hlt).trans e
 refine yX (zp (xy hh hit1 d7 (by simp) λam d9=>?_))
 refine zx rfl (yY (h am (S.extBut λb o hb' e=>d9 b o hb' (bz.extBut b o hb' (zz _ e)))))
theorem nN{elts:List Expr}{x1:Nat}{tpos:Ef}{Q:UP}(hh:A.handled=none)(G:GK w hb)(S:St hb tabs L l T s.heap)(hm:(m,moO dd vs)∈T)
  (h:∀ h',St hb tabs L l T h'->y4 (y0 pw w) A (Ca ((BN elts env).map (·.2)) vs) Q E (wh s h'))
  (hsz:(BN elts env).length=vs.length:=by rfl) (hstar:(BN elts env).findIdx? (·.1)=none:=by kernel_rfl) :
  y4 (y0 pw w) A (BL (.Tuple elts x1 tpos) env (.ref m)) Q E s:=by
 exact yX (CO (kM hh G S hm hsz hstar h))
end
section
variable{m m' dd':ze}{l:LV}{T:LO}{vs:List Value}
theorem mt_lt (w:Am):IW (KN w.params) (.ref 163) "__lt__" = some (some (.builtin "tuple.__lt__")):=by kernel_rfl
theorem rQ:FO "tuple.__lt__" = true:=by decide +kernel
theorem vh:Ek "tuple.__lt__" = some .slot:=by decide +kernel
theorem rP:M5 "tuple.__lt__" = some ("tuple", "__lt__"):=by decide +kernel
theorem match_ltcall{a1 a2 a3 b1 b2 b3:Int}{t1 t2 t3 u1 u2 u3:AN}{Q:VP}(G:GK w hb)(S:St hb tabs L l T s.heap)(hm:(m,moO dd [.int a1 t1,.int a2 t2,.int a3 t3])∈T)(hm':(m',moO dd' [.int b1 u1,.int b2 u2,.int b3 u3])∈T)
  (h:∀ c tk,Q (.bool c) (wt s tk)):y4 (y0 pw w) A (call (.builtin "tuple.__lt__") [.ref m,.ref m']) Q E s:=by
 have X:=S.kin G
 have t1':Cu (y0 pw w) s.heap (C6 (.ref m)) (.ref 163):=(Looks.ld (S.obj _ hm)).andThen .now
 have t2':Cu (y0 pw w) s.heap (B5 (.ref m) (.type "tuple")) true:=t1'.andThen (jE X)
 have t1'':Cu (y0 pw w) s.heap (C6 (.ref m')) (.ref 163):=(Looks.ld (S.obj _ hm')).andThen .now
 have t2'':Cu (y0 pw w) s.heap (B5 (.ref m') (.type "tuple")) true:=t1''.andThen (jE X)
 refine BO (Cn rQ HL (@GN (y0 pw w) _ _ _ "tuple.__lt__" "tuple" "__lt__" (.ref m) [.ref m'] [] _ vh rP t2' (Hj _ _) ?_))
 refine yX (m:=B5 (.ref m') (.type "tuple")) (t2''.here ?_)
 refine zx rfl (yX (yX (zv (S.obj _ hm) rfl (yY ?_))))
 refine yX (yX (zv (S.obj _ hm') rfl (yY ?_)))
 refine yX (m:=Dp [(B8 a1 t1,B8 b1 u1),(B8 a2 t2,B8 b2 u2),(B8 a3 t3,B8 b3 u3)] _ _) ?_
 rw[Ax]
 refine yX (yX (EE ?_))
 by_cases e1:(a1==b1)=true
 ·rw[e1]
  refine zx rfl (yY ?_)
  show y4 _ _ (Dp [(B8 a2 t2,B8 b2 u2),(B8 a3 t3,B8 b3 u3)] _ _) _ _ s
  rw[Ax]
  refine yX (yX (EE ?_))
  by_cases e2:(a2==b2)=true
  ·rw[e2]
   refine zx rfl (yY ?_)
   show y4 _ _ (Dp [(B8 a3 t3,B8 b3 u3)] _ _) _ _ s
   rw[Ax]
   refine yX (yX (EE ?_))
   by_cases e3:(a3==b3)=true
   ·rw[e3]
    refine zx rfl (yY ?_)
    show y4 _ _ (Dp [] _ _) _ _ s
    exact yY (yY (h _ _))
   ·refine Bm (by simpa using e3) (yX (AP (yX ?_)))
    exact GO (yX (yY (yY (yY (yY (h _ _))))))
  ·refine Bm (by simpa using e2) (yX (AP (yX ?_)))
   exact GO (yX (yY (yY (yY (yY (h _ _))))))
 ·refine Bm (by simpa using e1) (yX (AP (yX ?_)))
  exact GO (yX (yY (yY (yY (yY (h _ _))))))
theorem lX{a1 a2 a3 b1 b2 b3:Int}{t1 t2 t3 u1 u2 u3:AN}{Q:BP}(hu:A.units<Aw)(G:GK w hb)(S:St hb tabs L l T s.heap)(hm:(m,moO dd [.int a1 t1,.int a2 t2,.int a3 t3])∈T)(hm':(m',moO dd' [.int b1 u1,.int b2 u2,.int b3 u3])∈T)
  (h:∀ c tk,Q c (wt s tk)):y4 (y0 pw w) A (IY Mi (.ref m) (.ref m')) Q E s:=by
 have X:=S.kin G
 have t1':Cu (y0 pw w) s.heap (C6 (.ref m)) (.ref 163):=(Looks.ld (S.obj _ hm)).andThen .now
 have t3:Cu (y0 pw w) s.heap (EC (.ref m) "__lt__") (some (.builtin "tuple.__lt__")):=t1'.andThen (DL X (mt_lt w))
 refine yX (wpAny_cRoomFor hu ?_)
 refine yX (zp (yX (yX (t3.here ?_))))
 refine yX (BW (wpAny_ite ?_))
 have fin:∀ {Q':Option Value->y9->Prop},(∀ c tk,Q' (some (.bool c)) (wt s tk))->y4 (y0 pw w) A (NA (.builtin "tuple.__lt__") ([.ref m]++[.ref m'])>>=λv=>Au (some v)) Q' E s:=λhq =>
  yX (match_ltcall G S hm hm' λc tk=>yY (hq c tk))
 split
 ·exact yX (yY (yY (fin λc tk=>yX (y8 (yY (h c tk))))))
 ·exact DB (yX (yY (yY (fin λc tk=>yX (y8 (yY (h c tk)))))))
end
noncomputable def lE(la lb:List zH):Nat->Nat->Nat->Nat->Nat->Nat
 | 0,_,_,_,_=>0
 | f+1,alo,ahi,blo,bhi=>if (flm la lb alo ahi blo bhi).2.2=0 then 0 else
   (flm la lb alo ahi blo bhi).2.2+lE la lb f alo (flm la lb alo ahi blo bhi).1 blo (flm la lb alo ahi blo bhi).2.1 +
    lE la lb f ((flm la lb alo ahi blo bhi).1+(flm la lb alo ahi blo bhi).2.2) ahi ((flm la lb alo ahi blo bhi).2.1+(flm la lb alo ahi blo bhi).2.2) bhi
theorem jC{f alo ahi blo bhi:Nat}:lE la lb (f+1) alo ahi blo bhi=if (flm la lb alo ahi blo bhi).2.2=0 then 0 else (flm la lb alo ahi blo bhi).2.2+lE la lb f alo (flm la lb alo ahi blo bhi).1 blo (flm la lb alo ahi blo bhi).2.1+lE la lb f ((flm la lb alo ahi blo bhi).1+(flm la lb alo ahi blo bhi).2.2) ahi ((flm la lb alo ahi blo bhi).2.1+(flm la lb alo ahi blo bhi).2.2) bhi:=rfl
theorem i0{alo ahi blo bhi:Nat}(h:ahi<=alo\/bhi<=blo):(flm la lb alo ahi blo bhi).2.2=0:=by
 have B:=cR la lb alo ahi blo bhi
 have h1:=B.lo
 have h2:=B.hi
 rcases h with q|q
 ·have:=Iw q;exact zd6 h1.1 h2.1 this
 ·have:=Iw q;exact zd6 h1.2 h2.2 this
theorem jD{f alo ahi blo bhi:Nat}(h:ahi<=alo\/bhi<=blo):lE la lb f alo ahi blo bhi=0:=by
 cases f with
 | zero=>rfl
 | succ f=>rw[jC,if_pos (i0 h)]
theorem lf:∀ (f f' alo ahi blo bhi:Nat),ahi - alo<f->ahi - alo<f'->lE la lb f alo ahi blo bhi=lE la lb f' alo ahi blo bhi:=by
 intro f
 induction f with
 | zero=>exact λZ Z Z Z Z h Z=>zd5 h
 | succ f ih =>
  intro f' alo ahi blo bhi h h'
  cases f' with
  | zero=>exact zd5 h'
  | succ f' =>
   rw[jC,jC]
   by_cases hz:(flm la lb alo ahi blo bhi).2.2=0
   ·rw[if_pos hz,if_pos hz]
   ·rw[if_neg hz,if_neg hz]
    have B:=cR la lb alo ahi blo bhi
    have h1:=B.lo
    have h2:=B.hi
    have hlt:alo<ahi:=by
     rcases AM alo ahi with q|q
     ·exact q
     ·exact absurd (i0 (.inl q)) hz
    have h3:=BF (Af hlt)
    rw[ih f' alo _ blo _ (by exact zd7 h hz h1.1 h2.1) (by exact zd7 h' hz h1.1 h2.1),ih f' _ ahi _ bhi (by exact zd8 h hz h1.1 h2.1) (by exact zd8 h' hz h1.1 h2.1)]
noncomputable def mt(la lb:List zH)(q:Nat×Nat×Nat×Nat):Nat:=lE la lb (la.length+1) q.1 q.2.1 q.2.2.1 q.2.2.2
noncomputable def wd(q:Nat×Nat×Nat×Nat):Nat:=q.2.1 - q.1
structure mA(la lb:List zH)(q:Nat×Nat×Nat×Nat):Prop where
 a1:q.1<=q.2.1
 a2:q.2.1<=la.length
 b1:q.2.2.1<=q.2.2.2
 b2:q.2.2.2<=lb.length
noncomputable def kI(q:Nat×Nat×Nat×Nat)(b:Nat×Nat×Nat):List (Nat×Nat×Nat×Nat):=if q.1<b.1/\q.2.2.1<b.2.1 then [(q.1,b.1,q.2.2.1,b.2.1)] else []
noncomputable def kX(q:Nat×Nat×Nat×Nat)(b:Nat×Nat×Nat):List (Nat×Nat×Nat×Nat):=if b.1+b.2.2<q.2.1/\b.2.1+b.2.2<q.2.2.2 then [(b.1+b.2.2,q.2.1,b.2.1+b.2.2,q.2.2.2)] else []
noncomputable def eU(l:List Nat):Nat:=l.foldr (· + ·) 0
theorem aR(l r:List Nat):eU (l++r)=eU l+eU r:=by
 induction l with
 | nil=>simp[eU]
 | cons a l ih=>show a+eU (l++r)=a+eU l+eU r;exact zd9 ih
theorem we{q:Nat×Nat×Nat×Nat}(h:(flm la lb q.1 q.2.1 q.2.2.1 q.2.2.2).2.2=0):mt la lb q=0:=by
 unfold mt;rw[jC,if_pos h]
theorem wi{q:Nat×Nat×Nat×Nat}(hq:mA la lb q)(h:(flm la lb q.1 q.2.1 q.2.2.1 q.2.2.2).2.2≠0) :
  mt la lb q=(flm la lb q.1 q.2.1 q.2.2.1 q.2.2.2).2.2+eU ((kI q (flm la lb q.1 q.2.1 q.2.2.1 q.2.2.2)).map (mt la lb))+eU ((kX q (flm la lb q.1 q.2.1 q.2.2.1 q.2.2.2)).map (mt la lb)):=by
 have B:=cR la lb q.1 q.2.1 q.2.2.1 q.2.2.2
 obtain⟨alo,ahi,blo,bhi⟩:=q
 have h1:=B.lo
 have h2:=B.hi
 have h3:=BF hq.a1
 have h4:=BF hq.b1
 have ha2:=hq.a2
 generalize hb:flm la lb alo ahi blo bhi=b at *
 unfold mt
 rw[jC,hb,if_neg h]
 have e1:lE la lb la.length alo b.1 blo b.2.1=eU ((kI (alo,ahi,blo,bhi) b).map (mt la lb)):=by
  unfold kI
  split
  ·show _=mt la lb _+0
   rw[Ii]
   exact lf _ _ _ _ _ _ (zdf h3 ha2 h h2.1) (zdh ha2 h2.1)
  ·rename_i hn
   exact jD (zdi hn)
 have e2:lE la lb la.length (b.1+b.2.2) ahi (b.2.1+b.2.2) bhi=eU ((kX (alo,ahi,blo,bhi) b).map (mt la lb)):=by
  unfold kX
  split
  ·show _=mt la lb _+0
   rw[Ii]
   rename_i z;exact lf _ _ _ _ _ _ (x14 ha2 h z.1) (zdm ha2)
  ·rename_i hn
   exact jD (zdn hn)
 rw[e1,e2];rfl
theorem vx{q:Nat×Nat×Nat×Nat}(hq:mA la lb q)(h:(flm la lb q.1 q.2.1 q.2.2.1 q.2.2.2).2.2≠0) :
  (∀ p∈kI q (flm la lb q.1 q.2.1 q.2.2.1 q.2.2.2),mA la lb p)/\(∀ p∈kX q (flm la lb q.1 q.2.1 q.2.2.1 q.2.2.2),mA la lb p) /\
  (flm la lb q.1 q.2.1 q.2.2.1 q.2.2.2).2.2+eU ((kI q (flm la lb q.1 q.2.1 q.2.2.1 q.2.2.2)).map wd)+eU ((kX q (flm la lb q.1 q.2.1 q.2.2.1 q.2.2.2)).map wd)<=wd q:=by
 have B:=cR la lb q.1 q.2.1 q.2.2.1 q.2.2.2
 obtain⟨alo,ahi,blo,bhi⟩:=q
 have h1:=B.lo
 have h2:=B.hi
 have h3:=BF hq.a1
 have h4:=BF hq.b1
 have ha1:=hq.a1
 have ha2:=hq.a2
 have hb1:=hq.b1
 have hb2:=hq.b2
 generalize hb:flm la lb alo ahi blo bhi=b at *
 refine⟨λp hp=>?_,λp hp=>?_,?_⟩
 ·unfold kI at hp
  split at hp
  ·rename_i hn
   rw[y6] at hp
   subst hp
   exact⟨by dsimp only;exact z2f hn.1,by dsimp only;exact zde h3 ha2 h2.1,by dsimp only;exact z2f hn.2,by dsimp only;exact zde h4 hb2 h2.2⟩
  ·nomatch hp
 ·unfold kX at hp
  split at hp
  ·rename_i hn
   rw[y6] at hp
   subst hp
   exact⟨by dsimp only;exact zdg hn.1,by dsimp only;exact ha2,by dsimp only;exact zdg hn.2,by dsimp only;exact hb2⟩
  ·nomatch hp
 ·have e1:eU ((kI (alo,ahi,blo,bhi) b).map wd)<=b.1 - alo:=by
   unfold kI
   split
   ·show wd _+0<=_
    unfold wd;dsimp only;exact zdj
   ·exact zA _
  have e2:eU ((kX (alo,ahi,blo,bhi) b).map wd)<=ahi - (b.1+b.2.2):=by
   unfold kX
   split
   ·show wd _+0<=_
    unfold wd;dsimp only;exact zdk
   ·exact zA _
  exact z0e h1.1 h2.1 e1 e2
theorem yg{q:Nat×Nat×Nat×Nat}{b:Nat×Nat×Nat}:∀ p∈kI q b,1<=wd p:=λp hp=>by
 unfold kI at hp
 split at hp
 ·rw[y6] at hp
  subst hp
  rename_i z;exact Kj z.1
 ·nomatch hp
theorem xF{q:Nat×Nat×Nat×Nat}{b:Nat×Nat×Nat}:∀ p∈kX q b,1<=wd p:=λp hp=>by
 unfold kX at hp
 split at hp
 ·rw[y6] at hp
  subst hp
  rename_i z;exact Kj z.1
 ·nomatch hp
theorem o7{α:Type}(f:α->Nat):∀ (l:List α),(∀ a∈l,1<=f a)->l.length<=eU (l.map f):=by
 intro l
 induction l with
 | nil =>
  intro Z
  exact zh _
 | cons a l ih =>
  intro h
  have h1:=h a (.head _)
  have h2:=ih λb hb=>h b (aj hb)
  exact zdb h1 h2
theorem mI(l:List (Nat×Nat×Nat×Nat)):eU (l.map λq=>2 * wd q+1)=2 * eU (l.map wd)+l.length:=by
 induction l with
 | nil=>rfl
 | cons a l ih =>
  exact zdc ih
structure Wn where
 a:ze
 q:Nat×Nat×Nat×Nat
structure Bk where
 a:ze
 b:Nat×Nat×Nat
noncomputable def bP(l:List Wn):List Value:=l.map λe=>.ref e.a
noncomputable def aE(l:List Bk):List Value:=l.map λe=>.ref e.a
def QOk(X:LO)(Qs:List Wn):Prop:=∀ e∈Qs,Ex4 λt1 t2 t3 t4=>(e.a,aG [.int e.q.1 t1,.int e.q.2.1 t2,.int e.q.2.2.1 t3,.int e.q.2.2.2 t4])∈X
def BOk(X:LO)(Bs:List Bk):Prop:=∀ e∈Bs,(Ex4 λdd t1 t2 t3=>(e.a,moO dd [.int e.b.1 t1,.int e.b.2.1 t2,.int e.b.2.2 t3])∈X)/\0<e.b.2.2
theorem QOk.mono{X X':LO}{Qs:List Wn}(h:QOk X Qs)(hs:∀ p∈X,p∈X'):QOk X' Qs:=λe he=>by obtain⟨a,b,c,d,m⟩:=h e he;exact⟨a,b,c,d,hs _ m⟩
theorem BOk.mono{X X':LO}{Bs:List Bk}(h:BOk X Bs)(hs:∀ p∈X,p∈X'):BOk X' Bs:=λe he=>by obtain⟨⟨a,b,c,d,m⟩,z⟩:=h e he;exact⟨⟨a,b,c,d,hs _ m⟩,z⟩
noncomputable abbrev gM(w:Am)(L':ze):ID:=Ac (yG w.params) L' 231
noncomputable abbrev gmbW:List Cq:=aD (((aD (st2 pw 6 7))[5]?).getD AA)
noncomputable abbrev nmG (mbl q:ze) (n m:Nat) (t1 t2:AN) (x:ze):LV:=[(yW "matching_blocks", .ref mbl),(yW "queue", .ref q),(yW "la", .int n t1),(yW "lb", .int m t2),(yW "self", .ref x)]
section
variable{x q:ze}{T X:LO}{Ra Rb:LO}{led:Bool}{rows:List aW}{n nb:Nat}{Qs:List Wn}{Bs:List Bk}{e:Wn}
theorem tw(G:GK w hb)(hd:A.depth+3<zg)(hh:A.handled=none)
  (hx:(x,smO dx)∈T) (hdx:(dx,od)∈T) (hf:bH od (mf va vb mb fc (.ref d2) (.ref sj) sp))
  (hd2:(d2,o2)∈T) (ho2:o2.IsDictOf (Ak pw w) (rows.map aW.kv)) (hrows:cJ lb rows) (hob:∀ r∈rows,r.ob∈T) (hsj:(sj,cK led)∈T)
  (Va:SqV pw w hb tabs Ra va la) (Vb:SqV pw w hb tabs Rb vb lb) (hRa:∀ p∈Ra,p∈T) (hRb:∀ p∈Rb,p∈T)
  (S:St hb tabs L' (nmG mbl q n m t1 t2 x) ((q,ap (bP (Qs++[e])) nq)::(mbl,ap (aE Bs) nb)::(X++T)) s.heap) (hQ:QOk X (Qs++[e])) (hB:BOk X Bs) (he:mA la lb e.q) (hlQ:Qs.length<=1000) (hlB:Bs.length<=1000) {Q:FP}
  (k0:(flm la lb e.q.1 e.q.2.1 e.q.2.2.1 e.q.2.2.2).2.2=0->∀ s' X' nq',Kp s s'->St hb tabs L' (nmG mbl q n m t1 t2 x) ((q,ap (bP Qs) nq')::(mbl,ap (aE Bs) nb)::(X'++T)) s'.heap->QOk X' Qs->BOk X' Bs->Q .next s')
  (k1:(flm la lb e.q.1 e.q.2.1 e.q.2.2.1 e.q.2.2.2).2.2≠0->∀ s' X' nq' nb' mm (ls rs:List Wn),Kp s s'->St hb tabs L' (nmG mbl q n m t1 t2 x) ((q,ap (bP (Qs++ls++rs)) nq')::(mbl,ap (aE (Bs++[⟨mm,flm la lb e.q.1 e.q.2.1 e.q.2.2.1 e.q.2.2.2⟩])) nb')::(X'++T)) s'.heap ->
   QOk X' (Qs++ls++rs)->BOk X' (Bs++[⟨mm,flm la lb e.q.1 e.q.2.1 e.q.2.2.1 e.q.2.2.2⟩])->ls.map (·.q)=kI e.q (flm la lb e.q.1 e.q.2.1 e.q.2.2.1 e.q.2.2.2)->rs.map (·.q)=kX e.q (flm la lb e.q.1 e.q.2.1 e.q.2.2.1 e.q.2.2.2)->Q .next s') :
  y4 (y0 pw w) (A.deeper (gM w L')) (zY gmbW (gM w L')) Q E s:=by
 have hq0:=hQ e (yZ _ (.head _))
 obtain⟨u1,u2,u3,u4,hqm⟩:=hq0
 have er:bP (Qs++[e])=bP Qs++[.ref e.a]:=by simp[bP]
 rw[er] at S
 have toT:∀ {p:ze×AO},p∈T->p∈X++T:=λh=>yZ _ h
 refine j4 (aV (ac S m1 (cM S m0 IE PySem.F.type_list_pop (aI (zn (r_pop 0 S rfl (by simp[bP];exact hlQ) ?_))))))
 refine λam nq' af=>cI hh af (aj (aj (y5 _ hqm))) (λak ae=>aY (aq ae (.new (by kernel_rfl)) ?_))
 refine λaw S4=>aY (aq S4 (.new (by kernel_rfl)) ?_)
 refine λay S5=>aY (aq S5 (.new (by kernel_rfl)) ?_)
 refine λaz S6=>aY (aq S6 (.new (by kernel_rfl)) ?_)
 refine λba S7=>cE (restate S7 λs7 K7 S7=>?_)
 replace K7:Kp s s7:=⟨K7.os,K7.gens⟩
 refine j3 (aV (ac S7 m8 (dL (f:=224) G S7 (aj (aj (toT hx))) (aj (aj (toT hdx))) hf (cS G (bl S7 m3 (bl S7 m2 (bl S7 m1 ?_)))))))
 refine bln S7 m0 ⟨⟨_,_,_,S7⟩,?_⟩
 refine flm_c G S7 (by show A.depth+1+2<_;exact hd) hh (aj (aj (toT hx))) (aj (aj (toT hdx))) hf (aj (aj (toT hd2))) ho2 hrows (λr hr=>aj (aj (toT (hob r hr)))) (aj (aj (toT hsj))) Va Vb (λp hp=>aj (aj (toT (hRa p hp)))) (λp hp=>aj (aj (toT (hRb p hp)))) he.a1 he.a2 he.b1 he.b2 (λmm dd s8 v1 v2 v3 K8 S8=>nN hh G S8 m0 (λbf S9=>aY (aq S9 (.new (by kernel_rfl)) ?_)))
 refine λd5 S10=>aY (aq S10 (.new (by kernel_rfl)) ?_)
 refine λcr S11=>aY (aq S11 (.new (by kernel_rfl)) ?_)
 refine λcu S12=>cE (aU (aq S12 (.new (by kernel_rfl)) ?_))
 intro h13 S13
 have B:=cR la lb e.q.1 e.q.2.1 e.q.2.2.1 e.q.2.2.2
 refine restate S13 λeg K13 S13=>?_
 replace K13:Kp s eg:=kt (kt K7 K8) K13
 clear S12 S11 S10 S9 S8 S7 S6 S5 S4 ae af
 generalize flm la lb e.q.1 e.q.2.1 e.q.2.2.1 e.q.2.2.2=b at *
 let lc:LV:=(yW "x", .ref mm)::(yW "k", .int b.2.2 v3)::(yW "j", .int b.2.1 v2)::(yW "i", .int b.1 v1)::(yW "bhi", .int e.q.2.2.2 u4)::(yW "blo", .int e.q.2.2.1 u3)::(yW "ahi", .int e.q.2.1 u2)::(yW "alo", .int e.q.1 u1)::nmG mbl q n m t1 t2 x
 replace S13:St hb tabs L' lc _ _:=S13
 have hB0:QOk X Qs:=λe he=>hQ e (y5 _ he)
 have blo:=B.lo
 refine lQ (BY (ac S13 m1 (JN ⟨λhk=>?_,λhk=>?_⟩)))
 ·have hk:b.2.2≠0:=λq=>by rw[q] at hk;exact absurd hk (by decide)
  refine bS (aV (ac S13 m8 (cM S13 m2 Bu CL (aI (bln S13 m0 (cB 2 S13 rfl ?_ (by simp[aE];exact up 9000 hlB)))))))
  intro h14 S14
  replace S14:=S14.perm (T':=(q,ap (bP Qs) nq')::(mbl,ap (aE (Bs++[⟨mm,b⟩])) (nb+1))::(((mm,moO dd [.int b.1 v1,.int b.2.1 v2,.int b.2.2 v3])::X)++T)) (by
   have e1:aE (Bs++[⟨mm,b⟩])=aE Bs++[.ref mm]:=by simp[aE]
   rw[e1]
   exact (zi (l₁:=[(mm,moO dd [.int b.1 v1,.int b.2.1 v2,.int b.2.2 v3])]) (l₂:=[(q,ap (bP Qs) nq'),(mbl,ap (aE Bs++[.ref mm]) (nb+1))])).append_right (X++T))
  have hX:∀ p∈X,p∈(mm,moO dd [.int b.1 v1,.int b.2.1 v2,.int b.2.2 v3])::X:=λp hp=>aj hp
  have hBn:BOk ((mm,moO dd [.int b.1 v1,.int b.2.1 v2,.int b.2.2 v3])::X) (Bs++[⟨mm,b⟩]):=λe' he'=>by
   rcases zc.mp he' with z|z
   ·exact (hB.mono hX) e' z
   ·rw[y6] at z
    subst z
    exact⟨⟨dd,v1,v2,v3,.head _⟩,Nat.pos_of_ne_zero hk⟩
  have hQn:=hB0.mono hX
  generalize hX0:(mm,moO dd [.int b.1 v1,.int b.2.1 v2,.int b.2.2 v3])::X=da at *
  refine restate S14 λcx K14 S14=>?_
  replace K14:Kp s cx:=kt K13 K14
  let P:y9->Prop:=λag=>Ex3 λX' nq'' ls=>An5 (Kp s ag) (St hb tabs L' lc
   ((q,ap (bP (Qs++ls)) nq'')::(mbl,ap (aE (Bs++[⟨mm,b⟩])) (nb+1))::(X'++T)) ag.heap) ((∀ p∈da,p∈X')) (QOk X' (Qs++ls)) (ls.map (·.q)=kI e.q b)
  refine k7 P ?_ ?_
  ·have no:¬ (e.q.1<b.1/\e.q.2.2.1<b.2.1)->Ex3 λX' nq'' ls=>An5 (Kp s cx) (St hb tabs L' lc
     ((q,ap (bP (Qs++ls)) nq'')::(mbl,ap (aE (Bs++[⟨mm,b⟩])) (nb+1))::(X'++T)) cx.heap) ((∀ p∈da,p∈X')) (QOk X' (Qs++ls)) (ls.map (·.q)=kI e.q b):=λhn =>
    ⟨da,nq',[],K14,by rw[Al];exact S14,λp hp=>hp,by rw[Al];exact hQn,by unfold kI;rw[if_neg hn];rfl⟩
   refine cD (wpAny_isTrue_Compare1 (ac S14 m7 (ac S14 m3 (GO (y8 ⟨λhb'=>?_,λhb'=>⟨nofun,λZ=>?_⟩⟩)))))
   ·have c1:=of_decide_eq_true hb'
    refine cD (wpAny_isTrue_Compare1 (ac S14 m5 (ac S14 m2 (GO (y8 ⟨λhb'=>?_,λhb'=>⟨nofun,λZ=>?_⟩⟩)))))
    ·have c2:=of_decide_eq_true hb'
     refine GP ⟨λZ=>?_,nofun⟩
     refine bS (aV (ac S14 m9 (cM S14 m0 Bu CL (aI (args_cons (bQ (bl S14 m7 ?_)))))))
     refine bl S14 m3 (bl S14 m5 (bln S14 m2 ⟨rfl,_,_,_,_,_,S14,?_⟩))
     refine λtt h15 S15=>zn (cB 1 S15 rfl ?_ (by simp[bP];exact up 9000 hlQ))
     refine λh16 S16=>aF ⟨rfl,(tt,aG [.int e.q.1 u1,.int b.1 v1,.int e.q.2.2.1 u3,.int b.2.1 v2])::da,nq'+1,[⟨tt,(e.q.1,b.1,e.q.2.2.1,b.2.1)⟩],⟨K14.os,K14.gens⟩,?_,λp hp=>aj hp,?_,?_⟩
     ·refine S16.perm ?_
      have e1:bP (Qs++[⟨tt,(e.q.1,b.1,e.q.2.2.1,b.2.1)⟩])=bP Qs++[.ref tt]:=by simp[bP]
      rw[e1]
      exact (zi (l₁:=[(tt,aG [.int e.q.1 u1,.int b.1 v1,.int e.q.2.2.1 u3,.int b.2.1 v2])]) (l₂:=[(q,ap (bP Qs++[.ref tt]) (nq'+1)),(mbl,ap (aE (Bs++[⟨mm,b⟩])) (nb+1))])).append_right (da++T)
     ·intro e' he'
      rcases zc.mp he' with z|z
      ·exact (hQn.mono λp hp=>aj hp) e' z
      ·rw[y6] at z
       subst z
       exact⟨_,_,_,_,.head _⟩
     ·unfold kI
      rw[if_pos ⟨Di.mp c1,Di.mp c2⟩];rfl
    ·have c2:=of_decide_eq_false hb'
     exact aF ⟨rfl,no (z7v hb')⟩
   ·have c1:=of_decide_eq_false hb'
    exact aF ⟨rfl,no (z7w hb')⟩
  ·rintro s15 ⟨X',nq'',ls,K15,S15,hX',hQ',hls⟩
   have hB':=hBn.mono hX'
   have hll:ls.length<=1:=by
    have:=congrArg CA hls
    rw[zb] at this
    rw[this]
    unfold kI
    split<;> simp
   let P:y9->Prop:=λag=>Ex3 λX'' nq'' rs=>An5 (Kp s ag) (St hb tabs L' lc
    ((q,ap (bP (Qs++ls++rs)) nq'')::(mbl,ap (aE (Bs++[⟨mm,b⟩])) (nb+1))::(X''++T)) ag.heap) ((∀ p∈X',p∈X'')) (QOk X'' (Qs++ls++rs)) (rs.map (·.q)=kX e.q b)
   refine k7 P ?_ ?_
   ·have no:¬ (b.1+b.2.2<e.q.2.1/\b.2.1+b.2.2<e.q.2.2.2)->∀ tk,Ex3 λX'' nq'' rs=>An5 (Kp s (wt s15 tk)) (St hb tabs L' lc
      ((q,ap (bP (Qs++ls++rs)) nq'')::(mbl,ap (aE (Bs++[⟨mm,b⟩])) (nb+1))::(X''++T)) s15.heap) ((∀ p∈X',p∈X'')) (QOk X'' (Qs++ls++rs)) (rs.map (·.q)=kX e.q b):=λhn tk =>
     ⟨X',nq'',[],⟨K15.os,K15.gens⟩,by rw[Al];exact S15,λp hp=>hp,by rw[Al];exact hQ',by unfold kX;rw[if_neg hn];rfl⟩
    refine cD (wpAny_isTrue_Compare1 (wpAny_BinOp (ac S15 m3 (ac S15 m1 (CP (ac S15 m6 (GO ?_)))))))
    refine y8 ⟨λhb'=>?_,λhb'=>⟨nofun,λZ=>?_⟩⟩
    ·have c1:=of_decide_eq_true hb'
     refine cD (wpAny_isTrue_Compare1 (wpAny_BinOp (ac S15 m2 (ac S15 m1 (CP (ac S15 m4 (GO ?_)))))))
     refine y8 ⟨λhb'=>?_,λhb'=>⟨nofun,λZ=>?_⟩⟩
     ·have c2:=of_decide_eq_true hb'
      refine GP ⟨λZ=>?_,nofun⟩
      have ea:((b.1:Int)+(b.2.2:Int))=((b.1+b.2.2:Nat):Int):=z0x
      have eb:((b.2.1:Int)+(b.2.2:Int))=((b.2.1+b.2.2:Nat):Int):=z0x
      refine bS (aV (ac S15 m9 (cM S15 m0 Bu CL (aI (args_cons (bQ (args_cons ?_)))))))
      refine wpAny_BinOp (ac S15 m3 (ac S15 m1 (CP (bl S15 m6 (args_cons (wpAny_BinOp (ac S15 m2 ?_)))))))
      refine ac S15 m1 (CP (bln S15 m4 ⟨rfl,_,_,_,_,_,S15,?_⟩))
      intro tt h16 S16
      obtain⟨w1,w2,S16⟩:Ex2 λw1 w2=>St hb tabs L' _ ((tt,aG [.int (b.1+b.2.2:Nat) w1,.int e.q.2.1 u2,.int (b.2.1+b.2.2:Nat) w2,.int e.q.2.2.2 u4])::(q,ap (bP (Qs++ls)) nq'')::(mbl,ap (aE (Bs++[⟨mm,b⟩])) (nb+1))::(X'++T)) h16:=⟨_,_,S16⟩
      refine zn (cB 1 S16 rfl ?_ (by simp[bP];exact z7x hlQ hll))
      refine λh17 S17=>aF ⟨rfl,(tt,aG [.int (b.1+b.2.2:Nat) w1,.int e.q.2.1 u2,.int (b.2.1+b.2.2:Nat) w2,.int e.q.2.2.2 u4])::X',nq''+1,[⟨tt,(b.1+b.2.2,e.q.2.1,b.2.1+b.2.2,e.q.2.2.2)⟩],⟨K15.os,K15.gens⟩,?_,λp hp=>aj hp,?_,?_⟩
      ·refine S17.perm ?_
       have e1:bP (Qs++ls++[⟨tt,(b.1+b.2.2,e.q.2.1,b.2.1+b.2.2,e.q.2.2.2)⟩])=bP (Qs++ls)++[.ref tt]:=by simp[bP]
       rw[e1]
       exact (zi (l₁:=[(tt,aG [.int (b.1+b.2.2:Nat) w1,.int e.q.2.1 u2,.int (b.2.1+b.2.2:Nat) w2,.int e.q.2.2.2 u4])]) (l₂:=[(q,ap (bP (Qs++ls)++[.ref tt]) (nq''+1)),(mbl,ap (aE (Bs++[⟨mm,b⟩])) (nb+1))])).append_right (X'++T)
      ·intro e' he'
       rcases zc.mp he' with z|z
       ·exact (hQ'.mono λp hp=>aj hp) e' z
       ·rw[y6] at z
        subst z
        exact⟨_,_,_,_,.head _⟩
      ·unfold kX
       rw[if_pos ⟨z76 (decide_eq_true c1),z76 (decide_eq_true c2)⟩];rfl
     ·have c2:=of_decide_eq_false hb'
      exact aF ⟨rfl,no (z7y hb') _⟩
    ·have c1:=of_decide_eq_false hb'
     exact aF ⟨rfl,no (z7z hb') _⟩
   ·rintro s16 ⟨X'',nq3,rs,K16,S16,hX'',hQ'',hrs⟩
    refine aF (aF (k1 hk s16 X'' nq3 (nb+1) mm ls rs K16 ?_ hQ'' (hB'.mono hX'') hls hrs))
    exact S16.forget (.cons _ (.cons _ (.cons _ (.cons _ (.cons _ (.cons _ (.cons _ (.cons _ (Ag _)))))))))
 ·have hk:b.2.2=0:=by simpa using hk
  refine aF (aF (k0 hk eg ((mm,moO dd [.int b.1 v1,.int b.2.1 v2,.int b.2.2 v3])::X) nq' K13 ?_ (hB0.mono λp hp=>aj hp) (hB.mono λp hp=>aj hp)))
  exact (S13.forget (.cons _ (.cons _ (.cons _ (.cons _ (.cons _ (.cons _ (.cons _ (.cons _ (Ag _)))))))))).perm ((zi (l₁:=[(mm,moO dd [.int b.1 v1,.int b.2.1 v2,.int b.2.2 v3])]) (l₂:=[(q,ap (bP Qs) nq'),(mbl,ap (aE Bs) nb)])).append_right (X++T))
end
noncomputable def dR(Bs:List Bk):Nat:=eU (Bs.map λe=>e.b.2.2)
noncomputable def qs(Qs:List Wn):List (Nat×Nat×Nat×Nat):=Qs.map (·.q)
section
variable{x q:ze}{T X:LO}{Ra Rb:LO}{led:Bool}{rows:List aW}{n nb M:Nat}{Qs:List Wn}{Bs:List Bk}{e:Wn}
theorem qI(G:GK w hb)(hd:A.depth+3<zg)(hh:A.handled=none)
  (hx:(x,smO dx)∈T) (hdx:(dx,od)∈T) (hf:bH od (mf va vb mb fc (.ref d2) (.ref sj) sp))
  (hd2:(d2,o2)∈T) (ho2:o2.IsDictOf (Ak pw w) (rows.map aW.kv)) (hrows:cJ lb rows) (hob:∀ r∈rows,r.ob∈T) (hsj:(sj,cK led)∈T)
  (Va:SqV pw w hb tabs Ra va la) (Vb:SqV pw w hb tabs Rb vb lb) (hRa:∀ p∈Ra,p∈T) (hRb:∀ p∈Rb,p∈T)
  (S:St hb tabs L' (nmG mbl q n m t1 t2 x) ((q,ap (bP [e]) nq)::(mbl,ap (aE []) nb)::(X++T)) s.heap) (hQ:QOk X [e]) (he:mA la lb e.q) {Q:FP}
  (k:∀ s' X' Bs' nq' nb',Kp s s'->St hb tabs L' (nmG mbl q n m t1 t2 x) ((q,ap [] nq')::(mbl,ap (aE Bs') nb')::(X'++T)) s'.heap->BOk X' Bs'->dR Bs'=mt la lb e.q->Bs'.length<=la.length ->
   y4 (y0 pw w) (A.deeper (gM w L')) (zY ((aD (st2 pw 6 7)).drop 6) (gM w L')) Q E s') :
  y4 (y0 pw w) (A.deeper (gM w L')) (zY ((aD (st2 pw 6 7)).drop 5) (gM w L')) Q E s:=by
 have hsa:=Va.small
 let P:y9->Prop:=λs'=>Ex4 λX' Bs' nq' nb'=>An5 (Kp s s') (St hb tabs L' (nmG mbl q n m t1 t2 x) ((q,ap [] nq')::(mbl,ap (aE Bs') nb')::(X'++T)) s'.heap) (BOk X' Bs') (dR Bs'=mt la lb e.q) (Bs'.length<=la.length)
 let H:Nat->y9->Prop:=λN s'=>Ex5 λQs Bs X nq nb=>An9 (N=eU ((qs Qs).map λq=>2 * wd q+1)) (Kp s s') (St hb tabs L' (nmG mbl q n m t1 t2 x) ((q,ap (bP Qs) nq)::(mbl,ap (aE Bs) nb)::(X++T)) s'.heap) (QOk X Qs) (BOk X Bs) ((∀ p∈qs Qs,mA la lb p)) (dR Bs+eU ((qs Qs).map (mt la lb))=mt la lb e.q) (dR Bs+eU ((qs Qs).map wd)<=la.length) (((∀ p∈qs Qs,1<=wd p)\/Qs.length<=1))
 refine qa P
  H
  _ ⟨[e],[],X,nq,nb,rfl,⟨rfl,id⟩,S,hQ,λe he=>(nomatch he),λp hp=>?_,?_,?_,.inr (zh _)⟩ ?_ ?_
 ·rw[show p=e.q by simpa [qs] using hp];exact he
 ·show 0+(mt la lb e.q+0)=_;exact z80
 ·show 0+(wd e.q+0)<=_
  have:=he.a2
  unfold wd;exact z81 this
 ·rintro E' N s' ⟨Qs,Bs,X,nq,nb,rfl,hKp,S,hQ,hB,hW,hM,hL,hlen⟩
  have hBl:Bs.length<=dR Bs:=o7 (λe:Bk=>e.b.2.2) Bs λb hb'=>(hB b hb').2
  have hQl:Qs.length<=61:=by
   rcases hlen with q|q
   ·have:=o7 wd (qs Qs) q
    have e2:(qs Qs).length=Qs.length:=by simp[qs]
    exact z82 hsa hL this e2
   ·exact up 60 q
  refine BY (ac S m1 (mO S m0 (by simp[bP];exact up 939 hQl) λtk=>⟨λhb'=>?_,λhb'=>?_⟩))
  ·have hne:Qs≠[]:=λq=>by rw[q] at hb';exact absurd hb' (by decide)
   obtain⟨Qs',e',rfl⟩:Ex2 λQs' e'=>Qs=Qs'++[e']:=⟨Qs.dropLast,Qs.getLast hne,(List.dropLast_concat_getLast hne).symm⟩
   have eq:qs (Qs'++[e'])=qs Qs'++[e'.q]:=by simp[qs]
   rw[eq] at hW hM hL hlen
   have hWe:=hW e'.q (yZ _ (.head _))
   rw[zD,aR] at hM hL
   have e1:eU ([e'.q].map (mt la lb))=mt la lb e'.q:=rfl
   have e2:eU ([e'.q].map wd)=wd e'.q:=rfl
   rw[e1] at hM
   rw[e2] at hL
   simp only[zK,Eb] at hQl
   refine tw (X:=X) G hd hh hx hdx hf hd2 ho2 hrows hob hsj Va Vb hRa hRb (by exact S) hQ hB hWe (by exact z85 hQl) (by exact z86 hsa hBl hL) ?_ ?_
   ·refine λhz ag X' nq' ao af hQ2 hB2=>⟨_,?_,Qs',Bs,X',nq',nb,rfl,(kt hKp ao),af,hQ2,hB2,λp hp=>hW p (y5 _ hp),?_,by exact z87 hL,?_⟩
    ·rw[eq,zD,aR]
     exact z88
    ·rw[we hz] at hM;exact hM
    ·rcases hlen with q|q
     ·exact .inl λp hp=>q p (y5 _ hp)
     ·right
      have:Qs'=[]:=by simpa using q
      rw[this];simp
   ·intro hz ag X' nq' nb' mm ls rs ao af hQ2 hB2 hls hrs
    obtain⟨hs1,hs2,hs3⟩:=vx hWe hz
    have hst:=wi hWe hz
    have eq2:qs (Qs'++ls++rs)=qs Qs'++kI e'.q (flm la lb e'.q.1 e'.q.2.1 e'.q.2.2.1 e'.q.2.2.2)++kX e'.q (flm la lb e'.q.1 e'.q.2.1 e'.q.2.2.1 e'.q.2.2.2):=by
     rw[<- hls,<- hrs];simp[qs]
    have hsB:dR (Bs++[⟨mm,flm la lb e'.q.1 e'.q.2.1 e'.q.2.2.1 e'.q.2.2.2⟩])=dR Bs+(flm la lb e'.q.1 e'.q.2.1 e'.q.2.2.1 e'.q.2.2.2).2.2:=by
     unfold dR;rw[zD,aR];rfl
    refine⟨_,?_,Qs'++ls++rs,_,X',nq',nb',rfl,(kt hKp ao),af,hQ2,hB2,λp hp=>?_,?_,?_,?_⟩
    ·have hl1:ls.length<=1:=by
      have:=congrArg CA hls
      rw[zb] at this
      rw[this];unfold kI;split<;> simp
     have hr1:rs.length<=1:=by
      have:=congrArg CA hrs
      rw[zb] at this
      rw[this];unfold kX;split<;> simp
     rw[eq,mI,mI,eq2,zD,zD,zD,aR,aR,aR,e2]
     have hl2:=congrArg CA hls
     have hr2:=congrArg CA hrs
     rw[zb] at hl2 hr2
     simp only[zK,Eb]
     exact z8a hz hs3 hl1 hr1 hl2 hr2
    ·rw[eq2] at hp
     rcases zc.mp hp with z|z
     ·rcases zc.mp z with z|z
      ·exact hW p (y5 _ z)
      ·exact hs1 p z
     ·exact hs2 p z
    ·rw[hsB,eq2,zD,zD,aR,aR];exact z8b hM hst
    ·rw[hsB,eq2,zD,zD,aR,aR];exact z8c hL hs3
    ·left
     intro p hp
     rw[eq2] at hp
     rcases zc.mp hp with z|z
     ·rcases zc.mp z with z|z
      ·rcases hlen with q|q
       ·exact q p (y5 _ z)
       ·rw[zK] at q
        have:Qs'=[]:=by simpa using q
        rw[this] at z;nomatch z
      ·exact yg p z
     ·exact xF p z
  ·have hne:Qs=[]:=by
    cases Qs with
    | nil=>rfl
    | cons a l=>exact absurd hb' (by simp[bP])
   subst hne
   refine⟨X,Bs,nq,nb,⟨hKp.os,hKp.gens⟩,S,hB,z8d hM (show eU ((qs []).map (mt la lb))=0 from rfl),by exact z8e hBl hL⟩
 ·rintro s' ⟨X',Bs',nq',nb',K',S',hB',hM,hl⟩
  exact k s' X' Bs' nq' nb' K' S' hB' hM hl
end
section
variable{m:ze}{l:LV}{T:LO}{vs:List Value}
theorem ya (w:Am):IW (KN w.params) (.ref 163) "__len__" = some (some (.builtin "tuple.__len__")):=by kernel_rfl
theorem ol (w:Am):IW (KN w.params) (.ref 163) "__getitem__" = some (some (.builtin "tuple.__getitem__")):=by kernel_rfl
theorem rO:FO "tuple.__len__" = true:=by decide +kernel
theorem vf:Ek "tuple.__len__" = some .slot:=by decide +kernel
theorem rN:M5 "tuple.__len__" = some ("tuple", "__len__"):=by decide +kernel
theorem rU:FO "tuple.__getitem__" = true:=by decide +kernel
theorem vj:Ek "tuple.__getitem__" = some .slot:=by decide +kernel
theorem rT:M5 "tuple.__getitem__" = some ("tuple", "__getitem__"):=by decide +kernel
theorem wl:findCls (KN w.params) (.ref 163) (.type "type") (yW "_make")=some (.get (.builtin "classmethod.__get__") (.ref 119) .none (.ref 163)):=by kernel_rfl
theorem xH:recIn (KN w.params) 119 "classmethod" = some [.ref 117,.bool false]:=by kernel_rfl
theorem xP{Q:VP}(G:GK w hb)(S:St hb tabs L l T s.heap)(h:∀ u h',St hb tabs L l ((u,MV (.ref 117) (.ref 163))::T) h'->Q (.ref u) (wht s h' (s.toks+1))) :
  y4 (y0 pw w) A (G7 (.ref 163) (yW "_make") true) Q E s:=by
 have X:=S.kin G
 refine cls_bind X uH wl (BO (cm_get (s:=(wt s (s.toks+1))) X xH ?_))
 exact MU rfl (h _ _ (S.push _))
theorem qB{Q:VP}(G:GK w hb)(S:St hb tabs L l T s.heap)(hm:(m,moO dd vs)∈T)(hz:vs.length<=1000)(h:∀ t tk,Q (.int vs.length t) (wt s tk)) :
  y4 (y0 pw w) A (call (.builtin "len") [.ref m]) Q E s:=by
 have X:=S.kin G
 have t1:Cu (y0 pw w) s.heap (C6 (.ref m)) (.ref 163):=(Looks.ld (S.obj _ hm)).andThen .now
 have t2:Cu (y0 pw w) s.heap (B5 (.ref m) (.type "tuple")) true:=t1.andThen (jE X)
 have t3:Cu (y0 pw w) s.heap (EC (.ref m) "__len__") (some (.builtin "tuple.__len__")):=t1.andThen (DL X (ya w))
 refine Calls.call_function_entry kind_len plain_len entry_len (args_len1 _) (yX (m:=oneArg "len" _) (yY ?_))
 refine yX (m:=Ke (.ref m) (yW "__len__")) (yX (t3.here (zp ?_)))
 refine yX (yY ?_)
 refine yX (BO (Cn rO PySem.F.entry_tuple_len (@GN (y0 pw w) _ _ _ "tuple.__len__" "tuple" "__len__" (.ref m) [] [] _ vf rN t2 (PySem.F.args_tuple_len_1 _) ?_)))
 refine yX (m:=Eo (.ref m)) (yX (zv (S.obj _ hm) rfl (yY ?_)))
 refine yX (wpAny_mkInt (yY ?_))
 refine yY (yX (zp (yY ?_)))
 refine yX (DE ?_)
 have e:((vs.toArray.size:Nat):Int)=(vs.length:Int):=by rw[zd]
 refine EW (λhab=>absurd hab zbg) (λZ=>?_)
 refine EW (λhab=>absurd hab (by rw[e];lia)) (λZ=>?_)
 exact yX (wpAny_mkInt (yY ⟨_,rfl,h _ _⟩))
theorem yd{a b c:Value}(G:GK w hb)(S:St hb tabs L l T s.heap)(hd:A.depth<zg)(ht:(t,aG [a,b,c])∈T)
  (k:∀ m dd s',Kp s s'->St hb tabs L l ((m,moO dd [a,b,c])::T) s'.heap->R (.ok (.ret (.ref m))) s') :
  zS (y0 pw w) A (.call (.ref 117) ⟨[.ref 163,.ref t],[]⟩) R s:=by
 refine dQ G S (lk117 _) hd (binds:=[(yW "cls", .ref 163),(yW "iterable", .ref t)]) (body:=aD (st2 pw 4 5)) (AW (by kernel_rfl)) (λL' ai oL r S'=>eZ (aC (aV (cO G S' jM (nu (S'.kin G) (aI (bl S' m0 (bln S' m1 ?_))))))))
 refine BO (nK G S' (aj ht) (by simp) ?_)
 refine λm dd ak ae=>aq ae (.new (by kernel_rfl)) (λaw S4=>dA (jL G S4 B0 (bln S4 m0 (qB G S4 m0 (by simp) ?_))))
 refine λb6 br=>wpAny_Constant_int (ne_int (y8 ⟨nofun,λZ=>?_⟩))
 exact aF (cP (ac S4 m0 (k _ _ _ ⟨rfl,id⟩ (S4.leave 1 rfl r))))
end
def NOk(X:LO)(Ns:List Bk):Prop:=∀ e∈Ns,Ex3 λt1 t2 t3=>(e.a,aG [.int e.b.1 t1,.int e.b.2.1 t2,.int e.b.2.2 t3])∈X
def MOk(X:LO)(Ms:List Bk):Prop:=∀ e∈Ms,Ex4 λdd t1 t2 t3=>(e.a,moO dd [.int e.b.1 t1,.int e.b.2.1 t2,.int e.b.2.2 t3])∈X
theorem NOk.mono{X X':LO}{Qs:List Bk}(h:NOk X Qs)(hs:∀ p∈X,p∈X'):NOk X' Qs:=λe he=>by obtain⟨a,b,c,m⟩:=h e he;exact⟨a,b,c,hs _ m⟩
theorem MOk.mono{X X':LO}{Qs:List Bk}(h:MOk X Qs)(hs:∀ p∈X,p∈X'):MOk X' Qs:=λe he=>by obtain⟨a,b,c,d,m⟩:=h e he;exact⟨a,b,c,d,hs _ m⟩
theorem BOk.toM{X:LO}{Bs:List Bk}(h:BOk X Bs):MOk X Bs:=λe he=>(h e he).1
theorem cY(l:List Bk)(e:Bk):dR (l++[e])=dR l+e.b.2.2:=by unfold dR;rw[zD,aR];rfl
theorem eC(l:List Bk)(e:Bk):aE (l++[e])=aE l++[.ref e.a]:=by simp[aE]
theorem bA(l:List Bk):(aE l).length=l.length:=by simp[aE]
noncomputable abbrev nmM (na:ze) (b:Nat×Nat×Nat) (ti tj tk:AN) (l:LV):LV:=(yW "non_adjacent", .ref na)::(yW "k1", .int b.2.2 tk)::(yW "j1", .int b.2.1 tj)::(yW "i1", .int b.1 ti)::l
noncomputable abbrev uK:List Cq:=aD (((aD (st2 pw 6 7))[9]?).getD AA)
noncomputable def mrT:Expr:=(stP (((aD (st2 pw 6 7))[9]?).getD AA)).2.2.2.2
noncomputable def mrO:List Cq:=orB ((uK[0]?).getD AA)
section
variable{x q na:ze}{T X:LO}{n nn:Nat}{Ns:List Bk}{b:Nat×Nat×Nat}{e:Bk}
theorem om(G:GK w hb)(hh:A.handled=none)
  (S:St hb tabs L' (nmM na b ti tj tk (nmG mbl q n m t1 t2 x)) ((na,ap (aE Ns) nn)::(X++T)) s.heap) (hN:NOk X Ns) (he:MOk T [e]) (hl:Ns.length<=1000) {Q:FP}
  (k:∀ s' X' nn' Ns' b' ti tj tk,Kp s s'->St hb tabs L' (nmM na b' ti tj tk (nmG mbl q n m t1 t2 x)) ((na,ap (aE Ns') nn')::(X'++T)) s'.heap->NOk X' Ns'->dR Ns'+b'.2.2=dR Ns+b.2.2+e.b.2.2->Ns'.length<=Ns.length+1->Q .next s')
  {tgt:Expr} (htg:tgt=mrT) :
  y4 (y0 pw w) (A.deeper (gM w L')) (BL tgt (gM w L') (.ref e.a)) (λZ ag=>y4 (y0 pw w) (A.deeper (gM w L')) (zY uK (gM w L')) Q E ag) E s:=by
 obtain⟨dd,u1,u2,u3,hem⟩:=he e (.head _)
 subst htg
 refine nN hh G S (aj (yZ _ hem)) (λam af=>aY (aq af (.new (by kernel_rfl)) ?_))
 refine λak ae=>aY (aq ae (.new (by kernel_rfl)) ?_)
 refine λaw S4=>aY (aq S4 (.new (by kernel_rfl)) ?_)
 refine λay S5=>cE (restate S5 λs5 K5 S5=>?_)
 replace K5:Kp s s5:=⟨K5.os,K5.gens⟩
 have els:∀ (s6:y9) {Q':FP}{E':VP},Kp s s6->St hb tabs L' ((yW "k2", .int e.b.2.2 u3)::(yW "j2", .int e.b.2.1 u2)::(yW "i2", .int e.b.1 u1)::nmM na b ti tj tk (nmG mbl q n m t1 t2 x)) ((na,ap (aE Ns) nn)::(X++T)) s6.heap ->
   (∀ s',(Ex7 λX' nn' Ns' b' ti tj tk=>An5 (Kp s s') (St hb tabs L' (nmM na b' ti tj tk (nmG mbl q n m t1 t2 x)) ((na,ap (aE Ns') nn')::(X'++T)) s'.heap) (NOk X' Ns') (dR Ns'+b'.2.2=dR Ns+b.2.2+e.b.2.2) (Ns'.length<=Ns.length+1))->Q' .next s') ->
   y4 (y0 pw w) (A.deeper (gM w L')) (zY mrO (gM w L')) Q' E' s6:=by
  intro s6 Q' E' K6 S6 hq
  let P:y9->Prop:=λs7=>Ex3 λX' nn' Ns'=>An5 (Kp s s7) (St hb tabs L' ((yW "k2", .int e.b.2.2 u3)::(yW "j2", .int e.b.2.1 u2)::(yW "i2", .int e.b.1 u1)::nmM na b ti tj tk (nmG mbl q n m t1 t2 x)) ((na,ap (aE Ns') nn')::(X'++T)) s7.heap) (NOk X' Ns') (dR Ns'=dR Ns+b.2.2) (Ns'.length<=Ns.length+1)
  refine k7 P ?_ ?_
  ·refine BY (ac S6 m4 (JN ⟨λhk=>?_,λhk=>?_⟩))
   ·refine bS (aV (ac S6 m3 (cM S6 m0 Bu CL (aI (args_cons (bQ (bl S6 m6 ?_)))))))
    refine bl S6 m5 (bln S6 m4 ⟨rfl,_,_,_,_,_,S6,?_⟩)
    refine λtt ba S7=>zn (cB 1 S7 rfl ?_ (by rw[bA];exact up 9000 hl))
    refine λbc S8=>aF ⟨rfl,(tt,aG [.int b.1 ti,.int b.2.1 tj,.int b.2.2 tk])::X,nn+1,Ns++[⟨tt,b⟩],⟨K6.os,K6.gens⟩,?_,?_,cY _ _,by simp⟩
    ·rw[eC]
     exact S8.perm ((zi (l₁:=[(tt,aG [.int b.1 ti,.int b.2.1 tj,.int b.2.2 tk])]) (l₂:=[(na,ap (aE Ns++[AG tt]) (nn+1))])).append_right (X++T))
    ·intro e' he'
     rcases zc.mp he' with z|z
     ·exact (hN.mono λp hp=>aj hp) e' z
     ·rw[y6] at z
      subst z
      exact⟨_,_,_,.head _⟩
   ·have hk0:b.2.2=0:=by simpa using hk
    exact aF ⟨rfl,X,nn,Ns,K6,S6,hN,by exact z07 hk0,by exact z08⟩
  ·rintro s7 ⟨X',nn',Ns',K7,S7,hN',hs',hl'⟩
   refine eM [yW "i1", yW "j1", yW "k1"] (bl S7 m2 (bl S7 m1 (bln S7 m0 ⟨rfl,rfl,hh,_,_,_,_,_,S7,?_⟩)))
   exact λbc S8=>cU S8 (.old (.there (.there (.there (.there .here))))) (λbf S9=>cU S9 (.old (.there (.there (.there (.there (.there .here)))))) (λd5 S10=>cU S10 (.old (.there (.there (.there (.there (.there (.there .here))))))) (λcr S11=>eQ (aF (hq _ ⟨X',nn',Ns',e.b,u1,u2,u3,⟨K7.os,K7.gens⟩,S11.forget (.cons _ (.cons _ (.cons _ (Ag _)))),hN',by exact z09 hs',hl'⟩)))))
 refine lQ (cD (wpAny_isTrue_Compare1 (wpAny_BinOp (ac S5 m6 (ac S5 m4 (CP (ac S5 m2 ?_)))))))
 refine eq_int (y8 ⟨λhb'=>?_,λhb'=>⟨nofun,λZ=>?_⟩⟩)
 ·refine cD (wpAny_isTrue_Compare1 (wpAny_BinOp (ac S5 m5 (ac S5 m4 (CP (ac S5 m1 (eq_int ?_)))))))
  refine y8 ⟨λhb'=>?_,λhb'=>⟨nofun,λZ=>?_⟩⟩
  ·refine GP ⟨λZ=>?_,nofun⟩
   refine xW (xQ S5 m4 (ac S5 m0 (iadd_int (aq S5 (.old (.there (.there (.there (.there .here))))) ?_))))
   refine λaz S6=>aF (aF ?_)
   have S7:=S6.forget (.cons _ (.cons _ (.cons _ (Ag _))))
   exact k _ X nn Ns (b.1,b.2.1,b.2.2+e.b.2.2) ti tj _ ⟨K5.os,K5.gens⟩ S7 hN (by show dR Ns+(b.2.2+e.b.2.2)=_;exact z0a) z08
  ·refine els _ ⟨K5.os,K5.gens⟩ S5 ?_
   rintro s' ⟨X',nn',Ns',b',ti',tj',tk',K',S',hN',hs',hl'⟩
   exact aF (k s' X' nn' Ns' b' ti' tj' tk' K' S' hN' hs' hl')
 ·refine els _ ⟨K5.os,K5.gens⟩ S5 ?_
  rintro s' ⟨X',nn',Ns',b',ti',tj',tk',K',S',hN',hs',hl'⟩
  exact aF (k s' X' nn' Ns' b' ti' tj' tk' K' S' hN' hs' hl')
end
theorem n5{α:Type}(l:List α)(d:α):(zM l.length).map (λi=>l.getD i d)=l:=by
 apply Ct
 intro i
 rw[zB]
 by_cases h:i<l.length
 ·rw[List.getElem?_range h];simp[h]
 ·rw[zP (by rw[B6];exact z0c h),zP (by exact z0c h)];rfl
theorem perm_of{α:Type}{l:List α}{d:α}{p:Array Nat}(hp:Pm l.length p):(p.toList.map λi=>l.getD i d).Perm l:=by
 have h:=(C7.mp hp).map (λi=>l.getD i d)
 rw[Jt,n5] at h
 exact h
theorem qj{α:Type}(f:α->Value){l:List α}{d:α}{v:Value}{p:Array Nat}(hp:Pm l.length p):(p.toList.map λi=>(l.map f).getD i v)=(p.toList.map λi=>l.getD i d).map f:=by
 rw[CN]
 apply List.map_congr_left
 intro i hi
 have hlt:i<l.length:=by
  have:=(C7.mp hp).mem_iff.mp hi
  simpa using this
 simp[hlt]
theorem o4{l r:List Nat}(h:l.Perm r):eU l=eU r:=by
 induction h with
 | nil=>rfl
 | cons a _ ih=>show a+eU _=a+eU _;rw[ih]
 | swap a b l=>show b+(a+eU l)=a+(b+eU l);exact z0b
 | trans _ _ ih1 ih2=>rw[ih1,ih2]
section
variable{x q na:ze}{T X:LO}{nb nn:Nat}{Bs Ns:List Bk}{oq:AO}{l:LV}
theorem tA(G:GK w hb)(hu:A.units+1<Aw)(S:St hb tabs L' l ((q,oq)::(mbl,ap (aE Bs) nb)::T) s.heap)(hB:MOk T Bs)(h64:Bs.length<64){Q:VP}
  (k:∀ s' Bs' nb',Kp s s'->Bs'.Perm Bs->St hb tabs L' l ((q,oq)::(mbl,ap (aE Bs') nb')::T) s'.heap->Q .none s'):y4 (y0 pw w) A (call (.builtin "list.sort") [.ref mbl]) Q E s:=by
 by_cases h2:2<=Bs.length
 ·refine xL (pre:=[(q,oq)]) (post:=T) (Tt:=.ref 163) (H:=False) (rk:=λZ=>0) S (by rw[bA];exact h2) (by rw[bA];exact h64) ?_ rfl (by kernel_rfl) ?_ ?_
  ·intro v hv
   obtain⟨e,he,rfl⟩:=za.mp hv
   obtain⟨dd,t1,t2,t3,hm⟩:=hB e he
   exact⟨e.a,_,rfl,yZ _ hm,rfl⟩
  ·intro s' e1 K' S' i j hi hj C hC
   rw[bA] at hi hj
   have gi:(aE Bs).getD i .none=.ref (Bs[i]).a:=by simp[aE,hi]
   have gj:(aE Bs).getD j .none=.ref (Bs[j]).a:=by simp[aE,hj]
   obtain⟨dd,t1,t2,t3,hm⟩:=hB Bs[i] (z5 hi)
   obtain⟨dd',u1,u2,u3,hm'⟩:=hB Bs[j] (z5 hj)
   rw[gi,gj]
   exact lX hu G S' (yZ _ (aj hm)) (yZ _ (aj hm')) λc tk=>hC c tk λh=>h.elim
  ·intro s' n' p K' hp hs S'
   rw[bA] at hp
   have e:=qj (λe:Bk=>AG e.a) (d:=⟨0,(0,0,0)⟩) (v:=CK) hp
   refine k s' _ n' K' (perm_of (d:=⟨0,(0,0,0)⟩) hp) ?_
   have e2:(p.toList.map λi=>(aE Bs).getD i .none)=aE (p.toList.map λi=>Bs.getD i ⟨0,(0,0,0)⟩):=e
   rw[<- e2];exact S'
 ·exact iH 1 S rfl (by rw[bA];exact z0d h2) λh' n' S'=>(k _ Bs n' ⟨rfl,id⟩ (BE _) S')
theorem wL(G:GK w hb)(hd:A.depth<zg)(hh:A.handled=none)(S:St hb tabs L' l T s.heap)(hna:(na,ap (aE Ns) nn)∈T)(hN:NOk T Ns)(hl:Ns.length<=1000)(hu:(u,MV (.ref 117) (.ref 163))∈T){Q:VP}
  (k:∀ s' X lst Ms nb,Kp s s'->St hb tabs L' l ((lst,ap (aE Ms) nb)::(X++T)) s'.heap->MOk X Ms->dR Ms=dR Ns->Ms.length=Ns.length->Q (.ref lst) s') :
  y4 (y0 pw w) A (call (.type "map") [.ref u,.ref na]) (λv s₁=>y4 (y0 pw w) A (call (.type "list") [v]) Q E s₁) E s:=by
 refine r_map S hna ?_
 intro mp t it am af
 have ae:St hb tabs L' l (((mp,lh t (.ref u))::(t,aG [.ref it])::T)++[(it,gV na 0)]) am:=af.perm (by
  exact (zL _ (zL _ (zi (l₁:=[(it,gV na 0)]) (l₂:=T)))))
 have hne:mp≠it:=λe=>by
  have:=(zr.mp af.nd).2
  rw[e] at this
  simp at this
 refine restate ae λs3 ax ae=>?_
 replace ax:Kp s s3:=⟨ax.os,ax.gens⟩
 refine pQ (n:=Ns.length) (J:=λi acc T1=>Ex3 λX Ms o=>An6 (T1=X++(((mp,lh t (.ref u))::(t,aG [.ref it])::T)++[(it,o)])) (bZ o na i) (acc=aE Ms) (MOk X Ms) (dR Ms=dR (Ns.take i)) (Ms.length=i))
  (Je:=λacc T1=>Ex2 λX Ms=>An5 (T1=X++((mp,lh t (.ref u))::(t,aG [.ref it])::T)) (acc=aE Ms) (MOk X Ms) (dR Ms=dR Ns) (Ms.length=Ns.length)) ae (.head _) hl ⟨[],[],gV na 0,rfl,⟨rfl,rfl⟩,rfl,(λe he=>(by cases he)),rfl,rfl⟩ ?_ ?_ ?_
 ·rintro D i acc T1 c s₁ E' hi hacc ⟨X,Ms,o,rfl,ho,rfl,hM,hs,hlen⟩ S4 K4
  have hx:(aE Ns)[i]? = some (.ref (Ns[i]).a):=by simp[aE,hi]
  obtain⟨v1,v2,v3,hem⟩:=hN Ns[i] (z5 hi)
  rw[<- zu,<- Bp] at S4
  have hin:∀ p∈T,p∈((D,ap (aE Ms) c)::(X++((mp,lh t (.ref u))::(t,aG [.ref it])::T)))++[(it,o)]:=λp hp=>y5 _ (aj (yZ _ (aj (aj hp))))
  refine sM (mp:=mp) (t:=t) (f:=.ref u) (d:=na) (vs:=aE Ns) (n:=nn) ((D,ap (aE Ms) c)::(X++((mp,lh t (.ref u))::(t,aG [.ref it])::T))).length S4 (y5 _ (aj (yZ _ (.head _)))) (y5 _ (aj (yZ _ (aj (.head _))))) (List.getElem?_concat_length ..) ho (hin _ hna) hx hne ?_
  intro ay o' E2 ho' S5
  rw[IG _ _ (zh _),Nat.sub_self] at S5
  replace S5:St hb tabs L' l (((D,ap (aE Ms) c)::(X++((mp,lh t (.ref u))::(t,aG [.ref it])::T)))++[(it,o')]) ay:=S5
  rw[Bp,zu] at S5
  have hT5:∀ p∈T,p∈(D,ap (aE Ms) c)::(X++(((mp,lh t (.ref u))::(t,aG [.ref it])::T)++[(it,o')])):=λp hp=>aj (yZ _ (y5 _ (aj (aj hp))))
  refine BO (method_call (S5.obj _ (hT5 _ hu)) ?_)
  refine yd G S5 hd (hT5 _ hem) (λmm dd s6 K6 S6=>⟨.ref mm,((mm,moO dd [.int (Ns[i]).b.1 v1,.int (Ns[i]).b.2.1 v2,.int (Ns[i]).b.2.2 v3])::X)++(((mp,lh t (.ref u))::(t,aG [.ref it])::T)++[(it,o')]),rfl,(kt K4 K6),?_,⟨_,Ms++[⟨mm,(Ns[i]).b⟩],o',rfl,ho',(eC Ms ⟨mm,(Ns[i]).b⟩).symm,?_,?_,?_⟩⟩)
  ·exact S6.perm (AJ ..)
  ·intro e he
   rcases zc.mp he with z|z
   ·exact (hM.mono λp hp=>aj hp) e z
   ·rw[y6] at z
    subst z
    exact⟨_,_,_,_,.head _⟩
  ·rw[cY,Ah,zj hi,hs]
   show _=dR (Ns.take i++[Ns[i]])
   rw[cY]
  ·rw[zK,hlen];rfl
 ·rintro D acc T1 c s₁ E' hacc ⟨X,Ms,o,rfl,ho,rfl,hM,hs,hlen⟩ S4 K4
  rw[<- zu,<- Bp] at S4
  refine wu (mp:=mp) (t:=t) (f:=.ref u) (d:=na) (vs:=aE Ns) (n:=nn) 0 hh S4 (aj (yZ _ (.head _))) (aj (yZ _ (aj (.head _)))) (by rw[bA];exact ho) (aj (yZ _ (aj (aj hna)))) ?_
  intro ay S5
  rw[zX] at hs
  exact⟨rfl,⟨K4.os,K4.gens⟩,_,S5,X,Ms,rfl,rfl,hM,hs,hlen⟩
 ·rintro s' D acc T' c K' S' ⟨X,Ms,rfl,rfl,hM,hs,hlen⟩
  refine k s' X D Ms c (kt ax K') ?_ hM hs hlen
  exact S'.sub (.cons_cons _ ((Ag X).append (.cons _ (zl _ _))))
end
section
variable{x:ze}{T X:LO}{l:LV}{Ra Rb:LO}{led:Bool}{rows:List aW}{lst:ze}
noncomputable def mall(la lb:List zH):Nat:=mt la lb (0,la.length,0,lb.length)
theorem ww(la lb:List zH):mall la lb<=la.length:=by
 have:∀ f alo ahi blo bhi,lE la lb f alo ahi blo bhi<=ahi - alo:=by
  intro f
  induction f with
  | zero=>intro _ _ _ _;exact zA _
  | succ f ih =>
   intro alo ahi blo bhi
   rw[lE]
   split
   ·exact zA _
   ·rename_i hz
    have B:=cR la lb alo ahi blo bhi
    have h1:=B.lo
    have h2:=B.hi
    have hlt:alo<ahi:=by
     rcases AM alo ahi with q|q
     ·exact q
     ·exact absurd (i0 (.inl q)) hz
    have h3:=BF (Af hlt)
    have a:=ih alo (flm la lb alo ahi blo bhi).1 blo (flm la lb alo ahi blo bhi).2.1
    have b:=ih ((flm la lb alo ahi blo bhi).1+(flm la lb alo ahi blo bhi).2.2) ahi ((flm la lb alo ahi blo bhi).2.1+(flm la lb alo ahi blo bhi).2.2) bhi
    exact z0e h1.1 h2.1 a b
 exact this _ _ _ _ _
theorem oH(G:GK w hb)(S:St hb tabs L l T s.heap)(hd:A.depth<zg)(hx:(x,smO dx)∈T)(hdx:(dx,od)∈T)(hf:bH od (mf va vb (.ref lst) fc (.ref d2) (.ref sj) sp))
  (k:∀ s',Kp s s'->St hb tabs L l T s'.heap->R (.ok (.ret (.ref lst))) s') :
  zS (y0 pw w) A (.call (.ref 231) ⟨[.ref x],[]⟩) R s:=by
 refine dQ G S (yf _) hd (binds:=[(yW "self", .ref x)]) (body:=aD (st2 pw 6 7)) (AW (by kernel_rfl)) (λL' ai oL r S'=>eZ (dA (bR (ac S' m0 (bB G S' (aj hx) (aj hdx) hf m4 (Bw (isnot_none_ne (by intro x;cases x) (y8 ⟨λZ=>?_,nofun⟩))))))))
 exact cP (bR (ac S' m0 (bB G S' (aj hx) (aj hdx) hf m4 (k _ ⟨rfl,id⟩ (S'.leave 0 rfl r)))))
theorem gperm{α:Type}(A B C T:List α)(l u n q m k x d:α):(l::(A++u::n::(B++(q::m::(C++(k::x::d::T)))))).Perm (x::d::k::l::((A++(u::n::(B++(q::m::C))))++T)):=by
 have e:l::(A++u::n::(B++(q::m::(C++(k::x::d::T)))))=(l::(A++u::n::(B++(q::m::C))))++([k,x,d]++T):=by simp
 rw[e,<- zu]
 show List.Perm _ (([x,d,k]++(l::(A++(u::n::(B++(q::m::C))))))++T)
 exact Il T (zi.trans (Il _ (zi (l₁:=[k]) (l₂:=[x,d]))))
theorem gmb_c(G:GK w hb)(S:St hb tabs L l ((x,smO dx)::(dx,od)::T) s.heap)(hd:A.depth+4<zg)(hu:A.units+20<Aw)(hh:A.handled=none)(hf:bH od (mf va vb .none fc (.ref d2) (.ref sj) sp))
  (hd2:(d2,o2)∈T) (ho2:o2.IsDictOf (Ak pw w) (rows.map aW.kv)) (hrows:cJ lb rows) (hob:∀ r∈rows,r.ob∈T) (hsj:(sj,cK led)∈T)
  (Va:SqV pw w hb tabs Ra va la) (Vb:SqV pw w hb tabs Rb vb lb) (hRa:∀ p∈Ra,p∈T) (hRb:∀ p∈Rb,p∈T)
  (k:∀ s' od' X lst Ms nb,Kp s s'->St hb tabs L l ((x,smO dx)::(dx,od')::((lst,ap (aE Ms) nb)::X++T)) s'.heap->bH od' (mf va vb (.ref lst) fc (.ref d2) (.ref sj) sp)->MOk X Ms->dR Ms=mall la lb->Ms.length<=100->R (.ok (.ret (.ref lst))) s') :
  zS (y0 pw w) A (.call (.ref 231) ⟨[.ref x],[]⟩) R s:=by
 have hsa:=Va.small
 have hsb:=Vb.small
 refine dQ G S (yf _) (dn 4 hd) (binds:=[(yW "self", .ref x)]) (body:=aD (st2 pw 6 7)) (AW (by kernel_rfl)) (λL' ai oL r S'=>eZ (dA (bR (ac S' m0 (bB G S' m1 m2 hf m4 (Bw (isNot_none (y8 ⟨nofun,λZ=>?_⟩))))))))
 refine aF (eM [yW "la", yW "lb"] (args_cons (jL G S' B0 (args_cons (bR (ac S' m0 (bB G S' m1 m2 hf m1 ?_ (hv:=Va.hand))))))))
 refine zn (Va.len S' (λp hp=>aj (aj (aj (hRa p hp)))) ?_)
 refine λb6 br=>args_cons (jL G S' B0 (args_cons (bR (ac S' m0 (bB G S' m1 m2 hf m2 ?_ (hv:=Vb.hand))))))
 refine zn (Vb.len S' (λp hp=>aj (aj (aj (hRb p hp)))) ?_)
 refine λb7 du=>zn ⟨rfl,rfl,hh,_,_,_,_,_,S',?_⟩
 refine λam af=>cU af (.new (by kernel_rfl)) (λak ae=>cU ae (.new (by kernel_rfl)) (λaw S4=>eQ (restate S4 λs4 K4 S4=>?_)))
 replace K4:Kp s s4:=⟨K4.os,K4.gens⟩
 refine aC (bF (args_cons (bQ (args_cons (wpAny_Constant_int (bl S4 m0 (args_cons ?_)))))))
 refine wpAny_Constant_int (bln S4 m1 ⟨rfl,_,_,_,_,_,S4,?_⟩)
 intro t0 ay S5
 obtain⟨w1,w2,S5⟩:Ex2 λw1 w2=>St hb tabs L' _ ((t0,aG [.int 0 w1,.int la.length b6,.int 0 w2,.int lb.length b7])::(L,oL)::(x,smO dx)::(dx,od)::T) ay:=⟨_,_,S5⟩
 refine zn ⟨rfl,_,_,_,_,_,S5,?_⟩
 refine λq az S6=>aq S6 (.new (by kernel_rfl)) (λba S7=>aC (bF (zn ⟨rfl,_,_,_,_,_,S7,?_⟩)))
 refine λmbl bc S8=>aq S8 (.new (by kernel_rfl)) (λbf S9=>restate S9 λs9 K9 S9=>?_)
 replace K9:Kp s s9:=kt K4 K9
 let Y:LO:=(L,oL)::(x,smO dx)::(dx,od)::T
 have S10:St hb tabs L' (nmG mbl q la.length lb.length b6 b7 x) ((q,ap (bP [⟨t0,(0,la.length,0,lb.length)⟩]) 0)::(mbl,ap (aE []) 0)::([(t0,aG [.int 0 w1,.int la.length b6,.int 0 w2,.int lb.length b7])]++Y)) s9.heap :=
  S9.perm ((zi (l₁:=[(mbl,ap [] 0)]) (l₂:=[(q,ap [.ref t0] 0)])).append_right _)
 refine qI (T:=Y) G (dn 1 hd) hh m1 m2 hf (aj (aj (aj hd2))) ho2 hrows (λr hr=>aj (aj (aj (hob r hr)))) (aj (aj (aj hsj))) Va Vb (λp hp=>aj (aj (aj (hRa p hp)))) (λp hp=>aj (aj (aj (hRb p hp)))) S10 ?_ ⟨zA _,zh _,zA _,zh _⟩ ?_
 ·intro e he
  rw[y6] at he
  subst he
  exact⟨_,_,_,_,.head _⟩
 intro s11 X1 Bs nq nb K11 S11 hB hsum hlen
 replace K11:Kp s s11:=kt K9 K11
 refine bS (aV (ac S11 m0 (cM S11 m1 Fp Im (aI (zn (tA G (by show A.units+3+1<_;exact dn 16 hu) S11 (hB.toM.mono λp hp=>y5 _ hp) (z0j hsa hlen) ?_))))))
 intro s12 Bs' nb' K12 hperm S12
 replace K12:Kp s s12:=kt K11 K12
 have hsum':dR Bs'=mall la lb:=by
  rw[<- show mt la lb (0,la.length,0,lb.length)=mall la lb from rfl,<- hsum]
  exact o4 (hperm.map _)
 have hB':MOk X1 Bs':=λe he=>hB.toM e (hperm.mem_iff.mp he)
 have hlen':Bs'.length<=60:=by rw[hperm.length_eq];exact z0k hsa hlen
 refine vR (wpAny_Constant_int (aU (aq S12 (.new (by kernel_rfl)) ?_)))
 refine λh13 S13=>aU (aq S13 (.new (by kernel_rfl)) ?_)
 refine λh14 S14=>aU (aq S14 (.new (by kernel_rfl)) ?_)
 refine λh15 S15=>aC (bF (zn ⟨rfl,_,_,_,_,_,S15,?_⟩))
 refine λna h16 S16=>aq S16 (.new (by kernel_rfl)) ?_
 intro h17 S17
 refine restate S17 λs17 K17 S17=>?_
 replace K17:Kp s s17:=kt K12 K17
 refine eY (ac S17 m4 (jY S17 m2 ?_))
 intro I o Wt fp ee IV hown hw S18
 let J:Nat->AN->LV->LO->Prop:=λt Z l₁ T1=>Ex7 λb ti tj tk Ns X nn=>An5 (l₁=nmM na b ti tj tk (nmG mbl q la.length lb.length b6 b7 x)) (T1=(na,ap (aE Ns) nn)::(X++((q,ap [] nq)::(mbl,ap (aE Bs') nb')::(X1++Y)))) (NOk X Ns) (dR Ns+b.2.2=dR (Bs'.take t)) (Ns.length<=t)
 refine IV.loop (z:=s) hh S18 hw J ?_ (λp hp=>by rw[y6] at hp;subst hp;exact m2) ?_ ?_ (hown:=λi s v Q E h1 h2=>hown _ _ _ _ i s v Q E h1 h2) (ez:=⟨K17.os,K17.gens⟩)
 ·exact⟨(0,0,0),_,_,_,[],[],0,rfl,rfl,(λe he=>(by cases he)),rfl,zh _⟩
 ·rintro E1 t v l₁ T1 own1 s₁ ht hv ⟨b,ti,tj,tk,Ns,X,nn,rfl,rfl,hN,hs,hl⟩ S19 hRo hKp
  rw[bA] at ht
  have hv':v=.ref (Bs'[t]).a:=by
   have:(aE Bs')[t]? = some (.ref (Bs'[t]).a):=by simp[aE,ht]
   rw[this] at hv;exact (AB hv).symm
  clear hv
  subst hv'
  refine om (b:=b) (ti:=ti) (tj:=tj) (tk:=tk) (nn:=nn) (n:=la.length) (m:=lb.length) (t1:=b6) (t2:=b7) (na:=na) (q:=q) (mbl:=mbl) (x:=x) (X:=X) (Ns:=Ns) (e:=Bs'[t]) (T:=((q,ap [] nq)::(mbl,ap (aE Bs') nb')::(X1++Y))++own1) G hh ?st hN ?he (z0l hlen' ht hl) ?_ rfl
  case st =>
   rw[<- zu];exact S19
  case he =>
   intro e he
   rw[y6] at he
   subst he
   obtain⟨dd,u1,u2,u3,hm⟩:=hB' Bs'[t] (z5 ht)
   exact⟨dd,u1,u2,u3,y5 _ (aj (aj (y5 _ hm)))⟩
  refine λs' X' nn' Ns' b' ti' tj' tk' K' S' hN' hs' hl'=>⟨_,(na,ap (aE Ns') nn')::(X'++((q,ap [] nq)::(mbl,ap (aE Bs') nb')::(X1++Y))),?_,⟨b',ti',tj',tk',Ns',X',nn',rfl,rfl,hN',?_,by exact z0m hl hl'⟩,?_,(kt hKp K')⟩
  ·rw[Bp,zu];exact S'
  ·rw[Ah,zj ht]
   show _=dR (Bs'.take t++[Bs'[t]])
   rw[cY];exact z0n hs hs'
  ·intro p hp
   rw[y6] at hp;subst hp
   exact aj (yZ _ m1)
 ·rintro s' l' T' hKp S19 ⟨b,ti,tj,tk,Ns,X,nn,rfl,rfl,hN,hs,hl⟩ hRo
  rw[bA] at hs hl
  rw[zX,hsum'] at hs
  let P:y9->Prop:=λag=>Ex3 λNs X nn=>An5 (Kp s ag) (St hb tabs L' (nmM na b ti tj tk (nmG mbl q la.length lb.length b6 b7 x)) ((na,ap (aE Ns) nn)::(X++((q,ap [] nq)::(mbl,ap (aE Bs') nb')::(X1++Y)))) ag.heap) (NOk X Ns) (dR Ns=mall la lb) (Ns.length<=61)
  refine k7 P ?_ ?_
  ·refine BY (ac S19 m1 (JN ⟨λhk=>?_,λhk=>?_⟩))
   ·refine bS (aV (ac S19 m0 (cM S19 m0 Bu CL (aI (args_cons (bQ (bl S19 m3 ?_)))))))
    refine bl S19 m2 (bln S19 m1 ⟨rfl,_,_,_,_,_,S19,?_⟩)
    refine λtt h20 S20=>zn (cB 1 S20 rfl ?_ (by rw[bA];exact z0o hlen' hl))
    refine λh21 S21=>aF ⟨rfl,Ns++[⟨tt,b⟩],(tt,aG [.int b.1 ti,.int b.2.1 tj,.int b.2.2 tk])::X,nn+1,⟨hKp.os,hKp.gens⟩,?_,?_,by rw[cY];exact hs,by simp;exact z0k hlen' hl⟩
    ·rw[eC]
     exact S21.perm ((zi (l₁:=[(tt,aG [.int b.1 ti,.int b.2.1 tj,.int b.2.2 tk])]) (l₂:=[(na,ap (aE Ns++[AG tt]) (nn+1))])).append_right _)
    ·intro e' he'
     rcases zc.mp he' with z|z
     ·exact (hN.mono λp hp=>aj hp) e' z
     ·rw[y6] at z
      subst z
      exact⟨_,_,_,.head _⟩
   ·have hk0:b.2.2=0:=by simpa using hk
    exact aF ⟨rfl,Ns,X,nn,hKp,S19,hN,by lia,by exact z0q hlen' hl⟩
  ·rintro ag ⟨Ns,X,nn,ao,af,hN,hs,hl⟩
   refine bS (aV (ac af m0 (cM af m0 Bu CL (aI (args_cons (bQ (bl af m6 ?_)))))))
   refine bl af m7 (args_cons (wpAny_Constant_int (zn ⟨rfl,_,_,_,_,_,af,?_⟩)))
   intro tt h20 S20
   obtain⟨w3,S20⟩:∃ w3,St hb tabs L' _ ((tt,aG [.int la.length b6,.int lb.length b7,.int ((0:Nat):Int) w3])::(na,ap (aE Ns) nn)::(X++((q,ap [] nq)::(mbl,ap (aE Bs') nb')::(X1++Y)))) h20:=⟨_,S20⟩
   refine zn (cB 1 S20 rfl ?_ (by rw[bA];exact up 9939 hl))
   intro h21 S21
   have hN3:NOk ((tt,aG [.int la.length b6,.int lb.length b7,.int ((0:Nat):Int) w3])::X) (Ns++[⟨tt,(la.length,lb.length,0)⟩]):=by
    intro e' he'
    rcases zc.mp he' with z|z
    ·exact (hN.mono λp hp=>aj hp) e' z
    ·rw[y6] at z
     subst z
     exact⟨_,_,_,.head _⟩
   have hs3:dR (Ns++[⟨tt,(la.length,lb.length,0)⟩])=mall la lb:=by rw[cY];exact hs
   have e3:aE (Ns++[⟨tt,(la.length,lb.length,0)⟩])=aE Ns++[AG tt]:=eC _ _
   have hl3:(Ns++[(⟨tt,(la.length,lb.length,0)⟩:Bk)]).length<=62:=by simp;exact hl
   replace S21:=S21.perm (T':=(na,ap (aE Ns++[AG tt]) (nn+1))::((((tt,aG [.int la.length b6,.int lb.length b7,.int ((0:Nat):Int) w3])::X))++((q,ap [] nq)::(mbl,ap (aE Bs') nb')::(X1++Y)))) (by
    exact (zi (l₁:=[(tt,aG [.int la.length b6,.int lb.length b7,.int ((0:Nat):Int) w3])]) (l₂:=[(na,ap (aE Ns++[AG tt]) (nn+1))])).append_right _)
   rw[<- e3] at S21
   generalize (tt,aG [.int la.length b6,.int lb.length b7,.int ((0:Nat):Int) w3])::X=X' at *
   generalize Ns++[(⟨tt,(la.length,lb.length,0)⟩:Bk)]=Ns' at *
   refine restate S21 λs21 K21 S21=>?_
   replace K21:Kp s s21:=kt ao K21
   refine cZ (rm G S21 boot_list (args_cons (rm G S21 boot_map (args_cons (bR (mR G S21 (v:=.ref 163) (by kernel_rfl) (xP G S21 ?_)))))))
   refine λu h22 S22=>bln S22 m0 (restate S22 λs22 K22 S22=>?_)
   replace K22:Kp s s22:=kt K21 K22
   refine zf (E:=_) ?_ (λv s' h=>zn h) (λZ Z h=>h)
   refine wL (A:=A.deeper (gM w L')) (Ns:=Ns') (nn:=nn+1) G (by show A.depth+1<zg;exact dn 3 hd) hh S22 (aj (.head _)) (hN3.mono λp hp=>aj (aj (y5 _ hp))) (up 938 hl3) (.head _) ?_
   intro s23 X2 lst Ms nb2 K23 S23 hM hMs hMl
   replace K23:Kp s s23:=kt K22 K23
   have S24:=S23.perm (gperm _ _ _ T _ _ _ _ _ _ _ _)
   refine ac S24 m8 (aN (fl':=mf va vb (.ref lst) fc (.ref d2) (.ref sj) sp) 1 G S24 m0 rfl hf (.there (by kernel_rfl) (.there (by kernel_rfl) (.there (by kernel_rfl) (.there (by kernel_rfl) .here)))) ?_)
   refine λh25 od' S25 hf'=>cP (bR (ac S25 m8 (bB G S25 m0 m1 hf' m4 (k _ od' (X2++((u,MV (.ref 117) (.ref 163))::(na,ap (aE Ns') (nn+1))::(X'++((q,ap [] nq)::(mbl,ap (aE Bs') nb')::X1)))) lst Ms nb2 ⟨K23.os,K23.gens⟩ (S25.leave 2 rfl r) hf' ?_ (z0v hs3 hMs) (z0w hl3 hMl)))))
   intro e he
   obtain⟨dd,a,b,c,m⟩:=hM e he
   exact⟨dd,a,b,c,y5 _ m⟩
end
def BM(hb:AE):Prop:=Ex3 λmg bm ob=>BMod hb Bl mg bm ob
section
variable{tabs:List ze}{l:LV}{T:LO}
theorem St.tabGrown(S:St hb tabs L l T h)(hk:∀ b o,b≠P->h.get? b=some o->h'.get? b=some o)(hP:P∈tabs)
  (ht:Ex2 λps more=>An3 (hb.get? P=some (Ei ps)) (h'.get? P=some (Ei (ps++more))) (C3 (ps++more).toList)):St hb tabs L l T h':=by
 have hlt:=S.tabLt hP
 obtain⟨oL,e,r⟩:=S.fm
 refine⟨⟨oL,hk _ _ (Cc (zJ hlt S.lnew)) e,r⟩,S.lnew,λb o e hn=>hk b o (λq=>hn (q▸hP)) (S.keep b o e hn),λt htt=>?_,λp hp=>hk _ _ (Cc (zJ hlt (S.new p hp))) (S.obj p hp),S.new,S.nd⟩
 by_cases q:t=P
 ·rw[q];exact ht
 ·obtain⟨ps,more,e1,e2,e3⟩:=S.tab t htt
  exact⟨ps,more,e1,hk _ _ q e2,e3⟩
theorem St.off(S:St hb tabs L l T h)(hw:∀ b∈wr,hb.objs.size<=b/\b∉L::T.map (·.1))(hk:∀ b o,b∉wr->h.get? b=some o->h'.get? b=some o):St hb tabs L l T h':=by
 obtain⟨oL,e,r⟩:=S.fm
 have lF:∀ b o,hb.get? b=some o->b∉wr:=λb o e q=>absurd (AH e) (Br.mpr (hw b q).1)
 refine⟨⟨oL,hk _ _ (λq=>(hw _ q).2 (.head _)) e,r⟩,S.lnew,λb o e hn=>hk b o (lF b o e) (S.keep b o e hn),λt ht=>?_,λp hp=>hk _ _ (λq=>(hw _ q).2 (aj (za.mpr ⟨p,hp,rfl⟩))) (S.obj p hp),S.new,S.nd⟩
 obtain⟨ps,more,e1,e2,e3⟩:=S.tab t ht
 exact⟨ps,more,e1,hk _ _ (lF _ _ e1) e2,e3⟩
end
section
variable{tabs:List ze}{c:ze}{l:LV}{T:LO}
theorem St.notTab(S:St hb tabs L l T s.heap){b:ze}{o:AO}(e:hb.get? b=some o)(hc:o.cls≠.none):b∉tabs:=λq=>by
 obtain⟨ps,more,e1,_⟩:=S.tab b q
 rw[e] at e1
 cases e1
 exact hc rfl
theorem xT{Q:ze->y9->Prop}{r:ze}(G:Gd K tabs hb)(B:BM hb)(S:St hb tabs L l T s.heap)(hg:env.globals=Bl)(h:Q Gy s):y4 (y0 prog w) A (builtinsFor env.globals r) Q E s:=by
 obtain⟨mg,bm,ob,M⟩:=B
 rw[hg]
 exact wpAny_builtinsFor (S.oldNs M.ns G.n1) M.name M.ne (S.old M.obj (S.notTab M.obj (by rw[M.cls];exact nofun))) M.cls M.dict M.data h
def uY(vs:Array Value)(P:ze):Prop :=
 Ex7 λfile tf flags tg inF text tt=>An6 (vs.getD 18 .none=.str file tf) (vs.getD 7 .none=.int flags tg) (vs.getD 9 .none=.bool inF) (vs.getD 10 .none=.int text tt) (vs.getD 11 .none=.ref P) (vs[11]? = some (.ref P))
theorem vP {Q:VP}{pos:Ef}{qualname:zH}{scope:Dx} (G:Gd K tabs hb) (S:St hb tabs L l T s.heap) (hcode:env.code=.ref c) (hK:K.lookup c=some oc) (hcls:oc.cls=.type "code") (hd:oc.data=.fields vsc) (hsh:uY vsc P) (hP:P∈tabs)
  (h:∀ code h' tk,St hb tabs L l T h'->(∀ b o,b≠P->s.heap.get? b=some o->h'.get? b=some o)->s.heap.objs.size<=h'.objs.size->Q code (wht s h' tk)) :
  y4 (y0 prog w) A (genexprCode env pos qualname scope) Q E s:=by
 obtain⟨ps,more,e1,e2,e3⟩:=S.tab P hP
 obtain⟨file,tf,flags,tg,inF,text,tt,h18,h7,h9,h10,h11,h11'⟩:=hsh
 have ho:=S.kin G c oc hK
 have hne:c≠P:=λq=>by
  rw[q,e2] at ho
  cases ho
  cases hcls
 have hok:s.heap.IsCode c P (ps++more):=⟨oc,vsc,file,tf,flags,tg,inF,text,tt,_,ho,hd,h11,h18,h7,h9,h10,e2,rfl,e3,hne⟩
 cases hnf:Gu pos (ps++more).toList with
 | some cv =>
  unfold genexprCode codeAt
  rw[hcode,if_neg (show ¬ ((AG c==CK)=true) from zN)]
  refine yX (GQ ho hd ?_)
  rw[h11]
  refine yX (GQ e2 rfl ?_)
  rw[hnf]
  exact yY (h cv s.heap s.toks S (λZ Z Z e=>e) (zh _))
 | none =>
  refine wpAny_genexprCodeX hcode hok ⟨⟨oc,vsc,ho,hcls,hd,h11'⟩,e2⟩ hnf λc' h' tk hx hge hlt hok' Z htab' Z=>(h _ h' tk (S.tabGrown (P:=P) (λb o hb' e=>hx b o hb' e) hP ⟨ps,more++#[Cv pos.line,Cv pos.col,.ref c'],e1,?_,?_⟩) (λb o hb' e=>hx b o hb' e) (zk hge (Af hlt)))
  ·rw[<- JQ];exact htab'.2
  ·rw[<- JQ,EJ]
   exact Mp _ _ _ _ e3
end
section
variable{tabs:List ze}{c:ze}
theorem iN(n:Nat):passing (λZ=>true) n 0=zM n:=by
 unfold passing;rw[En];exact List.filter_eq_self.mpr λZ Z=>rfl
theorem so{elt iter:Expr}{x:zH}{px:Ef}{scope:Dx}{cl:List (zH×ze)}{pos:Ef}{Q:VP}
  (G:Gd K tabs hb) (B:BM hb) (hh:A.handled=none) (hroom:A.depth<zg) (hcode:env.code=.ref c) (hK:K.lookup c=some oc) (hcls:oc.cls=.type "code") (hd:oc.data=.fields vsc) (hsh:uY vsc P) (hP:P∈tabs) (hg:env.globals=Bl)
  (h:y4 (y0 prog w) A (Aq iter env) (λxv s₁=>Ex6 λL l T d vs n=>∃ val:Nat->Int,An5 (xv=.ref d) (St hb tabs L l T s₁.heap) ((d,ap vs n)∈T) ((∀ (A':AR) E' i v C code bi (ag:y9) cy,A'.handled=none->vs[i]? = some v->K.In ag.heap->(∀ p∈T,ag.heap.get? p.1=some p.2)->ag.heap.Ns C cy->cy x=some v ->
    y4 (y0 prog w) A' (Aq elt (genEnv scope cl C code bi env)) (λy s3=>(∃ t,y=.int (val i) t)/\Keeps ag s3) E' ag)) ((∀ s' t',Kp s₁ s'->St hb tabs L l T s'.heap->Q (.int (preSum val vs.length) t') s'))) E s)
  (hco:scope.isCoroutine=false) (hclos:FM scope env=Au cl) (hcell:∀ y∈scope.names,y.2≠.cell) (h0:scope.names.lookup (".0" : zH)=some NameKind.local)
  (hx:scope.names.lookup x=some .local) (hkind:scope.kind=.function) (hs:∀ x,genFold iter env x=Au x) :
  y4 (y0 prog w) A (Aq (.GeneratorExp elt [⟨.Name x px,iter,[],0⟩] scope pos) env) (λv s₁=>y4 (y0 prog w) A (call (.builtin "sum") [v]) Q E s₁) E s:=by
 refine wpAny_GeneratorExp_walksQ hh hco hclos hcell h0 hx hkind hroom (zf h (λxv s₁ z=>?_) λZ Z e=>e) hs
 obtain⟨L,l,T,d,vs,n,val,rfl,S,hm,hel,hQ⟩:=z
 have hl:s₁.heap.IsList d vs.toArray:=⟨_,S.obj _ hm,rfl,n,rfl⟩
 have hlt:d<s₁.heap.objs.size:=S.lt hm
 have ah:=S.push { cls:=.type "list_iterator", data:=.fields #[.ref d,.int 0 0] }
 refine B7 hl ⟨St.lim (s:={ s₁ with heap:=s₁.heap.push { cls:=.type "list_iterator", data:=.fields #[.ref d,.int 0 0] } }) ah G,?_⟩
 refine vP (s:={ s₁ with heap:=s₁.heap.push { cls:=.type "list_iterator", data:=.fields #[.ref d,.int 0 0] } }) G ah hcode hK hcls hd hsh hP λcode ak bn ae hk3 hsz3=>(xT (s:=(wht s₁ ak bn)) G B ae hg ?_)
 have hIlt:s₁.heap.objs.size<ak.objs.size:=ae.lt (.head _)
 have hdlt:d<ak.objs.size:=Cw hlt hIlt
 have hI:hb.objs.size<=s₁.heap.objs.size:=ae.new _ (.head _)
 have ndI:=(zr.mp (zr.mp ae.nd).2).1
 have hLI:L≠s₁.heap.objs.size:=λq=>(zr.mp ae.nd).1 (by rw[q];exact .head _)
 have hTI:∀ p∈T,p.1≠s₁.heap.objs.size:=λp hp q=>ndI (za.mpr ⟨p,hp,q⟩)
 refine⟨s₁.heap.objs.size,[s₁.heap.objs.size,d],[s₁.heap.objs.size],vs.toArray.size,_,_,λZ=>true,λi v=>∃ t,v=.int (val i) t,rfl,
  (λA' hA=>Mh hA _ _ (Ab hlt) vs.toArray),⟨⟨_,ae.obj _ (.head _),rfl,rfl⟩,⟨_,ae.obj _ (aj hm),rfl,n,rfl⟩⟩,?_,St.lim (s:=(wht s₁ ak bn)) ae G,?_,?_,?_⟩
 ·intro b hb'
  rcases y7.mp hb' with rfl|hb'
  ·exact hIlt
  ·rw[y6] at hb';subst hb';exact hdlt
 ·intro q
  rw[y6] at q
  obtain⟨_,hn,_⟩:=G.lim
  exact Aj _ (zJ (q▸hn.lt) hI)
 ·refine λhref hhref=>⟨λA' E' i v ag cy hA hPi hn hm' hk=>?_,λA' E' i v ag cy hA hPi hpz hn hm' hk=>?_⟩
  ·rw[Em]
   exact yY ⟨rfl,_,_,rfl,λZ Z e=>e⟩
  ·refine hel A' E' i v _ code _ ag cy hA (by simpa using hPi) (λa o e=>?_) (λp hp=>?_) hn hm'
   ·have e1:=ae.kin (s:=(wht s₁ ak bn)) G a o e
    have:a<hb.objs.size:=AH (G.k a o e)
    exact hk a (zR.mpr (AH e1)) (λq=>by rw[y6] at q;exact Aj _ (zJ (q▸this) hI)) o (hhref a o e1)
   ·have e1:=ae.obj p (aj hp)
    exact hk p.1 (zR.mpr (AH e1)) (λq=>by rw[y6] at q;exact hTI p hp q) _ (hhref _ _ e1)
 ·intro a ay tk gs hgb hag hsz5 hk5 W hat
  have W1:=W.in4_1
  have S5:St hb tabs L l T ay:=(ae.sub (zl _ _)).off (wr:=[]) (λb q=>by cases q) (λb o Z e=>hk5 b o e)
  refine call_sum_walkAnyS (W1.self 0 _ _ _ hat ⟨a,_,_,_,_,_,_,val,rfl,W1,hat,?_,?_,λs' t' hmv=>?_⟩)
  ·intro b hb'
   rw[hsz5]
   rcases y7.mp hb' with rfl|hb'
   ·exact Be _
   ·rcases y7.mp hb' with rfl|hb'
    ·exact Fq hag
    ·exact Fq (Cw (zR.mp hb') hag)
  ·rintro j v ⟨i,hi,t,rfl⟩
   rw[iN,zU] at hi
   obtain⟨hj,e⟩:=hi
   rw[GR] at e
   subst e
   exact⟨t,rfl⟩
  ·rw[iN,B6,zd]
   refine hQ s' t' ⟨hmv.os,λz=>(AllBare.push z hgb).moved hmv.gens⟩ (S5.off (wr:=[ak.objs.size,s₁.heap.objs.size]) (λb hb'=>?_) (λb o hb' e=>hmv.heap b o hb' e))
   rcases y7.mp hb' with rfl|hb'
   ·refine⟨zk hI (Af hIlt),λq=>?_⟩
    rcases y7.mp q with q|q
    ·have:=ae.fm.lt;exact Aj _ (q▸this)
    ·obtain⟨p,hp,e⟩:=za.mp q
     have:=ae.lt (p:=p) (aj hp)
     exact Aj _ (e▸this)
   ·rw[y6] at hb'
    subst hb'
    refine⟨hI,λq=>?_⟩
    rcases y7.mp q with q|q
    ·exact hLI q.symm
    ·obtain⟨p,hp,e⟩:=za.mp q
     exact hTI p hp e
end
theorem tW:Bi (yW "sum")=some (.builtin "sum"):=by decide +kernel
theorem sumI(l:List Bk):(l.map λe=>(e.b.2.2:Int)).sum=(dR l:Int):=by
 induction l with
 | nil=>rfl
 | cons e l ih =>
  rw[Ay,List.sum_cons,ih]
  exact z0x
theorem sH {M:HF}{h:AE}{w:Am} (X:(KN w.params).In h):Cu M h (CJ (.ref 163) (.type "collections.deque")) false:=I0 X (by kernel_rfl)
theorem wn{w:Am}{A:AR}{E:VP}{s:y9}{m dd:ze}{a b c:Value}{t:AN}{Q:VP}{value slice:Expr}(X:(KN w.params).In s.heap)(hm:s.heap.get? m=some (moO dd [a,b,c]))(h:Q c s)
  (hs:Hc slice false (.ref m) (.int (-1) t)=J5 [.ref m,.int (-1) t] (Dc (.ref m) (.int (-1) t)):=by with_unfolding_all rfl):y4 (y0 pw w) A (JD value slice (.ref m) (.int (-1) t)) Q E s:=by
 have t1:Cu (y0 pw w) s.heap (C6 (.ref m)) (.ref 163):=(Looks.ld hm).andThen .now
 have t2:Cu (y0 pw w) s.heap (B5 (.ref m) (.type "tuple")) true:=t1.andThen (jE X)
 have t3:Cu (y0 pw w) s.heap (EC (.ref m) "__getitem__") (some (.builtin "tuple.__getitem__")):=t1.andThen (DL X (ol w))
 have hg:y4 (y0 pw w) A (Dc (.ref m) (.int (-1) t)) Q E s:=by
  unfold Dc
  try with_reducible refine zp ?_
  first|refine yX (yY ?_)|skip
  refine yX (m:=sequenceKey _ _ _) (yX (t1.here ?_))
  refine yX (m:=seqItemTypes.anyM (λn=>CJ (.ref 163) (.type n))) (yX (m:=CJ (.ref 163) (.type "collections.deque")) ((sH X).here ?_))
  refine yY (yY (yX (m:=Ke (.ref m) (yW "__getitem__") _ _) (yX (t3.here (zp ?_)))))
  refine yX (yY ?_)
  refine yX (BO (Cn rU Hx (@GN (y0 pw w) _ _ _ "tuple.__getitem__" "tuple" "__getitem__" (.ref m) [.int (-1) t] [] _ vj rT t2 (G5 _ _) ?_)))
  refine yX (m:=Eo (.ref m)) (yX (zv hm rfl (yY ?_)))
  refine yX (Dn (Io s _ _) ?_)
  refine aQ (by decide) (yX (BS (T := "int") (Io s _ _) int_index ?_))
  refine aQ (by simp) (yX (As (a:=(-1:Int)) rfl ?_))
  refine aQ (by decide) (yY (yY ?_))
  exact yY h
 refine yX (yX (t3.here ?_))
 refine yY (yX ?_)
 rw[hs]
 exact F8 (zf hg (λr s3 ak=>yX (Ep (yY ak))) λZ Z x=>x)
section
variable{x:ze}{T:LO}{l:LV}{Ra Rb:LO}
theorem restateT{α:Type}{M:HF}{A:AR}{E:VP}{s:y9}{hb:AE}{tabs:List ze}{L:ze}{l:LV}{T:LO}{t:Lz α}{Q:α->y9->Prop}(S:St hb tabs L l T s.heap)(h:∀ s',Kp s s'->s.toks<=s'.toks->St hb tabs L l T s'.heap->y4 M A t Q E s'):y4 M A t Q E s:=h s Kp.refl (zh _) S
theorem pN{P:LO->AO->ze->Prop}(G:GK w hb)(B:BM hb)(S:St hb tabs L l T s.heap)(hd:A.depth+2<zg)(hh:A.handled=none)(hx:(x,smO dx)∈T){od:AO}{mb:Value}(hdx:(dx,od)∈T)(hf:bH od (mf va vb mb fc (.ref d2) (.ref sj) sp))
  (Va:SqV pw w hb tabs Ra va la) (Vb:SqV pw w hb tabs Rb vb lb)
  (hcall:∀ (A':AR) s₁ L' l' oL (R':Cg->y9->Prop),A'.depth=A.depth+1->A'.units<=A.units+10->A'.handled=none->St hb tabs L' l' ((L,oL)::T) s₁.heap ->
   (∀ s' T' lst od',Kp s₁ s'->St hb tabs L' l' ((L,oL)::T') s'.heap->P T' od' lst->R' (.ok (.ret (.ref lst))) s')->zS (y0 pw w) A' (.call (.ref 231) ⟨[.ref x],[]⟩) R' s₁)
  (hP:∀ T' od' lst,P T' od' lst->Ex2 λMs nb=>An9 ((x,smO dx)∈T') ((dx,od')∈T') (bH od' (mf va vb (.ref lst) fc (.ref d2) (.ref sj) sp)) ((lst,ap (aE Ms) nb)∈T') (MOk T' Ms) (dR Ms=mall la lb) (Ms.length<=100) ((∀ p∈Ra,p∈T')) (∀ p∈Rb,p∈T'))
  (k:∀ s' T' od' lst t,s.toks<=t->t<s'.toks->Kp s s'->St hb tabs L l T' s'.heap->P T' od' lst->R (.ok (.ret (.float (bK (mall la lb) (la.length+lb.length)) t))) s') :
  zS (y0 pw w) A (.call (.ref 253) ⟨[.ref x],[]⟩) R s:=by
 refine dQ G S (lk253 _) (dn 2 hd) (binds:=[(yW "self", .ref x)]) (body:=aD (st2 pw 6 10)) (AW (by kernel_rfl)) (λL' ai oL r S'=>eZ (aC (AC (n:=s.toks) (by simp only[zI,Cf];exact z0z) (jL G S' tW (args_cons (zf (E:=_) ?_ (λv s' h=>zn h) (λZ Z h=>h)))))))
 refine so (cl:=[]) G B hh (by show A.depth+1<_;exact dn 1 hd) (c:=252) rfl (oc:=o252 w.params) (by kernel_rfl) rfl rfl ⟨_,_,_,_,_,_,_,rfl,rfl,rfl,rfl,rfl,rfl⟩ (.head _) rfl ?_ rfl rfl (by decide) rfl rfl rfl (λZ=>rfl)
 refine aV (ac S' m0 (dL (f:=231) G S' (aj hx) (aj hdx) hf (cS G (zn ⟨⟨_,_,_,S'⟩,?_⟩))))
 refine hcall _ _ L' _ oL _ rfl (by show A.units+3<=_;exact z11) hh S' ?_
 intro ag T' lst od' ao af hPT
 obtain⟨Ms,nb,hx',hdx',hf',hl',hM,hsum,hlen,hRa,hRb⟩:=hP _ _ _ hPT
 refine⟨L',_,(L,oL)::T',lst,aE Ms,nb,λi=>(Ms.map λe=>(e.b.2.2:Int)).getD i 0,rfl,af,aj hl',?_,?_⟩
 ·refine λA' E' i v C code bi s3 cy hA' hi X hT hn hm=>Dt (HZ (Dl rfl rfl hn hm ?_) rfl)
  refine DX (wpAny_Constant_int (Kk ?_))
  have hv:∃ e,Ms[i]? = some e/\v=.ref e.a:=by
   rw[aE,zB] at hi
   obtain⟨e,h1,h2⟩:=zW.mp hi
   exact⟨e,h1,h2.symm⟩
  obtain⟨e,he,rfl⟩:=hv
  obtain⟨dd,u1,u2,u3,hme⟩:=hM e (zm he)
  refine wn X (hT _ (aj hme)) ⟨⟨u3,?_⟩,_,_,rfl,λZ Z e=>e⟩
  simp[he]
 intro s3 bx ax ae
 rw[preSum_getD,bA,show Ms.length=(Ms.map λe=>(e.b.2.2:Int)).length from (zb ..).symm,zX,sumI,hsum] at *
 replace ax:Kp s s3:=⟨ax.os.trans ao.os,λz=>ax.gens (ao.gens z)⟩
 refine λhk3=>aq ae (.new (by kernel_rfl)) (λaw S4=>restateT S4 λs4 K4 hk4 S4=>?_)
 replace K4:Kp s s4:=kt ax K4
 refine cP (tV G S4 (v:=.ref 173) (by kernel_rfl) (AC (n:=s.toks) (by simp only at hk4;exact z12 hk3 hk4) (bl S4 m0 (args_cons (wpAny_BinOp (jL G S4 B0 (args_cons ?_)))))))
 refine bR (ac S4 m1 (bB G S4 (aj hx') (aj hdx') hf' m1 ?_ (hv:=Va.hand)))
 refine zn (Va.len S4 (λp hp=>aj (hRa p hp)) ?_)
 refine λeo ed=>jL G S4 B0 (args_cons (bR (ac S4 m1 (bB G S4 (aj hx') (aj hdx') hf' m2 ?_ (hv:=Vb.hand)))))
 refine zn (Vb.len S4 (λp hp=>aj (hRb p hp)) ?_)
 refine λt6 tk6=>CP (zn ?_)
 refine λhk5=>⟨⟨_,_,_,S4⟩,?_⟩
 have ha:=Va.small
 have hb':=Vb.small
 have hm:=ww la lb
 exact jg (A:=A.deeper (Ac (yF w.params) L' 253)) (m:=(mall la lb:Int)) (n:=(la.length:Int)+(lb.length:Int)) G (by exact S4) (by show A.depth+1<_;exact dn 1 hd) (by exact z13) (by exact z14 ha hm) (by exact z15) (by exact z16 ha hb') (λba tk7 t7 ht1 ht2 S7=>k _ T' od' lst _ (zk hk5 ht1) ht2 ⟨K4.os,K4.gens⟩ (S7.leave 0 rfl r) hPT)
end
section
variable{x:ze}{T:LO}{l:LV}{Ra Rb:LO}{rows:List aW}{led:Bool}
def rF(T:LO)(mb:Value)(la lb:List zH):Prop:=mb=.none\/Ex3 λlst Ms nb=>An5 (mb=.ref lst) ((lst,ap (aE Ms) nb)∈T) (MOk T Ms) (dR Ms=mall la lb) (Ms.length<=100)
theorem rF.mono{T T':LO}{mb:Value}(h:rF T mb la lb)(hs:∀ p∈T,p∈T'):rF T' mb la lb:=by
 rcases h with h|⟨lst,Ms,nb,a,b,c,d,e⟩
 ·exact .inl h
 ·exact .inr ⟨lst,Ms,nb,a,hs _ b,c.mono hs,d,e⟩
theorem mN{T₀:LO}(hT0:∀ p∈T₀,p∈T){r:ze×AO}(G:GK w hb)(B:BM hb)(S:St hb tabs L l ((x,smO dx)::(dx,od)::r::T) s.heap)(hd:A.depth+6<zg)(hu:A.units+40<Aw)(hh:A.handled=none)(hf:bH od (mf va vb mb fc (.ref d2) (.ref sj) sp))(hmb:rF T₀ mb la lb)
  (hd2:(d2,o2)∈T) (ho2:o2.IsDictOf (Ak pw w) (rows.map aW.kv)) (hrows:cJ lb rows) (hob:∀ r∈rows,r.ob∈T) (hsj:(sj,cK led)∈T)
  (Va:SqV pw w hb tabs Ra va la) (Vb:SqV pw w hb tabs Rb vb lb) (hRa:∀ p∈Ra,p∈T) (hRb:∀ p∈Rb,p∈T)
  (k:∀ s' od' X mb' t,s.toks<=t->t<s'.toks->Kp s s'->St hb tabs L l ((x,smO dx)::(dx,od')::r::(X++T)) s'.heap->bH od' (mf va vb mb' fc (.ref d2) (.ref sj) sp)->rF (X++T₀) mb' la lb->R (.ok (.ret (.float (bK (mall la lb) (la.length+lb.length)) t))) s') :
  zS (y0 pw w) A (.call (.ref 253) ⟨[.ref x],[]⟩) R s:=by
 refine pN (Ra:=Ra) (Rb:=Rb) (P:=λT' od' lst=>Ex3 λX Ms nb=>An6 (T'=(x,smO dx)::(dx,od')::r::(X++T)) (bH od' (mf va vb (.ref lst) fc (.ref d2) (.ref sj) sp)) ((lst,ap (aE Ms) nb)∈X++T₀) (MOk (X++T₀) Ms) (dR Ms=mall la lb) (Ms.length<=100)) G B S (dn 4 hd) hh m0 m1 hf Va Vb ?_ ?_ ?_
 ·intro A' s₁ L' l' oL R' hd' hu' hh' ah k'
  have af:=ah.perm (T':=(x,smO dx)::(dx,od)::((L,oL)::r::T)) ((zi (l₁:=[(L,oL)]) (l₂:=[(x,smO dx),(dx,od)])).append_right (r::T))
  rcases hmb with rfl|⟨lst,Ms,nb,rfl,h1,h2,h3,h4⟩
  ·refine gmb_c G af (z18 hd hd') (z19 hu hu') hh' hf (aj (aj hd2)) ho2 hrows (λr hr=>aj (aj (hob r hr))) (aj (aj hsj)) Va Vb (λp hp=>aj (aj (hRa p hp))) (λp hp=>aj (aj (hRb p hp))) ?_
   intro s' od' X lst Ms nb K ae hf' hM hs hl
   have S4:=ae.perm (T':=(L,oL)::((x,smO dx)::(dx,od')::r::(((lst,ap (aE Ms) nb)::X)++T))) (by
    have e:(x,smO dx)::(dx,od')::((lst,ap (aE Ms) nb)::X++((L,oL)::r::T))=((x,smO dx)::(dx,od')::(lst,ap (aE Ms) nb)::X)++((L,oL)::r::T):=by simp
    rw[e]
    exact zs.trans (zL _ (zL _ (zL _ zs))))
   exact k' s' _ lst od' K S4 ⟨(lst,ap (aE Ms) nb)::X,Ms,nb,rfl,hf',.head _,hM.mono λp hp=>aj (y5 _ hp),hs,hl⟩
  ·refine oH (va:=va) (vb:=vb) (fc:=fc) (d2:=d2) (sj:=sj) (sp:=sp) (lst:=lst) G af (z1a hd hd') m0 m1 hf ?_
   intro s' K ae
   have S4:=ae.perm (T':=(L,oL)::((x,smO dx)::(dx,od)::r::([]++T))) (by
    exact (zi (l₁:=[(x,smO dx),(dx,od)]) (l₂:=[(L,oL)])).append_right (r::T))
   exact k' s' _ lst od K S4 ⟨[],Ms,nb,rfl,hf,h1,h2,h3,h4⟩
 ·rintro T' od' lst ⟨X,Ms,nb,rfl,hf',h1,h2,h3,h4⟩
  have up:∀ p,p∈X++T₀->p∈X++T:=λp hp=>by
   rcases zc.mp hp with q|q
   ·exact y5 _ q
   ·exact yZ _ (hT0 _ q)
  replace h1:=up _ h1
  replace h2:=h2.mono up
  exact⟨Ms,nb,m0,m1,hf',aj (aj (aj h1)),h2.mono λp hp=>aj (aj (aj hp)),h3,h4,λp hp=>aj (aj (aj (yZ _ (hRa p hp)))),λp hp=>aj (aj (aj (yZ _ (hRb p hp))))⟩
 ·rintro s' T' od' lst t ht1 ht2 K S' ⟨X,Ms,nb,rfl,hf',h1,h2,h3,h4⟩
  exact k s' od' X (.ref lst) t ht1 ht2 K S' hf' (.inr ⟨lst,Ms,nb,rfl,h1,h2,h3,h4⟩)
end
noncomputable abbrev aM(p:zH×AN):Value:=.str p.1 p.2
noncomputable def cpl:List zH->List zH->Nat
 | a::l,b::r=>if a=b then cpl l r+1 else 0
 | _,_=>0
theorem mo{a b:zH}{l r:List zH}:cpl (a::l) (b::r)=if a=b then cpl l r+1 else 0:=rfl
theorem tP(r:List zH):cpl [] r=0:=rfl
theorem tQ(a:zH)(l:List zH):cpl (a::l) []=0:=rfl
theorem ja:∀ (l r:List zH),cpl l r<=l.length
 | [],_=>by simp[tP,tQ]
 | _::_,[]=>by simp[tP,tQ]
 | a::l,b::r=>by
  rw[mo]
  split
  ·have:=ja l r;simp;exact this
  ·exact zA _
theorem ip:∀ (l r:List zH),cpl l r=cpl r l
 | [],[]=>rfl
 | [],_::_=>rfl
 | _::_,[]=>rfl
 | a::l,b::r=>by
  rw[mo,mo,ip l r]
  by_cases h:a=b
  ·rw[if_pos h,if_pos h.symm]
  ·rw[if_neg h,if_neg λq=>h q.symm]
theorem ml(l r:List zH):cpl l r<=r.length:=by rw[ip];exact ja r l
theorem gA:∀ (l r:List zH) (i:Nat),i<cpl l r->l[i]? = r[i]?
 | [],r,i,h=>by simp[tP,tQ] at h
 | a::l,[],i,h=>by simp[tP,tQ] at h
 | a::l,b::r,i,h=>by
  rw[mo] at h
  split at h
  ·rename_i q
   cases i with
   | zero=>simp[q]
   | succ i=>simpa using gA l r i (z8h h)
  ·lia
theorem io:∀ (l r:List zH),cpl l r<l.length->cpl l r<r.length->l[cpl l r]?≠r[cpl l r]?
 | [],r,h,_=>by simp at h
 | a::l,[],_,h=>by simp at h
 | a::l,b::r,h,h2=>by
  rw[mo] at h h2 ⊢
  split at h
  ·rename_i q
   rw[if_pos q] at h2 ⊢
   simpa using io l r (z8h h) (z8h h2)
  ·rename_i q
   rw[if_neg q]
   simpa using q
theorem wY{l r:List zH}(h1:l.length<=cpl l r)(h2:r.length<=cpl l r):l=r:=by
 refine Ct λi=>?_
 rcases AM i (cpl l r) with q|q
 ·exact gA l r i q
 ·rw[zP (by exact z8f h1 q),zP (by exact z8f h2 q)]
noncomputable def ltW(l r:List zH):Bool:=match l[cpl l r]?,r[cpl l r]? with
 | some a,some b=>decide (a.cps.toList<b.cps.toList)
 | _,_=>decide (l.length<r.length)
theorem uL{l r:List zH}{a b:zH}(h1:l[cpl l r]? = some a)(h2:r[cpl l r]? = some b):ltW l r=decide (a.cps.toList<b.cps.toList):=by
 unfold ltW;rw[h1,h2]
theorem iS{l r:List zH}(h:l.length<=cpl l r\/r.length<=cpl l r):ltW l r=decide (l.length<r.length):=by
 unfold ltW
 rcases h with q|q
 ·rw[zP q]
 ·rw[zP q]
  cases l[cpl l r]? <;> rfl
section
variable{a b:ze}
theorem kc{α β:Type}{f:α->β->Lz (ForInStep β)}{b0:β}{P:β->y9->Prop}:∀ {l:List α} (n:Nat),n<=l.length ->
  (∀ i p,i<n->l[i]? = some p->∀ Q':ForInStep β->y9->Prop,Q' (.yield b0) s->y4 M A (f p b0) Q' E s)->(n=l.length->P b0 s) ->
  (∀ p,l[n]? = some p->y4 M A (f p b0) (λst s'=>∃ b,st=.done b/\P b s') E s)->y4 M A (Dp l b0 f) P E s:=by
 intro l
 induction l with
 | nil =>
  intro n hn Z he Z
  rw[Em]
  exact yY (he (by simpa using hn))
 | cons p l ih =>
  intro n hn hy he hd
  cases n with
  | zero =>
   rw[Ax]
   refine yX (zf (hd p rfl) (λst s' q=>?_) λZ Z q=>q)
   obtain⟨b,rfl,q⟩:=q
   exact yY q
  | succ n =>
   rw[Ax]
   refine yX (hy 0 p (Ft _) rfl _ ?_)
   exact ih n (by simpa using hn) (λi q hi hq=>hy (i+1) q (z8j hi) (by simpa using hq)) (λq=>he (by simp[q])) (λq hq=>hd q (by simpa using hq))
theorem gC{ps qs:List (zH×AN)}{i:Nat}{z:Value×Value}(h:((ps.map aM).zip (qs.map aM))[i]? = some z):Ex2 λp q=>An3 (ps[i]? = some p) (qs[i]? = some q) (z=(aM p,aM q)):=by
 rw[List.getElem?_zip_eq_some] at h
 obtain⟨h1,h2⟩:=h
 rw[zB] at h1 h2
 obtain⟨p,e1,e2⟩:=zW.mp h1
 obtain⟨q,e3,e4⟩:=zW.mp h2
 exact⟨p,q,e1,e3,by rw[<- Prod.eta z,e2,e4]⟩
noncomputable abbrev cts(ps:List (zH×AN)):List zH:=ps.map (·.1)
theorem cG{ps:List (zH×AN)}{i:Nat}{p:zH×AN}(h:ps[i]? = some p):(cts ps)[i]? = some p.1:=by simp[cts,h]
theorem nQ{ps qs:List (zH×AN)}{Q:VP}(ha:s.heap.get? a=some (aG (ps.map aM)))(hb':s.heap.get? b=some (aG (qs.map aM)))(h:Q (.bool (ltW (cts ps) (cts qs))) s) :
  y4 (y0 prog w) A (call (.builtin "tuple.__lt__") [.ref a,.ref b]) Q E s:=by
 have hTa:s.TypeIs (.ref a) "tuple" := ⟨_,ha,rfl⟩
 have hTb:s.TypeIs (.ref b) "tuple" := ⟨_,hb',rfl⟩
 have l1:=ja (cts ps) (cts qs)
 have l2:=ml (cts ps) (cts qs)
 have hl1:(cts ps).length=ps.length:=by simp
 have hl2:(cts qs).length=qs.length:=by simp
 have hz:((ps.map aM).zip (qs.map aM)).length=L4 ps.length qs.length:=by simp
 refine zT F9 hTa HL ?_ (Hj _ _)
 refine yX (m:=B5 (.ref b) (.type "tuple")) (AL hTb CH ?_)
 refine zx rfl (yX (yX (zv ha rfl (yY ?_))))
 refine yX (yX (zv hb' rfl (yY ?_)))
 refine yX (m:=Dp ((ps.map aM).zip (qs.map aM)) _ _) (kc (cpl (cts ps) (cts qs)) (by rw[hz];exact z8k l1 l2 hl1 hl2) (λi z hi hz' Q' hQ=>?_) (λe=>?_) λz hz'=>?_)
 ·obtain⟨p,q,e1,e2,rfl⟩:=gC hz'
  have:=gA _ _ i hi
  rw[cG e1,cG e2] at this
  have e:=AB this
  refine yX (E5 ?_)
  rw[e,beq_self_eq_true]
  exact zx rfl (yY hQ)
 ·rw[hz] at e
  rw[iS (z8l hl1 hl2 e)] at h
  refine yY ⟨_,rfl,?_⟩
  rw[hl1,hl2] at h
  simpa [CB] using h
 ·obtain⟨p,q,e1,e2,rfl⟩:=gC hz'
  have hd:=io (cts ps) (cts qs) (by rcases AM (cpl (cts ps) (cts qs)) ps.length with z|z;exact z2v hl1 z;rw[zP z] at e1;cases e1) (by rcases AM (cpl (cts ps) (cts qs)) qs.length with z|z;exact z2v hl2 z;rw[zP z] at e2;cases e2)
  rw[uL (cG e1) (cG e2)] at h
  rw[cG e1,cG e2] at hd
  have hne:(p.1==q.1)=false:=beq_eq_false_iff_ne.mpr λz=>hd (by rw[z])
  refine yX (E5 ?_)
  rw[hne]
  refine Bm rfl (yX (AP (yX ?_)))
  refine zf (show y4 _ _ (AF .Lt (aM p) (aM q)) (λv s'=>Q v s') E s from lt_str h) (λv s' q=>yX (yY (yY ?_))) λZ Z q=>q
  exact⟨_,rfl,yY ⟨_,rfl,q⟩⟩
theorem nR{ps qs:List (zH×AN)}{Q:VP}(ha:s.heap.get? a=some (aG (ps.map aM)))(hb':s.heap.get? b=some (aG (qs.map aM)))(h:Q (.bool (ltW (cts qs) (cts ps))) s) :
  y4 (y0 prog w) A (call (.builtin "tuple.__gt__") [.ref a,.ref b]) Q E s:=by
 have hTa:s.TypeIs (.ref a) "tuple" := ⟨_,ha,rfl⟩
 have hTb:s.TypeIs (.ref b) "tuple" := ⟨_,hb',rfl⟩
 have l1:=ja (cts ps) (cts qs)
 have l2:=ml (cts ps) (cts qs)
 have hl1:(cts ps).length=ps.length:=by simp
 have hl2:(cts qs).length=qs.length:=by simp
 have hz:((ps.map aM).zip (qs.map aM)).length=L4 ps.length qs.length:=by simp
 refine zT Ga hTa KP ?_ (Kl _ _)
 refine yX (m:=B5 (.ref b) (.type "tuple")) (AL hTb CH ?_)
 refine zx rfl (yX (yX (zv ha rfl (yY ?_))))
 refine yX (yX (zv hb' rfl (yY ?_)))
 refine yX (m:=Dp ((ps.map aM).zip (qs.map aM)) _ _) (kc (cpl (cts ps) (cts qs)) (by rw[hz];exact z8k l1 l2 hl1 hl2) (λi z hi hz' Q' hQ=>?_) (λe=>?_) λz hz'=>?_)
 ·obtain⟨p,q,e1,e2,rfl⟩:=gC hz'
  have:=gA _ _ i hi
  rw[cG e1,cG e2] at this
  have e:=AB this
  refine yX (E5 ?_)
  rw[e,beq_self_eq_true]
  exact zx rfl (yY hQ)
 ·rw[hz] at e
  rw[ip] at e l1 l2
  rw[iS (z8m hl1 hl2 e)] at h
  refine yY ⟨_,rfl,?_⟩
  rw[hl1,hl2] at h
  simpa [CB] using h
 ·obtain⟨p,q,e1,e2,rfl⟩:=gC hz'
  have hd:=io (cts ps) (cts qs) (by rcases AM (cpl (cts ps) (cts qs)) ps.length with z|z;exact z2v hl1 z;rw[zP z] at e1;cases e1) (by rcases AM (cpl (cts ps) (cts qs)) qs.length with z|z;exact z2v hl2 z;rw[zP z] at e2;cases e2)
  have f1:=cG e1
  have f2:=cG e2
  rw[f1,f2] at hd
  rw[ip] at f1 f2
  rw[uL f2 f1] at h
  have hne:(p.1==q.1)=false:=beq_eq_false_iff_ne.mpr λz=>hd (by rw[z])
  refine yX (E5 ?_)
  rw[hne]
  refine Bm rfl (yX (AP (yX ?_)))
  refine zf (show y4 _ _ (AF .Gt (aM p) (aM q)) (λv s'=>Q v s') E s from Mq h) (λv s' q=>yX (yY (yY ?_))) λZ Z q=>q
  exact⟨_,rfl,yY ⟨_,rfl,q⟩⟩
theorem jw{ps qs:List (zH×AN)}{Q:VP}(ha:s.heap.get? a=some (aG (ps.map aM)))(hb':s.heap.get? b=some (aG (qs.map aM)))(h:Q (.bool (decide (cts ps=cts qs))) s) :
  y4 (y0 prog w) A (call (.builtin "tuple.__eq__") [.ref a,.ref b]) Q E s:=by
 have hTa:s.TypeIs (.ref a) "tuple" := ⟨_,ha,rfl⟩
 have hTb:s.TypeIs (.ref b) "tuple" := ⟨_,hb',rfl⟩
 have l1:=ja (cts ps) (cts qs)
 have l2:=ml (cts ps) (cts qs)
 have hl1:(cts ps).length=ps.length:=by simp
 have hl2:(cts qs).length=qs.length:=by simp
 have hz:((ps.map aM).zip (qs.map aM)).length=L4 ps.length qs.length:=by simp
 refine zT EZ hTa KQ ?_ (Km _ _)
 refine yX (m:=B5 (.ref b) (.type "tuple")) (AL hTb CH ?_)
 refine zx rfl (yX (yX (zv ha rfl (yY ?_))))
 refine yX (yX (zv hb' rfl (yY ?_)))
 refine yX (m:=Dp ((ps.map aM).zip (qs.map aM)) _ _) (kc (cpl (cts ps) (cts qs)) (by rw[hz];exact z8k l1 l2 hl1 hl2) (λi z hi hz' Q' hQ=>?_) (λe=>?_) λz hz'=>?_)
 ·obtain⟨p,q,e1,e2,rfl⟩:=gC hz'
  have:=gA _ _ i hi
  rw[cG e1,cG e2] at this
  have e:=AB this
  refine yX (E5 ?_)
  rw[e,beq_self_eq_true]
  exact zx rfl (yY hQ)
 ·rw[hz] at e
  refine yY ⟨_,rfl,?_⟩
  have:decide (cts ps=cts qs)=decide (ps.length=qs.length):=by
   refine decide_eq_decide.mpr ⟨λq=>by rw[<- hl1,<- hl2,q],λq=>wY (z8n hl1 e q) (z8o hl2 e q)⟩
  rw[this] at h
  have e2:CB .Eq (ps.map aM).toArray.size (qs.map aM).toArray.size=.bool (decide (ps.length=qs.length)):=by
   simp[CB]
   rfl
  rw[e2];exact h
 ·obtain⟨p,q,e1,e2,rfl⟩:=gC hz'
  have hd:=io (cts ps) (cts qs) (by rcases AM (cpl (cts ps) (cts qs)) ps.length with z|z;exact z2v hl1 z;rw[zP z] at e1;cases e1) (by rcases AM (cpl (cts ps) (cts qs)) qs.length with z|z;exact z2v hl2 z;rw[zP z] at e2;cases e2)
  rw[decide_eq_false (λq=>hd (by rw[q]))] at h
  rw[cG e1,cG e2] at hd
  have hne:(p.1==q.1)=false:=beq_eq_false_iff_ne.mpr λz=>hd (by rw[z])
  refine yX (E5 ?_)
  rw[hne]
  exact Bm rfl (yX (yY (yY ⟨_,rfl,yY ⟨_,rfl,h⟩⟩)))
end
theorem mZ(a b:zH)(l r:List zH):ltW (a::l) (b::r)=if a=b then ltW l r else decide (a.cps.toList<b.cps.toList):=by
 by_cases q:a=b
 ·rw[if_pos q]
  unfold ltW
  rw[mo,if_pos q,Fd,Fd,zI,zI,show decide (l.length+1<r.length+1)=decide (l.length<r.length) from decide_eq_decide.mpr Nat.succ_lt_succ_iff]
 ·rw[if_neg q]
  unfold ltW
  rw[mo,if_neg q];rfl
theorem qz:∀ l r:List Nat,ltW (l.map λc=>(⟨#[c]⟩:zH)) (r.map λc=>(⟨#[c]⟩:zH))=decide (l<r):=by
 intro l
 induction l with
 | nil =>
  intro r
  cases r with
  | nil=>rfl
  | cons b r=>rw[iS (.inl (zA _))];simp
 | cons a l ih =>
  intro r
  cases r with
  | nil=>rw[iS (.inr (zA _))];simp
  | cons b r =>
   rw[Ay,Ay,mZ,ih r]
   by_cases q:a=b
   ·subst q
    rw[if_pos rfl]
    refine decide_eq_decide.mpr ?_
    simp[IJ]
   ·rw[if_neg (λz=>q (by injection z with z;injection z with z;injection z))]
    refine decide_eq_decide.mpr ?_
    simp[IJ,q]
theorem iR(x y:zH):ltW (aA x) (aA y)=decide (x.cps.toList<y.cps.toList):=qz _ _
theorem iU{x y:zH}(h:aA x=aA y):x=y:=by
 have:=DN (f:=λc=>(⟨#[c]⟩:zH)) (λa b e=>by injection e with z;injection z with z;injection z) |>.mp h
 obtain⟨a⟩:=x
 obtain⟨b⟩:=y
 have:a=b:=ED.mp this
 rw[this]
structure WX where
 v:Value
 c:List zH
noncomputable def isR:Value->Bool
 | .ref _=>true
 | _=>false
inductive WH (h:AE):WX->Prop
 | str (y:zH) (t:AN):y.cps.size<=60->WH h ⟨.str y t,aA y⟩
 | tup (a:ze) (ps:List (zH×AN)):h.get? a=some (aG (ps.map aM))->ps.length<=60->WH h ⟨.ref a,cts ps⟩
section
variable{x y:WX}
theorem kL{Q:BP}(hu:A.units<Aw)(hx:WH s.heap x)(hy:WH s.heap y)(hk:isR x.v=isR y.v)(h:Q (decide (x.c=y.c)) s):y4 (y0 prog w) A (Fu x.v y.v) Q E s:=by
 cases hx with
 | str a t =>
  cases hy with
  | str b u =>
   refine E5 ?_
   rw[show (a==b)=decide (aA a=aA b) from by
    by_cases q:a=b
    ·subst q;simp
    ·rw[beq_eq_false_iff_ne.mpr q,decide_eq_false λz=>q (iU z)]]
   exact h
  | tup b qs hb hl=>cases hk
 | tup a ps ha hl =>
  cases hy with
  | str b u=>cases hk
  | tup b qs hb hl' =>
   unfold Fu
   try with_reducible refine zp ?_
   by_cases hab:(AG a==AG b)=true
   ·refine bX hab ?_
    have ea:a=b:=by have:=Ap hab;injection this
    subst ea
    rw[ha] at hb
    have e1:=congrArg Mr (AB hb)
    injection e1 with e1 _
    have e2:ps.map aM=qs.map aM:=by simpa using congrArg Ip e1
    have e3:ps=qs:=DN (f:=aM) (λp q e=>by injection e with e1 e2;exact Kn e1 e2) |>.mp e2
    rw[show decide ((⟨.ref a,cts ps⟩:WX).c=(⟨.ref a,cts qs⟩:WX).c)=true from decide_eq_true (by rw[e3])] at h
    exact yX (AP (yY h))
   ·refine aQ hab (yX (Bv (op:=.Eq) ⟨_,ha,rfl⟩ ⟨_,hb,rfl⟩ EZ (jw ha hb ?_) hu))
    exact⟨nofun,y8 h⟩
theorem xm{Q:VP}(hu:A.units<Aw)(hx:WH s.heap x)(hy:WH s.heap y)(hk:isR x.v=isR y.v)(h:Q (.bool (ltW x.c y.c)) s):y4 (y0 prog w) A (AF .Lt x.v y.v) Q E s:=by
 cases hx with
 | str a t =>
  cases hy with
  | str b u =>
   refine lt_str ?_
   rw[<- iR];exact h
  | tup b qs hb hl=>cases hk
 | tup a ps ha hl =>
  cases hy with
  | str b u=>cases hk
  | tup b qs hb hl' =>
   exact Bv (op:=.Lt) ⟨_,ha,rfl⟩ ⟨_,hb,rfl⟩ F9 (nQ ha hb ⟨nofun,h⟩) hu
theorem wx_gt{Q:VP}(hu:A.units<Aw)(hx:WH s.heap x)(hy:WH s.heap y)(hk:isR x.v=isR y.v)(h:Q (.bool (ltW y.c x.c)) s):y4 (y0 prog w) A (AF .Gt x.v y.v) Q E s:=by
 cases hx with
 | str a t =>
  cases hy with
  | str b u =>
   refine Mq ?_
   rw[<- iR];exact h
  | tup b qs hb hl=>cases hk
 | tup a ps ha hl =>
  cases hy with
  | str b u=>cases hk
  | tup b qs hb hl' =>
   exact Bv (op:=.Gt) ⟨_,ha,rfl⟩ ⟨_,hb,rfl⟩ Ga (nR ha hb ⟨nofun,h⟩) hu
end
section
open AutoSeq1 (wpAny_loadPart')
section
variable{items:Array Value}
theorem vg{x:Value}{Q:VP}(hit:s.heap.IsTupleIter it t i)(ht:s.heap.IsTuple t items)(hx:items[i]? = some x)
  (hQ:∀ h',h'.IsTupleIter it t (i+1)->BV it s.heap h'->Q x { s with heap:=h' }):y4 (y0 prog w) A (B2 (.ref it)) Q E s:=by
 obtain⟨o,ho,hc,hd⟩:=id hit
 obtain⟨ot,hot,_,n,hdt⟩:=ht
 refine yX (z4 (name:=yW "__next__") hit.typeIs AQ (zT AQ hit.typeIs C0 ?_ (CX _)))
 refine yX (m:=FT (.ref it) 0) (AK ho hd (x:=.ref t) rfl ?_)
 refine zx rfl (yX (m:=FT (.ref it) 1) (AK ho hd (x:=.int i 0) rfl ?_))
 refine yX (m:=BK (.ref t)) (zv hot hdt ?_)
 simp only[Fo,hx]
 refine yX (DC ho hd (by simp) (yY ⟨x,rfl,yY (hQ _ ⟨_,zq _ ho (II (E4 hd _)),(Kh ..).trans hc,?_⟩ (zt ..))⟩))
 rw[E4 hd];simp[Cv]
theorem xu{Q:VP}(hh:A.handled=none)(hit:s.heap.IsTupleIter it t i)(ht:s.heap.IsTuple t items)(hx:items[i]? = none)
  (hE:∀ h' e,Ha it s.heap h'->(∃ o,h'.get? e=some o/\o.cls=.type "StopIteration")->E (.ref e) { s with heap:=h' }):y4 (y0 prog w) A (B2 (.ref it)) Q E s:=by
 obtain⟨o,ho,hc,hd⟩:=id hit
 obtain⟨ot,hot,_,n,hdt⟩:=ht
 refine yX (z4 (name:=yW "__next__") hit.typeIs AQ (zT AQ hit.typeIs C0 ?_ (CX _)))
 refine yX (m:=FT (.ref it) 0) (AK ho hd (x:=.ref t) rfl ?_)
 refine zx rfl (yX (m:=FT (.ref it) 1) (AK ho hd (x:=.int i 0) rfl ?_))
 refine yX (m:=BK (.ref t)) (zv hot hdt ?_)
 simp only[Fo,hx]
 refine yX (AP (yX (DC ho hd (by simp) ?_)))
 refine yX (m:=Nz (.type "StopIteration") []) (yX (Aa ?_ (by size_fits)))
 refine yX (m:=C8 _ _) (As (a:=CK) (by first|rfl|(simp only[C8];rfl)) ?_)
 refine Aa ?_ (by size_fits)
 refine yX (Hw ?_)
 first|rw[show A.in1.handled=none from hh]|rw[hh]
 refine yX (yY (I1 ?_))
 exact hE _ _ (((zt ..).extBut.push _).push _) ⟨_,zQ _ rfl,rfl⟩
theorem qZ(hh:A.handled=none)(hne:t≠it):Draws prog w A it [it,t] items.size (λi v=>items[i]? = some v) (λi h=>h.IsTupleIter it t i/\h.IsTuple t items) where
 live:=λZ Z st=>by obtain⟨o,ho,_⟩:=st.1;exact⟨o,ho⟩
 frame:=λZ Z Z st hk=>⟨st.1.at λo e=>hk it (by simp) o e,st.2.at λo e=>hk t (by simp) o e⟩
 item:=λi s Q E hi st hQ=>by
  exact vg st.1 st.2 (x:=items[i]) (by simp[hi]) λh' hit' hs'=>(hQ _ h' s.toks (by simp[hi]) ⟨hit',st.2.extBut hs'.extBut hne⟩ hs')
 done:=λs Q E st hE=>xu hh st.1 st.2 (by simp) hE
end
theorem sx{M:HF}{A:AR}{E:VP}{s:y9}{a:Bool}{Q:BP}(h:∀ b,Q b s):y4 M A (Au a) Q E s:=yY (h a)
theorem qX(l:ze)(items:Array Value)(n:Nat)(dct:Option ze)(sl:Array (Option Value)) :
  Meets (At.«enumerate.__new__» ⟨[.type "enumerate", .ref l],[]⟩) (λZ R s=>s.heap.get? l=some { cls:=.type "tuple", dict:=dct,data:=.seq items n,slots:=sl } /\
   R (.ok (.ret (.ref (s.heap.push { cls:=.type "tuple_iterator", data:=.fields #[.ref l,.int 0 0] }).objs.size)))
    { s with heap:=(s.heap.push { cls:=.type "tuple_iterator", data:=.fields #[.ref l,.int 0 0] }).push { cls:=.type "enumerate", data:=.fields #[.none,.bool false,.ref s.heap.objs.size,Cv 0,.none,.none] } }) :=
 .of_wp λprog w A R s h=>by
  obtain⟨hp,g,d,tk,os⟩:=s;obtain⟨hl,h⟩:=h
  have hsub:=sub_enumerate
  have hL:Heap.IsTuple (He ⟨hp,g,d,tk,os⟩) l items:=⟨_,hl,rfl,n,rfl⟩
  wp_walk using Gb hl
  refine wpAny_stack_any λst=>sx λb=>?_
  cases b
  ·wp_walk using Gb hl,GB hL
   exact⟨_,rfl,h⟩
  ·wp_walk using Gb hl,GB hL
   exact⟨_,rfl,h⟩
end
section
variable{tabs:List ze}{a:ze}{ps:List (zH×AN)}
theorem lj{i:Nat}{v:Value}(h:(ps.map aM)[i]? = some v):uk (cts ps) i v:=by
 rw[zB] at h
 obtain⟨p,e,rfl⟩:=zW.mp h
 exact⟨p.1,p.2,cG e,rfl⟩
theorem kD{vs:List Value}{Q:VP}(hL:s.heap.get? a=some (aG vs))
  (h:∀ h',IsEnum h' (s.heap.objs.size+1) s.heap.objs.size 0 .none->h'.IsTupleIter s.heap.objs.size a 0->h'.objs.size=s.heap.objs.size+2 ->
   (∀ b o,s.heap.get? b=some o->h'.get? b=some o)->Q (.ref (s.heap.objs.size+1)) { s with heap:=h' }) :
  y4 (y0 prog w) A (call (.type "enumerate") [.ref a]) Q E s:=by
 refine H9 F.called_enumerate (by decide) (F.typeCall_enumerate_1 _) (F.newCall_enumerate_1 _) (λobj=>I4 obj _) F.entry_enumerate_new
  (qX a vs.toArray _ _ _) ⟨hL,?_⟩
 have hz:(s.heap.push { cls:=.type "tuple_iterator", data:=.fields #[.ref a,.int 0 0] }).objs.size=s.heap.objs.size+1:=GL ..
 rw[hz]
 have he:IsEnum ((s.heap.push { cls:=.type "tuple_iterator", data:=.fields #[.ref a,.int 0 0] }).push
   { cls:=.type "enumerate", data:=.fields #[.none,.bool false,.ref s.heap.objs.size,Cv 0,.none,.none] }) (s.heap.objs.size+1) s.heap.objs.size 0 .none:=by
  have:=zQ (s.heap.push { cls:=.type "tuple_iterator", data:=.fields #[.ref a,.int 0 0] })
   (o:={ cls:=.type "enumerate", data:=.fields #[.none,.bool false,.ref s.heap.objs.size,Cv 0,.none,.none] }) rfl
  rw[hz] at this;exact this
 exact⟨⟨_,he,rfl⟩,h _ he ⟨_,zz _ (zQ _ rfl),rfl,rfl⟩ (by rw[GL,hz]) λb o x=>zz _ (zz _ x)⟩
theorem xx(hl:ps.length<=60):SqV prog w hb tabs [(a,aG (ps.map aM))] (.ref a) (cts ps) where
 len:=λ{A E s L l T Q} S hR h=>by
  have ho:=S.obj _ (hR _ (.head _))
  have e:(ps.map aM).toArray.size=(cts ps).length:=by simp
  refine M6 (items:=(ps.map aM).toArray) ⟨_,ho,rfl,_,rfl⟩ (by rw[e];simp;exact z8p hl) ?_
  rw[e]
  exact h _ _
 hand:=rfl
 small:=by simpa using hl
 item:=λ{A E s L l T Q value slice i u c} S hR hi h hs=>by
  have ho:=S.obj _ (hR _ (.head _))
  have hlt:i<ps.length:=by
   rcases AM i ps.length with q|q
   ·exact q
   ·rw[zP (by simpa using q)] at hi;nomatch hi
  have hx:(ps.map aM).toArray[i]? = some (.str c (ps[i]).2):=by
   have:(cts ps)[i]? = some (ps[i]).1:=cG (by simp[hlt])
   rw[this] at hi
   rw[<- AB hi]
   simp[hlt]
  refine Nm (T := "tuple") ⟨_,ho,rfl⟩ CC.lookup (Mt (items:=(ps.map aM).toArray) (j:=i) ⟨_,ho,rfl,_,rfl⟩ (by lia) (by lia) ?_ hx (h _ _)) (hs _ _)
  unfold HK
  simp
  exact x11 hlt
 iter:=λ{A E s L l T Q} S hR h=>by
  refine pR S (hR _ (.head _)) λI o Wt fp h' IV hw S'=>h I o Wt fp h' ⟨λA hA=>?_,IV.ex,λb hb' hn=>?_⟩ hw S'
  ·have W:=IV.walks A hA
   rw[zb] at W
   rw[show (cts ps).length=ps.length by simp]
   exact bM W λi v e=>lj e
  ·exact IV.ro b hb' hn
 enum:=λ{A E s L l T Q} hh S hR h=>by
  have ho:=S.obj _ (hR _ (.head _))
  have hne:a≠s.heap.objs.size:=Ab (S.lt (hR _ (.head _)))
  have hlt:a<s.heap.objs.size:=S.lt (hR _ (.head _))
  refine kD ho λh' he hi hz hk=>?_
  obtain⟨oe,hoe⟩:=gw he
  obtain⟨oi,hoi,-⟩:=id hi
  have S':St hb tabs L l (T++[(s.heap.objs.size+1,oe),(s.heap.objs.size,oi)]) h':=S.adds hk (λp hp=>by
   rcases y7.mp hp with rfl|hp
   ·exact hoe
   ·rcases y7.mp hp with rfl|hp
    ·exact hoi
    ·nomatch hp) (λp hp=>by
   rcases y7.mp hp with rfl|hp
   ·exact C2 _
   ·rcases y7.mp hp with rfl|hp
    ·exact zh _
    ·nomatch hp) (by simp)
  have hsz:(ps.map aM).toArray.size=(cts ps).length:=by simp
  have hD:∀ A':AR,A'.handled=none->Draws prog w A'.in1 s.heap.objs.size [s.heap.objs.size,a] (cts ps).length (λi v=>(ps.map aM).toArray[i]? = some v) (λi h=>h.IsTupleIter s.heap.objs.size a i/\h.IsTuple a (ps.map aM).toArray):=λA' hA=>by
   have D:=qZ (prog:=prog) (w:=w) (A:=A'.in1) (items:=(ps.map aM).toArray) hA hne
   rw[hsz] at D
   exact D
  have hnm:s.heap.objs.size+1∉[s.heap.objs.size,a]:=by
   simp only[y7,List.not_mem_nil,or_false,not_or]
   exact⟨FL _,λq=>absurd hlt (Br.mpr (q▸C2 _))⟩
  refine h _ _ _ _ _ _ _ _ ⟨λA' hA=>eS (toU (Hd (hD A' hA) (s.heap.objs.size+1) (FL _) hnm (by simp))) (λi v q=>?e1),?e2,?e3⟩ ⟨⟨_,he⟩,hi,⟨_,hk _ _ ho,rfl,_,rfl⟩⟩ S'
  case e1 =>
   obtain⟨t,x',a',b'⟩:=q
   exact⟨t,x',lj (by simpa using a'),b'⟩
  case e2 =>
   rintro i h ⟨⟨old,q⟩,q2,_⟩ b hb'
   rcases y7.mp hb' with rfl|hb'
   ·exact gw q
   ·rw[y6] at hb';subst hb'
    obtain⟨o,e,_⟩:=q2
    exact⟨o,e⟩
  case e3 =>
   intro b hb' hn
   rcases y7.mp hb' with rfl|hb'
   ·exact absurd (.head _) hn
   ·rcases y7.mp hb' with rfl|hb'
    ·exact absurd (aj (.head _)) hn
    ·rw[y6] at hb';subst hb'
     exact .inl ⟨_,.head _⟩
inductive WT (T:LO):WX->Prop
 | str (y:zH) (t:AN):y.cps.size<=60->WT T ⟨.str y t,aA y⟩
 | tup (a:ze) (ps:List (zH×AN)):(a,aG (ps.map aM))∈T->ps.length<=60->WT T ⟨.ref a,cts ps⟩
theorem WT.mono{T T':LO}{x:WX}(h:WT T x)(hs:∀ p∈T,p∈T'):WT T' x:=by
 cases h with
 | str y t q=>exact .str y t q
 | tup a ps q q2=>exact .tup a ps (hs _ q) q2
theorem WT.wh{T:LO}{L:ze}{l:LV}{h:AE}{x:WX}(W:WT T x)(S:St hb tabs L l T h):WH h x:=by
 cases W with
 | str y t q=>exact .str y t q
 | tup a ps q q2=>exact .tup a ps (S.obj _ q) q2
theorem WT.sq{T:LO}{x:WX}(W:WT T x):∃ Ra,(∀ p∈Ra,p∈T)/\SqV prog w hb tabs Ra x.v x.c:=by
 cases W with
 | str y t q=>exact⟨[],λp hp=>(nomatch hp),ut y t q⟩
 | tup a ps q q2=>exact⟨_,λp hp=>by rw[y6] at hp;rw[hp];exact q,xx q2⟩
end
structure Sc where
 a:ze
 f:UInt64
 ft:AN
 x:WX
noncomputable def aB(l:List Sc):List Value:=l.map λe=>.ref e.a
def SOk(T:LO)(l:List Sc):Prop:=∀ e∈l,(e.a,aG [.float e.f e.ft,e.x.v])∈T
theorem SOk.mono{T T':LO}{l:List Sc}(h:SOk T l)(hs:∀ p∈T,p∈T'):SOk T' l:=λe he=>hs _ (h e he)
theorem jA(l:List Sc)(e:Sc):aB (l++[e])=aB l++[.ref e.a]:=by simp[aB]
theorem aJ(l:List Sc):(aB l).length=l.length:=by simp[aB]
structure uo(w:Am)(cut:Value)(g:UInt64->Bool):Prop where
 ge:∀ {A:AR}{E:VP}{s:y9}{f:UInt64}{t:AN}{Q:VP},Q (.bool (g f)) s->y4 (y0 pw w) A (AF .GtE (.float f t) cut) Q E s
 lo:∀ {A:AR}{E:VP}{s:y9}{t:AN}{Q:VP},Q (.bool true) s->y4 (y0 pw w) A (AF .LtE (.float 0 t) cut) Q E s
 hi:∀ {A:AR}{E:VP}{s:y9}{t:AN}{Q:VP},Q (.bool true) s->y4 (y0 pw w) A (AF .LtE cut (.float 4607182418800017408 t)) Q E s
noncomputable def scr(x wd:List zH):UInt64:=bK (mall x wd) (x.length+wd.length)
noncomputable def jo(g:UInt64->Bool)(x wd:List zH):Bool :=
 g (bK (L4 x.length wd.length) (x.length+wd.length))&&(g (bK (qp wd x) (x.length+wd.length))&&g (scr x wd))
theorem pswap{α:Type}{t a b r:α}{Z:List α}:(t::a::b::r::Z).Perm (r::a::b::t::Z) :=
 ((zi (l₁:=[t,a,b]) (l₂:=[r])).append_right Z).trans ((zL r (zi (l₁:=[t]) (l₂:=[a,b]))).append_right Z)
theorem vV{α:Type}{a b r:α}{Z:List α}:(a::b::r::Z).Perm (r::a::b::Z):=(zi (l₁:=[a,b]) (l₂:=[r])).append_right Z
section
variable{x sm:ze}{T X own:LO}{l:LV}{nv:Value}{rows:List aW}{led:Bool}{wd p xv:WX}{Rw Rx Rp:LO}{Es:List Sc}
noncomputable abbrev nmC (sm res pd:ze) (wv:Value) (nv cut:Value):LV:=[(yW "s", .ref sm),(yW "result", .ref res),(yW "word", wv),(yW "possibilities", .ref pd),(yW "n", nv),(yW "cutoff", cut)]
noncomputable abbrev lq(w:Am)(L':ze):ID:=Ac (dH w.params) L' 286
noncomputable abbrev gcmB:List Cq:=aD (((aD (st1 pw 10))[6]?).getD AA)
theorem tD(G:GK w hb)(B:BM hb)(hd:A.depth+12<zg)(hu:A.units+80<Aw)(hh:A.handled=none)(C:uo w cut g)
  (S:St hb tabs L' (nmC sm res pd wv nv cut) ((res,ap (aB Es) nr)::(sm,smO dx)::(dx,od)::(X++T++own)) s.heap) (hlen:Es.length<=60)
  (hf:bH od (mf p.v wd.v mb fc (.ref d2) (.ref sj) sp)) (hmb:rF (X++T) mb p.c wd.c) (hfc:Fc w (X++T) fc wd.c)
  (hd2:(d2,o2)∈T) (ho2:o2.IsDictOf (Ak pw w) (rows.map aW.kv)) (hrows:cJ wd.c rows) (hob:∀ r∈rows,r.ob∈T) (hsj:(sj,cK led)∈T)
  (Vx:SqV pw w hb tabs Rx xv.v xv.c) (hRx:∀ p∈Rx,p∈T) (Vp:SqV pw w hb tabs Rp p.v p.c) (hRp:∀ p∈Rp,p∈T) (Vw:SqV pw w hb tabs Rw wd.v wd.c) (hRw:∀ p∈Rw,p∈T) (told:aP w T xv.v p.v (xv.c=p.c)) {Q:FP}
  (k:∀ s' od' mb' fc' p' X' Es' nr',Kp s s'->St hb tabs L' (nmC sm res pd wv nv cut) ((res,ap (aB Es') nr')::(sm,smO dx)::(dx,od')::(X'++X++T++own)) s'.heap ->
   bH od' (mf p'.v wd.v mb' fc' (.ref d2) (.ref sj) sp)->rF (X'++X++T) mb' p'.c wd.c->Fc w (X'++X++T) fc' wd.c->(p'=p\/p'=xv) ->
   (jo g xv.c wd.c=false/\Es'=Es\/jo g xv.c wd.c=true/\Ex2 λa t=>An4 (Es'=Es++[⟨a,scr xv.c wd.c,t,xv⟩]) ((a,aG [.float (scr xv.c wd.c) t,xv.v])∈X') (s.toks<=t) (t<s'.toks))->s.toks<=s'.toks->Q .next s')
  {tgt:Expr} (htg:tgt=(stP (((aD (st1 pw 10))[6]?).getD AA)).2.2.2.2) :
  y4 (y0 pw w) (A.deeper (lq w L')) (BL tgt (lq w L') xv.v) (λZ ag=>y4 (y0 pw w) (A.deeper (lq w L')) (zY gcmB (lq w L')) Q E ag) E s:=by
 subst htg
 refine aU (aq S (.new (by kernel_rfl)) ?_)
 refine λai ah=>restateT ah λs₁ ar b8 ah=>?_
 replace ar:Kp s s₁:=⟨ar.os,ar.gens⟩
 have rest:∀ (ag:y9) od2 mb2 c0 {E':VP},s.toks<=ag.toks->Kp s ag->St hb tabs L' ((yW "x", xv.v)::nmC sm res pd wv nv cut) ((sm,smO dx)::(dx,od2)::(res,ap (aB Es) nr)::(X++T++own)) ag.heap ->
   bH od2 (mf c0.v wd.v mb2 fc (.ref d2) (.ref sj) sp)->rF (X++T) mb2 c0.c wd.c->(c0=p\/c0=xv)->c0.c=xv.c ->
   y4 (y0 pw w) (A.deeper (lq w L')) (zY (gcmB.drop 1) (lq w L')) Q E' ag:=by
  intro ag od2 mb2 c0 E' hk2 ao af hf2 hmb2 eu d9
  obtain⟨Ra,hRa,Va⟩:∃ Ra,(∀ p∈Ra,p∈T)/\SqV pw w hb tabs Ra c0.v xv.c:=by
   rcases eu with rfl|rfl
   ·exact⟨Rp,hRp,d9▸Vp⟩
   ·exact⟨Rx,hRx,Vx⟩
  rw[d9] at hmb2
  have hsa:=Va.small
  have hsb:=Vw.small
  let P:y9->Prop:=λs5=>Ex6 λod' mb' fc' X' Es' nr'=>An7 (Kp s s5) (St hb tabs L' ((yW "x", xv.v)::nmC sm res pd wv nv cut) ((res,ap (aB Es') nr')::(sm,smO dx)::(dx,od')::(X'++X++T++own)) s5.heap) (bH od' (mf c0.v wd.v mb' fc' (.ref d2) (.ref sj) sp)) (rF (X'++X++T) mb' xv.c wd.c) (Fc w (X'++X++T) fc' wd.c) ((jo g xv.c wd.c=false/\Es'=Es\/jo g xv.c wd.c=true/\Ex2 λa t=>An4 (Es'=Es++[⟨a,scr xv.c wd.c,t,xv⟩]) ((a,aG [.float (scr xv.c wd.c) t,xv.v])∈X') (s.toks<=t) (t<s5.toks))) (s.toks<=s5.toks)
  refine k7 P ?_ ?_
  ·refine AC (n:=s.toks) hk2 (cD (wpAny_isTrue_Compare1 (aV (ac af m1 (dL (f:=267) G af m0 m1 hf2 (cS G (zn ?_)))))))
   refine⟨⟨_,_,_,af⟩,?_⟩
   refine nZ G af (by show A.depth+1+1<_;exact dn 10 hd) hh m0 m1 hf2 m1 m2 Va Vw (λp hp=>by have:=hRa p hp;simp[this]) (λp hp=>by have:=hRw p hp;simp[this]) (λak bn bx ae=>ac ae m6 (C.ge (restate ae λs3 ax ae=>?_)))
   replace ax:Kp s s3:=kt ao ax
   refine y8 ⟨λg1=>?_,λg1=>?_⟩
   ·refine cD (wpAny_isTrue_Compare1 (aV (ac ae m1 (dL (f:=260) G ae m0 m1 hf2 (cS G (zn ⟨⟨_,_,_,ae⟩,?_⟩))))))
    refine quick_ratio (T₀:=X++T) (λp hp=>aj (y5 _ hp)) G ae (by show A.depth+1+1<_;exact dn 10 hd) hh hf2 hfc Va Vw (λp hp=>by have:=hRa p hp;simp[this]) (λp hp=>by have:=hRw p hp;simp[this]) ?_
    intro s4 fy od4 X4 fc4 K4 S4 hf4 hfc4
    replace K4:Kp s s4:=kt ax K4
    replace S4:=S4.perm (T':=(sm,smO dx)::(dx,od4)::(res,ap (aB Es) nr)::(X4++X++T++own)) (by rw[show X4++X++T++own=X4++(X++T++own) by simp];exact zL _ (zL _ zs))
    have hfc4':Fc w (X4++X++T) fc4 wd.c:=by rw[zu];exact hfc4
    refine ac S4 m6 (C.ge (y8 ⟨λg2=>?_,λg2=>?_⟩))
    ·refine cD (wpAny_isTrue_Compare1 (aV (ac S4 m1 (dL (f:=253) G S4 m0 m1 hf4 (cS G (zn ⟨⟨_,_,_,S4⟩,?_⟩))))))
     have hin:∀ p,p∈T->p∈X4++X++T++own:=λp hp=>y5 _ (yZ _ hp)
     have hmb4:rF (X4++X++T) mb2 xv.c wd.c:=hmb2.mono λp hp=>by rw[zu];exact yZ _ hp
     refine mN (T₀:=X4++X++T) (λp hp=>y5 _ hp) G B S4 (by show A.depth+1+6<_;exact dn 5 hd) (by show A.units+3+40<_;exact dn 37 hu) hh hf4 hmb4 (hin _ hd2) ho2 hrows (λr hr=>hin _ (hob r hr)) (hin _ hsj) Va Vw (λp hp=>by have:=hRa p hp;simp[this]) (λp hp=>by have:=hRw p hp;simp[this]) ?_
     intro s5 od5 X5 mb5 eo Z Z K5 S5 hf5 hmb5
     replace K5:Kp s s5:=kt K4 K5
     have hfc5:Fc w (X5++(X4++X++T)) fc4 wd.c:=hfc4'.mono λp hp=>yZ _ hp
     rw[show X5++(X4++X++T)=X5++X4++X++T by simp] at hmb5 hfc5
     rw[show X5++(X4++X++T++own)=X5++X4++X++T++own by simp] at S5
     refine ac S5 m6 (C.ge (y8 ⟨λg3=>?_,λg3=>?_⟩))
     ·refine GP λhk5=>⟨λZ=>?_,nofun⟩
      have hk:jo g xv.c wd.c=true:=by
       unfold jo scr
       rw[g1,g2,g3];rfl
      refine bS (aV (ac S5 m2 (cM S5 m2 Bu CL (aI (args_cons (bQ (args_cons ?_)))))))
      refine aV (ac S5 m1 (dL (f:=253) G S5 m0 m1 hf5 (cS G (zn ⟨⟨_,_,_,S5⟩,?_⟩))))
      have hin5:∀ p,p∈T->p∈X5++X4++X++T++own:=λp hp=>y5 _ (yZ _ hp)
      refine mN (T₀:=X5++X4++X++T) (λp hp=>y5 _ hp) G B S5 (by show A.depth+1+6<_;exact dn 5 hd) (by show A.units+3+40<_;exact dn 37 hu) hh hf5 hmb5 (hin5 _ hd2) ho2 hrows (λr hr=>hin5 _ (hob r hr)) (hin5 _ hsj) Va Vw (λp hp=>by have:=hRa p hp;simp[this]) (λp hp=>by have:=hRw p hp;simp[this]) ?_
      intro s6 od6 X6 mb6 t6 ht1 ht2 K6 S6 hf6 hmb6
      replace K6:Kp s s6:=kt K5 K6
      have hfc6:Fc w (X6++(X5++X4++X++T)) fc4 wd.c:=hfc5.mono λp hp=>yZ _ hp
      refine bln S6 m0 ⟨rfl,_,_,_,_,_,S6,?_⟩
      refine λtt ba S7=>zn (cB 3 S7 rfl ?_ (by rw[aJ];exact up 9940 hlen))
      refine λbc S8=>aF ⟨rfl,od6,mb6,fc4,(tt,aG [.float (scr xv.c wd.c) t6,xv.v])::(X6++X5++X4),Es++[⟨tt,scr xv.c wd.c,t6,xv⟩],nr+1,⟨K6.os,K6.gens⟩,?_,hf6,?_,?_,.inr ⟨hk,tt,t6,rfl,.head _,zk hk5 ht1,ht2⟩,zk hk5 (zk ht1 (Af ht2))⟩
      ·rw[jA]
       have e:X6++(X5++X4++X++T++own)=X6++X5++X4++X++T++own:=by simp
       rw[e] at S8
       exact S8.perm pswap
      ·rw[show (tt,aG [.float (scr xv.c wd.c) t6,xv.v])::(X6++X5++X4)++X++T=(tt,aG [.float (scr xv.c wd.c) t6,xv.v])::(X6++(X5++X4++X++T)) by simp]
       exact hmb6.mono λp hp=>aj hp
      ·rw[show (tt,aG [.float (scr xv.c wd.c) t6,xv.v])::(X6++X5++X4)++X++T=(tt,aG [.float (scr xv.c wd.c) t6,xv.v])::(X6++(X5++X4++X++T)) by simp]
       exact hfc6.mono λp hp=>aj hp
     ·refine λhkk=>⟨nofun,λZ=>aF ?_⟩
      exact⟨rfl,od5,mb5,fc4,X5++X4,Es,nr,K5,S5.perm vV,hf5,hmb5,hfc5,.inl ⟨by unfold jo scr;rw[g3];simp,rfl⟩,hkk⟩
    ·refine λhkk=>⟨nofun,λZ=>aF ?_⟩
     exact⟨rfl,od4,mb2,fc4,X4,Es,nr,⟨K4.os,K4.gens⟩,S4.perm vV,hf4,hmb2.mono (λp hp=>by rw[zu];exact yZ _ hp),hfc4',.inl ⟨by unfold jo;rw[g2];simp,rfl⟩,hkk⟩
   ·refine λhkk=>⟨nofun,λZ=>aF ?_⟩
    exact⟨rfl,od2,mb2,fc,[],Es,nr,⟨ax.os,ax.gens⟩,ae.perm vV,hf2,hmb2,hfc,.inl ⟨by
     unfold jo
     rw[g1];simp,rfl⟩,hkk⟩
  ·rintro s5 ⟨od',mb',fc',X',Es',nr',K5,S5,hf5,hmb5,hfc5,hE,hk5⟩
   exact aF (k s5 od' mb' fc' c0 X' Es' nr' K5 (S5.forget (.cons _ (Ag _))) hf5 (d9.symm▸hmb5) hfc5 eu hE hk5)
 refine bS (AC (n:=s.toks) (by simp only at b8;exact z1f b8) (aV (ac ah m1 (dL (f:=202) G ah m1 m2 hf (cS G (bln ah m0 ⟨⟨_,_,_,ah⟩,?_⟩))))))
 have af:=ah.perm (T':=(sm,smO dx)::(dx,od)::((res,ap (aB Es) nr)::(X++T++own))) ((zi (l₁:=[(res,ap (aB Es) nr)]) (l₂:=[(sm,smO dx),(dx,od)])).append_right (X++T++own))
 refine set_seq1 (C:=xv.c=p.c) (av:=p.v) (fl1:=mf xv.v wd.v mb fc (.ref d2) (.ref sj) sp) (fl2:=mf xv.v wd.v .none fc (.ref d2) (.ref sj) sp) (fl3:=mf xv.v wd.v .none fc (.ref d2) (.ref sj) sp) G af (by show A.depth+1<_;exact dn 11 hd) hf m1 Vp.hand told (λp hp=>aj (y5 _ (yZ _ hp)))
  (.there (by kernel_rfl) .here) (.there (by kernel_rfl) (.there (by kernel_rfl) (.there (by kernel_rfl) (.there (by kernel_rfl) .here)))) (.there (by kernel_rfl) (.there (by kernel_rfl) (.there (by kernel_rfl) (.there (by kernel_rfl) (.there (by kernel_rfl) .here))))) rfl rfl rfl ?_ ?_
 ·exact λhc ak bn ae=>λhk=>rest _ od mb p hk ⟨ar.os,ar.gens⟩ ae hf hmb (.inl rfl) hc.symm
 ·exact λak bn od3 ae hf3=>λhk=>rest _ od3 .none xv hk ⟨ar.os,ar.gens⟩ ae hf3 (.inl rfl) (.inr rfl) rfl
end
section
variable{tabs:List ze}{l l':LV}{T:LO}{x:zH}{v:Value}{pos:Ef}
theorem au{Q:VP}(S:St hb tabs env.locals l T s.heap)(hv:(x,v)∈l)(h:Q v s)
  (c:ou env.scope (env.kindOf x) x=true:=by kernel_rfl) :
  y4 (y0 prog w) A (Aq (.Name x pos) env) Q E s:=by
 obtain⟨hk,hl,hd⟩:=ke c
 obtain⟨m,a,b,_⟩:=S.fm.ns
 exact HZ (Dl hk hl a (b _ hv) h) hd
theorem aT{Q:UP}(S:St hb tabs env.locals l T s.heap)(st:bV l x v l')(h:∀ h',St hb tabs env.locals l' T h'->Q () (wht s h' (s.toks+1)))
  (c:sN env.scope (env.kindOf x)=true:=by kernel_rfl) :
  y4 (y0 prog w) A (E9 env x v) Q E s:=by
 obtain⟨hk,hl⟩:=qA c
 obtain⟨m,a,b,c⟩:=S.fm.ns
 exact FD hl a (λh' hn hs=>h h' (S.setNs (st.fm hn b c) hs)) (by rw[hk];rfl)
theorem ia{n:zH}{es:List Expr}{y:Value}{ys:List Value}{Q:UP}(S:St hb tabs env.locals l T s.heap)(st:bV l n y l')
  (h:∀ h',St hb tabs env.locals l' T h'->kOrd (y0 prog w) A E ((BN es env).map (·.2)) ys Q () (wht s h' (s.toks+1))) (c:sN env.scope (env.kindOf n)=true:=by kernel_rfl) :
  y4 (y0 prog w) A (Ca ((BN (.Name n pos::es) env).map (·.2)) (y::ys)) Q E s:=aY (aT S st h c)
theorem rA{Q:UP}(S:St hb tabs env.locals l T s.heap)(st:bV l x v l')(h:∀ h',St hb tabs env.locals l' T h'->Q () (wht s h' (s.toks+1)))
  (c:sN env.scope (env.kindOf x)=true:=by kernel_rfl):y4 (y0 prog w) A (BL (.Name x pos) env v) Q E s:=aU (aT S st h c)
theorem al{rest:List Expr}{p:Ef}{Q:LP}(S:St hb tabs env.locals l T s.heap)(hv:(x,v)∈l)(h:wD (y0 prog w) A env E p rest Q v s)
  (c:ou env.scope (env.kindOf x) x=true:=by kernel_rfl):y4 (y0 prog w) A (CD (Ci p (AI (.Name x pos::rest) env))) Q E s:=args_cons (au S hv h c)
theorem aln{p:Ef}{Q:LP}(S:St hb tabs env.locals l T s.heap)(hv:(x,v)∈l)(h:Q [v] s)
  (c:ou env.scope (env.kindOf x) x=true:=by kernel_rfl):y4 (y0 prog w) A (CD (Ci p (AI [.Name x pos] env))) Q E s:=al S hv (zn h) c
noncomputable abbrev tst(ifs:List Expr)(env:ID):Lz Bool:=Dp ifs true λc r=>if r=true then do let ok <- isTrue c env (Aq c env);Au (Ix ok) else Au (Ix r)
theorem gR{elt target iter:Expr}{ifs:List Expr}{scope:Dx}{it acc:Value}(I:Nat->y9->Prop)
  (turn:∀ n s,I n s->y4 (y0 prog w) A (De it) (λr s₁=>match r with
   | none=>R (.ok .next) s₁
   | some v=>y4 (y0 prog w) A (CW target it v) (λZ s1'=>y4 (y0 prog w) A (BL target env v) (λZ ag=>y4 (y0 prog w) A (tst ifs env) (λok s3 =>
     if ok=true then y4 (y0 prog w) A (Aq elt env) (λx s4 =>
      y4 (y0 prog w) A (call (.builtin "list.append") [acc,x]) (λZ s5=>∃ m,m<n/\I m s5) (FQ (y0 prog w) A env λe s'=>R (.error e) s') s4) (FQ (y0 prog w) A env λe s'=>R (.error e) s') s3
     else ∃ m,m<n/\I m s3)
     (FQ (y0 prog w) A env λe s'=>R (.error e) s') ag) (FQ (y0 prog w) A env λe s'=>R (.error e) s') s1') (FQ (y0 prog w) A env λe s'=>R (.error e) s') s₁) (FQ (y0 prog w) A env λe s'=>R (.error e) s') s)
  (n:Nat) (h:I n s) :
  zS (y0 prog w) A (.compLoop (.ListComp elt [⟨target,iter,ifs,0⟩] scope pos) 0 it acc env) R s:=by
 refine codeAny_loop rfl I (λn s hI=>?_) n h
 show y4 _ _ ((compTurn (.ListComp elt [⟨target,iter,ifs,0⟩] scope pos) 0 it acc env).onRaise (λx=>do noteFrame x env;theTreesLotGoes x)) _ _ s
 refine wpAny_noted ?_
 rw[compTurn_list]
 refine yX (CO (yX (zf (turn n s hI) (λr s₁ ai=>?_) λZ Z h'=>h')))
 cases r with
 | none=>exact yY ai
 | some v =>
  refine yX (zf ai (λZ s1' fh=>?_) λZ Z h'=>h')
  refine yX (zf fh (λZ ag am=>yX (zf am (λok s3 ak=>?_) λZ Z h'=>h')) λZ Z h'=>h')
  cases ok with
  | false=>exact yY ⟨rfl,ak⟩
  | true=>exact yX (yX (zf ak (λx s4 aw=>yX (zf aw (λZ s5 ay=>yY (yY ⟨rfl,ay⟩)) λZ Z h'=>h')) λZ Z h'=>h'))
theorem lx{elt target iter:Expr}{scope:Dx}{it acc:Value}(I:Nat->y9->Prop)
  (turn:∀ n s,I n s->y4 (y0 prog w) A (De it) (λr s₁=>match r with
   | none=>R (.ok .next) s₁
   | some v=>y4 (y0 prog w) A (CW target it v) (λZ s1'=>y4 (y0 prog w) A (BL target env v) (λZ ag=>y4 (y0 prog w) A (Aq elt env) (λx s3 =>
     y4 (y0 prog w) A (call (.builtin "list.append") [acc,x]) (λZ s4=>∃ m,m<n/\I m s4) (FQ (y0 prog w) A env λe s'=>R (.error e) s') s3)
     (FQ (y0 prog w) A env λe s'=>R (.error e) s') ag) (FQ (y0 prog w) A env λe s'=>R (.error e) s') s1') (FQ (y0 prog w) A env λe s'=>R (.error e) s') s₁) (FQ (y0 prog w) A env λe s'=>R (.error e) s') s)
  (n:Nat) (h:I n s) :
  zS (y0 prog w) A (.compLoop (.ListComp elt [⟨target,iter,[],0⟩] scope pos) 0 it acc env) R s:=by
 refine gR I (λn s hI=>zf (turn n s hI) (λr s₁ h=>?_) λZ Z e=>e) n h
 cases r with
 | none=>exact h
 | some v=>exact zf h (λZ Z h=>zf h (λZ Z h=>DV h) λZ Z e=>e) λZ Z e=>e
abbrev rM(prog:Bh)(w:Am)(A:AR)(hb:AE)(tabs:List ze)(target elt:Expr)(ifs:List Expr)(C D L:ze)(oL:AO)(T own:LO)(env:ID)(acc:List Value)(c:Nat)
  (K:y9->Prop) (J:AN->List Value->LO->Prop) (E':VP) (v:Value) (ag:y9):Prop :=
 y4 (y0 prog w) A (BL target env v) (λZ s3=>y4 (y0 prog w) A (tst ifs env) (λok s4 =>
  if ok=true then y4 (y0 prog w) A (Aq elt env) (λy s5=>Ex2 λX' l'=>An3 (K s5) (St hb tabs C l' ((D,ap acc c)::(X'++((L,oL)::T))++own) s5.heap) (J s5.toks (acc++[y]) X')) E' s4
  else Ex2 λX' l'=>An3 (K s4) (St hb tabs C l' ((D,ap acc c)::(X'++((L,oL)::T))++own) s4.heap) (J s4.toks acc X')) E' s3) E' ag
abbrev xr(prog:Bh)(w:Am)(A:AR)(hb:AE)(tabs:List ze)(target elt:Expr)(ifs:List Expr)(C D L:ze)(oL:AO)(T own:LO)(env:ID)(acc:List Value)(c:Nat)
  (K:y9->Prop) (J:List Value->LO->Prop) (E':VP) (v:Value) (ag:y9):Prop :=
 rM prog w A hb tabs target elt ifs C D L oL T own env acc c K (λZ=>J) E' v ag
theorem rc{elt target iter:Expr}{ifs:List Expr}{scope:Dx}{ce:ID}{C D d I:ze}{oL o:AO}{vs:List Value}{n:Nat}{Wt:Nat->AE->Prop}{fp:List ze}{J:Nat->AN->List Value->LO->Prop}{s₁ ag:y9}(hh:A.handled=none)
  (IV:ItV prog w hb tabs [(d,ap vs n)] I vs.length (λi v=>vs[i]? = some v) Wt fp)
  (hown:∀ (A:AR) elts x1 tpos i (s:y9) v (Q:UP) E,Wt i s.heap->Q () s->y4 (y0 prog w) A (CW (.Tuple elts x1 tpos) (.ref I) v) Q E s)
  (hm:(d,ap vs n)∈T) (hlen:vs.length<=1000) (hJ0:J 0 ag.toks [] []) (hmono:∀ i tk tk' acc X,tk<=tk'->J i tk acc X->J i tk' acc X) (r:bL oL l) (dv:Wt 0 ag.heap)
  (S5:St hb tabs C [] ((D,ap [] 0)::([]++((L,oL)::T))++[(I,o)]) ag.heap) (ao:Kp s₁ ag)
  (GA:∀ (E':VP) i v acc c X own ag,vs[i]? = some v->acc.length<=i->J i ag.toks acc X->bL oL l->Kp s₁ ag->St hb tabs C [] ((D,ap acc c)::(X++((L,oL)::T))++own) ag.heap ->
    rM prog w A hb tabs target elt ifs C D L oL T own ce acc c (Kp s₁) (J (i+1)) E' v ag)
  (htgt:(Ex2 λy p=>target=.Name y p)\/Ex3 λes k p=>target=.Tuple es k p)
  (fin:∀ s' acc c X lc,Kp s₁ s'->St hb tabs C lc ((L,oL)::(D,ap acc c)::(X++T)) s'.heap->acc.length<=vs.length->J vs.length s'.toks acc X->R (.ok .next) s') :
  zS (y0 prog w) A (.compLoop (.ListComp elt [⟨target,iter,ifs,0⟩] scope pos) 0 (.ref I) (.ref D) ce) R ag:=by
 have W:=IV.walks A hh
 have how0:([(I,o)]:LO).map (·.1)=[I]:=rfl
 let H:Nat->y9->Prop:=λk s'=>Ex6 λi acc c X own l'=>An8 (own.map (·.1)=[I]) (St hb tabs C l' ((D,ap acc c)::(X++((L,oL)::T))++own) s'.heap) (Wt i s'.heap) (J i s'.toks acc X) (acc.length<=i) (Kp s₁ s') (i<=vs.length) (k=vs.length - i)
 refine gR H ?_ vs.length ⟨0,[],0,[],[(I,o)],[],rfl,S5,dv,hJ0,zh _,ao,zA _,rfl⟩
 rintro k s' ⟨i,acc,c,X,own,l',how,S',hw',hJ,hacc,hKp,hi,rfl⟩
 by_cases hlt:i<vs.length
 ·refine AC (zh s'.toks) (W.item i _ _ _ hlt hw' λv aw db hP hw4 hk4 htk=>?_)
  obtain⟨own2,bh,S6⟩:=S'.moved (h':=aw) (λb ob hb' e=>hk4 b ob (how▸hb') e) (λb hb'=>by rw[how,y6] at hb';subst hb';exact IV.ex _ _ hw4)
  have back:∀ acc' c' X' l'' (s8:y9),St hb tabs C l'' ((D,ap acc' c')::(X'++((L,oL)::T))++own2) s8.heap->J (i+1) s8.toks acc' X'->acc'.length<=i+1->Kp s₁ s8 ->
    ∃ m,m<vs.length - i/\H m s8:=by
   refine λacc' c' X' l'' s8 S8 hJ7 hl7 K7=>⟨vs.length - (i+1),by exact z8t hlt,i+1,acc',c',X',own2,l'',bh.trans how,S8,W.frame _ _ _ hw4 λb hb' ob e=>S6.same (Ro:=[(d,ap vs n)]) S8 (λp hp=>?_) (λp hp=>?_) (λq=>IV.ro b hb' (by rw[<- how,<- bh];exact q)) e,hJ7,hl7,K7,hlt,rfl⟩<;>
    (rw[y6] at hp;subst hp;exact aj (yZ _ (aj hm)))
  have go:∀ {E':VP},y4 (y0 prog w) A (BL target ce v) (λZ ag=>y4 (y0 prog w) A (tst ifs ce) (λok s3 =>
    if ok=true then y4 (y0 prog w) A (Aq elt ce) (λx s4=>y4 (y0 prog w) A (call (.builtin "list.append") [.ref D,x]) (λZ s4=>∃ m,m<vs.length - i/\H m s4) E' s4) E' s3
    else ∃ m,m<vs.length - i/\H m s3)
    E' ag) E' (wht s' aw db):=by
   intro E'
   refine zf (GA _ i v acc c X own2 (wht s' aw db) hP hacc (hmono _ _ _ _ _ htk hJ) r ⟨hKp.os,hKp.gens⟩ (S6.forget (KR _))) (λZ s6 az=>zf az (λok s6 az=>?_) λZ Z e=>e) λZ Z e=>e
   cases ok with
   | false =>
    obtain⟨X',l'',K7,S7,hJ7⟩:=az
    exact back _ _ _ _ _ S7 hJ7 (Ec hacc) ⟨K7.os,K7.gens⟩
   | true =>
    refine zf az (λy s7 ba=>?_) λZ Z e=>e
    obtain⟨X',l'',K7,S7,hJ7⟩:=ba
    refine cB 0 S7 rfl ?_ (y3g hlen hacc hlt)
    exact λbc S8=>back _ _ _ _ _ S8 hJ7 (by rw[zK];exact C4 hacc) ⟨K7.os,K7.gens⟩
  rcases htgt with⟨y,p,rfl⟩|⟨es,k,p,rfl⟩
  ·exact As (a:=()) rfl go
  ·exact hown _ _ _ _ _ _ _ _ _ hw4 go
 ·have hin:i=vs.length:=z8u hi hlt
  subst hin
  refine AC (zh s'.toks) (W.done _ _ _ hw' λaw db hk4 htk=>?_)
  have S6:=S'.drop (h':=aw) λb ob hb' e=>hk4 b ob (how▸hb') e
  exact fin (wht s' aw db) acc c X l' ⟨hKp.os,hKp.gens⟩ (S6.perm (zs (l₁:=(D,ap acc c)::X))) hacc (hmono _ _ _ _ _ htk hJ)
theorem lv{elt target iter:Expr}{ifs:List Expr}{scope:Dx}{cl:List (zH×ze)}{d:ze}{vs:List Value}{n:Nat}{J:Nat->AN->List Value->LO->Prop}{s₁:y9}{RR:Value->ze->Cg->y9->Prop}(hh:A.handled=none)
  (S:St hb tabs L l T s₁.heap) (hm:(d,ap vs n)∈T) (hlen:vs.length<=1000) (hJ0:J 0 s₁.toks [] []) (hmono:∀ i tk tk' acc X,tk<=tk'->J i tk acc X->J i tk' acc X)
  (GA:∀ C D oL E' i v acc c X own ag,vs[i]? = some v->acc.length<=i->J i ag.toks acc X->bL oL l->Kp s₁ ag->St hb tabs C [] ((D,ap acc c)::(X++((L,oL)::T))++own) ag.heap ->
    rM prog w A hb tabs target elt ifs C D L oL T own (An scope cl C env) acc c (Kp s₁) (J (i+1)) E' v ag)
  (htgt:(Ex2 λy p=>target=.Name y p)\/Ex3 λes k p=>target=.Tuple es k p)
  (hcell:∀ y∈scope.names,y.2≠.cell) (hkind:scope.kind=.function)
  (fin:∀ C D oL s' acc c X lc,Kp s₁ s'->bL oL l->St hb tabs C lc ((L,oL)::(D,ap acc c)::(X++T)) s'.heap->acc.length<=vs.length->J vs.length s'.toks acc X->RR (.ref D) C (.ok .next) s') :
  y4 (y0 prog w) A (EI (.ref d)) (λit ag=>y4 (y0 prog w) A (newList []) (λacc s3=>y4 (y0 prog w) A (newFunctionEnv scope env.globals cl [] env.qual none .none (some env)) (λcenv s4 =>
   zS (y0 prog w) A (.compStart (.ListComp elt [⟨target,iter,ifs,0⟩] scope pos) 0 it acc { cenv with scope:=relabel scope env }) (RR acc cenv.locals) s4) E s3) E ag) E s₁:=by
 refine jY S hm λI o Wt fp am IV hown hw af=>(Aa (hd:=by size_fits) ?_)
 have ae:=af.push (ap [] 0)
 refine FV hcell (by intro y hy;simp at hy) (λak eh c9=>?_) hkind
 generalize hD:am.objs.size=D at ae
 generalize hC:(am.push (ap [] 0)).objs.size=C
 obtain⟨oL,r,S4⟩:=ae.enter (L':=C) (l':=[]) (h':=ak) hC.symm (Fm.of_ns (by rw[<- hC];exact eh) (λp hp=>by cases hp) C5) (λb o e=>c9.extBut b o (Ab (AH e)) (zz _ e))
 have W:=IV.walks A hh
 have dv:Wt 0 ak:=W.frame _ _ _ hw λb hb' ob e=>c9.extBut b ob (Ab (AH (zz _ e))) (zz _ (zz _ e))
 have S5:St hb tabs C [] ((D,ap [] 0)::([]++((L,oL)::T))++[(I,o)]) ak:=S4.perm (by
  rw[Dh]
  exact ((zi (l₁:=[(L,oL)]) (l₂:=[(D,ap [] 0)])).append_right (T++[(I,o)])))
 have loop:∀ ag:y9,ag=(wht s₁ ak (s₁.toks+([]:LV).length)) ->
   zS (y0 prog w) A (.compLoop (.ListComp elt [⟨target,iter,ifs,0⟩] scope pos) 0 (.ref I) (.ref D) (An scope cl C env)) (RR (.ref D) C) ag:=by
  rintro ag rfl
  exact rc (s₁:=s₁) (T:=T) hh IV hown hm hlen hJ0 hmono r dv S5 ⟨rfl,id⟩ (GA C D oL) htgt (λs' acc c X lc hKp S7 hacc hJ=>fin C D oL s' acc c X lc hKp r S7 hacc hJ)
 subst hC
 subst hD
 exact Iq (loop _ rfl) (W.self 0 _ _ _ dv (loop _ rfl))
abbrev srcF(prog:Bh)(w:Am)(A:AR)(hb:AE)(tabs:List ze)(target elt:Expr)(ifs:List Expr)(scope:Dx)(cl:List (zH×ze))(env:ID)(L:ze)(l:LV)(T:LO)(d:ze)(vs:List Value)(n:Nat)
  (J:Nat->List Value->LO->Prop) (xv:Value) (s₁:y9):Prop :=
 An6 (xv=.ref d) (St hb tabs L l T s₁.heap) ((d,ap vs n)∈T) (vs.length<=1000) (J 0 [] [])
  (∀ C D oL E' i v acc c X own ag,vs[i]? = some v->acc.length<=i->J i acc X->bL oL l->Kp s₁ ag->St hb tabs C [] ((D,ap acc c)::(X++((L,oL)::T))++own) ag.heap ->
    xr prog w A hb tabs target elt ifs C D L oL T own (An scope cl C env) acc c (Kp s₁) (J (i+1)) E' v ag)
abbrev srcT(prog:Bh)(w:Am)(A:AR)(hb:AE)(tabs:List ze)(target elt:Expr)(ifs:List Expr)(scope:Dx)(cl:List (zH×ze))(env:ID)(L:ze)(l:LV)(T:LO)(d:ze)(vs:List Value)(n:Nat)
  (J:Nat->AN->List Value->LO->Prop) (xv:Value) (s₁:y9):Prop :=
 An7 (xv=.ref d) (St hb tabs L l T s₁.heap) ((d,ap vs n)∈T) (vs.length<=1000) (J 0 s₁.toks [] []) (∀ i tk tk' acc X,tk<=tk'->J i tk acc X->J i tk' acc X)
  (∀ C D oL E' i v acc c X own ag,vs[i]? = some v->acc.length<=i->J i ag.toks acc X->bL oL l->Kp s₁ ag->St hb tabs C [] ((D,ap acc c)::(X++((L,oL)::T))++own) ag.heap ->
    rM prog w A hb tabs target elt ifs C D L oL T own (An scope cl C env) acc c (Kp s₁) (J (i+1)) E' v ag)
theorem iJ{elt target iter:Expr}{ifs:List Expr}{scope:Dx}{cl:List (zH×ze)}{Q:VP}(hh:A.handled=none)
  (h:y4 (y0 prog w) A (Aq iter env) (λxv s₁=>Ex6 λL l T d vs n=>∃ J,srcT prog w A hb tabs target elt ifs scope cl env L l T d vs n J xv s₁ /\
   (∀ s' D acc c X,Kp s₁ s'->St hb tabs L l ((D,ap acc c)::(X++T)) s'.heap->acc.length<=vs.length->J vs.length s'.toks acc X->Q (.ref D) s')) E s)
  (htgt:(Ex2 λy p=>target=.Name y p)\/Ex3 λes k p=>target=.Tuple es k p)
  (hclos:FM scope env=Au cl) (hcell:∀ y∈scope.names,y.2≠.cell) (hkind:scope.kind=.function) (hnames:∀ x∈scope.names,x.2=.local->scope.names.lookup x.1=some .local)
  (hs:∀ x,CT iter env x=Au x:=by intro Z;rfl) :
  y4 (y0 prog w) A (Aq (.ListComp elt [⟨target,iter,ifs,0⟩] scope pos) env) Q E s:=by
 rw[eval_ListComp]
 refine Hy (use:=none) rfl hs hclos hkind hnames (zf h (λxv s₁ z=>?_) λZ Z e=>e)
 obtain⟨L,l,T,d,vs,n,J,⟨rfl,S,hm,hlen,hJ0,hmono,GA⟩,fin⟩:=z
 refine lv (RR:=λacc C=>compPost (y0 prog w) A E none Q acc C) hh S hm hlen hJ0 hmono GA htgt hcell hkind ?_
 intro C D oL s' acc c X lc hKp r S7 hacc hJ
 obtain⟨m,hm',_,_⟩:=S7.fm.ns
 refine⟨m,hm',λh' hs'=>?_⟩
 have S8:=S7.leave 0 rfl r
 have S9:St hb tabs L l ((D,ap acc c)::(X++T)) h':=S8.off (wr:=[C]) (λb hb'=>by
  rw[y6] at hb';subst hb'
  exact⟨S7.lnew,(zr.mp S7.nd).1⟩) (λb ob hb' e=>hs'.extBut b ob (λq=>hb' (by rw[q];exact .head _)) e)
 exact fin _ D acc c X ⟨hKp.os,hKp.gens⟩ S9 hacc hJ
theorem cN{elt target iter:Expr}{ifs:List Expr}{scope:Dx}{cl:List (zH×ze)}{Q:VP}(hh:A.handled=none)
  (h:y4 (y0 prog w) A (Aq iter env) (λxv s₁=>Ex6 λL l T d vs n=>∃ J,srcF prog w A hb tabs target elt ifs scope cl env L l T d vs n J xv s₁ /\
   (∀ s' D acc c X,Kp s₁ s'->St hb tabs L l ((D,ap acc c)::(X++T)) s'.heap->acc.length<=vs.length->J vs.length acc X->Q (.ref D) s')) E s)
  (htgt:(Ex2 λy p=>target=.Name y p)\/Ex3 λes k p=>target=.Tuple es k p)
  (hclos:FM scope env=Au cl) (hcell:∀ y∈scope.names,y.2≠.cell) (hkind:scope.kind=.function) (hnames:∀ x∈scope.names,x.2=.local->scope.names.lookup x.1=some .local)
  (hs:∀ x,CT iter env x=Au x:=by intro Z;rfl) :
  y4 (y0 prog w) A (Aq (.ListComp elt [⟨target,iter,ifs,0⟩] scope pos) env) Q E s :=
 iJ (hb:=hb) (tabs:=tabs) hh (zf h (λxv s₁ z=>by obtain⟨L,l,T,d,vs,n,J,⟨e,S,hm,hlen,hJ0,GA⟩,fin⟩:=z;exact⟨L,l,T,d,vs,n,λi Z acc X=>J i acc X,⟨e,S,hm,hlen,hJ0,λZ Z Z Z Z Z h=>h,GA⟩,fin⟩) λZ Z e=>e) htgt hclos hcell hkind hnames hs
theorem jB{elt target iter:Expr}{scope:Dx}{Q:VP}(hh:A.handled=none)
  (h:y4 (y0 prog w) A (Aq iter env) (λxv s₁=>Ex6 λL l T d vs n=>∃ J:Nat->List Value->LO->Prop,An7 (xv=.ref d) (St hb tabs L l T s₁.heap) ((d,ap vs n)∈T) (vs.length<=1000) (J 0 [] []) ((∀ C D oL E' i v acc c X own ag,vs[i]? = some v->acc.length=i->J i acc X->bL oL l->Kp s₁ ag->St hb tabs C [] ((D,ap acc c)::(X++((L,oL)::T))++own) ag.heap ->
    y4 (y0 prog w) A (BL target (An scope [] C env) v) (λZ s3=>y4 (y0 prog w) A (Aq elt (An scope [] C env)) (λy s4=>Ex2 λX' l'=>An3 (Kp s₁ s4) (St hb tabs C l' ((D,ap acc c)::(X'++((L,oL)::T))++own) s4.heap) (J (i+1) (acc++[y]) X')) E' s3) E' ag)) ((∀ s' D acc c X,Kp s₁ s'->St hb tabs L l ((D,ap acc c)::(X++T)) s'.heap->acc.length=vs.length->J vs.length acc X->Q (.ref D) s'))) E s)
  (htgt:(Ex2 λy p=>target=.Name y p)\/Ex3 λes k p=>target=.Tuple es k p)
  (hclos:FM scope env=Au []) (hcell:∀ y∈scope.names,y.2≠.cell) (hkind:scope.kind=.function) (hnames:∀ x∈scope.names,x.2=.local->scope.names.lookup x.1=some .local)
  (hs:∀ x,CT iter env x=Au x:=by intro Z;rfl) :
  y4 (y0 prog w) A (Aq (.ListComp elt [⟨target,iter,[],0⟩] scope pos) env) Q E s:=by
 refine cN (hb:=hb) (tabs:=tabs) (cl:=[]) hh (zf h (λxv s₁ z=>?_) λZ Z e=>e) htgt hclos hcell hkind hnames hs
 obtain⟨L,l,T,d,vs,n,J,rfl,S,hm,hlen,hJ0,GA,fin⟩:=z
 refine⟨L,l,T,d,vs,n,λi acc X=>J i acc X/\acc.length=i,⟨rfl,S,hm,hlen,⟨hJ0,rfl⟩,λC D oL E' i v acc c X own ag hv Z hJ r K af=>?_⟩,λs' D acc c X K S' Z hJ=>fin s' D acc c X K S' hJ.2 hJ.1⟩
 refine zf (GA C D oL E' i v acc c X own ag hv hJ.2 hJ.1 r K af) (λZ s3 ak=>DV ?_) λZ Z e=>e
 refine zf ak (λy s4 aw=>?_) λZ Z e=>e
 obtain⟨X',l',K4,S4,hJ4⟩:=aw
 exact⟨X',l',K4,S4,hJ4,by rw[zK,hJ.2];rfl⟩
end
def XOk(T:LO)(Es:List Sc):Prop:=∀ e∈Es,WT T e.x
structure rE(w:Am)(hb:AE)(Ri:LO)(d:ze)(vs:List Value):Prop where
 iter:∀ {A:AR}{E:VP}{s:y9}{L:ze}{l:LV}{T:LO}{Q:VP},St hb tabs L l T s.heap->(∀ p∈Ri,p∈T) ->
  (∀ I o Wt fp h',ItV pw w hb tabs Ri I vs.length (λi v=>vs[i]? = some v) Wt fp->Wt 0 h'->St hb tabs L l (T++[(I,o)]) h'->Q (.ref I) { s with heap:=h' })->y4 (y0 pw w) A (EI (.ref d)) Q E s
theorem gG{w:Am}{hb:AE}{d:ze}{vs:List Value}{n:Nat}:rE w hb [(d,ap vs n)] d vs :=
 ⟨λS hR h=>jY S (hR _ (.head _)) λI o Wt fp h' IV Z hw S'=>h I o Wt fp h' IV hw S'⟩
theorem pF{w:Am}{hb:AE}{d:ze}{vs:List Value}:rE w hb [(d,aG vs)] d vs :=
 ⟨λS hR h=>pR S (hR _ (.head _)) h⟩
def kK(rk:UInt64->List zH->Nat)(Es:List Sc):Prop:=∀ e∈Es,∀ e'∈Es,
 ((zV e.f e'.f==some Ordering.eq&&decide (e.x.c=e'.x.c))=true↔rk e.f e.x.c=rk e'.f e'.x.c) /\
 ((zV e.f e'.f==some Ordering.eq)=false->((zV e.f e'.f==some Ordering.lt)=true↔rk e.f e.x.c<rk e'.f e'.x.c)) /\
 ((zV e.f e'.f==some Ordering.eq)=true->(ltW e.x.c e'.x.c=true↔rk e.f e.x.c<rk e'.f e'.x.c)) /\
 ((zV e.f e'.f==some Ordering.eq)=false->((zV e.f e'.f==some Ordering.gt)=true↔rk e'.f e'.x.c<rk e.f e.x.c)) /\
 ((zV e.f e'.f==some Ordering.eq)=true->(ltW e'.x.c e.x.c=true↔rk e'.f e'.x.c<rk e.f e.x.c))/\isR e.x.v=isR e'.x.v
def kJ(Es:List Sc):Prop:=∀ e∈Es,e.ft≠0/\∀ e'∈Es,e.ft=e'.ft->e.f=e'.f
noncomputable abbrev rkS(rk:UInt64->List zH->Nat)(e:Sc):Nat:=rk e.f e.x.c
def NLC(w:Am)(hb:AE):Prop:=∀ {A:AR}{s:y9}{L:ze}{l:LV}{T:LO}{R:Cg->y9->Prop}{res:ze}{Es:List Sc}{nr n:Nat}{tn:AN}{rk:UInt64->List zH->Nat},
 St hb tabs L l T s.heap->A.depth+20<zg->A.units+100<Aw->A.handled=none->(res,ap (aB Es) nr)∈T->SOk T Es->kJ Es->XOk T Es->Es.length<=60->0<n->kK rk Es ->
 (∀ (s':y9) (X:LO) (r:ze) (nr':Nat) (P:List Sc),Kp s s'->St hb tabs L l ((r,ap (aB (P.take n)) nr')::(X++T)) s'.heap->P.Perm Es->P.Pairwise (λa b=>rkS rk b<=rkS rk a)->R (.ok (.ret (.ref r))) s') ->
 zS (y0 pw w) A (.call (.ref 280) ⟨[.int n tn,.ref res],[]⟩) R s
section
variable{sm sp:ze}{T Y Ri Rb:LO}{l:LV}{wb:WX}{rw:List WX}{n:Nat}{od7:AO}{rows:List aW}{led:Bool}
noncomputable abbrev gcmR:List Cq:=(aD (st1 pw 10)).drop 6
theorem nk(G:GK w hb)(B:BM hb)(N:NLC w hb)(hd:A.depth+40<zg)(hu:A.units+200<Aw)(hh:A.handled=none)(C:uo w cut g)(r:bL oL l)
  (S8:St hb tabs L' (nmC sm res pd wv (.int n tn) cut) ((res,ap (aB []) 0)::(sm,smO dx)::(dx,od7)::([]++(Y++((L,oL)::T)))) s.heap)
  (hf7:bH od7 (mf (.str (yW "") 539) wb.v .none .none (.ref d2) (.ref sj) (.ref sp))) (ho2:o2.IsDictOf (Ak pw w) (rows.map aW.kv)) (hrows:cJ wb.c rows)
  (hd2:(d2,o2)∈Y++((L,oL)::T)) (hsj:(sj,cK led)∈Y++((L,oL)::T)) (hob:∀ r∈rows,r.ob∈Y++((L,oL)::T)) (Vb:SqV pw w hb tabs Rb wb.v wb.c) (hRb:∀ p∈Rb,p∈Y++((L,oL)::T))
  (IT:rE w hb Ri pd (rw.map WX.v)) (hRi:∀ p∈Ri,p∈T) (hn:0<n) (hrl:rw.length<=60) (hrs:∀ p∈rw,WT T p) (htold:∀ x∈rw,∀ p∈(⟨.str (yW "") 539,[]⟩:WX)::rw,aP w T x.v p.v (x.c=p.c)) (dg:1<=s.toks)
  (hrk:∀ Es:List Sc,(∀ e∈Es,e.x∈rw/\e.f=scr e.x.c wb.c)->kK rk Es)
  (k:∀ (s':y9) (X:LO) (r:ze) (nr:Nat) (P:List WX),Kp s s'->St hb tabs L l ((r,ap ((P.take n).map WX.v) nr)::(X++T)) s'.heap->P.Perm (rw.filter λx=>jo g x.c wb.c)->P.Pairwise (λa b=>rk (scr b.c wb.c) b.c<=rk (scr a.c wb.c) a.c)->R (.ok (.ret (.ref r))) s') :
  y4 (y0 pw w) (A.deeper (lq w L')) (zY gcmR (lq w L')) (kFn R) E s:=by
 have hTin:∀ p∈T,p∈Y++((L,oL)::T):=λp hp=>yZ _ (aj hp)
 generalize c5:Y++((L,oL)::T)=T₂ at S8 hd2 hsj hob hTin hRb
 refine eY (ac S8 m3 (IT.iter S8 (λp hp=>aj (aj (aj (hTin _ (hRi p hp))))) ?_))
 intro I o Wt fp bf IV hw S9
 have hrwl:(rw.map WX.v).length=rw.length:=zb ..
 let H:Nat->AN->LV->LO->Prop:=λi tk l₁ T1=>Ex7 λod p mb fc X Es nr=>An11 (l₁=nmC sm res pd wv (.int n tn) cut) (T1=(res,ap (aB Es) nr)::(sm,smO dx)::(dx,od)::(X++T₂)) (bH od (mf p.v wb.v mb fc (.ref d2) (.ref sj) (.ref sp))) (rF (X++T₂) mb p.c wb.c) (Fc w (X++T₂) fc wb.c) (p∈⟨.str (yW "") 539,[]⟩::rw) (SOk X Es) (Es.map (λe=>(e.f,e.x))=(((rw.take i).filter λx=>jo g x.c wb.c).map λx=>(scr x.c wb.c,x))) (kJ Es) ((∀ e∈Es,e.ft<tk)) (1<=tk)
 refine IV.loop (z:=s) hh S9 hw
  H ?_ (λp hp=>aj (aj (aj (hTin _ (hRi p hp))))) ?_ ?_ (hmono:=?hmono)
 case hmono =>
  rintro i tk tk' l T htk ⟨od,p,mb,fc,X,Es,nr,h1,h2,hf,hmb,hfc,hp,hS,hE,hT,hTb,hT1⟩
  exact⟨od,p,mb,fc,X,Es,nr,h1,h2,hf,hmb,hfc,hp,hS,hE,hT,λe he=>zJ (hTb e he) htk,zk hT1 htk⟩
 ·exact⟨od7,⟨.str (yW "") 539,[]⟩,.none,.none,[],[],0,rfl,rfl,hf7,.inl rfl,.inl rfl,.head _,(λe he=>by cases he),rfl,(λe he=>by cases he),(λe he=>by cases he),dg⟩
 ·rintro E1 i v l₁ T1 own1 s₁ hi hv ⟨od,p,mb,fc,X,Es,nr,rfl,rfl,hf,hmb,hfc,hp,hS,hE,hT,hTb,hT1⟩ S10 hRo hKp
  rw[hrwl] at hi
  have hv':v=rw[i].v:=by
   have:(rw.map WX.v)[i]? = some (rw[i].v):=by simp[hi]
   rw[this] at hv;exact (AB hv).symm
  clear hv
  subst hv'
  have hxm:rw[i]∈rw:=z5 hi
  have hel:Es.length<=60:=by
   have:=congrArg CA hE
   rw[zb,zb] at this
   rw[this]
   exact zk (BJ _ _) (zk (by rw[Bc];exact KS _ _) hrl)
  have e0:WT T₂ ⟨.str (yW "") 539,[]⟩:=.str (yW "") 539 (by decide)
  have hWT:∀ q∈(⟨.str (yW "") 539,[]⟩:WX)::rw,WT T₂ q:=λq hq=>by
   rcases y7.mp hq with rfl|hq
   ·exact e0
   ·exact (hrs q hq).mono hTin
  obtain⟨Rx,hRx,Vx⟩:=(hWT _ (aj hxm)).sq (prog:=pw) (w:=w) (hb:=hb) (tabs:=tabs)
  obtain⟨Rp,hRp,Vp⟩:=(hWT _ hp).sq (prog:=pw) (w:=w) (hb:=hb) (tabs:=tabs)
  refine tD (T:=T₂) (own:=own1) (X:=X) G B (dn 28 hd) (dn 120 hu) hh C S10 hel hf hmb hfc hd2 ho2 hrows hob hsj Vx hRx Vp hRp Vb hRb (aP.mono (htold _ hxm _ hp) hTin) ?_ rfl
  refine λs' od' mb' fc' p' X' Es' nr' K' S' hf' hmb' hfc' hp' hE' hk'=>⟨_,(res,ap (aB Es') nr')::(sm,smO dx)::(dx,od')::(X'++X++T₂),S',⟨od',p',mb',fc',X'++X,Es',nr',rfl,rfl,hf',hmb',hfc',?_,?_,?_,?_,?_,zk hT1 hk'⟩,?_,(kt hKp K')⟩
  ·rcases hp' with rfl|rfl
   ·exact hp
   ·exact aj hxm
  ·rcases hE' with⟨_,rfl⟩|⟨_,a,t,rfl,hm,ht1,ht2⟩
   ·exact hS.mono λp hp=>yZ _ hp
   ·intro e he
    rcases zc.mp he with q|q
    ·exact (hS.mono λp hp=>yZ X' hp) e q
    ·rw[y6] at q;subst q
     exact y5 _ hm
  ·rw[Ah,zj hi,GS,Bt,zD]
   rcases hE' with⟨hk,rfl⟩|⟨hk,a,t,rfl,hm,ht1,ht2⟩
   ·rw[HM (by simp[hk]),EY,J4,Al];exact hE
   ·rw[zD,hE,HN (by simp[hk])];rfl
  ·rcases hE' with⟨_,rfl⟩|⟨_,a,t,rfl,hm,ht1,ht2⟩
   ·exact hT
   ·intro e he
    rcases zc.mp he with q|q
    ·refine⟨(hT e q).1,λe' he' h=>?_⟩
     rcases zc.mp he' with q'|q'
     ·exact (hT e q).2 e' q' h
     ·rw[y6] at q';subst q'
      exact absurd h (Ab (zJ (hTb e q) ht1))
    ·rw[y6] at q;subst q
     refine⟨Cc (zJ hT1 ht1),λe' he' h=>?_⟩
     rcases zc.mp he' with q'|q'
     ·exact absurd h.symm (Ab (zJ (hTb e' q') ht1))
     ·rw[y6] at q';subst q';rfl
  ·rcases hE' with⟨_,rfl⟩|⟨_,a,t,rfl,hm,ht1,ht2⟩
   ·exact λe he=>zJ (hTb e he) hk'
   ·intro e he
    rcases zc.mp he with q|q
    ·exact zJ (hTb e q) hk'
    ·rw[y6] at q;subst q;exact ht2
  ·exact λp hp=>aj (aj (aj (yZ _ (hTin _ (hRi p hp)))))
 ·rintro s' l' T' hKp S10 ⟨od,p,mb,fc,X,Es,nr,rfl,rfl,hf,hmb,hfc,hp,hS,hE,hT,hTb,hT1⟩ hRo
  rw[hrwl,zX] at hE
  refine aC (tV G S10 (v:=.ref 280) (by kernel_rfl) (bl S10 m4 (bln S10 m1 ⟨⟨_,_,_,S10⟩,?_⟩)))
  have hel:Es.length<=60:=by
   have:=congrArg CA hE
   rw[zb,zb] at this
   rw[this]
   exact zk (BJ _ _) hrl
  have hEs:∀ e∈Es,e.x∈rw/\e.f=scr e.x.c wb.c:=by
   intro e he
   have:(e.f,e.x)∈Es.map (λe=>(e.f,e.x)):=za.mpr ⟨e,he,rfl⟩
   rw[hE] at this
   obtain⟨y,hy,hye⟩:=za.mp this
   have h1:=congrArg Prod.fst hye
   have h2:=congrArg Mu hye
   dsimp only at h1 h2
   subst h2
   exact⟨(By.mp hy).1,h1.symm⟩
  refine N (rk:=rk) S10 (by show A.depth+1+20<_;exact dn 19 hd) (by show A.units+3+100<_;exact dn 97 hu) hh m0 (hS.mono λp hp=>aj (aj (aj (y5 _ hp)))) hT (λe he=>((hrs _ (hEs e he).1).mono hTin).mono λp hp=>aj (aj (aj (yZ _ hp)))) hel hn (hrk Es hEs) ?_
  intro s11 X1 dh nr1 P K11 S11 hperm hpw
  replace K11:Kp s s11:=⟨K11.os.trans hKp.os,λz=>K11.gens (hKp.gens z)⟩
  refine aq S11 (.old (.there .here)) (λcu S12=>restate S12 λs12 K12 S12=>?_)
  replace K12:Kp s s12:=kt K11 K12
  refine cP ?_
  have hPE:∀ e∈P.take n,e∈Es:=λe he=>hperm.mem_iff.mp (AD he)
  refine jB (hb:=hb) (tabs:=tabs) hh ?_ (.inr ⟨_,_,_,rfl⟩) rfl (by decide) rfl (by decide)
  refine ac S12 m1 ⟨L',_,_,dh,aB (P.take n),nr1,λi acc X=>X=[]/\acc=((P.take n).take i).map λe=>e.x.v,rfl,S12,m0,?_,⟨rfl,rfl⟩,?_,?_⟩
  ·rw[aJ,Bc]
   exact zk (KS _ _) (by rw[hperm.length_eq];exact up 940 hel)
  ·rintro C' D oL' E' i v acc c X' own ag hi hacc ⟨rfl,hJ⟩ bp ao af
   have hv:∃ e,(P.take n)[i]? = some e/\v=.ref e.a:=by
    rw[aB,zB] at hi
    obtain⟨e,h1,h2⟩:=zW.mp hi
    exact⟨e,h1,h2.symm⟩
   obtain⟨e,he,rfl⟩:=hv
   have heE:=hPE e (zm he)
   have hm:=hS e heE
   refine cI hh af (y5 _ (aj (aj (aj (yZ _ (aj (aj (aj (y5 _ hm)))))))) ) (λak ae=>ia (env:=An _ [] C' _) ae (.new (by kernel_rfl)) (λaw S4=>ia (env:=An _ [] C' _) S4 (.new (by kernel_rfl)) (λay S5=>cE (au (env:=An _ [] C' _) S5 m0 ⟨[],_,⟨ao.os,ao.gens⟩,S5,rfl,?_⟩))))
   rw[Ah,he,hJ]
   simp
  ·rintro s3 D acc c X' ax ae ei ⟨rfl,rfl⟩
   replace ax:Kp s s3:=kt K12 ax
   subst c5
   have e1:(((P.take n).take (aB (P.take n)).length).map λe=>e.x.v)=((P.map λe=>e.x).take n).map WX.v:=by
    rw[aJ,zX,Cb,Cb,CN];rfl
   rw[e1] at ae
   have S4:=ae.perm (T':=(L,oL)::(D,ap (((P.map λe=>e.x).take n).map WX.v) c)::((((dh,ap (aB (P.take n)) nr1)::(X1++((res,ap (aB Es) nr)::(sm,smO dx)::(dx,od)::(X++Y))))++T))) (by
    have e:(D,ap (((P.map λe=>e.x).take n).map WX.v) c)::([]++((dh,ap (aB (P.take n)) nr1)::(X1++((res,ap (aB Es) nr)::(sm,smO dx)::(dx,od)::(X++(Y++((L,oL)::T))))))) =
     ((D,ap (((P.map λe=>e.x).take n).map WX.v) c)::(((dh,ap (aB (P.take n)) nr1)::(X1++((res,ap (aB Es) nr)::(sm,smO dx)::(dx,od)::(X++Y))))))++((L,oL)::T):=by simp
    rw[e]
    exact zs)
   have S5:=S4.leave 0 rfl r
   refine k s3 ((dh,ap (aB (P.take n)) nr1)::(X1++((res,ap (aB Es) nr)::(sm,smO dx)::(dx,od)::(X++Y)))) D c (P.map Sc.x) ax S5 ?_ ?_
   ·have h1:(Es.map λe=>e.x)=rw.filter λx=>jo g x.c wb.c:=by
     have:=congrArg (List.map Mu) hE
     rw[CN,CN] at this
     have e2:(Mu ∘ λx:WX=>(scr x.c wb.c,x))=id:=rfl
     rw[e2,List.map_id] at this
     exact this
    rw[<- h1]
    exact hperm.map _
   ·rw[AT]
    refine hpw.imp_of_mem ?_
    intro a b ha hb' h
    have h1:=(hEs a (hperm.mem_iff.mp ha)).2
    have h2:=(hEs b (hperm.mem_iff.mp hb')).2
    rw[<- h1,<- h2]
    exact h
end
section
variable{T Ri:LO}{l:LV}{wd:WX}{rw:List WX}{n:Nat}
theorem gcm_c(G:GK w hb)(B:BM hb)(N:NLC w hb)(S:St hb tabs L l T s.heap)(hd:A.depth+40<zg)(hu:A.units+200<Aw)(hh:A.handled=none)(C:uo w cut g)
  (hbind:Fi s (dH w.params) args [(yW "word", wd.v),(yW "possibilities", .ref pd),(yW "n", .int n tn),(yW "cutoff", cut)])
  (IT:rE w hb Ri pd (rw.map WX.v)) (hRi:∀ p∈Ri,p∈T) (hn:0<n) (hrl:rw.length<=60) (hws:WT T wd) (hrs:∀ p∈rw,WT T p)
  (hwt:aP w T wd.v (.str (yW "") 540) (wd.c=[])) (htold:∀ x∈rw,∀ p∈(⟨.str (yW "") 539,[]⟩:WX)::rw,aP w T x.v p.v (x.c=p.c))
  {rk:UInt64->List zH->Nat} (hrk:∀ Es:List Sc,(∀ e∈Es,e.x∈rw/\e.f=scr e.x.c wd.c)->kK rk Es)
  (k:∀ (s':y9) (X:LO) (r:ze) (nr:Nat) (P:List WX),Kp s s'->St hb tabs L l ((r,ap ((P.take n).map WX.v) nr)::(X++T)) s'.heap->P.Perm (rw.filter λx=>jo g x.c wd.c)->P.Pairwise (λa b=>rk (scr b.c wd.c) b.c<=rk (scr a.c wd.c) a.c)->R (.ok (.ret (.ref r))) s') :
  zS (y0 pw w) A (.call (.ref 286) args) R s:=by
 refine dQ G S (oz _) (dn 40 hd) (body:=aD (st1 pw 10)) hbind (λL' ai oL r S'=>eZ (lQ (isTrue_not (wpAny_isTrue_Compare1 (ac S' m2 (wpAny_Constant_int (Ik (y8 ⟨λq=>absurd q (by simp;exact z1i hn),λq=>?_⟩))))))))
 refine aF (lQ (isTrue_not (isTrue_chain (Co (test_link (ac S' m3 (C.lo ?_)))))))
 refine y8 (test_last (Co (C.hi (y8 ⟨nofun,λZ=>?_⟩))))
 refine aF (aC (bF (zn ⟨rfl,_,_,_,_,_,S',?_⟩)))
 refine λres am af=>aq af (.new (by kernel_rfl)) (λak ae=>aC (tV G ae (v:=.ref 270) (by kernel_rfl) (zn ⟨⟨_,_,_,ae⟩,?_⟩)))
 refine yO (C:=270) (fI:=188) G ae ?_
 intro sm dx aw S4
 have Ve:=ut (prog:=pw) (w:=w) (hb:=hb) (tabs:=tabs) (yW "") 540 (by decide)
 refine vv (va:=.str (yW "") 539) (vb:=.str (yW "") 540) G S4 (by simp only[depth_under_make,depth_deeper];exact dn 35 hd) hh Ve (λp hp=>by cases hp) iX iX ?_ ?_
 ·refine Bx (o:=o181 w.params) rfl (St.kin S4 G 181 _ (by kernel_rfl)) rfl rfl rfl
 refine λs5 od5 j5 sj5 sp5 o5 rows5 led5 led5' K5 S5 hf5 ho5 hr5=>⟨rfl,?_⟩
 replace K5:Kp s s5:=⟨K5.os,K5.gens⟩
 refine aq S5 (.new (by kernel_rfl)) (λaz S6=>bS (AC (n:=1) (by simp only;exact z1k) (aV (ac S6 m0 (dL (f:=209) G S6 m0 m1 hf5 (cS G (bln S6 m2 ⟨⟨_,_,_,S6⟩,?_⟩)))))))
 obtain⟨Rb,hRb,Vw⟩:=hws.sq (prog:=pw) (w:=w) (hb:=hb) (tabs:=tabs)
 refine set_seq2 (C:=wd.c=[]) (bv:=.str (yW "") 540) (f1:=mf (.str (yW "") 539) wd.v .none .none (.ref j5) (.ref sj5) (.ref sp5)) (f2:=mf (.str (yW "") 539) wd.v .none .none (.ref j5) (.ref sj5) (.ref sp5)) (f3:=mf (.str (yW "") 539) wd.v .none .none (.ref j5) (.ref sj5) (.ref sp5))
  (f4:=mf (.str (yW "") 539) wd.v .none .none (.ref j5) (.ref sj5) (.ref sp5)) (fl1:=λv=>mf (.str (yW "") 539) wd.v .none .none v (.ref sj5) (.ref sp5)) (fl2:=λv u=>mf (.str (yW "") 539) wd.v .none .none v u (.ref sp5)) (fl3:=λv u z=>mf (.str (yW "") 539) wd.v .none .none v u z)
  G S6 (by show A.depth+1+1<_;exact dn 38 hd) hh hf5 m2 rfl Vw (λp hp=>by have:=hRb p hp;simp[this]) hwt (λp hp=>by simp[hp]) (.there (by kernel_rfl) (.there (by kernel_rfl) .here)) (.there (by kernel_rfl) (.there (by kernel_rfl) (.there (by kernel_rfl) (.there (by kernel_rfl) .here)))) (.there (by kernel_rfl) (.there (by kernel_rfl) (.there (by kernel_rfl) (.there (by kernel_rfl) (.there (by kernel_rfl) .here))))) (.there (by kernel_rfl) (.there (by kernel_rfl) (.there (by kernel_rfl) (.there (by kernel_rfl) (.there (by kernel_rfl) (.there (by kernel_rfl) .here)))))) rfl rfl rfl rfl m2 (by kernel_rfl)
  (λZ=>(.there (by kernel_rfl) (.there (by kernel_rfl) (.there (by kernel_rfl) (.there (by kernel_rfl) (.there (by kernel_rfl) (.there (by kernel_rfl) (.there (by kernel_rfl) .here)))))))) (λZ Z=>(.there (by kernel_rfl) (.there (by kernel_rfl) (.there (by kernel_rfl) (.there (by kernel_rfl) (.there (by kernel_rfl) (.there (by kernel_rfl) (.there (by kernel_rfl) (.there (by kernel_rfl) .here))))))))) (λZ Z Z=>(.there (by kernel_rfl) (.there (by kernel_rfl) (.there (by kernel_rfl) (.there (by kernel_rfl) (.there (by kernel_rfl) (.there (by kernel_rfl) (.there (by kernel_rfl) (.there (by kernel_rfl) (.there (by kernel_rfl) .here)))))))))) (λZ Z=>m0) (λZ Z Z=>m3) (λZ Z Z=>⟨rfl,rfl,rfl⟩) ?_ ?_
 ·intro hc s7 K7 S7 dg
  replace K7:Kp s s7:=kt K5 K7
  refine nk (wb:=⟨.str (yW "") 540,[]⟩) (wv:=wd.v) (Y:=(sp5,cK led5')::(sj5,cK led5)::(j5,o5)::rows5.map aW.ob) (oL:=oL) (L:=L) (tn:=tn) (res:=res) (sm:=sm) (dx:=dx) (E:=_) G B N hd hu hh C r ?_ hf5 ho5 hr5 (y5 _ m2) (y5 _ m1) (λr hr=>y5 _ (aj (aj (aj (za.mpr ⟨r,hr,rfl⟩))))) Ve (λp hp=>by cases hp) IT hRi hn hrl hrs htold dg (by rw[<- hc];exact hrk) ?_
  ·refine (S7.perm ?_)
   have e:(sm,smO dx)::(dx,od5)::(sp5,cK led5')::(sj5,cK led5)::(j5,o5)::(rows5.map aW.ob++((res,ap [] 0)::(L,oL)::T)) =
    ((sm,smO dx)::(dx,od5)::((sp5,cK led5')::(sj5,cK led5)::(j5,o5)::rows5.map aW.ob))++((res,ap [] 0)::(L,oL)::T):=by simp
   rw[e]
   exact zs
  ·rw[<- hc]
   exact λs' X r nr P K' S' hp hpw=>k s' X r nr P (kt K7 K') S' hp hpw
 intro s7 od7 d2 sj sp o2 rows led led' K7 S7 hf7 ho2 hrows dg
 replace K7:Kp s s7:=kt K5 K7
 refine nk (wb:=wd) (wv:=wd.v) (Y:=(sp,cK led')::(sj,cK led)::(d2,o2)::(rows.map aW.ob++((sp5,cK led5')::(sj5,cK led5)::(j5,o5)::rows5.map aW.ob))) (oL:=oL) (L:=L) (tn:=tn) (res:=res) (sm:=sm) (dx:=dx) (E:=_) G B N hd hu hh C r ?_ hf7 ho2 hrows (y5 _ m2) (y5 _ m1) (λr hr=>y5 _ (aj (aj (aj (y5 _ (za.mpr ⟨r,hr,rfl⟩)))))) Vw (λp hp=>yZ _ (aj (hRb p hp))) IT hRi hn hrl hrs htold dg hrk ?_
 ·refine (S7.perm ?_)
  have e:(sm,smO dx)::(dx,od7)::(sp,cK led')::(sj,cK led)::(d2,o2)::(rows.map aW.ob++((sp5,cK led5')::(sj5,cK led5)::(j5,o5)::(rows5.map aW.ob++((res,ap [] 0)::(L,oL)::T)))) =
   ((sm,smO dx)::(dx,od7)::((sp,cK led')::(sj,cK led)::(d2,o2)::(rows.map aW.ob++((sp5,cK led5')::(sj5,cK led5)::(j5,o5)::rows5.map aW.ob))))++((res,ap [] 0)::(L,oL)::T):=by simp
  rw[e]
  exact zs
 ·exact λs' X r nr P K' S' hp hpw=>k s' X r nr P (kt K7 K') S' hp hpw
end
section
variable{tabs:List ze}{a b:ze}{l:LV}{T:LO}
theorem dC{f g:UInt64}{t u:AN}{Q:BP}(NB:B4 s.heap)(ht:t≠0)(hu:u≠0)(he:t=u->f=g)(hs:(zV f f==some Ordering.eq)=true)(h:Q (zV f g==some Ordering.eq) s) :
  y4 (y0 prog w) A (Fu (.float f t) (.float g u)) Q E s:=by
 have one:f=g->Q true s:=λe=>by subst e;rw[hs] at h;exact h
 by_cases hab:(BA f t==BA g u)=true
 ·refine bX hab ?_
  have e:f=g:=by have:=Ap hab;injection this
  exact yX (AP (yY (one e)))
 ·refine aQ hab ?_
  have rest:y4 (y0 prog w) A (DF .Eq (.float f t) (.float g u)>>=I5) Q E s :=
   yX (NI (y8 h))
  refine yX ?_
  have h0:(t==0 || u==0)=false:=by
   rw[FS]
   exact⟨beq_eq_false_iff_ne.mpr ht,beq_eq_false_iff_ne.mpr hu⟩
  refine zx h0 ?_
  by_cases htu:t=u
  ·refine Bm (beq_iff_eq.mpr htu) (yY ?_)
   exact yY (one (he htu))
  ·refine zx (beq_eq_false_iff_ne.mpr htu) ?_
   by_cases hfg:(f==g&&!Float64.isNaN f)=true
   ·have efg:f=g:=by
     have:=(zo.mp hfg).1
     exact Ap this
    refine zx (by rw[hfg];rfl) (yX (BZ NB ?_))
    refine zx rfl (yX (BZ NB ?_))
    refine zx rfl (yX (AP ?_))
    refine yX (BW ?_)
    refine yY ?_
    split
    ·exact yY (one efg)
    ·exact rest
   ·refine Bm (by rw[Hk.mpr hfg];rfl) (yY ?_)
    exact rest
theorem lU{x1 x2 y1 y2:Value}{Q:VP}(ha:s.heap.get? a=some (aG [x1,x2]))(hb':s.heap.get? b=some (aG [y1,y2]))
  (h:y4 (y0 prog w) A.in1 (Fu x1 y1) (λe1 s1=>(e1=true->y4 (y0 prog w) A.in1 (Fu x2 y2) (λe2 s2=>(e2=true->Q (.bool false) s2)/\(e2=false->y4 (y0 prog w) A.in1 (AF .Lt x2 y2) Q E s2)) E s1) /\
   (e1=false->y4 (y0 prog w) A.in1 (AF .Lt x1 y1) Q E s1)) E s) :
  y4 (y0 prog w) A (call (.builtin "tuple.__lt__") [.ref a,.ref b]) Q E s:=by
 have hTa:s.TypeIs (.ref a) "tuple" := ⟨_,ha,rfl⟩
 have hTb:s.TypeIs (.ref b) "tuple" := ⟨_,hb',rfl⟩
 refine zT F9 hTa HL ?_ (Hj _ _)
 refine yX (m:=B5 (.ref b) (.type "tuple")) (AL hTb CH ?_)
 refine zx rfl (yX (yX (zv ha rfl (yY ?_))))
 refine yX (yX (zv hb' rfl (yY ?_)))
 refine yX (m:=Dp [(x1,y1),(x2,y2)] _ _) ?_
 rw[Ax]
 refine yX (yX (zf h (λe1 s1 z=>?_) λZ Z z=>z))
 cases e1 with
 | true =>
  refine zx rfl (yY ?_)
  show y4 _ _ (Dp [(x2,y2)] _ _) _ _ s1
  rw[Ax]
  refine yX (yX (zf (z.1 rfl) (λe2 s2 z=>?_) λZ Z z=>z))
  cases e2 with
  | true =>
   refine zx rfl (yY ?_)
   show y4 _ _ (Dp [] _ _) _ _ s2
   exact yY (yY ⟨_,rfl,z.1 rfl⟩)
  | false =>
   refine Bm rfl (yX (AP (yX ?_)))
   exact zf (z.2 rfl) (λv s' q=>yX (yY (yY (yY (yY ⟨_,rfl,q⟩))))) λZ Z q=>q
 | false =>
  refine Bm rfl (yX (AP (yX ?_)))
  exact zf (z.2 rfl) (λv s' q=>yX (yY (yY (yY (yY ⟨_,rfl,q⟩))))) λZ Z q=>q
theorem lV{x1 x2 y1 y2:Value}{Q:VP}(ha:s.heap.get? a=some (aG [x1,x2]))(hb':s.heap.get? b=some (aG [y1,y2]))
  (h:y4 (y0 prog w) A.in1 (Fu x1 y1) (λe1 s1=>(e1=true->y4 (y0 prog w) A.in1 (Fu x2 y2) (λe2 s2=>(e2=true->Q (.bool false) s2)/\(e2=false->y4 (y0 prog w) A.in1 (AF .Gt x2 y2) Q E s2)) E s1) /\
   (e1=false->y4 (y0 prog w) A.in1 (AF .Gt x1 y1) Q E s1)) E s) :
  y4 (y0 prog w) A (call (.builtin "tuple.__gt__") [.ref a,.ref b]) Q E s:=by
 have hTa:s.TypeIs (.ref a) "tuple" := ⟨_,ha,rfl⟩
 have hTb:s.TypeIs (.ref b) "tuple" := ⟨_,hb',rfl⟩
 refine zT Ga hTa KP ?_ (Kl _ _)
 refine yX (m:=B5 (.ref b) (.type "tuple")) (AL hTb CH ?_)
 refine zx rfl (yX (yX (zv ha rfl (yY ?_))))
 refine yX (yX (zv hb' rfl (yY ?_)))
 refine yX (m:=Dp [(x1,y1),(x2,y2)] _ _) ?_
 rw[Ax]
 refine yX (yX (zf h (λe1 s1 z=>?_) λZ Z z=>z))
 cases e1 with
 | true =>
  refine zx rfl (yY ?_)
  show y4 _ _ (Dp [(x2,y2)] _ _) _ _ s1
  rw[Ax]
  refine yX (yX (zf (z.1 rfl) (λe2 s2 z=>?_) λZ Z z=>z))
  cases e2 with
  | true =>
   refine zx rfl (yY ?_)
   show y4 _ _ (Dp [] _ _) _ _ s2
   exact yY (yY ⟨_,rfl,z.1 rfl⟩)
  | false =>
   refine Bm rfl (yX (AP (yX ?_)))
   exact zf (z.2 rfl) (λv s' q=>yX (yY (yY (yY (yY ⟨_,rfl,q⟩))))) λZ Z q=>q
 | false =>
  refine Bm rfl (yX (AP (yX ?_)))
  exact zf (z.2 rfl) (λv s' q=>yX (yY (yY (yY (yY ⟨_,rfl,q⟩))))) λZ Z q=>q
theorem qm{x1 x2 y1 y2:Value}{Q:VP}(hu:A.units<Aw)(ha:s.heap.get? a=some (aG [x1,x2]))(hb':s.heap.get? b=some (aG [y1,y2]))
  (h:y4 (y0 prog w) A.in1 (Fu x1 y1) (λe1 s1=>(e1=true->y4 (y0 prog w) A.in1 (Fu x2 y2) (λe2 s2=>(e2=true->Q (.bool false) s2)/\(e2=false->y4 (y0 prog w) A.in1 (AF .Lt x2 y2) (λv s'=>v≠.notImplemented/\Q v s') E s2)) E s1) /\
   (e1=false->y4 (y0 prog w) A.in1 (AF .Lt x1 y1) (λv s'=>v≠.notImplemented/\Q v s') E s1)) E s) :
  y4 (y0 prog w) A (AF .Lt (.ref a) (.ref b)) Q E s:=by
 refine Bv (op:=.Lt) ⟨_,ha,rfl⟩ ⟨_,hb',rfl⟩ F9 (lU ha hb' ?_) hu
 refine zf h (λe1 s1 z=>⟨λhe=>zf (z.1 he) (λe2 s2 z2=>⟨λhe2=>⟨nofun,z2.1 he2⟩,λhe2=>z2.2 he2⟩) λZ Z q=>q,λhe=>z.2 he⟩) λZ Z q=>q
theorem vX{x1 x2 y1 y2:Value}{Q:VP}(hu:A.units<Aw)(ha:s.heap.get? a=some (aG [x1,x2]))(hb':s.heap.get? b=some (aG [y1,y2]))
  (h:y4 (y0 prog w) A.in1 (Fu x1 y1) (λe1 s1=>(e1=true->y4 (y0 prog w) A.in1 (Fu x2 y2) (λe2 s2=>(e2=true->Q (.bool false) s2)/\(e2=false->y4 (y0 prog w) A.in1 (AF .Gt x2 y2) (λv s'=>v≠.notImplemented/\Q v s') E s2)) E s1) /\
   (e1=false->y4 (y0 prog w) A.in1 (AF .Gt x1 y1) (λv s'=>v≠.notImplemented/\Q v s') E s1)) E s) :
  y4 (y0 prog w) A (AF .Gt (.ref a) (.ref b)) Q E s:=by
 refine Bv (op:=.Gt) ⟨_,ha,rfl⟩ ⟨_,hb',rfl⟩ Ga (lV ha hb' ?_) hu
 refine zf h (λe1 s1 z=>⟨λhe=>zf (z.1 he) (λe2 s2 z2=>⟨λhe2=>⟨nofun,z2.1 he2⟩,λhe2=>z2.2 he2⟩) λZ Z q=>q,λhe=>z.2 he⟩) λZ Z q=>q
end
section
variable{l:LV}{T:LO}{Es:List Sc}
def ScH(h:AE)(e:Sc):Prop:=h.get? e.a=some (aG [.float e.f e.ft,e.x.v])/\WH h e.x
def SXk(T:LO)(l:List Sc):Prop:=∀ e∈l,(e.a,aG [.float e.f e.ft,e.x.v])∈T/\WT T e.x
theorem SXk.mono{T T':LO}{l:List Sc}(h:SXk T l)(hs:∀ p∈T,p∈T'):SXk T' l:=λe he=>⟨hs _ (h e he).1,(h e he).2.mono hs⟩
theorem St.sc{tabs:List ze}{h:AE}{e:Sc}(S:St hb tabs L l T h)(q:(e.a,aG [.float e.f e.ft,e.x.v])∈T/\WT T e.x):ScH h e:=⟨S.obj _ q.1,q.2.wh S⟩
theorem jh{b:Bool}{P:Prop}[Decidable P](h:b=true↔P):b=decide P:=by
 cases b with
 | true=>exact (decide_eq_true (h.mp rfl)).symm
 | false=>exact (decide_eq_false λq=>by cases h.mpr q).symm
theorem vF{e e':Sc}{Q:VP}(hu:A.units+1<Aw)(NB:B4 s.heap)(hT:kJ Es)(hR:kK rk Es)(he:e∈Es)(he':e'∈Es)(ha:ScH s.heap e)(hb':ScH s.heap e')
  (h:Q (.bool (decide (rkS rk e<rkS rk e'))) s):y4 (y0 pw w) A (AF .Lt (.ref e.a) (.ref e'.a)) Q E s:=by
 have hself:(zV e.f e.f==some Ordering.eq)=true:=(zo.mp ((hR e he e he).1.mpr rfl)).1
 obtain⟨r1,r2,r3,r4,r5,r6⟩:=hR e he e' he'
 refine qm (dn 1 hu) ha.1 hb'.1 (dC NB (hT e he).1 (hT e' he').1 (λq=>(hT e he).2 e' he' q) hself ⟨λq=>?_,λq=>?_⟩)
 ·refine kL (by show A.units+1<Aw;exact hu) ha.2 hb'.2 r6 ⟨λq2=>?_,λq2=>?_⟩
  ·have:rkS rk e=rkS rk e':=r1.mp (by rw[q,q2];rfl)
   rw[show decide (rkS rk e<rkS rk e')=false from decide_eq_false (this▸Aj _)] at h
   exact h
  ·refine xm (by show A.units+1<Aw;exact hu) ha.2 hb'.2 r6 ⟨nofun,?_⟩
   rw[jh (r3 q)]
   exact h
 ·refine NJ ⟨nofun,?_⟩
  have:=r2 q
  rw[show (zV e.f e'.f==some Ordering.lt)=decide (rkS rk e<rkS rk e') from by
   by_cases z:rkS rk e<rkS rk e'
   ·rw[decide_eq_true z];exact this.mpr z
   ·rw[decide_eq_false z];exact Hk.mpr λq=>z (this.mp q)]
  exact h
theorem sc_gt{e e':Sc}{Q:VP}(hu:A.units+1<Aw)(NB:B4 s.heap)(hT:kJ Es)(hR:kK rk Es)(he:e∈Es)(he':e'∈Es)(ha:ScH s.heap e)(hb':ScH s.heap e')
  (h:Q (.bool (decide (rkS rk e'<rkS rk e))) s):y4 (y0 pw w) A (AF .Gt (.ref e.a) (.ref e'.a)) Q E s:=by
 have hself:(zV e.f e.f==some Ordering.eq)=true:=(zo.mp ((hR e he e he).1.mpr rfl)).1
 obtain⟨r1,r2,r3,r4,r5,r6⟩:=hR e he e' he'
 refine vX (dn 1 hu) ha.1 hb'.1 (dC NB (hT e he).1 (hT e' he').1 (λq=>(hT e he).2 e' he' q) hself ⟨λq=>?_,λq=>?_⟩)
 ·refine kL (by show A.units+1<Aw;exact hu) ha.2 hb'.2 r6 ⟨λq2=>?_,λq2=>?_⟩
  ·have:rkS rk e=rkS rk e':=r1.mp (by rw[q,q2];rfl)
   rw[show decide (rkS rk e'<rkS rk e)=false from decide_eq_false (this▸Aj _)] at h
   exact h
  ·refine wx_gt (by show A.units+1<Aw;exact hu) ha.2 hb'.2 r6 ⟨nofun,?_⟩
   rw[jh (r5 q)]
   exact h
 ·refine Hl ⟨nofun,?_⟩
  have:=r4 q
  rw[show (zV e.f e'.f==some Ordering.gt)=decide (rkS rk e'<rkS rk e) from by
   by_cases z:rkS rk e'<rkS rk e
   ·rw[decide_eq_true z];exact this.mpr z
   ·rw[decide_eq_false z];exact Hk.mpr λq=>z (this.mp q)]
  exact h
end
section
variable{a b:ze}
theorem lW{x1 x2 y1 y2:Value}{Q:VP}(ha:s.heap.get? a=some (aG [x1,x2]))(hb':s.heap.get? b=some (aG [y1,y2]))
  (h:y4 (y0 prog w) A.in1 (Fu x1 y1) (λe1 s1=>(e1=true->y4 (y0 prog w) A.in1 (Fu x2 y2) (λe2 s2=>Q (.bool e2) s2) E s1)/\(e1=false->Q (.bool false) s1)) E s) :
  y4 (y0 prog w) A (call (.builtin "tuple.__eq__") [.ref a,.ref b]) Q E s:=by
 have hTa:s.TypeIs (.ref a) "tuple" := ⟨_,ha,rfl⟩
 have hTb:s.TypeIs (.ref b) "tuple" := ⟨_,hb',rfl⟩
 refine zT EZ hTa KQ ?_ (Km _ _)
 refine yX (m:=B5 (.ref b) (.type "tuple")) (AL hTb CH ?_)
 refine zx rfl (yX (yX (zv ha rfl (yY ?_))))
 refine yX (yX (zv hb' rfl (yY ?_)))
 refine yX (m:=Dp [(x1,y1),(x2,y2)] _ _) ?_
 rw[Ax]
 refine yX (yX (zf h (λe1 s1 z=>?_) λZ Z z=>z))
 cases e1 with
 | true =>
  refine zx rfl (yY ?_)
  show y4 _ _ (Dp [(x2,y2)] _ _) _ _ s1
  rw[Ax]
  refine yX (yX (zf (z.1 rfl) (λe2 s2 z=>?_) λZ Z z=>z))
  cases e2 with
  | true =>
   refine zx rfl (yY ?_)
   show y4 _ _ (Dp [] _ _) _ _ s2
   exact yY (yY ⟨_,rfl,z⟩)
  | false =>
   exact Bm rfl (yX (yY (yY (yY (yY ⟨_,rfl,z⟩)))))
 | false =>
  exact Bm rfl (yX (yY (yY (yY (yY ⟨_,rfl,z.2 rfl⟩)))))
end
section
variable{Es:List Sc}
theorem u6{hp:AE}{x y:WX}(hx:WH hp x)(hy:WH hp y)(h:x.v=y.v):x.c=y.c:=by
 cases hx with
 | str a t =>
  cases hy with
  | str b u=>injection h with h1 h2;show aA a=aA b;rw[h1]
  | tup b qs hb hl=>cases h
 | tup a ps ha hl =>
  cases hy with
  | str b u=>cases h
  | tup b qs hb hl' =>
   injection h with h
   subst h
   rw[ha] at hb
   have e1:=congrArg Mr (AB hb)
   injection e1 with e1 _
   have e2:ps.map aM=qs.map aM:=by simpa using congrArg Ip e1
   have e3:ps=qs:=DN (f:=aM) (λp q e=>by injection e with e1 e2;exact Kn e1 e2) |>.mp e2
   show cts ps=cts qs
   rw[e3]
theorem jV{hp:AE}{e e':Sc}(h:ScH hp e)(h':ScH hp e')(ha:e.a=e'.a):e.f=e'.f/\e.x.c=e'.x.c:=by
 obtain⟨h1,h2⟩:=h
 obtain⟨h3,h4⟩:=h'
 rw[ha,h3] at h1
 have e1:=congrArg Mr (AB h1)
 injection e1 with e1 _
 have e2:[BA e'.f e'.ft,e'.x.v]=[BA e.f e.ft,e.x.v]:=by
  have:=congrArg Ip e1
  simpa using this
 injection e2 with g1 g2
 injection g2 with g2 _
 injection g1 with f1 _
 exact⟨f1.symm,u6 h2 h4 g2.symm⟩
theorem uw{e e':Sc}{Q:BP}(hu:A.units+1<Aw)(NB:B4 s.heap)(hT:kJ Es)(hR:kK rk Es)(he:e∈Es)(he':e'∈Es)(ha:ScH s.heap e)(hb':ScH s.heap e')
  (h:Q (decide (rkS rk e=rkS rk e')) s):y4 (y0 pw w) A (Fu (.ref e.a) (.ref e'.a)) Q E s:=by
 have hself:(zV e.f e.f==some Ordering.eq)=true:=(zo.mp ((hR e he e he).1.mpr rfl)).1
 obtain⟨r1,-,-,-,-,r6⟩:=hR e he e' he'
 unfold Fu
 try with_reducible refine zp ?_
 show y4 _ _ (if (AG e.a==AG e'.a)=true then _ else _) Q E s
 by_cases hab:(AG e.a==AG e'.a)=true
 ·refine bX hab ?_
  have ea:e.a=e'.a:=by have:=Ap hab;injection this
  obtain⟨f1,x1⟩:=jV ha hb' ea
  have:rkS rk e=rkS rk e':=by unfold rkS;rw[f1,x1]
  rw[decide_eq_true this] at h
  exact yX (AP (yY h))
 ·refine aQ hab (yX (Bv (op:=.Eq) ⟨_,ha.1,rfl⟩ ⟨_,hb'.1,rfl⟩ EZ (lW ha.1 hb'.1 ?_) (dn 1 hu)))
  refine dC NB (hT e he).1 (hT e' he').1 (λq=>(hT e he).2 e' he' q) hself ⟨λq=>kL (by show A.units+1<Aw;exact hu) ha.2 hb'.2 r6 ⟨nofun,y8 ?_⟩,λq=>⟨nofun,y8 ?_⟩⟩
  ·rw[q,Bool.true_and] at r1
   rw[jh r1]
   exact h
  ·have z:¬ rkS rk e=rkS rk e':=λz=>by
    have:=r1.mpr z
    rw[q] at this;cases this
   rw[decide_eq_false z] at h
   exact h
end
noncomputable def par(i:Nat):Nat:=(i - 1) / 2
inductive rJ (t:Nat):Nat->Prop
 | refl:rJ t t
 | child {p c:Nat}:rJ t p->1<=c->par c=p->rJ t c
theorem dM{i:Nat}(h:1<=i):par i<i:=by unfold par;exact zdq h
theorem fZ{c p:Nat}(h:1<=c)(e:par c=p):c=2 * p+1\/c=2 * p+2:=by unfold par at e;exact zdr h e
theorem rJ.ge{t p:Nat}(h:rJ t p):t<=p:=by
 induction h with
 | refl=>exact zh _
 | child h h1 e ih=>have:=dM h1;exact zdo e ih this
theorem rJ.up{t p:Nat}(h:rJ t p)(hn:p≠t):rJ t (par p)/\1<=p:=by
 cases h with
 | refl=>exact absurd rfl hn
 | child h h1 e=>exact⟨by rw[e];exact h,h1⟩
def aX(K:Nat->Int)(m t:Nat):Prop:=∀ i,1<=i->i<m->t<=par i->K (par i)<=K i
def rH(K:Nat->Int)(m t pos:Nat):Prop:=rJ t pos/\pos<m/\(∀ i,1<=i->i<m->t<=par i->par i≠pos->i≠pos->K (par i)<=K i)/\(pos≠t->∀ c,1<=c->c<m->par c=pos->K (par pos)<=K c)
def UpI(K:Nat->Int)(m t pos:Nat):Prop:=rJ t pos/\pos<m/\(∀ i,1<=i->i<m->t<=par i->i≠pos->K (par i)<=K i)/\(pos≠t->∀ c,1<=c->c<m->par c=pos->K (par pos)<=K c)
noncomputable def kP(K:Nat->Int)(a b:Nat):Nat->Int:=λi=>if i=a then K b else if i=b then K a else K i
theorem jJ{K:Nat->Int}{m t:Nat}(h:aX K m (t+1))(ht:t<m):rH K m t t:=by
 refine⟨.refl,ht,λi h1 hm hp hn Z=>h i h1 hm ?_,λq=>absurd rfl q⟩
 exact zdp hp hn
theorem wV{K:Nat->Int}{m t pos:Nat}(h:rH K m t pos)(hm:m<=2 * pos+1):UpI K m t pos:=by
 obtain⟨h1,h2,h3,h4⟩:=h
 refine⟨h1,h2,λi i1 im hp hn=>h3 i i1 im hp (λe=>?_) hn,h4⟩
 rcases fZ i1 e with q|q<;> lia
theorem q0{K:Nat->Int}{m t pos c:Nat}(h:rH K m t pos)(hc1:1<=c)(hc:par c=pos)(hm:c<m)(hmin:∀ s,1<=s->s<m->par s=pos->K c<=K s):rH (kP K c pos) m t c:=by
 obtain⟨h1,h2,h3,h4⟩:=h
 have hlt:=dM hc1
 have hcp:c≠pos:=za4 hc hlt
 refine⟨.child h1 hc1 hc,hm,λi i1 im hp hn1 hn2=>?_,λZ s s1 sm hs=>?_⟩
 ·unfold kP
  have hil:=dM i1
  rw[if_neg hn1,if_neg hn2]
  by_cases e1:par i=pos
  ·rw[if_pos e1]
   by_cases e2:i=pos
   ·lia
   ·rw[if_neg e2];exact hmin i i1 im e1
  ·rw[if_neg e1]
   by_cases e2:i=pos
   ·rw[if_pos e2]
    subst e2
    have:i≠t:=λe=>by have:=h1.ge;subst e;exact zdy hil hp
    exact h4 this c hc1 hm hc
   ·rw[if_neg e2]
    exact h3 i i1 im hp e1 e2
 ·unfold kP
  have hsl:=dM s1
  have e1:s≠c:=za4 hs hsl
  have e2:s≠pos:=ze1 hc hlt hs hsl
  rw[if_neg e1,if_neg e2,hc,if_neg (Jo hcp),if_pos rfl]
  have:=h3 s s1 sm (by rw[hs];have:=h1.ge;exact ze2 hc hlt this) (by rw[hs];exact hcp) e2
  rw[hs] at this
  exact this
theorem u8{K:Nat->Int}{m t pos:Nat}(h:UpI K m t pos)(hn:pos≠t)(hx:K pos<K (par pos)):UpI (kP K (par pos) pos) m t (par pos):=by
 obtain⟨h1,h2,h3,h4⟩:=h
 obtain⟨hd,hp1⟩:=h1.up hn
 have hlt:=dM hp1
 have hne:par pos≠pos:=za2 hlt
 refine⟨hd,by exact z9m h2 hlt,λi i1 im hp hni=>?_,λhnt c c1 cm hc=>?_⟩
 ·unfold kP
  rw[if_neg hni]
  by_cases e2:i=pos
  ·subst e2
   rw[if_pos rfl,if_pos rfl]
   exact zdz hx
  ·rw[if_neg e2]
   by_cases e1:par i=par pos
   ·rw[if_pos e1]
    have:=h3 i i1 im hp e2
    rw[e1] at this
    exact ze0 hx this
   ·rw[if_neg e1]
    by_cases e3:par i=pos
    ·rw[if_pos e3]
     exact h4 hn i i1 im e3
    ·rw[if_neg e3]
     exact h3 i i1 im hp e2
 ·obtain⟨hd2,hpp1⟩:=hd.up hnt
  have hlt2:=dM hpp1
  have hup:=h3 (par pos) hpp1 (z9m h2 hlt) hd2.ge hne
  unfold kP
  have hcl:=dM c1
  have f1:par (par pos)≠par pos:=za2 hlt2
  have f2:par (par pos)≠pos:=ze3 hlt hlt2
  rw[if_neg f1,if_neg f2]
  have g1:c≠par pos:=za4 hc hcl
  rw[if_neg g1]
  by_cases e2:c=pos
  ·rw[if_pos e2];exact hup
  ·rw[if_neg e2]
   have:=h3 c c1 cm (by rw[hc];exact hd.ge) e2
   rw[hc] at this
   exact zdx hup this
theorem oU{K:Nat->Int}{m t pos:Nat}(h:UpI K m t pos)(he:pos=t\/K (par pos)<=K pos):aX K m t:=by
 obtain⟨h1,h2,h3,h4⟩:=h
 intro i i1 im hp
 by_cases e:i=pos
 ·subst e
  rcases he with q|q
  ·have:=dM i1;exact zdu hp q this
  ·exact q
 ·exact h3 i i1 im hp e
theorem th{K:Nat->Int}{m:Nat}(h:aX K m 0):∀ i,i<m->K 0<=K i:=by
 intro i
 induction i using Iy with
 | _ i ih =>
  intro hi
  by_cases e:i=0
  ·subst e;exact I6 _
  ·have hl:=dM (i:=i) (zds e)
   have:=ih (par i) hl (z9m hi hl)
   have:=h i (zds e) hi (zA _)
   lia
theorem hq_plain:FO "_heapq.heapify.sift" = true:=by decide +kernel
theorem ij:Dm Hb "_heapq.heapify.sift" = some At.«_heapq.heapify.sift»:=BX (by kernel_rfl)
section
variable{tabs:List ze}{a:ze}{l:LV}{T:LO}{vs:List Value}{c pos top:Nat}{res:Value}
noncomputable abbrev iA (a:ze) (down:Bool) (pos top:Nat) (res:Value) (after:Int):Code:=.builtin "_heapq.heapify.sift" ⟨[.ref a,.bool false,.bool down,Cv pos,Cv top,res,Cv after],[]⟩
theorem pn(S:St hb tabs L l ((a,ap vs c)::T) s.heap)(hl:vs.length / 2<=pos)(h:zS (y0 prog w) A (iA a false pos top res after) R s):zS (y0 prog w) A (iA a true pos top res after) R s:=by
 refine z8 ij ?_
 rw[BQ hq_plain _]
 refine yX (m:=(BK (.ref a)>>=_)) (yX (zv (S.obj _ m0) rfl (yY ?_)))
 show y4 _ _ (if pos<vs.toArray.size / 2 then _ else _) _ _ s
 exact aQ (by rw[zd];exact z9h hl) (yY ⟨Ao hq_plain _,h⟩)
noncomputable def dD(vs:List Value)(i j:Nat):List Value:=(vs.set i (vs.getD j .none)).set j (vs.getD i .none)
theorem ib{i j:Nat}:∃ c1,zO (λxs=>(xs.setIfInBounds i (vs.getD j .none)).setIfInBounds j (vs.getD i .none)) (ap vs c)=ap (dD vs i j) c1:=by
 have e:(vs.toArray.setIfInBounds i (vs.getD j .none)).setIfInBounds j (vs.getD i .none)=(dD vs i j).toArray:=by simp[dD]
 have h:∃ c1,zO (λxs=>(xs.setIfInBounds i (vs.getD j .none)).setIfInBounds j (vs.getD i .none)) (ap vs c) = { ap vs c with data:=.seq ((vs.toArray.setIfInBounds i (vs.getD j .none)).setIfInBounds j (vs.getD i .none)) c1 }:=⟨_,rfl⟩
 rw[e] at h
 exact h
theorem po{key:Value->Int}(S:St hb tabs L l ((a,ap vs c)::T) s.heap)(hz:vs.length<=1000)(hl:pos<vs.length / 2)
  (hless:∀ x∈vs,∀ y∈vs,∀ {E:VP}{Q:VP},Q (.bool (decide (key x<key y))) s->y4 (y0 prog w) A.in1 (DF .Lt x y) Q E s)
  (k:∀ ch h' c',1<=ch->par ch=pos->ch<vs.length->(∀ i,1<=i->i<vs.length->par i=pos->key (vs.getD ch .none)<=key (vs.getD i .none))->St hb tabs L l ((a,ap (dD vs ch pos) c')::T) h'->zS (y0 prog w) A (iA a true ch top res after) R (wh s h')) :
  zS (y0 prog w) A (iA a true pos top res after) R s:=by
 have NN:∀ i,i<vs.length->vs.toArray[i]? = some (vs.getD i .none):=λi hi=>by simp[hi]
 have mem:∀ i,i<vs.length->vs.getD i .none∈vs:=λi hi=>by simp[hi]
 refine z8 ij ?_
 rw[BQ hq_plain _]
 refine yX (m:=(BK (.ref a)>>=_)) (yX (zv (S.obj _ m0) rfl (yY ?_)))
 show y4 _ _ (if pos<vs.toArray.size / 2 then _ else _) _ _ s
 refine bX (by rw[zd];exact hl) ?_
 show y4 _ _ (if 2 * pos+1+1<vs.toArray.size then _ else _) _ _ s
 have hp1:par (2 * pos+1)=pos:=by unfold par;exact z9n
 have hp2:par (2 * pos+1+1)=pos:=by unfold par;exact z9o
 have hpos:pos<vs.length:=z9p hl
 have hl1:2 * pos+1<vs.length:=z9r hl
 by_cases h2:2 * pos+1+1<vs.length
 ·refine bX (by rw[zd];exact h2) (yX (As (a:=vs.getD (2 * pos+1) .none) (by show (match vs.toArray[(2 * pos+1)]? with|some v=>Au v|none=>_)=_;rw[NN _ hl1]) ?_))
  refine yX (As (a:=vs.getD (2 * pos+1+1) .none) (by show (match vs.toArray[(2 * pos+1+1)]? with|some v=>Au v|none=>_)=_;rw[NN _ h2]) ?_)
  refine aQ (by decide) (yX (yX (m:=G9 [vs.getD (2 * pos+1) .none,vs.getD (2 * pos+1+1) .none] (DF .Lt (vs.getD (2 * pos+1) .none) (vs.getD (2 * pos+1+1) .none)>>=I5)) (zp (yX (hless _ (mem _ hl1) _ (mem _ h2) ?_)))))
  refine y8 (yX (m:=(BK (.ref a)>>=_)) (yX (zv (S.obj _ m0) rfl (yY ?_))))
  refine aQ (by simp) (yY ?_)
  by_cases hlt:key (vs.getD (2 * pos+1) .none)<key (vs.getD (2 * pos+1+1) .none)
  ·rw[decide_eq_true hlt]
   refine aQ (by decide) (yX (yX (m:=(BK (.ref a)>>=_)) (yX (zv (S.obj _ m0) rfl (yY ?_)))))
   refine yX (As (a:=vs.getD (2 * pos+1) .none) (by show (match vs.toArray[(2 * pos+1)]? with|some v=>Au v|none=>_)=_;rw[NN _ hl1]) ?_)
   refine yX (As (a:=vs.getD (pos) .none) (by show (match vs.toArray[(pos)]? with|some v=>Au v|none=>_)=_;rw[NN _ hpos]) ?_)
   obtain⟨c1,hc1⟩:∃ c1,zO (λxs=>(xs.setIfInBounds (2 * pos+1) (vs.getD (pos) .none)).setIfInBounds (pos) (vs.getD (2 * pos+1) .none)) (ap vs c)=ap (dD vs (2 * pos+1) (pos)) c1:=ib
   refine BD (S.obj _ m0) rfl ?_ (by rw[zw,zd];exact up 16776216 hz) (by rw[zw];simp;exact up 16776217 hz)
   have S':=S.change (o':=ap (dD vs (2 * pos+1) (pos)) c1) 0 rfl (zt s.heap a (zO λxs=>(xs.setIfInBounds (2 * pos+1) (vs.getD (pos) .none)).setIfInBounds (pos) (vs.getD (2 * pos+1) .none))) (by rw[zq _ (S.obj _ m0) (by rw[hc1];rfl),hc1])
   refine yY ⟨Ao hq_plain _,k (2 * pos+1) _ _ z9t hp1 hl1 (λi i1 im hi=>?_) S'⟩
   rcases fZ i1 hi with q|q
   ·rw[q];exact I6 _
   ·rw[q];exact HV hlt
  ·rw[decide_eq_false hlt]
   show y4 _ _ (if (!false)=true then _ else _) _ _ s
   refine bX (by decide) (yX (yX (m:=(BK (.ref a)>>=_)) (yX (zv (S.obj _ m0) rfl (yY ?_)))))
   refine yX (As (a:=vs.getD (2 * pos+1+1) .none) (by show (match vs.toArray[(2 * pos+1+1)]? with|some v=>Au v|none=>_)=_;rw[NN _ h2]) ?_)
   refine yX (As (a:=vs.getD (pos) .none) (by show (match vs.toArray[(pos)]? with|some v=>Au v|none=>_)=_;rw[NN _ hpos]) ?_)
   obtain⟨c1,hc1⟩:∃ c1,zO (λxs=>(xs.setIfInBounds (2 * pos+1+1) (vs.getD (pos) .none)).setIfInBounds (pos) (vs.getD (2 * pos+1+1) .none)) (ap vs c)=ap (dD vs (2 * pos+1+1) (pos)) c1:=ib
   refine BD (S.obj _ m0) rfl ?_ (by rw[zw,zd];exact up 16776216 hz) (by rw[zw];simp;exact up 16776217 hz)
   have S':=S.change (o':=ap (dD vs (2 * pos+1+1) (pos)) c1) 0 rfl (zt s.heap a (zO λxs=>(xs.setIfInBounds (2 * pos+1+1) (vs.getD (pos) .none)).setIfInBounds (pos) (vs.getD (2 * pos+1+1) .none))) (by rw[zq _ (S.obj _ m0) (by rw[hc1];rfl),hc1])
   refine yY ⟨Ao hq_plain _,k (2 * pos+1+1) _ _ z9u hp2 h2 (λi i1 im hi=>?_) S'⟩
   rcases fZ i1 hi with q|q
   ·rw[q];exact Gw.mp hlt
   ·rw[q];exact I6 _
 ·refine aQ (by rw[zd];exact h2) (yX (yX (m:=(BK (.ref a)>>=_)) (yX (zv (S.obj _ m0) rfl (yY ?_)))))
  refine yX (As (a:=vs.getD (2 * pos+1) .none) (by show (match vs.toArray[(2 * pos+1)]? with|some v=>Au v|none=>_)=_;rw[NN _ hl1]) ?_)
  refine yX (As (a:=vs.getD (pos) .none) (by show (match vs.toArray[(pos)]? with|some v=>Au v|none=>_)=_;rw[NN _ hpos]) ?_)
  obtain⟨c1,hc1⟩:∃ c1,zO (λxs=>(xs.setIfInBounds (2 * pos+1) (vs.getD (pos) .none)).setIfInBounds (pos) (vs.getD (2 * pos+1) .none)) (ap vs c)=ap (dD vs (2 * pos+1) (pos)) c1:=ib
  refine BD (S.obj _ m0) rfl ?_ (by rw[zw,zd];exact up 16776216 hz) (by rw[zw];simp;exact up 16776217 hz)
  have S':=S.change (o':=ap (dD vs (2 * pos+1) (pos)) c1) 0 rfl (zt s.heap a (zO λxs=>(xs.setIfInBounds (2 * pos+1) (vs.getD (pos) .none)).setIfInBounds (pos) (vs.getD (2 * pos+1) .none))) (by rw[zq _ (S.obj _ m0) (by rw[hc1];rfl),hc1])
  refine yY ⟨Ao hq_plain _,k (2 * pos+1) _ _ z9t hp1 hl1 (λi i1 im hi=>?_) S'⟩
  rcases fZ i1 hi with q|q
  ·rw[q];exact I6 _
  ·exact z9v h2 im q
def EndK(prog:Bh)(w:Am)(A:AR)(a:ze)(res:Value)(after:Int)(R:Cg->y9->Prop)(s:y9):Prop :=
 (after<0->R (.ok (.ret res)) s)/\∀ n:Nat,after=n->zS (y0 prog w) A (iA a true n n res ((n:Int) - 1)) R s
theorem pk(S:St hb tabs L l ((a,ap vs c)::T) s.heap)(hl:pos<=top)(h:EndK prog w A a res after R s):zS (y0 prog w) A (iA a false pos top res after) R s:=by
 refine z8 ij ?_
 rw[BQ hq_plain _]
 refine yX (m:=(BK (.ref a)>>=_)) (yX (zv (S.obj _ m0) rfl (yY ?_)))
 show y4 _ _ (if pos > top then _ else _) _ _ s
 refine aQ (z9i hl) ?_
 show y4 _ _ (if after<0 then _ else _) _ _ s
 by_cases ha:after<0
 ·exact bX ha (yY (h.1 ha))
 ·refine aQ ha ?_
  obtain⟨n,hn⟩:∃ n:Nat,after=n:=⟨after.toNat,by exact z9j ha⟩
  subst hn
  exact yY ⟨Ao hq_plain _,h.2 n rfl⟩
theorem vw{key:Value->Int}(S:St hb tabs L l ((a,ap vs c)::T) s.heap)(hz:vs.length<=1000)(hl:top<pos)(hpos:pos<vs.length)
  (hless:∀ x∈vs,∀ y∈vs,∀ {E:VP}{Q:VP},Q (.bool (decide (key x<key y))) s->y4 (y0 prog w) A.in1 (DF .Lt x y) Q E s)
  (k1:∀ h' c',key (vs.getD pos .none)<key (vs.getD (par pos) .none)->St hb tabs L l ((a,ap (dD vs (par pos) pos) c')::T) h'->zS (y0 prog w) A (iA a false (par pos) top res after) R (wh s h'))
  (k2:key (vs.getD (par pos) .none)<=key (vs.getD pos .none)->EndK prog w A a res after R s) :
  zS (y0 prog w) A (iA a false pos top res after) R s:=by
 have NN:∀ i,i<vs.length->vs.toArray[i]? = some (vs.getD i .none):=λi hi=>by simp[hi]
 have mem:∀ i,i<vs.length->vs.getD i .none∈vs:=λi hi=>by simp[hi]
 have hpar:par pos<vs.length:=by have:=dM (i:=pos) (z9k hl);exact z9m hpos this
 refine z8 ij ?_
 rw[BQ hq_plain _]
 refine yX (m:=(BK (.ref a)>>=_)) (yX (zv (S.obj _ m0) rfl (yY ?_)))
 show y4 _ _ (if pos > top then _ else _) _ _ s
 refine bX hl (yX (As (a:=vs.getD (pos) .none) (by show (match vs.toArray[(pos)]? with|some v=>Au v|none=>_)=_;rw[NN _ hpos]) ?_))
 refine yX (As (a:=vs.getD (par pos) .none) (by show (match vs.toArray[(par pos)]? with|some v=>Au v|none=>_)=_;rw[NN _ hpar]) ?_)
 refine aQ (by decide) (yX (yX (m:=G9 [vs.getD (pos) .none,vs.getD (par pos) .none] (DF .Lt (vs.getD (pos) .none) (vs.getD (par pos) .none)>>=I5)) (zp (yX (hless _ (mem _ hpos) _ (mem _ hpar) ?_)))))
 refine y8 (yX (m:=(BK (.ref a)>>=_)) (yX (zv (S.obj _ m0) rfl (yY ?_))))
 refine aQ (by simp) (yY ?_)
 by_cases hlt:key (vs.getD pos .none)<key (vs.getD (par pos) .none)
 ·rw[decide_eq_true hlt]
  refine bX rfl (yX (yX (m:=(BK (.ref a)>>=_)) (yX (zv (S.obj _ m0) rfl (yY ?_)))))
  refine yX (As (a:=vs.getD (par pos) .none) (by show (match vs.toArray[(par pos)]? with|some v=>Au v|none=>_)=_;rw[NN _ hpar]) ?_)
  refine yX (As (a:=vs.getD (pos) .none) (by show (match vs.toArray[(pos)]? with|some v=>Au v|none=>_)=_;rw[NN _ hpos]) ?_)
  obtain⟨c1,hc1⟩:∃ c1,zO (λxs=>(xs.setIfInBounds (par pos) (vs.getD (pos) .none)).setIfInBounds (pos) (vs.getD (par pos) .none)) (ap vs c)=ap (dD vs (par pos) (pos)) c1:=ib
  refine BD (S.obj _ m0) rfl ?_ (by rw[zw,zd];exact up 16776216 hz) (by rw[zw];simp;exact up 16776217 hz)
  have S':=S.change (o':=ap (dD vs (par pos) (pos)) c1) 0 rfl (zt s.heap a (zO λxs=>(xs.setIfInBounds (par pos) (vs.getD (pos) .none)).setIfInBounds (pos) (vs.getD (par pos) .none))) (by rw[zq _ (S.obj _ m0) (by rw[hc1];rfl),hc1])
  exact yY ⟨Ao hq_plain _,k1 _ _ hlt S'⟩
 ·rw[decide_eq_false hlt]
  refine aQ (by decide) ?_
  have h:=k2 (Gw.mp hlt)
  by_cases ha:after<0
  ·exact bX ha (yY (h.1 ha))
  ·refine aQ ha ?_
   obtain⟨n,hn⟩:∃ n:Nat,after=n:=⟨after.toNat,by exact z9j ha⟩
   subst hn
   exact yY ⟨Ao hq_plain _,h.2 n rfl⟩
end
noncomputable abbrev fH(key:Value->Int)(vs:List Value):Nat->Int:=λi=>key (vs.getD i .none)
theorem jx{vs:List Value}{i j:Nat}(hi:i<vs.length)(hj:j<vs.length):(dD vs i j).Perm vs:=by
 have e1:vs.getD i .none=vs[i]:=by simp[hi]
 have e2:vs.getD j .none=vs[j]:=by simp[hj]
 unfold dD
 rw[e1,e2]
 exact List.set_set_perm hi hj
theorem kO(key:Value->Int){vs:List Value}{i j:Nat}(hi:i<vs.length)(hj:j<vs.length)(hij:i≠j):fH key (dD vs i j)=kP (fH key vs) i j:=by
 funext k
 unfold kP fH dD
 by_cases e1:k=i
 ·subst e1
  congr 1
  simp[Do,hi,Jo hij]
 ·rw[if_neg e1]
  by_cases e2:k=j
  ·subst e2
   congr 1
   simp[Do,hj]
  ·rw[if_neg e2]
   congr 1
   simp[Do,Jo e1,Jo e2]
section
variable{tabs:List ze}{a:ze}{l:LV}{T:LO}{vs0:List Value}{top:Nat}{res:Value}{key:Value->Int}
def gO(prog:Bh)(w:Am)(A:AR)(hb:AE)(tabs:List ze)(L a:ze)(l:LV)(T:LO)(vs0:List Value)(key:Value->Int)(s:y9):Prop :=
 ∀ s' c' vs',Kp s s'->St hb tabs L l ((a,ap vs' c')::T) s'.heap->∀ x∈vs0,∀ y∈vs0,∀ {E:VP}{Q:VP},Q (.bool (decide (key x<key y))) s'->y4 (y0 prog w) A.in1 (DF .Lt x y) Q E s'
theorem xp(hless:gO prog w A hb tabs L a l T vs0 key s)(hz:vs0.length<=1000)
  (hfin:∀ s' vs' c',Kp s s'->vs'.Perm vs0->aX (fH key vs') vs0.length top->St hb tabs L l ((a,ap vs' c')::T) s'.heap->EndK prog w A a res after R s') :
  ∀ pos vs c s₁,Kp s s₁->vs.Perm vs0->UpI (fH key vs) vs0.length top pos->St hb tabs L l ((a,ap vs c)::T) s₁.heap->zS (y0 prog w) A (iA a false pos top res after) R s₁:=by
 intro pos
 induction pos using Iy with
 | _ pos ih =>
  intro vs c s₁ K hp hU S
  have hlen:=hp.length_eq
  by_cases hn:pos=top
  ·exact pk S (z9w hn) (hfin s₁ vs c K hp (oU hU (.inl hn)) S)
  ·have hge:=hU.1.ge
   have hlt:pos<vs.length:=by rw[hlen];exact hU.2.1
   obtain⟨hd,hp1⟩:=hU.1.up hn
   have hpl:=dM hp1
   refine vw S (z9y hz hlen) (z9z hn hge) hlt (λx hx y hy=>hless s₁ c vs K S x (hp.mem_iff.mp hx) y (hp.mem_iff.mp hy)) ?_ ?_
   ·refine λh' c' hx S'=>ih (par pos) hpl (dD vs (par pos) pos) c' _ ⟨K.os,K.gens⟩ ((jx (z9m hlt hpl) hlt).trans hp) ?_ S'
    rw[kO key (by exact z9m hlt hpl) hlt (by exact za2 hpl)]
    exact u8 hU hn hx
   ·exact λhx=>hfin s₁ vs c K hp (oU hU (.inr hx)) S
theorem nB(hless:gO prog w A hb tabs L a l T vs0 key s)(hz:vs0.length<=1000)
  (hfin:∀ s' vs' c',Kp s s'->vs'.Perm vs0->aX (fH key vs') vs0.length top->St hb tabs L l ((a,ap vs' c')::T) s'.heap->EndK prog w A a res after R s') :
  ∀ k pos vs c s₁,vs0.length - pos=k->Kp s s₁->vs.Perm vs0->rH (fH key vs) vs0.length top pos->St hb tabs L l ((a,ap vs c)::T) s₁.heap->zS (y0 prog w) A (iA a true pos top res after) R s₁:=by
 intro k
 induction k using Iy with
 | _ k ih =>
  intro pos vs c s₁ hk K hp hD S
  have hlen:=hp.length_eq
  have hlt:pos<vs.length:=by rw[hlen];exact hD.2.1
  by_cases hl:pos<vs.length / 2
  ·refine po S (z9y hz hlen) hl (λx hx y hy=>hless s₁ c vs K S x (hp.mem_iff.mp hx) y (hp.mem_iff.mp hy)) ?_
   intro ch h' c' h1 hpc hch hmin S'
   have hcl:=dM h1
   refine ih (vs0.length - ch) (za3 hk hlen hl hpc hcl) ch (dD vs ch pos) c' _ rfl ⟨K.os,K.gens⟩ ((jx hch hlt).trans hp) ?_ S'
   rw[kO key hch hlt (za4 hpc hcl)]
   exact q0 hD h1 hpc (za5 hlen hch) (λi i1 im hi=>hmin i i1 (z2v hlen im) hi)
  ·exact pn S (za6 hl) (xp hless hz hfin pos vs c s₁ K hp (wV hD (za7 hlen hl)) S)
theorem iY(hless:gO prog w A hb tabs L a l T vs0 key s)(hz:vs0.length<=1000)
  (hR:∀ s' vs' c',Kp s s'->vs'.Perm vs0->aX (fH key vs') vs0.length 0->St hb tabs L l ((a,ap vs' c')::T) s'.heap->R (.ok (.ret res)) s') :
  ∀ n vs c s₁,n<vs0.length->Kp s s₁->vs.Perm vs0->aX (fH key vs) vs0.length (n+1)->St hb tabs L l ((a,ap vs c)::T) s₁.heap->zS (y0 prog w) A (iA a true n n res ((n:Int) - 1)) R s₁:=by
 intro n
 induction n with
 | zero =>
  refine λvs c s₁ hn K hp hH S=>nB hless hz (λs' vs' c' K' hp' hH' S'=>⟨λZ=>hR s' vs' c' K' hp' hH' S',λm hm=>by exact z9x hm⟩) _ 0 vs c s₁ rfl K hp (jJ hH hn) S
 | succ n ih =>
  refine λvs c s₁ hn K hp hH S=>nB hless hz (λs' vs' c' K' hp' hH' S'=>⟨λh=>by exact za0 h,λm hm=>?_⟩) _ (n+1) vs c s₁ rfl K hp (jJ hH hn) S
  have:m=n:=za1 hm
  subst this
  exact ih vs' c' s' (dn 1 hn) K' hp' hH' S'
end
theorem wG:Ek "_heapq.heapify" = none:=by decide +kernel
theorem sV:FO "_heapq.heapify" = true:=by decide +kernel
theorem sW:Dm Hb "_heapq.heapify" = some At.«_heapq.heapify»:=BX (by kernel_rfl)
theorem wH (a:Value):CI "_heapq.heapify" ⟨[a],[]⟩:=by unfold CI;kernel_rfl
theorem wI:Ek "_heapq.heapreplace" = none:=by decide +kernel
theorem sY:FO "_heapq.heapreplace" = true:=by decide +kernel
theorem sZ:Dm Hb "_heapq.heapreplace" = some At.«_heapq.heapreplace»:=BX (by kernel_rfl)
theorem wJ (a b:Value):CI "_heapq.heapreplace" ⟨[a,b],[]⟩:=by unfold CI;kernel_rfl
theorem kQ:CJ (.type "list") (.type "list")=Au true:=by rw[AZ];kernel_rfl
section
variable{tabs:List ze}{a:ze}{l:LV}{T:LO}{vs:List Value}{c:Nat}{key:Value->Int}
theorem pT{Q:VP}(S:St hb tabs L l ((a,ap vs c)::T) s.heap)(hz:vs.length<=1000)(hless:gO prog w A hb tabs L a l T vs key s)
  (k:∀ s' vs' c',Kp s s'->vs'.Perm vs->aX (fH key vs') vs.length 0->St hb tabs L l ((a,ap vs' c')::T) s'.heap->Q .none s'):y4 (y0 prog w) A (call (.builtin "_heapq.heapify") [.ref a]) Q E s:=by
 have hT:s.TypeIs (.ref a) "list" := ⟨_,S.obj _ m0,rfl⟩
 refine JR wG sV sW (wH _) (yX (m:=((Au (AG a))>>=_)) (yX (yY ?_)))
 refine yX (yX (m:=B5 (.ref a) (.type "list")) (AL hT kQ ?_))
 refine yY (yY (yX (m:=(BK (.ref a)>>=_)) (yX (zv (S.obj _ m0) rfl (yY ?_)))))
 refine aQ (by rw[zd];exact za8 hz) ?_
 by_cases h2:vs.length<2
 ·refine bX (by rw[zd];exact h2) (yY (k s vs c Kp.refl (BE _) (λi i1 im Z=>by exact za9 h2 i1 im) S))
 ·refine aQ (by rw[zd];exact h2) ?_
  have e1:((vs.toArray.size / 2:Nat):Int) - 2=((vs.length / 2 - 1:Nat):Int) - 1:=by rw[zd];exact zab h2
  rw[e1]
  refine yY ⟨Ao hq_plain _,?_⟩
  refine iY (key:=key) hless hz (λs' vs' c' K' hp' hH' S'=>k s' vs' c' K' hp' hH' S') (vs.length / 2 - 1) vs c s (zae h2) Kp.refl (BE _) (λi i1 im hp=>?_) S
  unfold par at hp
  exact zaf im hp
theorem jZ{item first:Value}{rest:List Value}{Q:VP}(S:St hb tabs L l ((a,ap (first::rest) c)::T) s.heap)(hz:(first::rest).length<=1000)(hless:gO prog w A hb tabs L a l T (item::rest) key s)(hH:aX (fH key (first::rest)) (first::rest).length 0)
  (k:∀ s' vs' c',Kp s s'->vs'.Perm (item::rest)->aX (fH key vs') (item::rest).length 0->St hb tabs L l ((a,ap vs' c')::T) s'.heap->Q first s'):y4 (y0 prog w) A (call (.builtin "_heapq.heapreplace") [.ref a,item]) Q E s:=by
 have hT:s.TypeIs (.ref a) "list" := ⟨_,S.obj _ m0,rfl⟩
 refine JR wI sY sZ (wJ _ _) (yX (m:=((B5 (.ref a) (.type "list")>>=_)>>=_)) (yX (yX (AL hT kQ ?_))))
 refine yY (yY ?_)
 refine yX (m:=(BK (.ref a)>>=_)) (yX (zv (S.obj _ m0) rfl (yY ?_)))
 refine yX (m:=Jn a (·.setIfInBounds 0 item)) ?_
 obtain⟨c1,hc1⟩:∃ c1,zO (·.setIfInBounds 0 item) (ap (first::rest) c)=ap (item::rest) c1:=by
  have e:(first::rest).toArray.setIfInBounds 0 item=(item::rest).toArray:=by simp
  have h:∃ c1,zO (·.setIfInBounds 0 item) (ap (first::rest) c) = { ap (first::rest) c with data:=.seq ((first::rest).toArray.setIfInBounds 0 item) c1 }:=⟨_,rfl⟩
  exact h
 refine BD (S.obj _ m0) rfl ?_ (by rw[zw,zd];exact up 16776216 hz) (by rw[zw];simp at hz ⊢;exact up 16776217 hz)
 have S':=S.change (o':=ap (item::rest) c1) 0 rfl (zt s.heap a (zO (·.setIfInBounds 0 item))) (by rw[zq _ (S.obj _ m0) (by rw[hc1];rfl),hc1])
 refine yY ⟨Ao hq_plain _,?_⟩
 refine iY (key:=key) (vs0:=item::rest) (s:=s) hless (by simpa using hz) (λs' vs' c' K' hp' hH' S''=>k s' vs' c' K' hp' hH' S'') 0 (item::rest) c1 _ (by simp) ⟨rfl,id⟩ (BE _) (λi i1 im hp=>?_) S'
 have h:=hH i i1 (by simpa using im) (zA _)
 have e1:∀ j,1<=j->(first::rest).getD j CK=(item::rest).getD j CK:=by
  intro j hj
  cases j with
  | zero=>lia
  | succ j=>rfl
 unfold fH at h ⊢
 rw[e1 i i1,e1 (par i) hp] at h
 exact h
end
structure HI where
 a:ze
 e:Sc
 ord:Int
 ot:AN
noncomputable def fQ(rk:UInt64->List zH->Nat)(i:HI):Int:=(rkS rk i.e:Int) * 1000+i.ord
section
variable{Es:List Sc}
theorem hi_lt{x y:HI}{Q:VP}(hu:A.units+4<Aw)(NB:B4 s.heap)(hT:kJ Es)(hR:kK rk Es)(he:x.e∈Es)(he':y.e∈Es)(ha:ScH s.heap x.e)(hb':ScH s.heap y.e)
  (hx:s.heap.get? x.a=some (aG [.ref x.e.a,.int x.ord x.ot])) (hy:s.heap.get? y.a=some (aG [.ref y.e.a,.int y.ord y.ot]))
  (ox : -400<=x.ord/\x.ord<=400) (oy : -400<=y.ord/\y.ord<=400)
  (h:Q (.bool (decide (fQ rk x<fQ rk y))) s):y4 (y0 pw w) A (AF .Lt (.ref x.a) (.ref y.a)) Q E s:=by
 refine qm (dn 4 hu) hx hy (uw (by show A.units+1+1<Aw;exact dn 2 hu) NB hT hR he he' ha hb' ?_)
 unfold fQ at h
 refine⟨λq=>?_,λq=>?_⟩
 ·have hq:=of_decide_eq_true q
  refine EE ⟨λq2=>?_,λq2=>?_⟩
  ·have e1:x.ord=y.ord:=Ap q2
   rw[show decide ((rkS rk x.e:Int) * 1000+x.ord<(rkS rk y.e:Int) * 1000+y.ord)=false from decide_eq_false (z27 q q2)] at h
   exact h
  ·refine P.lt_int ⟨nofun,?_⟩
   rw[show decide (x.ord<y.ord)=decide ((rkS rk x.e:Int) * 1000+x.ord<(rkS rk y.e:Int) * 1000+y.ord) from decide_eq_decide.mpr (x13 q)]
   exact h
 ·have hq:=of_decide_eq_false q
  refine vF (by show A.units+1+1<Aw;exact dn 2 hu) NB hT hR he he' ha hb' ⟨nofun,?_⟩
  rw[show decide (rkS rk x.e<rkS rk y.e)=decide ((rkS rk x.e:Int) * 1000+x.ord<(rkS rk y.e:Int) * 1000+y.ord) from decide_eq_decide.mpr (x12 ox.1 ox.2 oy.1 oy.2 q)]
  exact h
end
theorem oX{rk:UInt64->List zH->Nat}{Hs outs Es:List Sc}(hp:(Hs++outs).Perm Es)(hs:Hs.Pairwise (λa b=>rkS rk b<=rkS rk a))(ho:∀ o∈outs,∀ h∈Hs,rkS rk o<=rkS rk h) :
  ∃ P:List Sc,An3 (P.Perm Es) (P.Pairwise (λa b=>rkS rk b<=rkS rk a)) (P.take Hs.length=Hs):=by
 refine⟨Hs++outs.mergeSort (λa b=>decide (rkS rk b<=rkS rk a)),?_,?_,?_⟩
 ·exact ((EK outs _).append_left Hs).trans hp
 ·refine I7.mpr ⟨hs,?_,λa ha b hb=>?_⟩
  ·have:=HO (le:=λa b:Sc=>decide (rkS rk b<=rkS rk a)) (λa b c h1 h2=>by simp at *;exact z1r h1 h2) (λa b=>by simp;exact z1s) outs
   exact this.imp λh=>by simpa using h
  ·exact ho b ((EK outs _).mem_iff.mp hb) a ha
 ·simp
theorem mx_plain:FO "max.loop" = true:=by decide +kernel
theorem ka:Dm Hb "max.loop" = some At.«max.loop»:=BX (by kernel_rfl)
section
variable{tabs:List ze}{best:ze}{l:LV}{T:LO}{vs:List Value}{n:Nat}{o:AO}
theorem ig{x:Value}{Q:Option Value->y9->Prop}(ii:Nat)(S:St hb tabs L l T s.heap)(hit:T[ii]? = some (I,o))(ho:bZ o d i)(hd:(d,ap vs n)∈T)(hx:vs[i]? = some x)
  (h:∀ h' o',bZ o' d (i+1)->St hb tabs L l (T.set ii (I,o')) h'->Q (some x) (wh s h')):y4 (y0 prog w) A (De (.ref I)) Q E s:=by
 refine wpAny_pyNext_list_item (items:=vs.toArray) ⟨_,S.obj _ (zm hit),ho.1,ho.2⟩ ⟨_,S.obj _ hd,rfl,n,rfl⟩ (by simpa using hx) λh' hit' hs'=>?_
 obtain⟨o',ho',hc',hd'⟩:=hit'
 exact h h' o' ⟨hc',hd'⟩ (S.change ii hit hs' ho')
theorem iT{Q:Option Value->y9->Prop}(hh:A.handled=none)(S:St hb tabs L l (T++[(I,o)]) s.heap)(ho:bZ o d vs.length)(hd:(d,ap vs n)∈T)
  (h:∀ h',St hb tabs L l T h'->Q none (wh s h')):y4 (y0 prog w) A (De (.ref I)) Q E s:=by
 exact wpAny_pyNext_list_end (items:=vs.toArray) hh ⟨_,S.obj (I,o) (yZ _ (.head _)),ho.1,ho.2⟩ ⟨_,S.obj _ (y5 _ hd),rfl,n,rfl⟩ (by simp) λh' he=>(h h' (S.drop (own:=[(I,o)]) λb x hb' e=>he b x (λq=>hb' (by rw[q];exact .head _)) e))
theorem sJ(hh:A.handled=none)(hne:0<vs.length)(hz:vs.length<=1000)(hd:(d,ap vs n)∈T)
  (hgt:∀ (s':y9) (T':LO),Kp s s'->St hb tabs L l T' s'.heap->(∀ p∈T,p∈T')->∀ x∈vs,∀ y∈vs,∀ {E:VP}{Q:VP},Q (.bool (decide (rkv y<rkv x))) s'->y4 (y0 prog w) A.in1 (DF .Gt x y) Q E s')
  (hR:∀ s' m c,Kp s s'->m∈vs->(∀ x∈vs,rkv x<=rkv m)->St hb tabs L l ((best,ap [] c)::T) s'.heap->R (.ok (.ret m)) s') :
  ∀ (k i:Nat) (cur:List Value) (c:Nat) (o:AO) (s₁:y9),vs.length - i=k->i<=vs.length->bZ o d i->St hb tabs L l ((best,ap cur c)::(I,o)::T) s₁.heap->Kp s s₁ ->
   (i=0/\cur=[]\/0<i/\∃ m,An3 (cur=[m,m]) (m∈vs) (∀ x∈vs.take i,rkv x<=rkv m)) ->
   zS (y0 prog w) A (.builtin "max.loop" ⟨[.ref I,.none,.ref best],[(yW "default", Js)]⟩) R s₁:=by
 intro k
 induction k with
 | zero =>
  intro i cur c o s₁ hk hi ho S K hcur
  have:i=vs.length:=z94 hk hi
  subst this
  refine z8 ka (yX (m:=BK (.ref best)) (zv (S.obj _ m0) rfl ?_))
  refine yX (m:=Mv (De (.ref I)) _) (DB ?_)
  refine iT (T:=(best,ap cur c)::T) hh (S.perm (zL _ (zi (l₁:=[(I,o)]) (l₂:=T)))) ho (aj hd) λh' S'=>?_
  rcases hcur with⟨h0,_⟩|⟨_,m,rfl,hm,hmax⟩
  ·exact zag hne h0
  ·rw[zX] at hmax
   obtain⟨c1,hc1⟩:∃ c1,zO (λZ=>(#[]:Array Value)) (ap [m,m] c)=ap [] c1:=⟨_,rfl⟩
   refine yX (BD (S'.obj _ m0) rfl ?_)
   have af:=S'.change (o':=ap [] c1) 0 rfl (zt _ best (zO λZ=>(#[]:Array Value))) (by rw[zq _ (S'.obj _ m0) rfl,<- hc1])
   refine yX (DE ?_)
   exact yY (hR _ m c1 ⟨K.os,K.gens⟩ hm hmax af)
 | succ k ih =>
  intro i cur c o s₁ hk hi ho S K hcur
  have hlt:i<vs.length:=z96 hk
  refine z8 ka (yX (m:=BK (.ref best)) (zv (S.obj _ m0) rfl ?_))
  refine yX (m:=Mv (De (.ref I)) _) (DB ?_)
  refine ig (x:=vs[i]) 1 S rfl ho (aj (aj hd)) (by simp[hlt]) λh' o' ho' S'=>?_
  have hx:vs[i]∈vs:=z5 hlt
  have hcl:cur.length<=2:=by
   rcases hcur with⟨_,rfl⟩|⟨_,m,rfl,_⟩<;> simp
  have upd:∀ (m:Value) {E:VP}{Q:UP} (s':y9),St hb tabs L l ((best,ap cur c)::(I,o')::T) s'.heap->(∀ h'' c'',St hb tabs L l ((best,ap [m,m] c'')::(I,o')::T) h''->Q () (wh s' h''))->y4 (y0 prog w) A.in1 (Jn best λZ=>#[m,m]) Q E s':=by
   intro m E Q s' Sx hq
   obtain⟨c1,hc1⟩:∃ c1,zO (λZ=>(#[m,m]:Array Value)) (ap cur c)=ap [m,m] c1:=⟨_,rfl⟩
   refine BD (Sx.obj _ m0) rfl (hq _ c1 (Sx.change 0 rfl (zt _ best (zO λZ=>(#[m,m]:Array Value))) (by rw[zq _ (Sx.obj _ m0) rfl,<- hc1]))) (by rw[zw,zd];exact up 16777214 hcl)
  rcases hcur with⟨rfl,rfl⟩|⟨h0,m,rfl,hm,hmax⟩
  ·show y4 _ _ (Jn best (λZ=>#[vs[0],vs[0]])>>=_) _ _ _
   refine yX (upd _ _ S' λh'' c'' S''=>?_)
   refine yY ⟨Ao mx_plain _,ih 1 _ _ o' _ (zak hk) hne ho' S'' ⟨K.os,K.gens⟩ (.inr ⟨by exact zam,vs[0],rfl,hx,λx hx'=>?_⟩)⟩
   rw[List.take_one,List.head?_eq_getElem?,zj hlt] at hx'
   simp at hx'
   rw[hx']
   exact zh _
  ·have hmax':∀ m',rkv m<=rkv m'->rkv vs[i]<=rkv m'->∀ x∈vs.take (i+1),rkv x<=rkv m':=by
    intro m' h1 h2 x hx'
    rw[Ah,zj hlt] at hx'
    rcases zc.mp hx' with q|q
    ·exact zk (hmax x q) h1
    ·simp at q
     rw[q];exact h2
   refine yX (m:=Mv (G9 [vs[i],vs[i]] (DF .Gt vs[i] m>>=λanswer=>G9 [answer] (truthy answer)>>=λyes=>letGo [answer]>>=λZ=>Au yes)) _) (DB (zp (yX ?_)))
   refine hgt (wh s₁ h') ((best,ap [m,m] c)::(I,o')::T) ⟨K.os,K.gens⟩ S' (λp hp=>aj (aj hp)) vs[i] hx m hm (yX (zp (y8 ?_)))
   refine yX (DE ?_)
   refine yY ?_
   by_cases hb':rkv m<rkv vs[i]
   ·rw[decide_eq_true hb']
    refine Bm rfl (yX (upd _ _ S' λh'' c'' S''=>?_))
    refine yX (DE ?_)
    exact yY ⟨Ao mx_plain _,ih (i+1) _ _ o' _ (z9a hk) hlt ho' S'' ⟨K.os,K.gens⟩ (.inr ⟨by exact z64,vs[i],rfl,hx,hmax' _ (Af hb') (zh _)⟩)⟩
   ·rw[decide_eq_false hb']
    refine zx rfl (yX (DE ?_))
    exact yY ⟨Ao mx_plain _,ih (i+1) _ _ o' _ (z9a hk) hlt ho' S' ⟨K.os,K.gens⟩ (.inr ⟨by exact z64,m,rfl,hm,hmax' _ (zh _) (z0c hb')⟩)⟩
end
theorem wa (a u v:Value):CI "max" ⟨[a],[(yW "default", u),(yW "key", v)]⟩:=by unfold CI;kernel_rfl
section
variable{tabs:List ze}{l:LV}{T:LO}{vs:List Value}{n:Nat}{o:AO}
theorem r_max{Q:VP}(hh:A.handled=none)(S:St hb tabs L l ((I,o)::T) s.heap)(ho:bZ o d 0)(hd:(d,ap vs n)∈T)(hz:vs.length<=1000)
  (hgt:∀ (s':y9) (T':LO),Kp s s'->St hb tabs L l T' s'.heap->(∀ p∈T,p∈T')->∀ x∈vs,∀ y∈vs,∀ {E:VP}{Q:VP},Q (.bool (decide (rkv y<rkv x))) s'->y4 (y0 prog w) A.in1 (DF .Gt x y) Q E s')
  (k0:vs=[]->∀ s',Kp s s'->St hb tabs L l T s'.heap->Q Js s')
  (k:∀ s' m,Kp s s'->m∈vs->(∀ x∈vs,rkv x<=rkv m)->St hb tabs L l T s'.heap->Q m s'):y4 (y0 prog w) A (call (.builtin "max") [.ref I] [(yW "default", Js),(yW "key", .none)]) Q E s:=by
 refine kmk_tree PySem.F.kind_max PySem.F.plain_max PySem.F.entry_max (wa _ _ _) (yX (m:=Gq "max" ["key", "default"] 0 ⟨[],[(yW "default", Js),(yW "key", .none)]⟩) (As (show Gq "max" ["key", "default"] 0 ⟨[],[(yW "default", Js),(yW "key", .none)]⟩=Au [some .none,some Js] from rfl) ?_))
 refine yX (yY ?_)
 refine yX (FF (l:=d) (i:=0) ⟨_,S.obj _ m0,ho.1,ho.2⟩ ?_)
 refine yX (EQ ?_ (zA _))
 have ah:=S.push (ap [] 0)
 refine yY ⟨Ao mx_plain _,?_⟩
 by_cases he:vs=[]
 ·subst he
  refine z8 ka (yX (m:=BK (.ref s.heap.objs.size)) (zv (ah.obj _ m0) rfl ?_))
  refine yX (m:=Mv (De (.ref I)) _) (DB ?_)
  exact iT (vs:=[]) (T:=(s.heap.objs.size,ap [] 0)::T) hh (ah.perm (zL _ (zi (l₁:=[(I,o)]) (l₂:=T)))) ho (aj hd) λh' S'=>(yX (AP (yY (k0 rfl _ ⟨rfl,id⟩ (S'.sub (zl _ _))))))
 ·have hpos:0<vs.length:=Gi.mpr he
  refine sJ (s:=s) (rkv:=rkv) hh hpos hz hd hgt (λs' m c K hm hmax S'=>k s' m K hm hmax (S'.sub (zl _ _))) _ 0 [] 0 o _ rfl (zA _) ho ah ⟨rfl,id⟩ (.inl ⟨rfl,rfl⟩)
end
namespace OB
theorem mro:mroOf (.type "object")=Au [.type "object"]:=by rw[mroOf_type];kernel_rfl
theorem oo:BH (.type "object") "__new__" = Au (some (.builtin "object.__new__")):=by rw[Bf,z9];kernel_rfl
theorem called:TypeCalled "object" "object.__new__" "object.__init__" :=
 ⟨by decide +kernel,by decide +kernel,⟨_,_,mro⟩,madeBy_type mro oo (by decide +kernel),by decide +kernel,by rw[AZ];kernel_rfl,PySem.F.slot_object_init⟩
theorem typeCall:checkTypeCall "object" ⟨[],[]⟩=Au ():=by kernel_rfl
theorem newCall:EB "object.__new__" ⟨[.type "object"],[]⟩=Au ():=by kernel_rfl
theorem entry_new:Dm Hb "object.__new__" = some At.«object.__new__»:=BX (by kernel_rfl)
theorem plain_new:FO "object.__new__" = true:=by decide +kernel
theorem made_here:Hv "object.__new__" (.type "object")=Au ():=by
 have sb:LH (.type "object")=Au (.type "object"):=by
  unfold LH
  simp only[mro,pure_bind,Ax,called.made,Option.isSome_some,if_true]
 unfold Hv
 simp only[sb,pure_bind,called.made,Option.map_some,bne_self_eq_false,GI,if_false]
end OB
section
variable{tabs:List ze}{l:LV}{T:LO}{vs:List Value}{n:Nat}
theorem pS{Q:VP}(S:St hb tabs L l T s.heap)(hd:(d,ap vs n)∈T)(h:∀ I h',St hb tabs L l ((I,gV d 0)::T) h'->Q (.ref I) (wh s h')) :
  y4 (y0 prog w) A (call (.builtin "iter") [.ref d]) Q E s:=by
 refine call_function_entry (by decide +kernel) (by decide +kernel) kdk_entry_iter (kdk_args_iter _) (yX (m:=someArgs "iter" 1 2 _) (As (a:=[AG d]) (by first|rfl|kernel_rfl!) ?_))
 refine yX (m:=EI (.ref d)) (B7 (items:=vs.toArray) ⟨_,S.obj _ hd,rfl,n,rfl⟩ ?_)
 exact yY ⟨_,rfl,h _ _ (S.push (gV d 0))⟩
theorem jc {Q₁:VP} (h:Q₁ (.ref s.heap.objs.size) { s with heap:=s.heap.push { cls:=.type "object", data:=.plain } }) :
  zS (y0 prog w) A (.call (.builtin "object.__new__") ⟨[.type "object"],[]⟩) (NG Q₁ E) s:=by
 refine EU ?_
 show y4 _ A.in1 (do EB "object.__new__" ⟨[.type "object"],[]⟩;again (.builtin "object.__new__" ⟨[.type "object"],[]⟩)) _ _ s
 refine yX (As OB.newCall (yY ⟨Ao OB.plain_new _,z8 OB.entry_new ?_⟩))
 refine yX (m:=isType (.type "object")) (As (a:=true) rfl ?_)
 refine zx rfl (zx (by decide +kernel) (yX (As OB.made_here ?_)))
 refine zx (by decide +kernel) (yX (yY ?_))
 refine yX (m:=newObj (Ai "object") Data.plain none) (Aa ?_ (by size_fits))
 exact zx (by decide +kernel) (yY h)
theorem sr {Q:VP} (S:St hb tabs L l T s.heap) (h:∀ u h',St hb tabs L l ((u,(⟨.type "object", none,.plain,#[]⟩:AO))::T) h'->Q (.ref u) (wh s h')) :
  y4 (y0 prog w) A (call (.type "object") []) Q E s:=by
 refine Ml (Q₁:=λobj s₁=>obj=.ref s.heap.objs.size/\s₁ = { s with heap:=s.heap.push { cls:=.type "object", data:=.plain } }) OB.called OB.typeCall PySem.F.entry_object_init (jc ⟨rfl,rfl⟩) λobj s₁ ai=>?_
 obtain⟨rfl,rfl⟩:=ai
 have ah:=S.push (⟨.type "object", none,.plain,#[]⟩:AO)
 refine⟨⟨_,ah.obj _ m0,rfl⟩,PySem.F.args_object_init_1 _,?_⟩
 exact yY ⟨rfl,h _ _ ah⟩
end
section
variable{tabs:List ze}{l lb:LV}{T:LO}{cn:zH}
theorem rp{R:Cg->y9->Prop}{oc:Value}{od:Option ze}{osl:Array (Option Value)}{args:M1}{binds:LV}{body:List Cq}
  (G:Gd K tabs hb) (S:St hb tabs L l T s.heap) (ho:K.lookup fa=some ⟨oc,od,.func fd,osl⟩) (hroom:A.depth<zg)
  (hbind:Fi s fd args binds)
  (h:∀ L' s₁ oL ob,bL oL l->ob.data=.cell (some cv)->Kp s s₁->St hb tabs L' lb ((L'+1,ob)::(L,oL)::T) s₁.heap ->
   y4 (y0 prog w) (A.deeper (zy fd L' fa)) (zY body (zy fd L' fa)) (kFn R)
    (kLv (y0 prog w) (A.deeper (zy fd L' fa)) (zy fd L' fa) R) s₁)
  (hcs:∀ L':ze,DY (L'+1) fd.scope.names []=[(cn,L'+1)])
  (hbL:∀ L':ze,∀ p∈lb,bindL (zy fd L' fa).kindOf binds (λZ=>none) p.1=some p.2) (hbC:∀ L':ze,Nq (zy fd L' fa).kindOf binds (λZ=>none) cn=some cv)
  (hkind:∀ x∈binds,fd.scope.names.lookup x.1=some .local\/(fd.scope.names.lookup x.1=some .cell/\x.1=cn)) (hnd:(lb.map (·.1)).Nodup)
  (hclo:fd.closure=[]:=by kernel_rfl)
  (hft:fa∉tabs:=by decide)
  (hcd:∀ hh:AE,K.In hh->hh.CodeRec fd.code fd.qualname:=by exact crO (by kernel_rfl))
  (hct:(match fd.code with|.ref c=>tabs.contains c|_=>false)=false:=by kernel_rfl)
  (hbody:fd.body=.stmts body:=by kernel_rfl)
  (hco:fd.scope.isCoroutine=false:=by kernel_rfl) (hgen:fd.scope.isGenerator=false:=by kernel_rfl) (hk:fd.scope.kind=.function:=by kernel_rfl) :
  zS (y0 prog w) A (.call (.ref fa) args) R s:=by
 have hcr:s.heap.CodeRec fd.code fd.qualname:=by
  obtain⟨c,o,vs,t,e1,e2,e3,e4⟩:=hcd hb G.k
  refine⟨c,o,vs,t,e1,S.old e2 (λq=>?_),e3,e4⟩
  rw[e1] at hct
  have hct':tabs.contains c=false:=hct
  rw[AV.mpr q] at hct'
  nomatch hct'
 refine FG hroom (S.old (G.k _ _ ho) hft) rfl hco hgen hbody hcr ?_
 rw[hclo]
 refine hbind _ _ _ _ (Er hk (λx hx=>?_) λenv he s' x=>?_)
 ·rcases hkind x hx with q|⟨q,e⟩
  ·exact .inl q
  ·refine .inr ⟨q,?_⟩
   rw[hcs,e]
   simp[Ld]
 subst he
 refine⟨(S.lim G).keeps x.toInCall.keep,Ko ?_⟩
 have hcell:=x.cell cn (s.heap.objs.size+1) (by
  show (DY (s.heap.objs.size+1) fd.scope.names []).lookup cn=_
  rw[hcs];simp[Ld])
 obtain⟨ob,hob,hobd⟩:=hcell
 have e2:Nq (M7 fd.scope s.heap.objs.size fd.globals (DY (s.heap.objs.size+1) fd.scope.names []) (fd.qualname ++ ".<locals>.") (some fa) fd.code none fd.builtins).kindOf binds (λZ=>none) cn=some cv:=hbC _
 rw[e2] at hobd
 have hfm:Fm s'.heap s.heap.objs.size lb:=Fm.of_ns x.toInCall.ns (λp hp=>hbL s.heap.objs.size p hp) hnd
 obtain⟨oL,r,S'⟩:=S.enter (L':=s.heap.objs.size) rfl hfm x.toInCall.keep
 obtain⟨hh,tk,hsame⟩:=x.toInCall.same
 have K':Kp s s':=by rw[hsame];exact⟨rfl,id⟩
 refine h s.heap.objs.size s' oL ob r hobd K' ⟨S'.fm,S'.lnew,S'.keep,S'.tab,λp hp=>?_,λp hp=>?_,?_⟩
 ·rcases y7.mp hp with rfl|hp
  ·exact hob
  ·exact S'.obj p hp
 ·rcases y7.mp hp with rfl|hp
  ·exact zk S'.lnew (C2 _)
  ·exact S'.new p hp
 ·have nd:=zr.mp S'.nd
  have hL:L<s.heap.objs.size:=S.fm.lt
  refine zr.mpr ⟨λq=>?_,zr.mpr ⟨λq=>?_,nd.2⟩⟩
  ·rcases y7.mp q with q|q
   ·exact Aj _ (GU (Be _) q.symm)
   ·exact nd.1 q
  ·rcases y7.mp q with q|q
   ·exact Aj _ (Cw (GU (Be _) q) hL)
   ·obtain⟨p,hp,e⟩:=za.mp q
    have hpl:=S.lt hp
    exact Aj _ (Cw (GU (Be _) e.symm) hpl)
end
section
variable{tabs:List ze}{l:LV}{T:LO}{x:zH}{v:Value}{pos:Ef}
theorem cH{Q:VP}(G:Gd K tabs hb)(S:St hb tabs L l T s.heap)(e:Nh K Bl x=some (some v))(h:Q v s)
  (c:wM env.scope (env.kindOf x) x env.globals=true:=by kernel_rfl):y4 (y0 prog w) A (Aq (.Name x pos) env) Q E s:=by
 obtain⟨hk,hl,hd,hg⟩:=ko c
 obtain⟨mg,a⟩:=G.mg
 refine Ej hk hl (J1 (mg:=mg) ?_ (mg_of G.k a e) h) hd
 rw[hg];exact S.oldNs a G.n1
theorem dZ{Q:VP}(G:Gd K tabs hb)(S:St hb tabs L l T s.heap)(hv:Bi x=some v)(h:Q v s)
  (c:xb K env.scope (env.kindOf x) x env.globals env.builtins=true:=by kernel_rfl):y4 (y0 prog w) A (Aq (.Name x pos) env) Q E s:=by
 obtain⟨c,hn,hbi,e⟩:=rx c
 obtain⟨hk,hl,hd,hg⟩:=ko c
 obtain⟨mg,a⟩:=G.mg
 obtain⟨mb,b,c⟩:=G.bl
 refine Ej hk hl (JI (mg:=mg) (mb:=mb) ?_ (mg_none_of G.k a e) ?_ ((c x (beq_eq_false_iff_ne.mp hn)).trans hv) h) hd
 ·rw[hg];exact S.oldNs a G.n1
 ·rw[hbi];exact S.oldNs b G.n2
noncomputable def celB (sc:Dx) (k:Option EN) (x:zH):Bool:=sc.kind==.function&&(k==some .cell&&!(x==("__debug__" : zH)))
theorem mr {sc:Dx}{k:Option EN}{x:zH} (h:celB sc k x=true):sc.kind=.function/\k=some .cell/\(x==("__debug__" : zH))=false:=by
 obtain⟨a,h⟩:=zo.mp h
 obtain⟨b,h⟩:=zo.mp h
 exact⟨Ap a,Ap b,by simpa using h⟩
theorem bI{Q:VP}{c:ze}{ob:AO}(S:St hb tabs L l T s.heap)(hm:(c,ob)∈T)(hob:ob.data=.cell (some v))(h:Q v s)
  (hk:celB env.scope (env.kindOf x) x=true:=by kernel_rfl) (hc:env.cells.lookup x=some c:=by rfl):y4 (y0 prog w) A (Aq (.Name x pos) env) Q E s :=
 HZ (wpAny_loadName_cell (mr hk).1 (mr hk).2.1 hc ⟨ob,S.obj _ hm,hob⟩ h) (mr hk).2.2
theorem oM{id:String}{args:List Expr}{p1:Ef}{Q:VP}(G:Gd K tabs hb)(S:St hb tabs L l T s.heap)(hv:Bi x=some (.builtin id))(h:y4 (y0 prog w) A (CD (Ci pos (AI args env))) (kBi (y0 prog w) A E id [] Q) E s)
  (c:xb K env.scope (env.kindOf x) x env.globals env.builtins=true:=by kernel_rfl) (hp:(Ci pos (AI args env)).any (·.1)=false:=by rfl):y4 (y0 prog w) A (Aq (.Call (.Name x p1) args [] pos) env) Q E s :=
 bW (dZ G S hv (aI h hp) c)
theorem uT{id:String}{args:List Expr}{p1:Ef}{Q:VP}(G:Gd K tabs hb)(S:St hb tabs L l T s.heap)(hv:Bi x=some (.type id))(h:y4 (y0 prog w) A (CD (Ci pos (AI args env))) (kTy (y0 prog w) A E id [] Q) E s)
  (c:xb K env.scope (env.kindOf x) x env.globals env.builtins=true:=by kernel_rfl) (hp:(Ci pos (AI args env)).any (·.1)=false:=by rfl):y4 (y0 prog w) A (Aq (.Call (.Name x p1) args [] pos) env) Q E s :=
 bW (dZ G S hv (q6 h hp) c)
theorem uU{args:List Expr}{p1:Ef}{Q:VP}(G:Gd K tabs hb)(S:St hb tabs L l T s.heap)(e:Nh K Bl x=some (some v))(h:y4 (y0 prog w) A (CD (Ci pos (AI args env))) (kRef (y0 prog w) A E hb tabs v [] Q) E s)
  (c:wM env.scope (env.kindOf x) x env.globals=true:=by kernel_rfl) (hk:Nw K v=true:=by kernel_rfl) (hp:(Ci pos (AI args env)).any (·.1)=false:=by rfl):y4 (y0 prog w) A (Aq (.Call (.Name x p1) args [] pos) env) Q E s :=
 bW (cH G S e (cS G h hk hp) c)
end
theorem jN:Bi (yW "iter")=some (.builtin "iter"):=by kernel_rfl
theorem lA:Bi (yW "object")=some (.type "object"):=by kernel_rfl
theorem ru:Bi (yW "max")=some (.builtin "max"):=by kernel_rfl
theorem eD{Q:VP}{f:Expr}{args:List Expr}{kws:List Keyword}{pos:Ef}(h:y4 (y0 prog w) A (Aq f env) (λfv s₁=>y4 (y0 prog w) A (DS pos fv [] (Ci pos (AI args env)) (DT pos (Cz kws env))) Q E s₁) E s)
  (he:Aq (.Call f args kws pos) env=(do
   let fv <- Aq f env
   DS pos fv [] (Ci pos (AI args env)) (DT pos (Cz kws env))):=by rfl) :
  y4 (y0 prog w) A (Aq (.Call f args kws pos) env) Q E s:=by
 rw[he]
 exact yX h
section
variable{T:LO}{l:LV}{Es:List Sc}{n:Nat}
noncomputable abbrev dO(w:Am)(L':ze):ID:=zy (aO w.params) L' 280
theorem yv{prog:Bh}{w:Am}{A:AR}{E:VP}{s:y9}{u:ze}{Q:VP}(h:Q (.bool true) s):y4 (y0 prog w) A (AF .Is (.ref u) (.ref u)) Q E s:=by
 exact yX (bX (by simp) (yY (yY h)))
theorem yu {prog:Bh}{w:Am}{A:AR}{E:VP}{s:y9}{a u:ze}{vs:List Value}{Q:VP} (hne:a≠u) (ha:s.heap.get? a=some (aG vs)) (hu:s.heap.get? u=some (⟨.type "object", none,.plain,#[]⟩:AO)) (h:Q (.bool false) s):y4 (y0 prog w) A (AF .Is (.ref a) (.ref u)) Q E s:=by
 refine yX (aQ (by simpa using hne) (yX (Dr ha (yX (Dr hu ?_)))))
 exact yY (yY h)
theorem oQ{e:Sc}{Es:List Sc}{rk:UInt64->List zH->Nat}(he:e∈Es)(hmax:∀ e'∈Es,rkS rk e'<=rkS rk e):∃ P:List Sc,(e::P).Perm Es/\(e::P).Pairwise (λa b=>rkS rk b<=rkS rk a):=by
 obtain⟨l1,l2,rfl⟩:=GV he
 refine⟨(l1++l2).mergeSort (λa b=>decide (rkS rk b<=rkS rk a)),?_,?_⟩
 ·exact (zL e (EK _ _)).trans zs.symm
 ·refine DM.mpr ⟨λb hb=>hmax b ?_,?_⟩
  ·have:=(EK (l1++l2) _).mem_iff.mp hb
   rcases zc.mp this with q|q
   ·exact y5 _ q
   ·exact yZ _ (aj q)
  ·have:=HO (le:=λa b:Sc=>decide (rkS rk b<=rkS rk a)) (λa b c h1 h2=>by simp at *;exact z1r h1 h2) (λa b=>by simp;exact z1s) (l1++l2)
   exact this.imp λh=>by simpa using h
theorem xC{e e':Sc}{l':LV}{L':ze}{T':LO}{Q:VP}(G:GK w hb)(hu:A.units+1<Aw)(S:St hb tabs L' l' T' s.heap)(hS:SXk T' Es)(hT:kJ Es)(hR:kK rk Es)(he:e∈Es)(he':e'∈Es)
  (h:Q (.bool (decide (rkS rk e'<rkS rk e))) s):y4 (y0 pw w) A (AF .Gt (.ref e.a) (.ref e'.a)) Q E s :=
 sc_gt hu (S.nb G) hT hR he he' (S.sc (hS e he)) (S.sc (hS e' he')) h
theorem x0(G:GK w hb)(S:St hb tabs L l T s.heap)(hd:A.depth+20<zg)(hu:A.units+100<Aw)(hh:A.handled=none)(hm:(res,ap (aB Es) nr)∈T)(hS:SXk T Es)(hT:kJ Es)(hl:Es.length<=60)(hR:kK rk Es)
  (rkv:Value->Nat) (hrkv:∀ e∈Es,rkv (.ref e.a)=rkS rk e)
  (k:∀ (s':y9) (X:LO) (r:ze) (nr':Nat) (P:List Sc),Kp s s'->St hb tabs L l ((r,ap (aB (P.take 1)) nr')::(X++T)) s'.heap->P.Perm Es->P.Pairwise (λa b=>rkS rk b<=rkS rk a)->R (.ok (.ret (.ref r))) s') :
  zS (y0 pw w) A (.call (.ref 280) ⟨[.int 1 tn,.ref res],[]⟩) R s:=by
 refine rp (lb:=[(yW "n", .int 1 tn),(yW "iterable", .ref res)]) (cn:=yW "key") (cv:=.none) G S (ye _) (dn 20 hd) (binds:=[(yW "n", .int 1 tn),(yW "iterable", .ref res),(yW "key", .none)]) (body:=aD (st1 pw 8))
  (Bx (o:=o275 w.params) rfl (S.kin G 275 _ (by kernel_rfl)) rfl rfl rfl) ?_ (λL'=>by kernel_rfl) (λL' p hp=>by rcases y7.mp hp with rfl|hp;rfl;rw[y6] at hp;subst hp;rfl) (λL'=>rfl)
  (λy hy=>by rcases y7.mp hy with rfl|hy;exact .inl (by kernel_rfl);rcases y7.mp hy with rfl|hy;exact .inl (by kernel_rfl);rw[y6] at hy;subst hy;exact .inr ⟨by kernel_rfl,rfl⟩) (dF (by kernel_rfl))
 refine λL' s₁ oL ob r hob ar S'=>dA (au (env:=zy (aO w.params) L' 280) S' m0 (wpAny_Constant_int (P.eq_int (y8 ⟨λZ=>?_,nofun⟩))))
 refine aC (oM G S' jN (aln (env:=zy (aO w.params) L' 280) S' m1 (pS S' (aj (aj hm)) ?_)))
 refine λI am af=>aT (env:=zy (aO w.params) L' 280) af (.new (by kernel_rfl)) (λak ae=>aC (uT G ae lA (zn (sr ae ?_))))
 refine λu aw S4=>aT (env:=zy (aO w.params) L' 280) S4 (.new (by kernel_rfl)) (λay S5=>restate S5 λs5 K5 S5=>?_)
 replace K5:Kp s s5:=kt ar K5
 refine aC (eD (dZ G S5 ru (Lo (aln (env:=zy (aO w.params) L' 280) S5 m1 (Et (au (env:=zy (aO w.params) L' 280) S5 m0 (Et ?_)))))))
 refine bI S5 m2 hob (Jp ?_)
 have hI:(res,ap (aB Es) nr)∈(u,(⟨.type "object", none,.plain,#[]⟩:AO))::(L'+1,ob)::(L,oL)::T:=aj (aj (aj hm))
 have S6:=S5.perm (T':=(I,gV res 0)::(u,(⟨.type "object", none,.plain,#[]⟩:AO))::(L'+1,ob)::(L,oL)::T) (AJ _ _ _)
 have fin:∀ (s':y9) (v:Value) {E':VP}{Q':FP},(∀ v s',R (.ok (.ret v)) s'->Q' (.ret v) s')->Kp s s'->St hb tabs L' [(yW "sentinel", .ref u),(yW "it", .ref I),(yW "n", .int 1 tn),(yW "iterable", .ref res)] ((u,(⟨.type "object", none,.plain,#[]⟩:AO))::(L'+1,ob)::(L,oL)::T) s'.heap ->
   (Es=[]/\v=.ref u\/∃ e∈Es,v=.ref e.a/\∀ e'∈Es,rkS rk e'<=rkS rk e) ->
   y4 (y0 pw w) (A.deeper (zy (aO w.params) L' 280)) (E9 (zy (aO w.params) L' 280) (yW "result") v) (λZ ag=>y4 (y0 pw w) (A.deeper (zy (aO w.params) L' 280)) (zY ((aD (((aD (st1 pw 8))[0]?).getD AA)).drop 3) (zy (aO w.params) L' 280)) Q' E' ag) E' s':=by
  intro s' v E' Q' hq K' S' hv
  have nd:=(zr.mp (zr.mp S'.nd).2).1
  refine aT (env:=zy (aO w.params) L' 280) S' (.new (by kernel_rfl)) (λba S7=>restate S7 λs7 K7 S7=>?_)
  replace K7:Kp s s7:=kt K' K7
  refine cP (IfExp_ (wpAny_isTrue_Compare1 (au (env:=zy (aO w.params) L' 280) S7 m0 (au (env:=zy (aO w.params) L' 280) S7 m1 ?_))))
  rcases hv with⟨rfl,rfl⟩|⟨e,he,rfl,hmax⟩
  ·refine yv (y8 (bF (zn ⟨rfl,_,_,_,_,_,S7,?_⟩)))
   refine λd' bc S8=>hq _ _ ?_
   have S9:=S8.perm (T':=(L,oL)::(d',ap [] 0)::([(u,(⟨.type "object", none,.plain,#[]⟩:AO)),(L'+1,ob)]++T)) (by
    exact zs (l₁:=[(d',ap [] 0),(u,(⟨.type "object", none,.plain,#[]⟩:AO)),(L'+1,ob)]))
   exact k _ [(u,(⟨.type "object", none,.plain,#[]⟩:AO)),(L'+1,ob)] d' 0 [] ⟨K7.os,K7.gens⟩ (S9.leave 0 rfl r) (BE _) Kq
  ·have hne:e.a≠u:=λq=>nd (by
    exact za.mpr ⟨(e.a,aG [.float e.f e.ft,e.x.v]),aj (aj (hS e he).1),q⟩)
   refine yu hne (S7.obj _ (aj (aj (aj (hS e he).1)))) (S7.obj _ m0) (y8 (bF (aln (env:=zy (aO w.params) L' 280) S7 m0 ⟨rfl,_,_,_,_,_,S7,?_⟩)))
   refine λd' bc S8=>hq _ _ ?_
   obtain⟨P,hp,hpw⟩:=oQ he hmax
   have S9:=S8.perm (T':=(L,oL)::(d',ap [.ref e.a] 0)::([(u,(⟨.type "object", none,.plain,#[]⟩:AO)),(L'+1,ob)]++T)) (by
    exact zs (l₁:=[(d',ap [.ref e.a] 0),(u,(⟨.type "object", none,.plain,#[]⟩:AO)),(L'+1,ob)]))
   exact k _ [(u,(⟨.type "object", none,.plain,#[]⟩:AO)),(L'+1,ob)] d' 0 (e::P) ⟨K7.os,K7.gens⟩ (S9.leave 0 rfl r) hp hpw
 refine r_max (A:=A.deeper (zy (aO w.params) L' 280)) (rkv:=rkv) (vs:=aB Es) (d:=res) hh S6 ⟨rfl,rfl⟩ hI (by rw[aJ];exact up 940 hl) ?_ ?_ ?_
 ·intro s' T' K' S' hin x hx y hy E Q hq
  obtain⟨e,he,rfl⟩:=za.mp hx
  obtain⟨e',he',rfl⟩:=za.mp hy
  rw[hrkv e he,hrkv e' he'] at hq
  exact xC G (by show A.units+3+1+1<Aw;exact dn 95 hu) S' (hS.mono λp hp=>hin _ (aj (aj (aj hp)))) hT hR he he' hq
 ·intro he s' K' S'
  have hE:Es=[]:=by simpa [aB] using he
  exact fin s' _ (λv s' h=>h) (kt K5 K') S' (.inl ⟨hE,rfl⟩)
 ·intro s' m K' hm' hmax S'
  obtain⟨e,he,rfl⟩:=za.mp hm'
  refine fin s' _ (λv s' h=>h) (kt K5 K') S' (.inr ⟨e,he,rfl,λe' he'=>?_⟩)
  have:=hmax (.ref e'.a) (za.mpr ⟨e',he',rfl⟩)
  rw[hrkv e he,hrkv e' he'] at this
  exact this
end
theorem q_try{body orelse:List Cq}{h₀:ExceptHandler}{hs:List ExceptHandler}{rest:List Cq}{pos:Ef}{Q:FP}
  (h:∀ {E':VP},y4 (y0 prog w) A (zY body env) (λf s₁=>f=.next/\y4 (y0 prog w) A (zY orelse env) (λf ag=>match f with|.next=>y4 (y0 prog w) A (zY rest env) Q E ag|f=>Q f ag) E s₁) E' s) :
  y4 (y0 prog w) A (zY (.Try body (h₀::hs) orelse [] pos::rest) env) Q E s:=by
 refine zZ (KU (zf h (λf s₁ z=>?_) λZ Z z=>z))
 obtain⟨rfl,z⟩:=z
 exact z
noncomputable def nlS:List Cq:=aD (((orB (((aD (st1 pw 8))[1]?).getD AA))[0]?).getD AA)
section
variable{T:LO}{l:LV}{Es:List Sc}{n:Nat}
theorem v9(G:GK w hb)(S:St hb tabs L l T s.heap)(hd:A.depth+20<zg)(hu:A.units+100<Aw)(hh:A.handled=none)(hm:(res,ap (aB Es) nr)∈T)(hl:Es.length<=60)(hn1:n≠1)
  (kbig:Es.length<=n->∀ (L':ze) (s₁:y9) (oL ob:AO) (ts:AN) {Q:FP}{E':VP},(∀ v s',R (.ok (.ret v)) s'->Q (.ret v) s')->bL oL l->ob.data=.cell (some .none)->Kp s s₁ ->
   St hb tabs L' [(yW "size", .int Es.length ts),(yW "n", .int n tn),(yW "iterable", .ref res)] ((L'+1,ob)::(L,oL)::T) s₁.heap ->
   y4 (y0 pw w) (A.deeper (dO w L')) (zY nlS (dO w L')) Q E' s₁)
  (kheap:n<Es.length->∀ (L':ze) (s₁:y9) (oL ob:AO) (ts:AN),bL oL l->ob.data=.cell (some .none)->Kp s s₁ ->
   St hb tabs L' [(yW "size", .int Es.length ts),(yW "n", .int n tn),(yW "iterable", .ref res)] ((L'+1,ob)::(L,oL)::T) s₁.heap ->
   y4 (y0 pw w) (A.deeper (dO w L')) (zY ((aD (st1 pw 8)).drop 2) (dO w L')) (kFn R)
    (kLv (y0 pw w) (A.deeper (dO w L')) (dO w L') R) s₁) :
  zS (y0 pw w) A (.call (.ref 280) ⟨[.int n tn,.ref res],[]⟩) R s:=by
 refine rp (lb:=[(yW "n", .int n tn),(yW "iterable", .ref res)]) (cn:=yW "key") (cv:=.none) G S (ye _) (dn 20 hd) (binds:=[(yW "n", .int n tn),(yW "iterable", .ref res),(yW "key", .none)]) (body:=aD (st1 pw 8))
  (Bx (o:=o275 w.params) rfl (S.kin G 275 _ (by kernel_rfl)) rfl rfl rfl) ?_ (λL'=>by kernel_rfl) (λL' p hp=>by rcases y7.mp hp with rfl|hp;rfl;rw[y6] at hp;subst hp;rfl) (λL'=>rfl)
  (λy hy=>by rcases y7.mp hy with rfl|hy;exact .inl (by kernel_rfl);rcases y7.mp hy with rfl|hy;exact .inl (by kernel_rfl);rw[y6] at hy;subst hy;exact .inr ⟨by kernel_rfl,rfl⟩) (dF (by kernel_rfl))
 refine λL' s₁ oL ob r hob ar S'=>dA (au (env:=zy (aO w.params) L' 280) S' m0 (wpAny_Constant_int (P.eq_int (y8 ⟨λq=>absurd (Ap q) (z1w hn1),λZ=>?_⟩))))
 refine aF (q_try ?_)
 intro E'
 refine aC (oM G S' B0 (aln (env:=zy (aO w.params) L' 280) S' m1 (B9 (items:=(aB Es).toArray) ⟨_,S'.obj _ (aj (aj hm)),rfl,nr,rfl⟩ (by rw[zd,aJ];lia) ?_)))
 rw[zd,aJ]
 refine aT (env:=zy (aO w.params) L' 280) S' (.new (by kernel_rfl)) (λam af=>restate af λag ao af=>?_)
 replace ao:Kp s ag:=kt ar ao
 refine aF ⟨rfl,?_⟩
 refine dA (au (env:=zy (aO w.params) L' 280) af m1 (au (env:=zy (aO w.params) L' 280) af m0 (P.ge_int (y8 ⟨λq=>?_,λq=>?_⟩))))
 ·have hge:Es.length<=n:=by have:=of_decide_eq_true q;exact z1y q
  exact kbig hge L' ag oL ob _ (λv s' h=>h) r hob ao af
 ·have hlt:n<Es.length:=by have:=of_decide_eq_false q;exact z1z q
  have h:=kheap hlt L' ag oL ob _ r hob ao af
  exact aF (aF h)
end
section
open PySem.Spec
theorem vJ{rkv:Value->Nat}{vs:List Value}{p:Array Nat}(hp:Pm vs.length p)(hs:aS (λi=>rkv (vs.reverse.getD i .none)) p vs.length) :
  (p.toList.map λi=>vs.reverse.getD i .none).reverse.Perm vs/\(p.toList.map λi=>vs.reverse.getD i .none).reverse.Pairwise (λa b=>rkv b<=rkv a):=by
 refine⟨(Ed _).trans ((perm_of (l:=vs.reverse) (by rw[CZ];exact hp)).trans (Ed _)),?_⟩
 rw[List.pairwise_reverse,EG]
 intro i j hi hj hij
 rw[zb,Ba] at hi hj
 have h:=hs i j (z2f hij) (by rw[<- hp.size];exact hj)
 unfold Rk at h
 rw[DD,DD,Eu,Eu]
 have e1:p.getD i 0=p[i]:=by simp[GF,hi]
 have e2:p.getD j 0=p[j]:=by simp[GF,hj]
 rw[e1,e2] at h
 exact h
section
variable{tabs:List ze}{l:LV}{T:LO}{vs:List Value}{n:Nat}
theorem mS{α:Type}{R:α->α->Prop}{l:List α}(h:¬ 2<=l.length):l.Pairwise R:=by
 rcases l with _|⟨a,_|⟨b,l⟩⟩
 ·exact .nil
 ·exact List.pairwise_singleton _ _
 ·exact absurd (by simp) h
theorem iy{Q:KO->y9->Prop}(rkv:Value->Nat)(S:St hb tabs L l ((d,ap vs n)::T) s.heap)(h64:vs.length<64)
  (hkind:2<=vs.length->∀ (s':y9) T' {Q:L5->y9->Prop}{E:VP},St hb tabs L l T' s'.heap->(∀ p∈T,p∈T')->Q κ s'->y4 (y0 prog w) A (Mm vs.toArray) Q E s')
  (hlt:∀ (s':y9) T',Kp s s'->St hb tabs L l T' s'.heap->(∀ p∈T,p∈T')->∀ x∈vs,∀ y∈vs,∀ C:BP,C (decide (rkv x<rkv y)) s' ->
   y4 (y0 prog w) A (IY κ x y) C (λZ Z=>False) s')
  (k:∀ s' n' vs',Kp s s'->vs'.Perm vs->vs'.Pairwise (λa b=>rkv b<=rkv a)->St hb tabs L l ((d,ap vs' n')::T) s'.heap->Q (.done (.ret .none)) s') :
  y4 (y0 prog w) A (dT d) Q E s:=by
 by_cases h2:2<=vs.length
 ·refine nT (H:=True) (rk:=λi=>rkv (vs.reverse.getD i .none)) S h2 h64 (hkind h2) (λs' T' K' S' hin i j hi hj C hC=>?_) λs' n' p K' hpm hso S'=>?_
  ·have mem:∀ i,i<vs.length->vs.reverse.getD i .none∈vs:=λi hi=>by
    have hi':i<vs.reverse.length:=by rw[CZ];exact hi
    have e:vs.reverse.getD i .none=vs.reverse[i]:=by rw[Bg,zj hi'];rfl
    rw[e]
    exact FJ.mp (z5 hi')
   exact hlt s' T' K' S' hin _ (mem i hi) _ (mem j hj) C (hC _ s'.toks λZ=>rfl)
  ·obtain⟨a,b⟩:=vJ hpm (hso trivial)
   exact k s' n' _ K' a b S'
 ·refine jQ S (z0d h2) λh' n' S'=>(k (wh s h') n' vs ⟨rfl,id⟩ (BE _) ?_ S')
  exact mS h2
theorem iG{kw:LV}{Q:VP}(rkv:Value->Nat)(S:St hb tabs L l T s.heap)(hd:(d,ap vs n)∈T)(h64:vs.length<64)
  (ha1:CI "sorted" ⟨[.ref d],kw⟩) (ha2:∀ x,CI "list.sort" ⟨[.ref x],kw⟩) (ht:∀ x,At.«list.sort» ⟨[.ref x],kw⟩=dT x)
  (hkind:2<=vs.length->∀ (s':y9) T' {Q:L5->y9->Prop}{E:VP},St hb tabs L l T' s'.heap->(∀ p∈T,p∈T')->Q κ s'->y4 (y0 prog w) A.in1.in1 (Mm vs.toArray) Q E s')
  (hlt:∀ (s':y9) T',Kp s s'->St hb tabs L l T' s'.heap->(∀ p∈T,p∈T')->∀ x∈vs,∀ y∈vs,∀ C:BP,C (decide (rkv x<rkv y)) s' ->
   y4 (y0 prog w) A.in1.in1 (IY κ x y) C (λZ Z=>False) s')
  (k:∀ s' D n' vs' X,Kp s s'->vs'.Perm vs->vs'.Pairwise (λa b=>rkv b<=rkv a)->St hb tabs L l ((D,ap vs' n')::(X++T)) s'.heap->Q (.ref D) s') :
  y4 (y0 prog w) A (call (.builtin "sorted") [.ref d] kw) Q E s:=by
 exact lP S hd (ul 936 h64) ha1 ha2 ht λD tmp c h' S'=>(iy (κ:=κ) rkv (s:=(wh s h')) S' h64 (λh2 s' T' {Q E} S'' hin hq=>hkind h2 s' T' S'' (λp hp=>hin p (aj hp)) hq) (λs' T' K' S'' hin=>hlt s' T' ⟨K'.os,K'.gens⟩ S'' λp hp=>hin p (aj hp)) λs' n' vs' K' hp hw S''=>⟨_,rfl,k s' D n' vs' [(tmp,ap vs c)] ⟨K'.os,K'.gens⟩ hp hw S''⟩)
theorem cF{env:ID}{value:Expr}{lower upper:Option Expr}{p pos:Ef}{Q:VP}
  (h:y4 (y0 prog w) A (Aq value env) (λo s₁=>y4 (y0 prog w) A (Aq (.Slice lower upper none p) env) (λi ag=>ag.TypeIs o "list" /\ y4 (y0 prog w) A (Dc o i) Q E ag) E s₁) E s) :
  y4 (y0 prog w) A (Aq (.Subscript value (.Slice lower upper none p) pos) env) Q E s:=by
 refine yX (zf h (λo s₁ ai=>yX (zp (zf ai (λi ag am=>yX (CO ?_)) λZ Z x=>x)))
  λZ Z x=>x)
 have fin:y4 (y0 prog w) A (J5 [i,o] (Dc o i)) (λr s3=>y4 (y0 prog w) A (Fj value o r>>=λZ=>Au r) Q E s3) E ag :=
  F8 (zf am.2 (λr s3 ak=>yX (Ep (yY ak))) λZ Z x=>x)
 refine yX (yX (BS am.1 Bb ?_))
 first
  | exact yY (yX fin)
  | exact yX (yY (yX fin))
  | exact yX fin
theorem gE{Q:VP}{env:ID}{value e:Expr}{p pos:Ef}
  (h:y4 (y0 prog w) A (Aq value env) (λo s₁=>y4 (y0 prog w) A (Aq e env) (λvu ag=>Ex8 λL l T d vs n b tb=>An6 (o=.ref d) (vu=.int ((b:Nat):Int) tb) (St hb tabs L l T ag.heap) ((d,ap vs n)∈T) (vs.length<=1000) (∀ D X h',St hb tabs L l ((D,ap (vs.take b) 0)::(X++T)) h'->Q (.ref D) (wh ag h'))) E s₁) E s) :
  y4 (y0 prog w) A (Aq (.Subscript value (.Slice none (some e) none p) pos) env) Q E s:=by
 refine cF (zf h (λo s₁ ai=>?_) λZ Z e=>e)
 refine FW ?_
 rw[DZ]
 refine yY ?_
 rw[Hz]
 refine zf ai (λvu ag am=>?_) λZ Z e=>e
 obtain⟨L,l,T,d,vs,n,b,tb,rfl,rfl,S,hm,hz,hQ⟩:=am
 refine yY ?_
 have hl:ag.heap.IsList d vs.toArray:=⟨_,S.obj _ hm,rfl,n,rfl⟩
 have ah:=(S.push { cls:=.type "slice", data:=.fields #[.none,.int ((b:Nat):Int) tb,.none] }).push { cls:=.type "list", data:=.seq (Gv vs.toArray none (some ((b:Nat):Int)) none) }
 rw[Gc _ _] at ah
 refine⟨(hl.push _).typeIs,Dv (hl.push _) (DO ..) .none (.int _ _) .none (by simp) ?_ (by rw[zw,zd];exact up 16776216 hz)⟩
 rw[Gc _ _]
 exact hQ _ [(_,_)] _ ah
end
theorem iP{prog:Bh}{w:Am}{A:AR}{E:VP}{s:y9}{a b:UInt64}{t u:AN}{Q:BP}(h:Q (zV a b==some Ordering.lt) s):y4 (y0 prog w) A (oneLt' true (.float a t) (.float b u)) Q E s:=by
 refine yX (wpAny_cRoomFor_byValue rfl ?_)
 refine yX (wpAny_callSpecialIfBound?_slot (B3 s a t) LI (call_gives LI (B3 s a t) F.entry_float_lt (F.args_float_lt_2 _ _) (I8 a t b u) ?_))
 exact y8 h
theorem sc_tups{h:AE}:∀ {Es:List Sc},(∀ e∈Es,h.get? e.a=some (aG [.float e.f e.ft,e.x.v]))->KatTups h (aB Es) (Es.map λe=>.float e.f e.ft):=by
 intro Es
 induction Es with
 | nil =>
  intro Z
  exact .nil
 | cons e r ih =>
  intro hS
  exact .cons (hS e (.head _)) rfl rfl rfl (ih λe' he'=>hS e' (aj he'))
section
variable{Es:List Sc}
theorem uv{e e':Sc}{Q:BP}(hu:A.units+3<Aw)(NB:B4 s.heap)(hT:kJ Es)(hR:kK rk Es)(he:e∈Es)(he':e'∈Es)(ha:ScH s.heap e)(hb':ScH s.heap e')
  (h:Q (decide (rkS rk e<rkS rk e')) s):y4 (y0 pw w) A (IY (LZ true) (.ref e.a) (.ref e'.a)) Q E s:=by
 have hself:(zV e.f e.f==some Ordering.eq)=true:=(zo.mp ((hR e he e he).1.mpr rfl)).1
 obtain⟨r1,r2,r3,r4,r5,r6⟩:=hR e he e' he'
 refine kat_lt ha.1 rfl hb'.1 rfl (Mw (dC NB (hT e he).1 (hT e' he').1 (λq=>(hT e he).2 e' he' q) hself (NC (λq=>?_) (λq=>?_))))
 ·refine M8 (Mw (kL (dn 3 hu) ha.2 hb'.2 r6 (NC (λq2=>?_) (λq2=>?_))))
  ·have:rkS rk e=rkS rk e':=r1.mp (by rw[q,q2];rfl)
   rw[show decide (rkS rk e<rkS rk e')=false from decide_eq_false (this▸Aj _)] at h
   exact M8 (kat_nil h)
  ·refine ND (kat_one _ _ (xm (dn 3 hu) ha.2 hb'.2 r6 ?_))
   rw[jh (r3 q)]
   exact h
 ·refine ND (iP ?_)
  rw[jh (r2 q)]
  exact h
end
theorem eA:Bi (yW "sorted")=some (.builtin "sorted"):=by kernel_rfl
theorem bO{α β:Type}(f:α->β):∀ {vs:List β}{Es:List α},vs.Perm (Es.map f)->∃ P:List α,vs=P.map f/\P.Perm Es:=by
 intro vs Es h
 generalize hr:Es.map f=l at h
 induction h generalizing Es with
 | nil =>
  have:Es=[]:=by simpa using hr
  subst this
  exact⟨[],rfl,BE _⟩
 | cons x h ih =>
  obtain⟨e,r,rfl,rfl,h1⟩:=FX.mp hr
  obtain⟨P,rfl,hp⟩:=ih h1
  exact⟨e::P,rfl,hp.cons e⟩
 | swap x y l =>
  obtain⟨e,r,rfl,rfl,h1⟩:=FX.mp hr
  obtain⟨e',r,rfl,rfl,rfl⟩:=FX.mp h1
  exact⟨e'::e::r,rfl,AJ _ _ _⟩
 | trans h1 h2 ih1 ih2 =>
  obtain⟨P2,hP2,hp2⟩:=ih2 hr
  obtain⟨P1,hP1,hp1⟩:=ih1 hP2.symm
  exact⟨P1,hP1,hp1.trans hp2⟩
theorem qi{vs:List Value}{Es:List Sc}(h:vs.Perm (aB Es)):∃ P:List Sc,vs=aB P/\P.Perm Es:=bO _ h
theorem xX{rk:UInt64->List zH->Nat}{rkv:Value->Nat}{P:List Sc}(hr:∀ e∈P,rkv (.ref e.a)=rkS rk e)(h:(aB P).Pairwise λa b=>rkv b<=rkv a):P.Pairwise λa b=>rkS rk b<=rkS rk a:=by
 unfold aB at h
 rw[AT] at h
 refine ES ?_ h
 intro a b ha hb h
 rw[hr a ha,hr b hb] at h
 exact h
section
variable{T:LO}{l:LV}{Es:List Sc}{n:Nat}{ob:AO}
theorem x5(G:GK w hb)(hu:A.units+100<Aw)(hm:(res,ap (aB Es) nr)∈T)(hS:SXk T Es)(hT:kJ Es)(hl:Es.length<=60)(hR:kK rk Es)
  (rkv:Value->Nat) (hrkv:∀ e∈Es,rkv (.ref e.a)=rkS rk e) (hob:ob.data=.cell (some .none)) {Q:FP}
  (S:St hb tabs L' [(yW "size", .int Es.length ts),(yW "n", .int n tn),(yW "iterable", .ref res)] ((L'+1,ob)::(L,oL)::T) s.heap)
  (k:∀ (s':y9) (X:LO) (r:ze) (P:List Sc),Kp s s'->P.Perm Es->P.Pairwise (λa b=>rkS rk b<=rkS rk a) ->
   St hb tabs L' [(yW "size", .int Es.length ts),(yW "n", .int n tn),(yW "iterable", .ref res)] ((r,ap (aB (P.take n)) 0)::(X++((L'+1,ob)::(L,oL)::T))) s'.heap->Q (.ret (.ref r)) s') :
  y4 (y0 pw w) (A.deeper (dO w L')) (zY (aD (((orB (((aD (st1 pw 8))[1]?).getD AA))[0]?).getD AA)) (dO w L')) Q E s:=by
 refine cP (gE (hb:=hb) (tabs:=tabs) (eD (dZ G S eA (Lo (aln (env:=zy (aO w.params) L' 280) S m2 (Et (bI S (.head _) hob ?_)))))))
 refine Et (Ee (Jp ?_))
 have hin:∀ T',(∀ p∈(L'+1,ob)::(L,oL)::T,p∈T')->SXk T' Es:=λT' h=>hS.mono λp hp=>h _ (aj (aj hp))
 refine iG (κ:=LZ true) rkv S (aj (aj hm)) (by rw[aJ];exact z21 hl) (ksk_s2 _ _ _) (λx=>ksk_l2 _ _ _) (λx=>gW x) ?_ ?_ ?_
 ·intro h2 s' T' Q' E' S' hT' hq
  have hS':=hin T' hT'
  exact Nr (T:=.type "float") (sc_tups λe he=>(S'.sc (hS' e he)).1) (by rw[zb];rw[aJ] at h2;exact z22 h2) (λv hv=>by
   obtain⟨e,-,rfl⟩:=za.mp hv
   exact .now) rfl hq
 ·intro s' T' K' S' hT' x hx y hy C hC
  obtain⟨e,he,rfl⟩:=za.mp hx
  obtain⟨e',he',rfl⟩:=za.mp hy
  have hS':=hin T' hT'
  rw[hrkv e he,hrkv e' he'] at hC
  exact uv (by show A.units+3+1+1+3<Aw;exact dn 92 hu) (S'.nb G) hT hR he he' (S'.sc (hS' e he)) (S'.sc (hS' e' he')) hC
 ·intro s' D n' vs' X K' hp hw S'
  obtain⟨P,rfl,hP⟩:=qi hp
  refine au (env:=zy (aO w.params) L' 280) S' m1 ⟨_,_,_,D,aB P,n',n,tn,rfl,rfl,S',.head _,by rw[aJ,hP.length_eq];exact up 940 hl,?_⟩
  intro D2 X2 h' af
  have e1:(aB P).take n=aB (P.take n):=by unfold aB;rw[Cb]
  rw[e1] at af
  refine k { s' with heap:=h' } (X2++((D,ap (aB P) n')::X)) D2 P ⟨K'.os,K'.gens⟩ hP (xX (λe he=>hrkv e (hP.mem_iff.mp he)) hw) ?_
  rw[zu]
  exact af
end
end
noncomputable abbrev rg3O (a b c:Int) (t u v:AN):AO:={ cls:=.type "range", dict:=none,data:=.fields #[.int a t,.int b u,.int c v],slots:=#[] }
noncomputable abbrev iC (x left c:Int):AO:={ cls:=.type "range_iterator", dict:=none,data:=.fields #[Cv x,Cv left,Cv c],slots:=#[] }
noncomputable abbrev jP (f0:Value) (TI TO:ze):AO:={ cls:=.type "zip", dict:=none,data:=.fields #[f0,.bool false,.bool false,.ref TI,.ref TO],slots:=#[] }
theorem lg(r it d:ze)(b c:Int)(t u v:AN)(i:Nat)(hsm:Dy 0 b c=true)(oi:AO)(hoi:bZ oi d i) :
  Meets (At.«zip.__new__» ⟨[.type "zip", .ref r,.ref it],[]⟩) (λZ R s=>s.heap.get? r=some (rg3O 0 b c t u v)/\s.heap.get? it=some oi /\
   R (.ok (.ret (.ref (((s.heap.push (iC 0 (Ae 0 b c) c)).push (aG [.ref s.heap.objs.size,.ref it])).push (aG [.none,.none])).objs.size)))
    { s with heap:=(((s.heap.push (iC 0 (Ae 0 b c) c)).push (aG [.ref s.heap.objs.size,.ref it])).push (aG [.none,.none])).push (jP .none (s.heap.push (iC 0 (Ae 0 b c) c)).objs.size ((s.heap.push (iC 0 (Ae 0 b c) c)).push (aG [.ref s.heap.objs.size,.ref it])).objs.size) }) :=
 .of_wp λprog w A R s h=>by
  obtain⟨hp,g,dr,tk,os⟩:=s;obtain⟨hr,hi,h⟩:=h
  have hR:IsRange (He ⟨hp,g,dr,tk,os⟩) r 0 b c t u v:=hr
  have hI:Heap.IsListIter (He ⟨hp.push (iC 0 (Ae 0 b c) c),g,dr,tk,os⟩) it d i:=⟨oi,zz _ hi,hoi.1,hoi.2⟩
  have hsub:=sub_zip
  wp_walk using GC hR hsm,FF hI
  exact⟨_,rfl,h⟩
section
variable{tabs:List ze}{r:ze}{l:LV}{T:LO}{vs:List Value}{b c:Int}{t u v:AN}
theorem mP{a:Int}{Q:VP}(S:St hb tabs L l T s.heap)(hc:c≠0)(hp:CY (b - a) c=false)(h:∀ r h',St hb tabs L l ((r,rg3O a b c t u v)::T) h'->Q (.ref r) (wh s h')) :
  y4 (y0 prog w) A (call (.type "range") [.int a t,.int b u,.int c v]) Q E s :=
 call_range_3 hc (h _ _ (S.push _)) (.inl hp)
theorem xk{Q:VP}(S:St hb tabs L l T s.heap)(hr:(r,rg3O 0 b c t u v)∈T)(hi:(it,oi)∈T)(hoi:bZ oi d i)(hsm:Dy 0 b c=true)
  (h:∀ z TI TO ri h',St hb tabs L l ((z,jP .none TI TO)::(TO,aG [.none,.none])::(TI,aG [.ref ri,.ref it])::(ri,iC 0 (Ae 0 b c) c)::T) h'->Q (.ref z) (wh s h')) :
  y4 (y0 prog w) A (call (.type "zip") [.ref r,.ref it]) Q E s:=by
 have S':=(((S.push (iC 0 (Ae 0 b c) c)).push (aG [.ref s.heap.objs.size,.ref it])).push (aG [.none,.none])).push (jP .none (s.heap.push (iC 0 (Ae 0 b c) c)).objs.size ((s.heap.push (iC 0 (Ae 0 b c) c)).push (aG [.ref s.heap.objs.size,.ref it])).objs.size)
 refine H9 F.called_zip (by decide) (F.typeCall_zip_2 _ _) (F.newCall_zip_2 _ _) (λobj=>IZ obj _ _) F.entry_zip_new (lg r it d b c t u v i hsm oi hoi) ⟨S.obj _ hr,S.obj _ hi,⟨_,S'.obj _ m0,rfl⟩,h _ _ _ _ _ S'⟩
theorem k9{x left:Int}{Q:VP}(hit:s.heap.get? it=some (iC x left c))(hleft:0<left)
  (hQ:∀ h',h'.get? it=some (iC (x+c) (left - 1) c)->BV it s.heap h'->Q (.int x s.toks) (wht s h' (s.toks+1))) :
  y4 (y0 prog w) A (B2 (.ref it)) Q E s:=by
 have hT:s.TypeIs (.ref it) "range_iterator" := ⟨_,hit,rfl⟩
 refine yX (z4 (name:=yW "__next__") hT C9
  (H8 C9 hT Gr (Ge _) (AutoRange.range_iterator___next___range_iterator_1 it x left c (zj5 hleft)) ⟨hit,?_⟩))
 exact yY (hQ _ (zq _ (zq _ hit rfl) rfl) ((zt ..).trans (zt ..)))
theorem uZ{z TI TO ri:ze}{bt b0 xv:Value}{x left:Int}{n:Nat}{Q:Option Value->y9->Prop}
  (S:St hb tabs L l ((z,jP .none TI TO)::(TO,aG [bt,b0])::(TI,aG [.ref ri,.ref it])::(ri,iC x left c)::(it,oi)::T) s.heap) (hoi:bZ oi d i) (hd:(d,ap vs n)∈T) (hx:vs[i]? = some xv) (hleft:0<left)
  (h:∀ P oi' h',bZ oi' d (i+1)->St hb tabs L l ((P,aG [.int x s.toks,xv])::(z,jP (Cv P) TI TO)::(TO,aG [.int x s.toks,xv])::(TI,aG [.ref ri,.ref it])::(ri,iC (x+c) (left - 1) c)::(it,oi')::T) h'->Q (some (.ref P)) (wht s h' (s.toks+1))) :
  y4 (y0 prog w) A (De (.ref z)) Q E s:=by
 have hz:=S.obj _ m0
 have hT:s.TypeIs (.ref z) "zip" := ⟨_,hz,rfl⟩
 refine yX (Ds (z4 (name:=yW "__next__") hT Gf
  (zT Gf hT KV ?_ (Kr _))))
 refine yX (m:=FT (.ref z) 2) (AK hz rfl (x:=.bool false) rfl ?_)
 refine yX (m:=FT (.ref z) 3) (AK hz rfl (x:=.ref TI) rfl ?_)
 refine yX (zv (S.obj _ m2) rfl ?_)
 refine yX (m:=ET (.ref z)) (yX (AK hz rfl (x:=.none) rfl (yY ?_)))
 refine yX (AP ?_)
 refine yX (AK hz rfl (x:=.ref TO) rfl ?_)
 refine yX (DP hz (by simp) λai ek bz=>?_)
 have ah:=S.change (o':=jP .ellipsis TI TO) 0 rfl bz ek
 refine yX ?_
 show y4 _ _ (Dp [(AG ri,0),(AG it,1)] _ _) _ _ _
 rw[Ax]
 refine yX (yX (JE ?_))
 refine yX (m:=B2 (.ref ri)) (k9 (c:=c) (ah.obj _ m3) hleft λam bp d6=>yY ?_)
 have af:=ah.change (o':=iC (x+c) (left - 1) c) 3 rfl d6 bp
 refine yX (zv (af.obj _ m1) rfl ?_)
 refine yX (Ja (af.obj _ m1) λak hT3 c9=>?_)
 have ae:=af.change (o':=aG [.int x s.toks,b0]) 1 rfl c9 hT3
 refine yX (DE (yY ?_))
 show y4 _ _ (Dp [(AG it,1)] _ _) _ _ _
 rw[Ax]
 refine yX (yX (JE ?_))
 refine yX (m:=B2 (.ref it)) (Ia (items:=vs.toArray) ⟨oi,ae.obj _ m4,hoi.1,hoi.2⟩ ⟨_,ae.obj _ (aj (aj (aj (aj (aj hd))))),rfl,n,rfl⟩ (by simpa using hx) λaw hi4 hs4=>yY ?_)
 obtain⟨oi',ho',hc',hd'⟩:=hi4
 have S4:=ae.change (o':=oi') 4 rfl hs4 ho'
 refine yX (zv (S4.obj _ m1) rfl ?_)
 refine yX (Ja (S4.obj _ m1) λay dy hs5=>?_)
 have S5:=S4.change (o':=aG [.int x s.toks,xv]) 1 rfl hs5 dy
 refine yX (DE (yY ?_))
 show y4 _ _ (Dp [] _ _) _ _ _
 rw[Em]
 refine yY (yX (zv (S5.obj _ m1) rfl ?_))
 refine yX (Fl ?_)
 have S6:=S5.push (aG [.int x s.toks,xv])
 refine yX (m:=Jw (.ref z) (.ref ay.objs.size)) (yX (DP (S6.obj _ m1) (by simp) λba hz7 hs7=>?_))
 have S7:=S6.change (o':=jP (Cv ay.objs.size) TI TO) 1 rfl hs7 hz7
 refine DP (S7.obj _ m1) (by simp) λbc hz8 hs8=>?_
 have S8:=S7.change (o':=jP (Cv ay.objs.size) TI TO) 1 rfl hs8 hz8
 exact yY ⟨_,rfl,yY (h _ oi' bc ⟨hc',hd'⟩ S8)⟩
theorem zp_go{z TI TO P:ze}{elts:List Expr}{k:Nat}{pos:Ef}{Q:UP}(j:Nat)(S:St hb tabs L l T s.heap)(hz:T[j]? = some (z,jP (Cv P) TI TO))
  (h:∀ h',St hb tabs L l (T.set j (z,jP .none TI TO)) h'->Q () (wh s h')):y4 (y0 prog w) A (CW (.Tuple elts k pos) (.ref z) (.ref P)) Q E s:=by
 refine wpAny_letOwnedTupleGo_zip (S.obj _ (zm hz)) λh' hz' hs'=>h h' (S.change j hz hs' hz')
theorem xl{z TI TO ri:ze}{bt b0:Value}{x left:Int}{Q:Option Value->y9->Prop}(hh:A.handled=none)
  (S:St hb tabs L l ((z,jP .none TI TO)::(TO,aG [bt,b0])::(TI,aG [.ref ri,.ref it])::(ri,iC x left c)::T) s.heap) (hleft:left<=0)
  (h:∀ h',St hb tabs L l T h'->Q none (wh s h')):y4 (y0 prog w) A (De (.ref z)) Q E s:=by
 have hz:=S.obj _ m0
 have hT:s.TypeIs (.ref z) "zip" := ⟨_,hz,rfl⟩
 refine yX (Ds (z4 (name:=yW "__next__") hT Gf
  (zT Gf hT KV ?_ (Kr _))))
 refine yX (m:=FT (.ref z) 2) (AK hz rfl (x:=.bool false) rfl ?_)
 refine yX (m:=FT (.ref z) 3) (AK hz rfl (x:=.ref TI) rfl ?_)
 refine yX (zv (S.obj _ m2) rfl ?_)
 refine yX (m:=ET (.ref z)) (yX (AK hz rfl (x:=.none) rfl (yY ?_)))
 refine yX (AP ?_)
 refine yX (AK hz rfl (x:=.ref TO) rfl ?_)
 refine yX (DP hz (by simp) λai ek bz=>?_)
 have ah:=S.change (o':=jP .ellipsis TI TO) 0 rfl bz ek
 refine yX ?_
 show y4 _ _ (Dp [(AG ri,0),(AG it,1)] _ _) _ _ _
 rw[Ax]
 refine yX (yX (JE ?_))
 refine yX (m:=B2 (.ref ri)) ?_
 have hri:=ah.obj _ m3
 have hTr:ML (wh s ai) (.ref ri) "range_iterator" := ⟨_,hri,rfl⟩
 refine yX (z4 (name:=yW "__next__") hTr C9
  (zT C9 hTr Gr ?_ (Ge _)))
 refine yX (m:=FT (.ref ri) 0) (AK hri rfl (x:=Cv x) rfl ?_)
 refine yX (m:=FT (.ref ri) 1) (AK hri rfl (x:=Cv left) rfl ?_)
 refine yX (m:=FT (.ref ri) 2) (AK hri rfl (x:=Cv c) rfl ?_)
 refine bX hleft (yX (AP ?_))
 refine yX (yX (m:=Nz (.type "StopIteration") []) (yX (Aa ?_ (by size_fits))))
 refine yX (m:=C8 _ _) (As (a:=CK) (by first|rfl|(simp only[C8];rfl)) ?_)
 refine Aa ?_ (by size_fits)
 refine yX (Hw ?_)
 first|rw[show A.in1.handled=none from hh]|rw[show A.in1.in1.handled=none from hh]|rw[hh]
 refine yX (yY (I1 ?_))
 have af:=(ah.push { cls:=.type "tuple", data:=.seq #[] }).push { cls:=.type "StopIteration", data:=.fields (#[AG ai.objs.size,CK,CK,CK,FI false,CK]++ownMembersOf (Ai "StopIteration") []) }
 refine DP (af.obj _ m2) (by simp) λam fi d6=>?_
 have ae:=af.change (o':=jP .none TI TO) 2 rfl d6 fi
 refine yX (AL (T := "StopIteration") (b:=true) ⟨_,ae.obj _ m0,rfl⟩ GH ?_)
 exact yY (h _ (ae.sub (.cons _ (.cons _ (.cons _ (.cons _ (.cons _ (.cons _ (Ag _)))))))))
end
def ZkOk(X:LO)(vs:List Value)(ps:List (ze×AN)):Prop:=∀ j p,ps[j]? = some p->(p.1,aG [vs.getD j .none,.int (-(j:Int)) p.2])∈X
noncomputable def fR(ps:List (ze×AN)):List Value:=ps.map λp=>.ref p.1
section
open PySem.Spec
noncomputable def bE(Hs:List HI):List Value:=Hs.map λh=>.ref h.a
def HOk(T:LO)(Hs:List HI):Prop:=∀ h∈Hs,(h.a,aG [.ref h.e.a,.int h.ord h.ot])∈T
theorem aZ(l:List HI):(bE l).length=l.length:=by simp[bE]
def uj(Hs:List HI):Prop:=∀ h∈Hs,-60<=h.ord/\h.ord<=0
noncomputable def ki(rk:UInt64->List zH->Nat)(Hs:List HI):Value->Int
 | .ref a=>((Hs.find? λh=>h.a==a).map (fQ rk)).getD 0
 | _=>0
theorem kh{rk:UInt64->List zH->Nat}{Hs:List HI}{Es:List Sc}{hp:AE}(hH:∀ h∈Hs,hp.get? h.a=some (aG [.ref h.e.a,.int h.ord h.ot]))(hE:∀ e∈Es,ScH hp e)(hHE:∀ h∈Hs,h.e∈Es){h:HI}(hm:h∈Hs) :
  ki rk Hs (.ref h.a)=fQ rk h:=by
 show ((Hs.find? λh'=>h'.a==h.a).map (fQ rk)).getD 0=fQ rk h
 cases hf:Hs.find? λh'=>h'.a==h.a with
 | none=>exact absurd (E6.mp hf h hm) (by simp)
 | some h' =>
  have ha:h'.a=h.a:=by simpa using Iz hf
  have hm':=EH hf
  have o1:=hH h' hm'
  rw[ha,hH h hm] at o1
  have e1:=congrArg Mr (AB o1)
  injection e1 with e1 _
  have e2:[AG h.e.a,.int h.ord h.ot]=[AG h'.e.a,.int h'.ord h'.ot]:=by
   have:=congrArg Ip e1
   simpa using this
  injection e2 with h1 h2
  injection h2 with h2 _
  injection h1 with a1
  injection h2 with x1 _
  obtain⟨s1,s2⟩:=jV (hE _ (hHE _ hm')) (hE _ (hHE _ hm)) a1.symm
  show fQ rk h'=fQ rk h
  unfold fQ rkS
  rw[s1,s2,x1]
theorem aX.congr{K K':Nat->Int}{n t:Nat}(h:aX K n t)(e:∀ i,i<n->K i=K' i):aX K' n t:=by
 intro i i1 im ht
 rw[<- e i im,<- e (par i) (by unfold par;exact zjb im)]
 exact h i i1 im ht
noncomputable def oA(rk:UInt64->List zH->Nat)(Hs:List HI)(i:Nat):Int:=((Hs[i]?).map (fQ rk)).getD 0
theorem fG{rk:UInt64->List zH->Nat}{key:Value->Int}{Hs:List HI}(hk:∀ h∈Hs,key (.ref h.a)=fQ rk h){i:Nat}(hi:i<Hs.length):fH key (bE Hs) i=oA rk Hs i:=by
 unfold fH oA bE
 have e:(Hs.map λh=>AG h.a).getD i .none=.ref Hs[i].a:=by
  rw[Bg,zB,zj hi];rfl
 rw[e,hk _ (z5 hi),zj hi]
 rfl
theorem kU{rk:UInt64->List zH->Nat}{h h':HI}(o : -60<=h.ord/\h.ord<=0)(o' : -60<=h'.ord/\h'.ord<=0)(hk:fQ rk h<=fQ rk h'):rkS rk h.e<=rkS rk h'.e:=by
 unfold fQ at hk
 exact zjd o.1 o'.2 hk
section
variable{pos:Ef}
theorem gT {value e:Expr}{T id:String}{Q:VP} (hl:BH (.type T) "__getitem__" = Au (some (.builtin id)))
  (h:y4 (y0 prog w) A (Aq value env) (kGet (y0 prog w) A env E T e Q) E s)
  (hs:∀ o i,Hc e false o i=J5 [o,i] (Dc o i):=by intro Z Z;rfl):y4 (y0 prog w) A (Aq (.Subscript value e pos) env) Q E s:=by
 refine yX (zf h (λo s₁ ai=>yX (zp (zf ai (λi ag am=>yX (CO ?_)) λZ Z x=>x)))
  λZ Z x=>x)
 have fin:y4 (y0 prog w) A (Hc e false o i) (λr s3=>y4 (y0 prog w) A (Fj value o r>>=λZ=>Au r) Q E s3) E ag:=by
  rw[hs]
  exact F8 (zf am.2 (λr s3 ak=>yX (Ep (yY ak))) λZ Z x=>x)
 refine yX (yX (BS am.1 hl ?_))
 first
  | exact yY (yX fin)
  | exact yX (yY (yX fin))
  | exact yX fin
variable{tabs:List ze}{l:LV}{T:LO}{vs:List Value}{n:Nat}{o:AO}
theorem gK{k:Nat}{t:AN}{x:Value}{Q:VP}(S:St hb tabs L l T s.heap)(hm:(d,ap vs n)∈T)(hz:vs.length<=1000)(hx:vs[k]? = some x)(h:Q x s):y4 (y0 prog w) A (Dc (.ref d) (.int (k:Int) t)) Q E s:=by
 have hk:k<vs.length:=(zU.mp hx).1
 exact wpAny_getItem_list (items:=vs.toArray) ⟨_,S.obj _ hm,rfl,n,rfl⟩ z13 (x20 hz hk) (by simpa using hx) h
theorem tB{k:Nat}{t:AN}{x:Value}{Q:VP}(S:St hb tabs L l T s.heap)(hm:(d,aG vs)∈T)(hz:vs.length<=1000)(hx:vs[k]? = some x)(h:Q x s):y4 (y0 prog w) A (Dc (.ref d) (.int (k:Int) t)) Q E s:=by
 have hk:k<vs.length:=(zU.mp hx).1
 have ho:=S.obj _ hm
 have hT:s.TypeIs (.ref d) "tuple" := ⟨_,ho,rfl⟩
 have hseq:HK (k:Int) vs.toArray.size=some k:=by rw[seqIndex_of (by exact z13) (by rw[zd];exact zjc hk)];rfl
 unfold Dc
 try with_reducible refine zp ?_
 first|refine yX (yY ?_)|skip
 refine yX (Ks hT (by decide) ?_)
 exact yX (z4 (name:=yW "__getitem__") hT FY
  (H8 FY hT Hx (G5 _ _) (MeetsSeq.tuple_getitem_at d vs.toArray 0 k t k x (by lia) (by lia) hseq (by simpa using hx)) ⟨ho,yY h⟩))
theorem dS:BH (.type "tuple") "__getitem__" = Au (some (.builtin "tuple.__getitem__")):=FY.lookup
theorem wO{R:Cg->y9->Prop}{i₀:Nat}(hh:A.handled=none)(J:Nat->LV->LO->Prop)(S:St hb tabs L l ((I,o)::T) s.heap)(ho:bZ o d i₀)(hi0:i₀<=vs.length)(h0:J i₀ l T)(hd:(d,ap vs n)∈T)
  (GA:∀ E i v l₁ T1 c8 s₁,i₀<=i->vs[i]? = some v->J i l₁ T1->(d,ap vs n)∈T1->St hb tabs L l₁ ((I,c8)::T1) s₁.heap->Kp s s₁ ->
   y4 (y0 prog w) A (BL target env v) (λZ ag=>y4 (y0 prog w) A (zY body env) (λf s3=>match f with
    | .next|.cont=>Ex2 λl₂ T₂=>An4 (St hb tabs L l₂ ((I,c8)::T₂) s3.heap) (J (i+1) l₂ T₂) ((d,ap vs n)∈T₂) (Kp s s3)
    | .brk=>R (.ok .next) s3
    | .ret v=>R (.ok (.ret v)) s3) E ag) E s₁)
  (hR:∀ s' l' T',Kp s s'->St hb tabs L l' T' s'.heap->J vs.length l' T'->R (.ok .next) s')
  (ht:∀ v,CW target (.ref I) v=Au ():=by intro Z;rfl) :
  zS (y0 prog w) A (.forLoop target (.ref I) body [] env) R s:=by
 let H:Nat->y9->Prop:=λk s'=>Ex4 λi l₁ T1 c8=>An8 (i₀<=i) (St hb tabs L l₁ ((I,c8)::T1) s'.heap) (bZ c8 d i) (J i l₁ T1) ((d,ap vs n)∈T1) (Kp s s') (i<=vs.length) (k=vs.length - i)
 refine LJ H ?_ (vs.length - i₀) ⟨i₀,l,T,o,zh _,S,ho,h0,hd,Kp.refl,hi0,rfl⟩ ht
 rintro k s' ⟨i,l₁,T1,c8,hi1,ah,ew,hJ,hd1,hKp,hi,rfl⟩
 by_cases hlt:i<vs.length
 ·have hx:vs[i]? = some vs[i]:=zj hlt
  refine ig 0 ah rfl ew (aj hd1) hx λam di dk af=>(zf (GA _ i vs[i] l₁ T1 di { s' with heap:=am } hi1 hx hJ hd1 af hKp.with) (λZ ag fj=>zf fj (λf s3 z3=>?_) λZ Z e=>e) λZ Z e=>e)
  have fin:(Ex2 λl₂ T₂=>An4 (St hb tabs L l₂ ((I,di)::T₂) s3.heap) (J (i+1) l₂ T₂) ((d,ap vs n)∈T₂) (Kp s s3))->∃ m,m<vs.length - i/\H m s3:=by
   rintro⟨l₂,T₂,ae,hJ3,fk,hKp3⟩
   exact⟨vs.length - (i+1),by exact z8t hlt,i+1,l₂,T₂,di,by exact z78 hi1,ae,dk,hJ3,fk,hKp3,hlt,rfl⟩
  cases f with
  | next=>exact fin z3
  | cont=>exact fin z3
  | brk=>exact z3
  | ret v=>exact z3
 ·have hin:i=vs.length:=z8u hi hlt
  subst hin
  exact iT hh ah.last ew hd1 λam af=>CV (hR _ l₁ T1 hKp.with af hJ)
end
theorem lp{f:Value}{keywords:List (Option zH×Lz Value)}{Q:M1->y9->Prop}(hall:keywords.all (·.1.isSome)=true)
  (h:y4 M A (evalAll (keywords.map (·.2))) (λkvs ag=>Q ⟨[],(keywords.filterMap (·.1)).zip kvs⟩ ag) E s) :
  y4 M A (Nj f true [] keywords) Q E s:=by
 refine yX (yY (yX (yY ?_)))
 refine zp (bX hall (yX (zf h (λkvs ag am=>?_) λZ Z x=>x)))
 exact yX (yY (yY am))
theorem yN{pos:Ef}{id:String}{first:List Value}{kws:List Keyword}{Q:VP}
  (h:y4 M A (evalAll ((DT pos (Cz kws env)).map (·.2))) (λkvs ag=>y4 M A (call (.builtin id) (first++[]) (((DT pos (Cz kws env)).filterMap (·.1)).zip kvs)) Q E ag) E s)
  (hall:(DT pos (Cz kws env)).all (·.1.isSome)=true:=by rfl)
  (hkw:(DT pos (Cz kws env)).any (·.1.isNone)=false:=by rfl) :
  y4 M A (DS pos (.builtin id) first (Ci pos (AI [] env)) (DT pos (Cz kws env))) Q E s :=
 callWith_builtin_kwB rfl hkw (lp hall h)
theorem ng (x:ze):CI "list.sort" ⟨[.ref x],[(yW "reverse", .bool true)]⟩:=by unfold CI;kernel_rfl
theorem rr:Bi (yW "zip")=some (.type "zip"):=by kernel_rfl
theorem pJ:∀ n:Fin 61,Dy 0 (-((n.val:Nat):Int)) (-1)=true/\Ae 0 (-((n.val:Nat):Int)) (-1)=((n.val:Nat):Int):=by decide +kernel
theorem hi_tups{h:AE}:∀ {Hs:List HI},(∀ e∈Hs,h.get? e.a=some (aG [.ref e.e.a,.int e.ord e.ot]))->KatTups h (bE Hs) (Hs.map λe=>.ref e.e.a):=by
 intro Hs
 induction Hs with
 | nil =>
  intro Z
  exact .nil
 | cons e r ih =>
  intro hS
  exact .cons (hS e (.head _)) rfl rfl rfl (ih λe' he'=>hS e' (aj he'))
section
variable{Es:List Sc}
theorem yx{x y:HI}{Q:BP}(hu:A.units+4<Aw)(NB:B4 s.heap)(hT:kJ Es)(hR:kK rk Es)(he:x.e∈Es)(he':y.e∈Es)(ha:ScH s.heap x.e)(hb':ScH s.heap y.e)
  (hx:s.heap.get? x.a=some (aG [.ref x.e.a,.int x.ord x.ot])) (hy:s.heap.get? y.a=some (aG [.ref y.e.a,.int y.ord y.ot])) (ox : -60<=x.ord/\x.ord<=0) (oy : -60<=y.ord/\y.ord<=0)
  (h:Q (decide (fQ rk x<fQ rk y)) s):y4 (y0 pw w) A (IY (LZ false) (.ref x.a) (.ref y.a)) Q E s:=by
 refine kat_lt hx rfl hy rfl (Mw (uw (dn 3 hu) NB hT hR he he' ha hb' ?_))
 unfold fQ at h
 refine NC (λq=>?_) (λq=>?_)
 ·have hq:=of_decide_eq_true q
  refine M8 (Mw (EE (NC (λq2=>?_) (λq2=>?_))))
  ·have e1:x.ord=y.ord:=Ap q2
   rw[show decide ((rkS rk x.e:Int) * 1000+x.ord<(rkS rk y.e:Int) * 1000+y.ord)=false from decide_eq_false (z27 q q2)] at h
   exact M8 (kat_nil h)
  ·refine ND (kat_one _ _ (P.lt_int ?_))
   rw[show decide ((rkS rk x.e:Int) * 1000+x.ord<(rkS rk y.e:Int) * 1000+y.ord)=decide (x.ord<y.ord) from decide_eq_decide.mpr (x13 q).symm] at h
   exact h
 ·have hq:=of_decide_eq_false q
  refine ND (kat_one _ _ (vF (dn 3 hu) NB hT hR he he' ha hb' ?_))
  rw[show decide ((rkS rk x.e:Int) * 1000+x.ord<(rkS rk y.e:Int) * 1000+y.ord)=decide (rkS rk x.e<rkS rk y.e) from decide_eq_decide.mpr (x12 (DG (by decide) ox.1) (DG ox.2 (by decide)) (DG (by decide) oy.1) (DG oy.2 (by decide)) q).symm] at h
  exact h
end
section
variable{T:LO}{l:LV}{Es:List Sc}{n:Nat}{ob:AO}
theorem qF{a:ze}{Hs:List HI}{T':LO}{l':LV}{key:Value->Int}(G:GK w hb)(hu:A.units+10<Aw)(hS:SXk T' Es)(hT:kJ Es)(hR:kK rk Es)(hHE:∀ h∈Hs,h.e∈Es)(hH:HOk T' Hs)(hO:uj Hs)
  (hk:∀ h∈Hs,key (.ref h.a)=fQ rk h):gO pw w A hb tabs L' a l' T' (bE Hs) key s:=by
 intro s' c' vs' K' S' x hx y hy E Q hq
 obtain⟨ai,m1,rfl⟩:=za.mp hx
 obtain⟨am,m2,rfl⟩:=za.mp hy
 have o1:=hO _ m1
 have o2:=hO _ m2
 rw[hk _ m1,hk _ m2] at hq
 have hS':SXk ((a,ap vs' c')::T') Es:=hS.mono λp hp=>aj hp
 exact hi_lt (by show A.units+1+4<Aw;exact dn 5 hu) (S'.nb G) hT hR (hHE _ m1) (hHE _ m2) (S'.sc (hS' _ (hHE _ m1))) (S'.sc (hS' _ (hHE _ m2))) (S'.obj _ (aj (hH _ m1))) (S'.obj _ (aj (hH _ m2))) (z26 o1.1 o1.2) (z26 o2.1 o2.2) hq
noncomputable abbrev nlB:List Cq:=aD (((aD (st1 pw 8))[2]?).getD AA)
structure gP(rk:UInt64->List zH->Nat)(Es:List Sc)(n i:Nat)(Hs:List HI)(outs:List Sc)(ord:Int):Prop where
 len:Hs.length=n
 sub:∀ h∈Hs,h.e∈Es
 ords:uj Hs
 perm:(Hs.map (·.e)++outs).Perm (Es.take i)
 heap:aX (oA rk Hs) n 0
 below:∀ o∈outs,∀ h∈Hs,rkS rk o<=rkS rk h.e
 o0:ord<=0
 o1 : -(i:Int)<=ord
theorem gP.least{n i:Nat}{Hs:List HI}{outs:List Sc}{ord:Int}{h₀:HI}{r:List HI}(J:gP rk Es n i (h₀::r) outs ord):∀ h∈h₀::r,rkS rk h₀.e<=rkS rk h.e:=by
 intro h hm
 obtain⟨j,hj,e⟩:=IX.mp hm
 have hl:=J.len
 have:=th J.heap j (z2a hj hl)
 unfold oA at this
 rw[zj hj,e] at this
 exact kU (J.ords _ (.head _)) (J.ords _ hm) (by simpa using this)
theorem gP.skip{n i:Nat}{h₀:HI}{r:List HI}{outs:List Sc}{ord:Int}{e:Sc}(J:gP rk Es n i (h₀::r) outs ord)(he:Es[i]? = some e)(hle:rkS rk e<=rkS rk h₀.e):gP rk Es n (i+1) (h₀::r) (e::outs) ord where
 len:=J.len
 sub:=J.sub
 ords:=J.ords
 perm:=by
  rw[Ah,he]
  exact zs.trans ((zL e J.perm).trans (zi (l₁:=[e])))
 heap:=J.heap
 below:=λo ho h hm=>by
  rcases y7.mp ho with rfl|ho
  ·exact zk hle (J.least (Hs:=[]) h hm)
  ·exact J.below o ho h hm
 o0:=J.o0
 o1:=by have:=J.o1;exact z2b this
theorem gP.swap{n i:Nat}{h₀:HI}{r Hs':List HI}{outs:List Sc}{ord:Int}{e:Sc}{new:HI}(J:gP rk Es n i (h₀::r) outs ord)(he:Es[i]? = some e)(hlt:rkS rk h₀.e<rkS rk e)(hi:i<60)(hne:new.e=e)(hno:new.ord=ord)
  (hp:Hs'.Perm (new::r)) (hH:aX (oA rk Hs') n 0):gP rk Es n (i+1) Hs' (h₀.e::outs) (ord - 1):=by
 have h0:=J.o0
 have h1:=J.o1
 refine⟨by rw[hp.length_eq];exact J.len,λh hm=>?_,λh hm=>?_,?_,hH,λo ho h hm=>?_,by exact z2c h0,by exact z2d h1⟩
 ·rcases y7.mp (hp.mem_iff.mp hm) with rfl|q
  ·rw[hne];exact zm he
  ·exact J.sub h (aj q)
 ·rcases y7.mp (hp.mem_iff.mp hm) with rfl|q
  ·rw[hno];exact z2e hi h0 h1
  ·exact J.ords h (aj q)
 ·rw[Ah,he]
  have e1:(Hs'.map (·.e)).Perm (e::r.map (·.e)):=by
   have:=hp.map (·.e)
   rw[Ay,hne] at this
   exact this
  refine (e1.append_right _).trans (LK ?_ (zi (l₁:=[e])))
  exact zL e (LK zs J.perm)
 ·have hl:rkS rk h₀.e<=rkS rk h.e:=by
   rcases y7.mp (hp.mem_iff.mp hm) with rfl|q
   ·rw[hne];exact z2f hlt
   ·exact J.least (Hs:=[]) h (aj q)
  rcases y7.mp ho with rfl|ho
  ·exact hl
  ·exact zk (J.below o ho h₀ (.head _)) hl
end
end
section
variable{tabs:List ze}{l l':LV}{T:LO}
theorem St.turn{oL:AO}(S:St hb tabs C l' ((L,oL)::T) h)(r:bL oL l):∃ oC,bL oC l'/\St hb tabs L l ((C,oC)::T) h:=by
 obtain⟨oC,e,rC⟩:=S.fm
 refine⟨oC,rC,⟨oL,S.obj _ (.head _),r⟩,S.new _ (.head _),S.keep,S.tab,λp hp=>?_,λp hp=>?_,?_⟩
 ·rcases y7.mp hp with rfl|hp
  ·exact e
  ·exact S.obj _ (aj hp)
 ·rcases y7.mp hp with rfl|hp
  ·exact S.lnew
  ·exact S.new _ (aj hp)
 ·exact (AJ _ _ _).nodup_iff.mp S.nd
end
section
variable{tabs:List ze}{pos:Ef}{y:zH}{l l':LV}{T:LO}
theorem jb{C:ze}{oL:AO}{lC:LV}{D:ze}{Q:y9->Prop}(S:St hb tabs C lC ((env.locals,oL)::T) s.heap)(r:bL oL l)(hst:bV l y (.ref D) l')
  (h:∀ h' tk,s.toks<=tk->St hb tabs env.locals l' T h'->Q (wht s h' tk)) (hk:env.scope.kind=.function) (hl:env.kindOf y=some .local) :
  y4 (y0 prog w) A (BL (.Name y py) env (.ref D)) (λZ s''=>∃ m,s''.heap.Ns C m/\∀ h',BV C s''.heap h'->Q (wh s'' h')) E s:=by
 obtain⟨oC,rC,ah⟩:=S.turn r
 refine wpAny_assign_Name (aT ah hst (λam af=>?_) (by unfold sN;rw[hk,hl];rfl))
 have fC:Fm am C lC:=⟨oC,af.obj _ (.head _),rC⟩
 obtain⟨m,hm,_,_⟩:=fC.ns
 refine⟨m,hm,λh' hs'=>h h' _ (C2 _) ?_⟩
 have nd:=zr.mp af.nd
 have nd2:=zr.mp nd.2
 refine (af.sub (zl _ _)).off (wr:=[C]) (λb hb'=>?_) (λb ob hb' e=>hs'.extBut b ob (λq=>hb' (by rw[q];exact .head _)) e)
 rw[y6] at hb';subst hb'
 refine⟨af.new _ (.head _),λq=>?_⟩
 rcases y7.mp q with q|q
 ·exact nd.1 (by rw[<- q];exact .head _)
 ·exact nd2.1 q
end
section
variable{tabs:List ze}{pos:Ef}{y:zH}
theorem qd{l':ze->LV}{elt target iter:Expr}{scope:Dx}{rest:List Cq}{Q:FP}(hh:A.handled=none)
  (h:y4 (y0 prog w) A (Aq iter env) (λxv s₁=>Ex13 λl T z TI TO ri it oi d vs nn bt b0=>∃ n:Nat,An8 (xv=.ref z) (St hb tabs env.locals l ((z,jP .none TI TO)::(TO,aG [bt,b0])::(TI,aG [.ref ri,.ref it])::(ri,iC 0 (n:Int) (-1))::(it,oi)::T) s₁.heap) ((∀ D,bV l y (.ref D) (l' D))) (bZ oi d 0) ((d,ap vs nn)∈T) (n<=vs.length) (vs.length<=1000) ((∀ s' D c X oi' ps,Kp s₁ s'->St hb tabs env.locals (l' D) ((D,ap (fR ps) c)::(it,oi')::(X++T)) s'.heap->ps.length=n->ZkOk X vs ps->bZ oi' d n->y4 (y0 prog w) A (zY rest env) Q E s'))) E s)
  (turn:∀ (C:ze) Tt (ag:y9) P (i:Nat) v tk (E':VP),St hb tabs C [] Tt ag.heap->(P,aG [.int (-(i:Int)) tk,v])∈Tt ->
   y4 (y0 prog w) A (BL target (Ir scope C env) (.ref P)) (λZ s3=>y4 (y0 prog w) A (Aq elt (Ir scope C env)) (λy s4=>Ex2 λa l'=>An3 (y=.ref a) (Kp ag s4) (St hb tabs C l' ((a,aG [v,.int (-(i:Int)) tk])::Tt) s4.heap)) E' s3) E' ag)
  (hyk:env.scope.kind=.function) (hyl:env.kindOf y=some .local)
  (htgt:Ex3 λes k p=>target=.Tuple es k p)
  (hfree:∀ x∈scope.names,x.2≠.free) (hcell:∀ y∈scope.names,y.2≠.cell) (hkind:scope.kind=.function) (hnames:∀ x∈scope.names,x.2=.local->scope.names.lookup x.1=some .local)
  (hsw:FK (.ListComp elt [⟨target,iter,[],0⟩] scope pos) (some (.Name y py)) spos.line env=Au true:=by rfl) (hs:∀ x,CT iter env x=Au x:=by intro Z;rfl) :
  y4 (y0 prog w) A (zY (.Assign [.Name y py] (.ListComp elt [⟨target,iter,[],0⟩] scope pos) spos::rest) env) Q E s:=by
 refine zZ ?_
 rw[IK _ _ _ _ hsw]
 refine yX (CO (yX ?_))
 refine yX (zf (wpAny_comprehension_use (Q:=λZ s'=>y4 (y0 prog w) A (zY rest env) Q E s') rfl hs hfree hkind hnames (zf h (λxv s₁ z=>?_) λZ Z e=>e))
  (λZ s' hq=>yY (yY hq)) λZ Z e=>e)
 obtain⟨l,T,z,TI,TO,ri,it,oi,d,vs,nn,bt,b0,n,rfl,S,hst,hoi,hm,hn,hlen,fin⟩:=z
 refine KW (S.obj _ m0) (Aa (hd:=by size_fits) ?_)
 have ae:=S.push (ap [] 0)
 refine FV hcell (by intro y hy;simp at hy) (λak eh c9=>?_) hkind
 generalize hD:s₁.heap.objs.size=D at ae
 generalize hC:(s₁.heap.push (ap [] 0)).objs.size=C
 generalize hL:env.locals=L at ae
 obtain⟨oL,r,S4⟩:=ae.enter (L':=C) (l':=[]) (h':=ak) hC.symm (Fm.of_ns (by rw[<- hC];exact eh) (λp hp=>by cases hp) C5) (λb o e=>c9.extBut b o (Ab (AH e)) (zz _ e))
 have S5:St hb tabs C [] ((z,jP .none TI TO)::(TO,aG [bt,b0])::(TI,aG [.ref ri,.ref it])::(ri,iC (-((0:Nat):Int)) ((n:Int) - ((0:Nat):Int)) (-1))::(it,oi)::(D,ap (fR []) 0)::(L,oL)::([]++T)) ak:=by
  have e:iC (-((0:Nat):Int)) ((n:Int) - ((0:Nat):Int)) (-1)=iC 0 (n:Int) (-1):=by simp
  exact S4.perm (by
   exact ((zi (l₁:=[(L,oL),(D,ap [] 0)]) (l₂:=[(z,jP .none TI TO),(TO,aG [bt,b0]),(TI,aG [.ref ri,.ref it]),(ri,iC 0 (n:Int) (-1)),(it,oi)])).append_right T).trans
    ((D7 [(z,jP .none TI TO),(TO,aG [bt,b0]),(TI,aG [.ref ri,.ref it]),(ri,iC 0 (n:Int) (-1)),(it,oi)] (AJ _ _ _)).append_right T))
 have loop:∀ ag:y9,ag=(wht s₁ ak (s₁.toks+([]:LV).length)) ->
   zS (y0 prog w) A (.compLoop (.ListComp elt [⟨target,iter,[],0⟩] scope pos) 0 (.ref z) (.ref D) (Ir scope C env))
    (λr s'=>match r with
     | .ok _=>y4 (y0 prog w) A (BL (.Name y py) env (.ref D)) (λZ s''=>∃ m,s''.heap.Ns C m/\∀ h',BV C s''.heap h'->y4 (y0 prog w) A (zY rest env) Q E (wh s'' h')) E s'
     | .error x=>∃ m,s'.heap.Ns C m/\∀ h',BV C s'.heap h'->y4 (y0 prog w) A (passOn "comprehension.variables-let-go" x (Ir scope C env)) (λ(_:Value) s'=>y4 (y0 prog w) A (zY rest env) Q E s') E (wh s' h')) ag:=by
  rintro ag rfl
  let H:Nat->y9->Prop:=λk s'=>Ex8 λi ps c X a b oi' l'=>An7 (St hb tabs C l' ((z,jP .none TI TO)::(TO,aG [a,b])::(TI,aG [.ref ri,.ref it])::(ri,iC (-((i:Nat):Int)) ((n:Int) - ((i:Nat):Int)) (-1))::(it,oi')::(D,ap (fR ps) c)::(L,oL)::(X++T)) s'.heap) (ZkOk X vs ps) (ps.length=i) (bZ oi' d i) (Kp s₁ s') (i<=n) (k=n - i)
  refine lx H ?_ n
   ⟨0,[],0,[],bt,b0,oi,[],S5,(λj p e=>by simp at e),rfl,hoi,⟨rfl,id⟩,zA _,rfl⟩
  rintro k s' ⟨i,ps,c,X,a,b,oi',l',S',hZ,hps,hoi',hKp,hi,rfl⟩
  have hd':(d,ap vs nn)∈(D,ap (fR ps) c)::(L,oL)::(X++T):=aj (aj (yZ _ hm))
  by_cases hlt:i<n
  ·have hx:vs[i]? = some (vs.getD i .none):=by
    have:i<vs.length:=zgf hn hlt
    simp[this]
   refine uZ S' hoi' hd' hx (zj6 hlt) λP oi2 aw dk S6=>?_
   obtain⟨es,kk,pp,rfl⟩:=htgt
   refine zp_go 1 S6 rfl λay S7=>(zf (turn C _ _ P i (vs.getD i .none) s'.toks _ ((S7.forget (KR _)):St hb tabs C [] _ (He (wht s' ay (s'.toks+1)))) (.head _)) (λZ s6 z6=>zf z6 (λy s7 z7=>?_) λZ Z e=>e) λZ Z e=>e)
   obtain⟨ad,l'',rfl,K8,S8⟩:=z7
   refine cB 7 S8 rfl ?_ (by simp[fR];exact zj7 hn hlen hps hlt)
   intro bf S9
   have e1:(-((i:Nat):Int))+(-1) = -(((i+1:Nat)):Int):=zj8
   have e2:((n:Int) - ((i:Nat):Int)) - 1=(n:Int) - ((i+1:Nat):Int):=zbm
   have e3:fR ps++[AG ad]=fR (ps++[(ad,s'.toks)]):=by simp[fR]
   rw[e1,e2] at S9
   refine⟨n - (i+1),by exact z8t hlt,i+1,ps++[(ad,s'.toks)],c+1,(ad,aG [vs.getD i .none,.int (-(i:Int)) s'.toks])::(P,aG [.int (-(i:Int)) s'.toks,vs.getD i .none])::X,.int (-(i:Int)) s'.toks,vs.getD i .none,oi2,l'',S9.perm ?_,?_,by simp[hps],dk,⟨K8.os.trans hKp.os,λz=>K8.gens (hKp.gens z)⟩,hlt,rfl⟩
   ·rw[<- e3]
    exact ((zi (l₁:=[_,_]) (l₂:=[_,_,_,_,_,_,_])).append_right (X++T))
   ·intro j p hj
    rcases AM j ps.length with q|q
    ·rw[Dd q] at hj
     exact aj (aj (hZ j p hj))
    ·rw[Gx q] at hj
     have:j=ps.length:=by
      have:=(zU.mp hj).1
      simp at this;exact zj9 q this
     subst this
     simp at hj
     subst hj
     rw[hps]
     exact .head _
  ·have hin:i=n:=z8u hi hlt
   subst hin
   refine xl hh (T:=(it,oi')::(D,ap (fR ps) c)::(L,oL)::(X++T)) S' zja λaw S6=>?_
   have S7:=S6.perm (T':=(L,oL)::(D,ap (fR ps) c)::(it,oi')::(X++T)) (by
    exact (zi (l₁:=[(it,oi'),(D,ap (fR ps) c)]) (l₂:=[(L,oL)])).append_right (X++T) |>.trans (zL _ (AJ _ _ _)))
   subst hL
   exact jb (s:=(wh s' aw)) S7 r (hst D) (λh' tk htk S8=>fin _ D c X oi' ps ⟨hKp.os,hKp.gens⟩ S8 hps hZ hoi') hyk hyl
 subst hC
 subst hD
 have fn:IsZip ak z TI TO .none:=S5.obj _ m0
 exact Iq (loop _ rfl) (KW fn (loop _ rfl))
theorem eW{l':ze->LV}{elt target iter:Expr}{ifs:List Expr}{scope:Dx}{cl:List (zH×ze)}{rest:List Cq}{Q:FP}(hh:A.handled=none)
  (h:y4 (y0 prog w) A (Aq iter env) (λxv s₁=>Ex5 λl T d vs n=>∃ J,srcT prog w A hb tabs target elt ifs scope cl env env.locals l T d vs n J xv s₁/\(∀ D,bV l y (.ref D) (l' D)) /\
   (∀ s' D acc c X,Kp s₁ s'->St hb tabs env.locals (l' D) ((D,ap acc c)::(X++T)) s'.heap->acc.length<=vs.length->J vs.length s'.toks acc X->y4 (y0 prog w) A (zY rest env) Q E s')) E s)
  (hyk:env.scope.kind=.function) (hyl:env.kindOf y=some .local)
  (htgt:(Ex2 λy p=>target=.Name y p)\/Ex3 λes k p=>target=.Tuple es k p)
  (hclos:FM scope env=Au cl) (hcell:∀ y∈scope.names,y.2≠.cell) (hkind:scope.kind=.function) (hnames:∀ x∈scope.names,x.2=.local->scope.names.lookup x.1=some .local)
  (hsw:FK (.ListComp elt [⟨target,iter,ifs,0⟩] scope pos) (some (.Name y py)) spos.line env=Au true:=by rfl) (hs:∀ x,CT iter env x=Au x:=by intro Z;rfl) :
  y4 (y0 prog w) A (zY (.Assign [.Name y py] (.ListComp elt [⟨target,iter,ifs,0⟩] scope pos) spos::rest) env) Q E s:=by
 refine zZ ?_
 rw[IK _ _ _ _ hsw]
 refine yX (CO (yX ?_))
 refine yX (zf (Hy (use:=some (BL (.Name y py) env)) (Q:=λZ s'=>y4 (y0 prog w) A (zY rest env) Q E s') rfl hs hclos hkind hnames (zf h (λxv s₁ z=>?_) λZ Z e=>e))
  (λZ s' hq=>yY (yY hq)) λZ Z e=>e)
 obtain⟨l,T,d,vs,n,J,⟨rfl,S,hm,hlen,hJ0,hmono,GA⟩,hst,fin⟩:=z
 exact lv (RR:=λacc C=>compPost (y0 prog w) A E (some (BL (.Name y py) env)) (λZ s'=>y4 (y0 prog w) A (zY rest env) Q E s') acc C) hh S hm hlen hJ0 hmono GA htgt hcell hkind (λC D oL s' acc c X lc hKp r S7 hacc hJ=>jb (s:=s') S7 r (hst D) (λh' tk htk S8=>fin _ D acc c X ⟨hKp.os,hKp.gens⟩ S8 hacc (hmono _ _ _ _ _ htk hJ)) hyk hyl)
theorem iL{l':ze->LV}{elt target iter:Expr}{ifs:List Expr}{scope:Dx}{cl:List (zH×ze)}{rest:List Cq}{Q:FP}(hh:A.handled=none)
  (h:y4 (y0 prog w) A (Aq iter env) (λxv s₁=>Ex5 λl T d vs n=>∃ J,srcF prog w A hb tabs target elt ifs scope cl env env.locals l T d vs n J xv s₁/\(∀ D,bV l y (.ref D) (l' D)) /\
   (∀ s' D acc c X,Kp s₁ s'->St hb tabs env.locals (l' D) ((D,ap acc c)::(X++T)) s'.heap->acc.length<=vs.length->J vs.length acc X->y4 (y0 prog w) A (zY rest env) Q E s')) E s)
  (hyk:env.scope.kind=.function) (hyl:env.kindOf y=some .local)
  (htgt:(Ex2 λy p=>target=.Name y p)\/Ex3 λes k p=>target=.Tuple es k p)
  (hclos:FM scope env=Au cl) (hcell:∀ y∈scope.names,y.2≠.cell) (hkind:scope.kind=.function) (hnames:∀ x∈scope.names,x.2=.local->scope.names.lookup x.1=some .local)
  (hsw:FK (.ListComp elt [⟨target,iter,ifs,0⟩] scope pos) (some (.Name y py)) spos.line env=Au true:=by rfl) (hs:∀ x,CT iter env x=Au x:=by intro Z;rfl) :
  y4 (y0 prog w) A (zY (.Assign [.Name y py] (.ListComp elt [⟨target,iter,ifs,0⟩] scope pos) spos::rest) env) Q E s :=
 eW (hb:=hb) (tabs:=tabs) (l':=l') hh (zf h (λxv s₁ z=>by obtain⟨l,T,d,vs,n,J,⟨e,S,hm,hlen,hJ0,GA⟩,hst,fin⟩:=z;exact⟨l,T,d,vs,n,λi Z acc X=>J i acc X,⟨e,S,hm,hlen,hJ0,λZ Z Z Z Z Z h=>h,GA⟩,hst,fin⟩) λZ Z e=>e) hyk hyl htgt hclos hcell hkind hnames hsw hs
end
section
open PySem.Spec
noncomputable def mkH:List (ze×AN)->List Sc->Nat->List HI
 | p::ps,e::es,j=>⟨p.1,e,-(j:Int),p.2⟩::mkH ps es (j+1)
 | _,_,_=>[]
theorem mY:∀ (ps:List (ze×AN)) (es:List Sc) (j:Nat),ps.length<=es.length->bE (mkH ps es j)=fR ps
 | [],_,_,_=>rfl
 | p::ps,[],_,h=>by simp at h
 | p::ps,e::es,j,h=>by
  have:=mY ps es (j+1) (by simpa using h)
  show AG p.1::bE (mkH ps es (j+1))=.ref p.1::fR ps
  rw[this]
theorem uJ:∀ (ps:List (ze×AN)) (es:List Sc) (j:Nat),ps.length<=es.length->(mkH ps es j).map (·.e)=es.take ps.length
 | [],_,_,_=>rfl
 | p::ps,[],_,h=>by simp at h
 | p::ps,e::es,j,h=>by
  have:=uJ ps es (j+1) (by simpa using h)
  show e::(mkH ps es (j+1)).map (·.e)=e::es.take ps.length
  rw[this]
theorem qw:∀ (ps:List (ze×AN)) (es:List Sc) (j:Nat),∀ h∈mkH ps es j,-((j:Int)+ps.length)<=h.ord/\h.ord<=0
 | [],_,_,h,hm=>by cases hm
 | p::ps,[],_,h,hm=>by cases hm
 | p::ps,e::es,j,h,hm=>by
  rcases y7.mp hm with rfl|hm
  ·constructor
   ·show -((j:Int)+(p::ps).length)<=-(j:Int)
    simp only[zI];exact z2g
   ·show -(j:Int)<=0
    exact z2h
  ·have:=qw ps es (j+1) h hm
   exact z2j this.1 this.2
theorem uI{X:LO}:∀ (ps:List (ze×AN)) (es:List Sc) (j:Nat),(∀ k p,ps[k]? = some p->(p.1,aG [(aB es).getD k .none,.int (-(((j+k:Nat)):Int)) p.2])∈X)->HOk X (mkH ps es j)
 | [],_,_,_=>λh hm=>by cases hm
 | p::ps,[],_,_=>λh hm=>by cases hm
 | p::ps,e::es,j,hX=>λh hm=>by
  rcases y7.mp hm with rfl|hm
  ·exact hX 0 p rfl
  ·refine uI ps es (j+1) (λk q hq=>?_) h hm
   have:=hX (k+1) q (by simpa using hq)
   have e1:j+(k+1)=j+1+k:=z2i
   rw[e1] at this
   exact this
section
variable{T:LO}{l:LV}{Es:List Sc}{n:Nat}{ob:AO}
noncomputable abbrev nmH (L' res I D:ze) (n sz:Nat) (tn ts:AN):LV:=[(yW "result", .ref D),(yW "it", .ref I),(yW "size", .int sz ts),(yW "n", .int n tn),(yW "iterable", .ref res)]
theorem sG(G:GK w hb)(hd:A.depth+10<zg)(hu:A.units+100<Aw)(hh:A.handled=none)(hm:(res,ap (aB Es) nr)∈T)(hS:SXk T Es)(hT:kJ Es)(hl:Es.length<=60)(hR:kK rk Es)
  (hn0:0<n) (hn:n<Es.length) (hob:ob.data=.cell (some .none)) {Q:FP}
  (S:St hb tabs L' [(yW "size", .int Es.length ts),(yW "n", .int n tn),(yW "iterable", .ref res)] ((L'+1,ob)::(L,oL)::T) s.heap)
  (k:∀ (s':y9) (X:LO) (I D:ze) (oi:AO) (c:Nat) (Hs:List HI) {Q':FP},(∀ f s',(match f with|.next=>False|f=>Q f s')->Q' f s')->Kp s s'->bZ oi res n->HOk X Hs->gP rk Es n n Hs [] (-(n:Int)) ->
   St hb tabs L' (nmH L' res I D n Es.length tn ts) ((D,ap (bE Hs) c)::(I,oi)::(X++((L'+1,ob)::(L,oL)::T))) s'.heap ->
   y4 (y0 pw w) (A.deeper (dO w L')) (zY (nlB.drop 4) (dO w L')) Q' E s') :
  y4 (y0 pw w) (A.deeper (dO w L')) (zY ((aD (st1 pw 8)).drop 2) (dO w L')) Q E s:=by
 refine dA (bI S (.head _) hob (Bw (LX (y8 ⟨λZ=>?_,nofun⟩))))
 refine aC (oM G S jN (aln (env:=zy (aO w.params) L' 280) S m2 (pS S (aj (aj hm)) ?_)))
 refine λI ai ah=>aT (env:=zy (aO w.params) L' 280) ah (.new (by kernel_rfl)) ?_
 intro am af
 have hrf:=pJ ⟨n,by exact z2k hl hn⟩
 refine qd (l':=λD=>nmH L' res I D n Es.length tn ts) (hb:=hb) (tabs:=tabs) hh ?_ ?turn rfl rfl ⟨_,_,_,rfl⟩ (by decide) (by decide) rfl (by decide)
 case turn =>
  refine λC Tt s3 P i v tk E' ae hP=>cI hh ae hP (λaw S4=>ia (env:=Ir _ C _) S4 (.new (by kernel_rfl)) (λay S5=>ia (env:=Ir _ C _) S5 (.new (by kernel_rfl)) (λaz S6=>cE (bQ (al (env:=Ir _ C _) S6 m0 (aln (env:=Ir _ C _) S6 m1 ⟨rfl,_,_,_,_,_,S6,?_⟩))))))
  exact λa ba S7=>⟨a,_,rfl,⟨rfl,id⟩,S7⟩
 refine uT G af rr (args_cons (uT G af cL (args_cons (wpAny_Constant_int (args_cons (Nt (au (env:=zy (aO w.params) L' 280) af m2 ?_)))))))
 refine MW (args_cons (Nt (wpAny_Constant_int (MW (zn (mP af (by decide) (PyProof.noPylong_small (by decide)) ?_))))))
 refine λr ak ae=>aln (env:=zy (aO w.params) L' 280) ae m0 (xk (d:=res) (i:=0) ae m0 m1 ⟨rfl,rfl⟩ hrf.1 ?_)
 intro z TI TO ri aw S4
 rw[hrf.2] at S4
 obtain⟨ro,S5⟩:∃ ro:AO,St hb tabs L' [(yW "it", .ref I),(yW "size", .int Es.length ts),(yW "n", .int n tn),(yW "iterable", .ref res)] ((z,jP .none TI TO)::(TO,aG [.none,.none])::(TI,aG [.ref ri,.ref I])::(ri,iC 0 (n:Int) (-1))::(I,gV res 0)::((r,ro)::(L'+1,ob)::(L,oL)::T)) aw :=
  ⟨_,S4.perm (zL _ (zL _ (zL _ (zL _ (AJ _ _ _)))))⟩
 refine⟨_,_,z,TI,TO,ri,I,gV res 0,res,aB Es,nr,.none,.none,n,rfl,S5,(λD=>.new (by kernel_rfl)),⟨rfl,rfl⟩,(aj (aj (aj hm))),by rw[aJ];exact z2f hn,by rw[aJ];exact up 940 hl,?_⟩
 intro s6 D c X oi' ps K6 S6 hps hZ hoi'
 replace K6:Kp s s6:=⟨K6.os,K6.gens⟩
 have hpl:ps.length<=Es.length:=z2l hn hps
 have hHr:=mY ps Es 0 hpl
 have hHe:=uJ ps Es 0 hpl
 have hHo:=qw ps Es 0
 have hHk:HOk X (mkH ps Es 0):=uI ps Es 0 λk p hp=>by
  rw[Fg]
  exact hZ k p hp
 rw[<- hHr] at S6
 generalize mkH ps Es 0=Hs at S6 hHr hHe hHo hHk
 have hHl:Hs.length=n:=by
  have:=congrArg CA hHr
  rw[aZ] at this
  simpa [fR,hps] using this
 have hHE:∀ h∈Hs,h.e∈Es:=λh hm=>by
  have:h.e∈Hs.map (·.e):=za.mpr ⟨h,hm,rfl⟩
  rw[hHe] at this
  exact AD this
 have hO:uj Hs:=λh hm=>by
  have:=hHo h hm
  exact z2m hl hn hps this.1 this.2
 refine lQ (isTrue_not (BY (au (env:=zy (aO w.params) L' 280) S6 m0 (mO S6 m0 (by rw[aZ];exact z2n hl hn hHl) λtk=>⟨λhb'=>?_,λhb'=>?_⟩))))
 ·exfalso
  have e1:bE Hs=[]:=by simpa using hb'
  have:(bE Hs).length=0:=by rw[e1];rfl
  rw[aZ] at this
  exact z2o hn0 hHl this
 refine aF (bS (bW (cH G S6 (v:=.builtin "_heapq.heapify") (by kernel_rfl) (aI (aln (env:=zy (aO w.params) L' 280) S6 m0 ?_)))))
 have hSX:SXk ((I,oi')::(X++((r,ro)::(L'+1,ob)::(L,oL)::T))) Es:=hS.mono λp hp=>aj (yZ _ (aj (aj (aj hp))))
 have hHX:HOk ((I,oi')::(X++((r,ro)::(L'+1,ob)::(L,oL)::T))) Hs:=λh hm=>aj (y5 _ (hHk h hm))
 have hkey:∀ h∈Hs,ki rk Hs (.ref h.a)=fQ rk h:=λh hm=>kh (λh hm=>S6.obj _ (aj (hHX h hm))) (λe he=>S6.sc ((hSX.mono λp hp=>aj hp) e he)) hHE hm
 refine pT (key:=ki rk Hs) S6 (by rw[aZ];exact z2n hl hn hHl) (qF G (by show A.units+3+10<Aw;exact dn 87 hu) hSX hT hR hHE hHX hO hkey) ?_
 intro s7 vs' c' K7 fo hh7 S7
 obtain⟨Hs',rfl,hp'⟩:=bO _ fo
 have hkey':∀ h∈Hs',ki rk Hs (.ref h.a)=fQ rk h:=λh hm=>hkey h (hp'.mem_iff.mp hm)
 rw[aZ] at hh7
 have hl':Hs'.length=n:=by rw[hp'.length_eq];exact hHl
 refine k s7 (X++[(r,ro)]) I D oi' c' Hs' (λf s' z=>by cases f<;> first|exact z|exact z.elim) (kt K6 K7) hoi' (λh hm=>y5 _ (hHk h (hp'.mem_iff.mp hm))) ⟨hl',λh hm=>hHE h (hp'.mem_iff.mp hm),λh hm=>hO h (hp'.mem_iff.mp hm),?_,?_,(λo ho=>by cases ho),by exact z2h,by exact z2q⟩ ?_
 ·rw[Al,<- hps,<- hHe]
  exact hp'.map _
 ·rw[<- hHl]
  exact hh7.congr λi hi=>fG hkey' (z2r hHl hl' hi)
 ·rw[zu]
  exact S7
end
section
variable{tabs:List ze}{l:LV}{T:LO}{vs:List Value}{n:Nat}
theorem gv{t:AN}{x:Value}{Q:VP}(S:St hb tabs L l T s.heap)(hm:(d,ap (x::vs) n)∈T)(hz:vs.length<=900)(h:Q x s):y4 (y0 prog w) A (Dc (.ref d) (.int 0 t)) Q E s :=
 gK (k:=0) S hm (by simp;exact up 99 hz) rfl h
theorem qJ{t:AN}{x:Value}{Q:VP}(S:St hb tabs L l T s.heap)(hm:(d,aG (x::vs))∈T)(hz:vs.length<=900)(h:Q x s):y4 (y0 prog w) A (Dc (.ref d) (.int 0 t)) Q E s :=
 tB (k:=0) S hm (by simp;exact up 99 hz) rfl h
theorem yL{x:zH}{v:Value}{Q:VP}(S:St hb tabs env.locals l T s.heap)(hv:(x,v)∈l)(h:Q v s)
  (hk:env.scope.kind=.function:=by rfl) (hl:env.kindOf x=some .local:=by rfl):y4 (y0 prog w) A (Ni env x) Q E s:=by
 obtain⟨m,a,b,_⟩:=S.fm.ns
 exact Dl hk hl a (b _ hv) h
theorem qc{e:Expr}{pos:Ef}{rest:List Cq}{Q:FP}(h:y4 (y0 prog w) A (Aq e env) (λZ s'=>y4 (y0 prog w) A (zY rest env) Q E s') E s)
  (hi:Lf env=false:=by rfl) (hs:FK e none pos.line env=Au false:=by rfl):y4 (y0 prog w) A (zY (.Expr e pos::rest) env) Q E s :=
 zZ (wpAny_Expr_any h hi hs)
end
section
variable{T T₂ X:LO}{l:LV}{Es:List Sc}{n c:Nat}{Hs:List HI}{outs:List Sc}{ord:Int}{to:AN}{h₀:HI}{r:List HI}
noncomputable abbrev v8 (L' res I D:ze) (n sz:Nat) (tn ts:AN) (tp:ze) (ord:Int) (to:AN):LV:=(yW "_heapreplace", .builtin "_heapq.heapreplace")::(yW "order", .int ord to)::(yW "top", .ref tp)::nmH L' res I D n sz tn ts
theorem qG(G:GK w hb)(hu:A.units+100<Aw)(hh:A.handled=none)(hS:SXk T₂ Es)(hT:kJ Es)(hR:kK rk Es)(hi:i<60){e:Sc}(he:Es[i]? = some e)(hl:Es.length<=60)(hnl:n<=60)
  (J:gP rk Es n i (h₀::r) outs ord) (hH:HOk X (h₀::r)) {oi':AO} (S:St hb tabs L' (v8 L' res I D n Es.length tn ts h₀.e.a ord to) ((I,oi')::(D,ap (bE (h₀::r)) c)::(X++T₂)) s.heap) {Q:FP}
  (k:∀ s' X' c' h' r' outs' ord' to',Kp s s'->gP rk Es n (i+1) (h'::r') outs' ord'->HOk (X'++X) (h'::r')->St hb tabs L' (v8 L' res I D n Es.length tn ts h'.e.a ord' to') ((I,oi')::(D,ap (bE (h'::r')) c')::(X'++X++T₂)) s'.heap->Q .next s')
  {tgt:Expr} (htg:tgt=(stP ((nlB[7]?).getD AA)).2.2.2.2) :
  y4 (y0 pw w) (A.deeper (dO w L')) (BL tgt (dO w L') (.ref e.a)) (λZ ag=>y4 (y0 pw w) (A.deeper (dO w L')) (zY (aD ((nlB[7]?).getD AA)) (dO w L')) Q E ag) E s:=by
 subst htg
 have heE:e∈Es:=zm he
 have hrl:r.length+1=n:=J.len
 refine rA (env:=zy (aO w.params) L' 280) S (.new (by kernel_rfl)) ?_
 intro ai ah
 have hSX:SXk ((I,oi')::(X++T₂)) Es:=hS.mono λp hp=>aj (yZ _ hp)
 have hHX:HOk ((I,oi')::(X++T₂)) (h₀::r):=λh hm=>aj (y5 _ (hH h hm))
 have hSY:SXk ((I,oi')::(D,ap (bE (h₀::r)) c)::(X++T₂)) Es:=hS.mono λp hp=>aj (aj (yZ _ hp))
 refine dA (au (env:=zy (aO w.params) L' 280) ah m3 (au (env:=zy (aO w.params) L' 280) ah m0 ?_))
 have h0E:=J.sub h₀ (.head _)
 refine vF (by show A.units+3+1<Aw;exact dn 96 hu) (ah.nb G) hT hR h0E heE (ah.sc (hSY _ h0E)) (ah.sc (hSY _ heE)) (y8 ⟨λq=>?_,λq=>?_⟩)
 ·have hlt:=of_decide_eq_true q
  refine qc (bW (au (env:=zy (aO w.params) L' 280) ah m1 (aI (al (env:=zy (aO w.params) L' 280) ah m4 (args_cons (bQ (al (env:=zy (aO w.params) L' 280) ah m0 ?_)))))))
  refine aln (env:=zy (aO w.params) L' 280) ah m2 ⟨rfl,_,_,_,_,_,ah,?_⟩
  refine λna am af=>zn ?_
  have ae:=af.perm (T':=(D,ap (bE (h₀::r)) c)::(na,aG [.ref e.a,.int ord to])::(I,oi')::(X++T₂)) (zi (l₁:=[(na,aG [.ref e.a,.int ord to]),(I,oi')]) (l₂:=[(D,ap (bE (h₀::r)) c)]) |>.append_right (X++T₂))
  generalize hnew:(⟨na,e,ord,to⟩:HI)=new
  have hne:new.e=e:=by rw[<- hnew]
  have hna:new.a=na:=by rw[<- hnew]
  have hno:new.ord=ord:=by rw[<- hnew]
  have hnt:new.ot=to:=by rw[<- hnew]
  have hHE:∀ h∈new::h₀::r,h.e∈Es:=λh hm=>by
   rcases y7.mp hm with rfl|hm
   ·rw[hne];exact heE
   ·exact J.sub h hm
  have o0:=J.o0
  have o1:=J.o1
  have hO:uj (new::h₀::r):=λh hm=>by
   rcases y7.mp hm with rfl|hm
   ·rw[hno];exact z2e hi o0 o1
   ·exact J.ords h hm
  have hSX':SXk ((na,aG [.ref e.a,.int ord to])::(I,oi')::(X++T₂)) Es:=hSX.mono λp hp=>aj hp
  have hHX':HOk ((na,aG [.ref e.a,.int ord to])::(I,oi')::(X++T₂)) (new::h₀::r):=λh hm=>by
   rcases y7.mp hm with rfl|hm
   ·rw[hne,hna,hno,hnt];exact .head _
   ·exact aj (hHX h hm)
  have hkey:∀ h∈new::h₀::r,ki rk (new::h₀::r) (.ref h.a)=fQ rk h:=λh hm=>kh (λh hm=>ae.obj _ (aj (hHX' h hm))) (λe he=>ae.sc ((hSX'.mono λp hp=>aj hp) e he)) hHE hm
  have hsub:∀ h∈new::r,h∈new::h₀::r:=λh hm=>by
   rcases y7.mp hm with rfl|hm
   ·exact .head _
   ·exact aj (aj hm)
  have eN:bE (new::r)=.ref na::bE r:=by rw[<- hna];rfl
  refine jZ (first:=.ref h₀.a) (rest:=bE r) (key:=ki rk (new::h₀::r)) ae (by simp[bE];exact z2u hnl hrl) (by
   rw[<- eN]
   exact qF G (by show A.units+3+10<Aw;exact dn 87 hu) hSX' hT hR (λh hm=>hHE h (hsub h hm)) (λh hm=>hHX' h (hsub h hm)) (λh hm=>hO h (hsub h hm)) (λh hm=>hkey h (hsub h hm))) (by
   have e1:(AG h₀.a::bE r)=bE (h₀::r):=rfl
   rw[e1,aZ,show (h₀::r).length=n from J.len]
   exact J.heap.congr λj hj=>(fG (λh hm=>hkey h (aj hm)) (by rw[show (h₀::r).length=n from J.len];exact hj)).symm) ?_
  intro s4 vs' c' K4 hp4 hh4 S4
  rw[<- eN] at hp4 hh4
  obtain⟨Hs',rfl,hp'⟩:=bO _ hp4
  have hl':Hs'.length=n:=by rw[hp'.length_eq];exact J.len
  have hkey':∀ h∈Hs',ki rk (new::h₀::r) (.ref h.a)=fQ rk h:=λh hm=>hkey h (hsub h (hp'.mem_iff.mp hm))
  rw[aZ,show (new::r).length=n from J.len] at hh4
  have hheap:aX (oA rk Hs') n 0:=hh4.congr λj hj=>fG hkey' (z2v hl' hj)
  have J':=J.swap he hlt hi hne hno hp' hheap
  have hHX'':HOk ((na,aG [.ref e.a,.int ord to])::(I,oi')::(X++T₂)) Hs':=λh hm=>hHX' h (hsub h (hp'.mem_iff.mp hm))
  have hHk:HOk ((na,aG [.ref e.a,.int ord to])::X) Hs':=λh hm=>by
   rcases y7.mp (hp'.mem_iff.mp hm) with rfl|hm
   ·rw[hne,hna,hno,hnt];exact .head _
   ·exact aj (hH h (aj hm))
  match Hs',hl',J',hHX'',hHk,S4 with
  | [],hl',_,_,_,_=>simp at hl';exact z2w hrl hl'
  | h'::r',hl',J',hHX'',hHk,S4 =>
  refine j4 (gT Bb (au (env:=zy (aO w.params) L' 280) S4 m4 (wpAny_Constant_int ⟨⟨_,S4.obj _ m0,rfl⟩,?_⟩)))
  refine gv (x:=.ref h'.a) (vs:=bE r') S4 m0 (by rw[aZ];simp at hl';exact z2x hnl hl') (cI hh S4 (aj (hHX'' h' (.head _))) ?_)
  refine λay S5=>ia (env:=zy (aO w.params) L' 280) S5 (.old (.there (.there (.there .here)))) (λaz S6=>ia (env:=zy (aO w.params) L' 280) S6 (.new (by kernel_rfl)) (λba S7=>cE (xW (yL (env:=zy (aO w.params) L' 280) S7 m3 (wpAny_Constant_int (PySem.P.isub_int (aT (env:=zy (aO w.params) L' 280) S7 (.old (.there (.there (.there .here)))) ?_)))))))
  refine λbc S8=>aF (aF ?_)
  have S9:=S8.forget (l':=v8 L' res I D n Es.length tn ts h'.e.a (ord - 1) _) (.cons _ (.cons _ (Ag _)))
  have S10:=S9.perm (T':=(I,oi')::(D,ap (bE (h'::r')) c')::((na,aG [.ref e.a,.int ord to])::X++T₂)) (zi (l₁:=[(D,ap (bE (h'::r')) c'),(na,aG [.ref e.a,.int ord to])]) (l₂:=[(I,oi')]) |>.append_right (X++T₂))
  exact k _ [(na,aG [.ref e.a,.int ord to])] c' h' r' _ (ord - 1) _ ⟨K4.os,K4.gens⟩ J' hHk S10
 ·have hle:rkS rk e<=rkS rk h₀.e:=by have:=of_decide_eq_false q;exact z2y q
  refine aF (aF ?_)
  have af:=ah.forget (l':=v8 L' res I D n Es.length tn ts h₀.e.a ord to) (zl _ _)
  exact k _ [] c h₀ r (e::outs) ord to ⟨rfl,id⟩ (J.skip he hle) hH af
end
section
variable{T T₂ X:LO}{l:LV}{Es:List Sc}{n c:Nat}{Hs:List HI}
theorem sF(G:GK w hb)(hu:A.units+100<Aw)(hh:A.handled=none)(hm:(res,ap (aB Es) nr)∈T₂)(hS:SXk T₂ Es)(hT:kJ Es)(hR:kK rk Es)(hl:Es.length<=60)(hn0:0<n)(hn:n<Es.length)
  (hoi:bZ oi res n) (J:gP rk Es n n Hs [] (-(n:Int))) (hH:HOk X Hs) (S:St hb tabs L' (nmH L' res I D n Es.length tn ts) ((D,ap (bE Hs) c)::(I,oi)::(X++T₂)) s.heap) {Q:FP}
  (k:∀ (s':y9) (Y:LO) (r:ze) (nr':Nat) (P:List Sc) (l':LV),Kp s s'->P.Perm Es->P.Pairwise (λa b=>rkS rk b<=rkS rk a)->St hb tabs L' l' ((r,ap (aB (P.take n)) nr')::(Y++T₂)) s'.heap->Q (.ret (.ref r)) s') :
  y4 (y0 pw w) (A.deeper (dO w L')) (zY (nlB.drop 4) (dO w L')) Q E s:=by
 rcases Hs with _|⟨h₀,r⟩
 ·have:=J.len;simp at this;exact z2z hn0 this
 have hrl:r.length+1=n:=J.len
 have hHX:HOk ((D,ap (bE (h₀::r)) c)::(I,oi)::(X++T₂)) (h₀::r):=λh hm=>aj (aj (y5 _ (hH h hm)))
 refine aC (gT dS (gT Bb (au (env:=zy (aO w.params) L' 280) S m0 (wpAny_Constant_int ⟨⟨_,S.obj _ m0,rfl⟩,?_⟩))))
 refine gv (x:=.ref h₀.a) (vs:=bE r) S m0 (by rw[aZ];exact z30 hl hn hrl) (wpAny_Constant_int ⟨⟨_,S.obj _ (hHX h₀ (.head _)),rfl⟩,?_⟩)
 refine qJ S (hHX h₀ (.head _)) (by simp) (aT (env:=zy (aO w.params) L' 280) S (.new (by kernel_rfl)) ?_)
 refine λai ah=>aC (Nt (au (env:=zy (aO w.params) L' 280) ah m4 (MW (aT (env:=zy (aO w.params) L' 280) ah (.new (by kernel_rfl)) ?_))))
 refine λam af=>aC (cH G af (v:=.builtin "_heapq.heapreplace") (by kernel_rfl) (aT (env:=zy (aO w.params) L' 280) af (.new (by kernel_rfl)) ?_))
 refine λak ae=>eY (au (env:=zy (aO w.params) L' 280) ae m4 ?_)
 obtain⟨tok,S4⟩:∃ tok,St hb tabs L' (v8 L' res I D n Es.length tn ts h₀.e.a (-(n:Int)) tok) ((I,oi)::(D,ap (bE (h₀::r)) c)::(X++T₂)) ak:=⟨_,ae.perm (AJ _ _ _)⟩
 refine restate S4 λs4 K4 S4=>(FF (l:=res) (i:=n) ⟨_,S4.obj _ m0,hoi.1,hoi.2⟩ ?_)
 let H:Nat->LV->LO->Prop:=λi l₁ T1=>Ex7 λh' r' outs ord to c X=>An4 (gP rk Es n i (h'::r') outs ord) (l₁=v8 L' res I D n Es.length tn ts h'.e.a ord to) (T1=(D,ap (bE (h'::r')) c)::(X++T₂)) (HOk X (h'::r'))
 refine wO (d:=res) (vs:=aB Es) (n:=nr) (i₀:=n) (l:=v8 L' res I D n Es.length tn ts h₀.e.a (-(n:Int)) tok) (T:=(D,ap (bE (h₀::r)) c)::(X++T₂)) hh
  H S4 hoi (by rw[aJ];exact z2f hn) ⟨h₀,r,[],_,tok,c,X,J,rfl,rfl,hH⟩ (aj (yZ _ hm)) ?_ ?_
 ·rintro E1 i v l₁ T1 c8 s₁ hi0 hv ⟨h',r',outs,ord,to,c',X',J',rfl,rfl,hH'⟩ hd1 S5 K5
  have hv':∃ e,Es[i]? = some e/\v=.ref e.a:=by
   rw[aB,zB] at hv
   obtain⟨e,h1,h2⟩:=zW.mp hv
   exact⟨e,h1,h2.symm⟩
  obtain⟨e,he,rfl⟩:=hv'
  have hi60:i<60:=by
   have:=(zU.mp he).1
   exact z31 hl this
  refine qG (T₂:=T₂) (X:=X') G hu hh hS hT hR hi60 he hl (z32 hl hn) J' hH' S5 ?_ rfl
  exact λs' X2 bu ec bw outs2 ord2 to2 ao J2 hH2 S2'=>⟨_,_,S2',⟨ec,bw,outs2,ord2,to2,bu,X2++X',J2,rfl,rfl,hH2⟩,aj (yZ _ hm),K5.trans ao⟩
 ·rintro s5 l5 T5 K5 S5 ⟨h',r',outs,ord,to,c',X',J',rfl,rfl,hH'⟩
  replace K5:Kp s s5:=⟨K5.os.trans K4.os,λz=>K5.gens (K4.gens z)⟩
  rw[aJ] at J'
  have hrl':r'.length+1=n:=J'.len
  have hSX:SXk (X'++T₂) Es:=hS.mono λp hp=>yZ _ hp
  have hHX':HOk (X'++T₂) (h'::r'):=λh hm=>y5 _ (hH' h hm)
  refine bS (methodCall_KW (au (env:=zy (aO w.params) L' 280) S5 m3 (cM S5 m0 Fp Im (yN (Et (Ee (Jp ?_)))))))
  refine Jv Fp ⟨_,S5.obj _ m0,rfl⟩ PySem.F.entry_list_sort ?body (ng D)
  have hkey:∀ h∈h'::r',ki rk (h'::r') (.ref h.a)=fQ rk h:=λh hm=>kh (λh hm=>S5.obj _ (aj (hHX' h hm))) (λe he=>S5.sc ((hSX.mono λp hp=>aj hp) e he)) J'.sub hm
  have hpos:∀ h∈h'::r',0<=fQ rk h+60:=λh hm=>by
   have:=J'.ords h hm
   unfold fQ;exact z33 this.1
  refine iy (κ:=LZ false) (T:=X'++T₂) (λv=>(ki rk (h'::r') v+60).toNat) S5 (by rw[aZ];simp;exact z34 hl hn hrl') ?_ ?_ ?_
  ·refine λh2 s' T' Q' E' S' hin hq=>Nr (T:=.type "tuple") (hi_tups λh hm=>S'.obj _ (hin _ (hHX' h hm))) (by simp) (λv hv=>?_) rfl hq
   obtain⟨h,hm,rfl⟩:=za.mp hv
   exact (Looks.ld (S'.obj _ (hin _ (hSX _ (J'.sub h hm)).1))).andThen .now
  ·intro s' T' K' S' hin x hx y hy C hC
   obtain⟨ai,m1,rfl⟩:=za.mp hx
   obtain⟨am,m2,rfl⟩:=za.mp hy
   have p1:=hpos _ m1
   have p2:=hpos _ m2
   rw[hkey _ m1,hkey _ m2] at hC
   refine yx (Es:=Es) (rk:=rk) (by show A.units+3+1+4<Aw;exact dn 92 hu) (S'.nb G) hT hR (J'.sub _ m1) (J'.sub _ m2) (S'.sc ((hSX.mono hin) _ (J'.sub _ m1))) (S'.sc ((hSX.mono hin) _ (J'.sub _ m2))) (S'.obj _ (hin _ (hHX' _ m1))) (S'.obj _ (hin _ (hHX' _ m2))) (J'.ords _ m1) (J'.ords _ m2) ?_
   rw[show decide (fQ rk ai<fQ rk am)=decide ((fQ rk ai+60).toNat<(fQ rk am+60).toNat) from decide_eq_decide.mpr (x10 p1)]
   exact hC
  ·intro s6 c6 vs' K6 hp6 hw6 S6
   obtain⟨Hf,rfl,hpf⟩:=bO _ hp6
   replace K6:Kp s s6:=K5.trans K6
   have hsub:∀ h∈Hf,h∈h'::r':=λh hm=>hpf.mem_iff.mp hm
   have hfall:(Hf.map (·.e)).Pairwise λa b=>rkS rk b<=rkS rk a:=by
    rw[AT] at hw6 ⊢
    refine ES ?_ hw6
    intro a b ha hb h
    rw[hkey a (hsub a ha),hkey b (hsub b hb)] at h
    have p1:=hpos _ (hsub a ha)
    have p2:=hpos _ (hsub b hb)
    exact kU (J'.ords _ (hsub b hb)) (J'.ords _ (hsub a ha)) (z37 h p1)
   have hpe:(Hf.map (·.e)++outs).Perm Es:=by
    have:=J'.perm
    rw[zX] at this
    exact ((hpf.map (·.e)).append_right outs).trans this
   obtain⟨P,hP,hPw,hPt⟩:=oX hpe hfall (λo ho e he=>by
    obtain⟨h,hm,rfl⟩:=za.mp he
    exact J'.below o ho h (hsub h hm))
   have hfl:Hf.length=n:=by rw[hpf.length_eq];exact J'.len
   rw[zb,hfl] at hPt
   refine⟨_,rfl,?_⟩
   refine cP (jB (hb:=hb) (tabs:=tabs) hh ?_ (.inr ⟨_,_,_,rfl⟩) rfl (by decide) rfl (by decide))
   refine au (env:=zy (aO w.params) L' 280) S6 m3 ⟨L',_,_,D,bE Hf,c6,λi acc X=>X=[]/\acc=(aB (P.take n)).take i,rfl,by exact S6,m0,?_,⟨rfl,rfl⟩,?_,?_⟩
   ·rw[aZ];exact z2n hl hn hfl
   ·rintro C' D' oL' E' i v acc c X'' own ag hi hacc ⟨rfl,hJ⟩ bp ao af
    have hv:∃ h,Hf[i]? = some h/\v=.ref h.a:=by
     rw[bE,zB] at hi
     obtain⟨h,h1,h2⟩:=zW.mp hi
     exact⟨h,h1,h2.symm⟩
    obtain⟨h,he,rfl⟩:=hv
    have hm:=hHX' h (hsub h (zm he))
    refine cI hh af (y5 _ (aj (aj (aj hm)))) (λak ae=>ia (env:=An _ [] C' _) ae (.new (by kernel_rfl)) (λaw S4=>ia (env:=An _ [] C' _) S4 (.new (by kernel_rfl)) (λay S5=>cE (au (env:=An _ [] C' _) S5 m1 ⟨[],_,⟨ao.os,ao.gens⟩,S5,rfl,?_⟩))))
    have e2:(aB (P.take n))[i]? = some (.ref h.e.a):=by
     rw[hPt]
     unfold aB
     rw[zB,zB,he];rfl
    rw[Ah,e2,hJ]
    simp
   ·rintro s7 D' acc c7 X'' K7 S7 hl7 ⟨rfl,rfl⟩
    have e3:(aB (P.take n)).take (bE Hf).length=aB (P.take n):=by
     rw[C1]
     rw[aJ,aZ,Bc,hfl]
     exact z38
    rw[e3] at S7
    exact k s7 ((D,ap (bE Hf) c6)::X') D' c7 P _ (K6.trans K7) hP hPw S7
end
noncomputable def pK(rk:UInt64->List zH->Nat)(Es:List Sc):Value->Nat
 | .ref a=>((Es.find? λe=>e.a==a).map (rkS rk)).getD 0
 | _=>0
theorem ie{rk:UInt64->List zH->Nat}{Es:List Sc}{hp:AE}(hE:∀ e∈Es,ScH hp e){e:Sc}(hm:e∈Es):pK rk Es (.ref e.a)=rkS rk e:=by
 show ((Es.find? λe'=>e'.a==e.a).map (rkS rk)).getD 0=rkS rk e
 cases hf:Es.find? λe'=>e'.a==e.a with
 | none=>exact absurd (E6.mp hf e hm) (by simp)
 | some e' =>
  have ha:e'.a=e.a:=by simpa using Iz hf
  obtain⟨s1,s2⟩:=jV (hE _ (EH hf)) (hE _ hm) ha
  show rkS rk e'=rkS rk e
  unfold rkS
  rw[s1,s2]
theorem nl_c{w:Am}{hb:AE}(G:GK w hb):NLC w hb:=by
 intro A s L l T R res Es nr n tn rk S hd hu hh hm hS0 hT hX hl hn0 hR k
 have hS:SXk T Es:=λe he=>⟨hS0 e he,hX e he⟩
 have hrkv:∀ e∈Es,pK rk Es (.ref e.a)=rkS rk e:=λe he=>ie (λe he=>S.sc (hS e he)) he
 by_cases h1:n=1
 ·subst h1
  exact x0 G S hd hu hh hm hS hT hl hR (pK rk Es) hrkv k
 ·refine v9 G S hd hu hh hm hl h1 ?_ ?_
  ·refine λhge L' s₁ oL ob ts Q E' hq r hob ar ah=>x5 G hu hm hS hT hl hR (pK rk Es) hrkv hob ah (λag X d P ao hP hw af=>hq _ _ ?_)
   have ae:=af.perm (T':=(L,oL)::(d,ap (aB (P.take n)) 0)::((X++[(L'+1,ob)])++T)) (by
    have e:(d,ap (aB (P.take n)) 0)::(X++((L'+1,ob)::(L,oL)::T))=((d,ap (aB (P.take n)) 0)::(X++[(L'+1,ob)]))++((L,oL)::T):=by simp
    rw[e]
    exact zs)
   exact k ag (X++[(L'+1,ob)]) d 0 P (ar.trans ao) (ae.leave 0 rfl r) hP hw
  ·refine λhlt L' s₁ oL ob ts r hob ar ah=>sG G (dn 10 hd) hu hh hm hS hT hl hR hn0 hlt hob ah (λag X I D oi c Hs Q' hq ao hoi hH J af=>sF G hu hh (aj (aj hm)) (hS.mono λp hp=>aj (aj hp)) hT hR hl hn0 hlt hoi J hH af (λs3 Y d nr' P l' ax hP hw ae=>hq _ _ ?_))
   have S4:=ae.perm (T':=(L,oL)::(d,ap (aB (P.take n)) nr')::((Y++[(L'+1,ob)])++T)) (by
    have e:(d,ap (aB (P.take n)) nr')::(Y++((L'+1,ob)::(L,oL)::T))=((d,ap (aB (P.take n)) nr')::(Y++[(L'+1,ob)]))++((L,oL)::T):=by simp
    rw[e]
    exact zs)
   exact k s3 (Y++[(L'+1,ob)]) d nr' P ((ar.trans ao).trans ax) (S4.leave 0 rfl r) hP hw
end
noncomputable def shL:List UInt64:=[0,4593971859893063953,4594314991293244562,4594710912139606804,4595172819793696085,4595718710657619782,4596373779694328218,4597174419628082972,4598175219545276416,4598475459520434449,4598818590920615058,4599214511766977300,4599676419421066581,4600222310284990278,4600877379321698714,4601392076421969627,4601678019255453468,4601985957691512990,4602678819172646912,4602979059147804945,4603088237320589684,4603322190547985554,4603579539098121011,4603718111394347796,4604180019048437077,4604608933298662839,4604725909912360774,4604930618986332160,4605103834356615641,4605380978949069210,4605681218924227243,4605895676049340123,4606181618882823964,4606363582504131863,4607182418800017408]
noncomputable def geF(c f:UInt64):Bool:=zV f c==some Ordering.gt || zV f c==some Ordering.eq
noncomputable def geI(f:UInt64):Bool:=Cx f 0==some Ordering.gt || Cx f 0==some Ordering.eq
theorem wZ:(shL.all λa=>shL.all λb=>zV a b==some (compare a.toNat b.toNat))=true:=by decide +kernel
theorem tU:(shL.all λa=>geI a)=true:=by decide +kernel
theorem pq:((zM 16).all λn=>(zM 6).all λm=>!(decide (2 * m<=n)) || shL.contains (bK m n))=true:=by decide +kernel
theorem jn:((zM 16).all λn=>(zM 6).all λm=>(zM 6).all λk=>!(decide (2 * k<=n)) || !(decide (m<=k)) || decide ((bK m n).toNat<=(bK k n).toNat))=true:=by decide +kernel
noncomputable def hit(la lb:List zH)(k i j:Nat):Bool:=decide ((la.drop i).take k=(lb.drop j).take k)
noncomputable def cmJ(la lb:List zH)(k i:Nat):Option Nat:=(zM (lb.length - k+1)).find? (hit la lb k i)
noncomputable def cmI(la lb:List zH)(k:Nat):Option (Nat×Nat):=(zM (la.length - k+1)).findSome? λi=>(cmJ la lb k i).map λj=>(i,j)
noncomputable def cmS(la lb:List zH):Nat->Option (Nat×Nat×Nat)
 | 0=>none
 | k+1=>match cmI la lb (k+1) with
  | some (i,j)=>some (i,j,k+1)
  | none=>cmS la lb k
noncomputable def cm:Nat->List zH->List zH->Nat
 | 0,_,_=>0
 | f+1,la,lb=>match cmS la lb (L4 la.length lb.length) with
  | none=>0
  | some (i,j,k)=>k+cm f (la.take i) (lb.take j)+cm f (la.drop (i+k)) (lb.drop (j+k))
theorem w0{la lb:List zH}{k:Nat}:cmS la lb (k+1)=match cmI la lb (k+1) with|some (i,j)=>some (i,j,k+1)|none=>cmS la lb k:=rfl
theorem cm_s{f:Nat}{la lb:List zH}:cm (f+1) la lb=match cmS la lb (L4 la.length lb.length) with|none=>0|some (i,j,k)=>k+cm f (la.take i) (lb.take j)+cm f (la.drop (i+k)) (lb.drop (j+k)):=rfl
theorem nx{p:Nat->Bool}{m j:Nat}(hj:j<m)(h:p j=true)(hb:∀ i<j,p i=false):(zM m).find? p=some j:=by
 rw[List.find?_range_eq_some]
 exact⟨h,zR.mpr hj,λi hi=>by rw[hb i hi];rfl⟩
theorem l9{p:Nat->Bool}{m:Nat}(hb:∀ i<m,p i=false):(zM m).find? p=none:=by
 rw[E6]
 intro i hi
 rw[hb i (zR.mp hi)]
 decide
theorem mJ{α:Type}{f:Nat->Option α}{m i:Nat}{a:α}(hi:i<m)(h:f i=some a)(hb:∀ i'<i,f i'=none):(zM m).findSome? f=some a:=by
 obtain⟨d,rfl⟩:=Nat.exists_eq_add_of_lt hi
 rw[show i+d+1=i+(1+d) by exact zgz,List.range_add,List.findSome?_append]
 have e:(zM i).findSome? f=none:=GW.mpr λx hx=>hb x (zR.mp hx)
 rw[e,Option.none_or,List.findSome?_map,show 1+d=d+1 by exact zh0,List.range_succ_eq_map,List.findSome?_cons]
 simp[h]
theorem pc{α:Type}{f:Nat->Option α}{m:Nat}(hb:∀ i'<m,f i'=none):(zM m).findSome? f=none:=GW.mpr λx hx=>hb x (zR.mp hx)
theorem uu(k:Nat):∀ i j:Nat,(∀ t,t<k->eK la lb (i - t) (j - t)=true)->alo+k<=i+1->blo+k<=j+1->k<=sfx la lb alo blo i j:=by
 induction k with
 | zero=>exact λZ Z Z Z Z=>zA _
 | succ k ih =>
  intro i j h hi hj
  rw[jS (by have:=h 0 z64;exact this)]
  cases k with
  | zero=>exact zh1
  | succ k =>
   rw[pv,if_pos ⟨by exact zh2 hi,by exact zh2 hj⟩]
   refine C4 (ih (i - 1) (j - 1) (λt ht=>?_) (zh8 hi) (zh8 hj))
   have:=h (t+1) (zhd ht)
   rw[show i - 1 - t=i - (t+1) by exact zhe,show j - 1 - t=j - (t+1) by exact zhe]
   exact this
def lexL(a b:Nat×Nat):Prop:=a.1<b.1\/(a.1=b.1/\a.2<b.2)
theorem kS(i:Nat):(fW la lb blo bhi i).Pairwise (· < ·):=by
 unfold fW
 split
 ·unfold xi bN
  exact ((Fn).filter _).filter _
 ·exact Kq
theorem lz:(cells la lb alo ahi blo bhi).Pairwise lexL:=by
 unfold cells
 rw[List.pairwise_flatMap]
 refine⟨λi hi=>?_,?_⟩
 ·rw[AT]
  exact (kS i).imp λh=>.inr ⟨rfl,h⟩
 ·refine (List.pairwise_lt_range' (s:=alo) (n:=ahi - alo)).imp ?_
  intro a b hab x hx y hy
  obtain⟨j,_,rfl⟩:=za.mp hx
  obtain⟨j',_,rfl⟩:=za.mp hy
  exact .inl hab
theorem qU(hk:0<(flm la lb alo ahi blo bhi).2.2){i j:Nat}(hi:alo<=i)(hi2:i+(flm la lb alo ahi blo bhi).2.2<=ahi)(hj:blo<=j)(hj2:j+(flm la lb alo ahi blo bhi).2.2<=bhi)
  (run:∀ t,t<(flm la lb alo ahi blo bhi).2.2->eK la lb (i+t) (j+t)=true) :
  (flm la lb alo ahi blo bhi).1<i\/((flm la lb alo ahi blo bhi).1=i/\(flm la lb alo ahi blo bhi).2.1<=j):=by
 rw[qT] at hk hi2 hj2 run ⊢
 have inv:=qP (λc:Nat×Nat=>sfx la lb alo blo c.1 c.2) (cells la lb alo ahi blo bhi) [] (none,0) ⟨nofun,rfl⟩
 rw[Dh] at inv
 generalize fmx (λc:Nat×Nat=>sfx la lb alo blo c.1 c.2) (cells la lb alo ahi blo bhi) (none,0)=o at inv hk hi2 hj2 run
 obtain⟨o,k⟩:=o
 have h2:=inv.2
 cases o with
 | none =>
  replace h2:k=0:=h2
  subst h2
  exact absurd hk (Aj _)
 | some c =>
  obtain⟨ci,cj⟩:=c
  obtain⟨hf,hk',pre,post,hc,hp⟩:=h2
  replace hf:sfx la lb alo blo ci cj=k:=hf
  replace hk:0<k:=hk
  replace hi2:i+k<=ahi:=hi2
  replace hj2:j+k<=bhi:=hj2
  replace run:∀ t,t<k->eK la lb (i+t) (j+t)=true:=run
  show ci+1 - k<i\/(ci+1 - k=i/\cj+1 - k<=j)
  have hge:k<=sfx la lb alo blo (i+k - 1) (j+k - 1):=by
   refine uu k _ _ (λt ht=>?_) (zh9 hi) (zh9 hj)
   have:=run (k - 1 - t) (zhf hk')
   rw[show i+k - 1 - t=i+(k - 1 - t) by exact zhi ht,show j+k - 1 - t=j+(k - 1 - t) by exact zhi ht]
   exact this
  have hm:(i+k - 1,j+k - 1)∈cells la lb alo ahi blo bhi:=gl.mpr ⟨⟨by exact zhl hi hk',by exact zhm hk' hi2⟩,by
   have:=run (k - 1) (zfl hk')
   rw[show i+k - 1=i+(k - 1) by exact zho hk',show j+k - 1=j+(k - 1) by exact zho hk']
   exact this,by exact zhl hj hk',by exact zhm hk' hj2⟩
  have hcm:(ci,cj)∈cells la lb alo ahi blo bhi:=by rw[hc];exact yZ _ (.head _)
  have hcm2:=gl.mp hcm
  have hb1:k<=ci+1 - alo:=by
   rcases pA (la:=la) (lb:=lb) (alo:=alo) (blo:=blo) ci cj with q|q
   ·rw[hf] at q;exact q
   ·exact absurd hcm2.1.1 (KX q)
  have hb2:k<=cj+1 - blo:=by
   rcases lL (la:=la) (lb:=lb) (alo:=alo) (blo:=blo) ci cj with q|q
   ·rw[hf] at q;exact q
   ·exact absurd hcm2.2.2.1 (KX q)
  clear hcm hcm2
  have hs:=lz (la:=la) (lb:=lb) (alo:=alo) (ahi:=ahi) (blo:=blo) (bhi:=bhi)
  rw[hc] at hm hs
  rcases zc.mp hm with q|q
  ·have:=hp _ q
   replace this:sfx la lb alo blo (i+k - 1) (j+k - 1)<k:=this
   exact zhr hge this
  ·rcases y7.mp q with e|q
   ·cases e
    right
    exact⟨by exact zhs hk,by exact zht hk⟩
   ·have:=(DM.mp (I7.mp hs).2.1).1 _ q
    rcases this with z|⟨z1,z2⟩
    ·replace z:ci<i+k - 1:=z
     left;exact zhv hb1 z
    ·replace z1:ci=i+k - 1:=z1
     replace z2:cj<j+k - 1:=z2
     right
     exact⟨by exact zhw hk' z1,by exact zhy z2⟩
noncomputable def sl(l:List zH)(a b:Nat):List zH:=(l.take b).drop a
theorem fU{l:List zH}{a b:Nat}(h:b<=l.length):(sl l a b).length=b - a:=by
 unfold sl
 rw[EF,Bc];exact zh3 h
theorem mK{l:List zH}{a b i:Nat}(h:a+i<b):(sl l a b)[i]? = l[a+i]?:=by
 unfold sl
 rw[E7,Dw h]
theorem pi{l:List zH}{a b c:Nat}(h1:a<=c)(h2:c<=b):(sl l a b).take (c - a)=sl l a c:=by
 unfold sl
 rw[List.take_drop,List.take_take,show a+(c - a)=c by exact zh4 h1,Iv h2]
theorem pj{l:List zH}{a b c:Nat}(h1:a<=c):(sl l a b).drop (c - a)=sl l c b:=by
 unfold sl
 rw[Jb,show a+(c - a)=c by exact zh4 h1]
theorem lr{i j:Nat}(hi:i<la.length)(hj:j<lb.length):eK la lb i j=true↔la[i]? = lb[j]?:=by
 unfold eK
 rw[zj hi,zj hj]
 show decide (la[i]=lb[j])=true↔_
 rw[decide_eq_true_eq];exact⟨congrArg some,AB⟩
theorem kl{k i j:Nat}(ha:ahi<=la.length)(hb:bhi<=lb.length)(hi:alo+i+k<=ahi)(hj:blo+j+k<=bhi) :
  hit (sl la alo ahi) (sl lb blo bhi) k i j=true↔∀ t,t<k->eK la lb (alo+i+t) (blo+j+t)=true:=by
 unfold hit
 rw[decide_eq_true_eq]
 constructor
 ·intro h t ht
  have h2:=congrArg (λl=>l[t]?) h
  simp only[Dw ht,E7] at h2
  rw[mK (by exact zh5 hi ht),mK (by exact zh5 hj ht)] at h2
  rw[lr (by exact zhb ha hi ht) (by exact zhb hb hj ht),HA,HA]
  exact h2
 ·intro h
  apply Ct
  intro t
  by_cases ht:t<k
  ·rw[Dw ht,Dw ht,E7,E7,mK (by exact zh5 hi ht),mK (by exact zh5 hj ht)]
   have:=(lr (by exact zhb ha hi ht) (by exact zhb hb hj ht)).mp (h t ht)
   rw[HA,HA] at this
   exact this
  ·rw[zP (by rw[Bc];exact zhh ht),zP (by rw[Bc];exact zhh ht)]
theorem nJ:∀ (n:Nat),(∀ k,0<k->k<=n->cmI la lb k=none)->cmS la lb n=none:=by
 intro n
 induction n with
 | zero =>
  intro Z
  exact rfl
 | succ n ih =>
  intro h
  rw[w0,h (n+1) (Ft _) (zh _)]
  exact ih λk h1 h2=>h k h1 (Ec h2)
theorem nI{i j k:Nat}(hk:0<k)(hi:cmI la lb k=some (i,j)):∀ (n:Nat),k<=n->(∀ k',k<k'->k'<=n->cmI la lb k'=none)->cmS la lb n=some (i,j,k):=by
 intro n
 induction n with
 | zero =>
  intro h Z
  lia
 | succ n ih =>
  intro h hn
  rw[w0]
  by_cases q:k=n+1
  ·subst q;rw[hi]
  ·rw[hn (n+1) (zh7 h q) (zh _)]
   exact ih (zha h q) λk' h1 h2=>hn k' h1 (Ec h2)
theorem wc:∀ (f alo ahi blo bhi:Nat),alo<=ahi->ahi<=la.length->blo<=bhi->bhi<=lb.length->lE la lb f alo ahi blo bhi=cm f (sl la alo ahi) (sl lb blo bhi):=by
 intro f
 induction f with
 | zero =>
  intro Z Z Z Z Z Z Z Z
  exact rfl
 | succ f ih =>
  intro alo ahi blo bhi h1 h2 h3 h4
  have B:=cR la lb alo ahi blo bhi
  have hlo:=B.lo
  have hhi:=B.hi
  rw[BF h1,BF h3] at hhi
  have F:=λhk i j=>qU (la:=la) (lb:=lb) (alo:=alo) (ahi:=ahi) (blo:=blo) (bhi:=bhi) hk (i:=i) (j:=j)
  have most:=B.most
  have run:=B.run
  have nohit:∀ k i j,(flm la lb alo ahi blo bhi).2.2<k->i+k<=ahi - alo->j+k<=bhi - blo->hit (sl la alo ahi) (sl lb blo bhi) k i j=false:=by
   intro k i j hk hi hj
   cases q:hit (sl la alo ahi) (sl lb blo bhi) k i j with
   | false=>rfl
   | true =>
    have r:=(kl h2 h4 (by exact zhc h1 hi) (by exact zhc h3 hj)).mp q
    have ge:k<=sfx la lb alo blo (alo+i+k - 1) (blo+j+k - 1):=by
     refine uu k _ _ (λt ht=>?_) zhg zhg
     have:=r (k - 1 - t) (by exact zhk ht)
     rw[show alo+i+k - 1 - t=alo+i+(k - 1 - t) by exact zhn ht,show blo+j+k - 1 - t=blo+j+(k - 1 - t) by exact zhn ht]
     exact this
    have:=most (alo+i+k - 1) (blo+j+k - 1) (zhp hk) (zhq hk hi) (zhp hk) (zhq hk hj)
    exact zhu hk ge this
  have noI:∀ k,(flm la lb alo ahi blo bhi).2.2<k->k<=L4 (sl la alo ahi).length (sl lb blo bhi).length->cmI (sl la alo ahi) (sl lb blo bhi) k=none:=by
   intro k hk hn
   rw[fU h2,fU h4] at hn
   refine pc λi hi=>?_
   rw[fU h2] at hi
   have e:cmJ (sl la alo ahi) (sl lb blo bhi) k i=none:=l9 λj hj=>by
    rw[fU h4] at hj
    exact nohit k i j hk (zhx hn hi) (zhz hn hj)
   rw[e];rfl
  rw[jC,cm_s]
  by_cases hz:(flm la lb alo ahi blo bhi).2.2=0
  ·rw[if_pos hz,nJ _ λk hk hn=>noI k (zi0 hz hk) hn]
  ·rw[if_neg hz]
   generalize hb:flm la lb alo ahi blo bhi=b at *
   obtain⟨bi,bj,k⟩:=b
   simp only at hlo hhi run most F nohit noI hz ⊢
   have hk:0<k:=z6o hz
   have hJ:cmJ (sl la alo ahi) (sl lb blo bhi) k (bi - alo)=some (bj - blo):=by
    refine nx (by rw[fU h4];exact zi1 hhi.2) ?_ λj hj=>?_
    ·refine (kl h2 h4 (by exact zi2 hlo.1 hhi.1) (by exact zi2 hlo.2 hhi.2)).mpr λt ht=>?_
     rw[show alo+(bi - alo)+t=bi+t by exact zi3 hlo.1,show blo+(bj - blo)+t=bj+t by exact zi3 hlo.2]
     exact run t ht
    ·cases q:hit (sl la alo ahi) (sl lb blo bhi) k (bi - alo) j with
     | false=>rfl
     | true =>
      have r:=(kl h2 h4 (zi2 hlo.1 hhi.1) (zi4 hhi.2 hj)).mp q
      have:=F hk (alo+(bi - alo)) (blo+j) zi5 (zi2 hlo.1 hhi.1) z7q (zi4 hhi.2 hj) r
      exact zi6 hlo.1 hj this
   have hI:cmI (sl la alo ahi) (sl lb blo bhi) k=some (bi - alo,bj - blo):=by
    refine mJ (i:=bi - alo) (by rw[fU h2];exact zi1 hhi.1) (by rw[hJ];rfl) λi hi=>?_
    have e:cmJ (sl la alo ahi) (sl lb blo bhi) k i=none:=l9 λj hj=>by
     rw[fU h4] at hj
     cases q:hit (sl la alo ahi) (sl lb blo bhi) k i j with
     | false=>rfl
     | true =>
      have r:=(kl h2 h4 (zi4 hhi.1 hi) (zi7 hlo.2 hhi.2 hj)).mp q
      have:=F hk (alo+i) (blo+j) z7q (zi4 hhi.1 hi) z7q (zi7 hlo.2 hhi.2 hj) r
      exact zi8 hi this
    rw[e];rfl
   rw[nI hk hI _ (by rw[fU h2,fU h4];exact zi9 hlo.1 hlo.2 hhi.1 hhi.2) λk' q1 q2=>noI k' q1 q2]
   show k+lE la lb f alo bi blo bj+lE la lb f (bi+k) ahi (bj+k) bhi=k+cm f _ _+cm f _ _
   rw[pi (by exact hlo.1) (by exact zia hhi.1),pi (by exact hlo.2) (by exact zia hhi.2),show bi - alo+k=bi+k - alo by exact zib hlo.1,show bj - blo+k=bj+k - blo by exact zib hlo.2,pj (by exact zic hlo.1),pj (by exact zic hlo.2),
    ih alo bi blo bj hlo.1 (zid h2 hhi.1) hlo.2 (zid h4 hhi.2),ih (bi+k) ahi (bj+k) bhi hhi.1 h2 hhi.2 h4]
theorem yb:mt la lb (0,la.length,0,lb.length)=cm (la.length+1) la lb:=by
 have h:=wc (la:=la) (lb:=lb) (la.length+1) 0 la.length 0 lb.length (zA _) (zh _) (zA _) (zh _)
 unfold mt
 rw[h]
 unfold sl
 simp
theorem nG{c:zH}{l l':List zH}(h:l.Perm l'):cnt c l=cnt c l':=by
 induction h with
 | nil=>rfl
 | cons x _ ih=>rw[fM,fM,ih]
 | swap x y l=>rw[fM,fM,fM,fM];exact z0b
 | trans _ _ h1 h2=>exact h1.trans h2
theorem j7:∀ (m l:List zH),(∀ c,cnt c m<=cnt c l)->m.length<=l.length:=by
 intro m
 induction m with
 | nil =>
  intro Z Z
  exact zA _
 | cons d m ih =>
  intro l h
  have hd:d∈l:=by
   apply BB
   intro q
   have:=h d
   rw[kC.mpr q,fM,if_pos rfl] at this
   exact zif this
  obtain⟨a,b,rfl⟩:=GV hd
  have:=ih (a++b) λc=>by
   have:=h c
   rw[fM,bG,fM] at this
   rw[bG]
   exact zig this
  rw[zI,zK,zI]
  rw[zK] at this
  exact zii this
theorem su(lb:List zH):∀ l:List zH,∃ m:List zH,m.length=qpr lb l/\∀ c,cnt c m<=cnt c l/\cnt c m<=cnt c lb/\(cnt c m=cnt c l\/cnt c m=cnt c lb):=by
 intro l
 induction l with
 | nil =>
  exact⟨[],rfl,λc=>⟨zh _,zA _,.inl rfl⟩⟩
 | cons d r ih =>
  obtain⟨m,hm,h⟩:=ih
  have e:cnt d r.reverse=cnt d r:=nG (Ed r)
  rw[vQ,e]
  by_cases q:cnt d r<cnt d lb
  ·rw[if_pos q]
   refine⟨d::m,by rw[zI,hm],λc=>?_⟩
   have hc:=h c
   rw[fM,fM]
   by_cases z:d=c
   ·subst z
    rw[if_pos rfl]
    exact zij q hc.1 hc.2.2
   ·rw[if_neg z]
    simpa using hc
  ·rw[if_neg q]
   refine⟨m,hm,λc=>?_⟩
   have hc:=h c
   rw[fM]
   by_cases z:d=c
   ·subst z
    rw[if_pos rfl]
    exact zin q hc.2.1 hc.2.2
   ·rw[if_neg z]
    simpa using hc
theorem pZ(lb la:List zH):∃ m:List zH,m.length=qp lb la/\∀ c,cnt c m<=cnt c la/\cnt c m<=cnt c lb/\(cnt c m=cnt c la\/cnt c m=cnt c lb):=by
 obtain⟨m,hm,h⟩:=su lb la.reverse
 refine⟨m,hm,λc=>?_⟩
 have:=h c
 rwa [nG (Ed la)] at this
theorem sv(lb la:List zH):qp lb la<=lb.length:=by
 obtain⟨m,hm,h⟩:=pZ lb la
 rw[<- hm]
 exact j7 m lb λc=>(h c).2.1
theorem xU{lb la m:List zH}(h:∀ c,cnt c m<=cnt c la/\cnt c m<=cnt c lb):m.length<=qp lb la:=by
 obtain⟨m',hm,h'⟩:=pZ lb la
 rw[<- hm]
 refine j7 m m' λc=>?_
 have h1:=h c
 have h2:=h' c
 exact zik h1.1 h1.2 h2.2.2
theorem w5{la lb:List zH}{k i j:Nat}(hk:k<=L4 la.length lb.length)(h:cmI la lb k=some (i,j)):hit la lb k i j=true/\i+k<=la.length/\j+k<=lb.length:=by
 unfold cmI at h
 obtain⟨i',hi,e⟩:=List.exists_of_findSome?_eq_some h
 obtain⟨j',hj,e⟩:=zW.mp e
 cases e
 unfold cmJ at hj
 have h1:=Iz hj
 have h2:=EH hj
 rw[zR] at hi h2
 exact⟨h1,by exact zim hk hi,by exact zio hk h2⟩
theorem w4{la lb:List zH}:∀ {n i j k:Nat},n<=L4 la.length lb.length->cmS la lb n=some (i,j,k)->hit la lb k i j=true/\i+k<=la.length/\j+k<=lb.length:=by
 intro n
 induction n with
 | zero =>
  intro Z Z Z Z h
  cases h
 | succ n ih =>
  intro i j k hn h
  rw[w0] at h
  cases q:cmI la lb (n+1) with
  | none=>rw[q] at h;exact ih (zih hn) h
  | some p =>
   obtain⟨a,b⟩:=p
   rw[q] at h
   cases h
   exact w5 hn q
theorem rf:∀ (f:Nat) (la lb:List zH),∃ m:List zH,m.length=cm f la lb/\∀ c,cnt c m<=cnt c la/\cnt c m<=cnt c lb:=by
 intro f
 induction f with
 | zero =>
  intro Z Z
  exact⟨[],rfl,λc=>⟨zA _,zA _⟩⟩
 | succ f ih =>
  intro la lb
  rw[cm_s]
  cases q:cmS la lb (L4 la.length lb.length) with
  | none=>exact⟨[],rfl,λc=>⟨zA _,zA _⟩⟩
  | some p =>
   obtain⟨i,j,k⟩:=p
   obtain⟨h1,h2,h3⟩:=w4 (zh _) q
   have h1:(la.drop i).take k=(lb.drop j).take k:=of_decide_eq_true h1
   obtain⟨m1,e1,l1⟩:=ih (la.take i) (lb.take j)
   obtain⟨m2,e2,l2⟩:=ih (la.drop (i+k)) (lb.drop (j+k))
   refine⟨(la.drop i).take k++m1++m2,?_,λc=>?_⟩
   ·rw[zK,zK,e1,e2,Bc,EF,Iv (by exact zil h2)]
   ·have a1:=l1 c
    have a2:=l2 c
    have s1:cnt c la=cnt c (la.take i)+(cnt c ((la.drop i).take k)+cnt c (la.drop (i+k))):=by
     rw[<- Jb,<- bG,CG,<- bG,CG]
    have s2:cnt c lb=cnt c (lb.take j)+(cnt c ((lb.drop j).take k)+cnt c (lb.drop (j+k))):=by
     rw[<- Jb,<- bG,CG,<- bG,CG]
    rw[bG,bG]
    rw[<- h1] at s2
    exact zip a1.1 a1.2 a2.1 a2.2 s1 s2
theorem cm_qp(f:Nat)(la lb:List zH):cm f la lb<=qp lb la:=by
 obtain⟨m,hm,h⟩:=rf f la lb
 rw[<- hm]
 exact xU h
noncomputable def LA:zH:=yW "a"
noncomputable def LB:zH:=yW "b"
noncomputable def LC:zH:=yW "c"
def Abc(s:zH):Prop:=s=LA\/s=LB\/s=LC
noncomputable def dig(s:zH):Nat:=if s=LA then 1 else if s=LB then 2 else 3
theorem mh:dig LA=1/\dig LB=2/\dig LC=3:=by decide +kernel
theorem oN:([LA,LB,LC].all λa=>[LA,LB,LC].all λb=>(decide (a=b)==decide (dig a=dig b))&&(decide (a.cps.toList<b.cps.toList)==decide (dig a<dig b)))=true:=by decide +kernel
theorem rB{s:zH}(h:Abc s):s∈[LA,LB,LC]:=by
 rcases h with rfl|rfl|rfl
 ·exact .head _
 ·exact aj (.head _)
 ·exact aj (aj (.head _))
theorem i5{s:zH}(h:Abc s):1<=dig s/\dig s<=3:=by
 rcases h with rfl|rfl|rfl
 ·rw[mh.1];decide
 ·rw[mh.2.1];decide
 ·rw[mh.2.2];decide
theorem tO{a b:zH}(ha:Abc a)(hb:Abc b):(a=b↔dig a=dig b)/\(a.cps.toList<b.cps.toList↔dig a<dig b):=by
 have h:=zC.mp (zC.mp oN a (rB ha)) b (rB hb)
 obtain⟨h1,h2⟩:=zo.mp h
 exact⟨decide_eq_decide.mp (Ap h1),decide_eq_decide.mp (Ap h2)⟩
noncomputable def code:Nat->List zH->Nat
 | 0,_=>0
 | _+1,[]=>0
 | W+1,c::l=>dig c * 4 ^ W+code W l
theorem re{W:Nat}{c:zH}{l:List zH}:code (W+1) (c::l)=dig c * 4 ^ W+code W l:=rfl
theorem fK:∀ (W:Nat) (l:List zH),(∀ c∈l,Abc c)->code W l<4 ^ W
 | 0,_,_=>(by decide:0<4 ^ 0)
 | W+1,[],_=>Lp (by decide)
 | W+1,c::l,h=>by
  have h1:=(i5 (h c (.head _))).2
  have h2:=fK W l λd hd=>h d (aj hd)
  have h3:dig c * 4 ^ W<=3 * 4 ^ W:=Dk _ h1
  exact ze9 h2 h3
theorem li(r:List zH):ltW [] r=decide (0<r.length):=iS (.inl (zA _))
theorem jd:∀ (W:Nat) (l r:List zH),l.length<=W->r.length<=W->(∀ c∈l,Abc c)->(∀ c∈r,Abc c)->(l=r↔code W l=code W r)/\(ltW l r=true↔code W l<code W r):=by
 intro W
 induction W with
 | zero =>
  intro l r h1 h2 Z Z
  cases FZ (Lq.mp h1)
  cases FZ (Lq.mp h2)
  exact (⟨⟨λZ=>rfl,λZ=>rfl⟩,⟨λq=>(by cases q),λq=>absurd q (Aj _)⟩⟩)
 | succ W ih =>
  intro l r h1 h2 hl hr
  cases l with
  | nil =>
   cases r with
   | nil=>exact (⟨⟨λZ=>rfl,λZ=>rfl⟩,⟨λq=>(by cases q),λq=>absurd q (Aj _)⟩⟩)
   | cons b r =>
    have h1:=(i5 (hr b (.head _))).1
    have h2:1 * 4 ^ W<=dig b * 4 ^ W:=Dk _ h1
    have h3:0<4 ^ W:=Lp (by decide)
    rw[li,show code (W+1) []=0 from rfl,re]
    refine⟨⟨λq=>(by cases q),λq=>(Ab (zek h2 h3) q).elim⟩,⟨λZ=>by exact zek h2 h3,λZ=>by simp⟩⟩
  | cons a l =>
   cases r with
   | nil =>
    have h1:=(i5 (hl a (.head _))).1
    have h2:1 * 4 ^ W<=dig a * 4 ^ W:=Dk _ h1
    have h3:0<4 ^ W:=Lp (by decide)
    refine⟨⟨λq=>(by cases q),λq=>(Cc (zek h2 h3) q).elim⟩,⟨λq=>(by cases q),λq=>by exact zen q⟩⟩
   | cons b r =>
    have ih:=ih l r (DQ h1) (DQ h2) (λd hd=>hl d (aj hd)) λd hd=>hr d (aj hd)
    have hd:=tO (hl a (.head _)) (hr b (.head _))
    have c1:=fK W l λd hd=>hl d (aj hd)
    have c2:=fK W r λd hd=>hr d (aj hd)
    rw[mZ,re,re]
    by_cases q:a=b
    ·have e:=hd.1.mp q
     rw[if_pos q,e]
     refine⟨⟨λz=>?_,λz=>?_⟩,⟨λz=>?_,λz=>?_⟩⟩
     ·have:=(Hr z).2;rw[this]
     ·rw[q,ih.1.mpr (Nat.add_left_cancel z)]
     ·exact Jq (ih.2.mp z) _
     ·exact ih.2.mpr (Nat.lt_of_add_lt_add_left z)
    ·have ne:dig a≠dig b:=λz=>q (hd.1.mpr z)
     rw[if_neg q,decide_eq_true_eq,hd.2]
     have key:∀ x y:Nat,x<y->x * 4 ^ W+4 ^ W<=y * 4 ^ W:=λx y z=>by
      have:=Dk (4 ^ W) z
      rwa [M9] at this
     rcases Nat.lt_or_gt_of_ne ne with z|z
     ·have:=key _ _ z
      exact⟨⟨λe=>absurd (Hr e).1 q,λe=>(Ab (zes c1 this) e).elim⟩,⟨λZ=>by exact zes c1 this,λZ=>z⟩⟩
     ·have:=key _ _ z
      exact⟨⟨λe=>absurd (Hr e).1 q,λe=>(Cc (zes c2 this) e).elim⟩,⟨λe=>by exact zev z e,λe=>by exact zew c2 this e⟩⟩
noncomputable def rkW(f:UInt64)(l:List zH):Nat:=f.toNat * 4 ^ 10+code 10 l
theorem nH{a b:UInt64}(ha:a∈shL)(hb:b∈shL):zV a b=some (compare a.toNat b.toNat) :=
 Ap (zC.mp (zC.mp wZ a ha) b hb)
theorem dX{c f:UInt64}(hc:c∈shL)(hf:f∈shL):geF c f=decide (c.toNat<=f.toNat):=by
 unfold geF
 rw[nH hf hc]
 rcases Dq f.toNat c.toNat with q|q|q
 ·rw[Fv.mpr q,decide_eq_false (by exact ze4 q)];rfl
 ·rw[Fw.mpr q,decide_eq_true (by exact ze6 q)];rfl
 ·rw[Hm.mpr q,decide_eq_true (by exact z2f q)];rfl
theorem dU{m n:Nat}(h:2 * m<=n)(hn:n<=15)(hm:m<=5):bK m n∈shL:=by
 have:=zC.mp (zC.mp pq n (zR.mpr (ze5 hn))) m (zR.mpr (ze7 hm))
 rw[decide_eq_true h] at this
 simpa using this
theorem jz{m k n:Nat}(h:2 * k<=n)(hn:n<=15)(hk:k<=5)(hm:m<=k):(bK m n).toNat<=(bK k n).toNat:=by
 have:=zC.mp (zC.mp (zC.mp jn n (zR.mpr (ze5 hn))) m (zR.mpr (ze8 hk hm))) k (zR.mpr (ze7 hk))
 rw[decide_eq_true h,decide_eq_true hm] at this
 simpa using this
theorem wx(la lb:List zH):mall la lb=cm (la.length+1) la lb:=yb
theorem pG{x wd:List zH}:mall x wd<=qp wd x/\qp wd x<=L4 x.length wd.length:=by
 rw[wx]
 have:=cm_qp (x.length+1) x wd
 have h1:=xV wd x
 have h2:=sv wd x
 exact⟨this,by exact zea h1 h2⟩
theorem gH{x wd:List zH}(hx:x.length<=10)(hw:wd.length<=5):scr x wd∈shL:=by
 have:=pG (x:=x) (wd:=wd)
 unfold scr
 exact dU (zeb this.1 this.2) (zed hx hw) (zeg hw this.1 this.2)
theorem lZ{x wd:List zH}(hx:x.length<=10)(hw:wd.length<=5){c:UInt64}(hc:c∈shL):jo (geF c) x wd=geF c (scr x wd):=by
 have h:=pG (x:=x) (wd:=wd)
 unfold jo
 have e0:scr x wd=bK (mall x wd:Nat) ((x.length+wd.length:Nat):Int):=by unfold scr;rw[F7]
 rw[show (L4 (x.length:Int) (wd.length:Int))=((L4 x.length wd.length:Nat):Int) by exact zec,<- F7,dX hc (dU (by exact zee) (by exact zed hx hw) (by exact zef hw)),dX hc (dU (by exact zeh h.2) (by exact zed hx hw) (by exact zej hw h.2)),dX hc (gH hx hw),e0]
 have m1:=jz (m:=mall x wd) (k:=qp wd x) (n:=x.length+wd.length) (zeh h.2) (zed hx hw) (zej hw h.2) h.1
 have m2:=jz (m:=qp wd x) (k:=L4 x.length wd.length) (n:=x.length+wd.length) zee (zed hx hw) (zef hw) h.2
 by_cases q:c.toNat<=(bK (mall x wd:Nat) ((x.length+wd.length:Nat):Int)).toNat
 ·rw[decide_eq_true q,decide_eq_true (zk q m1),decide_eq_true (zk q (zk m1 m2))];rfl
 ·rw[decide_eq_false q,Jc,Jc]
theorem kq{f:UInt64}(hf:f∈shL):geI f=true:=zC.mp tU f hf
theorem sP{x wd:List zH}(hx:x.length<=10)(hw:wd.length<=5):jo geI x wd=true:=by
 have h:=pG (x:=x) (wd:=wd)
 unfold jo
 rw[show (L4 (x.length:Int) (wd.length:Int))=((L4 x.length wd.length:Nat):Int) by exact zec,<- F7,kq (dU (by exact zee) (by exact zed hx hw) (by exact zef hw)),kq (dU (by exact zeh h.2) (by exact zed hx hw) (by exact zej hw h.2)),kq (gH hx hw)];rfl
theorem uz{Es:List Sc}(h:∀ e∈Es,e.f∈shL/\e.x.c.length<=10/\(∀ c∈e.x.c,Abc c))(hR:∀ e∈Es,∀ e'∈Es,isR e.x.v=isR e'.x.v):kK rkW Es:=by
 intro e he e' he'
 obtain⟨f1,l1,a1⟩:=h e he
 obtain⟨f2,l2,a2⟩:=h e' he'
 have k1:=jd 10 e.x.c e'.x.c l1 l2 a1 a2
 have k2:=jd 10 e'.x.c e.x.c l2 l1 a2 a1
 have c1:=fK 10 e.x.c a1
 have c2:=fK 10 e'.x.c a2
 have hc:=nH f1 f2
 have hcr:isR e.x.v=isR e'.x.v:=hR e he e' he'
 unfold rkW
 rw[hc]
 generalize code 10 e.x.c=x at *
 generalize code 10 e'.x.c=y at *
 generalize e.f.toNat=a at *
 generalize e'.f.toNat=b at *
 rcases Dq a b with q|q|q
 ·rw[Fv.mpr q]
  refine⟨⟨λz=>(by cases z),λz=>(Ab (zel c1 q) z).elim⟩,λZ=>⟨λZ=>by exact zel c1 q,λZ=>rfl⟩,λz=>(by cases z),λZ=>⟨λz=>(by cases z),λz=>(JW (zel c1 q) z).elim⟩,λz=>(by cases z),hcr⟩
 ·subst q
  rw[Fw.mpr rfl]
  refine⟨⟨λz=>?_,λz=>?_⟩,λz=>(by cases z),λZ=>⟨λz=>?_,λz=>?_⟩,λz=>(by cases z),λZ=>⟨λz=>?_,λz=>?_⟩,hcr⟩
  ·have z:decide (e.x.c=e'.x.c)=true:=z
   rw[k1.1.mp (of_decide_eq_true z)]
  ·have:x=y:=zep z
   exact decide_eq_true (k1.1.mpr this)
  ·have:=k1.2.mp z;exact zer k1.2 z
  ·exact k1.2.mpr (zet z)
  ·have:=k2.2.mp z;exact zer k2.2 z
  ·exact k2.2.mpr (zet z)
 ·rw[Hm.mpr q]
  refine⟨⟨λz=>(by cases z),λz=>(Cc (zel c2 q) z).elim⟩,λZ=>⟨λz=>(by cases z),λz=>(JW (zel c2 q) z).elim⟩,λz=>(by cases z),λZ=>⟨λZ=>by exact zel c2 q,λZ=>rfl⟩,λz=>(by cases z),hcr⟩
section
open PySem.Spec
theorem oJ(i:Int){m:Nat}(hm:0<m):∃ x:Nat,x<m/\i.fmod (m:Int)=(x:Int):=by
 have e:=Jr (Int.emod_nonneg i (Int.ofNat_ne_zero.mpr (Cc hm)))
 exact⟨(i % m).toNat,Di.mp (GD (HU e) (Int.emod_lt_of_pos i (Di.mpr hm))),(Int.fmod_eq_emod_of_nonneg _ (DI m)).trans e.symm⟩
theorem iQ{prog:Bh}{w:Am}{A:AR}{E:VP}{s:y9}{a c:Int}{t u:AN}{m:Nat}{Q:VP}(hm:0<m)(hc:c=(m:Int))
  (h:∀ x:Nat,x<m->Q (.int (x:Int) s.toks) (wt s (s.toks+1))):y4 (y0 prog w) A (EM .Mod (.int a t) (.int c u)) Q E s:=by
 subst hc
 obtain⟨x,hx,e⟩:=oJ a hm
 refine mod_int' (z4j hm) ?_
 rw[e]
 exact h x hx
theorem i4{prog:Bh}{w:Am}{A:AR}{E:VP}{s:y9}{a c:Int}{t u:AN}{Q:VP}(hc:c≠0)(hp:CY a c=false)
  (h:∀ b:Int,Q (.int b s.toks) (wt s (s.toks+1))):y4 (y0 prog w) A (EM .FloorDiv (.int a t) (.int c u)) Q E s :=
 AutoIntOps.floordiv_1 (by simpa using hc) (by rw[hp];decide) (h _)
theorem rv:Bi (yW "abs")=some (.builtin "abs"):=by kernel_rfl
theorem yV (x:Nat) (h:x<3):∃ c,(yW "abc").cps[x]? = some c/\Abc ⟨#[c]⟩:=by
 have:∀ k:Fin 3,(match (yW "abc").cps[k.val]? with|some c=>decide ((⟨#[c]⟩:zH)=LA) || (decide ((⟨#[c]⟩:zH)=LB) || decide ((⟨#[c]⟩:zH)=LC))|none=>false)=true:=by decide +kernel
 have h2:=this ⟨x,h⟩
 dsimp only at h2
 cases q:(yW "abc").cps[x]? with
 | none=>rw[q] at h2;cases h2
 | some c =>
  rw[q] at h2
  refine⟨c,rfl,?_⟩
  simpa [Abc] using h2
def Wd(y:zH)(n:Nat):Prop:=y.cps.size<=n/\∀ c∈aA y,Abc c
theorem Wd.snoc{y:zH}{n c:Nat}(h:Wd y n)(hc:Abc ⟨#[c]⟩):Wd (y++⟨#[c]⟩) (n+1):=by
 have e:(y++(⟨#[c]⟩:zH)).cps=y.cps++#[c]:=rfl
 refine⟨by rw[e];simp;exact h.1,λd hd=>?_⟩
 unfold aA at hd
 rw[e] at hd
 simp at hd
 rcases hd with⟨a,ha,rfl⟩|rfl
 ·exact h.2 _ (by unfold aA;exact za.mpr ⟨a,by simpa using ha,rfl⟩)
 ·exact hc
section
variable{T:LO}{l:LV}
theorem oS{prog:Bh}{y:zH}{c:Nat}{ty tc:AN}{Q:VP}(hy:y.cps.size<=60)
  (h:∀ (s':y9) (t':AN),Kp s s'->St hb tabs L l T s'.heap->s.toks<=s'.toks->(t'=tc\/(s.toks<=t'/\t'<s'.toks))->Q (.str (y++⟨#[c]⟩) t') s') (S:St hb tabs L l T s.heap) :
  y4 (y0 prog w) A (EM .Add (.str y ty) (.str ⟨#[c]⟩ tc)) Q E s:=by
 refine LL ?_
 by_cases h0:(y.length==0)=true
 ·rw[if_pos h0]
  have hz:y.cps.size=0:=Ap h0
  have e:y++(⟨#[c]⟩:zH)=⟨#[c]⟩:=by
   obtain⟨a⟩:=y
   obtain rfl:=It.mp hz
   show Str.mk (#[]++#[c])=_
   simp
  have:=h s tc Kp.refl S (zh _) (.inl rfl)
  rw[e] at this
  exact this
 ·rw[if_neg h0,if_neg (show ¬ ((⟨#[c]⟩:zH).length==0)=true from λq=>by cases q)]
  refine⟨?_,h _ _ ⟨rfl,id⟩ S (C2 _) (.inr ⟨zh _,Be _⟩)⟩
  show (y.cps++#[c]).size<=_
  rw[zw]
  simp
  exact up 16777155 hy
theorem xf (x:Nat) (h:x<3):HK ((x:Nat):Int) (yW "abc").length=some x:=by
 have:∀ k:Fin 3,HK ((k.val:Nat):Int) (yW "abc").length=some k.val:=by decide +kernel
 exact this ⟨x,h⟩
theorem xn(G:GK w hb)(S:St hb tabs L l T s.heap)(hd:A.depth+10<zg)(hh:A.handled=none){i:Int}{t:AN}
  (k:∀ (s':y9) (y:zH) (ty:AN),Kp s s'->St hb tabs L l T s'.heap->Wd y 5->s.toks<=ty->ty<s'.toks->R (.ok (.ret (.str y ty))) s') :
  zS (y0 pw w) A (.call (.ref 293) ⟨[.int i t],[]⟩) R s:=by
 refine dQ G S (lk293 _) (dn 10 hd) (binds:=[(yW "number", .int i t)]) (body:=aD (st1 pw 12)) (AW (by kernel_rfl)) (λL' ai oL r ah=>eM [yW "found", yW "number"] (args_cons (wpAny_Constant_str (args_cons (AC (n:=s.toks+1+1) (zh _) (jL G ah rv (bln ah m0 (call_abs_int ?_))))))))
 refine λua tka htka=>zn ⟨rfl,rfl,hh,_,_,_,_,_,ah,?_⟩
 refine λam af=>cU af (.old .here) (λak ae=>cU ae (.new (by kernel_rfl)) (λaw S4=>eQ (restateT S4 λs4 K4 hk4 S4=>?_)))
 replace K4:Kp s s4:=⟨K4.os,K4.gens⟩
 replace hk4:s.toks+1+1<=s4.toks:=by simp only at hk4 htka;exact zir htka hk4
 clear ah af ae
 refine eM [yW "many", yW "number"] (args_cons (wpAny_BinOp (ac S4 m1 (wpAny_Constant_int (iQ (m:=6) (by decide) rfl ?_)))))
 refine λx hx=>args_cons (wpAny_BinOp (ac S4 m1 (wpAny_Constant_int (i4 (by decide) (by rfl) ?_))))
 refine λb=>zn ⟨rfl,rfl,hh,_,_,_,_,_,S4,?_⟩
 refine λay S5=>cU S5 (.old (.there .here)) (λaz S6=>cU S6 (.new (by kernel_rfl)) (λba S7=>eQ (restateT S7 λs7 K7 hk7 S7=>?_)))
 replace K7:Kp s s7:=kt K4 K7
 replace hk7:s.toks+1+1<=s7.toks:=by simp only at hk7;exact zis hk4 hk7
 clear S4 S5 S6
 refine eY (AC (zh s7.toks) (rm G S7 cL (bln S7 m0 (Kt ?_))))
 refine λhtk8=>jX (S7.push _) m0 (by decide) (by decide) z7l (zit hx) ?_
 intro I o Wt fp bf IV hw S9
 have S10:=S9.sub (zl _ _)
 let H:Nat->AN->LV->LO->Prop:=λi tk l₁ T1=>Ex5 λy ty z tz tx=>An6 (l₁=[(yW "many", .int (x:Int) tx),(yW "found", .str y ty),(yW "number", .int z tz)]) (T1=(L,oL)::T) (Wd y i) (s.toks<=ty) (ty<tk) (s.toks<=tk)
 refine IV.loop (z:=s) hh S10 hw
  H ?h0 (λp hp=>by cases hp) ?_ ?_ (hmono:=?hmono) (ez:=⟨K7.os,K7.gens⟩)
 case hmono =>
  rintro i tk tk' l T htk ⟨y,ty,z,tz,tx,h1,h2,h3,h4,h5,h6⟩
  exact⟨y,ty,z,tz,tx,h1,h2,h3,h4,zJ h5 htk,zk h6 htk⟩
 case h0=>exact⟨_,_,_,_,_,rfl,rfl,⟨by decide,λc hc=>(by cases hc)⟩,Ck _ _,by simp only[zI,Cf];exact ziu hk7,by simp only;exact ziv hk7⟩
 ·rintro E1 i v l₁ T1 own1 s₁ hi ⟨ti,hv⟩ ⟨y,ty,z,tz,tx,rfl,rfl,hy,hty,hty2,htk⟩ af hRo hKp
  subst hv
  refine aU (aq af (.new (by kernel_rfl)) ?_)
  refine λak ae=>eM [yW "found", yW "number"] (args_cons (wpAny_BinOp (ac ae m2 (gT IL.lookup (wpAny_Constant_str (wpAny_BinOp (ac ae m3 ?_)))))))
  refine wpAny_Constant_int (iQ (m:=3) (by decide) rfl ?_)
  intro x3 hx3
  obtain⟨c,hc,habc⟩:=yV x3 hx3
  refine⟨Mf _ _ _,?_⟩
  refine PySem.P.getItem_str (c:=c) (by rw[decide_eq_false (Gw.mpr (DG (by decide +kernel) (DI x3))),decide_eq_false (HW.mpr (Int.lt_of_lt_of_le (Di.mpr hx3) (by decide +kernel)))];rfl) (by rw[xf x3 hx3];exact hc) (oS (hb:=hb) (L:=L') (by have:=hy.1;replace hi:i<((x:Int) - 0).toNat:=hi;exact ziy hx this hi) ?_ ae)
  refine λs4 t4 K4 S4 hk4 ht4=>args_cons (wpAny_BinOp (ac S4 m3 (wpAny_Constant_int (i4 (by decide) (by rfl) ?_))))
  refine λb4=>zn ⟨rfl,rfl,hh,_,_,_,_,_,S4,?_⟩
  refine λay S5=>cU S5 (.old (.there (.there (.there .here)))) (λaz S6=>cU S6 (.old (.there (.there .here))) (λba S7=>eQ (restateT (S7.forget (zl _ _)) λs8 K8 hk8 S8=>(aF ⟨_,_,S8,⟨_,_,_,_,_,rfl,rfl,hy.snoc habc,?_,?_,?_⟩,(λp hp=>by cases hp),?_⟩))))
  ·simp only at hk4 ht4
   rcases ht4 with q|q;exact x30 hty hty2 q;exact x31 hty hty2 q.1
  ·simp only at hk4 ht4 hk8
   rcases ht4 with q|q;exact x32 hk4 hk8 q;exact x33 hk8 q.2
  ·simp only at hk4 hk8
   exact zj3 hty hty2 hk4 hk8
  ·exact (kt (kt hKp K4) K8)
 ·rintro s' l' T' hKp af ⟨y,ty,z,tz,tx,rfl,rfl,hy,hty,hty2,htk⟩ hRo
  refine cP (ac af m1 ?_)
  have ae:=af.leave 0 rfl r
  exact k s' y ty (hKp) ae ⟨zk hy.1 (zj4 hx),hy.2⟩ hty hty2
end
end
noncomputable def jj(n:Nat)(lo hi:Option Nat):List Nat:=((zM n).take (hi.getD n)).drop (lo.getD 0)
noncomputable def gB{α:Type}(xs:List α)(lo hi:Option Nat):List α:=(xs.take (hi.getD xs.length)).drop (lo.getD 0)
noncomputable def yR:List (Option Nat):=none::(zM 12).map some
noncomputable abbrev iO(o:Option Nat):Option Int:=o.map HC
theorem vo:((zM 12).all λn=>yR.all λlo=>yR.all λhi=>Gs (iO lo) (iO hi) 1 n==jj n lo hi)=true:=by decide +kernel
theorem u9:((zM 12).all λn=>yR.all λlo=>yR.all λhi =>
  let p:=CE (iO lo) (iO hi) 1 n
  let m:=Df p.1 p.2 1
  decide (0<=p.1)&&((zM m).map (λk=>p.1.toNat+k)==jj n lo hi)&&(!(p.1==0&&m==n) || jj n lo hi==zM n))=true:=by decide +kernel
def Sm(o:Option Nat):Prop:=∀ k,o=some k->k<12
theorem iq{o:Option Nat}(h:Sm o):o∈yR:=by
 cases o with
 | none=>exact .head _
 | some k=>exact aj (za.mpr ⟨k,zR.mpr (h k rfl),rfl⟩)
theorem vp{n:Nat}{lo hi:Option Nat}(hn:n<12)(hl:Sm lo)(hh:Sm hi):Gs (iO lo) (iO hi) 1 n=jj n lo hi :=
 Ap (zC.mp (zC.mp (zC.mp vo n (zR.mpr hn)) lo (iq hl)) hi (iq hh))
theorem qK{α:Type}{l:List α}{i:Nat}{a:α}(h:i<l.length):l.getD i a=l[i]:=by
 rw[Bg,zj h];rfl
theorem gz{α:Type}(xs:List α)(lo hi:Option Nat):(jj xs.length lo hi).filterMap (xs[·]?)=gB xs lo hi:=by
 cases xs with
 | nil=>simp[jj,gB]
 | cons a r =>
  have h1:∀ l:List Nat,(∀ i∈l,i<(a::r).length)->l.filterMap ((a::r)[·]?)=l.map λi=>(a::r).getD i a:=by
   intro l
   induction l with
   | nil=>exact λZ=>rfl
   | cons i l ih =>
    intro h
    have hi:=h i (.head _)
    rw[Jx,zj hi,Ay,ih λj hj=>h j (aj hj),qK hi]
  have h2:(zM (a::r).length).map (λi=>(a::r).getD i a)=a::r:=by
   refine KY (by simp) λi p q=>?_
   rw[DD,GR,qK q]
  rw[jj,h1 _ λi hi=>zR.mp (AD (Jd hi)),JF,Cb,h2]
  rfl
theorem nD(n:Nat):∀ lo hi,jj n lo hi=zM n->∀ {α:Type} (xs:List α),xs.length=n->gB xs lo hi=xs:=by
 intro lo hi h α xs hx
 subst hx
 have e:jj xs.length none none=zM xs.length:=by
  unfold jj
  rw[CM,CM,En,C1 (by rw[B6];exact zh _)]
 rw[<- gz,h,<- e,gz]
 unfold gB
 rw[CM,CM,En,zX]
theorem iV(x:zH)(lo hi:Option Nat):aA ⟨((jj x.cps.size lo hi).filterMap (x.cps[·]?)).toArray⟩=gB (aA x) lo hi:=by
 have h:=gz x.cps.toList lo hi
 have e:(λi:Nat=>x.cps[i]?)=λi:Nat=>x.cps.toList[i]?:=by funext i;simp
 rw[e]
 show (((jj x.cps.toList.length lo hi).filterMap λi:Nat=>x.cps.toList[i]?).map _)=_
 rw[h]
 unfold gB aA
 rw[JF,Cb,zb]
theorem dI{α:Type}(xs:List α)(lo hi:Option Nat):(gB xs lo hi).length<=xs.length:=by
 unfold gB;rw[EF,Bc];exact y0m
theorem il{α β:Type}(f:α->β)(xs:List α)(lo hi:Option Nat):gB (xs.map f) lo hi=(gB xs lo hi).map f:=by
 unfold gB;rw[JF,Cb,zb]
noncomputable abbrev ptN(o:Option (Nat×AN)):Value:=partValue (o.map λp=>((p.1:Int),p.2))
noncomputable abbrev fN(o:Option (Nat×AN)):Option Nat:=o.map (·.1)
section
variable{tabs:List ze}
theorem iz{o:Option (Nat×AN)}{Q:Option Int->y9->Prop}(h:Q (iO (fN o)) s):y4 (y0 prog w) A (LM (ptN o)) Q E s:=by
 cases o with
 | none=>exact Mx h
 | some p=>exact slicePart_int h
theorem jl{sl:ze}{lo hi:Option (Nat×AN)}{n:Nat}{Q:Int×Int×Nat->y9->Prop}(hs:s.heap.IsSliceOf sl (ptN lo) (ptN hi) .none)
  (h:Q ((CE (iO (fN lo)) (iO (fN hi)) 1 n).1,1,Df (CE (iO (fN lo)) (iO (fN hi)) 1 n).1 (CE (iO (fN lo)) (iO (fN hi)) 1 n).2 1) s) :
  y4 (y0 prog w) A (My (.ref sl) (Au (n:Int))) Q E s:=by
 obtain⟨os,hos,hcs,hds⟩:=id hs
 refine yX (yX (AK hos hds (x:=ptN lo) rfl (yX (AK hos hds (x:=ptN hi) rfl (yX (AK hos hds (x:=.none) rfl (yY ?_)))))))
 refine yX (Mx ?_)
 refine aQ (by decide) (yX (iz (yX (iz (yX (yY ?_))))))
 exact yY h
theorem iZ{t sl:ze}{items:List Value}{lo hi:Option (Nat×AN)}{Q:VP}(ht:s.heap.get? t=some (aG items))(hs:s.heap.IsSliceOf sl (ptN lo) (ptN hi) .none)(hn:items.length<12)(hl:Sm (fN lo))(hh:Sm (fN hi))
  (h1:gB items (fN lo) (fN hi)=items->Q (.ref t) s) (h2:Q (.ref s.heap.objs.size) (wh s (s.heap.push (aG (gB items (fN lo) (fN hi)))))) :
  y4 (y0 prog w) A (Dc (.ref t) (.ref sl)) Q E s:=by
 have ht':IsTup s.heap t items.toArray:=⟨_,ht,rfl,_,rfl⟩
 have hT:s.TypeIs (.ref t) "tuple" := ⟨_,ht,rfl⟩
 obtain⟨os,hos,hcs,hds⟩:=id hs
 have hTs:s.TypeIs (.ref sl) "slice" := ⟨os,hos,hcs⟩
 have tab:=zC.mp (zC.mp (zC.mp u9 items.length (zR.mpr hn)) _ (iq hl)) _ (iq hh)
 obtain⟨tab,t3⟩:=zo.mp tab
 obtain⟨t1,t2⟩:=zo.mp tab
 replace t1:=of_decide_eq_true t1
 replace t2:=Ap t2
 unfold Dc
 try with_reducible refine zp ?_
 first|refine yX (yY ?_)|skip
 refine yX (Ks hT (by decide) ?_)
 refine yX (z4 (name:=yW "__getitem__") hT CC
  (zT CC hT Ku ?_ (Kz _ _)))
 refine yX (m:=Eo (.ref t)) (tupleItemsOf_ ht' ?_)
 refine yX (Dn hTs ?_)
 refine bX (by decide) ?_
 have hsz:items.toArray.size=items.length:=zd ..
 rw[hsz]
 refine yX (jl hs ?_)
 revert t1 t2 t3
 generalize CE (iO (fN lo)) (iO (fN hi)) 1 (items.length:Int)=p
 intro t3 t1 t2
 dsimp only at t1 t2 t3 ⊢
 have hm:((zM (Df p.1 p.2 1)).filterMap λ(k:Nat)=>items.toArray[(p.1+(k:Int) * 1).toNat]?)=gB items (fN lo) (fN hi):=by
  rw[<- gz,<- t2,List.filterMap_map]
  congr 1
  funext k
  rw[show (p.1+(k:Int) * 1).toNat=p.1.toNat+k by exact y0n t1]
  simp
 rw[hm]
 have hz:sizeOk (.seq (gB items (fN lo) (fN hi)).toArray):=by
  show (gB items (fN lo) (fN hi)).toArray.size<=DU
  have:=dI items (fN lo) (fN hi)
  rw[zd,zw];exact y0o hn this
 by_cases hw:(p.1==0&&(1:Int)==1&&Df p.1 p.2 1==items.length)=true
 ·refine bX hw ?_
  have hq:gB items (fN lo) (fN hi)=items:=by
   refine nD _ _ _ ?_ items rfl
   rcases (Ls _ _).mp t3 with z|z
   ·obtain⟨w1,w2⟩:=zo.mp hw
    obtain⟨w1,w3⟩:=zo.mp w1
    rw[w1,w2] at z;nomatch z
   ·exact Ap z
  refine yX (yX (Dn hT (yY ?_)))
  exact bX (by decide) (yX (AP (yY ⟨_,rfl,yY (h1 hq)⟩)))
 ·exact aQ hw (yX (Aa (yY ⟨_,rfl,yY h2⟩) hz))
def TkN(t0 t1:Nat)(v u:Value):Prop:=u=v\/isR u=true\/Ex2 λz t=>An3 (u=.str z t) (t0<=t) (t<t1)
theorem oO{n:Nat}{lo hi:Option Nat}(h:(jj n lo hi).length=n):jj n lo hi=zM n:=by
 have:(jj n lo hi).Sublist (zM n):=(Kg _ _).trans (List.take_sublist _ _)
 exact this.eq_of_length (by rw[h,B6])
theorem ql(o:Option (Nat×AN)):((o.map λp=>((p.1:Int),p.2)).map (·.1))=iO (fN o):=by cases o<;> rfl
inductive kCutC (w:Am) (hb:AE) (tabs:List ze) (bk:Bool) (Q:VP) (o vl vu:Value) (s3:y9):Prop
 | mk (x:WX) (lo hi:Option (Nat×AN)) (L:ze) (l:LV) (T:LO) (ho:o=x.v) (hk:isR x.v=bk) (hl:vl=ptN lo) (hu:vu=ptN hi) (S:St hb tabs L l T s3.heap) (W:WT T x) (hc:x.c.length<12) (h1:Sm (fN lo)) (h2:Sm (fN hi))
  (fin:∀ y s' X,Kp s3 s'->St hb tabs L l (X++T) s'.heap->WT (X++T) y->isR y.v=bk->y.c=gB x.c (fN lo) (fN hi)->s3.toks<=s'.toks->TkN s3.toks s'.toks x.v y.v->Q y.v s')
abbrev kCutB(prog:Bh)(w:Am)(A:AR)(env:ID)(E:VP)(hb:AE)(tabs:List ze)(upper:Option Expr)(bk:Bool)(Q:VP)(o vl:Value)(ag:y9):Prop :=
 y4 (y0 prog w) A (Mz upper env) (kCutC w hb tabs bk Q o vl) E ag
abbrev kCutA(prog:Bh)(w:Am)(A:AR)(env:ID)(E:VP)(hb:AE)(tabs:List ze)(lower upper:Option Expr)(bk:Bool)(Q:VP)(o:Value)(s₁:y9):Prop :=
 y4 (y0 prog w) A (Mz lower env) (kCutB prog w A env E hb tabs upper bk Q o) E s₁
theorem bT{M:HF}{e:Expr}{Q:VP}(h:y4 M A (Aq e env) Q E s):y4 M A (Mz (some e) env) Q E s:=h
theorem dW{M:HF}{Q:VP}(h:Q .none s):y4 M A (Mz none env) Q E s:=by rw[DZ];exact yY h
theorem dN {T id:String}{value:Expr}{lower upper:Option Expr}{p pos:Ef}{Q:VP} (hl:BH (.type T) "__getitem__" = Au (some (.builtin id)))
  (h:y4 (y0 prog w) A (Aq value env) (λo s₁=>y4 (y0 prog w) A (Aq (.Slice lower upper none p) env) (λi ag=>ag.TypeIs o T/\y4 (y0 prog w) A (Dc o i) Q E ag) E s₁) E s) :
  y4 (y0 prog w) A (Aq (.Subscript value (.Slice lower upper none p) pos) env) Q E s:=by
 refine yX (zf h (λo s₁ ai=>yX (zp (zf ai (λi ag am=>yX (CO ?_)) λZ Z x=>x)))
  λZ Z x=>x)
 have fin:y4 (y0 prog w) A (J5 [i,o] (Dc o i)) (λr s3=>y4 (y0 prog w) A (Fj value o r>>=λZ=>Au r) Q E s3) E ag :=
  F8 (zf am.2 (λr s3 ak=>yX (Ep (yY ak))) λZ Z x=>x)
 refine yX (yX (BS am.1 hl ?_))
 first
  | exact yY (yX fin)
  | exact yX (yY (yX fin))
  | exact yX fin
theorem iF{value:Expr}{lower upper:Option Expr}{p pos:Ef}{Q:VP}(bk:Bool)
  (h:y4 (y0 prog w) A (Aq value env) (kCutA prog w A env E hb tabs lower upper bk Q) E s):y4 (y0 prog w) A (Aq (.Subscript value (.Slice lower upper none p) pos) env) Q E s:=by
 cases bk with
 | false =>
  refine dN (T := "str") IL.lookup (zf h (λo s₁ ai=>FW (zf ai (λvl ag am=>zf am (λvu s3 ak=>?_) λZ Z e=>e) λZ Z e=>e)) λZ Z e=>e)
  rw[DZ]
  refine yY ?_
  obtain⟨x,lo,hi,L,l,T,rfl,hk,rfl,rfl,S,W,hn,hl,hh,fin⟩:=ak
  cases W with
  | tup a ps=>nomatch hk
  | str y t hy =>
   have hn':y.cps.size<12:=by rw[aH] at hn;exact hn
   refine⟨Mf _ y t,wpAny_getItem_str_slice (l:=lo.map λp=>((p.1:Int),p.2)) (u:=hi.map λp=>((p.1:Int),p.2)) (st:=none) ⟨_,zQ _ rfl,rfl,rfl⟩ rfl ?_⟩
   have e:slicePicked y (lo.map λp=>((p.1:Int),p.2)) (hi.map λp=>((p.1:Int),p.2)) none=jj y.cps.size (fN lo) (fN hi):=by
    unfold slicePicked
    rw[ql,ql]
    exact vp hn' hl hh
   have af:=(S.push { cls:=.type "slice", data:=.fields #[ptN lo,ptN hi,.none] }).sub (zl _ _)
   unfold sliceMade
   rw[e]
   by_cases q:((((none:Option (Int×AN)).map (·.1)).getD 1==1)&&(jj y.cps.size (fN lo) (fN hi)).length==y.length)=true
   ·rw[if_pos q]
    have q2:(jj y.cps.size (fN lo) (fN hi)).length=y.cps.size:=Ap (zo.mp q).2
    exact fin ⟨.str y t,aA y⟩ _ [] ⟨rfl,id⟩ af (.str y t hy) rfl (nD _ _ _ (oO q2) (aA y) (aH y)).symm (zh _) (.inl rfl)
   ·rw[if_neg q]
    have hz:((jj y.cps.size (fN lo) (fN hi)).filterMap (y.cps[·]?)).toArray.size<=y.cps.size:=by
     have:=congrArg CA (iV y (fN lo) (fN hi))
     rw[aH] at this
     rw[show ((jj y.cps.size (fN lo) (fN hi)).filterMap (y.cps[·]?)).toArray.size=_ from this]
     have:=dI (aA y) (fN lo) (fN hi)
     rwa [aH] at this
    refine⟨by show Array.size _<=_;rw[zw];exact y0o hn' hz,?_⟩
    exact fin ⟨.str _ _,aA _⟩ _ [] ⟨rfl,id⟩ af (.str _ _ (zk hz hy)) rfl (iV _ _ _) (C2 _) (.inr (.inr ⟨_,_,rfl,zh _,Be _⟩))
 | true =>
  refine dN (T := "tuple") CC.lookup (zf h (λo s₁ ai=>FW (zf ai (λvl ag am=>zf am (λvu s3 ak=>?_) λZ Z e=>e) λZ Z e=>e)) λZ Z e=>e)
  rw[DZ]
  refine yY ?_
  obtain⟨x,lo,hi,L,l,T,rfl,hk,rfl,rfl,S,W,hn,hl,hh,fin⟩:=ak
  cases W with
  | str y t hy=>nomatch hk
  | tup a ps ha hps =>
   have af:=S.push { cls:=.type "slice", data:=.fields #[ptN lo,ptN hi,.none] }
   have ho:=af.obj _ (aj ha)
   have hlen:(cts ps).length=(ps.map aM).length:=by simp
   refine⟨⟨_,ho,rfl⟩,iZ (lo:=lo) (hi:=hi) ho (DO ..) (by rw[<- hlen];exact hn) hl hh (λq=>?_) ?_⟩
   ·refine fin ⟨.ref a,cts ps⟩ _ [_] ⟨rfl,id⟩ af (.tup a ps (aj ha) hps) rfl ?_ (zh _) (.inl rfl)
    rw[il] at q
    have q2:gB ps (fN lo) (fN hi)=ps:=DN (f:=aM) (λp q e=>by injection e with e1 e2;exact Kn e1 e2) |>.mp q
    rw[il,q2]
   ·have ae:=af.push (aG (gB (ps.map aM) (fN lo) (fN hi)))
    rw[il] at ae ⊢
    refine fin ⟨.ref _,cts (gB ps (fN lo) (fN hi))⟩ _ [_,_] ⟨rfl,id⟩ ae (.tup _ _ (.head _) (zk (dI ..) hps)) rfl ?_ (zh _) (.inr (.inl rfl))
    rw[il]
end
theorem tN:((zM 12).all λn=>Ae (n:Int) 0 (-1)==(n:Int)&&(Dy (n:Int) 0 (-1)&&CY (0 - (n:Int)) (-1)==false))=true:=by decide +kernel
section
variable{tabs:List ze}{l:LV}{T:LO}{t u v:AN}{x y:WX}
theorem q5{n:Nat}(hn:n<12):Ae (n:Int) 0 (-1)=(n:Int)/\Dy (n:Int) 0 (-1)=true/\CY (0 - (n:Int)) (-1)=false:=by
 obtain⟨h1,h2⟩:=zo.mp (zC.mp tN n (zR.mpr hn))
 obtain⟨h2,h3⟩:=zo.mp h2
 exact⟨Ap h1,h2,Ap h3⟩
theorem vO{n:Nat}{Q:VP}(hn:n<12)(S:St hb tabs L l T s.heap)(hm:(d,rg3O (n:Int) 0 (-1) t u v)∈T)
  (h:∀ I o Wt fp h',ItV prog w hb tabs [] I n (λi v=>∃ t,v=.int ((n:Int) - (i:Int)) t) Wt fp->Wt 0 h'->St hb tabs L l (T++[(I,o)]) h'->Q (.ref I) (wh s h')):y4 (y0 prog w) A (EI (.ref d)) Q E s:=by
 obtain⟨e,e2,_⟩:=q5 hn
 refine GC (S.obj _ hm) e2 (h _ _ (λi h=>IsRangeIter h s.heap.objs.size ((n:Int)+(i:Nat) * (-1)) ((n:Int) - (i:Nat)) (-1)) [s.heap.objs.size] _ ⟨λA hA=>?_,?_,?_⟩ ?_ (S.push _).last)
 case refine_1 =>
  exact bM (Nn (prog:=prog) (w:=w) hA s.heap.objs.size (n:Int) (-1) n) λi v q=>by
   obtain⟨t,q⟩:=q
   exact⟨t,by rw[q,Int.mul_neg,G6];rfl⟩
 case refine_2=>exact λi h q=>⟨_,q⟩
 case refine_3 =>
  exact λb hb' hn=>absurd hb' hn
 case refine_4 =>
  rw[e]
  simp
  exact zQ _ rfl
theorem wx_eq{Q:VP}(hu:A.units<Aw)(hx:WH s.heap x)(hy:WH s.heap y)(hk:isR x.v=isR y.v)(h:Q (.bool (decide (x.c=y.c))) s):y4 (y0 prog w) A (AF .Eq x.v y.v) Q E s:=by
 cases hx with
 | str a t =>
  cases hy with
  | str b u =>
   refine MA ?_
   rw[show (a.cps.toList==b.cps.toList)=decide (aA a=aA b) from by
    by_cases q:a=b
    ·subst q;simp
    ·rw[beq_eq_false_iff_ne.mpr (λz=>q (congrArg Str.mk (ED.mp z))),decide_eq_false λz=>q (iU z)]]
   exact h
  | tup b qs hb hl=>cases hk
 | tup a ps ha hl =>
  cases hy with
  | str b u=>cases hk
  | tup b qs hb hl' =>
   exact Bv (op:=.Eq) ⟨_,ha,rfl⟩ ⟨_,hb,rfl⟩ EZ (jw ha hb ⟨nofun,h⟩) hu
end
section
open PySem.Spec
theorem rt:Bi (yW "min")=some (.builtin "min"):=by kernel_rfl
theorem sA{α:Type}(X T o1 o2 o3:List α)(a:α):(X++((((a::T)++o1)++o2)++o3)).Perm (a::((X++(o1++(o2++o3)))++T)):=by
 have e:(((a::T)++o1)++o2)++o3=a::(T++(o1++(o2++o3))):=by simp
 rw[e]
 refine zs.trans (zL _ ?_)
 rw[zu]
 exact zi.append_left X
theorem q7{α:Type}(xs:List α)(i k:Nat):gB xs (some i) (some (i+k))=(xs.drop i).take k:=by
 show (xs.take (i+k)).drop i=_
 rw[List.drop_take,HD]
theorem kB{α:Type}(xs:List α)(i:Nat):gB xs (some i) none=xs.drop i:=by
 show (xs.take xs.length).drop i=_
 rw[zX]
theorem jR:Sm none:=λk h=>by cases h
theorem dE{i:Nat}(h:i<12):Sm (some i):=λk e=>by cases e;exact h
noncomputable abbrev nmX (x y:WX):LV:=[(yW "near", x.v),(yW "far", y.v)]
def CmC(w:Am)(hb:AE)(f:Nat):Prop:=∀ {A:AR}{s:y9}{L:ze}{T:LO}{l:LV}{R:Cg->y9->Prop}{x y:WX},
 St hb tabs L l T s.heap->A.depth+f+10<zg->A.units+3 * f+10<Aw->A.handled=none->WT T x->WT T y->isR x.v=isR y.v->x.c.length<12->y.c.length<12->x.c.length<f ->
 (∀ (s':y9) (X:LO) (t:AN),Kp s s'->St hb tabs L l (X++T) s'.heap->R (.ok (.ret (.int (cm f x.c y.c:Nat) t))) s') ->
 zS (y0 pw w) A (.call (.ref 300) ⟨[x.v,y.v],[]⟩) R s
theorem tS{f:Nat}(G:GK w hb)(ih:CmC w hb f):CmC w hb (f+1):=by
  intro A s L T l R x y S hd hu hh hx hy hk hx12 hy12 hf k
  refine dQ G S (lk300 _) (y7a hd) (binds:=nmX x y) (body:=aD (st1 pw 13)) (AW (by kernel_rfl)) ?_
  intro L' ai oL r ah
  have hx1:WT ((L,oL)::T) x:=hx.mono λp hp=>aj hp
  have hy1:WT ((L,oL)::T) y:=hy.mono λp hp=>aj hp
  generalize dp:(L,oL)::T=T1 at ah hx1 hy1
  obtain⟨Rx,hRx,Vx⟩:=hx1.sq (prog:=pw) (w:=w) (hb:=hb) (tabs:=tabs)
  obtain⟨Ry,hRy,Vy⟩:=hy1.sq (prog:=pw) (w:=w) (hb:=hb) (tabs:=tabs)
  refine eY (rm G ah cL (args_cons (jL G ah rt (args_cons (jL G ah B0 (bln ah m0 (Vx.len ah hRx ?_)))))))
  refine λt1 tk1=>args_cons (jL G ah B0 (bln ah m1 (Vy.len ah hRy ?_)))
  refine λt2 tk2=>zn (xO hh ah ?_)
  refine λam tk3 t3 af=>args_cons (wpAny_Constant_int (args_cons (DX (wpAny_Constant_int (Kk (zn ?_))))))
  have hmin:(L4 (x.c.length:Int) (y.c.length:Int))=((L4 x.c.length y.c.length:Nat):Int):=zec
  rw[hmin]
  generalize hm:L4 x.c.length y.c.length=m
  have hm12:m<12:=y7c hx12 hm
  refine mP af (by decide) (by have:=(q5 hm12).2.2;exact this) (λra ak ae=>vO hm12 ae m0 ?_)
  intro I o Wt fp aw IV hw S4
  have hX:∀ T':LO,(∀ p∈T1,p∈T')->WT T' x:=λT' h=>hx1.mono h
  have hY:∀ T':LO,(∀ p∈T1,p∈T')->WT T' y:=λT' h=>hy1.mono h
  have fq:∀ T':LO,(∀ p∈T1,p∈T')->∀ p∈Rx,p∈T':=λT' h p hp=>h p (hRx p hp)
  have hY0:∀ T':LO,(∀ p∈T1,p∈T')->∀ p∈Ry,p∈T':=λT' h p hp=>h p (hRy p hp)
  let H:Nat->AN->LV->LO->Prop:=λi Z l₁ T'=>An3 (l₁=nmX x y) (T1=T') (∀ k,m - i<k->k<=m->cmI x.c y.c k=none)
  refine IV.loop (z:=s) (T:=T1) hh (S4.sub (zl _ _)) hw
   H ⟨rfl,rfl,λk h1 h2=>by lia⟩ (λp hp=>by cases hp) ?_ ?_
  ·rintro E1 i v l₁ T' own1 s₁ hi ⟨ti,hv⟩ ⟨rfl,rfl,hno⟩ S5 hRo hKp
   subst hv
   have hs:((m:Int) - (i:Int))=((m - i:Nat):Int):=y7e hi
   rw[hs]
   have hk0:0<m - i:=Nat.zero_lt_sub_of_lt hi
   have hkm:m - i<=m:=zfo
   have hstep:∀ k',m - (i+1)<k'->k'<=m->k'=m - i\/m - i<k':=λk' h1 h2=>by exact y7h h1
   generalize hz:m - i=z at hno hk0 hkm hstep
   have hzx:z<=x.c.length:=y7i hm hz
   have hzy:z<=y.c.length:=y7j hm hz
   refine aU (aq S5 (.new (by kernel_rfl)) ?_)
   refine λaz S6=>restate S6 λs6 K6 S6=>?_
   replace K6:Kp s s6:=⟨K6.os.trans hKp.os,λq=>K6.gens (hKp.gens q)⟩
   refine eY (rm G S6 cL (args_cons (wpAny_BinOp (wpAny_BinOp (jL G S6 B0 (bln S6 m1 (Vx.len S6 (fq _ λp hp=>y5 _ hp) ?_)))))))
   refine λt4 tk4=>ac S6 m0 (P.sub_int (wpAny_Constant_int (P.add_int (zn (Kt (jX (S6.push _) m0 (by decide) (by decide) (y7k hm hz) (y7l hx12) ?_))))))
   intro I2 o2 Wt2 fp2 ba IV2 hw2 S7
   have hn2:((((x.c.length:Int) - (z:Nat))+1) - 0).toNat=x.c.length - z+1:=y7m hm hz
   rw[hn2] at IV2
   let H:Nat->AN->LV->LO->Prop:=λi Z l₁ T''=>An3 (l₁=(yW "size", .int (z:Int) ti)::nmX x y) (T1++own1=T'') (∀ i'<i,cmJ x.c y.c z i'=none)
   refine IV2.loop (z:=s6) (T:=T1++own1) hh (S7.sub (zl _ _)) hw2
    H ⟨rfl,rfl,λi h=>absurd h (Bo _)⟩ (λp hp=>by cases hp) ?_ ?_
   ·rintro E2 a v l₁ T'' own2 ag ha ⟨ta,hv⟩ ⟨rfl,e,hnoI⟩ S8 hRo2 hKp2
    subst hv
    rw[Gj]
    refine aU (aq S8 (.new (by kernel_rfl)) ?_)
    refine λbf S9=>restate S9 λs9 K9 S9=>?_
    have K9a:Kp s6 s9:=⟨K9.os.trans hKp2.os,λq=>K9.gens (hKp2.gens q)⟩
    replace K9:Kp s s9:=kt K6 K9a
    subst e
    refine eY (rm G S9 cL (args_cons (wpAny_BinOp (wpAny_BinOp (jL G S9 B0 (bln S9 m3 (Vy.len S9 (hY0 _ λp hp=>y5 _ (y5 _ hp)) ?_)))))))
    refine λt5 tk5=>ac S9 m1 (P.sub_int (wpAny_Constant_int (P.add_int (zn (Kt (jX (S9.push _) m0 (by decide) (by decide) (y7n hm hz) (y7l hy12) ?_))))))
    intro I3 o3 Wt3 fp3 d5 IV3 hw3 S10
    have hn3:((((y.c.length:Int) - (z:Nat))+1) - 0).toNat=y.c.length - z+1:=y7o hm hz
    rw[hn3] at IV3
    let H:Nat->AN->LV->LO->Prop:=λb Z l₁ T''=>An3 (l₁=(yW "i", .int (a:Int) ta)::(yW "size", .int (z:Int) ti)::nmX x y) ((T1++own1)++own2=T'') (∀ j'<b,hit x.c y.c z a j'=false)
    refine IV3.loop (z:=s9) (T:=(T1++own1)++own2) hh (S10.sub (zl _ _)) hw3
     H ⟨rfl,rfl,λi h=>absurd h (Bo _)⟩ (λp hp=>by cases hp) ?_ ?_
    ·rintro E3 b v l₁ T'' own3 s4 ey ⟨tb,hv⟩ ⟨rfl,e,hnoJ⟩ S11 hRo3 hKp3
     subst hv
     rw[Gj]
     subst e
     refine aU (aq S11 (.new (by kernel_rfl)) ?_)
     refine λcu S12=>restate S12 λs12 K12 S12=>?_
     have K12a:Kp s9 s12:=⟨K12.os.trans hKp3.os,λq=>K12.gens (hKp3.gens q)⟩
     replace K12:Kp s s12:=kt K9 K12a
     generalize c5:((T1++own1)++own2)++own3=T₂ at S12
     have hin:∀ X:LO,∀ p∈T1,p∈X++T₂:=λX p hp=>by
      rw[<- c5];exact yZ _ (y5 _ (y5 _ (y5 _ hp)))
     have hax:a+z<=x.c.length:=y7p hm hz ha
     have hby:b+z<=y.c.length:=y7q hm hz ey
     refine dA (iF (hb:=hb) (tabs:=tabs) (isR x.v) (ac S12 m3 (bT (ac S12 m1 (bT (wpAny_BinOp (ac S12 m1 ?_)))))))
     refine ac S12 m2 (P.add_int ⟨x,some (a,ta),some (a+z,_),L',_,_,rfl,rfl,rfl,rfl,by exact S12,hX _ (hin []),hx12,dE (y7r hx12 hax),dE (y7s hx12 hax),?_⟩)
     refine λx1 eg X1 K13 S13 f6 b8 dz Z Z=>iF (hb:=hb) (tabs:=tabs) (isR x.v) (ac S13 m4 (bT (ac S13 m0 (bT (wpAny_BinOp (ac S13 m0 (ac S13 m2 ?_)))))))
     refine P.add_int ⟨y,some (b,tb),some (b+z,_),L',_,_,rfl,hk.symm,rfl,rfl,by exact S13,hY _ (hin X1),hy12,dE (y7r hy12 hby),dE (y7s hy12 hby),?_⟩
     refine λy1 cx X2 K14 S14 f7 hk2 cz Z Z=>wx_eq (x:=x1) (y:=y1) (by show A.units+3<Aw;exact y7t hu) ((f6.mono λp hp=>yZ _ hp).wh S14) (f7.wh S14) (b8.trans hk2.symm) ?_
     have hq:decide (x1.c=y1.c)=hit x.c y.c z a b:=by
      rw[dz,cz]
      show decide (gB x.c (some a) (some (a+z))=gB y.c (some b) (some (b+z)))=_
      rw[q7,q7];rfl
     rw[hq]
     replace S14:=S14.sub ((Ad X1 _).trans (Ad X2 _))
     have K14a:Kp s9 cx:=kt (kt K12a K13) K14
     replace K14:Kp s cx:=kt K9 K14a
     clear S13 K13 f6 f7 dz cz b8 hk2 hq
     refine y8 ⟨λq=>?_,λq=>?_⟩
     ·refine aC (tV G S14 (v:=.ref 300) (by kernel_rfl) (args_cons (iF (hb:=hb) (tabs:=tabs) (isR x.v) (ac S14 m3 (dW (bT (ac S14 m1 ?_)))))))
      refine⟨x,none,some (a,ta),L',_,_,rfl,rfl,rfl,rfl,S14,hX _ (hin []),hx12,jR,dE (y7r hx12 hax),?_⟩
      refine λx2 s15 X3 K15 S15 hx2 hk3 e6 Z Z=>args_cons (iF (hb:=hb) (tabs:=tabs) (isR x.v) (ac S15 m4 (dW (bT (ac S15 m0 ⟨y,none,some (b,tb),L',_,_,rfl,hk.symm,rfl,rfl,S15,hY _ (hin X3),hy12,jR,dE (y7r hy12 hby),?_⟩)))))
      refine λy2 s16 X4 K16 S16 f8 hk4 hc4 Z Z=>zn ⟨⟨_,_,_,S16⟩,?_⟩
      refine ih (x:=x2) (y:=y2) S16 (by show A.depth+1+f+10<zg;exact y7u hd) (by show A.units+3+3 * f+10<Aw;exact y7v hu) hh (hx2.mono λp hp=>yZ _ hp) f8 (hk3.trans hk4.symm) ?_ ?_ ?_ ?_
      ·rw[e6];exact Bq (dI ..) hx12
      ·rw[hc4];exact Bq (dI ..) hy12
      ·rw[e6]
       show (x.c.take a).length<f
       rw[Bc];exact y7w hf hi hz hax
      intro s17 X5 t6 K17 S17
      replace S17:=S17.sub ((Ad X3 _).trans ((Ad X4 _).trans (Ad X5 _)))
      rw[show x2.c=x.c.take a from e6,show y2.c=y.c.take b from hc4]
      generalize hr1:cm f (x.c.take a) (y.c.take b)=r1
      refine aq S17 (.new (by kernel_rfl)) (λee S18=>restate S18 λs18 K18 S18=>?_)
      replace K18:Kp s s18:=⟨K18.os.trans (K17.os.trans (K16.os.trans (K15.os.trans K14.os))),λq=>K18.gens (K17.gens (K16.gens (K15.gens (K14.gens q))))⟩
      clear S14 S15 S16 S17 hx2 f8 e6 hc4 hk3 hk4
      refine cP (wpAny_BinOp (wpAny_BinOp (ac S18 m3 (ac S18 m0 (P.add_int (tV G S18 (v:=.ref 300) (by kernel_rfl) (args_cons ?_)))))))
      refine iF (hb:=hb) (tabs:=tabs) (isR x.v) (ac S18 m4 (bT (wpAny_BinOp (ac S18 m2 (ac S18 m3 (P.add_int (dW ?_)))))))
      refine⟨x,some (a+z,_),none,L',_,_,rfl,rfl,rfl,rfl,by exact S18,hX _ (hin []),hx12,dE (y7s hx12 hax),jR,?_⟩
      refine λx3 s19 X6 K19 S19 cq hk5 hc5 Z Z=>args_cons (iF (hb:=hb) (tabs:=tabs) (isR x.v) (ac S19 m5 (bT (wpAny_BinOp (ac S19 m1 (ac S19 m3 (P.add_int ?_)))))))
      refine dW ⟨y,some (b+z,_),none,L',_,_,rfl,hk.symm,rfl,rfl,by exact S19,hY _ (hin X6),hy12,dE (y7s hy12 hby),jR,?_⟩
      refine λy3 s20 X7 K20 S20 hy3 hk6 hc6 Z Z=>zn ⟨⟨_,_,_,S20⟩,?_⟩
      refine ih (x:=x3) (y:=y3) S20 (by show A.depth+1+f+10<zg;exact y7u hd) (by show A.units+3+3 * f+10<Aw;exact y7v hu) hh (cq.mono λp hp=>yZ _ hp) hy3 (hk5.trans hk6.symm) ?_ ?_ ?_ ?_
      ·rw[hc5];exact Bq (dI ..) hx12
      ·rw[hc6];exact Bq (dI ..) hy12
      ·rw[hc5]
       show (gB x.c (some (a+z)) none).length<f
       rw[kB,EF];exact y7x hf hm hi hz
      intro s21 X8 t8 K21 S21
      replace S21:=S21.sub ((Ad X6 _).trans ((Ad X7 _).trans (Ad X8 _)))
      rw[show x3.c=x.c.drop (a+z) from hc5.trans (kB ..),show y3.c=y.c.drop (b+z) from hc6.trans (kB ..)]
      refine P.add_int ?_
      have hJ:cmJ x.c y.c z a=some b:=nx ey q hnoJ
      have hI:cmI x.c y.c z=some (a,b):=mJ (i:=a) ha (by rw[hJ];rfl) λi' h=>by rw[hnoI i' h];rfl
      have hC:cm (f+1) x.c y.c=z+r1+cm f (x.c.drop (a+z)) (y.c.drop (b+z)):=by
       rw[cm_s,hm,nI hk0 hI m hkm hno,<- hr1]
      rw[hC] at k
      rw[<- c5,<- dp] at S21
      have S22:=S21.perm (sA [] T own1 own2 own3 (L,oL))
      exact k _ _ _ ⟨K21.os.trans (K20.os.trans (K19.os.trans K18.os)),λq=>K21.gens (K20.gens (K19.gens (K18.gens q)))⟩ (S22.leave 0 rfl r)
     ·refine aF (aF ⟨_,_,(by rw[<- c5] at S14;exact S14.forget (zl _ _)),⟨rfl,rfl,λj' h1=>?_⟩,(λp hp=>by cases hp),⟨K14a.os,K14a.gens⟩⟩)
      rcases DR (Cy h1) with q2|rfl
      ·exact hnoJ j' q2
      ·exact q
    ·rintro s4 l' T'' hKp4 S11 ⟨rfl,rfl,hnoJ⟩ hRo4
     refine aF ⟨_,_,S11.forget (zl _ _),⟨rfl,rfl,λi' h1=>?_⟩,(λp hp=>by cases hp),⟨hKp4.os.trans K9a.os,λq=>hKp4.gens (K9a.gens q)⟩⟩
     rcases DR (Cy h1) with q|rfl
     ·exact hnoI i' q
     ·exact l9 hnoJ
   ·rintro s3 l' T'' hKp3 S8 ⟨rfl,rfl,hnoI⟩ hRo3
    refine aF ⟨_,_,S8.forget (zl _ _),⟨rfl,rfl,λk' h1 h2=>?_⟩,(λp hp=>by cases hp),⟨hKp3.os.trans K6.os,λq=>hKp3.gens (K6.gens q)⟩⟩
    rcases hstep k' h1 h2 with rfl|q
    ·exact pc λi' hi'=>by rw[hnoI i' hi'];rfl
    ·exact hno k' q h2
  ·rintro s' l' T' hKp S5 ⟨rfl,rfl,hno⟩ hRo
   refine cP (wpAny_Constant_int ?_)
   subst dp
   have S6:=S5.leave 0 rfl r
   have e:cm (f+1) x.c y.c=0:=by
    rw[cm_s,hm,nJ _ λk h1 h2=>hno k (y7z h1) h2]
   have:=λs' t a b=>k s' [] t a b
   rw[e] at this
   exact this _ _ ⟨hKp.os,hKp.gens⟩ S6
theorem tT(G:GK w hb):∀ f:Nat,CmC w hb f:=by
 intro f
 induction f with
 | zero =>
  exact λZ Z Z Z Z Z Z Z Z hf Z=>absurd hf (Bo _)
 | succ f ih =>
  exact tS G (ih)
section
variable{T:LO}{l:LV}{x y:WX}
theorem cm_le(f:Nat)(la lb:List zH):2 * cm f la lb<=la.length+lb.length:=by
 obtain⟨m,h,hc⟩:=rf f la lb
 have h1:=j7 m la λc=>(hc c).1
 have h2:=j7 m lb λc=>(hc c).2
 exact y80 h h1 h2
theorem vy(G:GK w hb)(S:St hb tabs L l T s.heap)(hd:A.depth+30<zg)(hu:A.units+60<Aw)(hh:A.handled=none)(hx:WT T x)(hy:WT T y)(hk:isR x.v=isR y.v)(hx12:x.c.length<12)(hy12:y.c.length<12)
  (k:∀ (s':y9) (X:LO) (t:AN),Kp s s'->St hb tabs L l (X++T) s'.heap->s.toks<=t->t<s'.toks->R (.ok (.ret (.float (bK (cm (x.c.length+1) x.c y.c:Nat) ((x.c.length:Int)+y.c.length)) t))) s') :
  zS (y0 pw w) A (.call (.ref 307) ⟨[x.v,y.v],[]⟩) R s:=by
 refine dQ G S (lk307 _) (dn 30 hd) (binds:=nmX x y) (body:=aD (st1 pw 14)) (AW (by kernel_rfl)) ?_
 intro L' ai oL r ah
 have htk0:s.toks<=(s.toks+(nmX x y).length):=Ck _ _
 refine restateT ah λs₁ ar b8 ah=>?_
 replace ar:Kp s s₁:=⟨ar.os,ar.gens⟩
 replace b8:s.toks<=s₁.toks:=zk htk0 b8
 have hx1:WT ((L,oL)::T) x:=hx.mono λp hp=>aj hp
 have hy1:WT ((L,oL)::T) y:=hy.mono λp hp=>aj hp
 obtain⟨Rx,hRx,Vx⟩:=hx1.sq (prog:=pw) (w:=w) (hb:=hb) (tabs:=tabs)
 obtain⟨Ry,hRy,Vy⟩:=hy1.sq (prog:=pw) (w:=w) (hb:=hb) (tabs:=tabs)
 refine aC (AC b8 (wpAny_BinOp (jL G ah B0 (bln ah m0 (Vx.len ah hRx ?_)))))
 refine λt1 tk1=>jL G ah B0 (bln ah m1 (Vy.len ah hRy ?_))
 refine λt2 tk2=>P.add_int (λhk2=>aq ah (.new (by kernel_rfl)) (λak ae=>restateT ae λs3 ax hk3 ae=>?_))
 replace ax:Kp s s3:=kt ar ax
 replace hk3:s.toks<=s3.toks:=by simp only at hk2 hk3;exact y82 hk2 hk3
 refine cP (IfExp_ (wpAny_isTrue_Compare1 (ac ae m0 (wpAny_Constant_int (Ik (y8 ?_))))))
 have hn0:(0:Int)<=(x.c.length:Int)+y.c.length:=z15
 have hn1:(x.c.length:Int)+y.c.length<=1000:=y84 hx12 hy12
 by_cases h0:(0:Int)<(x.c.length:Int)+y.c.length
 ·rw[if_pos (decide_eq_true h0)]
  have hn:(x.c.length:Int)+y.c.length≠0:=Jo (Int.ne_of_lt h0)
  refine wpAny_BinOp (wpAny_BinOp (Bn (tV G ae (v:=.ref 300) (by kernel_rfl) (bl ae m1 (bln ae m2 ⟨⟨_,_,_,by exact ae⟩,?_⟩)))))
  refine codeAny_with_toks (n:=s.toks) (by show s.toks<=s3.toks+1+1;exact y86 hk3) (tT G (x.c.length+1) (x:=x) (y:=y) ae (by show A.depth+1+(x.c.length+1)+10<zg;exact y87 hd hx12) (by show A.units+3+3 * (x.c.length+1)+10<Aw;exact y88 hu hx12) hh hx1 hy1 hk hx12 hy12 (Be _) ?_)
  intro s4 X t4 K4 S4 hk4
  have hle:=cm_le (x.c.length+1) x.c y.c
  refine mul_fi_fits (eB (DI _) (y89 hx12 hy12 hle)) (ac S4 m0 ?_)
  have hO:¬ Mo ((x.c.length:Int)+y.c.length):=λq=>by
   have:=eB hn0 hn1
   exact absurd q (Ig.mpr (zJ this (by decide +kernel)))
  refine G1 (IF hO) (λq=>hn ((Ih _).mp q)) ?_
  have e:bK (cm (x.c.length+1) x.c y.c:Nat) ((x.c.length:Int)+y.c.length)=Lj (Lk 4611686018427387904 (ER (cm (x.c.length+1) x.c y.c:Nat))) (ER ((x.c.length:Int)+y.c.length)):=if_neg hn
  have S5:=(S4.perm zs).leave 0 rfl r
  refine e▸k _ _ _ ⟨K4.os.trans ax.os,λq=>K4.gens (ax.gens q)⟩ S5 ?_ ?_
  ·show s.toks<=s4.toks+1;exact z78 hk4
  ·exact Be _
 ·rw[if_neg (λq=>h0 (of_decide_eq_true q))]
  have hn:(x.c.length:Int)+y.c.length=0:=y8c h0
  refine Bn ?_
  have e:bK (cm (x.c.length+1) x.c y.c:Nat) ((x.c.length:Int)+y.c.length)=4607182418800017408:=if_pos hn
  refine e▸k _ [] _ ⟨ax.os,ax.gens⟩ (ae.leave 0 rfl r) ?_ ?_
  ·show s.toks<=s3.toks+1;exact z78 hk3
  ·exact Be _
end
end
section
open PySem.SeqAt
theorem vI:((zM 12).all λn=>sliceRange (Lr none none (some (-1)) n).1 (Lr none none (some (-1)) n).2.1 (Lr none none (some (-1)) n).2.2==(zM n).reverse)=true:=by decide +kernel
theorem mT(xs:List Value)(hn:xs.length<12):Gv xs.toArray none none (some (-1))=xs.reverse.toArray:=by
 unfold Gv
 rw[zd,Ap (zC.mp vI xs.length (zR.mpr hn))]
 have h:=gz xs none none
 have e:jj xs.length none none=zM xs.length:=by
  unfold jj
  rw[CM,CM,En,C1 (by rw[B6];exact zh _)]
 rw[e] at h
 have e2:gB xs none none=xs:=by
  unfold gB
  rw[CM,CM,En,zX]
 rw[e2] at h
 rw[List.filterMap_reverse,show (λi=>xs.toArray[i]?)=λi:Nat=>xs[i]? from by funext i;simp,h]
section
variable{tabs:List ze}
theorem ph{Q:VP}{value st:Expr}{p pos:Ef}
  (h:y4 (y0 prog w) A (Aq value env) (λo s₁=>y4 (y0 prog w) A (Aq st env) (λvu ag=>Ex7 λL l T d xs n tb=>An6 (o=.ref d) (vu=.int (-1) tb) (St hb tabs L l T ag.heap) ((d,ap xs n)∈T) (xs.length<12) (∀ D X h',St hb tabs L l ((D,ap xs.reverse 0)::(X++T)) h'->Q (.ref D) (wh ag h'))) E s₁) E s)
  (ht:∀ o r,Fj value o r=Au ():=by intro Z Z;rfl) :
  y4 (y0 prog w) A (Aq (.Subscript value (.Slice none none (some st) p) pos) env) Q E s:=by
 refine wpAny_Subscript_Slice_step (T := "list") Bb (zf h (λo s₁ ai=>FW ?_) λZ Z e=>e) ht
 rw[DZ]
 refine yY (yY ?_)
 rw[Hz]
 refine zf ai (λvu ag am=>?_) λZ Z e=>e
 obtain⟨L,l,T,d,xs,n,tb,rfl,rfl,S,hm,hz,hQ⟩:=am
 have hl:ag.heap.IsList d xs.toArray:=⟨_,S.obj _ hm,rfl,n,rfl⟩
 have ah:=(S.push { cls:=.type "slice", data:=.fields #[.none,.none,.int (-1) tb] }).push { cls:=.type "list", data:=.seq (Gv xs.toArray none none (some (-1))) }
 rw[mT xs hz] at ah
 refine⟨(hl.push _).typeIs,Dv (hl.push _) (DO ..) .none .none (.int _ _) (by simp) ?_ (by rw[zw,zd];exact ul 16777204 hz)⟩
 rw[mT xs hz]
 exact hQ _ [(_,_)] _ ah
theorem nO{α:Type}[DecidableEq α](xs ys:List α)(hl:xs.length=ys.length):((zM xs.length).all λj=>decide (xs[j]? = ys[j]?))=decide (xs=ys):=by
 by_cases h:xs=ys
 ·subst h;simp
 ·rw[decide_eq_false h,Kv]
  refine BB λhc=>h (Ct λj=>?_)
  by_cases hj:j<xs.length
  ·exact BB λhne=>hc ⟨j,zR.mpr hj,λq=>hne (of_decide_eq_true q)⟩
  ·rw[zP (Br.mp hj),zP (by rw[<- hl];exact Br.mp hj)]
noncomputable abbrev cW(xs:List WX):List (List zH):=xs.map WX.c
variable{a:ze}{xs ys:List WX}
theorem mE(hu:A.in1.units<Aw)(hx:∀ x∈xs,WH s.heap x)(hy:∀ y∈ys,WH s.heap y)(hk:∀ x∈xs,∀ y∈ys,isR x.v=isR y.v) :
  ∀ j (h1:j<(xs.map WX.v).toArray.size) (h2:j<(ys.map WX.v).toArray.size),EqAt A.in1 s (xs.map WX.v).toArray[j] (ys.map WX.v).toArray[j] (decide ((cW xs)[j]? = (cW ys)[j]?)):=by
 intro j h1 h2
 have h1':j<xs.length:=by simpa using h1
 have h2':j<ys.length:=by simpa using h2
 have e1:(xs.map WX.v).toArray[j]=xs[j].v:=by simp
 have e2:(ys.map WX.v).toArray[j]=ys[j].v:=by simp
 have e3:decide ((cW xs)[j]? = (cW ys)[j]?)=decide (xs[j].c=ys[j].c):=by
  rw[zB,zB,zj h1',zj h2']
  exact decide_eq_decide.mpr ⟨λq=>AB q,λq=>congrArg some q⟩
 rw[e1,e2,e3]
 exact λprog w E Q hq=>kL hu (hx _ (z5 h1')) (hy _ (z5 h2')) (hk _ (z5 h1') _ (z5 h2')) hq
theorem sn(hl1:s.heap.IsList a (xs.map WX.v).toArray)(hl2:s.heap.IsList d (ys.map WX.v).toArray)(hu:A.units+1<Aw)(hx:∀ x∈xs,WH s.heap x)(hy:∀ y∈ys,WH s.heap y)(hk:∀ x∈xs,∀ y∈ys,isR x.v=isR y.v) :
  RcAt A s (.ref a) (.ref d) (decide (cW xs=cW ys)):=by
 by_cases hl:xs.length=ys.length
 ·have:=RcAt.lists (e:=λj=>decide ((cW xs)[j]? = (cW ys)[j]?)) hl1 hl2 (by simpa using hl) (Fx hu) (mE (by show A.units+1<Aw;exact hu) hx hy hk)
  have e:=nO (cW xs) (cW ys) (by simpa using hl)
  rw[zb] at e
  rw[zd,zb,e] at this
  exact this
 ·have:=RcAt.lists_lengths (A:=A) (s:=s) hl1 hl2 (by simpa using hl) (Fx hu)
  rw[decide_eq_false (λq=>hl (by simpa using congrArg CA q))]
  exact this
theorem fY{Q:VP}(hl1:s.heap.IsList a (xs.map WX.v).toArray)(hl2:s.heap.IsList d (ys.map WX.v).toArray)(hu:A.units+1<Aw)(hx:∀ x∈xs,WH s.heap x)(hy:∀ y∈ys,WH s.heap y)(hk:∀ x∈xs,∀ y∈ys,isR x.v=isR y.v)
  (h:Q (.bool (decide (cW xs=cW ys))) s):y4 (y0 prog w) A (AF .Eq (.ref a) (.ref d)) Q E s:=sn hl1 hl2 hu hx hy hk prog w E Q h
theorem pP{Q:VP}(hl1:s.heap.IsList a (xs.map WX.v).toArray)(hl2:s.heap.IsList d (ys.map WX.v).toArray)(hu:A.units+1<Aw)(hx:∀ x∈xs,WH s.heap x)(hy:∀ y∈ys,WH s.heap y)(hk:∀ x∈xs,∀ y∈ys,isR x.v=isR y.v)
  (h:Q (.bool (!decide (cW xs=cW ys))) s):y4 (y0 prog w) A (AF .NotEq (.ref a) (.ref d)) Q E s:=by
 by_cases hl:xs.length=ys.length
 ·have:=RcNeAt.lists (e:=λj=>decide ((cW xs)[j]? = (cW ys)[j]?)) hl1 hl2 (by simpa using hl) (Fx hu) (mE (by show A.units+1<Aw;exact hu) hx hy hk)
  have e:=nO (cW xs) (cW ys) (by simpa using hl)
  rw[zb] at e
  rw[zd,zb,e] at this
  exact this prog w E Q h
 ·have:=RcNeAt.lists_lengths (A:=A) (s:=s) hl1 hl2 (by simpa using hl) (Fx hu)
  rw[decide_eq_false (λq=>hl (by simpa using congrArg CA q))] at h
  exact this prog w E Q h
end
end
section
open PySem.Spec
theorem kN{α:Type}(f:α->Nat):∀ {l₁ l₂:List α},l₁.Perm l₂->l₁.Pairwise (λa b=>f b<=f a)->l₂.Pairwise (λa b=>f b<=f a)->(∀ a∈l₁,∀ b∈l₁,f a=f b->a=b)->l₁=l₂:=by
 intro l₁
 induction l₁ with
 | nil=>exact λhp Z Z Z=>hp.nil_eq
 | cons a r ih =>
  intro l₂ hp h1 h2 hi
  cases l₂ with
  | nil=>exact hp.eq_nil
  | cons b q =>
   obtain⟨a1,a2⟩:=DM.mp h1
   obtain⟨b1,b2⟩:=DM.mp h2
   have hb:b∈a::r:=hp.mem_iff.mpr (.head _)
   have ha:a∈b::q:=hp.mem_iff.mp (.head _)
   have e1:f b<=f a:=by
    rcases y7.mp hb with rfl|q
    ·exact zh _
    ·exact a1 b q
   have e2:f a<=f b:=by
    rcases y7.mp ha with rfl|q
    ·exact zh _
    ·exact b1 a q
   have e:a=b:=hi a (.head _) b hb (F5 e2 e1)
   subst e
   rw[ih hp.cons_inv a2 b2 λx hx y hy=>hi x (aj hx) y (aj hy)]
structure Ws(w:Am)(hb:AE)(T:LO)(wd:WX)(rw:List WX):Prop where
 hwd:WT T wd
 hrs:∀ p∈rw,WT T p
 kind:∀ p∈rw,isR p.v=isR wd.v
 wlen:wd.c.length<=5
 rlen:∀ p∈rw,p.c.length<=10
 abc:∀ p∈wd::rw,∀ c∈p.c,Abc c
 cnt:rw.length<12
 told0:aP w T wd.v (.str (yW "") 540) (wd.c=[])
 told:∀ x∈rw,∀ p∈(⟨.str (yW "") 539,[]⟩:WX)::rw,aP w T x.v p.v (x.c=p.c)
section
variable{T T':LO}{wd:WX}{rw rw':List WX}
theorem Ws.mono(W:Ws w hb T wd rw)(h:∀ p∈T,p∈T'):Ws w hb T' wd rw :=
 ⟨W.hwd.mono h,λp hp=>(W.hrs p hp).mono h,W.kind,W.wlen,W.rlen,W.abc,W.cnt,aP.mono W.told0 h,λx hx p hp=>aP.mono (W.told x hx p hp) h⟩
theorem Ws.sub(W:Ws w hb T wd rw)(h:∀ p∈rw',p∈rw)(hc:rw'.length<12):Ws w hb T wd rw' :=
 ⟨W.hwd,λp hp=>W.hrs p (h p hp),λp hp=>W.kind p (h p hp),W.wlen,λp hp=>W.rlen p (h p hp),λp hp=>W.abc p ((y7.mp hp).elim (λq=>q▸.head _) λq=>aj (h p q)),hc,W.told0,
  λx hx p hp=>W.told x (h x hx) p ((y7.mp hp).elim (λq=>q▸.head _) λq=>aj (h p q))⟩
noncomputable def rW(wd:List zH)(c:List zH):Nat:=rkW (scr c wd) c
def rG(wd:List zH)(l:List WX):Prop:=l.Pairwise λa b=>rW wd b.c<=rW wd a.c
theorem vH{f g:UInt64}{a b:List zH}(ha:a.length<=10)(hb:b.length<=10)(ca:∀ c∈a,Abc c)(cb:∀ c∈b,Abc c)(h:rkW f a=rkW g b):a=b:=by
 have h1:=fK 10 a ca
 have h2:=fK 10 b cb
 refine (jd 10 a b ha hb ca cb).1.mpr ?_
 unfold rkW at h
 have e:=congrArg (· % 4 ^ 10) h
 simp only[Nat.mul_add_mod_self_right] at e
 rwa [KZ h1,KZ h2] at e
theorem gI(W:Ws w hb T wd rw){P B F:List WX}(hP:P.Perm F)(hB:B.Perm F)(hF:∀ x∈F,x∈rw)(fP:rG wd.c P)(fB:rG wd.c B):cW P=cW B:=by
 refine kN (rW wd.c) ((hP.trans hB.symm).map _) (AT.mpr fP) (AT.mpr fB) λa ha b hb' e=>?_
 obtain⟨x,hx,rfl⟩:=za.mp ha
 obtain⟨y,hy,rfl⟩:=za.mp hb'
 have mx:=hF x (hP.mem_iff.mp hx)
 have my:=hF y (hP.mem_iff.mp hy)
 exact vH (W.rlen x mx) (W.rlen y my) (W.abc x (aj mx)) (W.abc y (aj my)) e
variable{Ri:LO}{l:LV}{n:Nat}
theorem tC(G:GK w hb)(B:BM hb)(S:St hb tabs L l T s.heap)(hd:A.depth+40<zg)(hu:A.units+200<Aw)(hh:A.handled=none)(C:uo w cut g)(W:Ws w hb T wd rw)
  (hbind:Fi s (dH w.params) args [(yW "word", wd.v),(yW "possibilities", .ref pd),(yW "n", .int n tn),(yW "cutoff", cut)])
  (IT:rE w hb Ri pd (rw.map WX.v)) (hRi:∀ p∈Ri,p∈T) (hn:0<n) (hg:∀ x∈rw,jo g x.c wd.c=g (scr x.c wd.c))
  (k:∀ (s':y9) (X:LO) (r:ze) (nr:Nat) (P:List WX),Kp s s'->St hb tabs L l ((r,ap ((P.take n).map WX.v) nr)::(X++T)) s'.heap->P.Perm (rw.filter λx=>g (scr x.c wd.c))->rG wd.c P->R (.ok (.ret (.ref r))) s') :
  zS (y0 pw w) A (.call (.ref 286) args) R s:=by
 refine gcm_c G B (nl_c G) S hd hu hh C hbind IT hRi hn (Af (zJ W.cnt (by decide))) W.hwd W.hrs W.told0 W.told (rk:=rkW) (λEs hE=>?_) ?_
 ·refine uz (λe he=>?_) λe he e' he'=>(W.kind _ (hE e he).1).trans (W.kind _ (hE e' he').1).symm
  rw[(hE e he).2]
  exact⟨gH (W.rlen _ (hE e he).1) W.wlen,W.rlen _ (hE e he).1,W.abc _ (aj (hE e he).1)⟩
 ·refine λs' X r nr P K S' hP hf=>k s' X r nr P K S' ?_ hf
  rwa [Fk hg] at hP
end
end
section
variable{tabs:List ze}{pos:Ef}{f:ze}
theorem kA{Q:VP}{e:Expr}{rest:List Expr}{kws:List Keyword}{oc:Value}{od:Option ze}{osl:Array (Option Value)}(G:Gd K tabs hb)(hK:K.lookup f=some ⟨oc,od,.func fd,osl⟩)
  (h:y4 (y0 prog w) A (CD (Ci pos (AI (e::rest) env))) (λvs s₁=>y4 (y0 prog w) A (evalAll ((DT pos (Cz kws env)).map (·.2)))
   (λks ag=>(Ex3 λL l T=>St hb tabs L l T ag.heap)/\zS (y0 prog w) A (.call (.ref f) ⟨vs,((DT pos (Cz kws env)).filterMap (·.1)).zip ks⟩) (λr s'=>match r with|.ok (.ret v)=>Q v s'|.ok _=>False|.error e=>E e s') ag) E s₁) E s)
  (hall:(DT pos (Cz kws env)).all (·.1.isSome)=true:=by rfl) (he:AI (e::rest) env=(false,Aq e env)::AI rest env:=by rfl) :
  y4 (y0 prog w) A (DS pos (.ref f) [] (Ci pos (AI (e::rest) env)) (DT pos (Cz kws env))) Q E s:=by
 refine callWith_def_kw (o:=⟨oc,od,.func fd,osl⟩) (fd:=fd) rfl (evalArgs_kw2 hall ?_ he)
 refine zf h (λvs s₁ z=>zf z (λks ag z=>?_) λZ Z q=>q) λZ Z q=>q
 obtain⟨⟨L,l,T,S⟩,z⟩:=z
 exact⟨S.kin G f _ hK,BO z⟩
end
section
open PySem.Spec
noncomputable abbrev nmSO (e:Sc):LV:=[(yW "one", e.x.v),(yW "share", .float e.f e.ft)]
section
variable{ag:y9}{tabs:List ze}{T X own:LO}{acc:List Value}{c:Nat}{ce:ID}{cond:Expr}{kx:Nat}{J:List Value->LO->Prop}{E':VP}{b:Bool}
theorem mF(e:Sc)(hh:A.handled=none)(S:St hb tabs C [] ((D,ap acc c)::(X++((L,oL)::T))++own) ag.heap)(hm:(e.a,aG [.float e.f e.ft,e.x.v])∈T)(hL:ce.locals=C)(K:Kp s ag)
  (hc:∀ (s5:y9) (Tt:LO) (Q:BP) (E:VP),(∀ q∈T,q∈Tt)->St hb tabs C (nmSO e) Tt s5.heap->(∀ s6,Kp s5 s6->St hb tabs C (nmSO e) Tt s6.heap->Q b s6)->y4 (y0 prog w) A (isTrue cond ce (Aq cond ce)) Q E s5)
  (hJ:b=true->J (acc++[e.x.v]) X) (hJ':b=false->J acc X)
  (h1:ou ce.scope (ce.kindOf (yW "share")) (yW "share")=true) (h2:ou ce.scope (ce.kindOf (yW "one")) (yW "one")=true) :
  xr prog w A hb tabs (.Tuple [.Name (yW "share") p1,.Name (yW "one") p2] kx p) (.Name (yW "one") p3) [cond] C D L oL T own ce acc c (Kp s) J E' (.ref e.a) ag:=by
 refine cI hh S (y5 _ (aj (yZ _ (aj hm)))) ?_
 intro ak ae
 subst hL
 refine aY (aT (env:=ce) ae (.new (by kernel_rfl)) ?_ (uM h1))
 refine λaw S4=>aY (aT (env:=ce) S4 (.new (by kernel_rfl)) ?_ (uM h2))
 refine λay S5=>cE (LN (hc _ _ _ _ (λq hq=>y5 _ (aj (yZ _ (aj hq)))) S5 ?_))
 intro s6 K6 S6
 cases b with
 | true =>
  refine au (env:=ce) S6 m0 ?_ h2
  exact⟨X,_,(kt K K6),S6,hJ rfl⟩
 | false=>exact⟨X,_,(kt K K6),S6,hJ' rfl⟩
end
section
variable{sc:ze}{T:LO}{l:LV}{wd:WX}{rw:List WX}{n nsc:Nat}{Es:List Sc}
theorem tY {a:Value}{pd:ze}{n:Int}{tn:AN}{cut:Value} (G:GK w hb) (S:St hb tabs L l T s.heap):Fi s (dH w.params) ⟨[a,.ref pd],[(yW "n", .int n tn),(yW "cutoff", cut)]⟩
  [(yW "word", a),(yW "possibilities", .ref pd),(yW "n", .int n tn),(yW "cutoff", cut)]:=Bx (o:=uG w.params) rfl (S.kin G 281 _ (by kernel_rfl)) rfl rfl rfl
theorem ry{a:Value}{pd:ze}{n:Int}{tn:AN}{cut:Value}(G:GK w hb)(S:St hb tabs L l T s.heap):Fi s (dH w.params) ⟨[a,.ref pd,.int n tn,cut],[]⟩
  [(yW "word", a),(yW "possibilities", .ref pd),(yW "n", .int n tn),(yW "cutoff", cut)]:=Bx (o:=uG w.params) rfl (S.kin G 281 _ (by kernel_rfl)) rfl rfl rfl
structure Scd(w:Am)(T:LO)(wd:WX)(rw:List WX)(Es:List Sc):Prop where
 ok:SXk T Es
 perm:(Es.map Sc.x).Perm rw
 f:∀ e∈Es,e.f=scr e.x.c wd.c
 falls:rG wd.c (Es.map Sc.x)
noncomputable abbrev aL(g:UInt64->Bool)(Es:List Sc):List WX:=(Es.filter λe=>g e.f).map Sc.x
theorem Scd.best(H:Scd w T wd rw Es):(aL g Es).Perm (rw.filter λx=>g (scr x.c wd.c))/\rG wd.c (aL g Es)/\∀ x∈aL g Es,x∈rw:=by
 have e:aL g Es=(Es.map Sc.x).filter λx=>g (scr x.c wd.c):=by
  rw[List.filter_map]
  unfold aL
  congr 1
  refine Fk λe he=>?_
  show g e.f=g (scr e.x.c wd.c)
  rw[H.f e he]
 have hp:(aL g Es).Perm (rw.filter λx=>g (scr x.c wd.c)):=by rw[e];exact H.perm.filter _
 refine⟨hp,?_,λx hx=>(By.mp (hp.mem_iff.mp hx)).1⟩
 rw[e]
 exact H.falls.filter _
theorem xd(G:GK w hb)(B:BM hb)(S:St hb tabs L l T s.heap)(hd:A.depth+60<zg)(hu:A.units+300<Aw)(hh:A.handled=none)(C:uo w cut g)(W:Ws w hb T wd rw)
  (hg:∀ x∈rw,jo g x.c wd.c=g (scr x.c wd.c)) (hpd:(pd,ap (rw.map WX.v) np)∈T) (hsc:(sc,ap (aB Es) nsc)∈T) (H:Scd w T wd rw Es) (hn:0<n) (hn60:n<=60)
  (k:∀ (s':y9) (X:LO),Kp s s'->St hb tabs L l (X++T) s'.heap->R (.ok (.ret (.bool true))) s') :
  zS (y0 pw w) A (.call (.ref 326) ⟨[wd.v,.ref pd,.ref sc,.int n tn,cut],[]⟩) R s:=by
 refine rp (lb:=[(yW "word", wd.v),(yW "some", .ref pd),(yW "scored", .ref sc),(yW "many", .int n tn)]) (cn:=yW "cutoff") (cv:=cut) G S (lk326 _) (dn 60 hd)
  (binds:=[(yW "word", wd.v),(yW "some", .ref pd),(yW "scored", .ref sc),(yW "many", .int n tn),(yW "cutoff", cut)]) (body:=aD (st1 pw 17)) (AW (by kernel_rfl)) ?_
  (λL'=>by kernel_rfl) (λL' p hp=>?_) (λL'=>rfl) (λy hy=>?_) (dF (by kernel_rfl))
 case refine_2 =>
  rcases y7.mp hp with rfl|hp
  ·rfl
  rcases y7.mp hp with rfl|hp
  ·rfl
  rcases y7.mp hp with rfl|hp
  ·rfl
  rw[y6] at hp;subst hp;rfl
 case refine_3 =>
  rcases y7.mp hy with rfl|hy
  ·exact .inl (by kernel_rfl)
  rcases y7.mp hy with rfl|hy
  ·exact .inl (by kernel_rfl)
  rcases y7.mp hy with rfl|hy
  ·exact .inl (by kernel_rfl)
  rcases y7.mp hy with rfl|hy
  ·exact .inl (by kernel_rfl)
  rw[y6] at hy;subst hy;exact .inr ⟨by kernel_rfl,rfl⟩
 intro L' s₁ oL ob r hob ar ah
 have hel:Es.length<12:=by
  have:=H.perm.length_eq
  rw[zb] at this
  rw[this];exact W.cnt
 have hT:∀ p∈T,p∈((L'+1,ob)::(L,oL)::T):=λp hp=>aj (aj hp)
 refine iL (hb:=hb) (tabs:=tabs) (cl:=[(yW "cutoff", L'+1)]) (l':=λD=>[(yW "best", .ref D),(yW "word", wd.v),(yW "some", .ref pd),(yW "scored", .ref sc),(yW "many", .int n tn)]) hh ?_ rfl rfl (.inr ⟨_,_,_,rfl⟩) rfl (by decide) rfl (by decide)
 refine au (env:=zy (eJ w.params) L' 326) ah m2 ⟨_,_,sc,aB Es,nsc,λi acc X=>X=[]/\acc=(aL g (Es.take i)).map WX.v,⟨rfl,ah,hT _ hsc,by rw[aJ];exact ul 988 hel,⟨rfl,rfl⟩,?_⟩,λD=>.new (by kernel_rfl),?_⟩
 ·rintro C' D oL' E' i v acc c X own ag hi hacc ⟨rfl,hJ⟩ bp ao af
  have hv:∃ e,Es[i]? = some e/\v=.ref e.a:=by
   rw[aB,zB] at hi
   obtain⟨e,h1,h2⟩:=zW.mp hi
   exact⟨e,h1,h2.symm⟩
  obtain⟨e,he,rfl⟩:=hv
  have hst:aL g (Es.take (i+1))=aL g (Es.take i)++if g e.f then [e.x] else []:=by
   unfold aL
   rw[Ah,he,Bt,zD]
   cases h:g e.f<;> simp[h]
  refine mF (b:=g e.f) e hh af (hT _ (H.ok e (zm he)).1) rfl ao ?_ (λhb'=>⟨rfl,?_⟩) (λhb'=>⟨rfl,?_⟩) (by kernel_rfl) (by kernel_rfl)
  ·exact λs5 Tt Q E hTt S5 hQ=>wpAny_isTrue_Compare1 (au (env:=An _ _ C' _) S5 m1 (bI (env:=An _ _ C' _) (c:=L'+1) S5 (hTt _ (.head _)) hob (C.ge (y8 (hQ _ Kp.refl S5)))))
  ·rw[hst,if_pos hb',hJ,zD];rfl
  ·rw[hst,if_neg (by rw[hb'];exact zN),hJ,Al]
 ·rintro ag bd acc c X ao af f9 ⟨rfl,hacc⟩
  rw[aJ,zX] at hacc
  subst hacc
  replace ao:Kp s ag:=kt ar ao
  obtain⟨hBp,hBf,hBm⟩:=H.best (g:=g)
  rw[Dh] at af
  refine aC (eD (cH (env:=zy (eJ w.params) L' 326) G af (v:=.ref 286) (by kernel_rfl) (kA G (oz _) (al (env:=zy (eJ w.params) L' 326) af m1 (args_cons (ph (hb:=hb) (tabs:=tabs) (au (env:=zy (eJ w.params) L' 326) af m2 ?_)))))))
  refine DX (wpAny_Constant_int (Kk ⟨L',_,_,pd,rw.map WX.v,np,_,rfl,rfl,by exact af,aj (hT _ hpd),by rw[zb];exact W.cnt,?_⟩))
  refine λD2 X2 ak ae=>zn (Et (wpAny_BinOp (wpAny_Constant_int (wpAny_Constant_int (K0 (by decide) (by decide) (by decide) (by decide) (by decide +kernel) (Et (bI (env:=zy (eJ w.params) L' 326) (c:=L'+1) ae (aj (yZ _ (aj (.head _)))) hob ?_)))))))
  refine Jp ⟨⟨_,_,_,by exact ae⟩,?_⟩
  have hT3:∀ p∈T,p∈((D2,ap (rw.map WX.v).reverse 0)::(X2++((bd,ap ((aL g Es).map WX.v) c)::(L'+1,ob)::(L,oL)::T))):=λp hp=>aj (yZ _ (aj (hT p hp)))
  have W3:=(W.mono hT3).sub (rw':=rw.reverse) (λp hp=>FJ.mp hp) (by rw[CZ];exact W.cnt)
  refine tC (n:=100000000000000000000) (g:=g) G B ae (by show A.depth+1+40<zg;exact dn 19 hd) (by show A.units+3+200<Aw;exact dn 97 hu) hh C W3 (tY G ae) (by rw[List.map_reverse];exact gG (n:=0)) (λp hp=>by rw[y6] at hp;subst hp;exact .head _) (by decide) (λx hx=>hg x (FJ.mp hx)) ?_
  intro s4 X4 ck nr4 P4 K4 S4 hP4 hf4
  have hF:∀ x∈rw.filter (λx=>g (scr x.c wd.c)),x∈rw:=λx hx=>(By.mp hx).1
  have hP4':P4.Perm (rw.filter λx=>g (scr x.c wd.c)):=hP4.trans ((Ed rw).filter _)
  have d0:=gI W hP4' hBp hF hf4 hBf
  have e8:P4.take 100000000000000000000=P4:=C1 (by
   rw[hP4'.length_eq]
   exact zk (BJ _ _) (zk (Af W.cnt) (by decide)))
  rw[e8] at S4
  have fb:∀ x∈P4,x∈rw:=λx hx=>hF x (hP4'.mem_iff.mp hx)
  replace K4:Kp s s4:=kt ao K4
  have S5:=S4.sub (T':=(ck,ap (P4.map WX.v) nr4)::(bd,ap ((aL g Es).map WX.v) c)::(L'+1,ob)::(L,oL)::T) (Na _ (((Ad X2 _).trans (zl _ _)).trans (Ad X4 _)))
  refine aT (env:=zy (eJ w.params) L' 326) S5 (.new (by kernel_rfl)) (λaz S6=>restate S6 λs6 K6 S6=>?_)
  replace K6:Kp s s6:=kt K4 K6
  clear af ae S4 S5
  refine cP (MB (wpAny_Compare1 (uU (env:=zy (eJ w.params) L' 326) G S6 (v:=.ref 286) (by kernel_rfl) (al (env:=zy (eJ w.params) L' 326) S6 m2 (al (env:=zy (eJ w.params) L' 326) S6 m3 (al (env:=zy (eJ w.params) L' 326) S6 m5 (args_cons ?_)))))))
  refine bI (env:=zy (eJ w.params) L' 326) (c:=L'+1) S6 m2 hob (zn ⟨⟨_,_,_,S6⟩,?_⟩)
  have hT6:∀ p∈T,p∈(ck,ap (P4.map WX.v) nr4)::(bd,ap ((aL g Es).map WX.v) c)::(L'+1,ob)::(L,oL)::T:=λp hp=>aj (aj (hT p hp))
  refine tC (n:=n) (g:=g) G B S6 (by show A.depth+1+40<zg;exact dn 19 hd) (by show A.units+3+200<Aw;exact dn 97 hu) hh C (W.mono hT6) (ry G S6) (gG (n:=np)) (λp hp=>by rw[y6] at hp;subst hp;exact hT6 _ hpd) hn hg ?_
  intro s7 X7 r7 nr7 P7 K7 S7 hP7 hf7
  have e7:=gI W hP7 hBp hF hf7 hBf
  have fe:∀ x∈P7,x∈rw:=λx hx=>hF x (hP7.mem_iff.mp hx)
  replace K7:Kp s s7:=kt K6 K7
  refine gE (hb:=hb) (tabs:=tabs) (au (env:=zy (eJ w.params) L' 326) S7 m1 (au (env:=zy (eJ w.params) L' 326) S7 m5 ⟨L',_,_,bd,(aL g Es).map WX.v,c,n,tn,rfl,rfl,S7,aj (yZ _ (aj (.head _))),?_,?_⟩))
  ·rw[zb,hBp.length_eq]
   exact zk (BJ _ _) (zk (Af W.cnt) (by decide))
  intro D8 X8 bc S8
  rw[<- Cb] at S8
  have hWH:∀ {T':LO}{h':AE}{l':LV}{fu:ze},St hb tabs fu l' T' h'->(∀ p∈T,p∈T')->∀ x∈rw,WH h' x:=λS' hs x hx=>((W.hrs x hx).mono hs).wh S'
  have hT8:∀ p∈T,p∈(D8,ap ((FN n (aL g Es)).map WX.v) 0)::(X8++((r7,ap ((P7.take n).map WX.v) nr7)::(X7++((ck,ap (P4.map WX.v) nr4)::(bd,ap ((aL g Es).map WX.v) c)::(L'+1,ob)::(L,oL)::T)))) :=
   λp hp=>aj (yZ _ (aj (yZ _ (hT6 p hp))))
  have hkk:∀ x∈rw,∀ y∈rw,isR x.v=isR y.v:=λx hx y hy=>(W.kind x hx).trans (W.kind y hy).symm
  refine fY (xs:=P7.take n) (ys:=(aL g Es).take n) ⟨_,S8.obj _ (aj (yZ _ (.head _))),rfl,nr7,rfl⟩ ⟨_,S8.obj _ m0,rfl,0,rfl⟩ (by show A.units+3+1<Aw;exact dn 296 hu)
   (λx hx=>hWH S8 hT8 x (fe x (AD hx))) (λx hx=>hWH S8 hT8 x (hBm x (AD hx))) (λx hx y hy=>hkk x (fe x (AD hx)) y (hBm y (AD hy))) ?_
  rw[decide_eq_true (show cW (P7.take n)=cW ((aL g Es).take n) by show (P7.take n).map WX.c=((aL g Es).take n).map WX.c;rw[Cb,Cb];exact congrArg (FN n) e7)]
  refine y8 ?_
  rw[if_pos rfl]
  refine BoolOp_one (wpAny_Compare1 (au (env:=zy (eJ w.params) L' 326) S8 m0 (au (env:=zy (eJ w.params) L' 326) S8 m1 ?_)))
  refine fY (xs:=P4) (ys:=aL g Es) ⟨_,S8.obj (ck,_) (aj (yZ _ (aj (yZ _ (.head _))))),rfl,nr4,rfl⟩ ⟨_,S8.obj (bd,_) (aj (yZ _ (aj (yZ _ (aj (.head _)))))),rfl,c,rfl⟩ (by show A.units+3+1<Aw;exact dn 296 hu)
   (λx hx=>hWH S8 hT8 x (fb x hx)) (λx hx=>hWH S8 hT8 x (hBm x hx)) (λx hx y hy=>hkk x (fb x hx) y (hBm y hy)) ?_
  rw[decide_eq_true d0]
  have S9:=S8.perm (T':=(L,oL)::(((D8,ap ((FN n (aL g Es)).map WX.v) 0)::(X8++((r7,ap ((P7.take n).map WX.v) nr7)::(X7++[(ck,ap (P4.map WX.v) nr4),(bd,ap ((aL g Es).map WX.v) c),(L'+1,ob)]))))++T)) (by
   have e:(D8,ap ((FN n (aL g Es)).map WX.v) 0)::(X8++((r7,ap ((P7.take n).map WX.v) nr7)::(X7++((ck,ap (P4.map WX.v) nr4)::(bd,ap ((aL g Es).map WX.v) c)::(L'+1,ob)::(L,oL)::T)))) =
    ((D8,ap ((FN n (aL g Es)).map WX.v) 0)::(X8++((r7,ap ((P7.take n).map WX.v) nr7)::(X7++[(ck,ap (P4.map WX.v) nr4),(bd,ap ((aL g Es).map WX.v) c),(L'+1,ob)]))))++((L,oL)::T):=by simp
   rw[e];exact zs)
  exact k _ _ ⟨K7.os,K7.gens⟩ (S9.leave 0 rfl r)
end
end
section
open PySem.Spec PySem.SeqAt
section
variable{tabs:List ze}{a:ze}{l:LV}{T:LO}{vs us:List Value}{n k:Nat}
theorem pX{Q:VP}(S:St hb tabs L l T s.heap)(h1:(a,ap vs n)∈T)(h2:(d,ap us k)∈T)(hz:vs.length+us.length<=1000)(h:∀ D h',St hb tabs L l ((D,ap (vs++us) 0)::T) h'->Q (.ref D) (wh s h')) :
  y4 (y0 prog w) A (EM .Add (.ref a) (.ref d)) Q E s:=by
 have ho:=S.obj _ h1
 have ho2:=S.obj _ h2
 have e:vs.toArray++us.toArray=(vs++us).toArray:=by simp
 refine concat_meets ⟨_,ho,rfl⟩ ⟨_,ho2,rfl⟩ noFill_list_add seq_list_add PySem.F.slot_list_add PySem.F.entry_list_add (PySem.F.args_list_add_2 _ _) (list_addW a d vs.toArray us.toArray n k none none #[] #[] (by rw[zw,zd,zd];exact zay hz)) ⟨ho,ho2,?_⟩
 rw[e]
 exact h _ _ (S.push (ap (vs++us) 0))
theorem xN{x:Int}{u:AN}{Q:VP}(S:St hb tabs L l T s.heap)(h1:(a,ap vs n)∈T)(hne:vs≠[])(hlo:0<=x)(hhi:x<=100)(hz:vs.length<=1000)(h:∀ D h',St hb tabs L l ((D,ap (GX x.toNat vs).flatten 0)::T) h'->Q (.ref D) (wh s h')) :
  y4 (y0 prog w) A (EM .Mult (.ref a) (.int x u)) Q E s:=by
 have hl:=S.obj _ h1
 have hsz:vs.length * x.toNat<=100000:=by
  have:x.toNat<=100:=zax hhi
  exact zk (Nat.mul_le_mul hz this) (by decide)
 have e:(List.foldl (λx1 x2=>x1++x2) (#[]:Array Value) (GX (if vs.toArray.isEmpty=true then 0 else x.toNat) vs.toArray))=(GX x.toNat vs).flatten.toArray:=listMul_foldl_if vs.toArray x.toNat
 refine wpAny_binaryOp_repeat_ref (T := "list") (U := "int") (by decide) ⟨_,hl,rfl⟩ (λs'=>Io s' x u) noFill_list_mul PySem.F.fills_int_mul IM repeat_list PySem.F.slot_int_index.lookup
  (H8 IM (Io s x u) PySem.F.entry_int_rmul (PySem.F.args_int_rmul_2 _ _) (int___rmul___int_list x u a vs.toArray n)
   ⟨hl,rfl,⟨_,hl,rfl⟩,H8 PySem.F.slot_list_mul ⟨_,hl,rfl⟩ PySem.F.entry_list_mul (PySem.F.args_list_mul_2 _ _)
    (AutoListH.list___mul___list_int_3 a vs.toArray n x u (by simp[MC];exact zb1 hlo hhi) (by rw[zd];lia) (by simp[MM,DU];exact zb4 hsz))
    ⟨hl,?_⟩⟩)
 rw[e]
 exact h _ _ (S.push (ap (GX x.toNat vs).flatten 0))
theorem ss {o:AO}{c:String}{Q:VP} (S:St hb tabs L l T s.heap) (hT:c = "list" \/ c = "tuple") (ho:s.heap.get? a=some o) (hc:o.cls=.type c) (hd:o.data=.seq vs.toArray n) (hz:vs.length<=1000)
  (h:∀ D c' h',St hb tabs L l ((D,ap vs c')::T) h'->Q (.ref D) (wh s h')):y4 (y0 prog w) A (call (.type "list") [.ref a]) Q E s:=by
 refine call_list_seq a hT ho hc hd (λh' c' hk hn=>?_) (by rw[zw,zd];exact up 16776216 hz)
 have S':=S.adds (own:=[(s.heap.objs.size,ap vs c')]) hk (λp hp=>by rw[y6] at hp;subst hp;exact hn) (λp hp=>by rw[y6] at hp;subst hp;exact zh _) (by simp)
 exact h _ c' h' S'.front
theorem lK{Q:VP}{value e:Expr}{p pos:Ef}
  (h:y4 (y0 prog w) A (Aq value env) (λo s₁=>y4 (y0 prog w) A (Aq e env) (λvu ag=>Ex6 λL l T d b tb=>∃ vs:List Value,An6 (o=.ref d) (vu=.int ((b:Nat):Int) tb) (St hb tabs L l T ag.heap) (ag.heap.IsList d vs.toArray) (vs.length<=1000) (∀ D X h',St hb tabs L l ((D,ap (vs.take b) 0)::(X++T)) h'->Q (.ref D) (wh ag h'))) E s₁) E s) :
  y4 (y0 prog w) A (Aq (.Subscript value (.Slice none (some e) none p) pos) env) Q E s:=by
 refine cF (zf h (λo s₁ ai=>?_) λZ Z e=>e)
 refine FW ?_
 rw[DZ]
 refine yY ?_
 rw[Hz]
 refine zf ai (λvu ag am=>?_) λZ Z e=>e
 obtain⟨L,l,T,d,b,tb,vs,rfl,rfl,S,hl,hz,hQ⟩:=am
 refine yY ?_
 have ah:=(S.push { cls:=.type "slice", data:=.fields #[.none,.int ((b:Nat):Int) tb,.none] }).push { cls:=.type "list", data:=.seq (Gv vs.toArray none (some ((b:Nat):Int)) none) }
 rw[Gc _ _] at ah
 refine⟨(hl.push _).typeIs,Dv (hl.push _) (DO ..) .none (.int _ _) .none (by simp) ?_ (by rw[zw,zd];exact up 16776216 hz)⟩
 rw[Gc _ _]
 exact hQ _ [(_,_)] _ ah
theorem tM{A:AR}{s:y9}(x y:zH)(t u:AN):EqAt A s (.str x t) (.str y u) (x==y):=λprog w E Q hq=>E5 hq
theorem ud(xs ys:List (zH×AN))(hl:xs.length=ys.length):((zM xs.length).all λj=>(xs.map (·.1))[j]? == (ys.map (·.1))[j]?)=decide (xs.map (·.1)=ys.map (·.1)):=by
 by_cases h:xs.map (·.1)=ys.map (·.1)
 ·rw[decide_eq_true h,h]
  simp
 ·rw[decide_eq_false h]
  rw[Kv]
  refine BB λhc=>h ?_
  apply Ct
  intro j
  by_cases hj:j<xs.length
  ·refine BB λhne=>hc ⟨j,zR.mpr hj,?_⟩
   exact λq=>hne (Ap q)
  ·rw[zP (by simp;exact z0c hj),zP (by simp;exact zaz hl hj)]
section
variable{xs ys:List (zH×AN)}
theorem vn(hl:xs.length=ys.length):∀ j (h1:j<(xs.map aM).toArray.size) (h2:j<(ys.map aM).toArray.size),EqAt A.in1 s (xs.map aM).toArray[j] (ys.map aM).toArray[j] ((xs.map (·.1))[j]? == (ys.map (·.1))[j]?):=by
 intro j h1 h2
 have h1':j<xs.length:=by simpa using h1
 have h2':j<ys.length:=by simpa using h2
 have e1:(xs.map aM).toArray[j]=aM xs[j]:=by simp
 have e2:(ys.map aM).toArray[j]=aM ys[j]:=by simp
 have e3:((xs.map (·.1))[j]? == (ys.map (·.1))[j]?)=(xs[j].1==ys[j].1):=by
  rw[zB,zB,zj h1',zj h2']
  rfl
 rw[e1,e2,e3]
 exact tM _ _ _ _
theorem mQ{Q:VP}(hl1:s.heap.IsList a (xs.map aM).toArray)(hl2:s.heap.IsList d (ys.map aM).toArray)(hu:A.units<Aw)(h:Q (.bool (!decide (xs.map (·.1)=ys.map (·.1)))) s):y4 (y0 prog w) A (AF .NotEq (.ref a) (.ref d)) Q E s:=by
 by_cases hl:xs.length=ys.length
 ·have:=RcNeAt.lists (e:=λj=>(xs.map (·.1))[j]? == (ys.map (·.1))[j]?) hl1 hl2 (by simpa using hl) hu (vn hl)
  rw[zd,zb,ud xs ys hl] at this
  exact this prog w E Q h
 ·have:=RcNeAt.lists_lengths (A:=A) (s:=s) hl1 hl2 (by simpa using hl) hu
  rw[decide_eq_false (λq=>hl (by simpa using congrArg CA q))] at h
  exact this prog w E Q h
end
end
end
structure ji(v:Value)(x:zH):Prop where
 obj:∀ {prog:Bh}{w:Am}{A:AR}{E:VP}{s:y9}{Q:VP},Q (.str x s.toks) (wt s (s.toks+1))->y4 (y0 prog w) A (pyReprObj v) Q E s
 call:∀ {prog:Bh}{w:Am}{A:AR}{E:VP}{s:y9}{Q:VP},Q (.str x s.toks) (wt s (s.toks+1))->y4 (y0 prog w) A (call (.builtin "repr") [v]) Q E s
 len:x.length<=1000
theorem lN{a:Int}{t:AN}{x:zH}(e:yW (toString a)=x)(ha:a.natAbs.log2<1920)(hl:x.length<=1000):ji (.int a t) x :=
 ⟨λh=>pyReprObj_int ha (by rw[<- e] at h;exact h),λh=>LQ (Io _ a t) F.slot_int_repr F.entry_int_repr (F.args_int_repr_1 _) (gives_int_repr a t ha) (by rw[<- e] at h;exact h) (hx:=int_text_fits ha),hl⟩
theorem kY{f:UInt64}{t:AN}{x:zH}(e:yW (Float64.repr f)=x)(hl:x.length<=1000):ji (.float f t) x :=
 ⟨λh=>pyReprObj_float (by rw[<- e] at h;exact h) (hx:=by rw[e,zw];exact up 16776216 hl),λh=>LQ (typeIs_float _ f t) F.slot_float_repr F.entry_float_repr (F.args_float_repr_1 _) (gives_float_repr f t) (by rw[<- e] at h;exact h) (hx:=by rw[e,zw];exact up 16776216 hl),hl⟩
theorem qY(d:zH):PySem.Str.empty++d=d:=KPc.empty_app d
theorem yM{env:ID}{lit txt:zH}{x:zH}{v:Value}{k1:Nat}{p1 p2 p3 p4:Ef}(Rv:ji v txt)(hl:lit.length<=1000){Q:VP}
  (hv:∀ {s':y9}{Q:VP}{E:VP},s'.heap=s.heap->Q v s'->y4 (y0 prog w) A (Aq (.Name x p2) env) Q E s')
  (hQ:∀ tk t,Q (.str (lit++txt) tk) (wt s t)) :
  y4 (y0 prog w) A (Aq (.JoinedStr [.Constant (.str lit) k1 p1,.FormattedValue (.Name x p2) 114 none p3] p4) env) Q E s:=by
 have h1:(lit++txt).length<=DU:=by
  rw[PySem.Str.length_append,zw];have:=Rv.len;exact y6k hl this
 have h2:txt.length<=DU:=by rw[zw];have:=Rv.len;exact up 16776216 this
 refine wpAny_JoinedStr (wpAny_Constant_str ⟨lit,_,rfl,by rw[qY,zw];exact up 16776216 hl,?_⟩)
 rw[qY]
 refine wpAny_FormattedValue_repr (hv rfl (Rv.obj ?_))
 refine wpAny_formatField_str (⟨txt,_,rfl,h1,h1,hQ _ _⟩) (⟨txt,_,rfl,h1,h1,hQ _ _⟩) h2
section
open PySem.Spec
section
variable{tabs:List ze}{l:LV}{T:LO}
theorem rn{R:Cg->y9->Prop}{oc:Value}{od:Option ze}{osl:Array (Option Value)}{args:M1}{binds:LV}{body:List Cq}
  (G:Gd K tabs hb) (S:St hb tabs L l T s.heap) (ho:K.lookup fa=some ⟨oc,od,.func fd,osl⟩) (hroom:A.depth<zg)
  (hbind:Fi s fd args binds)
  (h:∀ L' ai oL,bL oL l->St hb tabs L' binds ((L,oL)::T) ai->(∀ b o,s.heap.get? b=some o->ai.get? b=some o)->(∀ base:AE,base.StaysIn s.heap->base.get? L'=none) ->
   y4 (y0 prog w) (A.deeper (Ac fd L' fa)) (zY body (Ac fd L' fa)) (kFn R)
    (kLv (y0 prog w) (A.deeper (Ac fd L' fa)) (Ac fd L' fa) R)
    (wht s ai (s.toks+binds.length)))
  (hft:fa∉tabs:=by decide)
  (hcd:∀ hh:AE,K.In hh->hh.CodeRec fd.code fd.qualname:=by exact crO (by kernel_rfl))
  (hct:(match fd.code with|.ref c=>tabs.contains c|_=>false)=false:=by kernel_rfl)
  (hbody:fd.body=.stmts body:=by kernel_rfl)
  (hcell:(fd.scope.names.all λx=>x.2 != .cell)=true:=by kernel_rfl) (hloc:(binds.all λx=>fd.scope.names.lookup x.1==some .local)=true:=by kernel_rfl)
  (hnd':gh (binds.map (·.1))=true:=by kernel_rfl)
  (hco:fd.scope.isCoroutine=false:=by kernel_rfl) (hgen:fd.scope.isGenerator=false:=by kernel_rfl) (hk:fd.scope.kind=.function:=by kernel_rfl) :
  zS (y0 prog w) A (.call (.ref fa) args) R s:=by
 have hnd:=dF hnd'
 have hcr:s.heap.CodeRec fd.code fd.qualname:=by
  obtain⟨c,o,vs,t,e1,e2,e3,e4⟩:=hcd hb G.k
  refine⟨c,o,vs,t,e1,S.old e2 (λq=>?_),e3,e4⟩
  rw[e1] at hct
  have hct':tabs.contains c=false:=hct
  rw[AV.mpr q] at hct'
  nomatch hct'
 refine KI (fd:=fd) (body:=body) (binds:=binds) hroom (S.old (G.k _ _ ho) hft) rfl (S.lim G) hcr hbody hbind
  (λy hy=>by have:=zC.mp hcell y hy;simpa using this) (λy hy=>by have:=zC.mp hloc y hy;simpa using this) (λai hns b8=>?_) hco hgen hk
 have hfm:Fm ai s.heap.objs.size binds:=Fm.of_ns hns (λp hp=>jF binds hnd hp) hnd
 obtain⟨oL,r,S'⟩:=S.enter (L':=s.heap.objs.size) rfl hfm b8
 exact h _ ai oL r S' b8 λbase hs=>hs.fresh
structure Fly(base:AE)(fr:List ID)(e:ze)(msg:zH)(h₀ h:AE):Prop where
 fl:∃ t,Heap.FlyingW base fr e (.type "ValueError") (.ref t) h/\(∃ tk,h.TupAt t [.str msg tk])/\base.get? t=none
 sl:h₀.UpToSlots h
theorem ln{f:Value}{e:Expr}{pos:Ef}{env:ID}{M:HF}{Q:M1->y9->Prop}(h:y4 M A (Aq e env) (λv s'=>Q ⟨[v],[]⟩ s') E s)(he:AI [e] env=[(false,Aq e env)]:=by rfl) :
  y4 M A (Nj f true (Ci pos (AI [e] env)) []) Q E s:=by
 have h1:y4 M A (CD (Ci pos (AI [e] env))) (λvs s'=>Q ⟨vs,[]⟩ s') E s:=args_cons (zf h (λv s' q=>zn q) λZ Z x=>x) he
 rw[he] at h1 ⊢
 exact L7 h1
theorem qb{env:ID}{fr:List ID}{base h₀:AE}{np cpos pos:Ef}{arg:Expr}{msg:zH}{rest:List Cq}{Q:FP}{R:Cg->y9->Prop}(G:Gd K tabs hb)(S:St hb tabs L l T s.heap)(hh:A.handled=none)
  (hfr:A.frames=some (env::fr)) (hf:env.frame=some L) (hst:base.StaysIn s.heap) (hF:s.heap.FunFrames base (env::fr)) (hsl:h₀.UpToSlots s.heap)
  (ha:∀ {Q:VP}{E:VP},(∀ h' tk t,(∀ b o,s.heap.get? b=some o->h'.get? b=some o)->Q (.str msg tk) (wht s h' t))->y4 (y0 prog w) A (Aq arg env) Q E s)
  (k:∀ s' e,Kp s s'->Fly base fr e msg h₀ s'.heap->R (.error (.ref e)) s')
  (hv:y4 (y0 prog w) A (Aq (.Name (yW "ValueError") np) env) (λf s₁=>f=.type "ValueError" /\ s₁=s) (λZ Z=>False) s)
  (he:AI [arg] env=[(false,Aq arg env)]:=by rfl) :
  y4 (y0 prog w) A (zY (.Raise (some (.Call (.Name (yW "ValueError") np) [arg] [] cpos)) none pos::rest) env) Q
   (kLv (y0 prog w) A env R) s:=by
 refine zZ (wpAny_Raise_call PySem.F.excCall_ValueError PySem.F.excRaise_ValueError hh (by rw[he];rfl) ?_)
 refine zf hv (λf s₁ ai=>?_) λZ Z x=>x.elim
 obtain⟨rfl,rfl⟩:=ai
 refine⟨rfl,ln (he:=he) (ha λh' tk t hk=>⟨rfl,(by rw[zw];show 1<=16777216;decide),λam e hm=>?_⟩)⟩
 exact wpAny_leaves_madeW (h:=h') hfr hf (λb o q=>hk b o (hst b o q)) (hF.of_keeps λb o q Z=>⟨o,hk b o q,rfl⟩) (Heap.MadeExc.of hm) λak bx x1 x2 x3 x4=>(k _ e ⟨rfl,id⟩ ⟨⟨bx,x1,⟨tk,x2⟩,x3⟩,hsl.trans (((CU hk).trans (CU (Heap.MadeExc.of hm).keeps)).trans x4)⟩)
end
structure jO(cut:Value)(b:Bool):Prop where
 lo:∀ {w:Am}{A:AR}{E:VP}{s:y9}{t:AN}{Q:VP},Q (.bool b) s->y4 (y0 pw w) A (AF .LtE (.float 0 t) cut) Q E s
 hi:b=true->∀ {w:Am}{A:AR}{E:VP}{s:y9}{t:AN}{Q:VP},Q (.bool false) s->y4 (y0 pw w) A (AF .LtE cut (.float 4607182418800017408 t)) Q E s
section
variable{base:AE}{l:LV}{T:LO}{tabs:List ze}{fr:List ID}{pv:Value}{m:Int}
theorem nl(G:Gd (KN w.params) tabs hb)(S:St hb tabs L l T s.heap)(ht:286∉tabs)(hct:(match (dH w.params).code with|.ref c=>tabs.contains c|_=>false)=false)(hd:A.depth+2<zg)(hh:A.handled=none)(hfr:A.frames=some fr)(hst:base.StaysIn s.heap)(hF:s.heap.FunFrames base fr)
  (hbind:Fi s (dH w.params) args [(yW "word", wv),(yW "possibilities", pv),(yW "n", .int m tn),(yW "cutoff", cv)]) (hm:m<=0) (Rv:ji (.int m tn) txt)
  (k:∀ s' e,Kp s s'->Fly base fr e (yW "n must be > 0: " ++ txt) s.heap s'.heap->R (.error (.ref e)) s') :
  zS (y0 pw w) A (.call (.ref 286) args) R s:=by
 refine rn G S (oz _) (dn 2 hd) (body:=aD (st1 pw 10)) hbind ?_ ht (hct:=hct)
 refine λL' ai oL r S' hk hnew=>eZ (lQ (isTrue_not (wpAny_isTrue_Compare1 (ac S' m2 (wpAny_Constant_int (Ik (y8 ⟨λZ=>?_,λq=>?_⟩)))))))
 case refine_2 =>
  rw[decide_eq_false (Gw.mpr hm)] at q
  nomatch q
 have hF':ai.FunFrames base (Ac (dH w.params) L' 286::fr):=by
  obtain⟨mm,a1,a2,a3⟩:=S'.fm.ns
  exact Dz (λe=>Bj e) rfl a1 (hnew base hst) (hF.of_keeps λb o q Z=>⟨o,hk b o q,rfl⟩)
 refine qb (base:=base) (fr:=fr) (h₀:=s.heap) (msg:=yW "n must be > 0: " ++ txt) (R:=R) G S' hh (BR hfr) rfl (λb o q=>hk b o (hst b o q)) hF' (CU hk) ?_ ?_ ?_
 ·intro Q E hQ
  refine yM Rv (by decide +kernel) ?_ (λtk t=>hQ _ tk t λb o e=>e)
  intro s' Q E e h
  refine ac (by rw[e];exact S') m2 h
 ·exact λs' e K' F'=>k s' e ⟨K'.os,K'.gens⟩ F'
 ·exact cO G S' PyProof.Rows.Boot.«ValueError» ⟨rfl,rfl⟩
theorem tE{b:Bool}(G:Gd (KN w.params) tabs hb)(S:St hb tabs L l T s.heap)(ht:286∉tabs)(hct:(match (dH w.params).code with|.ref c=>tabs.contains c|_=>false)=false)(hd:A.depth+2<zg)(hh:A.handled=none)(hfr:A.frames=some fr)(hst:base.StaysIn s.heap)(hF:s.heap.FunFrames base fr)
  (hbind:Fi s (dH w.params) args [(yW "word", wv),(yW "possibilities", pv),(yW "n", .int m tn),(yW "cutoff", cv)]) (hm:0<m) (C:jO cv b) (Rv:ji cv txt)
  (k:∀ s' e,Kp s s'->Fly base fr e (yW "cutoff must be in [0.0, 1.0]: " ++ txt) s.heap s'.heap->R (.error (.ref e)) s') :
  zS (y0 pw w) A (.call (.ref 286) args) R s:=by
 refine rn G S (oz _) (dn 2 hd) (body:=aD (st1 pw 10)) hbind ?_ ht (hct:=hct)
 refine λL' ai oL r S' hk hnew=>eZ (lQ (isTrue_not (wpAny_isTrue_Compare1 (ac S' m2 (wpAny_Constant_int (Ik (y8 ⟨λq=>?_,λq=>?_⟩)))))))
 ·rw[decide_eq_true hm] at q
  nomatch q
 refine aF (lQ (isTrue_not ?_))
 have hF':ai.FunFrames base (Ac (dH w.params) L' 286::fr):=by
  obtain⟨mm,a1,a2,a3⟩:=S'.fm.ns
  exact Dz (λe=>Bj e) rfl a1 (hnew base hst) (hF.of_keeps λb o q Z=>⟨o,hk b o q,rfl⟩)
 refine isTrue_chain (Co (test_link (ac S' m3 (C.lo (y8 ?_)))))
 have fin:∀ (ag:y9) {rest:List Cq}{np cpos pos:Ef}{k1:Nat}{p1 p2 p3 p4:Ef}{Q:FP},Kp s ag->ag.heap=ai ->
   y4 (y0 pw w) (A.deeper (Ac (dH w.params) L' 286)) (zY (.Raise (some (.Call (.Name (yW "ValueError") np) [.JoinedStr [.Constant (.str (yW "cutoff must be in [0.0, 1.0]: ")) k1 p1,.FormattedValue (.Name (yW "cutoff") p2) 114 none p3] p4] [] cpos)) none pos::rest) (Ac (dH w.params) L' 286)) Q
    (kLv (y0 pw w) (A.deeper (Ac (dH w.params) L' 286)) (Ac (dH w.params) L' 286) R) ag:=by
  intro ag rest np cpos pos k1 p1 p2 p3 p4 Q ao bh
  have af:=S'
  rw[<- bh] at af
  refine qb (base:=base) (fr:=fr) (h₀:=s.heap) (msg:=yW "cutoff must be in [0.0, 1.0]: " ++ txt) (R:=R) G af hh (BR hfr) rfl (λb o q=>by rw[bh];exact hk b o (hst b o q)) (by rw[bh];exact hF') (by rw[bh];exact CU hk) ?_ ?_ ?_
  ·intro Q E hQ
   refine yM Rv (by decide +kernel) ?_ (λtk t=>hQ _ tk t λb o e=>e)
   intro s' Q E e h
   refine ac (by rw[e];exact af) m3 h
  ·exact λs' e K' F'=>k s' e (kt ao K') F'
  ·exact cO G af PyProof.Rows.Boot.«ValueError» ⟨rfl,rfl⟩
 cases b with
 | false =>
  refine⟨λZ=>?_,λq=>nomatch q⟩
  exact fin _ ⟨rfl,id⟩ rfl
 | true =>
  refine test_last (Co (C.hi rfl (y8 ⟨λZ=>?_,λq=>nomatch q⟩)))
  exact fin _ ⟨rfl,id⟩ rfl
end
noncomputable abbrev slo(o:AO)(sl:Array (Option Value)):AO:={ o with slots:=sl }
theorem bL.slo{o:AO}{l:LV}(r:bL o l)(sl:Array (Option Value)):bL (slo o sl) l:=r
theorem bL.nf{o:AO}{l:LV}(r:bL o l):∀ vs,o.data≠.fields vs:=by
 obtain⟨es,ep,m,h,_⟩:=r
 intro vs q
 rw[h] at q;cases q
section
variable{tabs:List ze}{L1:ze}{l l1 l0:LV}{o1 o0:AO}{T:LO}
theorem St.flown(S:St hb tabs L l ((L1,o1)::(L0,o0)::T) h)(r1:bL o1 l1)(r0:bL o0 l0)(hs:(DJ h [L,L1,L0]).StaysIn h')(hu:h.UpToSlots h') :
  ∃ s1 s0,St hb tabs L l ((L1,slo o1 s1)::(L0,slo o0 s0)::T) h':=by
 obtain⟨oL,e1,rL⟩:=S.fm
 obtain⟨sL,e1'⟩:=hu L oL e1 rL.nf
 obtain⟨s1,e2⟩:=hu L1 o1 (S.obj _ m0) r1.nf
 obtain⟨s0,e3⟩:=hu L0 o0 (S.obj _ m1) r0.nf
 have nd:=zr.mp S.nd
 have nd1:=zr.mp nd.2
 have nd2:=zr.mp nd1.2
 have old:∀ b,b<hb.objs.size->b∉[L,L1,L0]:=λb hb' hm=>by
  rcases y7.mp hm with rfl|hm
  ·exact absurd S.lnew (Ig.mpr hb')
  rcases y7.mp hm with rfl|hm
  ·exact absurd (S.new _ m0) (Ig.mpr hb')
  rw[y6] at hm;subst hm
  exact absurd (S.new _ m1) (Ig.mpr hb')
 refine⟨s1,s0,⟨_,e1',rL⟩,S.lnew,λb o e hn=>hs b o (IS _ (S.keep b o e hn) (old b (AH e))),λt ht=>?_,λp hp=>?_,λp hp=>?_,S.nd⟩
 ·obtain⟨ps,more,a,b,c⟩:=S.tab t ht
  exact⟨ps,more,a,hs t _ (IS _ b (old t (AH a))),c⟩
 ·rcases y7.mp hp with rfl|hp
  ·exact e2
  rcases y7.mp hp with rfl|hp
  ·exact e3
  have hpT:=S.obj p (aj (aj hp))
  refine hs p.1 p.2 (IS _ hpT λhm=>?_)
  have hpk:p.1∈T.map (·.1):=za.mpr ⟨p,hp,rfl⟩
  rcases y7.mp hm with q|hm
  ·exact nd.1 (q▸Eh _ (Eh _ hpk))
  rcases y7.mp hm with q|hm
  ·exact nd1.1 (q▸Eh _ hpk)
  rw[y6] at hm
  exact nd2.1 (hm▸hpk)
 ·rcases y7.mp hp with rfl|hp
  ·exact S.new (L1,o1) m0
  rcases y7.mp hp with rfl|hp
  ·exact S.new (L0,o0) m1
  exact S.new p (aj (aj hp))
end
def kH(w:Am)(hb:AE)(tabs:List ze)(f:ze)(Tn:LO)(msg:zH):Prop:=∀ {A:AR}{s:y9}{L:ze}{l:LV}{T:LO}{base:AE}{fr:List ID}{R:Cg->y9->Prop},
 St hb tabs L l T s.heap->(∀ p∈Tn,p∈T)->A.depth+10<zg->A.handled=none->A.frames=some fr->base.StaysIn s.heap->s.heap.FunFrames base fr ->
 (∀ s' e,Kp s s'->Fly base fr e msg s.heap s'.heap->R (.error (.ref e)) s')->zS (y0 pw w) A (.call (.ref f) ⟨[],[]⟩) R s
section
variable{f:ze}{l l0:LV}{T Tn:LO}{tabs:List ze}{o0 oF:AO}{e1:ID}{msg:zH}
theorem iE(G:Gd (KN w.params) tabs hb)(S:St hb tabs L l ((L0,o0)::T) s.heap)(r0:bL o0 l0)(ht:314∉tabs)(hct:(match (jq w.params).code with|.ref c=>tabs.contains c|_=>false)=false)(hd:A.depth+20<zg)(hu:A.units+40<Aw)(hh:A.handled=none)
  (hfr:A.frames=some [e1,e0]) (hf1:e1.frame=some L) (hk1:e1.scope.kind≠.module) (hf0:e0.frame=some L0) (hk0:e0.scope.kind≠.module)
  (hF:(f,oF)∈T) (hoF:oF.data=.func fd) (hTn:∀ p∈Tn,p∈T) (H:kH w hb tabs f Tn msg)
  (k:∀ s' sl tk,Kp s s'->St hb tabs L l ((L0,slo o0 sl)::T) s'.heap->R (.ok (.ret (.str msg tk))) s') :
  zS (y0 pw w) A (.call (.ref 314) ⟨[.ref f],[]⟩) R s:=by
 refine rn G S (lk314 _) (dn 20 hd) (binds:=[(yW "call", .ref f)]) (body:=aD (st1 pw 15)) (AW (by kernel_rfl)) ?_ ht (hct:=hct)
 intro L' ai oL r S' hk hnew
 have nfr:∀ b∈[L',L,L0],∃ o,ai.get? b=some o/\∀ vs,o.data≠.fields vs:=λb hm=>by
  rcases y7.mp hm with rfl|hm
  ·obtain⟨o,e,r⟩:=S'.fm
   exact⟨o,e,r.nf⟩
  rcases y7.mp hm with rfl|hm
  ·exact⟨oL,S'.obj (b,oL) m0,r.nf⟩
  rw[y6] at hm;subst hm
  exact⟨o0,S'.obj (b,o0) m1,r0.nf⟩
 have hF':ai.FunFrames (DJ ai [L',L,L0]) (Ac (jq w.params) L' 314::[e1,e0]):=by
  refine⟨λe=>Bj e,?_,hk1,?_,hk0,?_,trivial⟩
  ·obtain⟨o,a,b⟩:=nfr L' (.head _)
   exact⟨L',o,rfl,Gm _ (.head _),a,b⟩
  ·obtain⟨o,a,b⟩:=nfr L (aj (.head _))
   exact⟨L,o,hf1,Gm _ (aj (.head _)),a,b⟩
  ·obtain⟨o,a,b⟩:=nfr L0 m2
   exact⟨L0,o,hf0,Gm _ m2,a,b⟩
 have hfr':=BR (env:=Ac (jq w.params) L' 314) hfr
 refine zZ (KU ?_)
 refine bS (bW (ac S' m0 ?_))
 have hfo:ai.get? f=some oF:=S'.obj _ (aj (aj hF))
 refine callWith_function (o:=oF) (fd:=fd) (PySem.evalArgs_none ⟨⟨hfo,hoF⟩,BO ?_⟩)
 refine H (base:=DJ ai [L',L,L0]) (fr:=Ac (jq w.params) L' 314::[e1,e0]) S' (λp hp=>aj (aj (hTn p hp))) (by show A.depth+1+10<zg;exact dn 9 hd) hh hfr' (λb o q=>L6 _ q) hF' ?_
 intro s₁ e ar F1
 obtain⟨t,hfl,⟨tk,htup⟩,hnt⟩:=F1.fl
 replace ar:Kp s s₁:=⟨ar.os,ar.gens⟩
 refine wpAny_looks_onW hfr' rfl hfl λam hheld2 sm2=>(wpAny_landsW hheld2 λak hfl3 sm3=>?_)
 have ff:=(F1.sl.trans sm2).trans sm3
 obtain⟨fz,s03,ae⟩:=S'.flown r r0 hfl3.1 ff
 refine wpAny_handleBy_builtin_as (X := "ValueError") (T := "ValueError") (b:=true) PySem.F.isExc_ValueError PySem.F.notTuple_ValueError (by rw[AZ];kernel_rfl) (cO G ae PyProof.Rows.Boot.«ValueError» ⟨rfl,hfl3.there,?_⟩)
 refine lands_againW hfl3 λaw hfl4 sm4=>?_
 obtain⟨g4,s04,S4⟩:=S'.flown r r0 hfl4.1 (ff.trans sm4)
 have e8:=((htup.of_slots sm2).of_slots sm3).of_slots sm4
 obtain⟨oe,ws,hoe,hoec,hoed,hoe0⟩:=hfl4.first
 have hexc:aw.ExcAt e "ValueError" (.ref t):=⟨oe,ws,hoe,hoec,hoed,hoe0⟩
 obtain⟨mm,na,nb,nc⟩:=S4.fm.ns
 have hlk:(Ac (jq w.params) L' 314).kindOf (yW "e")=some .local:=by kernel_rfl
 have hpl:((Ac (jq w.params) L' 314).scope.kind==.class || ((Ac (jq w.params) L' 314).scope.kind==.module&&(Ac (jq w.params) L' 314).locals != (Ac (jq w.params) L' 314).globals))=false:=rfl
 refine FD hlk na (λay hn5 hs5=>?_) hpl
 have S5:=S4.setNs (bV.fm (.new (by kernel_rfl)) hn5 nb nc) hs5
 have he5:e≠L':=λq=>by
  obtain⟨o,a,b⟩:=S4.fm
  rw[<- q,hoe] at a
  cases a
  exact b.nf _ hoed
 have ht5:t≠L':=λq=>by
  obtain⟨o,a,b⟩:=S4.fm
  obtain⟨ot,n,c1,c2,c3⟩:=e8
  rw[<- q,c1] at a
  cases a
  obtain⟨es,ep,m,d,_⟩:=b
  rw[c3] at d;cases d
 have hexc5:ay.ExcAt e "ValueError" (.ref t):=⟨oe,ws,(hs5.2 e he5).trans hoe,hoec,hoed,hoe0⟩
 have e9:ay.TupAt t [.str msg tk]:=by
  obtain⟨ot,n,c1,c2,c3⟩:=e8
  exact⟨ot,n,(hs5.2 t ht5).trans c1,c2,c3⟩
 refine cP (rm G S5 PyProof.Rows.Boot.«str» (bln S5 m0 (P.str_of_exc_one PySem.F.excStr_ValueError (by show A.units+_+2<Aw;exact dn 35 hu) hexc5 e9 ?_)))
 obtain⟨g5,na5,-,-⟩:=S5.fm.ns
 refine wpAny_nameGoes hlk na5 hpl λaz g6 hn6 hs6=>?_
 have S6:=S5.setNs (Fm.of_ns (l:=[]) hn6 (λp hp=>by cases hp) C5) hs6
 have S7:=S6.leave 0 rfl (r.slo _)
 exact k _ s04 tk ⟨ar.os,ar.gens⟩ S7
end
end
section
variable{tabs:List ze}{l lb:LV}{T:LO}
theorem yP{R:Cg->y9->Prop}{oc:Value}{od:Option ze}{osl:Array (Option Value)}{args:M1}{binds:LV}{body:List Cq}{cs:ze->List (zH×ze)}{cm:zH->Option Value}
  (G:Gd K tabs hb) (S:St hb tabs L l T s.heap) (ho:K.lookup fa=some ⟨oc,od,.func fd,osl⟩) (hroom:A.depth<zg)
  (hbind:Fi s fd args binds)
  (h:∀ L' s₁ oL (obs:ze->AO),bL oL l->(∀ p∈cs L',(obs p.2).data=.cell (cm p.1))->Kp s s₁->St hb tabs L' lb ((cs L').map (λp=>(p.2,obs p.2))++(L,oL)::T) s₁.heap ->
   y4 (y0 prog w) (A.deeper (zy fd L' fa)) (zY body (zy fd L' fa)) (kFn R)
    (kLv (y0 prog w) (A.deeper (zy fd L' fa)) (zy fd L' fa) R) s₁)
  (hcs:∀ L':ze,DY (L'+1) fd.scope.names []=cs L') (hlk:∀ L':ze,∀ p∈cs L',(cs L').lookup p.1=some p.2/\L'<p.2)
  (hbL:∀ L':ze,∀ p∈lb,bindL (zy fd L' fa).kindOf binds (λZ=>none) p.1=some p.2) (hbC:∀ L':ze,∀ p∈cs L',Nq (zy fd L' fa).kindOf binds (λZ=>none) p.1=cm p.1)
  (hkind:∀ L':ze,∀ x∈binds,fd.scope.names.lookup x.1=some .local\/(fd.scope.names.lookup x.1=some .cell/\((cs L').lookup x.1).isSome=true)) (hnd:(lb.map (·.1)).Nodup)
  (hclo:fd.closure=[]:=by kernel_rfl)
  (hft:fa∉tabs:=by decide)
  (hcd:∀ hh:AE,K.In hh->hh.CodeRec fd.code fd.qualname:=by exact crO (by kernel_rfl))
  (hct:(match fd.code with|.ref c=>tabs.contains c|_=>false)=false:=by kernel_rfl)
  (hbody:fd.body=.stmts body:=by kernel_rfl)
  (hco:fd.scope.isCoroutine=false:=by kernel_rfl) (hgen:fd.scope.isGenerator=false:=by kernel_rfl) (hk:fd.scope.kind=.function:=by kernel_rfl) :
  zS (y0 prog w) A (.call (.ref fa) args) R s:=by
 have hcr:s.heap.CodeRec fd.code fd.qualname:=by
  obtain⟨c,o,vs,t,e1,e2,e3,e4⟩:=hcd hb G.k
  refine⟨c,o,vs,t,e1,S.old e2 (λq=>?_),e3,e4⟩
  rw[e1] at hct
  have hct':tabs.contains c=false:=hct
  rw[AV.mpr q] at hct'
  nomatch hct'
 refine FG hroom (S.old (G.k _ _ ho) hft) rfl hco hgen hbody hcr ?_
 rw[hclo]
 refine hbind _ _ _ _ (Er hk (λx hx=>?_) λenv he s' x=>?_)
 ·rcases hkind s.heap.objs.size x hx with q|⟨q,e⟩
  ·exact .inl q
  ·exact .inr ⟨q,by rw[hcs];exact e⟩
 subst he
 refine⟨(S.lim G).keeps x.toInCall.keep,Ko ?_⟩
 have hcell:∀ p∈cs s.heap.objs.size,∃ ob,s'.heap.get? p.2=some ob/\ob.data=.cell (cm p.1):=λp hp=>by
  obtain⟨ob,e1,e2⟩:=x.cell p.1 p.2 (by
   show (DY (s.heap.objs.size+1) fd.scope.names []).lookup p.1=_
   rw[hcs];exact (hlk _ p hp).1)
  have e3:Nq (M7 fd.scope s.heap.objs.size fd.globals (DY (s.heap.objs.size+1) fd.scope.names []) (fd.qualname ++ ".<locals>.") (some fa) fd.code none fd.builtins).kindOf binds (λZ=>none) p.1=cm p.1:=hbC _ p hp
  rw[e3] at e2
  exact⟨ob,e1,e2⟩
 have hfm:Fm s'.heap s.heap.objs.size lb:=Fm.of_ns x.toInCall.ns (λp hp=>hbL s.heap.objs.size p hp) hnd
 obtain⟨oL,r,S'⟩:=S.enter (L':=s.heap.objs.size) rfl hfm x.toInCall.keep
 obtain⟨hh,tk,hsame⟩:=x.toInCall.same
 have K':Kp s s':=by rw[hsame];exact⟨rfl,id⟩
 have hap:((cs s.heap.objs.size).map (·.2)).Nodup:=by
  have:=x.apart
  rw[show (M7 fd.scope s.heap.objs.size fd.globals (DY (s.heap.objs.size+1) fd.scope.names []) (fd.qualname ++ ".<locals>.") (some fa) fd.code none fd.builtins).cells=cs s.heap.objs.size from hcs _] at this
  exact AT.mpr this
 refine h s.heap.objs.size s' oL (λa=>(s'.heap.get? a).getD AA) r (λp hp=>?_) K' ⟨S'.fm,S'.lnew,S'.keep,S'.tab,λp hp=>?_,λp hp=>?_,?_⟩
 ·obtain⟨ob,e1,e2⟩:=hcell p hp
  rw[e1];exact e2
 ·rcases zc.mp hp with hp|hp
  ·obtain⟨q,hq,rfl⟩:=za.mp hp
   obtain⟨ob,e1,e2⟩:=hcell q hq
   show s'.heap.get? q.2=some ((s'.heap.get? q.2).getD AA)
   rw[e1];rfl
  ·exact S'.obj p hp
 ·rcases zc.mp hp with hp|hp
  ·obtain⟨q,hq,rfl⟩:=za.mp hp
   exact zk S'.lnew (Af (hlk _ q hq).2)
  ·exact S'.new p hp
 ·have nd:=zr.mp S'.nd
  have hL:L<s.heap.objs.size:=S.fm.lt
  have big:∀ a∈((cs s.heap.objs.size).map (λp=>(p.2,(s'.heap.get? p.2).getD AA))).map (·.1),s.heap.objs.size<a:=λa ha=>by
   rw[CN] at ha
   obtain⟨q,hq,rfl⟩:=za.mp ha
   exact (hlk _ q hq).2
  have old:∀ a∈(((L,oL)::T).map (·.1)),a<s.heap.objs.size:=λa ha=>by
   rcases y7.mp ha with rfl|ha
   ·exact hL
   ·obtain⟨p,hp,rfl⟩:=za.mp ha
    exact S.lt hp
  rw[zD]
  refine zr.mpr ⟨λq=>?_,CS.mpr ⟨?_,nd.2,λa ha b hb' e=>?_⟩⟩
  ·rcases zc.mp q with q|q
   ·exact Aj _ (big _ q)
   ·exact nd.1 q
  ·rw[CN];exact hap
  ·exact Aj _ (Cw (e▸big a ha) (old b hb'))
end
section
variable{tabs:List ze}{l:LV}{T:LO}{x:zH}{v:Value}
theorem gx{Q:UP}{c:ze}{ob:AO}{v0:Option Value}(i:Nat)(S:St hb tabs L l T s.heap)(hi:T[i]? = some (c,ob))(hob:ob.data=.cell v0)
  (h:∀ h' ob',ob'.data=.cell (some v)->St hb tabs L l (T.set i (c,ob')) h'->Q () (wh s h'))
  (hk:env.scope.kind=.function:=by kernel_rfl) (hl:env.kindOf x=some .cell:=by kernel_rfl) (hc:env.cells.lookup x=some c:=by rfl) :
  y4 (y0 prog w) A (E9 env x v) Q E s :=
 wpAny_storeName_cell hk hl hc ⟨ob,S.obj _ (zm hi),hob⟩ λh' hv hs=>by
  obtain⟨ob',e1,e2⟩:=hv
  exact h h' ob' e2 (S.change i hi hs e1)
end
section
open PySem.Spec
noncomputable def mW:MQ:={ posonlyargs:=[],args:=[],vararg:=none,kwonlyargs:=[],kw_defaults:=[],kwarg:=none,defaults:=[] }
noncomputable def lM:Dx:={ kind:=.function,names:=[(yW "number", .free),(yW "some", .free),(yW "word", .free),(yW "get_close_matches", .globalImplicit)],isGenerator:=false,isCoroutine:=false,more:=[] }
noncomputable abbrev qC (qual:zH) (body:Expr) (cl:List (zH×ze)) (pm:Value) (c':ze) (ctv:Value):AO:=kla_obj (yW "<lambda>") qual mW body lM cl pm c' ctv
noncomputable abbrev gX(qual:zH)(L' f c':ze)(cl:List (zH×ze)):ID:=envX qual lM L' f (.ref c') cl
def uq(oc:AO)(qual:zH):Prop:=∃ vs t,oc.data=.fields vs/\vs[1]? = some (.str qual t)
section
variable{tabs:List ze}{f:ze}{l:LV}{T:LO}{body:Expr}
theorem w8(G:Gd K tabs hb)(S:St hb tabs L l T s.heap)(ho:(f,qC qual body cl pm c' ctv)∈T)(hoc:(c',oc)∈T)(hq:uq oc qual)(hroom:A.depth<zg)
  (h:∀ L' ai oL,bL oL l->St hb tabs L' [] ((L,oL)::T) ai->(∀ b o,s.heap.get? b=some o->ai.get? b=some o)->(∀ base:AE,base.StaysIn s.heap->base.get? L'=none) ->
   y4 (y0 prog w) (A.deeper (gX qual L' f c' cl)) (Aq body (gX qual L' f c' cl)) (λv s'=>R (.ok (.ret v)) s')
    (kLv (y0 prog w) (A.deeper (gX qual L' f c' cl)) (gX qual L' f c' cl) R)
    (wht s ai s.toks)) :
  zS (y0 prog w) A (.call (.ref f) ⟨[],[]⟩) R s:=by
 obtain⟨vs,t,hd,hv⟩:=hq
 refine kla_callFunE (fd:=kla_fn (yW "<lambda>") qual mW body lM cl pm (.ref c') ctv) hroom (S.obj _ ho) rfl rfl rfl rfl ⟨c',oc,vs,t,rfl,S.obj _ hoc,hd,hv⟩ ?_
 have hb0:bindArgs (kla_fn (yW "<lambda>") qual mW body lM cl pm (.ref c') ctv) ⟨[],[]⟩=Au []:=by kernel_rfl
 rw[hb0]
 refine yY (FV (λx hx=>?_) (λx hx=>by cases hx) (λai hns hsb=>⟨((S.lim G).fresh _ hsb),?_⟩) rfl)
 ·have:=zC.mp (show (lM.names.all λx=>x.2 != .cell)=true by kernel_rfl) x hx
  simpa using this
 have hk:∀ b o,s.heap.get? b=some o->ai.get? b=some o:=λb o e=>hsb.extBut b o (Ab (AH e)) (zz _ e)
 obtain⟨oL,r,S'⟩:=S.enter (L':=s.heap.objs.size) rfl (Fm.of_ns (l:=[]) hns (λp hp=>by cases hp) C5) hk
 exact kla_codeExpr (h s.heap.objs.size ai oL r S' hk λbase hs=>hs.fresh)
end
section
variable{tabs:List ze}{l:LV}{T:LO}{x:zH}{v:Value}{pos:Ef}
theorem gy{Q:VP}{c:ze}{ob:AO}(S:St hb tabs L l T s.heap)(hm:(c,ob)∈T)(hob:ob.data=.cell (some v))(h:Q v s)
  (hk:env.scope.kind=.function:=by kernel_rfl) (hl:env.kindOf x=some .free:=by kernel_rfl) (hc:env.cells.lookup x=some c:=by rfl)
  (hd:(x==("__debug__" : zH))=false:=by kernel_rfl) (hn:(x==("__classdict__" : zH))=false:=by kernel_rfl):y4 (y0 prog w) A (Aq (.Name x pos) env) Q E s :=
 HZ (wpAny_loadName_free hk hl hc ⟨ob,S.obj _ hm,hob⟩ h hn) hd
end
noncomputable abbrev clL (cw cs cn:ze):List (zH×ze):=[(yW "word", cw),(yW "some", cs),(yW "number", cn)]
theorem qQ{w:Am}{A:AR}{s:y9}{env:ID}{fr:List ID}{base h₀ ai:AE}{L' e:ze}{msg:zH}{Q:UP}{E:VP}(hfr:A.frames=some (env::fr))(hf:env.frame=some L')(hk:∀ b o,h₀.get? b=some o->ai.get? b=some o)(F:Fly base (env::fr) e msg ai s.heap)
  (h:∀ h',Fly base fr e msg h₀ h'->Q () (wh s h')):y4 (y0 pw w) A (leaving env (.ref e)) Q E s:=by
 obtain⟨t,hfl,⟨tk,htup⟩,hnt⟩:=F.fl
 exact wpAny_leaves_onW hfr hf hfl λh' x1 x2=>h h' ⟨⟨t,x1,⟨tk,htup.of_slots x2⟩,hnt⟩,(CU hk).trans (F.sl.trans x2)⟩
section
variable{tabs:List ze}{f cw cs cn:ze}{Tn:LO}{pv:Value}{ow os on':AO}{p4 p5 p6 p7 p8:Ef}{k1:Nat}{m:Int}
structure xh(Tn:LO)(f c' cw cs cn:ze)(oL oc ow os on':AO)(qual:zH)(wv pv nv:Value):Prop where
 o:(f,oL)∈Tn
 c:(c',oc)∈Tn
 q:uq oc qual
 wm:(cw,ow)∈Tn
 hw:ow.data=.cell (some wv)
 sm:(cs,os)∈Tn
 hs:os.data=.cell (some pv)
 n:(cn,on')∈Tn
 hn:on'.data=.cell (some nv)
theorem lam1(G:Gd (KN w.params) tabs hb)(ht:286∉tabs)(hct:(match (dH w.params).code with|.ref c=>tabs.contains c|_=>false)=false)
  (H:xh Tn f c' cw cs cn (qC qual (.Call (.Name (yW "get_close_matches") p1) [.Name (yW "word") p2,.Name (yW "some") p3,.Name (yW "number") p4] [] p5) (clL cw cs cn) pm c' ctv) oc ow os on' qual wv pv (.int m tn)) (hm:m<=0) (Rv:ji (.int m tn) txt) :
  kH w hb tabs f Tn (yW "n must be > 0: " ++ txt):=by
 intro A s L l T base fr R S hT hd hh hfr hst hF k
 refine w8 G S (hT _ H.o) (hT _ H.c) H.q (dn 10 hd) ?_
 intro L' ai oL r S' hk hnew
 have hF':ai.FunFrames base (gX qual L' f c' (clL cw cs cn)::fr):=by
  obtain⟨mm,a1,a2,a3⟩:=S'.fm.ns
  exact Dz (λe=>Bj e) rfl a1 (hnew base hst) (hF.of_keeps λb o q Z=>⟨o,hk b o q,rfl⟩)
 have hfr':=BR (env:=gX qual L' f c' (clL cw cs cn)) hfr
 refine uU (env:=gX qual L' f c' (clL cw cs cn)) G S' (v:=.ref 286) (by kernel_rfl) (args_cons (gy (env:=gX qual L' f c' (clL cw cs cn)) (c:=cw) S' (aj (hT _ H.wm)) H.hw (args_cons (gy (env:=gX qual L' f c' (clL cw cs cn)) (c:=cs) S' (aj (hT _ H.sm)) H.hs (args_cons (gy (env:=gX qual L' f c' (clL cw cs cn)) (c:=cn) S' (aj (hT _ H.n)) H.hn (zn ?_)))))))
 refine⟨⟨_,_,_,S'⟩,?_⟩
 exact nl (base:=base) (fr:=gX qual L' f c' (clL cw cs cn)::fr) G S' ht hct (by show A.depth+1+2<zg;exact dn 7 hd) hh hfr' (λb o q=>hk b o (hst b o q)) hF' (Bx (o:=uG w.params) rfl (S'.kin G 281 _ (by kernel_rfl)) rfl rfl rfl) hm Rv (λs₁ e ar F1=>qQ hfr' rfl hk F1 λh' F'=>(k _ e ⟨ar.os,ar.gens⟩ F'))
theorem lam2(G:Gd (KN w.params) tabs hb)(ht:286∉tabs)(hct:(match (dH w.params).code with|.ref c=>tabs.contains c|_=>false)=false)
  (H:xh Tn f c' cw cs cn (qC qual (.Call (.Name (yW "get_close_matches") p1) [.Name (yW "word") p2,.Name (yW "some") p3] [⟨some (yW "n"),.Name (yW "number") p4,p6⟩,⟨some (yW "cutoff"),.Constant (.float 4611686018427387904) 0 p7,p8⟩] p5) (clL cw cs cn) pm c' ctv) oc ow os on' qual wv pv (.int m tn)) (hm:m<=0) (Rv:ji (.int m tn) txt) :
  kH w hb tabs f Tn (yW "n must be > 0: " ++ txt):=by
 intro A s L l T base fr R S hT hd hh hfr hst hF k
 refine w8 G S (hT _ H.o) (hT _ H.c) H.q (dn 10 hd) ?_
 intro L' ai oL r S' hk hnew
 have hF':ai.FunFrames base (gX qual L' f c' (clL cw cs cn)::fr):=by
  obtain⟨mm,a1,a2,a3⟩:=S'.fm.ns
  exact Dz (λe=>Bj e) rfl a1 (hnew base hst) (hF.of_keeps λb o q Z=>⟨o,hk b o q,rfl⟩)
 have hfr':=BR (env:=gX qual L' f c' (clL cw cs cn)) hfr
 refine eD (cH (env:=gX qual L' f c' (clL cw cs cn)) G S' (v:=.ref 286) (by kernel_rfl) (kA G (oz _) (args_cons (gy (env:=gX qual L' f c' (clL cw cs cn)) (c:=cw) S' (aj (hT _ H.wm)) H.hw (args_cons (gy (env:=gX qual L' f c' (clL cw cs cn)) (c:=cs) S' (aj (hT _ H.sm)) H.hs (zn ?_)))))))
 refine Et (gy (env:=gX qual L' f c' (clL cw cs cn)) (c:=cn) S' (aj (hT _ H.n)) H.hn (Et (Co (Jp ⟨⟨_,_,_,by exact S'⟩,?_⟩))))
 exact nl (base:=base) (fr:=gX qual L' f c' (clL cw cs cn)::fr) G S' ht hct (by show A.depth+1+2<zg;exact dn 7 hd) hh hfr' (λb o q=>hk b o (hst b o q)) hF' (Bx (o:=uG w.params) rfl (S'.kin G 281 _ (by kernel_rfl)) rfl rfl rfl) hm Rv (λs₁ e ar F1=>qQ hfr' rfl hk F1 λh' F'=>(k _ e ⟨ar.os,ar.gens⟩ F'))
theorem lam3{cv:Value}{b:Bool}(G:Gd (KN w.params) tabs hb)(ht:286∉tabs)(hct:(match (dH w.params).code with|.ref c=>tabs.contains c|_=>false)=false)
  (H:xh Tn f c' cw cs cn (qC qual (.Call (.Name (yW "get_close_matches") p1) [.Name (yW "word") p2] [⟨some (yW "possibilities"),.Name (yW "some") p3,p6⟩,⟨some (yW "cutoff"),.Name (yW "number") p4,p7⟩] p5) (clL cw cs cn) pm c' ctv) oc ow os on' qual wv pv cv) (C:jO cv b) (Rv:ji cv txt) :
  kH w hb tabs f Tn (yW "cutoff must be in [0.0, 1.0]: " ++ txt):=by
 intro A s L l T base fr R S hT hd hh hfr hst hF k
 refine w8 G S (hT _ H.o) (hT _ H.c) H.q (dn 10 hd) ?_
 intro L' ai oL r S' hk hnew
 have hF':ai.FunFrames base (gX qual L' f c' (clL cw cs cn)::fr):=by
  obtain⟨mm,a1,a2,a3⟩:=S'.fm.ns
  exact Dz (λe=>Bj e) rfl a1 (hnew base hst) (hF.of_keeps λb o q Z=>⟨o,hk b o q,rfl⟩)
 have hfr':=BR (env:=gX qual L' f c' (clL cw cs cn)) hfr
 refine eD (cH (env:=gX qual L' f c' (clL cw cs cn)) G S' (v:=.ref 286) (by kernel_rfl) (kA G (oz _) (args_cons (gy (env:=gX qual L' f c' (clL cw cs cn)) (c:=cw) S' (aj (hT _ H.wm)) H.hw (zn (Et (gy (env:=gX qual L' f c' (clL cw cs cn)) (c:=cs) S' (aj (hT _ H.sm)) H.hs ?_)))))))
 refine Et (gy (env:=gX qual L' f c' (clL cw cs cn)) (c:=cn) S' (aj (hT _ H.n)) H.hn (Jp ⟨⟨_,_,_,by exact S'⟩,?_⟩))
 exact tE (m:=3) (tn:=_) (base:=base) (fr:=gX qual L' f c' (clL cw cs cn)::fr) G S' ht hct (by show A.depth+1+2<zg;exact dn 7 hd) hh hfr' (λb o q=>hk b o (hst b o q)) hF' (Bx (o:=uG w.params) rfl (S'.kin G 281 _ (by kernel_rfl)) rfl rfl rfl) (by decide) C Rv (λs₁ e ar F1=>qQ hfr' rfl hk F1 λh' F'=>(k _ e ⟨ar.os,ar.gens⟩ F'))
end
noncomputable def hbR(hb:AE)(ps:Array Value):AE:=hb.update 316 (λZ=>E8 ps)
section
variable{ps' ps0:Array Value}{tabs:List ze}{l:LV}{T:LO}
theorem gu(h0:hb.get? 316=some (E8 ps0)):(hbR hb ps).get? 316=some (E8 ps):=zq _ h0 rfl
theorem bU{b:ze}(hn:b≠316):(hbR hb ps).get? b=hb.get? b:=Fy _ _ (Jo hn)
theorem dG:(hbR hb ps).objs.size=hb.objs.size:=Heap.size_after_update ..
theorem Gd.reb(G:Gd K tabs hb)(hK:K.lookup 316=none):Gd K tabs (hbR hb ps):=by
 have hs:BV 316 hb (hbR hb ps):=zt ..
 have n1:(Bl:ze)≠316:=by decide
 have n2:(Gy:ze)≠316:=by decide
 have n3:(cStatics:ze)≠316:=by decide
 refine⟨λa o e=>?_,?_,?_,?_,?_,G.n1,G.n2,G.n3,G.nt⟩
 ·rw[bU (λq=>by rw[q,hK] at e;nomatch e)]
  exact G.k a o e
 ·obtain⟨mg,a⟩:=G.mg;exact⟨mg,a.sameBut hs n1⟩
 ·obtain⟨mb,a,b⟩:=G.bl;exact⟨mb,a.sameBut hs n2,b⟩
 ·obtain⟨mc,a,b⟩:=G.lim;exact⟨mc,a.sameBut hs n3,b⟩
 ·obtain⟨mc,a,b⟩:=G.nb;exact⟨mc,a.sameBut hs n3,b⟩
theorem BM.reb(B:BM hb)(h0:hb.get? 316=some (E8 ps0)):BM (hbR hb ps):=by
 obtain⟨mg,bm,ob,M⟩:=B
 have hs:BV 316 hb (hbR hb ps):=zt ..
 have hbm:bm≠316:=λq=>by
  have:=M.obj
  rw[q,h0] at this
  cases this
  exact nomatch M.cls
 exact⟨mg,bm,ob,M.ns.sameBut hs (by decide),M.name,M.ne,(bU hbm).trans M.obj,M.cls,M.dict,M.data⟩
theorem St.reb(S:St (hbR hb ps) tabs L l T h)(h0:hb.get? 316=some (E8 ps0))(ht:316∉tabs)(hk:∀ b o,b≠316->h.get? b=some o->h'.get? b=some o)(hP:h'.get? 316=some (E8 ps')):St (hbR hb ps') tabs L l T h':=by
 have hlt:316<hb.objs.size:=AH h0
 have new:∀ b,(hbR hb ps).objs.size<=b->b≠316:=λb hb' q=>by
  rw[dG,q] at hb';exact absurd hlt (Br.mpr hb')
 obtain⟨oL,e,r⟩:=S.fm
 refine⟨⟨oL,hk _ _ (new _ S.lnew) e,r⟩,by have:=S.lnew;rw[dG] at this ⊢;exact this,λb o e hn=>?_,λt htt=>?_,λp hp=>hk _ _ (new _ (S.new p hp)) (S.obj p hp),λp hp=>by have:=S.new p hp;rw[dG] at this ⊢;exact this,S.nd⟩
 ·by_cases q:b=316
  ·subst q
   rw[gu h0] at e
   rw[hP];exact e
  ·rw[bU q] at e
   exact hk b o q (S.keep b o ((bU q).trans e) hn)
 ·have q:t≠316:=λq=>ht (q▸htt)
  obtain⟨qs,more,a,b,c⟩:=S.tab t htt
  rw[bU q] at a
  exact⟨qs,more,(bU q).trans a,hk _ _ q b,c⟩
theorem St.reb0(S:St hb tabs L l T h)(h0:hb.get? 316=some (E8 ps0)):St (hbR hb ps0) tabs L l T h:=by
 have e:∀ b,(hbR hb ps0).get? b=hb.get? b:=λb=>by
  by_cases q:b=316
  ·subst q;rw[gu h0,h0]
  ·exact bU q
 refine⟨S.fm,by rw[dG];exact S.lnew,λb o q hn=>S.keep b o (by rw[<- e];exact q) hn,λt ht=>?_,S.obj,λp hp=>by rw[dG];exact S.new p hp,S.nd⟩
 obtain⟨qs,more,a,b,c⟩:=S.tab t ht
 exact⟨qs,more,(e t).trans a,b,c⟩
theorem St.unreb(S:St (hbR hb ps) tabs L l T h)(h0:hb.get? 316=some (E8 #[]))(ht:316∉tabs)(hp:C3 ps.toList):St hb (316::tabs) L l T h:=by
 refine⟨S.fm,by have:=S.lnew;rw[dG] at this;exact this,λb o e hn=>?_,λt htt=>?_,S.obj,λp hp=>by have:=S.new p hp;rw[dG] at this;exact this,S.nd⟩
 ·have q:b≠316:=λq=>hn (q▸.head _)
  exact S.keep b o ((bU q).trans e) λz=>hn (aj z)
 ·rcases y7.mp htt with rfl|htt
  ·refine⟨#[],ps,h0,?_,?_⟩
   ·rw[GJ];exact S.keep 316 _ (gu h0) ht
   ·rw[GJ];exact hp
  ·have q:t≠316:=λq=>ht (q▸htt)
   obtain⟨qs,more,a,b,c⟩:=S.tab t htt
   exact⟨qs,more,by rw[<- bU q];exact a,b,c⟩
end
theorem oR{pos:Ef}{a b:Int}{t u:AN}{c cv:Value}(l:List Value)(h:C3 l)(hc:Gu pos (l++[.int a t,.int b u,c])=some cv):Gu pos l=some cv\/cv=c:=by
 fun_induction C3 l with
 | case1 =>
  simp only[Dh,Gu] at hc
  by_cases q:(a==(pos.line:Int)&&b==(pos.col:Int))=true
  ·rw[if_pos q] at hc;exact .inr (AB hc).symm
  ·rw[if_neg q] at hc;nomatch hc
 | case2 line t1 col u1 x rest ih =>
  simp only[Bp,Gu] at hc ⊢
  by_cases q:(line==(pos.line:Int)&&col==(pos.col:Int))=true
  ·rw[if_pos q] at hc ⊢;exact .inl hc
  ·rw[if_neg q] at hc ⊢;exact ih h hc
 | case3=>exact h.elim
structure xg(qual:zH)(ps:Array Value)(T:LO):Prop where
 ok:C3 ps.toList
 code:∀ pos cv,Gu pos ps.toList=some cv->∃ c oc,cv=.ref c/\(c,oc)∈T/\uq oc qual
theorem xg.mono{qual:zH}{ps:Array Value}{T T':LO}(H:xg qual ps T)(hs:∀ p∈T,p∈T'):xg qual ps T' :=
 ⟨H.ok,λpos cv e=>by obtain⟨c,oc,a,b,d⟩:=H.code pos cv e;exact⟨c,oc,a,hs _ b,d⟩⟩
theorem rV{qual:zH}{T:LO}:xg qual #[] T:=⟨trivial,λpos cv e=>nomatch e⟩
section
variable{tabs:List ze}{c:ze}{l:LV}{T:LO}{body:Expr}{pos:Ef}
theorem wU {Q:VP}{T1:LO} (G:Gd K tabs hb) (hK:K.lookup 316=none) (B:BM hb) (h0:hb.get? 316=some (E8 #[])) (hnt:316∉tabs) (S:St (hbR hb ps) tabs L l T s.heap) (hq:env.qual ++ "<lambda>" = qual) (I:xg qual ps T1) (dp:∀ p∈T1,p∈T) (hcode:env.code=.ref c) (C:CodeHd s.heap c 316)
  (hg:env.globals=Bl) (hcl:FM lM env=Au cl)
  (k:∀ f c' oc ctv pm ps' X h' tk,uq oc qual->(c',oc)∈X++T1->xg qual ps' (X++T1)->St (hbR hb ps') tabs L l ((f,qC qual body cl pm c' ctv)::(X++T)) h'->Q (.ref f) (wht s h' tk)) :
  y4 (y0 prog w) A (Aq (.Lambda mW body lM pos) env) Q E s:=by
 have G':Gd K tabs (hbR hb ps):=G.reb hK
 obtain⟨mg,bm,ob,M⟩:BM (hbR hb ps):=B.reb h0
 have hgm:s.heap.Ns Bl mg:=S.oldNs M.ns G'.n1
 have hP:s.heap.get? 316=some (E8 ps):=S.keep 316 _ (gu h0) hnt
 have hbo:=S.old M.obj (S.notTab M.obj (by rw[M.cls];exact nofun))
 have hbP:bm≠316:=λq=>by
  have:=M.obj
  rw[q,gu h0] at this
  cases this
  exact nomatch M.cls
 have hbG:bm≠Bl:=λq=>by
  obtain⟨o,es,ep,e,hd,_⟩:=hgm
  rw[q,e] at hbo;cases hbo
  have:=M.data
  rw[hd] at this;nomatch this
 have hbA:s.heap.BuiltinsAt mg 316:=⟨bm,ob,M.name,M.ne,hbG,hbP,hbo,M.cls,M.dict,M.data⟩
 refine kla_eval rfl ?_
 rw[hq]
 cases hf:Gu pos ps.toList with
 | some cv =>
  obtain⟨c',oc,rfl,hm,hco⟩:=I.code pos cv hf
  exact kla_makeFunctionHit (mg:=mg) hcl hg hgm hcode C hP I.ok hf hbA λctv h' tk hk hsz=>(k _ c' oc ctv _ ps [] _ tk hco hm I ((S.grown hk).push _))
 | none =>
  refine kla_makeFunction (mg:=mg) hcl hg hgm hcode C hP I.ok hf (by decide) hbA λc' ctv h' tk hx hge hlt hrec htab=>?_
  obtain⟨bu,oc,vs,t,e2,hoc,hd,hv⟩:=hrec
  cases e2
  have ah:=S.reb h0 hnt (λb o q e=>hx b o q e) htab
  have hL:=S.fm.lt
  have af:St (hbR hb (ps++#[Cv pos.line,Cv pos.col,.ref c'])) tabs L l ((c',oc)::T) h':=by
   refine⟨ah.fm,ah.lnew,ah.keep,ah.tab,λp hp=>?_,λp hp=>?_,?_⟩
   ·rcases y7.mp hp with rfl|hp
    ·exact hoc
    ·exact ah.obj p hp
   ·rcases y7.mp hp with rfl|hp
    ·exact zk ah.lnew (zk (Af hL) hge)
    ·exact ah.new p hp
   ·have nd:=zr.mp ah.nd
    refine zr.mpr ⟨λq=>?_,zr.mpr ⟨λq=>?_,nd.2⟩⟩
    ·rcases y7.mp q with q|q
     ·exact Aj _ (zJ (show c'<_ from (show L=c' from ‹L=_›)▸hL) hge)
     ·exact nd.1 q
    ·obtain⟨p,hp,e⟩:=za.mp q
     have e:p.1=c':=e
     exact absurd (e▸S.lt hp) (Br.mpr hge)
  refine k _ c' oc ctv _ _ [(c',oc)] _ tk ⟨vs,t,hd,hv⟩ (.head _) ⟨?_,λpos' cv e=>?_⟩ (af.push _)
  ·rw[EJ];exact Mp _ _ _ _ I.ok
  ·rw[EJ] at e
   rcases oR ps.toList I.ok e with q|q
   ·obtain⟨c3,oc3,a,b,d⟩:=I.code pos' cv q
    exact⟨c3,oc3,a,aj b,d⟩
   ·exact⟨c',oc,q,.head _,vs,t,hd,hv⟩
end
theorem je{P:zF}{h:AE}(k:(KN P).In h):CodeHd h 320 316 :=
 ⟨o320 P,_,_,_,_,_,_,_,_,k 320 _ (by kernel_rfl),rfl,rfl,rfl,rfl,rfl,rfl,rfl,rfl,by decide⟩
section
variable{vs:List Value}
abbrev yj(Inv:Nat->y9->Prop)(R:Cg->y9->Prop)(i:Nat)(f:Ng)(s3:y9):Prop:=match f with
 | .next|.cont=>Inv (i+1) s3
 | .brk=>R (.ok .next) s3
 | .ret v=>R (.ok (.ret v)) s3
structure LookL(prog:Bh)(w:Am)(A:AR)(env:ID)(target:Expr)(body:List Cq)(I d:ze)(vs:List Value)(Inv:Nat->y9->Prop)(R:Cg->y9->Prop)(i:Nat)(s₁:y9)(hb:AE)(tabs:List ze)(L:ze)(l:LV)(T:LO)(o:AO)(n:Nat):Prop where
 st:St hb tabs L l ((I,o)::T) s₁.heap
 at_:bZ o d i
 mem:(d,ap vs n)∈T
 turn:∀ (hi:i<vs.length) h' o',bZ o' d (i+1)->St hb tabs L l ((I,o')::T) h'->∀ E,y4 (y0 prog w) A (BL target env vs[i]) (oB (y0 prog w) A env E body (yj Inv R i)) E (wh s₁ h')
 fin:i=vs.length->∀ h',St hb tabs L l T h'->R (.ok .next) (wh s₁ h')
theorem l8{R:Cg->y9->Prop}(Inv:Nat->y9->Prop)(hh:A.handled=none)(h0:Inv 0 s)
  (look:∀ i s₁,Inv i s₁->i<=vs.length->∃ hb tabs L l T o n,LookL prog w A env target body I d vs Inv R i s₁ hb tabs L l T o n)
  (ht:∀ v,CW target (.ref I) v=Au ():=by intro Z;rfl) :
  zS (y0 prog w) A (.forLoop target (.ref I) body [] env) R s:=by
 refine LJ (λk s'=>∃ i,Inv i s'/\i<=vs.length/\k=vs.length - i) ?_ vs.length ⟨0,h0,zA _,rfl⟩ ht
 rintro k s' ⟨i,hI,hi,rfl⟩
 obtain⟨hb,tabs,L,l,T,o,n,S,ho,hm,turn,fin⟩:=look i s' hI hi
 by_cases hlt:i<vs.length
 ·have hx:vs[i]? = some vs[i]:=zj hlt
  refine ig 0 S rfl ho (aj hm) hx λh' o' ho' S'=>(zf (turn hlt h' o' ho' S' _) (λZ ag am=>zf am (λf s3 ak=>?_) λZ Z e=>e) λZ Z e=>e)
  cases f with
  | next=>exact⟨vs.length - (i+1),by exact z8t hlt,i+1,ak,hlt,rfl⟩
  | cont=>exact⟨vs.length - (i+1),by exact z8t hlt,i+1,ak,hlt,rfl⟩
  | brk=>exact ak
  | ret v=>exact ak
 ·have hin:i=vs.length:=z8u hi hlt
  subst hin
  exact iT hh (T:=T) (S.perm (zi (l₁:=[(I,o)]) (l₂:=T))) ho hm λh' S'=>CV (fin rfl h' S')
end
noncomputable abbrev bJ(w:Am)(L':ze):ID:=zy (yD w.params) L' 321
section
variable{l:LV}{T:LO}{pv:Value}
noncomputable abbrev bodyN:List Cq:=aD (((aD (st1 pw 16))[0]?).getD AA)
noncomputable abbrev bodyC:List Cq:=aD (((aD (st1 pw 16))[1]?).getD AA)
noncomputable abbrev qR:zH:=yW "_law_refusals_right" ++ ".<locals>." ++ "<lambda>"
structure RS(hb:AE)(L' L:ze)(lc:LV)(Bs:LO)(I:ze)(o:AO)(ps:Array Value)(oL on:AO)(l:LV)(X:LO)(h:AE):Prop where
 st:St (hbR hb ps) tabs L' l ((L,oL)::(I,o)::(L'+3,on)::(X++Bs)) h
 fr:bL oL lc
 cell:∃ v,on.data=.cell v
 nm:l=[]\/∃ v,l=[(yW "told", v)]
 tab:xg qR ps (X++Bs)
theorem mi{prog:Bh}{A:AR}{E:VP}{s:y9}{K:Ho}{f:Value}{first:List Value}{trees:List (Bool×Lz Value)}{Q:VP}{pos:Ef}(h:y4 (y0 prog w) A (CD trees) (λvs s₁=>K.In s₁.heap/\zS (y0 prog w) A (.call f ⟨first++vs,[]⟩) (kRes E Q) s₁) E s)
  (hk:Nw K f=true:=by kernel_rfl) (hp:trees.any (·.1)=false:=by rfl):y4 (y0 prog w) A (DS pos f first trees []) Q E s :=
 callWith_of (by rw[hp];rfl) (keeps_K hk) (cC hp (zf h (λvs s₁ z=>⟨z.1,BO z.2⟩) λZ Z z=>z))
theorem p4{α:Type}{a b c d:α}{X:List α}:(a::b::c::d::X).Perm (c::a::d::b::X) :=
 (zL a (AJ c b _)).trans ((AJ c a _).trans (zL c (zL a (AJ d b _))))
theorem yQ{α:Type}{a b c:α}{X Y:List α}:(X++(a::b::c::Y)).Perm (a::b::c::(X++Y)) :=
 zs.trans (zL a (zs.trans (zL b zs)))
theorem mem3{P:Value->Prop}{a b c v:Value}(ha:P a)(hb:P b)(hc:P c)(h:v∈[a,b,c]):P v:=Ev.mpr ⟨ha,Ev.mpr ⟨hb,List.forall_mem_singleton.mpr hc⟩⟩ v h
theorem mem4{P:Value->Prop}{a b c d v:Value}(ha:P a)(hb:P b)(hc:P c)(hd:P d)(h:v∈[a,b,c,d]):P v:=Ev.mpr ⟨ha,λv=>mem3 hb hc hd⟩ v h
theorem turnN{L' I:ze}{lc:LV}{Bs X:LO}{o oL on ow ops:AO}{ps:Array Value}{m:Int}{tn:AN}{txt:zH}{E:VP}{Q:FP}{p0:Ef}(G:GK w hb)(B:BM hb)(h0:hb.get? 316=some (E8 #[]))(hd:A.depth+40<zg)(hu:A.units+100<Aw)(hh:A.handled=none)
  (hfr:A.frames=some [bJ w L',e0]) (hf0:e0.frame=some L) (hk0:e0.scope.kind≠.module) (H:RS hb L' L lc Bs I o ps oL on l X s.heap) (hw:(L'+1,ow)∈Bs) (hwd:ow.data=.cell (some wv)) (hs:(L'+2,ops)∈Bs) (hsd:ops.data=.cell (some pv))
  (hm:m<=0) (Rv:ji (.int m tn) txt) (hstr:∀ {A:AR}{E:VP}{s:y9}{Q:VP},Q (.str txt s.toks) (wt s (s.toks+1))->y4 (y0 pw w) A (call (.type "str") [.int m tn]) Q E s)
  (k:∀ s' ps' oL' on' l' X',Kp s s'->RS hb L' L lc Bs I o ps' oL' on' l' X' s'.heap->Q .next s') :
  y4 (y0 pw w) A (BL (.Name (yW "number") p0) (bJ w L') (.int m tn)) (oB (y0 pw w) A (bJ w L') E bodyN Q) E s:=by
 obtain⟨S,r,⟨vc,hvc⟩,hl,TI⟩:=H
 refine aU (gx (env:=bJ w L') (x:=yW "number") (v:=.int m tn) (c:=L'+3) 2 S rfl hvc ?_)
 intro ai on1 hon1 ah
 have S1':St (hbR hb ps) tabs L' l ((L,oL)::(I,o)::(L'+3,on1)::(X++Bs)) ai:=ah
 have hcode:=je (P:=w.params) (h:=ai) (λa o e=>S1'.kin (s:=wh s ai) (G.reb (by kernel_rfl)) a o e)
 refine aC (bF (args_cons (bW (cH (env:=bJ w L') (G.reb (ps:=ps) (by kernel_rfl)) S1' (v:=.ref 314) (by kernel_rfl) (mi (K:=KN w.params) (args_cons (wU (c:=320) (cl:=clL (L'+1) (L'+2) (L'+3)) (qual:=qR) G (by kernel_rfl) B h0 (by decide) S1' (by kernel_rfl) TI (λp hp=>aj (aj (aj hp))) rfl hcode rfl (by rfl) ?_)))))))
 refine λbe bu oc2 ctv2 pm2 ps2 X2 am du hco2 cz TI2 af=>zn ?_
 have G2:=G.reb (ps:=ps2) (by kernel_rfl)
 have S2':=af.perm (T':=(L,oL)::(be,qC qR _ (clL (L'+1) (L'+2) (L'+3)) pm2 bu ctv2)::(X2++((I,o)::(L'+3,on1)::(X++Bs)))) (zs (l₁:=_::X2))
 refine⟨S2'.kin G2,?_⟩
 have mB:∀ p∈Bs,p∈((I,o)::(L'+3,on1)::(X++Bs)):=λp hp=>aj (aj (yZ _ hp))
 have mX:∀ {p:ze×AO}{X':LO},p∈X'++(X++Bs)->p∈X'++((I,o)::(L'+3,on1)::(X++Bs)):=λhp=>by
  rcases zc.mp hp with q|q
  ·exact y5 _ q
  ·exact yZ _ (aj (aj q))
 refine iE (oF:=_) (fd:=_) G2 S2' r (by decide) (by kernel_rfl) (dn 20 hd) (dn 60 hu) hh hfr rfl (λe=>Bj e) hf0 hk0 (.head _) rfl (λp hp=>hp)
  (lam1 G2 (by decide) (by kernel_rfl) ⟨.head _,aj (mX cz),hco2,aj (yZ _ (mB _ hw)),hwd,aj (yZ _ (mB _ hs)),hsd,aj (yZ _ (aj (.head _))),hon1⟩ hm Rv) ?_
 intro s3 sl3 bn ax ae
 have hcode3:=je (P:=w.params) (h:=s3.heap) (λa o e=>ae.kin G2 a o e)
 refine args_cons (bW (cH (env:=bJ w L') G2 ae (v:=.ref 314) (by kernel_rfl) (mi (K:=KN w.params) (args_cons (wU (c:=320) (cl:=clL (L'+1) (L'+2) (L'+3)) (qual:=qR) G (by kernel_rfl) B h0 (by decide) ae (by kernel_rfl) TI2 (λp hp=>aj (aj (mX hp))) rfl hcode3 rfl (by rfl) ?_)))))
 refine λdq fg oc4 ctv4 pm4 ps4 X4 aw db hco4 hc4 TI4 S4=>zn ?_
 have G4:=G.reb (ps:=ps4) (by kernel_rfl)
 generalize hlam2:qC qR _ (clL (L'+1) (L'+2) (L'+3)) pm2 bu ctv2=bg at ae S4
 have S4':=S4.perm (T':=(L,slo oL sl3)::(dq,qC qR _ (clL (L'+1) (L'+2) (L'+3)) pm4 fg ctv4)::(X4++((be,bg)::(X2++((I,o)::(L'+3,on1)::(X++Bs)))))) (zs (l₁:=_::X4))
 refine⟨S4'.kin G4,?_⟩
 have mX4:∀ {p:ze×AO},p∈X4++(X2++(X++Bs))->p∈X4++((be,bg)::(X2++((I,o)::(L'+3,on1)::(X++Bs)))):=λhp=>by
  rcases zc.mp hp with q|q
  ·exact y5 _ q
  ·exact yZ _ (aj (mX q))
 have mB4:∀ {q:ze×AO},∀ p∈(I,o)::(L'+3,on1)::(X++Bs),p∈q::(X4++((be,bg)::(X2++((I,o)::(L'+3,on1)::(X++Bs))))):=λp hp=>aj (yZ _ (aj (yZ _ hp)))
 refine iE (oF:=_) (fd:=_) G4 S4' (r.slo _) (by decide) (by kernel_rfl) (dn 20 hd) (dn 60 hu) hh hfr rfl (λe=>Bj e) hf0 hk0 (.head _) rfl (λp hp=>hp)
  (lam2 G4 (by decide) (by kernel_rfl) ⟨.head _,aj (mX4 hc4),hco4,mB4 _ (mB _ hw),hwd,mB4 _ (mB _ hs),hsd,mB4 _ (aj (.head _)),hon1⟩ hm Rv) ?_
 intro s5 sl5 ed K5 S5
 generalize qC qR _ (clL (L'+1) (L'+2) (L'+3)) pm4 fg ctv4=lam4 at S5
 refine zn ⟨rfl,_,_,_,_,_,by exact S5,?_⟩
 intro D6 az S6
 have hst:bV l (yW "told") (.ref D6) [(yW "told", .ref D6)]:=by
  rcases hl with rfl|⟨v,rfl⟩
  ·exact .new (by kernel_rfl)
  ·exact .old .here
 refine aT (env:=bJ w L') S6 hst (λba S7=>restate S7 λs7 K7 S7=>?_)
 replace K7:Kp s s7:=⟨K7.os.trans (K5.os.trans ax.os),λq=>K7.gens (K5.gens (ax.gens q))⟩
 have mC:(L'+3,on1)∈X4++((be,bg)::(X2++((I,o)::(L'+3,on1)::(X++Bs)))):=yZ _ (aj (yZ _ (aj (.head _))))
 refine dA (au (env:=bJ w L') S7 m0 (wpAny_BinOp (bF (args_cons (wpAny_BinOp (wpAny_Constant_str (uT (env:=bJ w L') G4 S7 PyProof.Rows.Boot.«str» ?_)))))))
 refine args_cons (bI (env:=bJ w L') (c:=L'+3) S7 (aj (aj (aj mC))) hon1 (zn (hstr (Jf ?_ (by have:=Rv.len;rw[zw];show 15+_<=_;exact y6v this)))))
 refine λtk8 t8=>zn ⟨rfl,_,_,_,_,_,by exact S7,?_⟩
 refine λD8 bc S8=>wpAny_Constant_int (xN S8 m0 (by simp) (by decide) (by decide) (by show 1<=1000;decide) ?_)
 refine λD9 bf S9=>mQ (xs:=[(yW "n must be > 0: " ++ txt,bn),(yW "n must be > 0: " ++ txt,ed)]) (ys:=[(yW "n must be > 0: " ++ txt,tk8),(yW "n must be > 0: " ++ txt,tk8)]) ⟨_,S9.obj _ m2,rfl,_,rfl⟩ ⟨_,S9.obj _ m0,rfl,_,rfl⟩ (dn 100 hu) (y8 ⟨λq=>by simp at q,λZ=>?_⟩)
 refine aF (CV ?_)
 have eX:(dq,lam4)::(X4++((be,bg)::(X2++((I,o)::(L'+3,on1)::(X++Bs)))))=((dq,lam4)::(X4++((be,bg)::X2)))++((I,o)::(L'+3,on1)::(X++Bs)):=by simp
 have S10:=(S9.sub (T':=(L,slo (slo oL sl3) sl5)::(dq,lam4)::(X4++((be,bg)::(X2++((I,o)::(L'+3,on1)::(X++Bs)))))) (.cons _ (.cons _ (.cons _ (Ag _)))))
 rw[eX] at S10
 have S11:=S10.perm (T':=(L,slo (slo oL sl3) sl5)::(I,o)::(L'+3,on1)::((((dq,lam4)::(X4++((be,bg)::X2)))++X)++Bs)) (zL _ (by
  rw[zu]
  exact zs.trans (zL _ zs)))
 refine k _ ps4 _ on1 _ _ ⟨K7.os,K7.gens⟩ ⟨S11,r,⟨_,hon1⟩,.inr ⟨_,rfl⟩,TI4.mono λp hp=>?_⟩
 rw[zu]
 rcases zc.mp hp with q|q
 ·exact y5 _ (aj (y5 _ q))
 rcases zc.mp q with q|q
 ·exact y5 _ (aj (yZ _ (aj q)))
 ·exact yZ _ q
theorem turnC{cv:Value}{bb:Bool}{L' I:ze}{lc:LV}{Bs X:LO}{o oL on ow ops:AO}{ps:Array Value}{txt:zH}{E:VP}{Q:FP}{p0:Ef}(G:GK w hb)(B:BM hb)(h0:hb.get? 316=some (E8 #[]))(hd:A.depth+40<zg)(hu:A.units+100<Aw)(hh:A.handled=none)
  (hfr:A.frames=some [bJ w L',e0]) (hf0:e0.frame=some L) (hk0:e0.scope.kind≠.module) (H:RS hb L' L lc Bs I o ps oL on l X s.heap) (hw:(L'+1,ow)∈Bs) (hwd:ow.data=.cell (some wv)) (hs:(L'+2,ops)∈Bs) (hsd:ops.data=.cell (some pv))
  (C:jO cv bb) (Rv:ji cv txt)
  (k:∀ s' ps' oL' on' l' X',Kp s s'->RS hb L' L lc Bs I o ps' oL' on' l' X' s'.heap->Q .next s') :
  y4 (y0 pw w) A (BL (.Name (yW "number") p0) (bJ w L') cv) (oB (y0 pw w) A (bJ w L') E bodyC Q) E s:=by
 obtain⟨S,r,⟨vc,hvc⟩,hl,TI⟩:=H
 refine aU (gx (env:=bJ w L') (x:=yW "number") (v:=cv) (c:=L'+3) 2 S rfl hvc ?_)
 intro ai on1 hon1 ah
 have S1':St (hbR hb ps) tabs L' l ((L,oL)::(I,o)::(L'+3,on1)::(X++Bs)) ai:=ah
 have hcode:=je (P:=w.params) (h:=ai) (λa o e=>S1'.kin (s:=wh s ai) (G.reb (by kernel_rfl)) a o e)
 refine aC (bW (cH (env:=bJ w L') (G.reb (ps:=ps) (by kernel_rfl)) S1' (v:=.ref 314) (by kernel_rfl) (mi (K:=KN w.params) (args_cons (wU (c:=320) (cl:=clL (L'+1) (L'+2) (L'+3)) (qual:=qR) G (by kernel_rfl) B h0 (by decide) S1' (by kernel_rfl) TI (λp hp=>aj (aj (aj hp))) rfl hcode rfl (by rfl) ?_)))))
 refine λbe bu oc2 ctv2 pm2 ps2 X2 am du hco2 cz TI2 af=>zn ?_
 have G2:=G.reb (ps:=ps2) (by kernel_rfl)
 have S2':=af.perm (T':=(L,oL)::(be,qC qR _ (clL (L'+1) (L'+2) (L'+3)) pm2 bu ctv2)::(X2++((I,o)::(L'+3,on1)::(X++Bs)))) (zs (l₁:=_::X2))
 refine⟨S2'.kin G2,?_⟩
 have mB:∀ p∈Bs,p∈((I,o)::(L'+3,on1)::(X++Bs)):=λp hp=>aj (aj (yZ _ hp))
 have mX:∀ {p:ze×AO}{X':LO},p∈X'++(X++Bs)->p∈X'++((I,o)::(L'+3,on1)::(X++Bs)):=λhp=>by
  rcases zc.mp hp with q|q
  ·exact y5 _ q
  ·exact yZ _ (aj (aj q))
 refine iE (oF:=_) (fd:=_) G2 S2' r (by decide) (by kernel_rfl) (dn 20 hd) (dn 60 hu) hh hfr rfl (λe=>Bj e) hf0 hk0 (.head _) rfl (λp hp=>hp)
  (lam3 G2 (by decide) (by kernel_rfl) ⟨.head _,aj (mX cz),hco2,aj (yZ _ (mB _ hw)),hwd,aj (yZ _ (mB _ hs)),hsd,aj (yZ _ (aj (.head _))),hon1⟩ C Rv) ?_
 intro s3 sl3 bn ax ae
 generalize qC qR _ (clL (L'+1) (L'+2) (L'+3)) pm2 bu ctv2=bg at ae
 have hst:bV l (yW "told") (.str (yW "cutoff must be in [0.0, 1.0]: " ++ txt) bn) [(yW "told", .str (yW "cutoff must be in [0.0, 1.0]: " ++ txt) bn)]:=by
  rcases hl with rfl|⟨v,rfl⟩
  ·exact .new (by kernel_rfl)
  ·exact .old .here
 refine aT (env:=bJ w L') ae hst (λba S7=>restate S7 λs7 K7 S7=>?_)
 replace K7:Kp s s7:=⟨K7.os.trans ax.os,λq=>K7.gens (ax.gens q)⟩
 have mC:(L'+3,on1)∈X2++((I,o)::(L'+3,on1)::(X++Bs)):=yZ _ (aj (.head _))
 refine dA (au (env:=bJ w L') S7 m0 (wpAny_BinOp (wpAny_Constant_str (oM (env:=bJ w L') G2 S7 PyProof.Rows.Boot.«repr» (args_cons (bI (env:=bJ w L') (c:=L'+3) S7 (aj (aj mC)) hon1 (zn ?_)))))))
 refine Rv.call (Jf ?_ (by have:=Rv.len;rw[zw];show 30+_<=_;exact y6w this))
 refine λtk8 t8=>Nv ?_
 rw[bne_self_eq_false]
 refine y8 ⟨λq=>(by cases q),λZ=>?_⟩
 refine aF (CV ?_)
 have eX:(be,bg)::(X2++((I,o)::(L'+3,on1)::(X++Bs)))=((be,bg)::X2)++((I,o)::(L'+3,on1)::(X++Bs)):=rfl
 rw[eX] at S7
 have S11:=S7.perm (T':=(L,slo oL sl3)::(I,o)::(L'+3,on1)::((((be,bg)::X2)++X)++Bs)) (zL _ (by
  rw[zu]
  exact zs.trans (zL _ zs)))
 refine k _ ps2 _ on1 _ _ ⟨K7.os,K7.gens⟩ ⟨S11,r,⟨_,hon1⟩,.inr ⟨_,rfl⟩,TI2.mono λp hp=>?_⟩
 rw[zu]
 rcases zc.mp hp with q|q
 ·exact y5 _ (aj q)
 ·exact yZ _ q
theorem q9{f:UInt64}{t:AN}{b:Bool}(h1:(zV 0 f==some Ordering.lt || zV 0 f==some Ordering.eq)=b)(h2:b=true->(zV f 4607182418800017408==some Ordering.lt || zV f 4607182418800017408==some Ordering.eq)=false):jO (.float f t) b :=
 ⟨λh=>Fz (by rw[h1];exact h),λe Z Z Z Z Z Z h=>Fz (by rw[h2 e];exact h)⟩
theorem q8{n:Int}{t:AN}{b:Bool}(h1:(Cx 0 n==some Ordering.lt || Cx 0 n==some Ordering.eq)=b)(h2:b=true->(Cx 4607182418800017408 n==some Ordering.gt || Cx 4607182418800017408 n==some Ordering.eq)=false):jO (.int n t) b :=
 ⟨λh=>Nb (by rw[h1];exact h),λe Z Z Z Z Z Z h=>Nc (by rw[h2 e];exact h)⟩
theorem nY(G:GK w hb)(B:BM hb)(h0:hb.get? 316=some (E8 #[]))(S:St hb tabs L l T s.heap)(hd:A.depth+60<zg)(hu:A.units+200<Aw)(hh:A.handled=none)
  (hfr:A.frames=some [e0]) (hf0:e0.frame=some L) (hk0:e0.scope.kind≠.module)
  (k:∀ s' ps,Kp s s'->C3 ps.toList->St (hbR hb ps) tabs L l T s'.heap->R (.ok (.ret (.bool true))) s') :
  zS (y0 pw w) A (.call (.ref 321) ⟨[wv,pv],[]⟩) R s:=by
 refine yP (lb:=[]) (cs:=λL'=>[(yW "number", L'+3),(yW "some", L'+2),(yW "word", L'+1)])
  (cm:=λx=>if x=yW "word" then some wv else if x=yW "some" then some pv else none) G S (lk321 _) (dn 60 hd)
  (binds:=[(yW "word", wv),(yW "some", pv)]) (body:=aD (st1 pw 16)) (AW (by kernel_rfl)) ?_
  (λL'=>by kernel_rfl) ?_ (λL' p hp=>by cases hp) ?_ ?_ C5
 ·intro L' s₁ oL obs r hobs ar ah
  have hn0:=hobs _ (.head _)
  have hs0:=hobs _ (aj (.head _))
  have hw0:=hobs _ m2
  have S1':St hb tabs L' [] ([(L'+3,obs (L'+3)),(L'+2,obs (L'+2)),(L'+1,obs (L'+1))]++(L,oL)::T) s₁.heap:=ah
  clear ah
  generalize obs (L'+3)=on at *
  generalize obs (L'+2)=ops at *
  generalize obs (L'+1)=ow at *
  replace hn0:on.data=.cell none:=hn0
  replace hs0:ops.data=.cell (some pv):=hs0
  replace hw0:ow.data=.cell (some wv):=hw0
  have af:=(S1'.reb0 h0).perm (T':=(L,oL)::(L'+3,on)::(L'+2,ops)::(L'+1,ow)::T) zs
  clear S1' hobs
  refine eY (bF (args_cons (wpAny_Constant_int (args_cons (DX (wpAny_Constant_int (Kk ?_)))))))
  refine args_cons (DX (wpAny_BinOp (wpAny_Constant_int (wpAny_Constant_int (K0 (by decide) (by decide) (by decide) (by decide) (by decide +kernel) (Kk (zn ?_)))))))
  refine⟨rfl,_,_,_,_,_,by exact af,?_⟩
  refine λd3 ak ae=>B7 (items:=Gp _) ⟨_,ae.obj _ m0,rfl,0,rfl⟩ ?_
  have S4:=ae.push (gV d3 0)
  have hfr':(A.deeper (bJ w L')).frames=some [bJ w L',e0]:=BR hfr
  obtain⟨t1,t2,t3,I,hI,S5⟩:∃ t1 t2 t3 I,I=ak.objs.size/\St (hbR hb #[]) tabs L' [] ((L,oL)::(I,gV d3 0)::(L'+3,on)::([]++(d3,ap [.int 0 t1,.int (-1) t2,.int (-1000000000000000000000000000000) t3] 0)::(L'+2,ops)::(L'+1,ow)::T)) (ak.push (gV d3 0)) :=
   ⟨_,_,_,_,rfl,S4.perm p4⟩
  clear S4 ae
  rw[<- hI]
  let H:Nat->y9->Prop:=λi s=>∃ ps oL on o l' X,bZ o d3 i/\Kp s₁ s/\RS hb L' L l ((d3,ap [.int 0 t1,.int (-1) t2,.int (-1000000000000000000000000000000) t3] 0)::(L'+2,ops)::(L'+1,ow)::T) I o ps oL on l' X s.heap
  refine l8 (vs:=[.int 0 t1,.int (-1) t2,.int (-1000000000000000000000000000000) t3]) (d:=d3) H hh ?_ ?_
  ·exact⟨#[],oL,on,_,[],[],⟨rfl,rfl⟩,⟨rfl,id⟩,S5,r,⟨_,hn0⟩,.inl rfl,rV⟩
  rintro i s6 ⟨ps,oL6,on6,o6,l6,X6,hat,K6,H6⟩ hi
  refine⟨hbR hb ps,tabs,L',l6,(L,oL6)::(L'+3,on6)::(X6++(d3,ap [.int 0 t1,.int (-1) t2,.int (-1000000000000000000000000000000) t3] 0)::(L'+2,ops)::(L'+1,ow)::T),o6,0,H6.st.perm (AJ _ _ _),hat,aj (aj (yZ _ (.head _))),λhlt h' o' ho' S' E=>?_,λhfin h' S'=>?_⟩
  ·have num:=mem3 (P:=λv=>∃ m tn txt,v=.int m tn/\m<=0/\m.natAbs.log2<1920/\yW (toString m)=txt/\txt.length<=1000) ⟨_,_,_,rfl,by decide,by decide +kernel,rfl,by decide +kernel⟩ ⟨_,_,_,rfl,by decide,by decide +kernel,rfl,by decide +kernel⟩ ⟨_,_,_,rfl,by decide,by decide +kernel,rfl,by decide +kernel⟩ (z5 hlt)
   obtain⟨m,tn,txt,em,hm,ha,et,hl⟩:=num
   rw[em]
   exact turnN (s:=wh s6 h') G B h0 (by show A.depth+1+40<zg;exact dn 19 hd) (by show A.units+_+100<Aw;exact dn 97 hu) hh hfr' hf0 hk0 ⟨S'.perm (AJ _ _ _),H6.fr,H6.cell,H6.nm,H6.tab⟩ m2 hw0 (aj (.head _)) hs0 hm (lN et ha hl) (λh=>PySem.P.str_of_int ha (by rw[<- et] at h;exact h)) (λs7 ps7 oL7 on7 l7 X7 K7 H7=>⟨ps7,oL7,on7,o',l7,X7,ho',(kt K6 K7),H7⟩)
  obtain⟨v6,hv6⟩:=H6.cell
  have nm6:=H6.nm
  have fr6:=H6.fr
  have tab6:=H6.tab
  clear hat H6 hfin
  refine eY (bF (args_cons (DX (Co (neg_float (args_cons (Co ?_)))))))
  refine args_cons (wpAny_Constant_int (args_cons (DX (wpAny_Constant_int (Kk (zn ⟨rfl,_,_,_,_,_,by exact S',?_⟩))))))
  refine λd8 bc S8=>B7 (items:=Gp _) ⟨_,S8.obj _ m0,rfl,0,rfl⟩ ?_
  have S9:=S8.push (gV d8 0)
  generalize hB:(d3,ap [B8 0 t1,.int (-1) t2,.int (-1000000000000000000000000000000) t3] 0)::(L'+2,ops)::(L'+1,ow)::T=B1 at *
  have mw:(L'+1,ow)∈B1:=by rw[<- hB];exact aj (aj (.head _))
  have ms:(L'+2,ops)∈B1:=by rw[<- hB];exact aj (.head _)
  obtain⟨u1,u2,u3,u4,I9,hI9,S10⟩:∃ u1 u2 u3 u4 I,I=bc.objs.size/\St (hbR hb ps) tabs L' l6 ((L,oL6)::(I,gV d8 0)::(L'+3,on6)::([]++(d8,ap [.float (Jg 4602678819172646912) u1,.float 4609434218613702656 u2,.int 2 u3,.int (-1) u4] 0)::(X6++B1))) (bc.push (gV d8 0)) :=
   ⟨_,_,_,_,_,rfl,S9.perm p4⟩
  clear S9 S8 S'
  rw[<- hI9]
  let H:Nat->y9->Prop:=λi s=>∃ ps oL on o l' X,bZ o d8 i/\Kp s₁ s/\RS hb L' L l ((d8,ap [.float (Jg 4602678819172646912) u1,.float 4609434218613702656 u2,.int 2 u3,.int (-1) u4] 0)::(X6++B1)) I9 o ps oL on l' X s.heap
  refine l8 (vs:=[.float (Jg 4602678819172646912) u1,.float 4609434218613702656 u2,.int 2 u3,.int (-1) u4]) (d:=d8) H hh ?_ ?_
  ·exact⟨ps,oL6,on6,_,l6,[],⟨rfl,rfl⟩,⟨K6.os,K6.gens⟩,S10,fr6,⟨_,hv6⟩,nm6,tab6.mono λp hp=>aj hp⟩
  rintro i s11 ⟨ps1,oL1,on1,c8,l₁,X1,hat,K11,H1⟩ hi
  refine⟨hbR hb ps1,tabs,L',l₁,(L,oL1)::(L'+3,on1)::(X1++(d8,ap [.float (Jg 4602678819172646912) u1,.float 4609434218613702656 u2,.int 2 u3,.int (-1) u4] 0)::(X6++B1)),c8,0,H1.st.perm (AJ _ _ _),hat,aj (aj (yZ _ (.head _))),λhlt h' o' ho' S' E=>?_,λhfin h' S'=>?_⟩
  ·have num:=mem4 (P:=λv=>∃ b txt,jO v b/\ji v txt) ⟨_,_,q9 rfl (by decide +kernel),kY rfl (by decide +kernel)⟩ ⟨_,_,q9 rfl (by decide +kernel),kY rfl (by decide +kernel)⟩ ⟨_,_,q8 rfl (by decide +kernel),lN rfl (by decide +kernel) (by decide +kernel)⟩ ⟨_,_,q8 rfl (by decide +kernel),lN rfl (by decide +kernel) (by decide +kernel)⟩ (z5 hlt)
   obtain⟨b,txt,C,Rv⟩:=num
   exact turnC (s:=wh s11 h') G B h0 (by show A.depth+1+40<zg;exact dn 19 hd) (by show A.units+_+100<Aw;exact dn 97 hu) hh hfr' hf0 hk0 ⟨S'.perm (AJ _ _ _),H1.fr,H1.cell,H1.nm,H1.tab⟩ (aj (yZ _ mw)) hw0 (aj (yZ _ ms)) hs0 C Rv (λs7 ps7 oL7 on7 l7 X7 K7 H7=>⟨ps7,oL7,on7,o',l7,X7,ho',(kt K11 K7),H7⟩)
  have fr1:=H1.fr
  have tab1:=H1.tab
  refine cP (Ee ?_)
  have S12:=S'.leave 0 rfl fr1
  refine k _ ps1 ⟨K11.os.trans ar.os,λq=>K11.gens (ar.gens q)⟩ tab1.ok (S12.sub ?_)
  rw[<- hB]
  exact .cons _ ((Hi _ ((((((Ag T).cons _).cons _).cons _).trans (Ad _ _)))).trans (Ad _ _))
 ·intro L' p hp
  rcases y7.mp hp with rfl|hp
  ·exact⟨by kernel_rfl,Cp (by decide)⟩
  rcases y7.mp hp with rfl|hp
  ·exact⟨by kernel_rfl,Cp (by decide)⟩
  rw[y6] at hp;subst hp
  exact⟨by kernel_rfl,Cp (by decide)⟩
 ·intro L' p hp
  rcases y7.mp hp with rfl|hp
  ·rfl
  rcases y7.mp hp with rfl|hp
  ·rfl
  rw[y6] at hp;subst hp
  rfl
 ·intro L' x hx
  rcases y7.mp hx with rfl|hx
  ·exact .inr ⟨by kernel_rfl,rfl⟩
  rw[y6] at hx;subst hx
  exact .inr ⟨by kernel_rfl,rfl⟩
end
end
section
open PySem.Spec PySem.SeqAt
structure Scr(hb:AE)(sc:ze)(scv:List Value):Prop where
 obj:Ex2 λo n=>An3 (hb.get? sc=some o) (o.cls=.type "list") (o.data=.seq scv.toArray n)
 nt:sc∉tabs
 isInts:∀ v∈scv,Ex2 λi t=>v=.int i t
 small:scv.length<=63
theorem Scr.isList{hb:AE}{sc:ze}{scv:List Value}(H:Scr hb sc scv){L:ze}{l:LV}{T:LO}{h:AE}(S:St hb tabs L l T h):h.IsList sc scv.toArray:=by
 obtain⟨o,n,a,b,c⟩:=H.obj
 exact⟨o,S.old a H.nt,b,n,c⟩
theorem ints2(a b:Int)(t1 t2:AN):∀ v∈[B8 a t1,.int b t2],Ex2 λi t=>v=B8 i t:=by
 intro v hv
 simp at hv
 rcases hv with rfl|rfl<;> exact⟨_,_,rfl⟩
structure Sw(ws:List (zH×AN))(tk:Nat):Prop where
 lo:∀ p∈ws,776<=p.2/\p.2<tk
 inj:∀ p∈ws,∀ q∈ws,p.2=q.2->p.1=q.1
theorem Sw.nil{tk:Nat}:Sw [] tk:=⟨λp hp=>(nomatch hp),λp hp=>(nomatch hp)⟩
theorem Sw.mono{ws:List (zH×AN)}{tk tk':Nat}(H:Sw ws tk)(h:tk<=tk'):Sw ws tk':=⟨λp hp=>⟨(H.lo p hp).1,zJ (H.lo p hp).2 h⟩,H.inj⟩
theorem Sw.snoc{ws:List (zH×AN)}{tk tk':Nat}(H:Sw ws tk){p:zH×AN}(h7:776<=tk)(h1:tk<=p.2)(h2:p.2<tk'):Sw (ws++[p]) tk':=by
 have key:∀ q∈ws,q.2≠p.2:=λq hq e=>absurd (H.lo q hq).2 (Br.mpr (e▸h1))
 refine⟨λq hq=>?_,λq hq r hr e=>?_⟩
 ·rcases zc.mp hq with h|h
  ·exact⟨(H.lo q h).1,Cw (zJ (H.lo q h).2 h1) h2⟩
  ·rw[y6] at h;subst h;exact⟨zk h7 h1,h2⟩
 ·rcases zc.mp hq with h|h<;> rcases zc.mp hr with h'|h'
  ·exact H.inj q h r h' e
  ·rw[y6] at h';subst h';exact absurd e (key q h)
  ·rw[y6] at h;subst h;exact absurd e.symm (key r h')
  ·rw[y6] at h h';rw[h,h']
theorem Sw.again{ws:List (zH×AN)}{tk:Nat}(H:Sw ws tk){p:zH×AN}(h:p∈ws):Sw (ws++[p]) tk:=by
 refine⟨λq hq=>?_,λq hq r hr e=>?_⟩
 ·rcases zc.mp hq with h'|h'
  ·exact H.lo q h'
  ·rw[y6] at h';subst h';exact H.lo q h
 ·have m:∀ q∈ws++[p],q∈ws:=λq hq=>by
   rcases zc.mp hq with h'|h'
   ·exact h'
   ·rw[y6] at h';subst h';exact h
  exact H.inj q (m q hq) r (m r hr) e
section
variable{sc:ze}{T:LO}
noncomputable abbrev iW:List Cq:=aD (st1 pw 18)
noncomputable abbrev evL(w:Am)(L':ze):ID:=zy (yC w.params) L' 331
theorem vM{d:ze}{Q:VP}{vs:List Value}(hl1:s.heap.IsList sc vs.toArray)(hl2:s.heap.IsList d ([]:List Value).toArray)(hu:A.units<Aw)(h:Q (.bool (decide (vs≠[]))) s):y4 (y0 pw w) A (AF .NotEq (.ref sc) (.ref d)) Q E s:=by
 cases vs with
 | nil =>
  exact mQ (xs:=[]) (ys:=[]) hl1 hl2 hu h
 | cons v r =>
  have:=RcNeAt.lists_lengths (A:=A) (s:=s) hl1 hl2 (by simp) hu
  exact this pw w E Q h
theorem law_a (G:GK w hb) (hd:A.depth+60<zg) (hu:A.units+100<Aw) (hh:A.handled=none) (H:Scr hb sc scv) (htk:776<=s.toks) (S:St hb tabs L' [(yW "script", .ref sc)] T s.heap) {Q:FP}
  (k:∀ (s':y9) (X:LO) (d:ze) (n:Nat) (ws:List (zH×AN)),Kp s s'->776<=s'.toks->Sw ws s'.toks->(∀ p∈ws,Wd p.1 5)->3<=ws.length->ws.length<=6 ->
   St hb tabs L' [(yW "words", .ref d),(yW "script", .ref sc)] ((d,ap (ws.map aM) n)::(X++T)) s'.heap->y4 (y0 pw w) A (zY (iW.drop 1) (evL w L')) Q E s') :
  y4 (y0 pw w) A (zY iW (evL w L')) Q E s:=by
 refine eW (hb:=hb) (tabs:=tabs) (cl:=[]) (env:=evL w L') (l':=λD=>[(yW "words", .ref D),(yW "script", .ref sc)]) hh ?_ rfl rfl (.inl ⟨_,_,rfl⟩) rfl (by decide) rfl (by decide)
 refine wpAny_BinOp (AC htk (zf (Q:=λv s₁=>∃ D X vs n,v=.ref D/\Kp s s₁/\1<=vs.length/\vs.length<=4/\(∀ v∈vs,Ex2 λi t=>v=.int i t)/\St hb tabs L' [(yW "script", .ref sc)] ((D,ap vs n)::(X++T)) s₁.heap) ?_ (λv s₁ h=>?_) λZ Z e Z=>e))
 ·refine IfExp_ (wpAny_isTrue_Compare1 (au (env:=evL w L') S m0 (bF (zn ⟨rfl,_,_,_,_,_,S,?_⟩))))
  refine λD0 h₀ S0=>vM (H.isList S0) ⟨_,S0.obj _ m0,rfl,_,rfl⟩ (dn 100 hu) (y8 ?_)
  by_cases hn:scv=[]
  ·rw[if_neg (by rw[decide_eq_false (λq=>q hn)];exact zN)]
   refine bF (args_cons (wpAny_Constant_int (zn ⟨rfl,_,_,_,_,_,S0,?_⟩)))
   exact λD1 ai ah=>⟨D1,[],[.int 5141 _],_,rfl,⟨rfl,id⟩,zh 1,(by show 1<=4;decide),λv hv=>by rw[y6] at hv;subst hv;exact⟨_,_,rfl⟩,ah.sub (.cons_cons _ (zl _ _))⟩
  ·rw[if_pos (decide_eq_true hn)]
   refine uT (env:=evL w L') G S0 (id := "list") (by kernel_rfl) (args_cons (lK (hb:=hb) (tabs:=tabs) (au (env:=evL w L') S0 m0 (wpAny_Constant_int ⟨_,_,_,sc,4,_,scv,rfl,rfl,S0,H.isList S0,by have:=H.small;exact up 937 this,?_⟩))))
   refine λD1 X1 ai ah=>zn (ss (vs:=scv.take 4) (n:=0) ah (.inl rfl) (ah.obj _ m0) rfl rfl (by rw[Bc];exact y0s) ?_)
   refine λD2 bu am af=>⟨D2,(D1,ap (scv.take 4) 0)::(X1++[(D0,ap ([]:List Value) 0)]),scv.take 4,bu,rfl,⟨rfl,id⟩,?_,(by rw[Bc];exact Nat.min_le_left _ _),λv hv=>H.isInts v (AD hv),?_⟩
   ·rw[Bc]
    have:0<scv.length:=Gi.mpr hn
    exact y0t this
   ·have e:(D1,ap (scv.take 4) 0)::(X1++[(D0,ap ([]:List Value) 0)])++T=(D1,ap (scv.take 4) 0)::(X1++(D0,ap ([]:List Value) 0)::T):=by simp
    rw[e]
    exact af
 obtain⟨D1,X1,vs,g7,rfl,ar,hl1,hl4,hint,ah⟩:=h
 refine λd7=>AC d7 (bF (args_cons (wpAny_Constant_int (args_cons (wpAny_Constant_int (zn ⟨rfl,_,_,_,_,_,by exact ah,?_⟩))))))
 refine λD2 am af ht3=>pX (vs:=vs) (us:=[_,_]) af m1 m0 (by show vs.length+2<=1000;exact y0u hl4) (λD3 ak ae=>⟨_,_,D3,_,0,λi tk acc X=>∃ ws:List (zH×AN),acc=ws.map aM/\ws.length=i/\X=[]/\776<=tk/\Sw ws tk/\∀ p∈ws,Wd p.1 5,⟨rfl,by exact ae,m0,?_,?_,?_,?_⟩,λD=>.new (by kernel_rfl),?_⟩)
 ·rw[zK];simp only[zI,Cf];exact y0v hl4
 ·exact⟨[],rfl,rfl,rfl,ht3,.nil,λp hp=>nomatch hp⟩
 ·rintro i tk tk' acc X h ⟨ws,a,b,c,d,e,f⟩
  exact⟨ws,a,b,c,zk d h,e.mono h,f⟩
 ·rintro C D oL E' i v acc c X own s4 hv hacc ⟨ws,rfl,rfl,rfl,h7,hsw,hwd⟩ r K4 S4
  obtain⟨x,t,rfl⟩:∃ x t,v=.int x t:=by
   have hm:=zm hv
   rcases zc.mp hm with h|h
   ·obtain⟨x,t,e⟩:=hint v h;exact⟨x,t,e⟩
   ·obtain⟨x,t,e⟩:=ints2 _ _ _ _ v h;exact⟨x,t,e⟩
  refine aU (AC (zh s4.toks) (aT (env:=An _ [] C _) S4 (.new (by kernel_rfl)) ?_))
  refine λay S5 e9=>DV (uU (env:=An _ [] C _) G S5 (v:=.ref 293) (by kernel_rfl) (aln (env:=An _ [] C _) S5 m0 ⟨⟨_,_,_,by exact S5⟩,?_⟩))
  refine xn G S5 (dn 50 hd) hh (λs6 y ty K6 S6 hy hy1 hy2=>⟨[],_,(kt K4 K6),by exact S6,ws++[(y,ty)],by rw[zD];rfl,by rw[zK];rfl,rfl,?_,hsw.snoc h7 (zk e9 hy1) hy2,?_⟩)
  ·exact zk h7 (zk e9 (zk hy1 (Af hy2)))
  ·intro p hp
   rcases zc.mp hp with q|q
   ·exact hwd p q
   ·rw[y6] at q;subst q;exact hy
 ·rintro s4 D acc c X K4 S4 el ⟨ws,rfl,hlen,rfl,h7,hsw,hwd⟩
  rw[zK] at hlen
  simp only[zI,Cf] at hlen
  refine k s4 ((D3,_)::(D2,_)::(D1,_)::X1) D c ws (kt ar K4) h7 hsw hwd (y0x hl1 hlen) (y0y hl4 hlen) S4
end
theorem kg(x:zH):aA (x++x)=aA x++aA x:=by
 obtain⟨a⟩:=x
 show ((a++a).toList.map λc=>(⟨#[c]⟩:zH))=(a.toList.map _)++(a.toList.map _)
 rw[EJ,zD]
theorem Wd.twice{y:zH}{n:Nat}(h:Wd y n):Wd (y++y) (n+n):=by
 refine⟨?_,λc hc=>?_⟩
 ·show (y.cps++y.cps).size<=_
  rw[FA];exact Nat.add_le_add h.1 h.1
 ·rw[kg] at hc
  rcases zc.mp hc with q|q<;> exact h.2 c q
theorem Wd.le{y:zH}{n m:Nat}(h:Wd y n)(hm:n<=m):Wd y m:=⟨zk h.1 hm,h.2⟩
section
variable{sc:ze}{T:LO}{n:Nat}{ws:List (zH×AN)}
theorem uh{prog:Bh}{tabs:List ze}{L:ze}{l:LV}{y:zH}{ty:AN}{Q:VP}(hy:y.cps.size<=60)
  (h:∀ (s':y9) (t':AN),Kp s s'->St hb tabs L l T s'.heap->s.toks<=s'.toks->((y++y,t')=(y,ty)\/(s.toks<=t'/\t'<s'.toks))->Q (.str (y++y) t') s') (S:St hb tabs L l T s.heap) :
  y4 (y0 prog w) A (EM .Add (.str y ty) (.str y ty)) Q E s:=by
 refine LL ?_
 by_cases h0:(y.length==0)=true
 ·rw[if_pos h0]
  have hz:y.cps.size=0:=Ap h0
  have e:y++y=y:=by
   obtain⟨a⟩:=y
   obtain rfl:=It.mp hz
   show Str.mk (#[]++#[])=_
   simp
  have:=h s ty Kp.refl S (zh _) (.inl (by rw[e]))
  rw[e] at this
  exact this
 ·rw[if_neg h0,if_neg h0]
  refine⟨?_,h _ _ ⟨rfl,id⟩ S (C2 _) (.inr ⟨zh _,Be _⟩)⟩
  show (y.cps++y.cps).size<=_
  rw[zw,FA]
  exact y1s hy
theorem law_b(G:GK w hb)(hh:A.handled=none)(htk:776<=s.toks)(hsw:Sw ws s.toks)(hwd:∀ p∈ws,Wd p.1 5)(h3:3<=ws.length)(h6:ws.length<=6)
  (S:St hb tabs L' [(yW "words", .ref d),(yW "script", .ref sc)] ((d,ap (ws.map aM) n)::T) s.heap) {Q:FP}
  (k:∀ (s':y9) (X:LO) (d:ze) (n:Nat) (p:zH×AN) (ws:List (zH×AN)),Kp s s'->776<=s'.toks->Sw (p::ws) s'.toks->Wd p.1 5->(∀ p∈ws,Wd p.1 10)->4<=ws.length->ws.length<=7 ->
   St hb tabs L' [(yW "words", .ref d),(yW "script", .ref sc)] ((d,ap ((p::ws).map aM) n)::(X++T)) s'.heap->y4 (y0 pw w) A (zY (iW.drop 2) (evL w L')) Q E s') :
  y4 (y0 pw w) A (zY (iW.drop 1) (evL w L')) Q E s:=by
 obtain⟨p,r,rfl⟩:∃ p r,ws=p::r:=by
  cases ws with
  | nil=>exact absurd h3 (by decide)
  | cons p r=>exact⟨p,r,rfl⟩
 have hp5:=hwd p (.head _)
 have hsz:((p::r).map aM).length<=1000:=by rw[zb];exact up 994 h6
 refine aC (wpAny_BinOp (au (env:=evL w L') S m0 (bF (args_cons (AC htk (AC (zh s.toks) (iF (hb:=hb) (tabs:=tabs) false ?_)))))))
 refine gT Bb (au (env:=evL w L') S m0 (wpAny_Constant_int ⟨⟨_,S.obj _ m0,rfl⟩,?_⟩))
 refine gK (k:=0) (x:=aM p) S m0 hsz rfl (bT (wpAny_Constant_int (dW ⟨⟨aM p,aA p.1⟩,some (1,_),none,L',_,_,rfl,rfl,rfl,rfl,by exact S,.str p.1 p.2 (by have:=hp5.1;exact up 55 this),(by rw[aH];have:=hp5.1;exact y1p this),dE (by show 1<12;decide),(λk hk=>by cases hk),?_⟩)))
 intro y s₁ X1 ar ah hy b8 dz d7 tn1 hts1 ht7
 obtain⟨z,tz,rfl⟩:∃ z tz,y=⟨.str z tz,aA z⟩:=by
  cases hy with
  | str y t h=>exact⟨y,t,rfl⟩
  | tup a ps h1 h2=>cases b8
 have hz:Wd z 5:=by
  have e:aA z=(aA p.1).drop 1:=by
   rw[show aA z=_ from dz];show ((aA p.1).take (aA p.1).length).drop 1=_
   rw[zX]
  refine⟨?_,λc hc=>hp5.2 c (Jd (e▸hc))⟩
  rw[<- aH,e,EF,aH];have:=hp5.1;exact y1q this
 have hsw1:Sw ((p::r)++[(z,tz)]) s₁.toks:=by
  rcases tn1 with q|q|⟨z',t',q,h1,h2⟩
  ·injection q with e1 e2
   have:(z,tz)=p:=Kn e1 e2
   rw[this]
   exact (hsw.mono hts1).again (.head _)
  ·cases q
  ·injection q with e1 e2
   subst e2
   exact hsw.snoc htk (by simp only at h1;exact z3m h1) h2
 refine args_cons (wpAny_BinOp (gT Bb (au (env:=evL w L') ah m0 (wpAny_Constant_int ⟨⟨_,ah.obj _ (yZ _ m0),rfl⟩,?_⟩))))
 refine gK (k:=0) (x:=aM p) ah (yZ _ m0) hsz rfl (gT Bb (au (env:=evL w L') ah m0 (wpAny_Constant_int ⟨⟨_,ah.obj _ (yZ _ m0),rfl⟩,?_⟩)))
 refine gK (k:=0) (x:=aM p) ah (yZ _ m0) hsz rfl (uh (hb:=hb) (tabs:=tabs) (L:=L') (by have:=hp5.1;exact up 55 this) ?_ ah)
 intro ag tq ao af cg hq2
 have hsw2:Sw ((p::r)++[(z,tz)]++[(p.1++p.1,tq)]) ag.toks:=by
  have hle:s₁.toks<=ag.toks:=by simp only at cg;exact z3m cg
  rcases hq2 with q|⟨h1,h2⟩
  ·rw[q];exact (hsw1.mono hle).again (.head _)
  ·exact hsw1.snoc ht7 (by simp only at h1;exact z3m h1) h2
 have hle2:s₁.toks<=ag.toks:=by simp only at cg;exact z3m cg
 refine zn ⟨rfl,_,_,_,_,_,by exact af,?_⟩
 refine λD3 ak ae=>pX ae (aj (yZ _ m0)) m0 (by rw[zb];show (p::r).length+2<=1000;exact y1t h6) (λD4 aw S4=>aT (env:=evL w L') S4 (.old .here) ?_)
 intro ay S5
 have e:((p::r).map aM)++[.str z tz,.str (p.1++p.1) tq]=(p::(r++[(z,tz),(p.1++p.1,tq)])).map aM:=by simp
 rw[e] at S5
 have hl:(r++[(z,tz),(p.1++p.1,tq)]).length=r.length+2:=by rw[zK];rfl
 simp only[zI] at h3 h6
 refine k _ ((D3,ap [.str z tz,.str (p.1++p.1) tq] 0)::(X1++[(d,ap ((p::r).map aM) n)])) D4 0 p (r++[(z,tz),(p.1++p.1,tq)]) ⟨ao.os.trans ar.os,λq=>ao.gens (ar.gens q)⟩ ?_ ?_ hp5 (λq hq=>?_) (by rw[hl];exact C4 h3) (by rw[hl];exact C4 h6) ?_
 ·show 776<=ag.toks+1;exact y1w htk d7 cg
 ·have:=hsw2.mono (C2 ag.toks)
  have e2:p::r++[(z,tz)]++[(p.1++p.1,tq)]=p::(r++[(z,tz),(p.1++p.1,tq)]):=by simp
  rw[e2] at this
  exact this
 ·rcases zc.mp hq with h|h
  ·exact (hwd q (aj h)).le (by decide)
  ·rcases y7.mp h with rfl|h
   ·exact hz.le (by decide)
   ·rw[y6] at h;subst h
    exact hp5.twice
 ·have e3:((D3,ap [.str z tz,.str (p.1++p.1) tq] 0)::(X1++[(d,ap ((p::r).map aM) n)]))++T=(D3,ap [.str z tz,.str (p.1++p.1) tq] 0)::(X1++(d,ap ((p::r).map aM) n)::T):=by simp
  rw[e3]
  exact S5
end
theorem qg:Dm Hb "proto.is" = some At.«proto.is»:=BX (by kernel_rfl)
theorem qf:FO "proto.is" = true:=by decide +kernel
theorem pH{Q:BP}{y z:zH}{u v:AN}(NB:B4 s.heap)(hu:u≠0)(hv:v≠0)(ht:u=v->y=z)(h:∀ c:Bool,(c=true->y=z)->Q c s):y4 (y0 prog w) A (isSame (.str y u) (.str z v)) Q E s:=by
 have h0:(u==0 || v==0)=false:=by rw[beq_eq_false_iff_ne.mpr hu,beq_eq_false_iff_ne.mpr hv];rfl
 refine zx h0 ?_
 by_cases huv:u=v
 ·refine Bm (beq_iff_eq.mpr huv) (yY (h true λZ=>ht huv))
 ·refine zx (beq_eq_false_iff_ne.mpr huv) ?_
  by_cases hyz:y=z
  ·refine zx (by rw[beq_iff_eq.mpr hyz];rfl) (yX (BZ NB ?_))
   refine zx rfl (yX (BZ NB ?_))
   refine zx rfl (yX (AP ?_))
   refine yX (BW ?_)
   exact yY (h _ λZ=>hyz)
  ·refine Bm (by rw[beq_eq_false_iff_ne.mpr hyz];rfl) (yY (h false λq=>by cases q))
noncomputable def siF(x:Value×Value)(_:Option Bool×Unit):Lz (ForInStep (Option Bool×Unit)):=do
 match <- runValue (Code.builtin "proto.is" { pos:=[x.1,x.2] }) with
 | FI true=>do
  let w:=(<- ask).params
  if (!joinedAsOfOld w x.1 x.2)=true then Au (Jh (some false,()))
  else do
   if (!(<- Ji w x.1 x.2))=true then Au (Jh (some false,()))
   else Au (Ix (none,()))
 | _=>Au (Jh (some false,()))
theorem oE(NB:B4 s.heap):∀ {ps qs:List (zH×AN)}{Q:Option Bool×Unit->y9->Prop},ps.length=qs.length->(∀ p∈ps,p.2≠0)->(∀ q∈qs,q.2≠0)->(∀ p∈ps,∀ q∈qs,p.2=q.2->p.1=q.1) ->
  Q (some false,()) s->(ps.map (·.1)=qs.map (·.1)->Q (none,()) s)->y4 (y0 prog w) A (Dp ((ps.map aM).zip (qs.map aM)) (none,()) siF) Q E s:=by
 intro ps
 induction ps with
 | nil =>
  intro qs Q hl Z Z Z Z h1
  cases qs with
  | nil =>
   show y4 _ _ (Dp [] _ _) _ _ _
   rw[Em]
   exact yY (h1 rfl)
  | cons q qs=>cases hl
 | cons p ps ih =>
  intro qs Q hl hp hq hpq h0 h1
  cases qs with
  | nil=>cases hl
  | cons q qs =>
   show y4 _ _ (Dp ((aM p,aM q)::(ps.map aM).zip (qs.map aM)) _ _) _ _ _
   rw[Ax]
   refine yX (yX (GY (z8 qg ?_)))
   rw[BQ qf _]
   refine yX (pH NB (hp p (.head _)) (hq q (.head _)) (hpq p (.head _) q (.head _)) λc hc=>?_)
   refine yY ?_
   cases c with
   | false=>exact yY (yY h0)
   | true =>
    refine yX (BW ?_)
    refine aQ (by show ¬ ((!true)=true);decide) (yX (m:=Ji _ _ _) (yY ?_))
    refine aQ (by decide) (yY (ih (Nat.succ.inj hl) (λp hp'=>hp p (aj hp')) (λq hq'=>hq q (aj hq')) (λp hp' q hq'=>hpq p (aj hp') q (aj hq')) h0 λe=>h1 ?_))
    rw[Ay,Ay,e,hc rfl]
theorem same_items{ps qs:List (zH×AN)}{Q:BP}(NB:B4 s.heap)(hp:∀ p∈ps,p.2≠0)(hq:∀ q∈qs,q.2≠0)(hpq:∀ p∈ps,∀ q∈qs,p.2=q.2->p.1=q.1)(h:∀ c:Bool,(c=true->ps.map (·.1)=qs.map (·.1))->Q c s) :
  y4 (y0 prog w) A (sameItems (ps.map aM).toArray (qs.map aM).toArray) Q E s:=by
 by_cases hl:ps.length=qs.length
 ·exact aQ (by simp[hl]) (yX (oE NB hl hp hq hpq (yY (h false λq=>by cases q)) λe=>yY (h true λZ=>e)))
 ·exact bX (by simpa using hl) (yY (h false λq=>by cases q))
theorem l3{a b:ze}{ps qs:List (zH×AN)}{T₀:LO}(ha:(a,aG (ps.map aM))∈T₀)(hb:(b,aG (qs.map aM))∈T₀)(hp:∀ p∈ps,p.2≠0)(hq:∀ q∈qs,q.2≠0)(hpq:∀ p∈ps,∀ q∈qs,p.2=q.2->p.1=q.1) :
  aP w T₀ (.ref a) (.ref b) (cts ps=cts qs):=by
 intro A E s Q NB hT h
 have h1:=hT _ ha
 have h2:=hT _ hb
 refine yX ?_
 by_cases e:a=b
 ·refine bX (by simpa using e) (yY (yY (h true λZ=>?_)))
  subst e
  have h1':s.heap.get? a=some (aG (ps.map aM)):=h1
  have h2':s.heap.get? a=some (aG (qs.map aM)):=h2
  rw[h1'] at h2'
  have e3:(ps.map aM).toArray=(qs.map aM).toArray:=by
   injection h2' with e1
   injection e1 with _ _ e2 _
   injection e2
  have e4:ps.map aM=qs.map aM:=by simpa using e3
  have e5:ps=qs:=DN (f:=aM) (λp q e=>by injection e with e1 e2;exact Kn e1 e2) |>.mp e4
  rw[e5]
 ·refine aQ (by simpa using e) (yX (Dr h1 (yX (Dr h2 ?_))))
  by_cases he:((ps.map aM).toArray.isEmpty&&(qs.map aM).toArray.isEmpty)=true
  ·refine bX he (yX (AP (yY (yY (h true λZ=>?_)))))
   simp at he
   rw[he.1,he.2]
  ·refine aQ he (yX (BW ?_))
   dsimp only
   split
   ·exact yY (yY (h false λq=>by cases q))
   split
   ·exact yY (yY (h false λq=>by cases q))
   refine yX (zp (same_items NB hp hq hpq λc hc=>?_))
   cases c with
   | true =>
    exact bX rfl (yX (AP (yY (yY (h true λZ=>hc rfl)))))
   | false =>
    exact aQ zN (yY (yY (h false λq=>by cases q)))
theorem gq{a:ze}{y:zH}{t:AN}{T₀:LO}{C:Prop}:aP w T₀ (.ref a) (.str y t) C:=by
 intro A E s Q NB hT h
 exact yX (yY (yY (h false λq=>by cases q)))
noncomputable abbrev xj (vs:List Value) (c:Nat):AO:={ cls:=.type "list", dict:=none,data:=.seq vs.toArray c,slots:=#[] }
noncomputable abbrev lw(x:zH)(t:Nat):List (zH×AN):=(aA x).zipIdx t
theorem tK{R:Cg->y9->Prop}{x:zH}{t:AN}{S I:ze}{res:Value}{t0:Nat}{h₀:AE}(hh:A.handled=none)(hSI:S≠I)(hn:x.cps.size<=DU)
  (hR:∀ h' c,(∀ b o,b≠S->b≠I->h₀.get? b=some o->h'.get? b=some o)->h'.get? S=some (xj ((lw x t0).map aM) c)->R (.ok (.ret res)) (wht s h' (t0+x.cps.size))) :
  ∀ (k i:Nat) (h:AE) (c:Nat),x.cps.size - i=k->i<=x.cps.size->h.IsStrIter I "str_ascii_iterator" x t i->h.get? S=some (xj (((lw x t0).take i).map aM) c)->(∀ b o,b≠S->b≠I->h₀.get? b=some o->h.get? b=some o) ->
   zS (y0 prog w) A (.builtin "list.extend.loop" ⟨[.ref S,.ref I,res],[]⟩) R (wht s h (t0+i)):=by
 have hlen:(lw x t0).length=x.cps.size:=by simp[aA]
 intro k
 induction k with
 | zero =>
  intro i h c hk hi hit hS hk0
  have hin:i=x.cps.size:=z94 hk hi
  subst hin
  refine z8 DK ?_
  rw[BQ Cm _]
  refine yX (m:=De (.ref I)) (wpAny_pyNext_ascii_end (A:=A.in1) hh hit (by simp) λh' he=>?_)
  refine yY (hR h' c (λb o h1 h2 e=>he b o h2 (hk0 b o h1 h2 e)) ?_)
  rw[<- hlen,zX] at hS
  exact he S _ hSI hS
 | succ k ih =>
  intro i h c hk hi hit hS hk0
  have hlt:i<x.cps.size:=z96 hk
  refine z8 DK ?_
  rw[BQ Cm _]
  refine yX (m:=De (.ref I)) (wpAny_pyNext_ascii_item hit (c:=x.cps[i]) (by simp[hlt]) λh' hit' hs'=>?_)
  have hS':h'.get? S=some (xj (((lw x t0).take i).map aM) c):=(hs'.2 S hSI).trans hS
  refine yX (m:=Jn S (·.push (.str ⟨#[x.cps[i]]⟩ (t0+i)))) ?_
  have hlt':i<(lw x t0).length:=by rw[hlen];exact hlt
  have hsz:(((lw x t0).take i).map aM).toArray.size=i:=by simp[aA];exact y4u hi
  have e1:(((lw x t0).take i).map aM).toArray.push (.str ⟨#[x.cps[i]]⟩ (t0+i))=(((lw x t0).take (i+1)).map aM).toArray:=by
   rw[Ah,zj hlt',GS,zD]
   have:(lw x t0)[i]=(⟨#[x.cps[i]]⟩,t0+i):=by simp[lw,aA]
   rw[this]
   apply ED.mp
   simp
  refine BD hS' rfl (yY ⟨Ao Cm _,?_⟩) (by rw[hsz];exact y6h hn hlt) (by show (Array.push _ _).size<=DU+1;rw[EX,hsz];exact y6i hn hlt)
  have hu:=zq (zO λxs=>xs.push (.str ⟨#[x.cps[i]]⟩ (t0+i))) hS' rfl
  obtain⟨c',e2⟩:∃ c',zO (λxs=>xs.push (.str ⟨#[x.cps[i]]⟩ (t0+i))) (xj (((lw x t0).take i).map aM) c) = { xj [] 0 with data:=.seq ((((lw x t0).take i).map aM).toArray.push (.str ⟨#[x.cps[i]]⟩ (t0+i))) c' }:=⟨_,rfl⟩
  refine ih (i+1) _ c' (z9a hk) hlt ?_ ?_ ?_
  ·obtain⟨o,a,b,d⟩:=hit'
   exact⟨o,(Fy _ _ hSI).trans a,b,d⟩
  ·rw[hu]
   rw[e2,e1]
  ·exact λb o h1 h2 e=>(Fy _ _ (Jo h1)).trans ((hs'.2 b h2).trans (hk0 b o h1 h2 e))
theorem ly{Q:LP}(hh:A.handled=none)(x:zH)(t:AN)(ha:x.cps.all (· < 128)=true)(hn:x.cps.size<=DU)
  (hQ:∀ h',(∀ b o,s.heap.get? b=some o->h'.get? b=some o)->Q ((lw x s.toks).map aM) (wht s h' (s.toks+x.cps.size))) :
  y4 (y0 prog w) A (collect (.str x t)) Q E s:=by
 refine yX (GY (z8 PySem.F.entry_proto_collect ?_))
 show y4 _ A.in1 (newList []>>=λl=>again (.builtin "list.__iadd__" ⟨[l,.str x t],[]⟩)) _ _ s
 refine yX (Aa ?_)
 refine yY ⟨Ao HP _,z8 PySem.F.entry_list_iadd ?_⟩
 show y4 _ A.in1 (Go (.ref s.heap.objs.size) (.str x t) (.ref s.heap.objs.size)) _ _ _
 refine yX (Dn (T := "str") (v:=.str x t) rfl ?_)
 refine yX (wpAny_pyIter_ascii ha ?_)
 refine yX (zp ?_)
 refine yX (BS (T := "str") (v:=.str x t) rfl PySem.F.str_len ?_)
 wp_delta
 refine yX (AL (T := "str") (v:=.str x t) (b:=true) rfl (by rw[AZ];kernel_rfl) ?_)
 refine yX (m:=C6 (Value.str x t)) (Dn (T := "str") (v:=.str x t) rfl ?_)
 refine yY (aQ (by decide) ?_)
 generalize hH:s.heap.push { cls:=.type "list", data:=.seq ([]:List Value).toArray } = H
 have hHs:H.objs.size=s.heap.objs.size+1:=by rw[<- hH,GL]
 have hS:(H.push { cls:=.type "str_ascii_iterator", data:=.fields #[.str x t,.int 0 0] }).get? s.heap.objs.size=some (xj [] 0):=zz _ (hH▸zQ _ rfl)
 have hSI:s.heap.objs.size≠H.objs.size:=by rw[hHs];exact Ab (Be _)
 have hkp:∀ b o,s.heap.get? b=some o->b≠s.heap.objs.size/\b≠H.objs.size/\(H.push { cls:=.type "str_ascii_iterator", data:=.fields #[.str x t,.int 0 0] }).get? b=some o:=λb o e=>by
  have hlt:=AH e
  exact⟨Ab hlt,by rw[hHs];exact Ab (Fq hlt),zz _ (hH▸zz _ e)⟩
 refine yY ⟨Ao Cm _,tK (t:=t) (t0:=s.toks) (h₀:=H.push { cls:=.type "str_ascii_iterator", data:=.fields #[.str x t,.int 0 0] }) (A:=A) hh hSI hn (λh' c hk hS'=>?_) x.cps.size 0 _ 0 rfl (zA _) ⟨_,zQ _ rfl,rfl,rfl⟩ hS (λZ Z Z Z e=>e)⟩
 refine yX (m:=load s.heap.objs.size) (Dr hS' ?_)
 exact yY (hQ h' λb o e=>let ⟨a,b',c⟩:=hkp b o e;hk b o a b' c)
theorem gU(x:zH)(t:AN)(ha:x.cps.all (· < 128)=true)(hn:x.cps.size<=DU) :
  Meets (At.«tuple.__new__» ⟨[.type "tuple", .str x t],[]⟩)
   (λA R s=>A.handled=none/\∀ (h':AE),(∀ b o,s.heap.get? b=some o->h'.get? b=some o) ->
    R (.ok (.ret (.ref h'.objs.size))) (wht s (h'.push { cls:=.type "tuple", data:=.seq ((lw x s.toks).map aM).toArray }) (s.toks+x.cps.size))) :=
 .of_wp λprog w A R s h=>by
  obtain⟨hh,h⟩:=h
  have hsub:=sub_tuple_self
  have hinit:=init_tuple_lookup
  have hmh:=madeHere_tuple
  have hT:s.TypeIs (.str x t) "str" := rfl
  have hh1:A.in1.handled=none:=hh
  have hlen:(lw x s.toks).length=x.cps.size:=by simp[aA]
  wp_walk using Dn hT,ly hh1 x t ha hn
  intro h' hk
  show y4 _ _ (MN ((lw x s.toks).map aM).toArray>>=λv=>ret v) _ _ _
  refine yX (Aa ?_ (show ((lw x s.toks).map aM).toArray.size<=DU by rw[zd,zb,hlen];exact hn))
  exact yY ⟨_,rfl,h h' hk⟩
theorem jf{Q:VP}(hh:A.handled=none)(x:zH)(t:AN)(ha:x.cps.all (· < 128)=true)(hn:x.cps.size<=DU)
  (h:∀ h':AE,(∀ b o,s.heap.get? b=some o->h'.get? b=some o)->Q (.ref h'.objs.size) (wht s (h'.push { cls:=.type "tuple", data:=.seq ((lw x s.toks).map aM).toArray }) (s.toks+x.cps.size))) :
  y4 (y0 prog w) A (call (.type "tuple") [.str x t]) Q E s :=
 H9 F.called_tuple (by decide) (F.typeCall_tuple_1 _) (F.newCall_tuple_1 _) (λobj=>I4 obj _) Kc
  (gU x t ha hn) ⟨hh,λh' hk=>⟨⟨_,zQ _ rfl,rfl⟩,h h' hk⟩⟩
structure Wl(w:Am)(T:LO)(xs:List WX):Prop where
 wt:∀ x∈xs,WT T x
 kind:∀ x∈xs,∀ y∈xs,isR x.v=isR y.v
 len:∀ x∈xs,x.c.length<=10
 abc:∀ x∈xs,∀ c∈x.c,Abc c
 told0:∀ x∈xs,aP w T x.v (.str (yW "") 540) (x.c=[])
 told1:∀ x∈xs,aP w T x.v (.str (yW "") 539) (x.c=[])
 told:∀ x∈xs,∀ y∈xs,aP w T x.v y.v (x.c=y.c)
theorem Wl.mono{w:Am}{T T':LO}{xs:List WX}(H:Wl w T xs)(h:∀ p∈T,p∈T'):Wl w T' xs :=
 ⟨λx hx=>(H.wt x hx).mono h,H.kind,H.len,H.abc,λx hx=>aP.mono (H.told0 x hx) h,λx hx=>aP.mono (H.told1 x hx) h,λx hx y hy=>aP.mono (H.told x hx y hy) h⟩
theorem Wl.ws{w:Am}{hb:AE}{T:LO}{x:WX}{r:List WX}(H:Wl w T (x::r))(h5:x.c.length<=5)(hc:r.length<12):Ws w hb T x r :=
 ⟨H.wt x (.head _),λp hp=>H.wt p (aj hp),λp hp=>H.kind p (aj hp) x (.head _),h5,λp hp=>H.len p (aj hp),H.abc,hc,H.told0 x (.head _),λy hy p hp=>by
  rcases y7.mp hp with rfl|hp
  ·exact H.told1 y (aj hy)
  ·exact H.told y (aj hy) p (aj hp)⟩
noncomputable abbrev sX(p:zH×AN):WX:=⟨.str p.1 p.2,aA p.1⟩
noncomputable abbrev tX(q:ze×List (zH×AN)):WX:=⟨.ref q.1,cts q.2⟩
theorem u5{w:Am}{T:LO}{ws:List (zH×AN)}{tk:Nat}(H:Sw ws tk)(h:∀ p∈ws,Wd p.1 10):Wl w T (ws.map sX):=by
 have m:∀ x∈ws.map sX,∃ p∈ws,x=sX p:=λx hx=>(za.mp hx).imp λZ z=>⟨z.1,z.2.symm⟩
 have t0:∀ (y:zH) (t u:AN) (z:zH),t≠u->0<u->0<t->aA z=[]->aP w T (.str y t) (.str z u) (aA y=[]):=λy t u z hne hu ht hz =>
  aP.imp (jH (Cc ht) (Cc hu) λe=>absurd e hne) λe=>e▸hz
 refine⟨λx hx=>?_,λx hx y hy=>?_,λx hx=>?_,λx hx=>?_,λx hx=>?_,λx hx=>?_,λx hx y hy=>?_⟩
 ·obtain⟨p,hp,rfl⟩:=m x hx
  exact .str _ _ (zk (h p hp).1 (by decide))
 ·obtain⟨p,hp,rfl⟩:=m x hx
  obtain⟨q,hq,rfl⟩:=m y hy
  rfl
 ·obtain⟨p,hp,rfl⟩:=m x hx
  rw[aH];exact (h p hp).1
 ·obtain⟨p,hp,rfl⟩:=m x hx
  exact (h p hp).2
 ·obtain⟨p,hp,rfl⟩:=m x hx
  have:=(H.lo p hp).1
  exact λA E s Q nb hT k=>t0 p.1 p.2 540 (yW "") (y20 this) (by decide) (y21 this) rfl nb hT k
 ·obtain⟨p,hp,rfl⟩:=m x hx
  have:=(H.lo p hp).1
  exact λA E s Q nb hT k=>t0 p.1 p.2 539 (yW "") (y22 this) (by decide) (y21 this) rfl nb hT k
 ·obtain⟨p,hp,rfl⟩:=m x hx
  obtain⟨q,hq,rfl⟩:=m y hy
  have h1:=(H.lo p hp).1
  have h2:=(H.lo q hq).1
  exact λA E s Q nb hT k=>jH (T₀:=T) (y1z h1) (y1z h2) (H.inj p hp q hq) nb hT λc hc=>k c λe=>by show aA p.1=aA q.1;rw[hc e]
theorem u0{w:Am}{T:LO}{pss:List (ze×List (zH×AN))}{tk:Nat}(hT:∀ q∈pss,(q.1,aG (q.2.map aM))∈T)(H:Sw (pss.flatMap (·.2)) tk)(h:∀ q∈pss,q.2.length<=10/\∀ c∈cts q.2,Abc c):Wl w T (pss.map tX):=by
 have m:∀ x∈pss.map tX,∃ p∈pss,x=tX p:=λx hx=>(za.mp hx).imp λZ z=>⟨z.1,z.2.symm⟩
 have f:∀ q∈pss,∀ p∈q.2,p∈pss.flatMap (·.2):=λq hq p hp=>BU.mpr ⟨q,hq,hp⟩
 have nz:∀ q∈pss,∀ p∈q.2,p.2≠0:=λq hq p hp=>by have:=(H.lo p (f q hq p hp)).1;exact y1z this
 refine⟨λx hx=>?_,λx hx y hy=>?_,λx hx=>?_,λx hx=>?_,λx hx=>?_,λx hx=>?_,λx hx y hy=>?_⟩
 ·obtain⟨p,hp,rfl⟩:=m x hx
  exact .tup _ _ (hT p hp) (zk (h p hp).1 (by decide))
 ·obtain⟨p,hp,rfl⟩:=m x hx
  obtain⟨q,hq,rfl⟩:=m y hy
  rfl
 ·obtain⟨p,hp,rfl⟩:=m x hx
  simpa using (h p hp).1
 ·obtain⟨p,hp,rfl⟩:=m x hx
  exact (h p hp).2
 ·obtain⟨p,hp,rfl⟩:=m x hx
  exact gq
 ·obtain⟨p,hp,rfl⟩:=m x hx
  exact gq
 ·obtain⟨p,hp,rfl⟩:=m x hx
  obtain⟨q,hq,rfl⟩:=m y hy
  exact l3 (hT p hp) (hT q hq) (nz p hp) (nz q hq) λa ha b hb=>H.inj a (f p hp a ha) b (f q hq b hb)
theorem Sw.zip:∀ (l:List zH) {ls:List (zH×AN)}{t tk:Nat},Sw ls tk->776<=tk->tk<=t->Sw (ls++l.zipIdx t) (t+l.length):=by
 intro l
 induction l with
 | nil =>
  intro ls t tk H h7 ht
  rw[List.zipIdx_nil,Al];exact H.mono ht
 | cons a l ih =>
  intro ls t tk H h7 ht
  have:=ih (H.snoc (p:=(a,t)) h7 ht (Be t)) (y1x h7 ht) (zh _)
  rw[List.zipIdx_cons,zI]
  rw[zu] at this
  rw[show t+(l.length+1)=t+1+l.length by exact z2i]
  exact this
theorem lB{y:zH}{n:Nat}(h:Wd y n):y.cps.all (· < 128)=true:=by
 rw[Array.all_eq_true]
 intro i hi
 have hm:(⟨#[y.cps[i]]⟩:zH)∈aA y:=za.mpr ⟨y.cps[i],by simp,rfl⟩
 have:=h.2 _ hm
 have hA:LA=⟨#[97]⟩:=by decide +kernel
 have hB:LB=⟨#[98]⟩:=by decide +kernel
 have hC:LC=⟨#[99]⟩:=by decide +kernel
 unfold Abc at this
 have key:∀ k:Nat,(⟨#[y.cps[i]]⟩:zH)=⟨#[k]⟩->y.cps[i]=k:=λk e=>by
  have:=congrArg (λs:zH=>s.cps.toList) e
  simpa using this
 rcases this with e|e|e<;> rw[key _ e]<;> rfl
section
variable{sc:ze}{T:LO}{n:Nat}{ws:List (zH×AN)}{p:zH×AN}
theorem law_c(G:GK w hb)(hh:A.handled=none)(H:Scr hb sc scv)(htk:776<=s.toks)(hsw:Sw (p::ws) s.toks)(hp5:Wd p.1 5)(hwd:∀ p∈ws,Wd p.1 10)(h3:4<=ws.length)(h6:ws.length<=7)
  (S:St hb tabs L' [(yW "words", .ref d),(yW "script", .ref sc)] ((d,ap ((p::ws).map aM) n)::T) s.heap) {Q:FP}
  (k:∀ (s':y9) (X:LO) (d:ze) (n:Nat) (x:WX) (xs:List WX),Kp s s'->776<=s'.toks->Wl w X (x::xs)->x.c.length<=5->4<=xs.length->xs.length<=7 ->
   St hb tabs L' [(yW "words", .ref d),(yW "script", .ref sc)] ((d,ap ((x::xs).map WX.v) n)::(X++T)) s'.heap->y4 (y0 pw w) A (zY (iW.drop 3) (evL w L')) Q E s') :
  y4 (y0 pw w) A (zY (iW.drop 2) (evL w L')) Q E s:=by
 have hall:∀ q∈p::ws,Wd q.1 10:=λq hq=>by
  rcases y7.mp hq with rfl|hq
  ·exact hp5.le (by decide)
  ·exact hwd q hq
 refine dA (wpAny_BinOp (oM (env:=evL w L') G S B0 (aln (env:=evL w L') S m1 (B9 (items:=scv.toArray) (H.isList S) (by have:=H.small;rw[zd];lia) (wpAny_Constant_int (iQ (m:=2) (by decide) rfl ?_))))))
 refine λm hm=>wpAny_Constant_int (eq_int (y8 ⟨λZ=>?_,λZ=>?_⟩))
 ·refine eW (hb:=hb) (tabs:=tabs) (cl:=[]) (env:=evL w L') (l':=λD=>[(yW "words", .ref D),(yW "script", .ref sc)]) hh ?_ rfl rfl (.inl ⟨_,_,rfl⟩) rfl (by decide) rfl (by decide)
  refine au (env:=evL w L') S m0 ⟨_,_,d,(p::ws).map aM,n,λi tk acc X=>∃ pss:List (ze×List (zH×AN)),acc=(pss.map tX).map WX.v/\pss.length=i/\(∀ q∈pss,(q.1,aG (q.2.map aM))∈X)/\pss.map (λq=>cts q.2)=((p::ws).take i).map (λq=>aA q.1)/\776<=tk/\Sw (pss.flatMap (·.2)) tk,⟨rfl,by exact S,m0,?_,?_,?_,?_⟩,λD=>.old .here,?_⟩
  ·rw[zb,zI];exact y25 h6
  ·refine⟨[],rfl,rfl,(λq hq=>by cases hq),rfl,?_,.nil⟩
   simp only;exact y26 htk
  ·rintro i tk tk' acc X h ⟨pss,a,b,c,d,e,f⟩
   exact⟨pss,a,b,c,d,zk e h,f.mono h⟩
  ·rintro C D oL E' i v acc c X own s4 hv hacc ⟨pss,rfl,rfl,hX,hc,h7,hsw'⟩ r K4 S4
   rw[zB] at hv
   obtain⟨q,hq,rfl⟩:=zW.mp hv
   have hqw:=hall q (zm hq)
   refine rA (env:=An _ [] C _) S4 (.new (by kernel_rfl)) (λay S5=>DV (uT (env:=An _ [] C _) G S5 (id := "tuple") (by kernel_rfl) (aln (env:=An _ [] C _) S5 m0 (jf hh q.1 q.2 (lB hqw) (by have:=hqw.1;rw[zw];exact up 16777206 this) ?_))))
   intro az hk6
   have S6:=(S5.grown hk6).push (aG ((lw q.1 (s4.toks+1)).map aM))
   have hlen:(aA q.1).length=q.1.cps.size:=aH _
   have hz:=Sw.zip (aA q.1) (t:=s4.toks+1) hsw' h7 (C2 _)
   refine⟨(az.objs.size,aG ((lw q.1 (s4.toks+1)).map aM))::X,_,⟨K4.os,K4.gens⟩,S6.perm (AJ _ _ _),pss++[(az.objs.size,lw q.1 (s4.toks+1))],?_,by rw[zK];rfl,?_,?_,?_,?_⟩
   ·rw[zD,zD];rfl
   ·intro u hu
    rcases zc.mp hu with h|h
    ·exact aj (hX u h)
    ·rw[y6] at h;subst h;exact .head _
   ·rw[zD,hc,Ah,hq,GS,zD]
    simp[List.zipIdx_map_fst]
   ·show 776<=s4.toks+1+q.1.cps.size;exact y28 h7
   ·rw[List.flatMap_append,List.flatMap_singleton]
    rw[hlen] at hz
    exact hz
  ·rintro s4 D acc c X K4 S4 el ⟨pss,rfl,hlen,hX,hc,h7,hsw'⟩
   rw[zb] at hlen
   rw[zb,zX] at hc
   have hwl:Wl w X (pss.map tX):=u0 hX hsw' λq hq=>by
    have hm:cts q.2∈pss.map λq=>cts q.2:=za.mpr ⟨q,hq,rfl⟩
    rw[hc] at hm
    obtain⟨r,hr,e⟩:=za.mp hm
    have hw:=hall r hr
    refine⟨?_,λc hcm=>hw.2 c (e▸hcm)⟩
    have:(cts q.2).length=q.2.length:=by simp
    rw[<- this,<- e,aH];exact hw.1
   obtain⟨q,pr,rfl⟩:∃ q pr,pss=q::pr:=by
    cases pss with
    | nil=>cases hlen
    | cons q pr=>exact⟨q,pr,rfl⟩
   rw[Ay,Ay] at hc
   injection hc with hc1 hc2
   rw[zI,zI] at hlen
   refine aF (k s4 (X++[(d,ap ((p::ws).map aM) n)]) D c (tX q) (pr.map tX) ⟨K4.os,K4.gens⟩ h7 (hwl.mono λp hp=>y5 _ hp) ?_ (by rw[zb];exact y29 h3 hlen) (by rw[zb];exact y2a h6 hlen) ?_)
   ·show (cts q.2).length<=5
    rw[hc1,aH];exact hp5.1
   ·rw[zu];exact S4
 ·refine aF (k _ [] d n (sX p) (ws.map sX) ⟨rfl,id⟩ ?_ ((u5 (w:=w) hsw hall).mono λp hp=>hp) ?_ (by rw[zb];exact h3) (by rw[zb];exact h6) ?_)
  ·simp only;exact y2b htk
  ·show (aA p.1).length<=5
   rw[aH];exact hp5.1
  ·have e:(sX p::ws.map sX).map WX.v=(p::ws).map aM:=by simp
   rw[e]
   exact S
end
section
variable{tabs:List ze}
theorem nU{Q:VP}{value e:Expr}{p pos:Ef}
  (h:y4 (y0 prog w) A (Aq value env) (λo s₁=>y4 (y0 prog w) A (Aq e env) (λvu ag=>Ex8 λL l T d vs n b tb=>An6 (o=.ref d) (vu=.int ((b:Nat):Int) tb) (St hb tabs L l T ag.heap) ((d,ap vs n)∈T) (vs.length<=1000) (∀ D X h',St hb tabs L l ((D,ap (vs.drop b) 0)::(X++T)) h'->Q (.ref D) (wh ag h'))) E s₁) E s) :
  y4 (y0 prog w) A (Aq (.Subscript value (.Slice (some e) none none p) pos) env) Q E s:=by
 refine cF (zf h (λo s₁ ai=>?_) λZ Z e=>e)
 refine FW ?_
 rw[Hz]
 refine zf ai (λvu ag am=>?_) λZ Z e=>e
 rw[DZ]
 refine yY (yY ?_)
 obtain⟨L,l,T,d,vs,n,b,tb,rfl,rfl,S,hm,hz,hQ⟩:=am
 have hl:ag.heap.IsList d vs.toArray:=⟨_,S.obj _ hm,rfl,n,rfl⟩
 have e1:Gv vs.toArray (some ((b:Nat):Int)) none none=(vs.drop b).toArray:=slicePick_from' vs.toArray b
 have ah:=(S.push { cls:=.type "slice", data:=.fields #[.int ((b:Nat):Int) tb,.none,.none] }).push { cls:=.type "list", data:=.seq (Gv vs.toArray (some ((b:Nat):Int)) none none) }
 rw[e1] at ah
 refine⟨(hl.push _).typeIs,Dv (hl.push _) (DO ..) (.int _ _) .none .none (by simp) ?_ (by rw[zw,zd];exact up 16776216 hz)⟩
 rw[e1]
 exact hQ _ [(_,_)] _ ah
end
section
variable{sc:ze}{T X:LO}{n:Nat}{xs:List WX}{x:WX}{ow:AO}
theorem law_d(G:GK w hb)(hh:A.handled=none)(H:Scr hb sc scv)(htk:776<=s.toks)(hw:ow.data=.cell none)(h6:xs.length<=7)
  (S:St hb tabs L' [(yW "words", .ref d),(yW "script", .ref sc)] ((d,ap ((x::xs).map WX.v) n)::(X++(L'+3,oa)::(L'+2,oh)::(L'+1,ow)::T)) s.heap) {Q:FP}
  (k:∀ (s':y9) (X':LO) (pd dw:ze) (ow':AO) (np nw m:Nat) (tm:AN),Kp s s'->776<=s'.toks->ow'.data=.cell (some x.v)->0<m->m<=4 ->
   St hb tabs L' [(yW "many", .int (m:Nat) tm),(yW "some", .ref pd),(yW "words", .ref dw),(yW "script", .ref sc)] ((L'+3,oa)::(L'+2,oh)::(L'+1,ow')::(pd,ap (xs.map WX.v) np)::(X'++(X++T))) s'.heap->y4 (y0 pw w) A (zY (iW.drop 4) (evL w L')) Q E s') :
  y4 (y0 pw w) A (zY (iW.drop 3) (evL w L')) Q E s:=by
 have S0:=S.perm (yQ (X:=(d,ap ((x::xs).map WX.v) n)::X))
 have hlen:((x::xs).map WX.v).length<=1000:=by rw[zb,zI];exact y25 h6
 have md:(d,ap ((x::xs).map WX.v) n)∈(L'+3,oa)::(L'+2,oh)::(L'+1,ow)::((d,ap ((x::xs).map WX.v) n)::X++T):=aj m2
 refine j4 (bQ (args_cons (gT Bb (au (env:=evL w L') S0 m0 (wpAny_Constant_int ⟨⟨_,S0.obj _ md,rfl⟩,?_⟩)))))
 refine gK (k:=0) (x:=x.v) S0 md hlen rfl (args_cons (nU (hb:=hb) (tabs:=tabs) (au (env:=evL w L') S0 m0 (wpAny_Constant_int ⟨L',_,_,d,(x::xs).map WX.v,n,1,_,rfl,rfl,by exact S0,md,hlen,?_⟩))))
 refine λpd X1 ai ah=>args_cons (wpAny_BinOp (wpAny_Constant_int (wpAny_BinOp (wpAny_BinOp (oM (env:=evL w L') G ah B0 (aln (env:=evL w L') ah m1 (B9 (items:=scv.toArray) (H.isList ah) (by have:=H.small;rw[zd];lia) ?_)))))))
 refine wpAny_Constant_int (i4 (by decide) (by rfl) ?_)
 refine λb4=>wpAny_Constant_int (iQ (m:=4) (by decide) rfl ?_)
 refine λm hm=>P.add_int (zn ⟨rfl,_,_,_,_,_,by exact ah,?_⟩)
 refine λdt am af=>cI hh af m0 ?_
 intro ak ae
 have e1:(1:Int)+(m:Int)=((m+1:Nat):Int):=y2d
 rw[e1] at ae ⊢
 have S4:=(ae.sub (zl _ _)).perm (yQ (X:=(pd,ap (((x::xs).map WX.v).drop 1) 0)::X1))
 refine aY (gx (env:=evL w L') (x:=yW "word") (c:=L'+1) 2 S4 rfl hw ?_)
 refine λay ow5 how5 S5=>ia (env:=evL w L') S5 (.new (by kernel_rfl)) (λaz S6=>ia (env:=evL w L') S6 (.new (by kernel_rfl)) (λba S7=>cE ?_))
 have e2:(pd,ap (((x::xs).map WX.v).drop 1) 0)::X1++((d,ap ((x::xs).map WX.v) n)::X++T)=(pd,ap (xs.map WX.v) 0)::((X1++[(d,ap ((x::xs).map WX.v) n)])++(X++T)):=by simp
 have S8:St hb tabs L' _ ((L'+3,oa)::(L'+2,oh)::(L'+1,ow5)::((pd,ap (((x::xs).map WX.v).drop 1) 0)::X1++((d,ap ((x::xs).map WX.v) n)::X++T))) ba:=S7
 rw[e2] at S8
 exact k _ (X1++[(d,ap ((x::xs).map WX.v) n)]) pd d ow5 0 n (m+1) _ ⟨rfl,id⟩ (by simp only;exact y2e htk) how5 (Ft _) hm S8
end
theorem pu(x wd:List zH):bK (cm (x.length+1) x wd:Nat) ((x.length:Int)+wd.length)=scr x wd:=by
 rw[<- yb]
 rfl
section
variable{sc:ze}{T:LO}{n:Nat}{xs:List WX}{x:WX}{ow:AO}{l:LV}
structure ScJ(wd:WX)(xs:List WX)(X:LO)(tk:Nat)(Es:List Sc):Prop where
 xs:Es.map Sc.x=xs
 mem:∀ e∈Es,(e.a,aG [.float e.f e.ft,e.x.v])∈X
 f:∀ e∈Es,e.f=scr e.x.c wd.c
 h7:776<=tk
 lo:∀ e∈Es,776<=e.ft/\e.ft<tk
 inj:∀ e∈Es,∀ e'∈Es,e.ft=e'.ft->e.f=e'.f
theorem yi(G:GK w hb)(hd:A.depth+60<zg)(hu:A.units+200<Aw)(hh:A.handled=none)(htk:776<=s.toks)(hwl:Wl w T (x::xs))(h5:x.c.length<=5)(h6:xs.length<=7)(hcw:(L'+1,ow)∈T)(how:ow.data=.cell (some x.v))
  (hpd:(pd,ap (xs.map WX.v) np)∈T) (hl:(yW "some", .ref pd)∈l) (S:St hb tabs L' l T s.heap) {Q:VP}{pp p0 p1 p2 p3 p4 p5 p6 p7:Ef}{k0:Nat}
  (k:∀ (s':y9) (X:LO) (D:ze) (c:Nat) (Es:List Sc),Kp s s'->ScJ x xs X s'.toks Es->St hb tabs L' l ((D,ap (aB Es) c)::(X++T)) s'.heap->Q (.ref D) s') :
  y4 (y0 pw w) A (Aq (.ListComp (.Tuple [.Call (.Name (yW "_law_share") p0) [.Name (yW "one") p1,.Name (yW "word") p2] [] p3,.Name (yW "one") p4] k0 p5) [⟨.Name (yW "one") p6,.Name (yW "some") p7,[],0⟩]
   { kind:=.function,names:=[(yW ".0", .local),(yW "one", .local),(yW "_law_share", .globalImplicit),(yW "word", .free)],isGenerator:=false,isCoroutine:=false,more:=[] } pp) (evL w L')) Q E s:=by
 refine iJ (hb:=hb) (tabs:=tabs) (cl:=[(yW "word", L'+1)]) (env:=evL w L') hh ?_ (.inl ⟨_,_,rfl⟩) rfl (by decide) rfl (by decide)
 refine au (env:=evL w L') S hl ⟨L',l,T,pd,xs.map WX.v,np,λi tk acc X=>∃ Es:List Sc,acc=aB Es/\ScJ x (xs.take i) X tk Es,⟨rfl,S,hpd,by rw[zb];exact up 993 h6,⟨[],rfl,rfl,(λe he=>by cases he),(λe he=>by cases he),htk,(λe he=>by cases he),λe he=>by cases he⟩,?_,?_⟩,?_⟩
 ·rintro i tk tk' acc X h ⟨Es,a,b⟩
  exact⟨Es,a,b.xs,b.mem,b.f,zk b.h7 h,λe he=>⟨(b.lo e he).1,zJ (b.lo e he).2 h⟩,b.inj⟩
 ·rintro C D oL E' i v acc c X own s4 hv hacc ⟨Es,rfl,J⟩ r K4 S4
  rw[zB] at hv
  obtain⟨y,hy,rfl⟩:=zW.mp hv
  have hym:=zm hy
  refine rA (env:=An _ _ C _) S4 (.new (by kernel_rfl)) (λay S5=>DV (bQ (args_cons (uU (env:=An _ _ C _) G S5 (v:=.ref 307) (by kernel_rfl) (al (env:=An _ _ C _) S5 m0 (args_cons ?_))))))
  have dy:∀ p∈T,p∈(D,ap (aB Es) c)::(X++((L',oL)::T))++own:=λp hp=>y5 _ (aj (yZ _ (aj hp)))
  refine bI (env:=An _ _ C _) (c:=L'+1) S5 (dy _ hcw) how (zn ⟨⟨_,_,_,by exact S5⟩,?_⟩)
  have hw5:=hwl.mono dy
  have hyl:=hwl.len y (aj hym)
  refine vy G S5 (dn 30 hd) (dn 140 hu) hh (hw5.wt y (aj hym)) (hw5.wt x (.head _)) (hwl.kind y (aj hym) x (.head _)) (y2j hyl) (y1p h5) ?_
  intro s6 X6 t6 K6 S6 ht1 ht2
  rw[pu]
  refine aln (env:=An _ _ C _) S6 m0 ⟨rfl,_,_,_,_,_,by exact S6,?_⟩
  refine λa ba S7=>⟨(a,aG [.float (scr y.c x.c) t6,y.v])::(X6++X),_,⟨K6.os.trans K4.os,λq=>K6.gens (K4.gens q)⟩,S7.perm ?_,Es++[⟨a,scr y.c x.c,t6,y⟩],(jA Es ⟨a,scr y.c x.c,t6,y⟩).symm,?_,?_,?_,?_,?_,?_⟩
  ·have e1:(a,aG [.float (scr y.c x.c) t6,y.v])::(X6++((D,ap (aB Es) c)::(X++((L',oL)::T))++own))=((a,aG [.float (scr y.c x.c) t6,y.v])::X6)++(D,ap (aB Es) c)::(X++((L',oL)::T)++own):=by simp
   have e2:(D,ap (aB Es) c)::((a,aG [.float (scr y.c x.c) t6,y.v])::(X6++X)++((L',oL)::T))++own=(D,ap (aB Es) c)::(((a,aG [.float (scr y.c x.c) t6,y.v])::X6)++(X++((L',oL)::T)++own)):=by simp
   rw[e1,e2]
   exact zs
  ·rw[zD,J.xs,Ah,hy];rfl
  ·intro e he
   rcases zc.mp he with q|q
   ·exact aj (yZ _ (J.mem e q))
   ·rw[y6] at q;subst q;exact .head _
  ·intro e he
   rcases zc.mp he with q|q
   ·exact J.f e q
   ·rw[y6] at q;subst q;rfl
  ·have:=J.h7;show 776<=s6.toks;exact y2l ht1 ht2 this
  ·intro e he
   rcases zc.mp he with q|q
   ·exact⟨(J.lo e q).1,by have:=(J.lo e q).2;show e.ft<s6.toks;exact y2m ht1 ht2 this⟩
   ·rw[y6] at q;subst q
    have:=J.h7
    exact⟨by show 776<=t6;exact y2n ht1 this,ht2⟩
  ·intro e he e' he' h
   rcases zc.mp he with q|q<;> rcases zc.mp he' with q'|q'
   ·exact J.inj e q e' q' h
   ·rw[y6] at q';subst q'
    have:=(J.lo e q).2
    have h:e.ft=t6:=h
    lia
   ·rw[y6] at q;subst q
    have:=(J.lo e' q').2
    have h:t6=e'.ft:=h
    lia
   ·rw[y6] at q q';rw[q,q']
 ·rintro s4 D acc c X K4 S4 el ⟨Es,rfl,J⟩
  rw[zb,zX] at J
  exact k s4 X D c Es K4 J S4
end
theorem o8 (a v:Value):CI "sorted" ⟨[a],[(yW "reverse", v)]⟩:=by unfold CI;kernel_rfl
section
variable{sc:ze}{T:LO}{n:Nat}{tm:AN}{xs:List WX}{x:WX}{ow:AO}{l:LV}
noncomputable abbrev lv4 (m:Nat) (tm:AN) (pd dw sc:ze):LV:=[(yW "many", .int (m:Nat) tm),(yW "some", .ref pd),(yW "words", .ref dw),(yW "script", .ref sc)]
theorem law_e{T₀:LO}(G:GK w hb)(hd:A.depth+60<zg)(hu:A.units+200<Aw)(hh:A.handled=none)(htk:776<=s.toks)(h0:∀ p∈T₀,p∈T)(hwl:Wl w T₀ (x::xs))(h5:x.c.length<=5)(h6:xs.length<=7)(hcw:(L'+1,ow)∈T)(how:ow.data=.cell (some x.v))
  (hpd:(pd,ap (xs.map WX.v) np)∈T) (S:St hb tabs L' (lv4 m tm pd dw sc) T s.heap) {Q:FP}
  (k:∀ (s':y9) (X:LO) (D:ze) (c:Nat) (Es:List Sc),Kp s s'->Scd w (X++T₀) x xs Es->kJ Es->St hb tabs L' ((yW "scored", .ref D)::lv4 m tm pd dw sc) ((D,ap (aB Es) c)::(X++T)) s'.heap->y4 (y0 pw w) A (zY (iW.drop 5) (evL w L')) Q E s') :
  y4 (y0 pw w) A (zY (iW.drop 4) (evL w L')) Q E s:=by
 refine aC (eD (dZ (env:=evL w L') G S eA (Lo (args_cons (yi G hd hu hh htk (hwl.mono h0) h5 h6 hcw how hpd (aj (.head _)) S ?_)))))
 refine λs₁ X D c Es ar J ah=>zn (Et (Ee (Jp ?_)))
 have hT:kJ Es:=λe he=>⟨by have:=(J.lo e he).1;exact y1z this,λe' he'=>J.inj e he e' he'⟩
 have hmx:∀ e∈Es,e.x∈xs:=λe he=>J.xs▸za.mpr ⟨e,he,rfl⟩
 have hS:SXk (X++T₀) Es:=λe he=>⟨y5 _ (J.mem e he),(hwl.wt _ (aj (hmx e he))).mono λp hp=>yZ _ hp⟩
 have hR:kK rkW Es:=uz (λe he=>⟨by rw[J.f e he];exact gH (hwl.len _ (aj (hmx e he))) h5,hwl.len _ (aj (hmx e he)),hwl.abc _ (aj (hmx e he))⟩) λe he e' he'=>hwl.kind _ (aj (hmx e he)) _ (aj (hmx e' he'))
 have hlen:Es.length=xs.length:=by rw[<- J.xs,zb]
 have hin:∀ T',(∀ p∈(D,ap (aB Es) c)::(X++T),p∈T')->SXk T' Es:=λT' h=>hS.mono λp hp=>h _ (aj ((zc.mp hp).elim (λq=>y5 _ q) λq=>yZ _ (h0 p q)))
 refine iG (κ:=LZ true) (pK rkW Es) ah m0 (by rw[aJ];exact y2q h6 hlen) (o8 _ _) (λx=>ng x) (λx=>kf x) ?_ ?_ ?_
 ·intro h2 s' T' Q' E' S' hT' hq
  have hS':=hin T' hT'
  exact Nr (T:=.type "float") (sc_tups λe he=>(S'.sc (hS' e he)).1) (by rw[zb];rw[aJ] at h2;exact z22 h2) (λv hv=>by
   obtain⟨e,-,rfl⟩:=za.mp hv
   exact .now) rfl hq
 ·intro s' T' K' S' hT' y hy z hz C hC
  obtain⟨e,he,rfl⟩:=za.mp hy
  obtain⟨e',he',rfl⟩:=za.mp hz
  have hS':=hin T' hT'
  have hsc:∀ e∈Es,ScH s'.heap e:=λe he=>S'.sc (hS' e he)
  rw[ie hsc he,ie hsc he'] at hC
  exact uv (by show A.units+1+1+3<Aw;exact dn 195 hu) (S'.nb G) hT hR he he' (hsc e he) (hsc e' he') hC
 ·intro s' D' n' vs' X' K' hp hw S'
  obtain⟨P,rfl,hP⟩:=qi hp
  have hsc:∀ e∈Es,ScH s₁.heap e:=λe he=>ah.sc (hin _ (λp hp=>hp) e he)
  have hPm:∀ e∈P,e∈Es:=λe he=>hP.mem_iff.mp he
  have hf:=xX (rk:=rkW) (λe he=>ie hsc (hPm e he)) hw
  refine aT (env:=evL w L') S' (.new (by kernel_rfl)) (λam af=>k _ (X'++(D,ap (aB Es) c)::X) D' n' P ⟨K'.os.trans ar.os,λq=>K'.gens (ar.gens q)⟩ ⟨λe he=>?_,?_,λe he=>J.f e (hPm e he),?_⟩ (λe he=>⟨(hT e (hPm e he)).1,λe' he'=>(hT e (hPm e he)).2 e' (hPm e' he')⟩) ?_)
  ·have:=hS e (hPm e he)
   have hs:∀ p∈X++T₀,p∈(X'++(D,ap (aB Es) c)::X)++T₀:=λp hp=>by
    rw[zu,Bp]
    exact yZ _ (aj hp)
   exact⟨hs _ this.1,this.2.mono hs⟩
  ·have:=hP.map Sc.x
   rwa [J.xs] at this
  ·show (P.map Sc.x).Pairwise _
   rw[AT]
   refine hf.imp_of_mem λ{a b} ha hb' h=>?_
   have h:rkW b.f b.x.c<=rkW a.f a.x.c:=h
   rw[J.f a (hPm a ha),J.f b (hPm b hb')] at h
   exact h
  ·rw[zu,Bp]
   exact af
end
section
variable{T:LO}{v:Value}{vs:List Value}{d:Hp}{ds:List Hp}{n c:Nat}{a:ze}{x:WX}{xs:List WX}
structure Rd(T:LO)(v:Value)(d:Hp)(m n:Nat):Prop where
 rd:∀ h:AE,(∀ p∈T,h.get? p.1=some p.2)->∃ as,Reads h v d as
 ok:d.showable=true
 nd:d.hasDict=false
 dep:d.depth<=m
 sh:d.leavesShort 8=true
 wt:d.weight<=n
structure RdA(T:LO)(vs:List Value)(ds:List Hp)(m n:Nat):Prop where
 rd:∀ h:AE,(∀ p∈T,h.get? p.1=some p.2)->∃ as,ReadsAll h vs ds as
 ok:JS ds=true
 nd:Kw ds=false
 dep:LR ds<=m
 sh:IN 8 ds=true
 wt:Lb ds<=vs.length * (n+1)
theorem pL:RdA T [] [] m n:=⟨λh Z=>⟨[],.nil⟩,by decide,by decide,zA _,by decide,zA _⟩
theorem jW(h1:Rd T v d m n)(h2:RdA T vs ds m n):RdA T (v::vs) (d::ds) m n:=by
 refine⟨λh hT=>?_,?_,?_,?_,?_,?_⟩
 ·obtain⟨as,r⟩:=h1.rd h hT
  obtain⟨bs,q⟩:=h2.rd h hT
  exact⟨as++bs,.cons r q⟩
 ·simp only[JS,h1.ok,h2.ok,JG]
 ·simp only[Kw,h1.nd,h2.nd,Bool.or_self]
 ·simp only[LR];exact Nat.max_le.mpr ⟨h1.dep,h2.dep⟩
 ·simp only[IN,h1.sh,h2.sh,JG]
 ·simp only[Lb,zI]
  rw[M9]
  exact y2v h1.wt h2.wt
theorem uA:∀ {vs:List Value},(∀ v∈vs,∃ d,Rd T v d m n)->∃ ds,RdA T vs ds m n:=by
 intro vs
 induction vs with
 | nil =>
  intro Z
  exact⟨[],pL⟩
 | cons v vs ih =>
  intro h
  obtain⟨d,hd⟩:=h v (.head _)
  obtain⟨ds,hs⟩:=ih λv hv=>h v (aj hv)
  exact⟨d::ds,jW hd hs⟩
theorem pM(h:RdA T vs ds m n)(hm:(a,ap vs c)∈T):Rd T (.ref a) (.list ds) (m+1) (vs.length * (n+1)):=by
 refine⟨λh' hT=>?_,?_,?_,?_,?_,?_⟩
 ·obtain⟨as,r⟩:=h.rd h' hT
  exact⟨a::as,.list (hT _ hm) rfl rfl r⟩
 ·simp only[IA,h.ok]
 ·simp only[Jj,h.nd]
 ·simp only[Kx];have:=h.dep;exact z6y this
 ·simp only[GZ,h.sh]
 ·simp only[JH,h.wt]
theorem xK(h:RdA T vs ds m n)(hm:(a,aG vs)∈T):Rd T (.ref a) (.tuple ds) (m+1) (vs.length * (n+1)):=by
 refine⟨λh' hT=>?_,?_,?_,?_,?_,?_⟩
 ·obtain⟨as,r⟩:=h.rd h' hT
  exact⟨as,.tuple (hT _ hm) rfl rfl r⟩
 ·simp only[IA,h.ok]
 ·simp only[Jj,h.nd]
 ·simp only[Kx];have:=h.dep;exact z6y this
 ·simp only[GZ,h.sh]
 ·simp only[JH,h.wt]
theorem Rd.le{m' n':Nat}(h:Rd T v d m n)(hm:m<=m')(hn:n<=n'):Rd T v d m' n':=⟨h.rd,h.ok,h.nd,zk h.dep hm,h.sh,zk h.wt hn⟩
theorem uB{y:zH}{t:AN}(h:y.cps.all (· < 128)=true):Rd T (.str y t) (.str y) 0 y.cps.size:=by
 refine⟨λh' hT=>⟨[],.str y t⟩,?_,?_,?_,?_,?_⟩
 ·simp only[IA]
 ·simp only[Jj]
 ·simp only[Kx];exact zh _
 ·simp only[GZ,zC,decide_eq_true_eq]
  rw[Array.all_eq_true'] at h
  intro c hc
  have:=h c (Ew.mp hc)
  have:c<128:=by simpa using this
  have e:(16:Nat) ^ 8=4294967296:=by decide
  rw[e];exact Cw this (by decide)
 ·simp only[JH];exact zh _
theorem xJ(W:WT T x)(h10:x.c.length<=10)(ha:∀ c∈x.c,Abc c):∃ d,Rd T x.v d 1 20:=by
 cases W with
 | str y t h =>
  rw[aH] at h10
  exact⟨_,(uB (lB (n:=10) ⟨h10,ha⟩)).le (by decide) (up 10 h10)⟩
 | tup a ps h1 h2 =>
  have hl:ps.length<=10:=by
   have:(cts ps).length<=10:=h10
   simpa using this
  obtain⟨ds,hds⟩:=uA (T:=T) (m:=0) (n:=1) (vs:=ps.map aM) λv hv=>by
   obtain⟨p,hp,rfl⟩:=za.mp hv
   have hc:Abc p.1:=ha p.1 (za.mpr ⟨p,hp,rfl⟩)
   have key:p.1.cps.all (· < 128)=true/\p.1.cps.size<=1:=by
    rcases hc with e|e|e<;> rw[e]<;> decide +kernel
   exact⟨_,(uB key.1).le (zh _) key.2⟩
  refine⟨_,(xK hds h1).le (by decide) ?_⟩
  rw[zb]
  exact Nat.mul_le_of_le_div (1+1) _ 20 hl
theorem xI(hw:∀ x∈xs,WT T x/\x.c.length<=10/\∀ c∈x.c,Abc c)(hm:(a,ap (xs.map WX.v) c)∈T)(h7:xs.length<=7):∃ d,Rd T (.ref a) d 2 200:=by
 obtain⟨ds,hds⟩:=uA (T:=T) (m:=1) (n:=20) (vs:=xs.map WX.v) λv hv=>by
  obtain⟨x,hx,rfl⟩:=za.mp hv
  obtain⟨h1,h2,h3⟩:=hw x hx
  exact xJ h1 h2 h3
 refine⟨_,(pM hds hm).le (by decide) ?_⟩
 rw[zb]
 exact y2u h7
end
section
variable{tabs:List ze}{l:LV}{T T':LO}{v u:Value}{d2:Hp}{c:Nat}
theorem uD{Q:VP}(h1:Rd T v d1 2 200)(h2:Rd T u d2 2 200)(S:St hb tabs L l ((D,ap [v,u] c)::T') s.heap)(hT:∀ p∈T,p∈T')(hg:A.guards=some [])(hu:A.units+10<Aw)
  (k:∀ (s':y9) (t:AN),Kp s s'->St hb tabs L l ((D,ap [v,u] c)::T') s'.heap->Q (.str (Hn [d1,d2]).shown t) s') :
  y4 (y0 prog w) A (call (.builtin "repr") [.ref D]) Q E s:=by
 have hl:Rd ((D,ap [v,u] c)::T) (.ref D) (.list [d1,d2]) 3 402:=by
  have m:∀ {v:Value}{d:Hp},Rd T v d 2 200->Rd ((D,ap [v,u] c)::T) v d 2 200:=λh=>⟨λh' hT=>h.rd h' λp hp=>hT p (aj hp),h.ok,h.nd,h.dep,h.sh,h.wt⟩
  have m':∀ {v':Value}{d:Hp},Rd T v' d 2 200->Rd ((D,ap [v,u] c)::T) v' d 2 200:=λh=>⟨λh' hT=>h.rd h' λp hp=>hT p (aj hp),h.ok,h.nd,h.dep,h.sh,h.wt⟩
  exact pM (jW (m' h1) (jW (m' h2) pL)) (.head _)
 obtain⟨as,r⟩:=hl.rd s.heap λp hp=>S.obj p (by
  rcases y7.mp hp with rfl|hp
  ·exact .head _
  ·exact aj (hT p hp))
 have hsz:=PyData.shown_le 8 (zh _) _ hl.sh
 have hd:=hl.dep
 refine repr_of_reads' r hl.ok (λe=>by rw[hl.nd] at e;nomatch e) hg (y2y hu hd) (λZ Z e=>e) (λh' t tk hk=>k _ t ⟨rfl,id⟩ (S.grown hk)) ?_
 have:=hl.wt
 exact y2z hsz this
end
end
noncomputable abbrev iB (es:Array (Int×Value)) (ep:Nat) (t:Az):AO:={ cls:=.type "set", dict:=none,data:=.set es ep t }
structure Adds(es:Array (Int×Value))(t:Az)(x:Value)(h:Int)(q:Nat)(es':Array (Int×Value))(t':Az):Prop where
 g1:(t.place.size != es.size || decide (t.fill > t.mask))=false
 g2:t.gaveWay=false
 pb:t.probe (λi=>(es[i]?.map (·.1)).getD 0) h (t.probeStart h)=some (.empty q none)
 go:An3 ((t.put q).1.tooFull=false) (es'=AU es (t.put q).2 (h,x)) (t'=(t.put q).1)\/∃ order,An6 ((t.put q).1.tooFull=true) ((t.put q).1.relaid ((AU es (t.put q).2 (h,x)).map (·.1)) (G0 (es.size+1))=some (t',order))
  (((t.put q).1.place.size != (AU es (t.put q).2 (h,x)).size || decide ((t.put q).1.fill > (t.put q).1.mask))=false) (SetTable.sizeAbove (G0 (es.size+1))<=4096) ((order.filterMap ((AU es (t.put q).2 (h,x))[·]?)).size=(AU es (t.put q).2 (h,x)).size)
  (es'=order.filterMap ((AU es (t.put q).2 (h,x))[·]?))
theorem kj{α:Type}(xs:Array α)(p:Nat)(x:α):(AU xs p x).size<=xs.size+1:=by
 unfold AU
 simp only[FA,EX,JT]
 exact zjf
section
variable{a:ze}{es':Array (Int×Value)}{t t':Az}{f:UInt64}{h:Int}
theorem aK{Q:(Array (Int×Value)×Nat×Az)->y9->Prop}(ho:s.heap.get? a=some (iB es ep t))(hc:(t.place.size != es.size || decide (t.fill > t.mask))=false)(hq:Q (es,ep,t) s):y4 (y0 prog w) A (HQ a) Q E s:=by
 refine yX (Dr ho ?_)
 dsimp only
 rw[hc]
 exact yY hq
theorem vq{Q:SetFound->y9->Prop}{x:Value}{q:Nat}(ho:s.heap.get? a=some (iB es ep t))(h1:(t.place.size != es.size || decide (t.fill > t.mask))=false)(h2:t.gaveWay=false)
  (h3:t.probe (λi=>(es[i]?.map (·.1)).getD 0) h (t.probeStart h)=some (.empty q none)) (hq:Q (.free q false) s):y4 (y0 prog w) A (setSearch a x h true) Q E s:=by
 refine yX (m:=HQ a) (aK ho h1 (aQ (tI h2) ?_))
 generalize hm:t.probe _ h _=o
 replace hm:o=some (.empty q none):=hm.symm.trans h3
 subst hm
 exact yY hq
theorem u7{α:Type}{Q:α->y9->Prop}{F:Bool->Lz α}{G:Lz α}{c:Bool}(hf:(CQ f).isSome=true)(k1:y4 (y0 prog w) A (F true) Q E s)(k2:y4 (y0 prog w) A G Q E s):y4 (y0 prog w) A (if c=true then hashByValue 8 (.float f tk)>>=F else G) Q E s:=by
 cases c with
 | true =>
  refine yX ?_
  show y4 _ _ (Au (CQ f).isSome) _ _ _
  rw[hf];exact yY k1
 | false=>exact k2
theorem jU{Q:BP}{q:Nat}(ho:s.heap.get? a=some (iB es ep t))(H:Adds es t (.float f tk) h q es' t')(hf:(CQ f).isSome=true)(hz:es.size<=100)
  (hQ:∀ h' ep',BV a s.heap h'->h'.get? a=some (iB es' ep' t')->Q true (wh s h')):y4 (y0 prog w) A (Ky a (.float f tk) h) Q E s:=by
 refine zp (yX (m:=HQ a) (aK ho H.g1 (aQ (tI (b:=byScan (.float f tk) es) rfl) (yX (vq ho H.g1 H.g2 H.pb (yX (m:=HQ a) (aK ho H.g1 ?_)))))))
 have hsz:=kj es (t.put q).2 (h,BA f tk)
 have e1:=LS (AU es (t.put q).2 (h,BA f tk)) (t.put q).1 (o:=iB es ep t) rfl
 have hs1:=zt s.heap a (NE (AU es (t.put q).2 (h,BA f tk)) (t.put q).1)
 have ho1:(s.heap.update a (NE (AU es (t.put q).2 (h,BA f tk)) (t.put q).1)).get? a=some (iB (AU es (t.put q).2 (h,BA f tk)) (ep+1) (t.put q).1):=by
  rw[zq _ ho (by rw[e1];rfl),e1]
 have go:=H.go
 suffices k:y4 (y0 prog w) A (do
   storeSet a (AU es (t.put q).2 (h,BA f tk)) (t.put q).1
   if (!false&&(t.put q).1.tooFull)=true then do
    setRelay a (G0 (es.size+1))
    Au true
   else Au true) Q E s from u7 hf k k
 refine yX (HR ho rfl ?_ (by rw[zw];exact zjg hz hsz))
 generalize AU es (t.put q).2 (h,BA f tk)=e2 at *
 generalize (t.put q).1=t2 at *
 clear H e1
 obtain⟨b1,rfl,rfl⟩|⟨order,b1,b2,b3,b4,b5,rfl⟩:=go
 ·exact aQ (by rw[b1];exact zN) (yY (hQ _ _ hs1 ho1))
 ·refine bX (by rw[b1];rfl) (yX (yX (m:=HQ a) (aK ho1 b3 (aQ (Br.mpr (zk b4 (by rw[zw];decide))) (yX ?_)))))
  rw[b2]
  refine aQ (c:=(_ != _)=true) (by rw[b5,bne_self_eq_false];exact zN) (yY (HR ho1 rfl ?_ (by rw[b5,zw];exact zjg hz hsz)))
  have e2:=LS (order.filterMap (e2[·]?)) t' (o:=iB e2 (ep+1) t2) rfl
  refine yY (hQ _ (ep+1+1) (hs1.trans (zt _ a _)) ?_)
  rw[zq _ ho1 (by rw[e2];rfl),e2]
end
namespace SetA
open SetTable
def Up(xs:Array Nat):Prop:=∀ i j,i<j->j<xs.size->xs.getD i 0<xs.getD j 0
theorem xc(xs:Array Nat)(q f lo hi:Nat):below.go xs q (f+1) lo hi=if lo<hi then (if xs.getD ((lo+hi) / 2) q<q then below.go xs q f ((lo+hi) / 2+1) hi else below.go xs q f lo ((lo+hi) / 2)) else lo:=rfl
theorem t9(xs:Array Nat)(q:Nat)(hu:Up xs):∀ (f lo hi:Nat),hi - lo<=f->lo<=hi->hi<=xs.size->(∀ i<lo,xs.getD i 0<q)->(∀ i,hi<=i->i<xs.size->q<=xs.getD i 0) ->
  below.go xs q f lo hi<=xs.size/\(∀ i<below.go xs q f lo hi,xs.getD i 0<q)/\(∀ i,below.go xs q f lo hi<=i->i<xs.size->q<=xs.getD i 0):=by
 intro f
 induction f with
 | zero =>
  intro lo hi hf h1 h2 h3 h4
  have:lo=hi:=y4x hf h1
  subst this
  exact⟨h2,h3,h4⟩
 | succ f ih =>
  intro lo hi hf h1 h2 h3 h4
  rw[xc]
  by_cases hl:lo<hi
  ·rw[if_pos hl]
   have hm1:lo<=(lo+hi) / 2:=y50 hl
   have hm2:(lo+hi) / 2<hi:=y54 hl
   generalize hm:(lo+hi) / 2=m at hm1 hm2
   rw[show xs.getD m q=xs.getD m 0 by
    rw[zG,zG,zE (zJ hm2 h2)]
    rfl]
   by_cases hc:xs.getD m 0<q
   ·rw[if_pos hc]
    refine ih (m+1) hi (y55 hf hm) hm2 h2 (λi hi'=>?_) h4
    rcases DR (Cy hi') with z|rfl
    ·exact Cw (hu i m z (zJ hm2 h2)) hc
    ·exact hc
   ·rw[if_neg hc]
    refine ih lo m (y57 hf hm) hm1 (zk (Af hm2) h2) h3 (λi h5 h6=>?_)
    rcases DR h5 with z|rfl
    ·exact zk (Br.mp hc) (Af (hu m i z h6))
    ·exact Br.mp hc
  ·rw[if_neg hl]
   have:lo=hi:=z8u h1 hl
   subst this
   exact⟨h2,h3,h4⟩
theorem ir(xs:Array Nat)(q:Nat)(hu:Up xs):below xs q<=xs.size/\(∀ i<below xs q,xs.getD i 0<q)/\(∀ i,below xs q<=i->i<xs.size->q<=xs.getD i 0) :=
 t9 xs q hu xs.size 0 xs.size zf7 (zA _) (zh _) (λi h=>absurd h (Bo _)) λi h1 h2=>absurd h2 (Br.mpr h1)
theorem ub(xs:Array Nat)(hu:Up xs){i:Nat}(hi:i<xs.size):below xs (xs.getD i 0)=i:=by
 obtain⟨h1,h2,h3⟩:=ir xs (xs.getD i 0) hu
 rcases Dq (below xs (xs.getD i 0)) i with q|q|q
 ·have:=h3 _ (zh _) (Cw q hi)
  exact absurd (hu _ i q hi) (Br.mpr this)
 ·exact q
 ·exact absurd (h2 i q) (Aj _)
theorem wF{α:Type}(xs:Array α)(p:Nat)(x:α)(hp:p<=xs.size)(i:Nat):(insertAt xs p x)[i]? = if i<p then xs[i]? else if i=p then some x else xs[i - 1]?:=by
 unfold insertAt
 have e1:(xs.extract 0 p).size=p:=by simp;exact y4u hp
 rw[Array.getElem?_append,EX,e1,Array.getElem?_push,e1]
 by_cases h1:i<p
 ·rw[if_pos (by exact Nat.lt_add_right 1 h1),if_neg (by exact Ab h1),if_pos h1,Iu,if_pos (by exact y4z hp h1)]
  congr 1;exact Fg _
 ·rw[if_neg h1]
  by_cases h2:i=p
  ·rw[if_pos (by exact y52 h2),if_pos h2.symm.symm,if_pos h2]
  ·rw[if_neg (by exact y53 h1 h2),if_neg h2,Iu]
   by_cases h3:i - 1<xs.size
   ·rw[if_pos (by exact y56 h1 h2 h3)];congr 1;exact y58 h1 h2
   ·rw[if_neg (by exact y59 h3),BC (by exact Ey h3)]
theorem nh{α:Type}(xs:Array α)(p:Nat)(x:α)(hp:p<=xs.size):(insertAt xs p x).size=xs.size+1:=by
 unfold insertAt
 simp only[FA,EX,JT]
 exact y4w
theorem qH(q:Nat):has #[] q=false:=by
 unfold has;simp
theorem pe(t:Az)(hu:Up t.place){i:Nat}(hi:i<t.place.size):t.slot (t.place.getD i 0)=.live i:=by
 unfold slot
 dsimp only
 rw[ub _ hu hi,zE hi,if_pos]
 rw[zG,zE hi]
 simp
theorem jy(t:Az)(hu:Up t.place)(hd:t.dummies = #[])(q:Nat):(∃ i,i<t.place.size/\t.place.getD i 0=q/\t.slot q=.live i)\/((∀ i<t.place.size,t.place.getD i 0≠q)/\t.slot q=.empty):=by
 by_cases h:∃ i,i<t.place.size/\t.place.getD i 0=q
 ·obtain⟨i,hi,rfl⟩:=h
  exact .inl ⟨i,hi,rfl,pe t hu hi⟩
 ·refine .inr ⟨λi hi e=>h ⟨i,hi,e⟩,?_⟩
  unfold slot
  dsimp only
  rw[hd,qH]
  rw[if_neg,if_neg zN]
  intro e
  have e2:=Ap e
  obtain⟨hb,e3⟩:=Ex.mp e2
  refine h ⟨_,hb,?_⟩
  rw[zG,e2];rfl
theorem sU(xs:Array Nat)(p x:Nat)(hp:p<=xs.size)(i:Nat):(insertAt xs p x).getD i 0=if i<p then xs.getD i 0 else if i=p then x else xs.getD (i - 1) 0:=by
 rw[zG,wF xs p x hp]
 by_cases h1:i<p
 ·rw[if_pos h1,if_pos h1,zG]
 ·rw[if_neg h1,if_neg h1]
  by_cases h2:i=p
  ·rw[if_pos h2,if_pos h2];rfl
  ·rw[if_neg h2,if_neg h2,zG]
structure Tb(t:Az):Prop where
 up:Up t.place
 dm:t.dummies = #[]
 top:∀ i<t.place.size,t.place.getD i 0<=t.mask
theorem xY{t:Az}(B:Tb t){q:Nat}(hq:t.slot q=.empty)(hm:q<=t.mask) :
  Tb (t.put q).1/\(t.put q).1.mask=t.mask/\(t.put q).2<=t.place.size/\(t.put q).1.place.size=t.place.size+1:=by
 have hno:∀ i<t.place.size,t.place.getD i 0≠q:=by
  rcases jy t B.up B.dm q with⟨i,_,_,e⟩|⟨h,_⟩
  ·rw[e] at hq;nomatch hq
  ·exact h
 obtain⟨b1,b2,b3⟩:=ir t.place q B.up
 have e2:(t.put q).2=below t.place q:=rfl
 have e3:(t.put q).1.place=insertAt t.place (below t.place q) q:=rfl
 have e4:(t.put q).1.dummies = #[]:=by
  show (if has t.dummies q then eraseAt t.dummies (below t.dummies q) else t.dummies) = #[]
  rw[B.dm,qH,if_neg zN]
 have e5:(t.put q).1.mask=t.mask:=rfl
 have hsz:(t.put q).1.place.size=t.place.size+1:=by rw[e3,nh _ _ _ b1]
 rw[e2]
 generalize hp:below t.place q=p at *
 have gt:∀ i,p<=i->i<t.place.size->q<t.place.getD i 0:=λi h1 h2=>Nat.lt_of_le_of_ne (b3 i h1 h2) (hno i h2).symm
 have g:∀ i,(t.put q).1.place.getD i 0=if i<p then t.place.getD i 0 else if i=p then q else t.place.getD (i - 1) 0:=λi=>by rw[e3];exact sU _ _ _ b1 i
 have up:Up (t.put q).1.place:=by
  intro i k h1 h2
  rw[hsz] at h2
  rw[g,g]
  by_cases c1:i<p
  ·rw[if_pos c1]
   by_cases c2:k<p
   ·rw[if_pos c2];exact B.up i k h1 (zgf b1 c2)
   ·rw[if_neg c2]
    by_cases c3:k=p
    ·rw[if_pos c3];exact b2 i c1
    ·rw[if_neg c3];exact Cw (b2 i c1) (gt (k - 1) (y5i c2 c3) (y5j b1 h2 c1))
  ·rw[if_neg c1,if_neg (show ¬ k<p by exact y5k h1 c1),if_neg (show ¬ k=p by exact y5l h1 c1)]
   by_cases c3:i=p
   ·rw[if_pos c3];exact gt (k - 1) (y5m h1 c3) (y5n h1 h2)
   ·rw[if_neg c3];exact B.up (i - 1) (k - 1) (y5o h1 c1 c3) (y5n h1 h2)
 refine⟨⟨up,e4,λi hi=>?_⟩,e5,b1,hsz⟩
 rw[hsz] at hi
 rw[g,e5]
 by_cases c1:i<p
 ·rw[if_pos c1];exact B.top i (zgf b1 c1)
 ·rw[if_neg c1]
  by_cases c3:i=p
  ·rw[if_pos c3];exact hm
  ·rw[if_neg c3];exact B.top (i - 1) (y5p hi c1 c3)
theorem ue{t t':Az}(h:t'.mask=t.mask)(P:Probe):t'.advance P=t.advance P:=by
 unfold advance;rw[h]
noncomputable def lT(t:Az):Nat->Probe->List Nat
 | 0,_=>[]
 | f+1,P=>P.j::lT t f (t.advance P)
theorem go_s{t:Az}{H:Nat->Int}{h:Int}{f:Nat}{P:Probe}:probe.go t H h (f+1) P=(match t.slot P.j with|.empty=>some (.empty P.j P.dummy)|.dummy=>probe.go t H h f (t.advance { P with dummy:=some P.j })|.live i=>if H i==h then some (.candidate P.j i (t.advance P)) else probe.go t H h f (t.advance P)):=rfl
theorem yy{t:Az}{H:Nat->Int}{h:Int}(B:Tb t):∀ (f:Nat) (P:Probe),P.dummy=none ->
  (∃ j i next,probe.go t H h f P=some (.candidate j i next)/\i<t.place.size/\H i=h)\/(∃ q,probe.go t H h f P=some (.empty q none)/\t.slot q=.empty/\q∈lT t f P)\/(∀ q∈lT t f P,∃ i<t.place.size,t.place.getD i 0=q):=by
 intro f
 induction f with
 | zero =>
  intro P Z
  exact .inr (.inr λq hq=>nomatch hq)
 | succ f ih =>
  intro P hd
  rw[go_s]
  show _\/_\/∀ q∈P.j::lT t f (t.advance P),_
  rcases jy t B.up B.dm P.j with⟨k,hk,e,e'⟩|⟨_,e'⟩
  ·rw[e']
   dsimp only
   by_cases c:H k=h
   ·rw[if_pos (beq_iff_eq.mpr c)]
    exact .inl ⟨_,_,_,rfl,hk,c⟩
   ·rw[if_neg (λz=>c (Ap z))]
    have hd':(t.advance P).dummy=none:=by
     unfold advance
     split<;> exact hd
    rcases ih (t.advance P) hd' with z|⟨q,a,b,c⟩|z
    ·exact .inl z
    ·exact .inr (.inl ⟨q,a,b,aj c⟩)
    ·refine .inr (.inr λq hq=>?_)
     rcases y7.mp hq with rfl|hq
     ·exact⟨k,hk,e⟩
     ·exact z q hq
  ·rw[e']
   exact .inr (.inl ⟨P.j,by rw[hd],e',.head _⟩)
theorem wK{t:Az}{H:Nat->Int}{h:Int}(B:Tb t)(f:Nat)(P:Probe)(hd:P.dummy=none)(D:List Nat)(hD:D.Nodup)(hp:∀ q∈D,q∈lT t f P)(hn:t.place.size<D.length) :
  (∃ j i next,probe.go t H h f P=some (.candidate j i next)/\i<t.place.size/\H i=h)\/(∃ q,probe.go t H h f P=some (.empty q none)/\t.slot q=.empty/\q∈lT t f P):=by
 rcases yy (H:=H) (h:=h) B f P hd with z|z|z
 ·exact .inl z
 ·exact .inr z
 ·exfalso
  have hsub:∀ q∈D,q∈(zM t.place.size).map λi=>t.place.getD i 0:=λq hq=>by
   obtain⟨i,hi,e⟩:=z q (hp q hq)
   exact za.mpr ⟨i,zR.mpr hi,e⟩
  have:=hD.length_le_of_subset hsub
  rw[zb,B6] at this
  exact absurd hn (Br.mpr this)
noncomputable def tm(m:Nat):Az:={ mask:=m,place:=#[],dummies:=#[],finger:=0,led:=true,moves:=0,plain:=true }
noncomputable def hF(f:UInt64):Int:=(CQ f).getD 0
theorem qk{t t':Az}(h:t'.mask=t.mask):∀ (f:Nat) (P:Probe),lT t' f P=lT t f P:=by
 intro f
 induction f with
 | zero =>
  intro Z
  exact rfl
 | succ f ih =>
  intro P
  show _::lT t' f (t'.advance P)=_::lT t f (t.advance P);rw[ue h,ih]
theorem k8(t:Az):∀ (f g:Nat) (P:Probe),f<=g->∀ q∈lT t f P,q∈lT t g P
 | 0,_,_,_,q,hq=>nomatch hq
 | f+1,0,_,h,_,_=>absurd h (FR _)
 | f+1,g+1,P,h,q,hq=>by
  rcases y7.mp hq with rfl|hq
  ·exact .head _
  ·exact aj (k8 t f g _ (DQ h) q hq)
theorem ux(m i:Nat)(h:i<=m):runEnd m i<=m/\i<=runEnd m i:=by
 unfold runEnd
 split;exact⟨‹_›,Ck _ _⟩;exact⟨h,zh _⟩
theorem vW(t:Az):∀ (f:Nat) (P:Probe),P.j+P.more<=t.mask->∀ q∈lT t f P,q<=t.mask:=by
 intro f
 induction f with
 | zero =>
  intro Z Z q hq
  nomatch hq
 | succ f ih =>
  intro P h q hq
  rcases y7.mp hq with rfl|hq
  ·exact zia h
  ·refine ih (t.advance P) ?_ q hq
   unfold advance
   by_cases c:P.more > 0
   ·rw[if_pos c];dsimp only;exact y5g h c
   ·rw[if_neg c]
    dsimp only
    have h1:(leap t.mask P.i P.perturb).1<=t.mask:=Cy (MD _ (Ft _))
    generalize (leap t.mask P.i P.perturb)=L at h1
    obtain⟨a,b⟩:=L
    have:=ux t.mask a h1
    exact y5h this.1 this.2
theorem rX(t:Az)(h:Int):(t.probeStart h).j+(t.probeStart h).more<=t.mask:=by
 unfold probeStart
 dsimp only
 have h1:bits h % (t.mask+1)<=t.mask:=Cy (MD _ (Ft _))
 have:=ux t.mask _ h1
 exact y5e this.1 this.2
theorem sB:(shL.all λf=>[7,31].all λm=>Ce 8 ((zM (m+1)).filter λq=>(lT (tm m) 22 ((tm m).probeStart (hF f))).contains q).length)=true:=by decide +kernel
noncomputable def oI(mask:Nat):Nat->Nat->Nat->List Nat
 | 0,_,_=>[]
 | f+1,i,pt=>(zM (runEnd mask i+1 - i)).map (i + ·)++oI mask f (leap mask i pt).1 (leap mask i pt).2
theorem uR(mask:Nat)(owner:Array (Option Nat))(f i pt:Nat):layClean.free mask owner (f+1) i pt=(match (zM (runEnd mask i+1 - i)).find? λk=>(owner.getD (i+k) (some 0)).isNone with|some k=>some (i+k)|none=>layClean.free mask owner f (leap mask i pt).1 (leap mask i pt).2):=by rfl
theorem wN(mask:Nat)(owner:Array (Option Nat)):∀ (f i pt j:Nat),layClean.free mask owner f i pt=some j->owner.getD j (some 0)=none:=by
 intro f
 induction f with
 | zero =>
  intro i pt j h
  nomatch h
 | succ f ih =>
  intro i pt j h
  rw[uR] at h
  cases hq:(zM (runEnd mask i+1 - i)).find? λk=>(owner.getD (i+k) (some 0)).isNone with
  | some k =>
   rw[hq] at h
   cases h
   have z:=(List.find?_eq_some_iff_append.mp hq).1
   exact Option.isNone_iff_eq_none.mp z
  | none =>
   rw[hq] at h
   exact ih _ _ j h
theorem qM(mask:Nat)(owner:Array (Option Nat)):∀ (f g i pt:Nat),f<=g->layClean.free mask owner g i pt=none->∀ q∈oI mask f i pt,owner.getD q (some 0)≠none:=by
 intro f
 induction f with
 | zero =>
  intro g i pt h1 h2 q hq
  nomatch hq
 | succ f ih =>
  intro g i pt hfg h q hq
  cases g with
  | zero=>exact absurd hfg (FR _)
  | succ g =>
   rw[uR] at h
   cases hf:(zM (runEnd mask i+1 - i)).find? λk=>(owner.getD (i+k) (some 0)).isNone with
   | some k=>rw[hf] at h;nomatch h
   | none =>
    rw[hf] at h
    rcases zc.mp hq with hm|hm
    ·obtain⟨x,hx,rfl⟩:=za.mp hm
     intro e
     have:=E6.mp hf x hx
     rw[e] at this
     exact this rfl
    ·exact ih g _ _ (DQ hfg) h q hm
theorem qN:(shL.all λf=>Ce 8 ((zM 32).filter λq=>(oI 31 6 (bits (hF f) % 32) (bits (hF f))).contains q).length)=true:=by decide +kernel
structure Ow(mask:Nat)(hs:List Int)(owner:Array (Option Nat)):Prop where
 size:owner.size=mask+1
 lt:∀ (q y:Nat),owner[q]? = some (some y)->y<hs.length
 inj:∀ (q q' y:Nat),owner[q]? = some (some y)->owner[q']? = some (some y)->q=q'
 found:∀ x<hs.length,∃ q:Nat,owner[q]? = some (some x)
theorem vY{mask:Nat}{hs:List Int}{owner:Array (Option Nat)}(O:Ow mask hs owner){h:Int}{j:Nat}(h3:owner.getD j (some 0)=none):Ow mask (hs++[h]) (owner.setIfInBounds j (some hs.length)):=by
 have hjm:j<owner.size:=Nat.lt_of_not_le λc=>by
  rw[zG,BC c] at h3
  nomatch h3
 have hjn:owner[j]? = some none:=by
  rw[zG,zE hjm] at h3
  rw[zE hjm]
  exact congrArg some h3
 have g:∀ q:Nat,(owner.setIfInBounds j (some hs.length))[q]? = if j=q then some (some hs.length) else owner[q]?:=λq=>by
  rw[Array.getElem?_setIfInBounds]
  by_cases e:j=q
  ·rw[if_pos e,if_pos hjm,if_pos e]
  ·rw[if_neg e,if_neg e]
 refine⟨by rw[Array.size_setIfInBounds];exact O.size,λq y e=>?_,λq q' y e e'=>?_,λx hx=>?_⟩
 ·rw[zK]
  rw[g] at e
  by_cases c:j=q
  ·rw[if_pos c] at e;cases e;exact Be _
  ·rw[if_neg c] at e;exact Fq (O.lt q y e)
 ·rw[g] at e e'
  by_cases c:j=q
  ·rw[if_pos c] at e
   cases e
   by_cases c':j=q'
   ·exact c.symm.trans c'
   ·rw[if_neg c'] at e';exact absurd (O.lt _ _ e') (Aj _)
  ·rw[if_neg c] at e
   by_cases c':j=q'
   ·rw[if_pos c'] at e';cases e';exact absurd (O.lt _ _ e) (Aj _)
   ·rw[if_neg c'] at e';exact O.inj q q' y e e'
 ·rw[zK] at hx
  rcases DR (Cy hx) with q|rfl
  ·obtain⟨z,hz⟩:=O.found x q
   exact⟨z,by rw[g,if_neg (λc=>by rw[<- c,hjn] at hz;nomatch hz)];exact hz⟩
  ·exact⟨j,by rw[g,if_pos rfl]⟩
def Wide(h:Int):Prop:=Ce 8 ((zM 32).filter λq=>(oI 31 6 (bits h % 32) (bits h)).contains q).length=true
theorem qL{hs:List Int}{owner:Array (Option Nat)}(O:Ow 31 hs owner)(hn:hs.length<=7){h:Int}(hw:Wide h):∃ j,layClean.free 31 owner (turns 31) (bits h % 32) (bits h)=some j:=by
 cases hf:layClean.free 31 owner (turns 31) (bits h % 32) (bits h) with
 | some j=>exact⟨j,rfl⟩
 | none =>
  exfalso
  have hno:=qM 31 owner 6 _ _ _ (by decide) hf
  have hD:((zM 32).filter λq=>(oI 31 6 (bits h % 32) (bits h)).contains q).Nodup:=HS.filter _
  generalize hDD:(zM 32).filter (λq=>(oI 31 6 (bits h % 32) (bits h)).contains q)=D at hD
  have h8:8<=D.length:=by rw[<- hDD];exact CF hw
  have hocc:∀ q∈D,∃ y:Nat,owner[q]? = some (some y):=λq hq=>by
   rw[<- hDD] at hq
   obtain⟨h1,h2⟩:=By.mp hq
   have hqm:q<owner.size:=by rw[O.size];exact zR.mp h1
   have h3:=hno q (AV.mp h2)
   rw[zG,zE hqm] at h3
   rw[zE hqm]
   cases e:owner[q] with
   | none=>exact absurd e h3
   | some y=>exact⟨y,rfl⟩
  have hmap:(D.map λq=>((owner[q]?).getD none).getD 0).Nodup:=by
   refine AT.mpr (ES (λ{a b} ha hb' hne e=>?_) hD)
   obtain⟨y,e1⟩:=hocc a ha
   obtain⟨z,e2⟩:=hocc b hb'
   rw[e1,e2] at e
   have e':y=z:=e
   subst e'
   exact hne (O.inj a b y e1 e2)
  have:=hmap.length_le_of_subset (l₂:=zM hs.length) λy hy=>by
   obtain⟨q,hq,rfl⟩:=za.mp hy
   obtain⟨y,e1⟩:=hocc q hq
   rw[e1]
   exact zR.mpr (O.lt q y e1)
  rw[zb,B6] at this
  exact y5r hn h8 this
theorem yh(hs:List Int)(hn:hs.length<=7)(hw:∀ h∈hs,Wide h):∃ owner,layClean 31 hs.toArray=some owner/\Ow 31 hs owner:=by
 have go:∀ (todo done:List Int) (owner:Array (Option Nat)),Ow 31 done owner->(done++todo).length<=7->(∀ h∈todo,Wide h) ->
   ∃ owner',todo.foldl (λ(acc:Option (Array (Option Nat)×Nat)) h=>do
    let (owner,k) <- acc
    let j <- layClean.free 31 owner (turns 31) (bits h % (31+1)) (bits h)
    Au (owner.setIfInBounds j (some k),k+1)) (some (owner,done.length))=some (owner',(done++todo).length)/\Ow 31 (done++todo) owner':=by
  intro todo
  induction todo with
  | nil=>intro done owner O Z Z;exact⟨owner,by rw[Al];rfl,by rw[Al];exact O⟩
  | cons h todo ih =>
   intro done owner O hl hw
   obtain⟨j,hj⟩:=qL O (by rw[zK] at hl;exact Nat.le_of_add_right_le hl) (hw h (.head _))
   obtain⟨owner',e,O'⟩:=ih (done++[h]) _ (vY O (wN _ _ _ _ _ _ hj)) (by rw[zu];exact hl) λx hx=>hw x (aj hx)
   rw[zu] at e O'
   refine⟨owner',?_,O'⟩
   refine Eq.trans ?_ e
   rw[F6]
   congr 1
   show (layClean.free 31 owner (turns 31) (bits h % (31+1)) (bits h)>>=λj=>Au (owner.setIfInBounds j (some done.length),done.length+1))=_
   rw[hj,zK]
   rfl
 have no:∀ (q y:Nat),(IB (31+1) (none:Option Nat))[q]? = some (some y)->False:=λq y e=>by
  rw[Array.getElem?_replicate] at e
  split at e<;> nomatch e
 have O0:Ow 31 [] (IB (31+1) none):=⟨by simp,λq y e=>(no q y e).elim,λq q' y e Z=>(no q y e).elim,(λx h=>absurd h (Bo _))⟩
 obtain⟨owner,e,O⟩:=go hs [] _ O0 hn hw
 refine⟨owner,?_,O⟩
 unfold layClean
 rw[<- Array.foldl_toList]
 have e':hs.foldl _ (some (IB (31+1) none,0))=some (owner,hs.length):=e
 rw[e']
 rfl
noncomputable def gp(mask:Nat)(owner:Array (Option Nat)):List (Nat×Nat):=(zM (mask+1)).filterMap λj=>(owner.getD j none).map (j,·)
theorem gn{mask:Nat}{owner:Array (Option Nat)}(hs:owner.size=mask+1){j x:Nat}:(j,x)∈gp mask owner↔owner[j]? = some (some x):=by
 unfold gp
 rw[List.mem_filterMap]
 constructor
 ·rintro⟨a,ha,e⟩
  cases h:owner.getD a none with
  | none=>rw[h] at e;nomatch e
  | some y =>
   rw[h] at e
   injection e with e
   injection e with e1 e2
   subst e1 e2
   have hlt:a<owner.size:=by rw[hs];exact zR.mp ha
   rw[zG,zE hlt] at h
   rw[zE hlt]
   exact congrArg some h
 ·intro e
  have hlt:=(Ex.mp e).1
  refine⟨j,zR.mpr (by rw[<- hs];exact hlt),?_⟩
  rw[zG,e];rfl
theorem wy(mask:Nat)(owner:Array (Option Nat)):((gp mask owner).map (·.1)).Pairwise (· < ·):=by
 unfold gp
 rw[AT,List.pairwise_filterMap]
 refine Fn.imp λ{a b} h x hx y hy=>?_
 cases h1:owner.getD a none with
 | none=>rw[h1] at hx;nomatch hx
 | some u =>
  cases h2:owner.getD b none with
  | none=>rw[h2] at hy;nomatch hy
  | some v =>
   rw[h1] at hx
   rw[h2] at hy
   cases hx
   cases hy
   exact h
theorem wA{fin mv:Nat}{led pl:Bool}(hs:List Int)(hn:hs.length<=7)(hw:∀ h∈hs,Wide h) :
  ∃ t2 order,laid 31 fin mv led pl hs.toArray=some (t2,order)/\Tb t2/\t2.mask=31/\t2.led=led/\t2.plain=pl/\t2.place.size=hs.length/\order.toList.Perm (zM hs.length):=by
 obtain⟨owner,e,O⟩:=yh hs hn hw
 have hpr:=wy 31 owner
 have hndL:((gp 31 owner).map (·.1)).Nodup:=hpr.imp λh=>Ab h
 have hndX:((gp 31 owner).map (·.2)).Nodup:=by
  refine AT.mpr ((AT.mp hndL).imp_of_mem λ{a b} ha hb' hne q=>?_)
  obtain⟨a1,a2⟩:=a
  obtain⟨b1,b2⟩:=b
  have q':a2=b2:=q
  subst q'
  exact hne (O.inj _ _ _ ((gn O.size).mp ha) ((gn O.size).mp hb'))
 have hperm:((gp 31 owner).map (·.2)).Perm (zM hs.length):=by
  refine (List.perm_ext_iff_of_nodup hndX HS).mpr λx=>?_
  rw[zR,za]
  constructor
  ·rintro⟨⟨q,y⟩,hm,rfl⟩
   exact O.lt q y ((gn O.size).mp hm)
  ·intro hx
   obtain⟨q,h2⟩:=O.found x hx
   exact⟨(q,x),(gn O.size).mpr h2,rfl⟩
 have hlen:(gp 31 owner).length=hs.length:=by
  have:=hperm.length_eq
  rwa [zb,B6] at this
 obtain⟨t2,h2⟩:∃ t:Az,t = { mask:=31,place:=((gp 31 owner).map (·.1)).toArray,dummies:=#[],finger:=fin,led,moves:=mv,plain:=pl }:=⟨_,rfl⟩
 have hpl:t2.place=((gp 31 owner).map (·.1)).toArray:=by rw[h2]
 have hmk:t2.mask=31:=by rw[h2]
 have hB:Tb t2:=by
  have up:Up t2.place:=λi k h1 h2'=>by
   rw[hpl] at h2' ⊢
   have h2':k<((gp 31 owner).map (·.1)).length:=by simpa using h2'
   have:=EG.mp hpr i k (Cw h1 h2') h2' h1
   rw[zG,zG,FH,FH,zj h2',zj (Cw h1 h2')]
   exact this
  refine⟨up,by rw[h2],λi hi=>?_⟩
  rw[hpl] at hi ⊢
  rw[hmk]
  have hi':i<((gp 31 owner).map (·.1)).length:=by simpa using hi
  rw[zG,FH,zj hi']
  obtain⟨⟨q,y⟩,hm,eq⟩:=za.mp (z5 hi')
  show ((gp 31 owner).map (·.1))[i]<=31
  rw[<- eq]
  have:=(Ex.mp ((gn O.size).mp hm)).1
  rw[O.size] at this
  exact Cy this
 have hsz:t2.place.size=hs.length:=by rw[hpl];simp[hlen]
 refine⟨t2,((gp 31 owner).map (·.2)).toArray,?_,hB,hmk,by rw[h2],by rw[h2],hsz,hperm⟩
 unfold laid
 rw[e,h2]
 rfl
end SetA
section
variable{a:ze}{t:Az}{f:UInt64}{tk':AN}{h:Int}
theorem vE(x:Value)(hx:ME x=true):∀ (ys:List Value),(∀ y∈ys,ME y=true)->∀ {Q:BP},Q false s->y4 (y0 prog w) A (searchCouldBeSeen x ys) Q E s:=by
 refine λys hy Q hQ=>yX (kc ys.length (zh _) (λi y hi hy' Q' hQ'=>?_) (λZ=>?_) (λy hy'=>?_))
 ·have hc:=hy y (zm hy')
  dsimp only
  rw[hx,hc,JG,Bool.or_true]
  exact yY hQ'
 ·exact yY hQ
 ·rw[zP (zh _)] at hy';nomatch hy'
theorem rY{Q:SetFound->y9->Prop}{j i:Nat}{next:MF}(ho:s.heap.get? a=some (iB es ep t))(hc1:(t.place.size != es.size || decide (t.fill > t.mask))=false)(hc2:t.gaveWay=false)
  (hr:t.probe (λi=>(es[i]?.map (·.1)).getD 0) h (t.probeStart h)=some (.candidate j i next)) (hi:es[i]? = some (h,.float f tk')) (hfl:∀ p∈es.toList,∃ g u,p.2=.float g u) (hq:(zV f f==some Ordering.eq)=true) (NB:B4 s.heap) (ht:tk'≠0) (hu:tk≠0)
  (hQ:Q (.there none) s):y4 (y0 prog w) A (setSearch a (.float f tk) h true) Q E s:=by
 refine yX (m:=HQ a) (aK ho hc1 (aQ (tI hc2) ?_))
 generalize hm:t.probe _ h _=o
 replace hm:o=some (.candidate j i next):=hm.symm.trans hr
 subst hm
 cases hl:t.led with
 | true =>
  refine aQ (by simp) ?_
  rw[hi]
  refine yX (zp (dC NB ht hu (λZ=>rfl) hq ?_))
  rw[hq]
  refine yX (aK ho hc1 ?_)
  exact bX rfl (yY hQ)
 | false =>
  refine bX (by simp) (yX (vE _ rfl _ (λy hy=>?_) ?_))
  ·obtain⟨p,hp,rfl⟩:=za.mp hy
   have hp':p∈es.toList:=by
    have:=Ew.mp hp
    exact Ew.mpr (Array.mem_filter.mp this).1
   obtain⟨g,u,e⟩:=hfl p hp'
   rw[e];rfl
  refine aQ zN ?_
  rw[hi]
  refine yX (zp (dC NB ht hu (λZ=>rfl) hq ?_))
  rw[hq]
  refine yX (aK ho hc1 ?_)
  exact bX rfl (yY hQ)
theorem jT{Q:BP}{j i:Nat}{next:MF}(ho:s.heap.get? a=some (iB es ep t))(hc1:(t.place.size != es.size || decide (t.fill > t.mask))=false)(hc2:t.gaveWay=false)
  (hr:t.probe (λi=>(es[i]?.map (·.1)).getD 0) h (t.probeStart h)=some (.candidate j i next)) (hi:es[i]? = some (h,.float f tk')) (hfl:∀ p∈es.toList,∃ g u,p.2=.float g u) (hq:(zV f f==some Ordering.eq)=true) (NB:B4 s.heap) (ht:tk'≠0) (hu:tk≠0)
  (hQ:Q false s):y4 (y0 prog w) A (Ky a (.float f tk) h) Q E s:=by
 exact zp (yX (m:=HQ a) (aK ho hc1 (aQ (tI (b:=byScan (.float f tk) es) rfl) (yX (rY ho hc1 hc2 hr hi hfl hq NB ht hu (yY hQ))))))
end
section
open SetTable SetA
noncomputable abbrev hAt(es:Array (Int×Value))(i:Nat):Int:=(es[i]?.map (·.1)).getD 0
noncomputable abbrev entF(p:UInt64×AN):Int×Value:=(SetA.hF p.1,.float p.1 p.2)
structure lG(fs:List (UInt64×AN))(es:Array (Int×Value))(t:Az):Prop where
 tb:Tb t
 sz:t.place.size=es.size
 few:fs.length<=7
 mask:t.mask=if fs.length<=4 then 7 else 31
 plain:t.plain=true
 perm:es.toList.Perm (fs.map entF)
 shl:∀ p∈fs,p.1∈shL
theorem lm:(shL.all λa=>shL.all λb=>!(SetA.hF a==SetA.hF b) || a==b)=true:=by decide +kernel
theorem tv{a b:UInt64}(ha:a∈shL)(hb:b∈shL)(h:SetA.hF a=SetA.hF b):a=b:=by
 have:=zC.mp (zC.mp lm a ha) b hb
 rw[h,beq_self_eq_true] at this
 exact Ap this
theorem sk(fin mv:Nat)(led:Bool):lG [] #[] (.fresh fin mv led) :=
 ⟨⟨λi j Z h=>absurd h (Bo _),rfl,λi h=>absurd h (Bo _)⟩,rfl,zA _,rfl,rfl,BE _,λp hp=>by cases hp⟩
theorem n8{fs:List (UInt64×AN)}{es:Array (Int×Value)}{t:Az}(I:lG fs es t){f:UInt64}(hf:f∈shL) :
  (∃ j i next u,t.probe (hAt es) (SetA.hF f) (t.probeStart (SetA.hF f))=some (.candidate j i next)/\es[i]? = some (SetA.hF f,.float f u)/\(f,u)∈fs) \/
  (∃ q,t.probe (hAt es) (SetA.hF f) (t.probeStart (SetA.hF f))=some (.empty q none)/\t.slot q=.empty/\q<=t.mask):=by
 have hm:t.mask=7\/t.mask=31:=by rw[I.mask];split<;> simp
 have hle:es.size=fs.length:=by
  have:=I.perm.length_eq
  rwa [zb,Ba] at this
 have hw:=zC.mp (zC.mp sB f hf) t.mask (by rcases hm with h|h<;> rw[h]<;> simp)
 have hstart:t.probeStart (SetA.hF f)=(tm t.mask).probeStart (SetA.hF f):=rfl
 have hturn:22<=10 * turns t.mask:=by rcases hm with h|h<;> rw[h]<;> decide
 rcases wK (H:=hAt es) (h:=SetA.hF f) I.tb (10 * turns t.mask) (t.probeStart (SetA.hF f)) rfl
  ((zM (t.mask+1)).filter λq=>(lT (tm t.mask) 22 ((tm t.mask).probeStart (SetA.hF f))).contains q) (HS.filter _) (λq hq=>by
   have:=AV.mp (By.mp hq).2
   rw[<- hstart,<- qk (t:=tm t.mask) (t':=t) rfl] at this
   exact k8 t 22 _ _ hturn q this) (by
   have:=CF hw
   rw[I.sz,hle]
   exact Bq I.few this) with⟨j,i,next,h1,h2,h3⟩|⟨q,h1,h2,h3⟩
 ·rw[I.sz] at h2
  have hm':es[i]∈es.toList:=Ew.mpr (Array.getElem_mem h2)
  obtain⟨p,hp,ep⟩:=za.mp (I.perm.mem_iff.mp hm')
  have e0:es[i]? = some (entF p):=by rw[zE h2,ep]
  have e1:hAt es i=SetA.hF p.1:=by
   show ((es[i]?.map (·.1)).getD 0)=_
   rw[e0];rfl
  have e2:=tv (I.shl p hp) hf (e1.symm.trans h3)
  subst e2
  exact .inl ⟨j,i,next,p.2,h1,e0,hp⟩
 ·exact .inr ⟨q,h1,h2,vW t _ _ (rX t _) q h3⟩
theorem sT{α:Type}(xs:Array α)(p:Nat)(x:α)(hp:p<=xs.size):(insertAt xs p x).toList.Perm (x::xs.toList):=by
 unfold insertAt
 have e:xs.toList=xs.toList.take p++xs.toList.drop p:=(CG _ _).symm
 have e2:((xs.extract 0 p).push x++xs.extract p xs.size).toList=xs.toList.take p++x::xs.toList.drop p:=by
  simp[Array.toList_extract,List.extract_eq_take_drop]
  exact C1 (by simp)
 rw[e2]
 exact zs.trans (by rw[<- e])
theorem yB(es:Array (Int×Value)):∀ l:List Nat,(∀ x∈l,x<es.size)->l.filterMap (es[·]?)=l.map λx=>(es[x]?).getD (0,.none):=by
 intro l
 induction l with
 | nil =>
  intro Z
  exact rfl
 | cons a l ih =>
  intro h
  rw[Jx,zE (h a (.head _)),Ay,ih λx hx=>h x (aj hx),zE (h a (.head _))]
  rfl
theorem qy(es:Array (Int×Value)):(zM es.size).map (λx=>(es[x]?).getD (0,.none))=es.toList:=by
 refine KY (by simp) λi h1 h2=>?_
 rw[DD,GR]
 have:i<es.size:=by simpa using h2
 rw[zE this]
 simp
theorem vB{fs:List (UInt64×AN)}{es:Array (Int×Value)}{t:Az}(I:lG fs es t)(h6:fs.length<=6){p:UInt64×AN}(hp:p.1∈shL){q:Nat}(h1:t.probe (hAt es) (SetA.hF p.1) (t.probeStart (SetA.hF p.1))=some (.empty q none))(h2:t.slot q=.empty)(h3:q<=t.mask) :
  ∃ es' t',Adds es t (.float p.1 p.2) (SetA.hF p.1) q es' t'/\lG (p::fs) es' t'/\t'.led=t.led:=by
 obtain⟨c1,c2,c3',c4'⟩:=xY I.tb h2 h3
 have c4:(t.put q).2<=es.size:=by rw[<- I.sz];exact c3'
 have hle:es.size=fs.length:=by
  have:=I.perm.length_eq
  rwa [zb,Ba] at this
 have hm:t.mask=7\/t.mask=31:=by rw[I.mask];split<;> simp
 have hfill:t.fill=fs.length:=by
  show t.place.size+t.dummies.size=_
  rw[I.tb.dm,I.sz,hle];rfl
 have g1:(t.place.size != es.size || decide (t.fill > t.mask))=false:=by
  rw[I.sz,hfill,bne_self_eq_false,decide_eq_false];rfl
  exact Br.mpr (zk h6 (by rcases hm with h|h<;> rw[h]<;> decide))
 have g2:t.gaveWay=false:=by unfold gaveWay;rcases hm with h|h<;> rw[h]<;> rfl
 have hs:(insertAt es (t.put q).2 (SetA.hF p.1,BA p.1 p.2)).size=es.size+1:=nh _ _ _ c4
 have c3:(t.put q).1.place.size=(insertAt es (t.put q).2 (SetA.hF p.1,BA p.1 p.2)).size:=by rw[c4',hs,I.sz]
 have hperm:(insertAt es (t.put q).2 (SetA.hF p.1,BA p.1 p.2)).toList.Perm ((p::fs).map entF):=(sT es _ _ c4).trans (zL _ I.perm)
 have hfill1:(t.put q).1.fill=fs.length+1:=by
  show (t.put q).1.place.size+(t.put q).1.dummies.size=_
  rw[c1.dm,c3,hs,hle];rfl
 have hsh:∀ x∈p::fs,x.1∈shL:=λx hx=>by
  rcases y7.mp hx with rfl|hx
  ·exact hp
  ·exact I.shl x hx
 have hful:(t.put q).1.tooFull=decide (fs.length=4):=by
  unfold tooFull
  rw[hfill1,c2,I.mask]
  by_cases h4:fs.length<=4
  ·rw[if_pos h4];exact decide_eq_decide.mpr (x16 h4)
  ·rw[if_neg h4];exact decide_eq_decide.mpr (x17 h6 h4)
 by_cases h4:fs.length=4
 ·generalize hE:insertAt es (t.put q).2 (SetA.hF p.1,BA p.1 p.2)=es1 at *
  have hl1:es1.toList.length=5:=by rw[Ba,hs,hle,h4]
  have hh:(es1.toList.map (·.1)).Perm ((p::fs).map λx=>SetA.hF x.1):=by
   have:=hperm.map (·.1)
   rw[CN] at this
   exact this
  obtain⟨t2,order,e,tb2,m2,l2,p2,sz2,op2⟩:=wA (fin:=(t.put q).1.finger) (mv:=(t.put q).1.movedTo 31) (led:=(t.put q).1.led) (pl:=(t.put q).1.plain) (es1.toList.map (·.1)) (by rw[zb,hl1];decide)
   (λh hh'=>by
    obtain⟨x,hx,rfl⟩:=za.mp (hh.mem_iff.mp hh')
    exact zC.mp qN x.1 (hsh x hx))
  have hrel:(t.put q).1.relaid (es1.map (·.1)) (G0 (es.size+1))=some (t2,order):=by
   rw[hle,h4]
   have:es1.map (·.1)=(es1.toList.map (·.1)).toArray:=by rw[<- Array.toList_map]
   rw[this]
   exact e
  have h5:es1.size=5:=by rw[<- Ba,hl1]
  have hlen5:(es1.toList.map (·.1)).length=5:=by rw[zb,hl1]
  have hes2:(order.filterMap (es1[·]?)).toList=order.toList.map λx=>(es1[x]?).getD (0,.none):=by
   rw[Array.toList_filterMap]
   exact yB es1 _ λx hx=>by
    have:=zR.mp (op2.mem_iff.mp hx)
    rw[hlen5] at this
    rw[h5];exact this
  have hp2:(order.filterMap (es1[·]?)).toList.Perm es1.toList:=by
   rw[hes2,<- qy es1]
   have:=op2.map λx=>(es1[x]?).getD ((0,.none):Int×Value)
   rw[hlen5,<- h5] at this
   exact this
  have hz2:(order.filterMap (es1[·]?)).size=es1.size:=by
   rw[<- Ba,hp2.length_eq,Ba]
  have b3:((t.put q).1.place.size != es1.size || decide ((t.put q).1.fill > (t.put q).1.mask))=false:=by
   rw[c3,hfill1,c2,I.mask,h4,bne_self_eq_false];rfl
  subst hE
  refine⟨_,_,⟨g1,g2,h1,.inr ⟨order,hful.trans (decide_eq_true h4),hrel,b3,by rw[hle,h4];decide,hz2,rfl⟩⟩,⟨tb2,?_,by show fs.length+1<=7;exact y5w h4,?_,p2.trans I.plain,hp2.trans hperm,hsh⟩,l2⟩
  ·rw[sz2,hz2,hlen5,h5]
  ·rw[m2,if_neg (by show ¬ fs.length+1<=4;exact y5x h4)]
 ·refine⟨_,_,⟨g1,g2,h1,.inl ⟨hful.trans (decide_eq_false h4),rfl,rfl⟩⟩,⟨c1,c3,by show fs.length+1<=7;exact C4 h6,?_,I.plain,hperm,hsh⟩,rfl⟩
  rw[c2,I.mask]
  by_cases h5:fs.length<=4
  ·rw[if_pos h5,if_pos (by exact y5z h4 h5)]
  ·rw[if_neg h5,if_neg (by exact y60 h5)]
end
section
open SetTable SetA
noncomputable abbrev cQ(p:UInt64×AN):Value:=.float p.1 p.2
theorem tr:(shL.all λf=>(CQ f).isSome&&decide (-(2 ^ 63:Int)<=SetA.hF f)&&decide (SetA.hF f<2 ^ 63)&&(SetA.hF f != -1)&&(zV f f==some Ordering.eq))=true:=by decide +kernel
theorem nj{f:UInt64}(h:f∈shL):An5 ((CQ f).isSome=true) (-(2 ^ 63:Int)<=SetA.hF f) (SetA.hF f<2 ^ 63) ((SetA.hF f != -1)=true) ((zV f f==some Ordering.eq)=true):=by
 have:=zC.mp tr f h
 simp only[HE,decide_eq_true_eq] at this
 exact⟨this.1.1.1.1,this.1.1.1.2,this.1.1.2,this.1.2,this.2⟩
section
variable{f:UInt64}{t:AN}
theorem gY{h:Int}(hf:CQ f=some h):Gives (At.«float.__hash__» ⟨[.float f t],[]⟩) (.int h):=by
 refine .of_wp λM A E s Q hq=>?_
 obtain⟨hp,g,d,tk,os⟩:=s
 wp_walk
 rw[hf]
 wp_walk
 exact⟨_,rfl,hq⟩
theorem fS{Q:Int->y9->Prop}(hs:(CQ f).isSome=true)(h0 : -(2 ^ 63:Int)<=SetA.hF f)(h1:SetA.hF f<2 ^ 63)(h2:(SetA.hF f != -1)=true)(h:Q (SetA.hF f) (wt s (s.toks+1))) :
  y4 (y0 prog w) A (pyHash (.float f t)) Q E s:=by
 have hf:CQ f=some (SetA.hF f):=by
  unfold SetA.hF
  cases hh:CQ f with
  | none=>rw[hh] at hs;cases hs
  | some x=>rfl
 have hv:[BA f t].any Value.onHeap=false:=rfl
 refine yX ?_
 rw[cRoomFor,if_neg (by rw[hv];exact zN)];refine yY ?_
 refine yX (BS (B3 s f t) FC.lookup ?_)
 refine aQ (by rw[beq_builtin_none];exact zN) (yX (BS (B3 s f t) FC.lookup ?_))
 refine yX (wpAny_callSpecialIfBoundUnlessNone?_slot (B3 s f t) FC
  (call_gives FC (B3 s f t) F.entry_float_hash (F.args_float_hash_1 _) (gY hf) ?_))
 refine bX (by rw[decide_eq_true h0,decide_eq_true h1];rfl) ?_
 have h3:(SetA.hF f == -1)=false:=by simpa using h2
 rw[h3]
 exact yY h
end
theorem lG.size{fs:List (UInt64×AN)}{es:Array (Int×Value)}{t:Az}(I:lG fs es t):es.size=fs.length:=by
 have:=I.perm.length_eq
 rwa [zb,Ba] at this
theorem lG.okc{fs:List (UInt64×AN)}{es:Array (Int×Value)}{t:Az}(I:lG fs es t):(t.place.size != es.size || decide (t.fill > t.mask))=false:=by
 have hfill:t.fill=fs.length:=by
  show t.place.size+t.dummies.size=_
  rw[I.tb.dm,I.sz,I.size];rfl
 have hm:t.mask=7\/t.mask=31:=by rw[I.mask];split<;> simp
 have hf:=I.few
 rw[I.sz,hfill,bne_self_eq_false,decide_eq_false (by rcases hm with h|h<;> rw[h]<;> lia)];rfl
section
variable{a:ze}{t:Az}{p:UInt64×AN}
theorem vA{Q:BP}(I:lG fs es t)(ho:s.heap.get? a=some (iB es ep t))(hp:p.1∈shL)(h6:fs.length<=6)(hp0:p.2≠0)(hf0:∀ q∈fs,q.2≠0)(NB:B4 s.heap)
  (hQ:∀ h' fs' es' t' ep' b,BV a s.heap h'->h'.get? a=some (iB es' ep' t')->lG fs' es' t'->(∀ q∈fs',q=p\/q∈fs)->(∀ x,x=p.1\/x∈fs.map (·.1)->x∈fs'.map (·.1))->fs'.length<=fs.length+1->t'.led=t.led->Q b (wh s h')) :
  y4 (y0 prog w) A (Ky a (.float p.1 p.2) (SetA.hF p.1)) Q E s:=by
 obtain⟨k1,k2,k3,k4,k5⟩:=nj hp
 rcases n8 I hp with⟨j,i,next,u,hr,e',hq⟩|⟨q,q1,q2,q3⟩
 ·have hin:p.1∈fs.map (·.1):=za.mpr ⟨_,hq,rfl⟩
  have hm:t.mask=7\/t.mask=31:=by rw[I.mask];split<;> simp
  refine jT ho I.okc (by unfold gaveWay;rcases hm with h|h<;> rw[h]<;> rfl) hr e' (λy hy=>?_) k5 NB (hf0 _ hq) hp0 ?_
  ·obtain⟨z,-,rfl⟩:=za.mp (I.perm.mem_iff.mp hy)
   exact⟨_,_,rfl⟩
  ·refine hQ s.heap fs es t ep false (Ki a s.heap) ho I (λq hq=>.inr hq) (λx hx=>?_) (C2 _) rfl
   rcases hx with rfl|hx
   ·exact hin
   ·exact hx
 ·obtain⟨es',t',h1,h2,h3⟩:=vB I h6 hp q1 q2 q3
  refine jU ho h1 k1 (by rw[I.size];exact zk h6 (by decide)) λh' ep' hs ho'=>(hQ h' (p::fs) es' t' ep' true hs ho' h2 (λq hq=>?_) (λx hx=>?_) (zh _) h3)
  ·rcases y7.mp hq with h|h
   ·exact .inl h
   ·exact .inr h
  ·rcases hx with rfl|hx
   ·exact .head _
   ·exact aj hx
end
structure SetOf(ps fs:List (UInt64×AN)):Prop where
 sub:∀ q∈fs,q∈ps
 all:∀ q∈ps,q.1∈fs.map (·.1)
 len:fs.length<=ps.length
section
variable{tabs:List ze}{l:LV}{T:LO}{n:Nat}{ps:List (UInt64×AN)}
def nP(ps:List (UInt64×AN)):Prop:=ps.length<=7/\∀ p∈ps,p.1∈shL/\p.2≠0
theorem pE{R:Cg->y9->Prop}{ld:Bool}(G:Gd K tabs hb)(hh:A.handled=none)(hok:nP ps)(hd:(d,ap (ps.map cQ) n)∈T)
  (hR:∀ s' fs es ep tb,Kp s s'->lG fs es tb->SetOf ps fs->tb.led=ld->St hb tabs L l ((D,iB es ep tb)::T) s'.heap->R (.ok (.ret .none)) s') :
  ∀ (k i:Nat) (fs:List (UInt64×AN)) (es:Array (Int×Value)) (ep:Nat) (tb:Az) (o:AO) (s₁:y9),ps.length - i=k->i<=ps.length->lG fs es tb->SetOf (ps.take i) fs->tb.led=ld->Kp s s₁->bZ o d i->St hb tabs L l ((D,iB es ep tb)::(I,o)::T) s₁.heap ->
   zS (y0 prog w) A (.builtin "set.update.loop" ⟨[.ref D,.ref I],[]⟩) R s₁:=by
 intro k
 induction k with
 | zero =>
  intro i fs es ep tb o s₁ hk hi SI SO hl K ho S
  have hin:i=ps.length:=z94 hk hi
  subst hin
  rw[zX] at SO
  refine z8 EL ?_
  have ho':bZ o d (ps.map cQ).length:=by rw[zb];exact ho
  refine yX (iT (vs:=ps.map cQ) (T:=(D,iB es ep tb)::T) hh (S.perm (zL _ (zi (l₁:=[(I,o)]) (l₂:=T)))) ho' (aj hd) λh' S'=>?_)
  exact yY (hR _ fs es ep tb ⟨K.os,K.gens⟩ SI SO hl S')
 | succ k ih =>
  intro i fs es ep tb o s₁ hk hi SI SO hl K ho S
  have hlt:i<ps.length:=z96 hk
  refine z8 EL ?_
  have hx:(ps.map cQ)[i]? = some (cQ ps[i]):=by simp[hlt]
  refine yX (ig 1 S rfl ho (aj (aj hd)) hx λam di dk af=>?_)
  obtain⟨q1,q2⟩:=hok.2 ps[i] (z5 hlt)
  obtain⟨k1,k2,k3,k4,k5⟩:=nj q1
  have hlen:fs.length<=i:=by have:=SO.len;rw[Bc] at this;exact y63 this
  refine yX (m:=G9 [cQ ps[i]] (setAdd D (.float ps[i].1 ps[i].2))) (zp ?_)
  refine zp (yX (fS k1 k2 k3 k4 ?_))
  refine vA SI (af.obj _ m0) q1 (by have:=hok.1;exact y64 hlt hlen this) q2 (λq hq=>(hok.2 q (AD (SO.sub q hq))).2) (af.nb G) λak fs3 es3 tb3 ep3 b c9 ho3 SI3 c1 c2 c3 ei=>?_
  have ae:=af.change (o':=iB es3 ep3 tb3) 0 rfl c9 ho3
  refine yY ⟨Ao Jy _,?_⟩
  have ht:ps.take (i+1)=ps.take i++[ps[i]]:=List.take_succ_eq_append_getElem hlt
  refine ih (i+1) fs3 es3 ep3 tb3 di _ (z9a hk) hlt SI3 ⟨λq hq=>?_,λq hq=>?_,?_⟩ (ei.trans hl) ⟨K.os,K.gens⟩ dk ae
  ·rw[ht]
   rcases c1 q hq with rfl|h
   ·exact yZ _ (.head _)
   ·exact y5 _ (SO.sub q h)
  ·rw[ht] at hq
   rcases zc.mp hq with h|h
   ·exact c2 _ (.inr (SO.all q h))
   ·cases y6.mp h
    exact c2 _ (.inl rfl)
  ·have:=SO.len
   rw[ht,zK]
   exact zk c3 (C4 this)
theorem hV(a:Value){Q₁:VP}
  (h:Q₁ (.ref s.heap.objs.size) { s with heap:=s.heap.push { cls:=.type "set", dict:=none,data:=.set #[] 0 (.fresh 0 0 (!(w.params.followText "set-order"))) } }) :
  zS (y0 prog w) A (.call (.builtin "set.__new__") ⟨[.type "set", a],[]⟩) (NG Q₁ E) s:=by
 refine EU ?_
 show y4 _ A.in1 (do EB "set.__new__" ⟨[.type "set", a],[]⟩;again (.builtin "set.__new__" ⟨[.type "set", a],[]⟩)) _ _ s
 refine yX (As (PySem.F.newCall_set_1 a) (yY ⟨Ao PySem.F.plain_set_new _,z8 PySem.F.entry_set_new ?_⟩))
 unfold At.«set.__new__» MG
 have hsub:=PySem.sub_set_self
 obtain⟨hp,g,d,tk,os⟩:=s
 wp_walk
 refine BW (yY ?_)
 refine yX (Lm (yY ?_))
 exact yY h
theorem xM{Q:VP}(G:Gd K tabs hb)(hh:A.handled=none)(S:St hb tabs L l T s.heap)(hm:(d,ap (ps.map cQ) n)∈T)(hok:nP ps)
  (h:∀ (s':y9) D fs es ep tb,Kp s s'->lG fs es tb->SetOf ps fs->(tb.led = !(w.params.followText "set-order"))->St hb tabs L l ((D,iB es ep tb)::T) s'.heap->Q (.ref D) s') :
  y4 (y0 prog w) A (call (.type "set") [.ref d]) Q E s:=by
 obtain⟨c,tl,hmro⟩:=Cj.mro
 have hmade:=Cj.made
 have hsub:=Cj.sub
 refine BO (EU ?_)
 refine yY ⟨JP _ (by decide +kernel),z8 PySem.F.entry_type_call ?_⟩
 rw[Around.under_plain (weight_type_call_type "set" [.ref d] []) rfl]
 have h1:=Cj.notType
 have h2:=Cj.canCreate
 have hct:=PySem.F.typeCall_set_1 (.ref d)
 repeat (any_goals (first|assumption|wp_step))
 refine Gn (hV (.ref d) (E:=E) (Q₁:=λobj s₁=>obj=.ref s.heap.objs.size/\s₁ = { s with heap:=s.heap.push { cls:=.type "set", dict:=none,data:=.set #[] 0 (.fresh 0 0 (!(w.params.followText "set-order"))) } }) ⟨rfl,rfl⟩) λr s₁ hr=>?_
 generalize hled:(!(w.params.followText "set-order"))=led at *
 cases r with
 | error e=>exact hr
 | ok fl =>
  cases fl with
  | ret obj =>
   obtain⟨rfl,rfl⟩:=hr
   have ah:=S.push (iB #[] 0 (.fresh 0 0 led))
   have hS:(s.heap.push { cls:=.type "set", dict:=none,data:=.set #[] 0 (.fresh 0 0 led) }).get? s.heap.objs.size=some { cls:=.type "set", dict:=none,data:=.set #[] 0 (.fresh 0 0 led) }:=zQ _ rfl
   have hT:ML { s with heap:=s.heap.push { cls:=.type "set", dict:=none,data:=.set #[] 0 (.fresh 0 0 led) } } (.ref s.heap.objs.size) "set" := ⟨_,hS,rfl⟩
   have hli:=Cj.init.lookup
   have hbi:=Cj.init.bind (.ref s.heap.objs.size)
   repeat (any_goals (first|assumption|wp_step))
   refine Gn (Cn (R:=NG (λr ag=>r=.none/\Q (.ref s.heap.objs.size) ag) E) Cj.init.plain PySem.F.entry_set_init (PySem.check_set_init_1 hT ?_)) λbw ag bp=>?_
   ·have hl1:(s.heap.push { cls:=.type "set", dict:=none,data:=.set #[] 0 (.fresh 0 0 led) }).IsList d (ps.map cQ).toArray:=⟨_,ah.obj _ (.tail (s.heap.objs.size,iB #[] 0 (.fresh 0 0 led)) hm),rfl,n,rfl⟩
    have hol':=ah.obj _ (.tail (s.heap.objs.size,iB #[] 0 (.fresh 0 0 led)) hm)
    have hsls:=PySem.F.sub_list_set
    have hslf:=PySem.F.sub_list_frozenset
    have hne:(Ai "list" == Ai "dict")=false:=by decide
    unfold At.«set.__init__» noKeywords LU
    generalize hPI:EI=PI
    wp_walk
    subst hPI
    refine B7 hl1 (yX (GY ?_))
    have af:=(ah.push (gV d 0)).perm (AJ _ _ _)
    refine pE (s:=s) (ld:=led) G (by simp[hh]) hok hm ?_ ps.length 0 [] #[] 0 (.fresh 0 0 led) (gV d 0) _ rfl (zA _) (sk _ _ _) ⟨λq hq=>(by cases hq),λq hq=>(by cases hq),zA _⟩ rfl ⟨rfl,id⟩ ⟨rfl,rfl⟩ af
    exact λs' fs es' ep' tb' K' SI' SO' hl' S'=>yY (yY ⟨rfl,h s' _ fs es' ep' tb' K' SI' SO' hl' S'⟩)
   ·cases bw with
    | error e=>exact bp
    | ok fw =>
     cases fw with
     | ret r =>
      obtain⟨rfl,hq⟩:=bp
      repeat (any_goals (first|assumption|wp_step))
     | _=>exact bp.elim
  | _=>exact hr.elim
end
end
section
open SetTable SetA
theorem bC:Ny "set_iterator" "__next__" "set_iterator.__next__" :=
 .of (owner := "set_iterator") (n := "__next__") (by rw[Bf,z9];kernel_rfl) (by decide +kernel) (by decide +kernel) (by decide +kernel)
  (by first|exact .inl (by decide +kernel)|exact .inr (by decide +kernel)) (by rw[AZ];kernel_rfl)
theorem eL:Ny "set_iterator" "__iter__" "set_iterator.__iter__" :=
 .of (owner := "set_iterator") (n := "__iter__") (by rw[Bf,z9];kernel_rfl) (by decide +kernel) (by decide +kernel) (by decide +kernel)
  (by first|exact .inl (by decide +kernel)|exact .inr (by decide +kernel)) (by rw[AZ];kernel_rfl)
theorem dY:Dm Hb "set_iterator.__next__" = some At.«set_iterator.__next__»:=BX (by kernel_rfl)
theorem i3:Dm Hb "set_iterator.__iter__" = some At.«dict_keyiterator.__iter__» :=
 Gz (id' := "dict_keyiterator.__iter__") (by kernel_rfl) rfl (by decide +kernel) (by kernel_rfl)
theorem jr:Dm Hb "set.__iter__" = some At.«frozenset.__iter__» :=
 Gz (id' := "frozenset.__iter__") (by kernel_rfl) rfl (by decide +kernel) (by kernel_rfl)
theorem eR (a:Value):CI "set_iterator.__next__" ⟨[a],[]⟩:=by unfold CI;kernel_rfl
theorem ju (a:Value):CI "set_iterator.__iter__" ⟨[a],[]⟩:=by unfold CI;kernel_rfl
noncomputable abbrev nW (a i:Nat) (d:ze) (n ep:Nat):AO:={ cls:=.type "set_iterator", dict:=none,data:=.fields #[Cv a,Cv i,.ref d,Cv n,Cv ep] }
noncomputable def byT (w:Am):Bool:=w.params.followText "set-order"
noncomputable def posN(t:Az):Nat->Nat
 | 0=>0
 | k+1=>t.place.getD k 0+1
noncomputable def lS(w:Am)(t:Az)(i:Nat):Nat:=if byT w=true then 0 else posN t i
theorem jI{α:Type}:∀ (l:List α) (i:Nat) (h:i<l.length),(l[i]::l.eraseIdx i).Perm l
 | a::l,0,h=>BE _
 | a::l,i+1,h=>by
  have hi:i<l.length:=HX h
  exact (AJ _ _ _).trans (zL a (jI l i hi))
noncomputable def oT(w:Am)(d:ze)(ep:Nat)(es:Array (Int×Value)):Array (Int×Value):=if byT w=true then pickOrder (w.params.setOrder d ep) es else es
theorem rz{t:Az}(B:Tb t){i:Nat}(hi:i<=t.place.size):below t.place (posN t i)=i:=by
 cases i with
 | zero =>
  obtain⟨a,b,c⟩:=ir t.place 0 B.up
  rcases Nat.eq_zero_or_pos (below t.place 0) with h|h
  ·exact h
  ·exact absurd (b 0 h) (Bo _)
 | succ k =>
  obtain⟨a,b,c⟩:=ir t.place (t.place.getD k 0+1) B.up
  rcases Dq (below t.place (t.place.getD k 0+1)) (k+1) with h|h|h
  ·have:=c k (zg7 h) hi
   exact y68 this
  ·exact h
  ·have h1:=b (k+1) h
   have h2:=B.up k (k+1) (Be _) (zJ h a)
   exact y6a h1 h2
theorem xZ{α:Type}{next:Nat->Nat}{f k:Nat}{l:List α}{out:Array α}:pickOrder.go next (f+1) k l out=(match l[next k % l.length]? with|some x=>pickOrder.go next f (k+1) (l.eraseIdx (next k % l.length)) (out.push x)|none=>out):=rfl
theorem vU{α:Type}(next:Nat->Nat):∀ (f k:Nat) (l:List α) (out:Array α),l.length<=f->(pickOrder.go next f k l out).toList.Perm (out.toList++l):=by
 intro f
 induction f with
 | zero =>
  intro k l out h
  have:l=[]:=List.length_eq_zero_iff.mp (Lq.mp h)
  subst this
  rw[Al]
  exact BE _
 | succ f ih =>
  intro k l out h
  rw[xZ]
  cases l with
  | nil=>rw[Al];exact BE _
  | cons x r =>
   have hlt:next k % (x::r).length<(x::r).length:=MD _ (Ft _)
   rw[zj hlt]
   refine (ih (k+1) _ _ (by rw[List.length_eraseIdx_of_lt hlt];simp only[zI] at h ⊢;exact Cy h)).trans ?_
   rw[Array.toList_push,zu]
   exact D7 _ (jI _ _ hlt)
theorem qh{α:Type}(next:Nat->Nat)(xs:Array α):(pickOrder next xs).toList.Perm xs.toList:=by
 have:=vU next xs.size 0 xs.toList #[] (by rw[Ba];exact zh _)
 exact this
theorem mV(w:Am)(d:ze)(ep:Nat)(es:Array (Int×Value)):(oT w d ep es).toList.Perm es.toList:=by
 unfold oT
 split
 ·exact qh _ _
 ·exact BE _
theorem j8(w:Am)(d:ze)(ep:Nat)(es:Array (Int×Value)):(oT w d ep es).size=es.size:=by
 have:=(mV w d ep es).length_eq
 rwa [Ba,Ba] at this
section
variable{t:Az}
structure rD(w:Am)(d:ze)(fs:List (UInt64×AN))(es:Array (Int×Value))(ep:Nat)(t:Az)(h:AE):Prop where
 obj:h.get? d=some (iB es ep t)
 inv:lG fs es t
 led:t.led = !(byT w)
theorem iu{Q:BP}(h:Q (byT w) s):y4 (y0 prog w) A setsByText Q E s:=by
 exact yX (BW (yY h))
theorem jv{Q:Option (Value×Nat)->y9->Prop}(X:rD w d fs es ep t s.heap)(hi:i<=es.size)(h:Q ((oT w d ep es)[i]?.map λe=>(e.2,lS w t (i+1))) s) :
  y4 (y0 prog w) A (setNext d (lS w t i) i ep) Q E s:=by
 refine yX (aK X.obj X.inv.okc ?_)
 dsimp only
 refine yX (iu ?_)
 cases hb:byT w with
 | true =>
  rw[if_pos rfl,if_neg (by rw[bne_self_eq_false];exact zN)]
  refine yX (yX (aK X.obj X.inv.okc ?_))
  dsimp only
  refine yX (iu ?_)
  rw[hb,if_pos rfl]
  refine yX (BW (yY ?_))
  refine yY ?_
  unfold oT lS at h
  rw[hb,if_pos rfl] at h
  rw[if_pos rfl] at h
  unfold lS
  rw[hb,if_pos rfl]
  exact h
 | false =>
  refine aQ zN ?_
  have hpl:=X.inv.plain
  show y4 _ _ (if (!t.plain&&decide (es.size > 1))=true then _ else _) Q E s
  rw[hpl,HB,Jk,if_neg zN]
  have hld:=X.led
  rw[hb] at hld
  show y4 _ _ ((if (!t.led&&!es.isEmpty)=true then _ else Au ())>>=_) Q E s
  rw[hld,Bool.not_false,HB,Jk,if_neg zN]
  refine yX (yY ?_)
  unfold lS at h ⊢
  rw[hb,if_neg zN] at h
  rw[hb,if_neg zN]
  rw[rz X.inv.tb (by rw[X.inv.sz];exact hi)]
  unfold oT at h
  rw[hb,if_neg zN] at h
  rcases AM i es.size with hlt|hge
  ·have hlt':i<t.place.size:=by rw[X.inv.sz];exact hlt
   rw[zE hlt,zE hlt']
   rw[zE hlt] at h
   have e:t.place.getD i 0=t.place[i]:=by rw[zG,zE hlt'];rfl
   have e2:posN t (i+1)=t.place[i]+1:=by show t.place.getD i 0+1=_;rw[e]
   rw[e2] at h
   exact yY h
  ·rw[BC hge]
   rw[BC hge] at h
   exact yY h
theorem lR{Q:VP}(X:rD w d fs es ep t s.heap)(h:Q (.ref s.heap.objs.size) (wh s (s.heap.push (nW 0 0 d es.size ep)))):y4 (y0 prog w) A (EI (.ref d)) Q E s:=by
 have hT:s.TypeIs (.ref d) "set" := ⟨_,X.obj,rfl⟩
 refine Hg hT IP (zT IP hT jr ?_ (PySem.F.args_set_iter_1 _))
 unfold At.«frozenset.__iter__» MX slotArgs
 simp only[KJ,HB,GI,↓reduceIte,bind_assoc,Cf,bne_self_eq_false]
 refine yX (yY ?_)
 try dsimp only
 refine yX (yY ?_)
 refine yX (yX (yX (aK X.obj X.inv.okc (yY (yY ?_)))))
 refine yX (yX (aK X.obj X.inv.okc ?_))
 refine yX (iu (yY ?_))
 have hpl:=X.inv.plain
 show y4 _ _ (if (!(byT w)&&(!t.plain&&decide (es.size > 1)))=true then _ else _) _ _ s
 rw[hpl,HB,Jk,Jc,if_neg zN]
 refine yX (yY ?_)
 refine yX (yX (aK X.obj X.inv.okc (yY ?_)))
 refine yX (Aa (yY ⟨_,rfl, "set_iterator", _,⟨_,zQ _ rfl,rfl⟩,bC.lookup,?_⟩))
 exact h
theorem pD{Q:Option Value->y9->Prop}(X:rD w d fs es ep t s.heap)(hit:s.heap.get? I=some (nW (lS w t i) i d es.size ep))(hi:i<es.size){x:Int×Value}(hx:(oT w d ep es)[i]? = some x)
  (h:∀ h',BV I s.heap h'->h'.get? I=some (nW (lS w t (i+1)) (i+1) d es.size ep)->Q (some x.2) (wh s h')):y4 (y0 prog w) A (De (.ref I)) Q E s:=by
 have hT:s.TypeIs (.ref I) "set_iterator" := ⟨_,hit,rfl⟩
 refine yX (Ds (z4 (name:=yW "__next__") hT bC
  (zT bC hT dY ?_ (eR _))))
 refine yX (yY ?_)
 refine yX (GQ hit rfl ?_)
 refine yX (yX (aK X.obj X.inv.okc (yY ?_)))
 refine aQ (by simp) (yX (m:=setNext d (lS w t i) i ep) (jv X (Af hi) ?_))
 rw[hx]
 refine yX (m:=setField (.ref I) 0 (Cv (lS w t (i+1):Nat))) (DC hit rfl (by simp) ?_)
 have h1:=zq (MO (·.setIfInBounds 0 (Cv (lS w t (i+1):Nat)))) hit rfl
 refine yX (DC h1 rfl (by simp) ?_)
 have h2:=zq (MO (·.setIfInBounds 1 (Cv ((i:Int)+1)))) h1 rfl
 refine yY ⟨_,rfl,yY ?_⟩
 exact h _ ((zt ..).trans (zt ..)) h2
theorem sg{Q:Option Value->y9->Prop}(hh:A.handled=none)(X:rD w d fs es ep t s.heap)(hit:s.heap.get? I=some (nW (lS w t es.size) es.size d es.size ep))
  (h:∀ h',Ha I s.heap h'->Q none (wh s h')):y4 (y0 prog w) A (De (.ref I)) Q E s:=by
 have hT:s.TypeIs (.ref I) "set_iterator" := ⟨_,hit,rfl⟩
 refine yX (Ds (z4 (name:=yW "__next__") hT bC
  (zT bC hT dY ?_ (eR _))))
 refine yX (yY ?_)
 refine yX (GQ hit rfl ?_)
 refine yX (yX (aK X.obj X.inv.okc (yY ?_)))
 refine aQ (by simp) (yX (m:=setNext d (lS w t es.size) es.size ep) (jv X (zh _) ?_))
 rw[BC (by rw[j8];exact zh _)]
 refine yX (m:=setField (.ref I) 2 .none) (DC hit rfl (by simp) ?_)
 refine yX (m:=Nz (.type "StopIteration") []) (yX (Aa ?_ (by size_fits)))
 refine yX (m:=C8 _ _) (As (a:=CK) (by first|rfl|(simp only[C8];rfl)) ?_)
 refine Aa ?_ (by size_fits)
 refine yX (Hw ?_)
 rw[show A.in1.handled=none from hh]
 refine yX (yY (I1 ?_))
 refine yX (AL (T := "StopIteration") (b:=true) ⟨_,zQ _ rfl,rfl⟩ GH ?_)
 exact yY (h _ (((zt ..).extBut.push _).push _))
theorem pC{a b n:Nat}{Q:VP}(hit:s.heap.get? I=some (nW a b d n ep))(h:Q (.ref I) s):y4 (y0 prog w) A (EI (.ref I)) Q E s:=by
 have hT:s.TypeIs (.ref I) "set_iterator" := ⟨_,hit,rfl⟩
 refine Hg hT eL (zT eL hT i3 ?_ (ju _))
 refine yX (yY ?_)
 exact yY ⟨_,rfl, "set_iterator", _,hT,bC.lookup,h⟩
theorem nV(hh:A.handled=none)(I d:ze)(hne:d≠I) :
  Walks prog w A I [I,d] [I] es.size (λi v=>∃ x,(oT w d ep es)[i]? = some x/\v=x.2) (λi h=>h.get? I=some (nW (lS w t i) i d es.size ep)/\rD w d fs es ep t h) where
 sub:=λb hb=>by simp at hb;simp[hb]
 frame:=λZ Z Z st hk=>⟨hk I (by simp) _ st.1,hk d (by simp) _ st.2.obj,st.2.inv,st.2.led⟩
 item:=λi s Q E hi st hQ=>by
  have hx:(oT w d ep es)[i]? = some ((oT w d ep es)[i]'(by rw[j8];exact hi)):=zE _
  exact pD st.2 st.1 hi hx λh' hs hit'=>(hQ _ h' s.toks ⟨_,hx,rfl⟩ ⟨hit',hs.extBut d _ hne st.2.obj,st.2.inv,st.2.led⟩ λb o hb e=>hs.extBut b o (λh=>hb (by simp[h])) e)
 done:=λs Q E st hQ=>sg hh st.2 st.1 λh' he'=>hQ h' s.toks λb o hb e=>he' b o (λh=>hb (by simp[h])) e
 self:=λZ Z Z Z st hQ=>pC st.1 hQ
theorem te {Q:BP} (hT:s.TypeIs (.ref d) "set") (h:Q false s):y4 (y0 prog w) A (L2 (.ref d)) Q E s:=by
 refine yX (BS hT PySem.F.slot_set_len.lookup ?_)
 generalize hid:("set.__len__" : String)=id0
 wp_delta
 subst hid
 refine yX (AL (T := "set") (b:=true) hT (by rw[AZ];kernel_rfl) ?_)
 refine EW (λhab=>absurd hab (by decide)) (λZ=>?_)
 refine EW (λZ=>?_) (λhab=>absurd (by decide +kernel) hab)
 refine yX (Dn hT ?_)
 exact yY h
theorem sf (X0:lG fs es t) (hl:t.led = !(byT w)):KdlSrc prog w "set" d d es.size (λi v=>∃ x,(oT w d ep es)[i]? = some x/\v=x.2) (λh=>h.get? d=some (iB es ep t)) where
 type:=λZ hm=>⟨_,hm,rfl⟩
 there:=λZ hm=>⟨AH hm,AH hm⟩
 keep:=λZ Z hm hk=>hk d (.inl rfl) _ hm
 notList:=by decide
 notTuple:=by decide
 hint:=λZ Z Z Z hm hq=>te ⟨_,hm,rfl⟩ hq
 iter:=λZ s hh hm=>⟨_,_,(λZ Z hq=>lR ⟨hm,X0,hl⟩ hq),nV (fs:=fs) (t:=t) hh _ d (Ab (AH hm)),
  ⟨(by
   have e:lS w t 0=0:=by unfold lS;split<;> rfl
   rw[e]
   exact zQ _ rfl),zz _ hm,X0,hl⟩⟩
theorem lJ{n r:Nat}{T:String}{P:Nat->Value->Prop}{OK:AE->Prop}{R:LP}(K:KdlSrc prog w T r d n P OK)(hh:A.handled=none)(hok:OK s.heap)(hn:n<=DU)
  (h:∀ (h':AE) (tk:Nat) (acc:Array Value),(∀ b o,s.heap.get? b=some o->h'.get? b=some o)->ItemsOf P acc n->R acc.toList (wht s h' tk)) :
  y4 (y0 prog w) A (collect (.ref r)) R E s:=by
 obtain⟨hr,hd⟩:=K.there _ hok
 refine yX (GY (z8 entry_proto_collect' ?_))
 refine yX (Aa ?_)
 refine yY ⟨Ao HP _,z8 entry_list_iadd' ?_⟩
 have hS1:(s.heap.push { cls:=.type "list", data:=.seq ([]:List Value).toArray }).get? s.heap.objs.size=some { cls:=.type "list", data:=.seq #[] }:=zQ _ rfl
 have key:=kdl_extend (A:=A) (s:={ s with heap:=s.heap.push { cls:=.type "list", data:=.seq ([]:List Value).toArray } })
  (R:=λ(q:Cg) (s':y9)=>∃ (h':AE) (tk:Nat) (acc':Array Value) (c':Nat),q=.ok (.ret (.ref s.heap.objs.size))/\s'=wht s h' tk /\
   (∀ b o,s.heap.get? b=some o->h'.get? b=some o)/\h'.get? s.heap.objs.size=some { cls:=.type "list", dict:=none,data:=.seq acc' c',slots:=#[] }/\ItemsOf P acc' n)
  K hh (K.keep _ _ hok λb Z o e=>zz _ e) s.heap.objs.size (Cc hr) (Cc hd) (.ref s.heap.objs.size) 0 hS1
  (λh' tk acc' c' hk hS' hG=>⟨h',tk,acc',c',rfl,rfl,λb o e=>hk b o (Ab (AH e)) (zz _ e),hS',hG⟩) hn
 refine zf key (λfin s' x=>?_) λe s' x=>?_
 ·cases fin with
  | done f =>
   obtain⟨h',tk,acc',c',e,rfl,hk,hS',hG⟩:=x
   cases e
   refine yX (m:=load s.heap.objs.size) (Dr hS' ?_)
   exact yY (h h' tk acc' hk hG)
  | again g8 =>
   refine⟨x.1,Gn x.2 λq ag y=>?_⟩
   obtain⟨h',tk,acc',c',rfl,rfl,hk,hS',hG⟩:=y
   refine yX (m:=load s.heap.objs.size) (Dr hS' ?_)
   exact yY (h h' tk acc' hk hG)
 ·obtain⟨_,_,_,_,e',_⟩:=x
  cases e'
end
end
section
open PySem.Spec
theorem o9 (a:Value):CI "sorted" ⟨[a],[]⟩:=by unfold CI;kernel_rfl
theorem rZ{rkv:Value->Nat}{vs:List Value}{p:Array Nat}(hp:Pm vs.length p)(hs:aS (λi=>rkv (vs.getD i .none)) p vs.length) :
  (p.toList.map λi=>vs.getD i .none).Perm vs/\(p.toList.map λi=>vs.getD i .none).Pairwise (λa b=>rkv a<=rkv b):=by
 refine⟨perm_of hp,?_⟩
 rw[EG]
 intro i j hi hj hij
 rw[zb,Ba] at hi hj
 have h:=hs i j (Af hij) (by rw[<- hp.size];exact hj)
 unfold Rk at h
 rw[DD,DD,Eu,Eu]
 have e1:p.getD i 0=p[i]:=by simp[GF,hi]
 have e2:p.getD j 0=p[j]:=by simp[GF,hj]
 rw[e1,e2] at h
 exact h
section
variable{tabs:List ze}{l:LV}{T:LO}{t:Az}
theorem wP{f g:UInt64}{t u:AN}{Q:BP}(h:Q (zV f g==some Ordering.lt) s):y4 (y0 prog w) A (IY Mi (.float f t) (.float g u)) Q E s:=by
 exact iP h
theorem vK{ps:List (UInt64×AN)}{Q:VP}{n:Nat}(rkF:UInt64->Nat)(S:St hb tabs L l ((d,ap (ps.map cQ) n)::T) s.heap)(h64:ps.length<64)
  (hrk:∀ p∈ps,∀ q∈ps,(zV p.1 q.1==some Ordering.lt)=decide (rkF p.1<rkF q.1))
  (k:∀ s' n' (P:List (UInt64×AN)),Kp s s'->P.Perm ps->P.Pairwise (λa b=>rkF a.1<=rkF b.1)->St hb tabs L l ((d,ap (P.map cQ) n')::T) s'.heap->Q .none s') :
  y4 (y0 prog w) A (call (.builtin "list.sort") [.ref d]) Q E s:=by
 have hlen:(ps.map cQ).length=ps.length:=zb _
 have mem:∀ i,i<(ps.map cQ).length->∃ p∈ps,(ps.map cQ).getD i .none=cQ p:=λi hi=>by
  have hi':i<ps.length:=by rw[<- hlen];exact hi
  exact⟨ps[i],z5 _,by rw[Bg,zB,zj hi'];rfl⟩
 by_cases h2:2<=ps.length
 ·refine pO (pre:=[]) (post:=T) (Tt:=.type "float") (H:=True) (rk:=λi=>(λv=>match v with|.float f _=>rkF f|_=>0) ((ps.map cQ).getD i .none)) S (by rw[hlen];exact h2) (by rw[hlen];exact h64) (λh' Z v hv=>?_) rfl (by kernel_rfl) (λs' e1 K' S' i j hi hj C hC=>?_) λs' n' p K' hpm hso S'=>?_
  ·obtain⟨p,-,rfl⟩:=za.mp hv
   exact .now
  ·obtain⟨p,hp,e1⟩:=mem i hi
   obtain⟨q,hq,e2⟩:=mem j hj
   rw[e1,e2]
   refine wP (hC _ s'.toks λZ=>?_)
   rw[hrk p hp q hq,e1,e2]
  ·obtain⟨a,b⟩:=rZ (rkv:=λv=>match v with|.float f _=>rkF f|_=>0) hpm (hso trivial)
   obtain⟨P,hP,hperm⟩:=bO _ a
   rw[hP,AT] at b
   refine k s' n' P K' hperm b ?_
   rw[<- hP]
   exact S'
 ·refine iH 0 S rfl (by rw[hlen];exact z0d h2) λh' n' S'=>(k (wh s h') n' ps ⟨rfl,id⟩ (BE _) ?_ S')
  exact mS h2
theorem lO {Q:VP} (rkF:UInt64->Nat) (hh:A.handled=none) (S:St hb tabs L l T s.heap) (hm:(d,iB es ep t)∈T) (SI:lG fs es t) (hl:t.led = !(w.params.followText "set-order"))
  (hrk:∀ p∈fs,∀ q∈fs,(zV p.1 q.1==some Ordering.lt)=decide (rkF p.1<rkF q.1))
  (k:∀ s' D n' (P:List (UInt64×AN)),Kp s s'->P.Perm fs->P.Pairwise (λa b=>rkF a.1<=rkF b.1)->St hb tabs L l ((D,ap (P.map cQ) n')::T) s'.heap->Q (.ref D) s') :
  y4 (y0 prog w) A (call (.builtin "sorted") [.ref d] []) Q E s:=by
 refine Ie kind_sorted plain_sorted entry_sorted (o9 _) (yX (m:=Mn "sorted" 1 1 _) (yY ?_))
 have h7:=SI.few
 have hsz:=SI.size
 refine yX (lJ (sf (d:=d) (ep:=ep) SI hl) hh (S.obj _ hm) (by rw[zw,hsz];exact up 16777209 h7) λh' tk acc hk hacc=>?_)
 have ah:=S.grown hk
 have hacc':acc.toList=(oT w d ep es).toList.map (·.2):=by
  apply Ct
  intro i
  rw[zB,IQ,IQ]
  rcases AM i acc.size with hi|hi
  ·obtain⟨x,hx,e⟩:=hacc.2 i acc[i] (zE hi)
   rw[hx,zE hi,e];rfl
  ·rw[BC hi,BC (by rw[j8,<- hacc.1];exact hi)];rfl
 have hp:acc.toList.Perm (fs.map cQ):=by
  rw[hacc']
  have:=((mV w d ep es).trans SI.perm).map (·.2)
  rw[CN] at this
  exact this
 obtain⟨P0,hP0,hperm⟩:=bO _ hp
 rw[hP0]
 have hl0:P0.length=fs.length:=hperm.length_eq
 refine yX (EQ ?_ (by rw[zw,zb];exact y6d h7 hl0))
 have ae:=ah.push (ap (P0.map cQ) 0)
 refine yX (zp ?_)
 exact vK rkF ae (y2q h7 hl0) (λp hp q hq=>hrk p (hperm.mem_iff.mp hp) q (hperm.mem_iff.mp hq)) λs' n' P K' hP hw S'=>(yY ⟨_,rfl,k s' _ n' P ⟨K'.os,K'.gens⟩ (hP.trans hperm) hw S'⟩)
end
end
section
open PySem.Spec PySem.SeqAt
noncomputable abbrev yA(Es:List Sc):List (UInt64×AN):=Es.map λe=>(e.f,e.ft)
structure Shr(Es:List Sc)(P:List (UInt64×AN)):Prop where
 shl:∀ q∈P,q.1∈shL
 sub:∀ q∈P,∃ e∈Es,e.f=q.1
 pos:P≠[]
 len:P.length<=7
section
variable{sc:ze}{T:LO}{n c:Nat}{tm:AN}{xs:List WX}{x:WX}{ow:AO}{l:LV}{Es:List Sc}{d2:Hp}
noncomputable abbrev lv5 (D:ze) (m:Nat) (tm:AN) (pd dw sc:ze):LV:=(yW "scored", .ref D)::lv4 m tm pd dw sc
theorem law_f(G:GK w hb)(hd:A.depth+60<zg)(hu:A.units+200<Aw)(hh:A.handled=none)(hg:A.guards=some [])(hS:Scd w T x xs Es)(hT:kJ Es)(h1:1<=xs.length)(h6:xs.length<=7)(hshl:∀ e∈Es,e.f∈shL)
  (hcw:(L'+1,ow)∈T) (how:ow.data=.cell (some x.v)) (hD:(D,ap (aB Es) c)∈T) (r1:Rd T x.v d1 2 200) (r2:Rd T (.ref pd) d2 2 200) (S:St hb tabs L' (lv5 D m tm pd dw sc) T s.heap) {Q:FP}
  (k:∀ (s':y9) (X:LO) (F:ze) (cf:Nat) (t:AN) (P:List (UInt64×AN)),Kp s s'->Shr Es P ->
   St hb tabs L' ((yW "shares", .ref F)::(yW "before", .str (Hn [d1,d2]).shown t)::lv5 D m tm pd dw sc) ((F,ap (P.map cQ) cf)::(X++T)) s'.heap->y4 (y0 pw w) A (zY (iW.drop 6) (evL w L')) Q E s') :
  y4 (y0 pw w) A (zY (iW.drop 5) (evL w L')) Q E s:=by
 have hlen:Es.length=xs.length:=by
  have:=hS.perm.length_eq
  rwa [zb] at this
 refine eM [yW "shares", yW "before"] (args_cons (oM (env:=evL w L') G S eA (args_cons (uT (env:=evL w L') G S (id := "set") (by kernel_rfl) (args_cons (cN (hb:=hb) (tabs:=tabs) (cl:=[]) (env:=evL w L') hh ?_ (.inr ⟨_,_,_,rfl⟩) rfl (by decide) rfl (by decide)))))))
 refine au (env:=evL w L') S m0 ⟨L',_,T,D,aB Es,c,λi acc X=>X=[]/\acc=(yA (Es.take i)).map cQ,⟨rfl,S,hD,by rw[aJ];exact y30 h6 hlen,⟨rfl,rfl⟩,?_⟩,?_⟩
 ·rintro C' D' oL' E' i v acc c' X own ag hi hacc ⟨rfl,hJ⟩ bp ao af
  have hv:∃ e,Es[i]? = some e/\v=.ref e.a:=by
   rw[aB,zB] at hi
   obtain⟨e,h1,h2⟩:=zW.mp hi
   exact⟨e,h1,h2.symm⟩
  obtain⟨e,he,rfl⟩:=hv
  refine cI hh af (y5 _ (aj (aj (hS.ok e (zm he)).1))) (λak ae=>ia (env:=An _ [] C' _) ae (.new (by kernel_rfl)) (λaw S4=>ia (env:=An _ [] C' _) S4 (.new (by kernel_rfl)) (λay S5=>cE (DV (au (env:=An _ [] C' _) S5 m1 ⟨[],_,⟨ao.os,ao.gens⟩,S5,rfl,?_⟩)))))
  rw[hJ,Ah,he]
  simp[yA]
 ·rintro ag bd acc c' X ao af f9 ⟨rfl,rfl⟩
  rw[aJ,zX] at af
  refine zn (xM (ps:=yA Es) G hh af m0 ⟨by rw[zb];exact le_of_eq_of_le hlen h6,λp hp=>?_⟩ ?_)
  ·obtain⟨e,he,rfl⟩:=za.mp hp
   exact⟨hshl e he,(hT e he).1⟩
  refine λs3 D3 fs es ep tb ax I O hled ae=>zn (lO UInt64.toNat hh ae m0 I hled ?_ ?_)
  ·intro p hp q hq
   rw[nH (I.shl p hp) (I.shl q hq)]
   rcases Dq p.1.toNat q.1.toNat with h|h|h
   ·rw[Fv.mpr h,decide_eq_true h];rfl
   ·rw[Fw.mpr h,decide_eq_false (by exact z20 h)];rfl
   ·rw[Hm.mpr h,decide_eq_false (Nat.not_lt_of_gt h)];rfl
  refine λs4 F cf P K4 hP hw S4=>args_cons (oM (env:=evL w L') G S4 boot_repr (args_cons (bF (args_cons (bI (env:=evL w L') (c:=L'+1) S4 (aj (aj (aj hcw))) how (aln (env:=evL w L') S4 m2 ⟨rfl,_,_,_,_,_,by exact S4,?_⟩))))))
  refine λD5 ay S5=>zn (uD r1 r2 S5 (λp hp=>aj (aj (aj hp))) hg (dn 190 hu) ?_)
  refine λs6 t K6 S6=>zn ⟨rfl,rfl,hh,_,_,_,_,_,S6,?_⟩
  refine λba S7=>mz (aT (env:=evL w L') S7 (.new (by kernel_rfl)) ?_)
  refine λbc S8=>mz (aT (env:=evL w L') S8 (.new (by kernel_rfl)) ?_)
  refine λbf S9=>eQ ?_
  have hPm:∀ q∈P,q∈yA Es:=λq hq=>O.sub q (hP.mem_iff.mp hq)
  refine k _ ((D5,ap [x.v,.ref pd] 0)::[(D3,iB es ep tb),(bd,ap ((yA Es).map cQ) c')]) F cf t P ⟨K6.os.trans (K4.os.trans (ax.os.trans ao.os)),λq=>K6.gens (K4.gens (ax.gens (ao.gens q)))⟩ ⟨λq hq=>I.shl q (hP.mem_iff.mp hq),λq hq=>?_,?_,?_⟩ ?_
  ·obtain⟨e,he,h⟩:=za.mp (hPm q hq)
   exact⟨e,he,by rw[<- h]⟩
  ·intro h
   rw[h] at hP
   have h0:=hP.symm.eq_nil
   have h1:0<Es.length:=hlen▸h1
   have:=O.all _ (za.mpr ⟨Es[0],z5 h1,rfl⟩)
   rw[h0] at this
   cases this
  ·rw[hP.length_eq];exact I.few
  ·exact S9.perm (AJ _ _ _)
end
theorem vZ:(4607182418800017408:UInt64)∈shL:=by decide +kernel
section
variable{sc:ze}{T X:LO}{n c:Nat}{tm tb:AN}{Es:List Sc}{P:List (UInt64×AN)}
noncomputable abbrev lv7 (F:ze) (txt:zH) (tb:AN) (D:ze) (m:Nat) (tm:AN) (pd dw sc:ze):LV:=(yW "shares", .ref F)::(yW "before", .str txt tb)::lv5 D m tm pd dw sc
theorem law_g(G:GK w hb)(hh:A.handled=none)(H:Scr hb sc scv)(hP:Shr Es P)(hF:(F,ap (P.map cQ) cf)∈X)(hoh:oh.data=.cell none)(hoa:oa.data=.cell none)
  (S:St hb tabs L' (lv7 F txt tb D m tm pd dw sc) (X++(L'+3,oa)::(L'+2,oh)::T) s.heap) {Q:FP}
  (k:∀ (s':y9) (oa' oh':AO) (Da:ze) (f g:UInt64) (tf tg:AN) (vs:List Value) (na:Nat) (X':LO),Kp s s'->oh'.data=.cell (some (.float f tf))->oa'.data=.cell (some (.ref Da))->f∈shL->g∈shL->(∃ e∈Es,e.f=f)->vs.length<=900 ->
   St hb tabs L' (lv7 F txt tb D m tm pd dw sc) ((L'+3,oa')::(L'+2,oh')::(Da,ap (.float g tg::vs) na)::(X'++(X++T))) s'.heap->y4 (y0 pw w) A (zY (iW.drop 8) (evL w L')) Q E s') :
  y4 (y0 pw w) A (zY (iW.drop 6) (evL w L')) Q E s:=by
 have S0:St hb tabs L' (lv7 F txt tb D m tm pd dw sc) ((L'+3,oa)::(L'+2,oh)::(X++T)) s.heap:=S.perm (zs.trans (zL _ zs))
 have hFm:∀ {a b:ze×AO},(F,ap (P.map cQ) cf)∈a::b::(X++T):=aj (aj (y5 _ hF))
 have hp0:0<P.length:=Gi.mpr hP.pos
 have hp7:=hP.len
 have hP':(P.map cQ).length=P.length:=zb ..
 refine aC (gT Bb (au (env:=evL w L') S0 m0 (wpAny_BinOp (oM (env:=evL w L') G S0 B0 (aln (env:=evL w L') S0 m6 (B9 (items:=scv.toArray) (H.isList S0) (by have:=H.small;rw[zd];lia) (oM (env:=evL w L') G S0 B0 ?_)))))))
 refine aln (env:=evL w L') S0 m0 (B9 (items:=(P.map cQ).toArray) ⟨_,S0.obj _ hFm,rfl,cf,rfl⟩ (by rw[zd];lia) (iQ (m:=P.length) hp0 (by rw[zd,hP']) ?_))
 refine λi hi=>⟨⟨_,S0.obj _ hFm,rfl⟩,?_⟩
 refine gK (k:=i) (x:=cQ P[i]) S0 hFm (y30 hp7 hP') (by rw[zB,zj hi];rfl) ?_
 refine gx (env:=evL w L') (x:=yW "here") (c:=L'+2) 1 S0 rfl hoh ?_
 intro ai oh' hoh' ah
 have ah:St hb tabs L' (lv7 F txt tb D m tm pd dw sc) ((L'+3,oa)::(L'+2,oh')::(X++T)) ai:=ah
 refine aC (wpAny_BinOp (cN (hb:=hb) (tabs:=tabs) (cl:=[(yW "here", L'+2)]) (env:=evL w L') hh ?_ (.inl ⟨_,_,rfl⟩) rfl (by decide) rfl (by decide)))
 refine au (env:=evL w L') ah m0 ⟨L',_,_,F,P.map cQ,cf,λi acc X=>∃ B:List (UInt64×AN),X=[]/\acc=B.map cQ/\B.length<=i/\∀ q∈B,q∈P,⟨rfl,by exact ah,hFm,by exact y30 hp7 hP',⟨[],rfl,rfl,zh _,λq hq=>by cases hq⟩,?_⟩,?_⟩
 ·rintro C' D' oL' E' j v acc c' X2 own ag hj hacc ⟨B,rfl,rfl,hBj,hB⟩ bp ao af
  rw[zB] at hj
  obtain⟨q,hq,rfl⟩:=zW.mp hj
  refine rA (env:=An _ _ C' _) af (.new (by kernel_rfl)) (λak ae=>LN (wpAny_isTrue_Compare1 (au (env:=An _ _ C' _) ae m0 (bI (env:=An _ _ C' _) (c:=L'+2) ae (y5 _ m3) hoh' (Hl (y8 ?_))))))
  cases hc:(zV q.1 P[i].1==some Ordering.gt) with
  | true =>
   refine au (env:=An _ _ C' _) ae m0 ⟨[],_,⟨ao.os,ao.gens⟩,ae,B++[q],rfl,by rw[zD];rfl,by rw[zK];exact C4 hBj,λz hz=>?_⟩
   rcases zc.mp hz with h|h
   ·exact hB z h
   ·rw[y6] at h;subst h;exact zm hq
  | false=>exact⟨[],_,⟨ao.os,ao.gens⟩,ae,B,rfl,rfl,Ec hBj,hB⟩
 ·rintro ag Db acc c' X2 ao af f9 ⟨B,rfl,rfl,hBj,hB⟩
  refine bF (args_cons (Bn (zn ⟨rfl,_,_,_,_,_,by exact af,?_⟩)))
  refine λD3 ak ae=>pX ae m1 m0 (by rw[zb];simp only[zI,Cf];exact y36 hp7 hP' hBj) ?_
  intro Da aw S4
  have S5:St hb tabs L' (lv7 F txt tb D m tm pd dw sc) ((L'+3,oa)::(L'+2,oh')::(Da,ap (B.map cQ++[.float 4607182418800017408 ag.toks]) 0)::([(D3,ap [.float 4607182418800017408 ag.toks] 0),(Db,ap (B.map cQ) c')]++(X++T))) aw:=(show St hb tabs L' (lv7 F txt tb D m tm pd dw sc) ([(Da,ap (B.map cQ++[.float 4607182418800017408 ag.toks]) 0),(D3,ap [.float 4607182418800017408 ag.toks] 0),(Db,ap (B.map cQ) c')]++(L'+3,oa)::(L'+2,oh')::(X++T)) aw from S4).perm (zs.trans (zL _ zs))
  refine gx (env:=evL w L') (x:=yW "above") (c:=L'+3) 0 S5 rfl hoa ?_
  intro az oa' hoa' S6
  obtain⟨g,tg,vs,e,hg,hv⟩:∃ g tg vs,B.map cQ++[.float 4607182418800017408 ag.toks]=.float g tg::vs/\g∈shL/\vs.length<=900:=by
   cases B with
   | nil=>exact⟨_,_,[],rfl,vZ,zA _⟩
   | cons q r =>
    refine⟨q.1,q.2,_,rfl,hP.shl q (hB q (.head _)),?_⟩
    show (r.map cQ++[BA 4607182418800017408 ag.toks]).length<=900
    rw[zK,zb]
    exact y37 hp7 hP' hBj
  have S7:St hb tabs L' (lv7 F txt tb D m tm pd dw sc) ((L'+3,oa')::(L'+2,oh')::(Da,ap (B.map cQ++[.float 4607182418800017408 ag.toks]) 0)::([(D3,ap [.float 4607182418800017408 ag.toks] 0),(Db,ap (B.map cQ) c')]++(X++T))) az:=S6
  rw[e] at S7
  exact k _ oa' oh' Da P[i].1 g P[i].2 tg vs 0 _ ⟨ao.os,ao.gens⟩ hoh' hoa' (hP.shl _ (z5 hi)) hg (hP.sub _ (z5 hi)) hv S7
end
theorem rK:((0:UInt64)∈shL/\shL.all λc=>(zV 0 c==some Ordering.lt || zV 0 c==some Ordering.eq)&&(zV c 4607182418800017408==some Ordering.lt || zV c 4607182418800017408==some Ordering.eq)):=by decide +kernel
theorem mj(w:Am){c:UInt64}(hc:c∈shL)(t:AN):uo w (.float c t) (geF c):=by
 have h:=zC.mp rK.2 c hc
 obtain⟨h1,h2⟩:=zo.mp h
 exact⟨λhq=>NK hq,λhq=>Fz (by rw[h1];exact hq),λhq=>Fz (by rw[h2];exact hq)⟩
theorem lu:(Cx 0 0==some Ordering.lt || Cx 0 0==some Ordering.eq)=true/\(Cx 4607182418800017408 0==some Ordering.gt || Cx 4607182418800017408 0==some Ordering.eq)=true:=by decide +kernel
theorem cutI1(w:Am)(t:AN):uo w (.int 0 t) geI :=
 ⟨λhq=>NF hq,λhq=>Nb (by rw[lu.1];exact hq),λhq=>Nc (by rw[lu.2];exact hq)⟩
section
variable{sc:ze}{T:LO}{n c:Nat}{tm tb:AN}{ow:AO}{Es:List Sc}{xs:List WX}{x:WX}{l:LV}
noncomputable abbrev bodyQ:List Cq:=aD ((iW[8]?).getD AA)
theorem xq{p0:Ef}{Q:FP}(G:GK w hb)(B:BM hb)(hd:A.depth+70<zg)(hu:A.units+310<Aw)(hh:A.handled=none)(C:uo w cut g)(W:Ws w hb T x xs)(hg:∀ y∈xs,jo g y.c x.c=g (scr y.c x.c))
  (hcw:(L'+1,ow)∈T) (how:ow.data=.cell (some x.v)) (hpd:(pd,ap (xs.map WX.v) np)∈T) (hD:(D,ap (aB Es) c)∈T) (H:Scd w T x xs Es) (hm:0<m) (hm4:m<=4)
  (hl:∃ l',bV l (yW "cutoff") cut l'/\l'=(yW "cutoff", cut)::lv7 F txt tb D m tm pd dw sc)
  (S:St hb tabs L' l T s.heap) (k:∀ s' X,Kp s s'->St hb tabs L' ((yW "cutoff", cut)::lv7 F txt tb D m tm pd dw sc) (X++T) s'.heap->Q .next s') :
  y4 (y0 pw w) A (BL (.Name (yW "cutoff") p0) (evL w L') cut) (oB (y0 pw w) A (evL w L') E bodyQ Q) E s:=by
 obtain⟨l',hst,rfl⟩:=hl
 refine rA (env:=evL w L') S hst (λai ah=>lQ (isTrue_not (BY (uU (env:=evL w L') G ah (v:=.ref 326) (by kernel_rfl) (args_cons (bI (env:=evL w L') (c:=L'+1) ah hcw how (al (env:=evL w L') ah m5 (al (env:=evL w L') ah m3 ?_))))))))
 refine al (env:=evL w L') ah m4 (aln (env:=evL w L') ah m0 ⟨⟨_,_,_,by exact ah⟩,?_⟩)
 refine xd G B ah (dn 10 hd) (dn 10 hu) hh C W hg hpd hD H hm (zk hm4 (by decide)) (λag X ao af=>y8 ⟨λe=>(by cases e),λZ=>?_⟩)
 exact aF (aF (k ag X ⟨ao.os,ao.gens⟩ af))
end
theorem Scd.mono{w:Am}{T T':LO}{wd:WX}{rw:List WX}{Es:List Sc}(H:Scd w T wd rw Es)(h:∀ p∈T,p∈T'):Scd w T' wd rw Es :=
 ⟨λe he=>⟨h _ (H.ok e he).1,(H.ok e he).2.mono h⟩,H.perm,H.f,H.falls⟩
section
variable{sc:ze}{T:LO}{n c:Nat}{tm tb:AN}{ow:AO}{Es:List Sc}{xs:List WX}{x:WX}{l:LV}{f g:UInt64}{vs:List Value}
theorem law_h{Q:FP}(G:GK w hb)(B:BM hb)(hd:A.depth+70<zg)(hu:A.units+320<Aw)(hh:A.handled=none)(W:Ws w hb T x xs)(hf:f∈shL)(hg:g∈shL)
  (hcw:(L'+1,ow)∈T) (how:ow.data=.cell (some x.v)) (hch:(L'+2,oh)∈T) (hoh:oh.data=.cell (some (.float f tf))) (hca:(L'+3,oa)∈T) (hoa:oa.data=.cell (some (.ref Da))) (hDa:(Da,ap (.float g tg::vs) na)∈T) (hvs:vs.length<=900)
  (hpd:(pd,ap (xs.map WX.v) np)∈T) (hD:(D,ap (aB Es) c)∈T) (H:Scd w T x xs Es) (hm:0<m) (hm4:m<=4)
  (S:St hb tabs L' (lv7 F txt tb D m tm pd dw sc) T s.heap)
  (k:∀ s' X cut,Kp s s'->St hb tabs L' ((yW "cutoff", cut)::lv7 F txt tb D m tm pd dw sc) (X++T) s'.heap->y4 (y0 pw w) A (zY (iW.drop 9) (evL w L')) Q E s') :
  y4 (y0 pw w) A (zY (iW.drop 8) (evL w L')) Q E s:=by
 refine eY (bF (args_cons (wpAny_Constant_int (args_cons (bI (env:=evL w L') (c:=L'+2) S hch hoh (args_cons (gT Bb ?_)))))))
 refine bI (env:=evL w L') (c:=L'+3) S hca hoa (wpAny_Constant_int ⟨⟨_,S.obj _ hDa,rfl⟩,?_⟩)
 refine gv S hDa hvs (zn ⟨rfl,_,_,_,_,_,by exact S,?_⟩)
 refine λd3 ak ae=>B7 (items:=Gp _) ⟨_,ae.obj _ m0,rfl,0,rfl⟩ ?_
 have S4:=ae.push (gV d3 0)
 obtain⟨t0,I,hI,S5⟩:∃ t0 I,I=ak.objs.size/\St hb tabs L' (lv7 F txt tb D m tm pd dw sc) ((I,gV d3 0)::([]++(d3,ap [.int 0 t0,.float f tf,.float g tg] 0)::T)) (ak.push (gV d3 0)):=⟨_,_,rfl,S4⟩
 clear S4 ae
 rw[<- hI]
 have hwl:=W.wlen
 have hC:∀ cut∈[B8 0 t0,.float f tf,.float g tg],∃ g,uo w cut g/\∀ y∈xs,jo g y.c x.c=g (scr y.c x.c):=by
  intro cut hc
  rcases y7.mp hc with rfl|hc
  ·exact⟨geI,cutI1 w t0,λy hy=>by rw[sP (W.rlen y hy) hwl,kq (gH (W.rlen y hy) hwl)]⟩
  rcases y7.mp hc with rfl|hc
  ·exact⟨geF f,mj w hf tf,λy hy=>lZ (W.rlen y hy) hwl hf⟩
  rw[y6] at hc;subst hc
  exact⟨geF g,mj w hg tg,λy hy=>lZ (W.rlen y hy) hwl hg⟩
 let HH:Nat->y9->Prop:=λi s₁=>∃ o l X,bZ o d3 i/\Kp s s₁/\(l=lv7 F txt tb D m tm pd dw sc/\i=0\/∃ v,l=(yW "cutoff", v)::lv7 F txt tb D m tm pd dw sc)/\St hb tabs L' l ((I,o)::(X++(d3,ap [.int 0 t0,.float f tf,.float g tg] 0)::T)) s₁.heap
 refine l8 (vs:=[.int 0 t0,.float f tf,.float g tg]) (d:=d3) HH hh ?_ ?_
 ·exact⟨_,_,[],⟨rfl,rfl⟩,⟨rfl,id⟩,.inl ⟨rfl,rfl⟩,S5⟩
 rintro i s₁ ⟨o,l,X,hat,ar,hl,ah⟩ hi
 refine⟨hb,tabs,L',l,X++(d3,ap [.int 0 t0,.float f tf,.float g tg] 0)::T,o,0,ah,hat,yZ _ (.head _),λhlt h' o' ho' S' E=>?_,λhfin h' S'=>?_⟩
 ·obtain⟨gg,C,hkg⟩:=hC _ (z5 hlt)
  have hT:∀ p∈T,p∈(I,o')::(X++(d3,ap [.int 0 t0,.float f tf,.float g tg] 0)::T):=λp hp=>aj (yZ _ (aj hp))
  generalize [B8 0 t0,.float f tf,.float g tg][i]=cut at *
  refine xq (s:=wh s₁ h') (txt:=txt) (tb:=tb) (tm:=tm) (dw:=dw) (sc:=sc) (F:=F) G B hd (dn 10 hu) hh C (W.mono hT) hkg (hT _ hcw) how (hT _ hpd) (hT _ hD) (H.mono hT) hm hm4 ?_ S' ?_
  ·rcases hl with⟨rfl,-⟩|⟨v,rfl⟩
   ·exact⟨_,.new (by kernel_rfl),rfl⟩
   ·exact⟨_,.old .here,rfl⟩
  ·refine λag X2 ao af=>⟨o',(yW "cutoff", cut)::lv7 F txt tb D m tm pd dw sc,X2++X,ho',(kt ar ao),.inr ⟨_,rfl⟩,?_⟩
   rw[zu]
   exact af.perm zs
 ·rcases hl with⟨-,e⟩|⟨v,rfl⟩
  ·rw[e] at hfin;cases hfin
  ·refine k _ (X++[(d3,ap [.int 0 t0,.float f tf,.float g tg] 0)]) v ⟨ar.os,ar.gens⟩ ?_
   rw[zu]
   exact S'
end
theorem yw{a b:Prop}(h:b):if (false:Bool)=true then a else b:=h
theorem if_t{a b:Prop}(h:a):if (true:Bool)=true then a else b:=h
theorem tZ{Es:List Sc}{f g:UInt64}(hf:f∈shL)(hg:g∈shL)(hs:∀ e∈Es,e.f∈shL)(he:∃ e∈Es,e.f=f)(hgt:(zV g f==some Ordering.gt)=true):(aL (geF g) Es).length<(aL (geF f) Es).length:=by
 have hlt:f.toNat<g.toNat:=by
  rw[nH hg hf] at hgt
  rcases Dq g.toNat f.toNat with h|h|h
  ·rw[Fv.mpr h] at hgt;nomatch hgt
  ·rw[Fw.mpr h] at hgt;nomatch hgt
  ·exact h
 have h0:∀ {l:List Sc},(∀ e∈l,e.f∈shL)->(aL (geF g) l).length<=(aL (geF f) l).length:=λ{l} hs=>by
  rw[zb,zb]
  have e:(l.filter λe=>geF g e.f)=(l.filter λe=>geF f e.f).filter λe=>geF g e.f:=by
   rw[List.filter_filter]
   refine Fk λe he=>?_
   rw[dX hg (hs e he),dX hf (hs e he)]
   by_cases q:g.toNat<=e.f.toNat
   ·rw[decide_eq_true q,decide_eq_true (by exact zg6 hlt q)];rfl
   ·rw[decide_eq_false q];rfl
  rw[e]
  exact BJ _ _
 obtain⟨e,he,rfl⟩:=he
 obtain⟨l₁,l₂,rfl⟩:=GV he
 have h1:=h0 λe he=>hs e (y5 _ he)
 have h2:=h0 λe he=>hs e (yZ _ (aj he))
 have e1:geF e.f e.f=true:=by rw[dX hf hf,decide_eq_true (zh _)]
 have e2:geF g e.f=false:=by rw[dX hg hf,decide_eq_false (by exact ze4 hlt)]
 unfold aL at *
 rw[zb] at h1 h2 ⊢
 rw[zb] at h1 h2 ⊢
 rw[Bt,Bt,HM (by rw[e2];exact zN),HN (by exact e1),zK,zK,zI]
 exact y15 h1 h2
section
variable{sc:ze}{T:LO}{n c:Nat}{tm tb:AN}{ow:AO}{Es:List Sc}{xs:List WX}{x:WX}{l:LV}{f g:UInt64}{vs:List Value}
theorem kE{env:ID}{L:ze}{cond:Expr}{gg:UInt64->Bool}{cl:List (zH×ze)}{scope:Dx}{p1 p2 p3 p:Ef}{kx:Nat}(hh:A.handled=none)(H:Scd w T x xs Es)(h12:Es.length<=12)(hD:(D,ap (aB Es) c)∈T)(S:St hb tabs L l T s.heap)
  (hc:∀ (C:ze) (e:Sc) (s5:y9) (Tt:LO) (Q:BP) (E:VP),(∀ q∈T,q∈Tt)->St hb tabs C (nmSO e) Tt s5.heap->(∀ s6,Kp s5 s6->St hb tabs C (nmSO e) Tt s6.heap->Q (gg e.f) s6)->y4 (y0 pw w) A (isTrue cond (An scope cl C env) (Aq cond (An scope cl C env))) Q E s5)
  (h1:∀ C,ou (An scope cl C env).scope ((An scope cl C env).kindOf (yW "share")) (yW "share")=true) (h2:∀ C,ou (An scope cl C env).scope ((An scope cl C env).kindOf (yW "one")) (yW "one")=true) :
  srcF pw w A hb tabs (.Tuple [.Name (yW "share") p1,.Name (yW "one") p2] kx p) (.Name (yW "one") p3) [cond] scope cl env L l T D (aB Es) c (λi acc X=>X=[]/\acc=(aL gg (Es.take i)).map WX.v) (.ref D) s:=by
 refine⟨rfl,S,hD,by rw[aJ];exact up 988 h12,⟨rfl,rfl⟩,?_⟩
 rintro C' D oL' E' i v acc c X own ag hi hacc ⟨rfl,hJ⟩ bp ao af
 have hv:∃ e,Es[i]? = some e/\v=.ref e.a:=by
  rw[aB,zB] at hi
  obtain⟨e,h1,h2⟩:=zW.mp hi
  exact⟨e,h1,h2.symm⟩
 obtain⟨e,he,rfl⟩:=hv
 have hst:aL gg (Es.take (i+1))=aL gg (Es.take i)++if gg e.f then [e.x] else []:=by
  unfold aL
  rw[Ah,he,Bt,zD]
  cases h:gg e.f<;> simp[h]
 refine mF (b:=gg e.f) e hh af (H.ok e (zm he)).1 rfl ao (hc C' e) (λhb'=>⟨rfl,?_⟩) (λhb'=>⟨rfl,?_⟩) (h1 _) (h2 _)
 ·rw[hst,if_pos hb',hJ,zD];rfl
 ·rw[hst,if_neg (by rw[hb'];exact zN),hJ,Al]
theorem kF{gg:UInt64->Bool}{acc:List Value}{X:LO}(h:X=[]/\acc=(aL gg (Es.take (aB Es).length)).map WX.v):X=[]/\acc=(aL gg Es).map WX.v:=by
 rwa [aJ,zX] at h
end
section
variable{sc:ze}{T:LO}{n c:Nat}{tm tb:AN}{ow:AO}{Es:List Sc}{xs:List WX}{x:WX}{l:LV}{f g:UInt64}{vs:List Value}
theorem law_i{Q:FP}(G:GK w hb)(hu:A.units+100<Aw)(hh:A.handled=none)(W:Ws w hb T x xs)(hf:f∈shL)(hg:g∈shL)
  (hch:(L'+2,oh)∈T) (hoh:oh.data=.cell (some (.float f tf))) (hca:(L'+3,oa)∈T) (hoa:oa.data=.cell (some (.ref Da))) (hDa:(Da,ap (.float g tg::vs) na)∈T) (hvs:vs.length<=900)
  (hD:(D,ap (aB Es) c)∈T) (H:Scd w T x xs Es) (h12:Es.length<=12) (he:∃ e∈Es,e.f=f) (hshl:∀ e∈Es,e.f∈shL)
  (S:St hb tabs L' ((yW "cutoff", cut)::lv7 F txt tb D m tm pd dw sc) T s.heap)
  (k:∀ s' X Bd,Kp s s'->St hb tabs L' ((yW "best", .ref Bd)::(yW "cutoff", cut)::lv7 F txt tb D m tm pd dw sc) (X++T) s'.heap->y4 (y0 pw w) A (zY (iW.drop 11) (evL w L')) Q E s') :
  y4 (y0 pw w) A (zY (iW.drop 9) (evL w L')) Q E s:=by
 have hbl:∀ {gg:UInt64->Bool},(aL gg Es).length<=12:=λ{gg}=>by
  rw[zb]
  exact zk (BJ _ _) h12
 refine iL (hb:=hb) (tabs:=tabs) (cl:=[(yW "here", L'+2)]) (env:=evL w L') (l':=λD'=>(yW "best", .ref D')::(yW "cutoff", cut)::lv7 F txt tb D m tm pd dw sc) hh ?_ rfl rfl (.inr ⟨_,_,_,rfl⟩) rfl (by decide) rfl (by decide)
 refine au (env:=evL w L') S m3 ⟨_,_,_,_,_,_,kE (gg:=geF f) hh H h12 hD S ?_ (λZ=>by kernel_rfl) (λZ=>by kernel_rfl),λD'=>.new (by kernel_rfl),?_⟩
 ·exact λC e s5 Tt Q E hTt S5 hQ=>wpAny_isTrue_Compare1 (au (env:=An _ _ C _) S5 m1 (bI (env:=An _ _ C _) (c:=L'+2) S5 (hTt _ hch) hoh ((mj w hf tf).ge (y8 (hQ _ Kp.refl S5)))))
 intro s₁ Bd acc cb X1 ar ah g9 hJ1
 obtain⟨rfl,rfl⟩:=kF hJ1
 have af:St hb tabs L' ((yW "best", .ref Bd)::(yW "cutoff", cut)::lv7 F txt tb D m tm pd dw sc) ((Bd,ap ((aL (geF f) Es).map WX.v) cb)::T) s₁.heap:=ah
 refine lQ (isTrue_or (wpAny_isTrue_Compare1 (au (env:=evL w L') af m0 (bF (zn ⟨rfl,_,_,_,_,_,by exact af,?_⟩)))))
 intro D3 ak ae
 have hbm:=(H.best (g:=geF f)).2.2
 have hb1:1<=(aL (geF f) Es).length:=by
  obtain⟨e,he,rfl⟩:=he
  refine H5 (a:=e.x) (za.mpr ⟨e,By.mpr ⟨he,?_⟩,rfl⟩)
  rw[dX hf hf,decide_eq_true (zh _)]
 have hbl1:=hbl (gg:=geF f)
 refine fY (xs:=aL (geF f) Es) (ys:=[]) ⟨_,ae.obj _ m1,rfl,cb,rfl⟩ ⟨_,ae.obj _ m0,rfl,0,rfl⟩ (dn 99 hu) (λy hy=>((W.hrs y (hbm y hy)).mono λp hp=>aj (aj hp)).wh ae) (λy hy=>by cases hy) (λy hy z hz=>by cases hz) ?_
 rw[decide_eq_false (show ¬ cW (aL (geF f) Es)=cW [] by
  intro e
  have e:=congrArg CA e
  rw[zb] at e
  rw[e] at hb1
  cases hb1)]
 refine y8 (yw ?_)
 refine isTrue_or (Mg (wpAny_isTrue_Compare1 (gT Bb (bI (env:=evL w L') (c:=L'+3) ae (aj (aj hca)) hoa (wpAny_Constant_int ⟨⟨_,ae.obj _ (aj (aj hDa)),rfl⟩,?_⟩)))))
 refine gv ae (aj (aj hDa)) hvs (bI (env:=evL w L') (c:=L'+2) ae (aj (aj hch)) hoh (Hl ?_))
 cases hgt:(zV g f==some Ordering.gt) with
 | false =>
  refine y8 (yw (yw (isTrue_or_nil ⟨λe=>(by cases e),λZ=>?_⟩)))
  exact aF (k _ [(D3,ap [] 0),(Bd,ap ((aL (geF f) Es).map WX.v) cb)] Bd ⟨ar.os,ar.gens⟩ ae)
 | true =>
  refine y8 (if_t ?_)
  refine Mg (wpAny_isTrue_Compare1 (oM (env:=evL w L') G ae B0 (args_cons (cN (hb:=hb) (tabs:=tabs) (cl:=[(yW "above", L'+3)]) (env:=evL w L') hh ?_ (.inr ⟨_,_,_,rfl⟩) rfl (by decide) rfl (by decide)))))
  refine au (env:=evL w L') ae m4 ⟨_,_,_,_,_,_,_,kE (gg:=geF g) hh (H.mono λp hp=>aj (aj hp)) h12 (aj (aj hD)) ae ?_ (λZ=>by kernel_rfl) (λZ=>by kernel_rfl),?_⟩
  ·refine λC e s5 Tt Q E hTt S5 hQ=>wpAny_isTrue_Compare1 (au (env:=An _ _ C _) S5 m1 (gT Bb (bI (env:=An _ _ C _) (c:=L'+3) S5 (hTt _ (aj (aj hca))) hoa (wpAny_Constant_int ⟨⟨_,S5.obj _ (hTt _ (aj (aj hDa))),rfl⟩,?_⟩))))
   exact gv S5 (hTt _ (aj (aj hDa))) hvs ((mj w hg tg).ge (y8 (hQ _ ⟨rfl,id⟩ S5)))
  intro s4 Cd acc cc X4 K4 S4 el hJ4
  obtain⟨rfl,rfl⟩:=kF hJ4
  have hbl2:=hbl (gg:=geF g)
  refine zn (B9 (items:=((aL (geF g) Es).map WX.v).toArray) ⟨_,S4.obj _ m0,rfl,cc,rfl⟩ (by rw[zd,zb];lia) (oM (env:=evL w L') G S4 B0 (aln (env:=evL w L') S4 m0 (B9 (items:=((aL (geF f) Es).map WX.v).toArray) ⟨_,S4.obj _ m2,rfl,cb,rfl⟩ (by rw[zd,zb];lia) ?_))))
  rw[zd,zd,zb (as:=aL (geF g) Es) WX.v,zb (as:=aL (geF f) Es) WX.v]
  refine LY ?_
  have:=tZ hf hg hshl he hgt
  rw[decide_eq_false (show ¬ ((aL (geF f) Es).length:Int)<=((aL (geF g) Es).length:Int) by exact y18 this)]
  refine y8 (yw (yw (isTrue_or_nil ⟨λe=>(by cases e),λZ=>?_⟩)))
  exact aF (k _ [(Cd,ap ((aL (geF g) Es).map WX.v) cc),(D3,ap [] 0),(Bd,ap ((aL (geF f) Es).map WX.v) cb)] Bd ⟨K4.os.trans ar.os,λq=>K4.gens (ar.gens q)⟩ S4)
end
theorem s06:(4603579539098121011:UInt64)∈shL:=by decide +kernel
section
variable{sc:ze}{T:LO}{n c:Nat}{tm tb:AN}{ow:AO}{Es:List Sc}{xs:List WX}{x:WX}{l:LV}{f g:UInt64}{vs:List Value}
noncomputable abbrev lv9 (Bd:ze) (cut:Value) (F:ze) (txt:zH) (tb:AN) (D:ze) (m:Nat) (tm:AN) (pd dw sc:ze):LV:=(yW "best", .ref Bd)::(yW "cutoff", cut)::lv7 F txt tb D m tm pd dw sc
theorem law_j{Bd:ze}{Q:FP}(G:GK w hb)(B:BM hb)(hd:A.depth+70<zg)(hu:A.units+320<Aw)(hh:A.handled=none)(W:Ws w hb T x xs)(hcw:(L'+1,ow)∈T)(how:ow.data=.cell (some x.v))
  (hpd:(pd,ap (xs.map WX.v) np)∈T) (hD:(D,ap (aB Es) c)∈T) (H:Scd w T x xs Es) (h12:Es.length<=12)
  (S:St hb tabs L' (lv9 Bd cut F txt tb D m tm pd dw sc) T s.heap)
  (k:∀ s' X,Kp s s'->St hb tabs L' (lv9 Bd cut F txt tb D m tm pd dw sc) (X++T) s'.heap->y4 (y0 pw w) A (zY (iW.drop 12) (evL w L')) Q E s') :
  y4 (y0 pw w) A (zY (iW.drop 11) (evL w L')) Q E s:=by
 have hwl:=W.wlen
 have hcnt:=W.cnt
 refine dA (uU (env:=evL w L') G S (v:=.ref 286) (by kernel_rfl) (args_cons (bI (env:=evL w L') (c:=L'+1) S hcw how (args_cons (uT (env:=evL w L') G S (id := "tuple") (by kernel_rfl) (aln (env:=evL w L') S m6 (call_tuple_list (items:=(xs.map WX.v).toArray) ⟨_,S.obj _ hpd,rfl,np,rfl⟩ (λai b8=>?_) (by rw[zw,zd,zb];exact ul 16777204 hcnt))))))))
 have ah:=(S.grown b8).push (aG (xs.map WX.v))
 have dp:∀ p∈T,p∈(ai.objs.size,aG (xs.map WX.v))::T:=λp hp=>aj hp
 refine zn ⟨⟨_,_,_,by exact ah⟩,?_⟩
 refine tC (n:=3) (tn:=_) (g:=geF 4603579539098121011) (cut:=.float 4603579539098121011 _) G B ah (dn 30 hd) (dn 120 hu) hh (mj w s06 _) (W.mono dp) (Bx (o:=uG w.params) rfl (St.kin ah G 281 _ (by kernel_rfl)) rfl rfl rfl)
  pF (λp hp=>by rw[y6] at hp;subst hp;exact .head _) (by decide) (λy hy=>lZ (W.rlen y hy) hwl s06) ?_
 intro ag X2 bw nr2 P ao af hP hf2
 have c5:∀ p∈T,p∈(bw,ap ((P.take 3).map WX.v) nr2)::(X2++(ai.objs.size,aG (xs.map WX.v))::T):=λp hp=>aj (yZ _ (aj hp))
 refine gE (hb:=hb) (tabs:=tabs) (cN (hb:=hb) (tabs:=tabs) (cl:=[]) (env:=evL w L') hh ?_ (.inr ⟨_,_,_,rfl⟩) rfl (by decide) rfl (by decide))
 refine au (env:=evL w L') af m4 ⟨_,_,_,_,_,_,_,kE (gg:=geF 4603579539098121011) hh (H.mono c5) h12 (c5 _ hD) af ?_ (λZ=>by kernel_rfl) (λZ=>by kernel_rfl),?_⟩
 ·exact λC e s5 Tt Q E hTt S5 hQ=>wpAny_isTrue_Compare1 (au (env:=An _ _ C _) S5 m1 (Bn ((mj w s06 _).ge (y8 (hQ _ ⟨rfl,id⟩ S5)))))
 intro s3 Cd acc cc X3 ax ae ei hJ3
 obtain⟨rfl,rfl⟩:=kF hJ3
 have hbl:(aL (geF 4603579539098121011) Es).length<=12:=by
  rw[zb]
  exact zk (BJ _ _) h12
 refine wpAny_Constant_int ⟨L',_,_,Cd,(aL (geF 4603579539098121011) Es).map WX.v,cc,3,_,rfl,rfl,by exact ae,m0,by rw[zb (as:=aL (geF 4603579539098121011) Es) WX.v];exact up 988 hbl,?_⟩
 intro D4 X4 aw S4
 rw[<- Cb] at S4
 obtain⟨hBp,hBf,hBm⟩:=H.best (g:=geF 4603579539098121011)
 have hF:∀ y∈xs.filter (λy=>geF 4603579539098121011 (scr y.c x.c)),y∈xs:=λy hy=>(By.mp hy).1
 have d0:=gI W hP hBp hF hf2 hBf
 have hPm:∀ y∈P,y∈xs:=λy hy=>hF y (hP.mem_iff.mp hy)
 have hT4:∀ p∈T,p∈(D4,ap ((FN 3 (aL (geF 4603579539098121011) Es)).map WX.v) 0)::(X4++(Cd,ap ((aL (geF 4603579539098121011) Es).map WX.v) cc)::([]++(bw,ap ((P.take 3).map WX.v) nr2)::(X2++(ai.objs.size,aG (xs.map WX.v))::T))):=λp hp=>aj (yZ _ (aj (c5 p hp)))
 have hWH:∀ y∈xs,WH aw y:=λy hy=>((W.hrs y hy).mono hT4).wh S4
 refine pP (xs:=P.take 3) (ys:=(aL (geF 4603579539098121011) Es).take 3) ⟨_,S4.obj (bw,_) (aj (yZ _ (aj (.head _)))),rfl,nr2,rfl⟩ ⟨_,S4.obj _ m0,rfl,0,rfl⟩ (dn 319 hu)
  (λy hy=>hWH y (hPm y (AD hy))) (λy hy=>hWH y (hBm y (AD hy))) (λy hy z hz=>(W.kind y (hPm y (AD hy))).trans (W.kind z (hBm z (AD hz))).symm) ?_
 rw[decide_eq_true (show cW (P.take 3)=cW ((aL (geF 4603579539098121011) Es).take 3) by show (P.take 3).map WX.c=((aL (geF 4603579539098121011) Es).take 3).map WX.c;rw[Cb,Cb];exact congrArg (FN 3) d0)]
 refine y8 ⟨λe=>(by cases e),λZ=>?_⟩
 refine aF (k _ ((D4,ap ((FN 3 (aL (geF 4603579539098121011) Es)).map WX.v) 0)::(X4++(Cd,ap ((aL (geF 4603579539098121011) Es).map WX.v) cc)::(bw,ap ((P.take 3).map WX.v) nr2)::(X2++[(ai.objs.size,aG (xs.map WX.v))]))) ⟨ax.os.trans ao.os,λq=>ax.gens (ao.gens q)⟩ ?_)
 simp only[Bp,zu,Dh]
 exact S4
end
section
variable{sc:ze}{T:LO}{n c:Nat}{tm tb:AN}{ow:AO}{Es:List Sc}{xs:List WX}{x:WX}{l:LV}{f g:UInt64}{vs:List Value}{d2:Hp}
theorem law_k{Bd:ze}{Q:FP}(G:GK w hb)(B:BM hb)(h0:hb.get? 316=some (E8 #[]))(hd:A.depth+70<zg)(hu:A.units+320<Aw)(hh:A.handled=none)(hg:A.guards=some [])(hfr:A.frames=some [evL w L'])
  (W:Ws w hb T x xs) (hcw:(L'+1,ow)∈T) (how:ow.data=.cell (some x.v)) (r1:Rd T x.v d1 2 200) (r2:Rd T (.ref pd) d2 2 200)
  (S:St hb tabs L' (lv9 Bd cut F (Hn [d1,d2]).shown tb D m tm pd dw sc) T s.heap)
  (k:∀ s' X ps,Kp s s'->C3 ps.toList->St (hbR hb ps) tabs L' (lv9 Bd cut F (Hn [d1,d2]).shown tb D m tm pd dw sc) (X++T) s'.heap->Q (.ret (.bool true)) s') :
  y4 (y0 pw w) A (zY (iW.drop 12) (evL w L')) Q E s:=by
 refine cP (MB (wpAny_Compare1 (uU (env:=evL w L') G S (v:=.ref 286) (by kernel_rfl) (args_cons (bI (env:=evL w L') (c:=L'+1) S hcw how (args_cons (bF ?_)))))))
 refine zn ⟨rfl,_,_,_,_,_,by exact S,?_⟩
 refine λD1 ai ah=>zn ⟨⟨_,_,_,by exact ah⟩,?_⟩
 refine tC (rw:=[]) (n:=3) (tn:=_) (g:=geF 4603579539098121011) (cut:=.float 4603579539098121011 _) G B ah (dn 30 hd) (dn 120 hu) hh (mj w s06 _) ((W.mono λp hp=>aj hp).sub (rw':=[]) (λp hp=>by cases hp) (by decide)) (Bx (o:=uG w.params) rfl (St.kin ah G 281 _ (by kernel_rfl)) rfl rfl rfl)
  (gG (n:=0)) (λp hp=>by rw[y6] at hp;subst hp;exact .head _) (by decide) (λy hy=>by cases hy) ?_
 intro ag X2 bw nr2 P ao af hP hf2
 have hP:P=[]:=hP.eq_nil
 subst hP
 refine bF (zn ⟨rfl,_,_,_,_,_,by exact af,?_⟩)
 refine λD3 ak ae=>fY (xs:=[]) (ys:=[]) ⟨_,ae.obj _ m1,rfl,nr2,rfl⟩ ⟨_,ae.obj _ m0,rfl,0,rfl⟩ (dn 319 hu) (λy hy=>by cases hy) (λy hy=>by cases hy) (λy hy=>by cases hy) (y8 (if_t ?_))
 refine MB (uU (env:=evL w L') G ae (v:=.ref 321) (by kernel_rfl) (args_cons (bI (env:=evL w L') (c:=L'+1) ae (aj (aj (yZ _ (aj hcw)))) how (aln (env:=evL w L') ae m6 ⟨⟨_,_,_,by exact ae⟩,?_⟩))))
 refine nY G B h0 ae (dn 10 hd) (dn 120 hu) hh hfr rfl (λe=>Bj e) (λs4 ps K4 hps S4=>y8 (if_t ?_))
 refine BoolOp_one (wpAny_Compare1 (oM (env:=evL w L') (G.reb (ps:=ps) (by kernel_rfl)) S4 boot_repr (args_cons (bF (args_cons (bI (env:=evL w L') (c:=L'+1) S4 (aj (aj (yZ _ (aj hcw)))) how (aln (env:=evL w L') S4 m6 ?_)))))))
 refine⟨rfl,_,_,_,_,_,S4,?_⟩
 refine λD5 ay S5=>zn (uD r1 r2 S5 (λp hp=>aj (aj (yZ _ (aj hp)))) hg (dn 310 hu) ?_)
 refine λs6 t K6 S6=>au (env:=evL w L') S6 m3 (MA ?_)
 rw[beq_self_eq_true]
 have S7:St (hbR hb ps) tabs L' (lv9 Bd cut F (Hn [d1,d2]).shown tb D m tm pd dw sc) (((D5,ap [x.v,.ref pd] 0)::(D3,ap [] 0)::(bw,ap [] nr2)::(X2++[(D1,ap [] 0)]))++T) s6.heap:=by
  simp only[Bp,zu,Dh]
  exact S6
 exact k _ _ ps ⟨K6.os.trans (K4.os.trans ao.os),λq=>K6.gens (K4.gens (ao.gens q))⟩ hps S7
end
section
variable{tabs:List ze}{lb:LV}
theorem w9{R:Cg->y9->Prop}{oc:Value}{od:Option ze}{osl:Array (Option Value)}{args:M1}{binds:LV}{body:List Cq}{cs:ze->List (zH×ze)}{cm:zH->Option Value}{n:Nat}
  (G:Gd K tabs s.heap) (htab:∀ t∈tabs,∃ ps,s.heap.get? t=some (Ei ps)/\C3 ps.toList) (ho:K.lookup fa=some ⟨oc,od,.func fd,osl⟩) (hroom:A.depth<zg) (hn:n<=s.toks)
  (hbind:Fi s fd args binds)
  (h:∀ L' s₁ (obs:ze->AO),(∀ p∈cs L',(obs p.2).data=.cell (cm p.1))->Kp s s₁->n<=s₁.toks->St s.heap tabs L' lb ((cs L').map (λp=>(p.2,obs p.2))) s₁.heap ->
   y4 (y0 prog w) (A.deeper (zy fd L' fa)) (zY body (zy fd L' fa)) (kFn R)
    (kLv (y0 prog w) (A.deeper (zy fd L' fa)) (zy fd L' fa) R) s₁)
  (hcs:∀ L':ze,DY (L'+1) fd.scope.names []=cs L') (hlk:∀ L':ze,∀ p∈cs L',(cs L').lookup p.1=some p.2/\L'<p.2)
  (hbL:∀ L':ze,∀ p∈lb,bindL (zy fd L' fa).kindOf binds (λZ=>none) p.1=some p.2) (hbC:∀ L':ze,∀ p∈cs L',Nq (zy fd L' fa).kindOf binds (λZ=>none) p.1=cm p.1)
  (hkind:∀ L':ze,∀ x∈binds,fd.scope.names.lookup x.1=some .local\/(fd.scope.names.lookup x.1=some .cell/\((cs L').lookup x.1).isSome=true)) (hnd:(lb.map (·.1)).Nodup)
  (hclo:fd.closure=[]:=by kernel_rfl)
  (hcd:∀ hh:AE,K.In hh->hh.CodeRec fd.code fd.qualname:=by exact crO (by kernel_rfl))
  (hbody:fd.body=.stmts body:=by kernel_rfl)
  (hco:fd.scope.isCoroutine=false:=by kernel_rfl) (hgen:fd.scope.isGenerator=false:=by kernel_rfl) (hk:fd.scope.kind=.function:=by kernel_rfl) :
  zS (y0 prog w) A (.call (.ref fa) args) R s:=by
 refine FG hroom (G.k _ _ ho) rfl hco hgen hbody (hcd _ G.k) ?_
 rw[hclo]
 refine hbind _ _ _ _ (AC hn (Er hk (λx hx=>?_) λenv he s' x=>?_))
 ·rcases hkind s.heap.objs.size x hx with q|⟨q,e⟩
  ·exact .inl q
  ·exact .inr ⟨q,by rw[hcs];exact e⟩
 subst he
 refine λhn'=>⟨G.lim.keeps x.toInCall.keep,Ko ?_⟩
 have hcell:∀ p∈cs s.heap.objs.size,∃ ob,s'.heap.get? p.2=some ob/\ob.data=.cell (cm p.1):=λp hp=>by
  obtain⟨ob,e1,e2⟩:=x.cell p.1 p.2 (by
   show (DY (s.heap.objs.size+1) fd.scope.names []).lookup p.1=_
   rw[hcs];exact (hlk _ p hp).1)
  have e3:Nq (M7 fd.scope s.heap.objs.size fd.globals (DY (s.heap.objs.size+1) fd.scope.names []) (fd.qualname ++ ".<locals>.") (some fa) fd.code none fd.builtins).kindOf binds (λZ=>none) p.1=cm p.1:=hbC _ p hp
  rw[e3] at e2
  exact⟨ob,e1,e2⟩
 have hfm:Fm s'.heap s.heap.objs.size lb:=Fm.of_ns x.toInCall.ns (λp hp=>hbL s.heap.objs.size p hp) hnd
 obtain⟨hh,tk,hsame⟩:=x.toInCall.same
 have K':Kp s s':=by rw[hsame];exact⟨rfl,id⟩
 have hap:((cs s.heap.objs.size).map (·.2)).Nodup:=by
  have:=x.apart
  rw[show (M7 fd.scope s.heap.objs.size fd.globals (DY (s.heap.objs.size+1) fd.scope.names []) (fd.qualname ++ ".<locals>.") (some fa) fd.code none fd.builtins).cells=cs s.heap.objs.size from hcs _] at this
  exact AT.mpr this
 refine h s.heap.objs.size s' (λa=>(s'.heap.get? a).getD AA) (λp hp=>?_) K' hn' ⟨hfm,zh _,λb o e Z=>x.toInCall.keep b o e,λt ht=>?_,λp hp=>?_,λp hp=>?_,?_⟩
 ·obtain⟨ob,e1,e2⟩:=hcell p hp
  rw[e1];exact e2
 ·obtain⟨ps,e,ok⟩:=htab t ht
  exact⟨ps,#[],e,by rw[JU];exact x.toInCall.keep _ _ e,by rw[JU];exact ok⟩
 ·obtain⟨q,hq,rfl⟩:=za.mp hp
  obtain⟨ob,e1,e2⟩:=hcell q hq
  show s'.heap.get? q.2=some ((s'.heap.get? q.2).getD AA)
  rw[e1];rfl
 ·obtain⟨q,hq,rfl⟩:=za.mp hp
  exact Af (hlk _ q hq).2
 ·have big:∀ a∈((cs s.heap.objs.size).map (λp=>(p.2,(s'.heap.get? p.2).getD AA))).map (·.1),s.heap.objs.size<a:=λa ha=>by
   rw[CN] at ha
   obtain⟨q,hq,rfl⟩:=za.mp ha
   exact (hlk _ q hq).2
  refine zr.mpr ⟨λq=>Aj _ (big _ q),?_⟩
  rw[CN];exact hap
end
theorem Rd.mono{T T':LO}{v:Value}{d:Hp}{m n:Nat}(h:Rd T v d m n)(hT:∀ p∈T,p∈T'):Rd T' v d m n:=⟨λh' q=>h.rd h' λp hp=>q p (hT p hp),h.ok,h.nd,h.dep,h.sh,h.wt⟩
section
variable{sc:ze}
theorem sO(G:Gd (KN w.params) tabs s.heap)(B:BM s.heap)(h0:s.heap.get? 316=some (E8 #[]))(htab:∀ t∈tabs,∃ ps,s.heap.get? t=some (Ei ps)/\C3 ps.toList)(hd:A.depth+100<zg)(hu:A.units+2000<Aw)(hh:A.handled=none)(hg:A.guards=some [])(hfr:A.frames=some [])
  (H:Scr s.heap sc scv) (htk:776<=s.toks)
  (k:∀ (s':y9) (L':ze) (l':LV) (X:LO) (ps:Array Value),Kp s s'->C3 ps.toList->St (hbR s.heap ps) tabs L' l' X s'.heap->R (.ok (.ret (.bool true))) s') :
  zS (y0 pw w) A (.call (.ref 331) ⟨[.ref sc],[]⟩) R s:=by
 refine w9 (lb:=[(yW "script", .ref sc)]) (cs:=λL'=>[(yW "above", L'+3),(yW "here", L'+2),(yW "word", L'+1)]) (cm:=λx=>none) (n:=776) G htab (lk331 _) (dn 100 hd) htk
  (binds:=[(yW "script", .ref sc)]) (body:=iW) (AW (by kernel_rfl)) ?_ (λL'=>by kernel_rfl) ?_ (λL' p hp=>?_) ?_ ?_ (dF (by kernel_rfl))
 ·intro L' s₁ obs hobs ar htk1 ah
  have ho0:=hobs _ (.head _)
  have hh0:=hobs _ (aj (.head _))
  have hw0:=hobs _ m2
  have S1':St s.heap tabs L' [(yW "script", .ref sc)] [(L'+3,obs (L'+3)),(L'+2,obs (L'+2)),(L'+1,obs (L'+1))] s₁.heap:=ah
  clear ah
  generalize obs (L'+3)=oa at *
  generalize obs (L'+2)=oh at *
  generalize obs (L'+1)=ow at *
  replace ho0:oa.data=.cell none:=ho0
  replace hh0:oh.data=.cell none:=hh0
  replace hw0:ow.data=.cell none:=hw0
  clear hobs
  have hfr':(A.deeper (evL w L')).frames=some [evL w L']:=BR hfr
  have hd':(A.deeper (evL w L')).depth+90<zg:=by show A.depth+1+90<zg;exact dn 9 hd
  have hu':(A.deeper (evL w L')).units+1900<Aw:=by show A.units+_+1900<Aw;exact dn 97 hu
  have hh':(A.deeper (evL w L')).handled=none:=hh
  have hg':(A.deeper (evL w L')).guards=some []:=hg
  clear hfr hd hu hh hg
  generalize A.deeper (evL w L')=A' at *
  refine law_a G (dn 30 hd') (dn 1800 hu') hh' H htk1 S1' (λag X2 ga gb ws2 ao htk2 hsw2 hwd2 h32 h62 af=>law_b G hh' htk2 hsw2 hwd2 h32 h62 af (λs3 X3 d3 gc gd ws3 ax htk3 hsw3 hp3 hwd3 h43 h73 ae=>law_c G hh' H htk3 hsw3 hp3 hwd3 h43 h73 ae ?_))
  intro s4 X4 d4 gf x xs K4 htk4 hwl h5 h4 h7 S4
  have d0:X4++(X3++(X2++[(L'+3,oa),(L'+2,oh),(L'+1,ow)]))=(X4++(X3++X2))++[(L'+3,oa),(L'+2,oh),(L'+1,ow)]:=by simp
  rw[d0] at S4
  refine law_d G hh' H htk4 hw0 h7 S4 ?_
  intro s5 X5 pd dw ow' np nw m tm K5 htk5 how hm0 hm4 S5
  have hwl5:Wl w ((pd,ap (xs.map WX.v) np)::X4) (x::xs):=hwl.mono λp hp=>aj hp
  obtain⟨d1,r1⟩:=xJ (hwl5.wt x (.head _)) (zk h5 (by decide)) (hwl.abc x (.head _))
  obtain⟨d2,r2⟩:=xI (xs:=xs) (λy hy=>⟨hwl5.wt y (aj hy),hwl.len y (aj hy),hwl.abc y (aj hy)⟩) (.head _) h7
  replace r1:=r1.le (m':=2) (n':=200) (by decide) (by decide)
  have hin:∀ {a b c:ze×AO},∀ p∈(pd,ap (xs.map WX.v) np)::X4,p∈a::b::c::(pd,ap (xs.map WX.v) np)::(X5++(X4++(X3++X2)++[])):=λp hp=>by
   rcases y7.mp hp with rfl|hp
   ·exact aj m2
   ·exact aj (aj (aj (aj (yZ _ (y5 _ (y5 _ hp))))))
  refine law_e (T₀:=(pd,ap (xs.map WX.v) np)::X4) G (dn 30 hd') (dn 1700 hu') hh' htk5 hin hwl5 h5 h7 m2 how m3 S5 ?_
  intro s6 X6 D c Es K6 H6 hTk S6
  generalize hZ:X5++(X4++(X3++X2)++[])=Z at *
  have hlen:Es.length=xs.length:=by
   have:=H6.perm.length_eq
   rwa [zb] at this
  have hshl:∀ e∈Es,e.f∈shL:=λe he=>by
   have hx:e.x∈xs:=H6.perm.mem_iff.mp (za.mpr ⟨e,he,rfl⟩)
   rw[H6.f e he]
   exact gH (hwl.len _ (aj hx)) h5
  have hin6:∀ {a b c d:ze×AO},∀ p∈X6++((pd,ap (xs.map WX.v) np)::X4),p∈d::(X6++a::b::c::(pd,ap (xs.map WX.v) np)::Z):=λp hp=>by
   rcases zc.mp hp with hp|hp
   ·exact aj (y5 _ hp)
   ·exact aj (yZ _ (hin p hp))
  have hin7:∀ {a b c d:ze×AO},∀ p∈(pd,ap (xs.map WX.v) np)::X4,p∈d::(X6++a::b::c::(pd,ap (xs.map WX.v) np)::Z):=λp hp=>aj (yZ _ (hin p hp))
  refine law_f G (dn 30 hd') (dn 1700 hu') hh' hg' (H6.mono hin6) hTk (Nat.one_le_of_lt h4) h7 hshl (aj (yZ _ m2)) how (.head _) (r1.mono hin7) (r2.mono hin7) S6 ?_
  intro s7 X7 F cf tb P K7 hP S7
  have e7:(F,ap (P.map cQ) cf)::(X7++(D,ap (aB Es) c)::(X6++(L'+3,oa)::(L'+2,oh)::(L'+1,ow')::(pd,ap (xs.map WX.v) np)::Z))=((F,ap (P.map cQ) cf)::(X7++(D,ap (aB Es) c)::X6))++(L'+3,oa)::(L'+2,oh)::(L'+1,ow')::(pd,ap (xs.map WX.v) np)::Z:=by simp
  rw[e7] at S7
  refine law_g G hh' H hP (.head _) hh0 ho0 S7 ?_
  intro s8 oa' oh' Da f g tf tg vs na X8 K8 hoh' hoa' hf hg he hvs S8
  have hm:∀ {a b d:ze×AO},∀ p∈(D,ap (aB Es) c)::X6++((L'+1,ow')::(pd,ap (xs.map WX.v) np)::Z),p∈a::b::d::(X8++(((F,ap (P.map cQ) cf)::(X7++(D,ap (aB Es) c)::X6))++((L'+1,ow')::(pd,ap (xs.map WX.v) np)::Z))):=λp hp=>by
   refine aj (aj (aj (yZ _ ?_)))
   rcases zc.mp hp with hp|hp
   ·exact y5 _ (aj (yZ _ hp))
   ·exact yZ _ hp
  have hZ':∀ p∈X4,p∈Z:=λp hp=>hZ▸yZ _ (y5 _ (y5 _ hp))
  have hU:∀ p∈(pd,ap (xs.map WX.v) np)::X4,p∈(L'+1,ow')::(pd,ap (xs.map WX.v) np)::Z:=λp hp=>by
   rcases y7.mp hp with rfl|hp
   ·exact aj (.head _)
   ·exact aj (aj (hZ' p hp))
  have hUm:∀ {a b d:ze×AO},∀ p∈(pd,ap (xs.map WX.v) np)::X4,p∈a::b::d::(X8++(((F,ap (P.map cQ) cf)::(X7++(D,ap (aB Es) c)::X6))++((L'+1,ow')::(pd,ap (xs.map WX.v) np)::Z))):=λp hp=>hm p (yZ _ (hU p hp))
  have hH:Scd w ((L'+3,oa')::(L'+2,oh')::(Da,ap (.float g tg::vs) na)::(X8++(((F,ap (P.map cQ) cf)::(X7++(D,ap (aB Es) c)::X6))++((L'+1,ow')::(pd,ap (xs.map WX.v) np)::Z)))) x xs Es:=H6.mono λp hp=>by
   rcases zc.mp hp with hp|hp
   ·exact hm p (y5 _ (aj hp))
   ·exact hUm p hp
  have hcw:=hm (a:=(L'+3,oa')) (b:=(L'+2,oh')) (d:=(Da,ap (.float g tg::vs) na)) (L'+1,ow') (yZ _ (.head _))
  have hpd:=hm (a:=(L'+3,oa')) (b:=(L'+2,oh')) (d:=(Da,ap (.float g tg::vs) na)) (pd,ap (xs.map WX.v) np) (yZ _ (aj (.head _)))
  have hD:=hm (a:=(L'+3,oa')) (b:=(L'+2,oh')) (d:=(Da,ap (.float g tg::vs) na)) (D,ap (aB Es) c) (.head _)
  have W:=(hwl5.mono (hUm (a:=(L'+3,oa')) (b:=(L'+2,oh')) (d:=(Da,ap (.float g tg::vs) na)))).ws (hb:=s.heap) h5 (y1j h7)
  replace r1:=r1.mono (hUm (a:=(L'+3,oa')) (b:=(L'+2,oh')) (d:=(Da,ap (.float g tg::vs) na)))
  replace r2:=r2.mono (hUm (a:=(L'+3,oa')) (b:=(L'+2,oh')) (d:=(Da,ap (.float g tg::vs) na)))
  have hca:(L'+3,oa')∈(L'+3,oa')::(L'+2,oh')::(Da,ap (.float g tg::vs) na)::(X8++(((F,ap (P.map cQ) cf)::(X7++(D,ap (aB Es) c)::X6))++((L'+1,ow')::(pd,ap (xs.map WX.v) np)::Z))):=.head _
  have hch:(L'+2,oh')∈(L'+3,oa')::(L'+2,oh')::(Da,ap (.float g tg::vs) na)::(X8++(((F,ap (P.map cQ) cf)::(X7++(D,ap (aB Es) c)::X6))++((L'+1,ow')::(pd,ap (xs.map WX.v) np)::Z))):=aj (.head _)
  have hDa:(Da,ap (.float g tg::vs) na)∈(L'+3,oa')::(L'+2,oh')::(Da,ap (.float g tg::vs) na)::(X8++(((F,ap (P.map cQ) cf)::(X7++(D,ap (aB Es) c)::X6))++((L'+1,ow')::(pd,ap (xs.map WX.v) np)::Z))):=aj (aj (.head _))
  clear hm hUm hU hZ' hin hin6 hin7 H6 e7 d0 S7 S6 S5 S4 ae af S1'
  generalize (L'+3,oa')::(L'+2,oh')::(Da,ap (.float g tg::vs) na)::(X8++(((F,ap (P.map cQ) cf)::(X7++(D,ap (aB Es) c)::X6))++((L'+1,ow')::(pd,ap (xs.map WX.v) np)::Z)))=T8 at *
  refine law_h G B (dn 20 hd') (dn 1580 hu') hh' W hf hg hcw how hch hoh' hca hoa' hDa hvs hpd hD hH hm0 hm4 S8 ?_
  intro s9 X9 cut K9 S9
  have i9:∀ p∈T8,p∈X9++T8:=λp hp=>yZ _ hp
  refine law_i G (dn 1800 hu') hh' (W.mono i9) hf hg (i9 _ hch) hoh' (i9 _ hca) hoa' (i9 _ hDa) hvs (i9 _ hD) (hH.mono i9) (y1m h7 hlen) he hshl S9 ?_
  intro s10 X10 Bd K10 S10
  have i10:∀ p∈T8,p∈X10++(X9++T8):=λp hp=>yZ _ (i9 p hp)
  refine law_j G B (dn 20 hd') (dn 1580 hu') hh' (W.mono i10) (i10 _ hcw) how (i10 _ hpd) (i10 _ hD) (hH.mono i10) (y1m h7 hlen) S10 ?_
  intro s11 X11 K11 S11
  have i11:∀ p∈T8,p∈X11++(X10++(X9++T8)):=λp hp=>yZ _ (i10 p hp)
  refine law_k G B h0 (dn 20 hd') (dn 1580 hu') hh' hg' hfr' (W.mono i11) (i11 _ hcw) how (r1.mono i11) (r2.mono i11) S11 ?_
  intro s12 X12 ps K12 hps S12
  have K:=((((((((((ar.trans ao).trans ax).trans K4).trans K5).trans K6).trans K7).trans K8).trans K9).trans K10).trans K11).trans K12
  exact k s12 L' _ _ ps ⟨K.os,K.gens⟩ hps S12
 ·intro L' p hp
  rcases y7.mp hp with rfl|hp
  ·exact⟨by kernel_rfl,Cp (by decide)⟩
  rcases y7.mp hp with rfl|hp
  ·exact⟨by kernel_rfl,Cp (by decide)⟩
  rw[y6] at hp;subst hp
  exact⟨by kernel_rfl,Cp (by decide)⟩
 ·rw[y6] at hp;subst hp;rfl
 ·intro L' p hp
  rcases y7.mp hp with rfl|hp
  ·rfl
  rcases y7.mp hp with rfl|hp
  ·rfl
  rw[y6] at hp;subst hp;rfl
 ·intro L' y hy
  rw[y6] at hy;subst hy;exact .inl (by kernel_rfl)
end
end
theorem kk_in{w:Am}{b9:y9}{h:AE}(y:aa.map b9.heap.get? = (KK w.params).map λp=>some p.2)(kp:∀ b o,b9.heap.get? b=some o->h.get? b=some o):(KK w.params).In h:=by
 have ea:aa=(KK w.params).map (·.1):=rfl
 rw[ea] at y
 have A:=PySem.W.X.allIn_of y
 refine λa o e=>kp a o ?_
 revert A e
 generalize KK w.params=K
 intro A e
 induction K with
 | nil=>cases e
 | cons p r ih =>
  obtain⟨b,o'⟩:=p
  rw[Ez] at e
  split at e
  ·rename_i hq
   cases e
   rw[beq_iff_eq.mp hq];exact A.1
  ·exact ih A.2 e
theorem v5{hb h:AE}{tabs:List ze}{L:ze}{l:LV}{T:LO}(S:St hb tabs L l T h)(ht:∀ t∈tabs,isCodeTable hb t):OldK hb h:=by
 refine⟨λb o e=>?_,λb o e=>?_⟩
 ·by_cases q:b∈tabs
  ·obtain⟨ps,more,e1,e2,_⟩:=S.tab b q
   rw[e1] at e;cases e
   exact .inr (.inl ⟨ht b q,rfl,ps,more,rfl,e2⟩)
  ·exact .inl (S.old e q)
 ·by_cases q:b∈tabs
  ·obtain⟨ps,more,e1,e2,_⟩:=S.tab b q
   exact⟨_,e2⟩
  ·exact⟨o,S.old e q⟩
theorem qE{vs:List Value}{ns:List Int}(r:IntsAre vs ns):∀ v∈vs,Ex2 λi t=>v=B8 i t:=by
 induction r with
 | nil=>intro v h;cases h
 | cons n t r ih=>exact Ev.mpr ⟨⟨n,t,rfl⟩,ih⟩
theorem v7{K:Ho}{h:AE}{a:ze}{m:zH->Option Value}{x:zH}(k:K.In h)(N:h.Ns a m)(e:Nh K a x=some none):m x=none:=by
 obtain⟨o,es,ep,ho,hd,_,hf⟩:=N
 unfold Nh at e
 cases q:K.lookup a with
 | none=>rw[q] at e;cases e
 | some ob =>
  rw[q] at e
  have z:=k a ob q
  rw[ho] at z
  obtain rfl:=AB z
  obtain⟨c,d,dt,sl⟩:=o
  simp only at hd
  subst hd
  simp only at e
  cases q':es.toList.find? (·.key.isStr x) with
  | some v=>rw[q'] at e;cases e
  | none =>
   rw[<- hf]
   unfold nsFind findBy
   rw[<- Array.find?_toList,q']
   rfl
theorem gd_of{w:Am}{b9:y9}{mg mb:zH->Option Value}{h:AE}{R:Nu}{XP:(zH->Option Value)->AE->Prop}(G:Ground qq loose R XP w b9 mg mb h)(k:(KN w.params).In h):Gd (KN w.params) tabs h where
 k:=k
 mg:=⟨mg,G.T.g⟩
 bl:=⟨mb,G.T.b,G.T.builtins⟩
 lim:=G.T.nolimit
 nb:=by
  obtain⟨mc,h1,h2⟩:=G.T.nolimit
  exact⟨mc,h1,v7 k h1 (by kernel_rfl)⟩
 n1:=by decide
 n2:=by decide
 n3:=by decide
 nt:=KN_nt _
theorem bm_of{w:Am}{b9:y9}{mg mb:zH->Option Value}{h:AE}{R:Nu}{XP:(zH->Option Value)->AE->Prop}(G:Ground qq loose R XP w b9 mg mb h):BM h:=by
 obtain⟨bm,ob,h1,h2,h3,h4,h5,h6⟩:=G.T.bmain
 exact⟨mg,bm,ob,G.T.g,h1,h2,h3,h4,h5,h6⟩
theorem oZ{w:Am}{h:AE}(k:(KK w.params).In h):∀ t∈316::tabs,isCodeTable h t:=by
 intro t ht
 rcases y7.mp ht with rfl|ht
 ·exact⟨320,o320 w.params,_,k _ _ (by kernel_rfl),rfl,rfl,rfl⟩
 obtain rfl:t=248:=by simpa using ht
 exact⟨252,o252 w.params,_,k _ _ (by kernel_rfl),rfl,rfl,rfl⟩
theorem vm{w:Am}{h:AE}(k:(KK w.params).In h):∀ t∈tabs,∃ ps,h.get? t=some (Ei ps)/\C3 ps.toList:=by
 intro t ht
 obtain rfl:t=248:=by simpa using ht
 exact⟨#[],k 248 (o248 w.params) (by kernel_rfl),by trivial⟩
theorem rh{w:Am}{b9 s₁:y9}{mg mb:zH->Option Value}{R:Nu}{XP:(zH->Option Value)->AE->Prop}{fa sc:ze}{vs:List Value}{ns:List Int}{Q:VP}{E:VP}
  (G:Ground qq loose R XP w b9 mg mb s₁.heap) (k:(KK w.params).In s₁.heap) (hfa:mg (yW "law")=some (.ref fa)) (hl:s₁.heap.IsList sc vs.toArray) (hi:IntsAre vs ns) (hn:ns.length<=63) (htk:776<=s₁.toks)
  (h:∀ s',OldK s₁.heap s'.heap->s'.os=s₁.os->(M3 s₁.gens->M3 s'.gens)->Q (.bool true) s') :
  y4 (y0 pw w) callerA (call (.ref fa) [.ref sc]) Q E s₁:=by
 have kn:=KN_in k
 have e:mg (yW "law")=some (.ref 331):=mg_of kn G.T.g (by kernel_rfl)
 rw[hfa] at e
 injection e with e;injection e with e
 subst e
 refine BO ?_
 have h0:s₁.heap.get? 316=some (E8 #[]):=k 316 (o316 w.params) (by kernel_rfl)
 refine sO (scv:=vs) (sc:=sc) (gd_of G kn) (bm_of G) h0 (vm k) (by decide) (by decide) rfl rfl rfl ⟨?_,?_,qE hi,?_⟩ htk ?_
 ·obtain⟨o,a,b,n,c⟩:=hl
  exact⟨o,n,a,b,c⟩
 ·intro q
  obtain rfl:sc=248:=by simpa using q
  obtain⟨o,a,b,n,c⟩:=hl
  have:=k 248 (o248 w.params) (by kernel_rfl)
  rw[this] at a
  cases a
  cases b
 ·rw[IntsAre.length hi];exact hn
 ·exact λs' L' l' X ps K hps S=>h s' (v5 (S.unreb h0 (by decide) hps) (oZ k)) K.os K.gens
end
end Mine
open PySem PySem.W PyProof.Rows
set_option maxHeartbeats 0
open Mine in
theorem PySem.Challenge.cw_yj0002_01_holds : PySem.Challenge.rw_yj0002_01.Holds := by
 w_on
 refine holds_law (by kernel_rfl) λsaid=>?_
 refine holds_openX (q:=qq) (loose:=loose) (Xt:=Xt) (XP:=XL qq []) (Yf:=λs=>(aa.map s.heap.get?,Ce tk0 s.toks)) (Ya:=λw=>((KK w.params).map λp=>some p.2,true)) (N:=4910) ?hl (λs e=>xl_of s (zo.mp e).1) XL.keeps
  (by rfl) (by rfl) (by rfl) (λs e=>recFacts_of (zo.mp e).2) (by rfl) (by first|assumption|decide +kernel) (by decide +kernel) ⟨rfl,rfl,rfl,rfl,rfl,by decide +kernel⟩ ?hw ?hc
 case hl=>exact left
 case hw=>w_witness2
 case hc =>
  intro w b9 s₁ mg mb G Y fa o pm cd doc dV kV ho hd hcd hD hmg hg args vals as La hpre hlay hrd hwl hlo
  clear hcd hd hD ho
  have hfa:mg "law" = some (.ref fa):=hmg
  clear hmg
  wrow_args hpre hlay hrd hwl hlo
  rename_i ns _ _ _ _ _ _ _ sc vs _ hL _ _ _ hI _ hn _
  have k:=kk_in (congrArg Prod.fst Y) La.keeps
  have ht:776<=s₁.toks:=zk (zk (by decide:776<=tk0) (CF (congrArg Mu Y))) (X.script_toks La rfl)
  refine rh (ns:=ns) G k hfa hL hI (by exact zbi hn) ht λs' K os gens=>?_
  exact⟨.inl ⟨_,_,[],rfl,λ_=>rfl,ReadsW.bool true,by first|rfl|wrow_post,λ_=>⟨C5,λ_ hm=>(nomatch hm)⟩⟩,K,os,gens (by rw[hg];exact AllBare.empty)⟩
