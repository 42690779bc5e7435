import PyProof.Rows.All
import Wide.All
import OpenK.AllK
import Wide.FinOn
import ObjForm.Fk.ObjNew
import ObjForm.Fk.InstLoad
import ObjForm.Fk.InstStore
import PyProof.SeqI3
import PyProof.ExcFactsAll.ValueError
import KE.KStar
import KE.KSortTup
import OpenK.KWalk
import KE.KNestM
import Lean
import PySem.Challenge.RW_tc0077_01
open Array renaming length_toList->Cq,getElem?_toList->CN,toList_append->EQ,all_eq_true'->FV,mem_of_getElem?->GJ,toList_push->Hm,toList_eraseIdxIfInBounds->Ht,toList_inj->HA,getElem?_eq_some_iff->C9,getElem?_setIfInBounds->HO,mk->Mj,mem_or_eq_of_mem_setIfInBounds->GY,getElem?_setIfInBounds_ne->Hu,getElem?_eq_getElem->Is,getD_eq_getD_getElem?->HU,perm_iff_toList_perm->H9,size->Ll
open Array.Perm renaming refl->Mt
open Bool renaming true->u,false->BQ,and_eq_true->Cv,and_eq_true_iff->CK,false_ne_true->Dn,false_eq_true->Ex,eq_iff_iff->GI,not_not->IT,or_eq_false_iff->Jm,not_eq_true'->F9,not_eq_false'->Hb,noConfusion->Kc,not_true->IH,not_false->KC
open Classical renaming byContradiction->Dp
open Eq renaming trans->BK
open ForIn renaming forIn->HW
open ForInStep renaming yield->Eb
open Inhabited renaming default->JJ
open Int renaming natCast_nonneg->C5,not_lt->DM,ofNat_lt->El,le_trans->EP,lt_of_le_of_lt->FZ,le_of_lt->GG,ofNat_le->Hv,natCast_add->H3,lt_irrefl->IN,le_of_eq->Ja,add_comm->Jb,lt_trans->Lk,toNat_natCast->Fl,fdiv_eq_ediv_of_nonneg->IC,eq_ofNat_of_zero_le->IZ,le_antisymm->KA,ne_of_lt->Hw
open LawfulBEq renaming eq_of_beq->La
open List renaming length_map->BH,mem_singleton->BO,getElem?_eq_getElem->BU,mem_cons->BX,getElem?_eq_some_iff->BY,mem_of_getElem?->B5,mem_map->B7,map_append->Cb,length_cons->Cd,mem_append_right->Ce,range->Ch,mem_append_left->Ci,getElem?_map->Ck,all_eq_true->Cn,append_assoc->Cu,mem_append->CA,append_nil->CE,map_cons->CR,filter_cons->CW,take_length->Dg,length_drop->Dh,filterMap_cons->D6,take_of_length_le->D8,nil_append->ED,forIn_cons->EE,map_take->EF,getElem?_inj->EI,map_drop->EZ,length_filterMap_le->E0,length->E3,findIdx?_eq_some_iff_getElem->E5,forIn_nil->Fb,size_toArray->Fc,eraseIdx_eq_take_drop_succ->Fn,lookup_cons->Fs,length_eq_zero_iff->Gt,length_pos_iff->G2,getElem_of_mem->G3,sum_cons->G6,take_zero->Ig,forall_mem_cons->Jl,take_succ_cons->Js,zip_cons_cons->Jy,mem_filterMap->Jz,any_eq_false->J0,getElem_map->J8,cons_append->J9,take_nil->KO,any_cons->KP,lookup->Lj,not_mem_nil->EO,Nodup->Gx,length_nil->HQ,drop_of_length_le->IY,length_append->BV,length_range->Ct,map_map->CJ,length_take->CM,take_add_one->CX,pairwise_iff_getElem->Ds,length_singleton->Dx,foldl_append->DJ,flatten_cons->DK,drop_eq_getElem_cons->DS,mem_of_mem_take->Fz,nodup_cons->FC,foldl_cons->FD,mem_zipIdx_iff_getElem?->FG,getElem?_zip_eq_some->F4,drop_length->Gp,pairwise_singleton->Gs,length_eq_one_iff->Gz,range_succ->GH,mem_iff_getElem?->GM,mem_of_mem_drop->GR,drop_zero->Ih,drop_drop->Ii,getElem?_take_of_lt->IM,filterMap_append->Je,map->Jh,getElem?_drop->JB,mem_flatten->J7,filterMap->Kz,mem_filter->B8,length_filter_le->CI,mem_range->CU,filterMap_eq_map->Ee,getElem?_range->ES,take_append_drop->Fp,toArray->FL,getD_eq_getElem?_getD->FW,pairwise_map->F7,getElem?_eq_none->Jd,mem_of_getLast?->Jk,not_lt->Li,suffix_cons->DB,take_sublist->EH,nodup_append->Fd,suffix_refl->Gn,drop_sublist->Hr,perm_append_comm->Jc,map_congr_left->Jt,nil_suffix->Ks,filter_sublist->Di,mem_take_iff_getElem->Dt,flatten_append->Dv,pairwise_cons->Dz,pairwise_append->DC,filter_eq_nil_iff->DL,filter_append->Ec,getElem?_append_right->Ed,take_append_of_le_length->Et,eq_nil_of_length_eq_zero->Eu,perm_append_singleton->EM,filter_eq_self->ET,filter_congr->Fe,getElem_mem->Ft,drop_append_of_le_length->FA,take_length_add_append->FM,getLast?_eq_none_iff->F3,getElem?_append_left->F5,flatMap_cons->F8,mem_flatMap->Go,flatMap_append->G4,perm_middle->HD,map_id->HI,idxOf_lt_length_of_mem->H5,count_eq_length_filter->H6,perm_ext_iff_of_nodup->Ip,getLast?_eq_some_iff->IB,filter_cons_of_neg->IP,getElem_idxOf->JA
open List.Pairwise renaming cons->H7,nil->Lm,imp->Ln
open List.Perm renaming trans->MD
open List.cons renaming inj->GL,injEq->MC
open Max renaming max->K7
open Min renaming min->ME
open Nat renaming le_trans->BG,le_refl->BJ,lt_of_lt_of_le->BL,not_lt->BP,ne_of_lt->BZ,lt_succ_self->B3,le_add_right->B4,sub_add_cancel->Cc,le_antisymm->Cg,zero_le->Cm,le_succ_of_le->Co,le_succ->Cr,add_lt_add_left->Cs,le_of_eq->CL,lt_of_le_of_lt->CP,lt_succ_of_lt->C3,add_le_add_left->C8,min_le_right->Da,add_le_add->Df,lt_succ_of_le->Dk,le_of_lt_succ->Dw,add_comm->D1,add_left_cancel->D7,zero_add->Ek,add_assoc->EG,le_of_ble_eq_true->Fu,min_eq_left->FJ,le_add_left->FK,lt_or_ge->FR,lt_irrefl->Gl,add_sub_cancel->Hl,sub_pos_of_lt->Hx,not_lt_zero->H2,ble->Ic,lt_or_eq_of_le->JX,le_total->Lh,sub_sub->Lv,le_zero->Ly,le_of_lt->Cz,ne_of_gt->D0,le_of_not_lt->Ea,le_of_succ_le->Eo,two_mul->Gc,not_le->GB,lt_trans->GE,div_lt_of_lt_mul->GX,add_lt_add_of_lt_of_le->IA,le_div_iff_mul_le->Jj,add_lt_add_right->Jr,succ_ne_self->Kp,two_pos->Lu,mul_two->Lx,min_le_left->Dq,sub_le->DY,sub_self->Fj,succ_pos->GD,add_zero->GF,succ_pred_eq_of_pos->IW,succ_mul->I8,sub_zero->I9,mul_le_mul_right->Jq,succ_le_succ->Kq,sub_sub_self->Kr,one_pos->Lw,sub_lt->Mh,lt_of_le_of_ne->Do,lt_add_right->DF,lt_add_of_pos_right->DG,add_sub_cancel'->EY,le_sub_one_of_lt->GW,mul_le_mul_left->G7,max_eq_left->Ky,mod_lt->CZ,min_self->Lg,sub_add_comm->Gv,lt_trichotomy->Hy,sub_lt_left_of_lt_add->IL,add_right_comm->JY
open Nat.Internal.Linear renaming Expr->C0,Context->J2
open Nat.Internal.Linear.ExprCnstr renaming toNormPoly->Ia,eq_true_of_isValid->Ib
open Nat.succ renaming inj->If
open Ne renaming symm->DN
open Option renaming some->H,none->B2,map_some->JW,map->K1,bind_some->CF
open Option.some renaming inj->CO
open Prod renaming ext->Kt,snd->Mr,fst->Ms
open Prod.mk renaming inj->Kx
open Pure renaming pure->CV
open PyProof renaming noPylong_small->NP
open PyProof.Rows renaming readsAll_nil_inv->C4,reads_str_inv->EL,StrsAre->E4,reads_int_inv->E8,lt_str->Gq,eq_str->Gr,len_list->HN,add_str->HS,AllBare->JK,sortedS->KR,slot_str_getitem->Le,truthy_int->Lz,sub_int->LB,sorted_strs->LC,notIn_str->LD,neg_int->LF,ne_int->LG,mul_int->LH,lt_int->LJ,len_str->LK,le_int->LL,in_str->LM,gt_int->LO,getItem_tuple->LR,getItem_str->LS,eq_int->LU,add_int->LV,ClsAt->L0,wpAny_operate'->L9,subscriptTail->Mm,Subscript_->M5,iadd_str->LN,seqObj->HE,get?_update_seq->Lr,SortKind->L8,listUpdate_at->Mo,seqEpoch_at->ML,eqBool_str->M1
open PyProof.Rows.SCL renaming upper->KG,lower->KH
open PySem renaming Str->O,Addr->M,Value->Z,wpAny_bind->BM,Shared->BN,wpAny_pure->BW,wpAny->B9,PyData->Cj,wpAny_mono->CB,compareOp->CC,typeLookup->CD,Heap->CG,Expr->CQ,mainGlobals->C1,wpAny_holding->C2,wpAny_standAt->C6,ReadsAll->C7,strValues->Db,wpAny_newObj_type->Dc,sliceBounds->Dd,foldedSetIterable->Dl,wpAny_specialOf->Dr,call->Du,builtinsNs->Dy,model->DA,letOwnedTupleGo->DE,keywordEach->DI,Around->DX,Stmt->DZ,Scope->Ef,seqIndex?->Eg,wpAny_call_entry->Eh,Arguments->Ep,rawInt->Ey,starEach->Ez,bindArgs->EA,backToKw->EB,newFunctionEnv->EC,eval->EJ,wpAny_execs_nil->EK,wpAny_Assign_Name->EN,binaryOp->EU,Reads->E2,Env->E6,GenState->E7,codeAny->E9,Program->Fa,wpAny_load->Fg,sysModules->Fh,sliceRange->Fi,wpAny_Constant_str->Fk,noteFrame->Fm,Slot->Fo,strKind->Fq,Keyword->Fw,wpAny_evalAll_nil->Fx,Sem->FB,Pos->FH,callWith->FP,wpAny_loadName_local->FU,wpAny_nsSet1EFk->FY,Model->F0,wpAny_Constant_bool->F1,standAt->F6,storeName->Ga,Obj->Ge,assign->Gf,keeperOf->Gg,NameKind->Gi,call_meets->Gk,wpAny_assign_Name->Gy,backTo->GA,attributeBase->GC,codeAmong->GN,holding->GT,assignEach->GV,execs->GZ,theTreesLotGoes->G0,storeName_local->G1,truthy->Hc,pyNext->Hd,sizeLine->Hf,getAttr->Hn,argBest->Ho,swapsWith->Hp,slicePick->Hq,pyIter->HF,wpAny_Name->HG,typeIs_str->HH,wpAny_isTrue_value->HL,World->HX,spliced->HY,loadName->HZ,getMethod_builtin->H1,plainObj_wpAny_Assign_Attribute->Ij,isTrue->It,wpAny_For->Iu,inplaceOp->Iv,interactive->IE,excClassObj->IF,notedBy->IQ,allTrue->IR,callMarked->I6,Tok->Jg,getMethod->Jx,Flow->JD,setAttr->JF,nameOf?->JG,getItem->JI,concat_meets->JR,codeAny_compStart_list->JV,wpAny_isTrue_Compare1->J5,wpAny_nsGet->Kg,wpAny_alloc->Kh,wpAny_letTemporaryGo->Kk,codeAny_forLoop_any->Kw,Result->KJ,wpAny_Constant_int->KN,newList->KT,evalAll->KU,OsState->KW,wpAny_truthy_bool->KX,wpAny_Return_some->KY,slot_list_getitem->KZ,handedOut->K9,TriplesOk->Lb,wpAny_execs_cons->Ld,Fin->Lp,noFill_list_add->Lq,numAt->LY,Frame->LZ,cellOf->L2,Keeper->L4,intItems->L5,evalArgs->L6,compPost->L7,wpAny_Compare1->Ma,recursionLimit->Mb,methodCallForm->Mc,comprehension->Mp,behindInMarks->Mq,seq_list_add->Mw,wpAny_point->MF,wpAny_noted->MG,wpAny_BinOp->MH,subscripted->MI,slicePicked->MJ,intItems_at->MM,exec->MR,typeOf->MS,SignAt->MU,strKind_is->MX,methodCall->M0,closureFor->M3,builtinLookup_eq_fast->Cf,typeLookup_type->Cw,isSubtype_type->D5,wpAny_loadPart_at->Er,wpAny_of_eq->EV,wpAny_field->EW,wpAny_typeLookup_exc->EX,newTuple->FN,argsOk->FX,setFlight->Gb,wpAny_rule->Gj,entryFor_of_tree->GP,wpAny_callSpecial?_slot->GQ,wpAny_call->GU,wpAny_setField->Hj,codeAny_call_builtin->Hk,wpAny_attempt->HB,wpAny_isInstance->Iw,entryFor->I3,FuncData->I5,wpAny_onRaise->Jn,swappedStores->Jo,isSubtype->Jw,codeAny_call_function->J6,ObjNewFacts->Kj,unbindBehindTheSuite->Kl,wpAny_raiseNew_none->Ku,isInstance->KL,newFields->K8,table->LX,isSubtype_stop->Md,borrowsExactly->Me,TriplesOk_snoc->Mf,codeAny_func->Mx,call_type_of->My,callSpecial?->Mz,callBorrowed->MA,sizeLine_eq->MK,newExc->MT,defaultsOf->M2,seg_execs_nil->DR,seg_execs_cons->D4,strIterType->FQ,clipAt->He,seg_wrap->Hg,seg_Expr_Yield->I7,Seg->Ju,seg_again->Jv,codeAny_mono->JT,Protocol->Kf,seg_at->L1,slot_gen_next->Mn,IsEnum->MV,GenEnd->MW,splitAtGen->MY,clipAt_nat->M4,wpAny_eqBool_int->GO,wpAny_lt_int->JL,wpAny_tupleItemsOf->KM,wpAny_newList->Ml,callerA->KV,DictEntry->Lc,Params->L3,bootBuiltins->H0
open PySem.Around renaming frames_deeper->I1
open PySem.AutoIntOps renaming isub_0->KD,iadd_0->KF
open PySem.AutoSeq1 renaming list_insert_list_int_val_1->MP,list_clear_list_0->MQ
open PySem.Builtin.Generator renaming genWake->GS
open PySem.Builtin.List renaming listFitsIndex->Fv
open PySem.Builtin.ObjectAttr renaming storeInDict->Gu,newKeyGuard->Kd
open PySem.Builtin.Range renaming rangeSize->Hs,small->HT,rangeFitsLong->Lo
open PySem.Builtin.Re renaming reTurnSteps->ID,reRunToEnd->MZ
open PySem.Builtin.SmallTypes renaming stopIteration->Gd
open PySem.Builtin.Str renaming glued->De,occurrences->Ej,strSliceIndices->Es,tooLong->Ir
open PySem.Calls renaming spliced_nil->D3,wpAny_keep->Hz,spliced_cons->Dm,call_function_entry->Iq
open PySem.Challenge renaming pw_tc0077_01->KQ,rw_tc0077_01->DT
open PySem.Code renaming quiet_builtin->JC
open PySem.F renaming slot_list_append->CT,slot_str_join->DO,slot_list_insert->Ei,slot_list_pop->Gw,slot_list_remove->H4,slot_list_index->Ik,slot_list_clear->Il,args_list_add_2->Io,entry_list_add->Iz,slot_list_add->IK,slot_tuple_getitem->Nj,slot_tuple_add->Nk,slot_dict_getitem->Nn,plainAttrs_str->No,plainAttrs_list->Np,entry_tuple_add->Nw,entry_str_join->Nx,entry_list_remove->Ny,entry_list_pop->Nz,entry_list_insert->NA,entry_list_index->NB,entry_list_clear->NC,entry_list_append->ND,args_tuple_add_2->NG,args_str_join_2->NH,args_list_remove_2->NI,args_list_pop_2->NJ,args_list_insert_3->NK,args_list_index_2->NL,args_list_clear_1->NM,args_list_append_2->NN,type_list_insert->ER,mro_object->HK,lk_object_getattr->Kb,slot_tuple_iter->Ni,isExc_ValueError->Nr,excStr_ValueError->Ns,excRaise_ValueError->Nt,excCall_ValueError->Nu,type_list_append->CY,type_str_join->D9,objNew->HM,slot_dict_items->Im,type_str_lower->Ix,slot_str_lower->Iy,type_list_pop->II,type_dict_items->Nh,plainAttrs_dict->Nq,entry_dict_items->NE,args_dict_items_1->NO,slot_tuple_lt->IJ,type_str_upper->Nb,type_list_remove->Nd,type_list_index->Nf,slot_str_upper->Nl,entry_tuple_lt->Nv,args_tuple_lt_2->NF,type_str_count->Nc,type_list_clear->Ng,slot_str_count->Nm
open PySem.Flt renaming wpAny_loadPart_known->G8,wpAny_nsGet_known->MB
open PySem.Frame renaming guarded->KB
open PySem.Heap renaming get?_push_size->B6,lt_size->Ca,get?_push_of_some->Cp,size_push->CH,get?_update_self->DU,SameBut->Ew,size_after_update->Ff,get?_update_other->I0,get?_push_ne->J1,get?->J4,get?_update_ne->Dj,update->HJ,LeftW->Ie,size_update->Ka
open PySem.Heap.DictOf renaming new->Mk
open PySem.Heap.IsSliceOf renaming new->K6
open PySem.Heap.Ns renaming new->NS
open PySem.Heap.Ns1 renaming of_empty->G5
open PySem.Heap.SameBut renaming update->H8
open PySem.IntMulOk renaming of_left->Ha
open PySem.Keeper renaming boundFrame->G9,machine->HR,frame->IG
open PySem.Manifest renaming canonical->IX,find?->MO
open PySem.MeetsSeq renaming list_remove->K2,list_pop_at->K3,list_index->K4,EqGives->K5
open PySem.NameKind renaming free->HP,cell->JZ,globalImplicit->F2
open PySem.Obj renaming mapSeq->Hi,mapFields->Fy
open PySem.P renaming str_of_exc_one->Na
open PySem.PyData renaming strOk->BR,str->B1,canLayAll0->Cy,canLay0->DH,eqv->Gm,depth->DW,int->D2,list->GK,depthAll->HC,eqvAll->Ko
open PySem.Sem renaming wp->M6,bind_eq_wrap'->Em,wrap_wrap->E1,bind_eq_wrap->Kn
open PySem.SeqAt renaming compareNe_reads->IU,compareEq_reads->IV,eqv_refl->Km
open PySem.SeqRoads2.EqGives renaming str->Jf
open PySem.Sre renaming M->J3,forSearch->K0
open PySem.Str renaming empty->B0,length->Mg
open PySem.StrLaws renaming sliceText->M9,sliceText_nat->M7,sliceText_from->M8
open PySem.Txt renaming lower->CS,count->IS,upper->Ki
open PySem.Value renaming str->Ls,int->Lt,none->DV,ref->JU
open PySem.Value.type renaming inj->Ji
open PySem.W renaming kdsPlain->Hh,fnOf->HV,tabObj->JE,kla_makeFunctionHit->Kv,kla_makeFunction->Lf,kat_cons->Ke,kat_one->Mu,kas_ask->Mv,Frag->KI,codeHd_of_K->MN
open PySem.W.Hook renaming says->Mi
open PySem.W.KasT renaming kasWp_bind->FE
open PySem.W.OpenLaw renaming wellSaid->NQ,row->NR
open PySem.WalksT renaming enumerateD->Jp
open PySem PySem.W PyProof.Rows PySem.Calls
set_option Elab.async false
set_option linter.unusedVariables false
set_option linter.unusedSimpArgs false
set_option genInjectivity false
set_option genSizeOf false
namespace Mine.Tactic
section
theorem R{α:Sort _}{a:α}:a=a:=rfl
noncomputable abbrev PP:Fa:=KQ
structure kj where
 v:O
 l:Ep
 h:List DZ
 aM:Ef
noncomputable def kj.NW(s:DZ):kj:=match DefRec.ofStmt? s with
 |some r=>⟨r.name,r.params,r.body,r.scope⟩
 |none=>⟨B0,⟨[],[],B2,[],[],B2,[]⟩,[],JJ⟩
noncomputable def eJ:CQ:=.Name B0 ⟨0,0,0,0⟩
noncomputable def eP:Ep×CQ×Ef:=(⟨[],[],B2,[],[],B2,[]⟩,eJ,JJ)
noncomputable def jP(s:DZ):CQ×List DZ×List DZ:=@Stmt.casesOn (λa=>CQ×List DZ×List DZ) s (λa a a a a a a a a a=>(eJ,[],[])) (λa a a a a a a a a a=>(eJ,[],[])) (λa a a b a a a a a a a=>(eJ,b,[])) (λa a=>(eJ,[],[])) (λa a=>(eJ,[],[])) (λa v a=>(v,[],[])) (λa a a a a a a=>(eJ,[],[])) (λa a a a=>(eJ,[],[])) (λa a a a a=>(eJ,[],[])) (λt a b a a=>(t,b,[])) (λa a a a a=>(eJ,[],[])) (λa a a a=>(eJ,[],[])) (λa b o a=>(eJ,b,o)) (λa a a=>(eJ,[],[])) (λa a a=>(eJ,[],[])) (λa a a=>(eJ,[],[])) (λa a a=>(eJ,[],[])) (λa a a a a=>(eJ,[],[])) (λa a a a a=>(eJ,[],[])) (λa a a=>(eJ,[],[])) (λa a=>(eJ,[],[])) (λa a a a=>(eJ,[],[])) (λa a=>(eJ,[],[])) (λa a=>(eJ,[],[])) (λv a=>(v,[],[])) (λa=>(eJ,[],[])) (λa=>(eJ,[],[])) (λa=>(eJ,[],[]))
noncomputable def mJ(e:CQ):(Ep×CQ×Ef)×List Fw:=@Expr.casesOn (λa=>(Ep×CQ×Ef)×List Fw) e (λa a a=>(eP,[])) (λa a a=>(eP,[])) (λa a a a=>(eP,[])) (λa a a=>(eP,[])) (λp b s a=>((p,b,s),[])) (λa a a a=>(eP,[])) (λa a a=>(eP,[])) (λa a a=>(eP,[])) (λa a a a=>(eP,[])) (λa a a a=>(eP,[])) (λa a a a a=>(eP,[])) (λa a a a=>(eP,[])) (λa a=>(eP,[])) (λa a=>(eP,[])) (λa a=>(eP,[])) (λa a a a=>(eP,[])) (λa a c a=>(eP,c)) (λa a a a=>(eP,[])) (λa a=>(eP,[])) (λa a a=>(eP,[])) (λa a a=>(eP,[])) (λa a a=>(eP,[])) (λa a=>(eP,[])) (λa a=>(eP,[])) (λa a=>(eP,[])) (λa a a=>(eP,[])) (λa a a a=>(eP,[]))
noncomputable def n2(i:Nat):DZ:=(PP.main.body[i]?).getD (.Pass ⟨0,0,0,0⟩)
noncomputable def az(i:Nat):kj:=kj.NW (n2 i)
noncomputable def wj(s:DZ):List DZ:=(jP s).2.1
noncomputable def dz(i j:Nat):kj:=kj.NW (((wj (n2 i))[j]?).getD (.Pass ⟨0,0,0,0⟩))
section
noncomputable def qVv:Fa:={PP with main:={PP.main with body:=[n2 0,n2 30]}}
abbrev rZ:OpenRow:=NR DT
set_option maxRecDepth 100000
set_option maxHeartbeats 8000000
noncomputable def pf:List O:=["_wall","insort_right","bisect_right","insort_left","bisect_left","_iter_escaped_chars","_strip_quoted_realnames","_check_parenthesis","_pre_parse_validation","_netrclex","tspecials","_name_disallowed_re","_value_disallowed_re","_formatparam","Headers","_law_desk","_law_spelled","_law_label","_law_forth","_law_back","_law_text","_law_way","_law_refused","_law_line"]
theorem sdd:NQ DT=u:=by
 iterate 38 refine look_both ?_ (by decide+kernel)
 decide+kernel
theorem zi{d:DefRec}{a:List (O×CQ)}(k1:rZ.wellSaid=u)(cX:Hook)(b:defOf qVv rZ.name=H (d,a))(ai:rZ.prog.theDef rZ.name=H (d.params,d.body,d.scope))(c:kwWritten? d.params.kwonlyargs d.params.kw_defaults=H a)(g:LeftO rZ.prog qVv pf (λs=>xlAt qVv [] s&&recOk (RowW.records rZ.toRowW) s) (Hook.obs cX) (Hook.val cX) 4030)(h:rZ.toRowW.promised)(aL:WalkO qVv pf (XL qVv []) (Mi cX) rZ.toRowW d a λf vs=>Du f vs):rZ.Holds:=
 holds_open g (Hook.of cX) (Hook.keeps cX) (λs e=>xl_of s (CK.mp e).1) XL.keeps b ai c (λs e=>recFacts_of (CK.mp e).2) (by rfl) k1 (by decide+kernel) ⟨R,R,R,R,R,by decide+kernel⟩ h aL
noncomputable def lJ(m:O)(c:Jg)(a:M)(n q:O)(x:kj)(d k:Z)(t l p kw f:Nat)(b:Bool)(bb:Nat):KI:=[(a,⟨.type "function",B2,.func (HV n q x.l x.h x.aM d k .none (.str m c) B2 (.ref (a-1)) .none),#[]⟩),(a-1,⟨.type "code",B2,.fields #[.str n t,.str q (t+1),.str "/claim/cut.py" (t+2),.int l 0,.int p 0,.int 0 0,.int kw 0,.int f 0,.ref (if b then a-6 else a-4),.bool u,.int 276 0,.ref (if b then a-5 else a-3),.none,if b then .ref (a-4)else .none,if b then .ref (a-3)else .none,.ref (a-2),.int bb 0,.int l 0,.str "/claim/cut.py" (bb+1)],#[]⟩)]
noncomputable abbrev mK:=lJ "cpy313.bisect" 289
noncomputable abbrev nJ:=lJ "cpy313.email.utils" 345
noncomputable abbrev nk:=lJ "cpy313.netrc" 388
noncomputable abbrev lX:=lJ "cpy313.wsgiref.headers" 448
noncomputable abbrev iy:=lJ "law_tc0077_01" 711
noncomputable def ke(P:L3)(x:O)(t:Jg)(v:Z):Lc:=⟨PyData.keyHash P x,.str x t,v⟩
noncomputable def dA(P:L3):KI:=[(3,⟨.type "dict",B2,.dict #[ke P "__name__" 165 (.str "law_tc0077_01" 711),ke P "__doc__" 166 .none,ke P "__package__" 167 .none,ke P "__loader__" 168 (.builtin "__main__.__loader__#opaque"),ke P "__spec__" 169 .none,ke P "__annotations__" 170 (.ref 6),ke P "__builtins__" 171 (.ref 4),ke P "__file__" 173 (.str "/claim/cut.py" 172),ke P "__cached__" 174 .none,ke P "_sre" 275 (.ref 12),ke P "_wall" 288 (.ref 38),ke P "insort_right" 303 (.ref 47),ke P "bisect_right" 317 (.ref 56),ke P "insort_left" 330 (.ref 65),ke P "bisect_left" 344 (.ref 74),ke P "_iter_escaped_chars" 356 (.ref 81),ke P "_strip_quoted_realnames" 368 (.ref 88),ke P "_check_parenthesis" 378 (.ref 95),ke P "_pre_parse_validation" 387 (.ref 102),ke P "_netrclex" 447 (.ref 140),ke P "tspecials" 483 (.ref 149),ke P "_name_disallowed_re" 509 (.ref 154),ke P "_value_disallowed_re" 543 (.ref 159),ke P "_formatparam" 553 (.ref 167),ke P "Headers" 710 (.ref 288),ke P "_law_desk" 721 (.ref 299),ke P "_law_spelled" 731 (.ref 306),ke P "_law_label" 740 (.ref 313),ke P "_law_forth" 746 (.ref 318),ke P "_law_back" 752 (.ref 323),ke P "_law_text" 758 (.ref 328),ke P "_law_way" 764 (.ref 333),ke P "_law_refused" 774 (.ref 340),ke P "_law_line" 780 (.ref 345),ke P "law" 786 (.ref 350)] 35,#[]⟩),(139,⟨.type "dict",B2,.dict #[ke P "__module__" 397 (.str "cpy313.netrc" 388),ke P "__firstlineno__" 401 (.int 109 400),ke P "__init__" 409 (.ref 116),ke P "_read_char" 417 (.ref 123),ke P "get_token" 427 (.ref 130),ke P "push_token" 435 (.ref 137),ke P "__static_attributes__" 440 (.ref 138),ke P "__dict__" 442 (.ref 141),ke P "__weakref__" 444 (.ref 142),ke P "__doc__" 445 .none] 4,#[]⟩),(287,⟨.type "dict",B2,.dict #[ke P "__module__" 561 (.str "cpy313.wsgiref.headers" 448),ke P "__firstlineno__" 565 (.int 165 564),ke P "__init__" 575 (.ref 182),ke P "_convert_string_type" 585 (.ref 189),ke P "__len__" 592 (.ref 196),ke P "__setitem__" 601 (.ref 203),ke P "__delitem__" 607 (.ref 208),ke P "__getitem__" 615 (.ref 215),ke P "__contains__" 623 (.ref 222),ke P "get_all" 629 (.ref 227),ke P "get" 640 (.ref 235),ke P "keys" 646 (.ref 240),ke P "values" 652 (.ref 245),ke P "items" 659 (.ref 252),ke P "__repr__" 666 (.ref 259),ke P "__str__" 672 (.ref 264),ke P "__bytes__" 679 (.ref 271),ke P "setdefault" 688 (.ref 278),ke P "add_header" 701 (.ref 285),ke P "__static_attributes__" 703 (.ref 286),ke P "__dict__" 705 (.ref 289),ke P "__weakref__" 707 (.ref 290),ke P "__doc__" 708 .none] 4,#[]⟩),(40,⟨.type "dict",B2,.dict #[ke P "key" 292 .none] 1,#[]⟩),(49,⟨.type "dict",B2,.dict #[ke P "key" 305 .none] 1,#[]⟩),(58,⟨.type "dict",B2,.dict #[ke P "key" 319 .none] 1,#[]⟩),(67,⟨.type "dict",B2,.dict #[ke P "key" 332 .none] 1,#[]⟩),(39,⟨.type "tuple",B2,.seq #[.int 0 291,.none],#[]⟩),(48,⟨.type "tuple",B2,.seq #[.int 0 304,.none],#[]⟩),(57,⟨.type "tuple",B2,.seq #[.int 0 318,.none],#[]⟩),(66,⟨.type "tuple",B2,.seq #[.int 0 331,.none],#[]⟩),(175,⟨.type "tuple",B2,.seq #[.none],#[]⟩),(153,⟨.type "tuple",B2,.seq ([14,10,4,1,1,22,0,31,16,127,0,13,7,22,0,31,16,127,0,1].map λi=>.int i 0).toArray,#[]⟩),(158,⟨.type "tuple",B2,.seq ([14,14,4,1,1,9,4294966783,0,0,2147483648,0,0,0,0,0,13,11,9,4294966783,0,0,2147483648,0,0,0,0,0,1].map λi=>.int i 0).toArray,#[]⟩),(154,⟨.type "re.Pattern",B2,.fields #[.str "[\\x00-\\x1F\\x7F]" 485,.int 32 508,.int 0 0,.none,.none,.ref 153,.int 0 0],#[]⟩),(159,⟨.type "re.Pattern",B2,.fields #[.str "[\\x00-\\x08\\x0A-\\x1F\\x7F]" 511,.int 32 542,.int 0 0,.none,.none,.ref 158,.int 0 0],#[]⟩),(140,⟨.type "type",B2,.cls {name:="_netrclex",bases:=[.type "object"],mro:=[.ref 140,.type "object"],ns:=139,qualname:="_netrclex"},#[B2,B2,H (.str "_netrclex" 390),H (.str "_netrclex" 398),H (.builtin "object.__new__"),H (.bool u)]⟩),(288,⟨.type "type",B2,.cls {name:="Headers",bases:=[.type "object"],mro:=[.ref 288,.type "object"],ns:=287,qualname:="Headers"},#[B2,B2,H (.str "Headers" 554),H (.str "Headers" 562),H (.builtin "object.__new__"),H (.bool u)]⟩)]++[mK 47 "insort_right" "insort_right" (az 3) (.ref 39) (.ref 40) 293 6 4 1 3 u 301,
 mK 56 "bisect_right" "bisect_right" (az 4) (.ref 48) (.ref 49) 306 12 4 1 3 u 315,
 mK 65 "insort_left" "insort_left" (az 5) (.ref 57) (.ref 58) 320 32 4 1 3 u 328,
 mK 74 "bisect_left" "bisect_left" (az 6) (.ref 66) (.ref 67) 333 38 4 1 3 u 342,
 nJ 81 "_iter_escaped_chars" "_iter_escaped_chars" (az 8) .none .none 347 59 1 0 35 u 354,
 nJ 88 "_strip_quoted_realnames" "_strip_quoted_realnames" (az 9) .none .none 357 72 1 0 3 u 366,
 nJ 95 "_check_parenthesis" "_check_parenthesis" (az 10) .none .none 369 90 1 0 3 u 376,
 nJ 102 "_pre_parse_validation" "_pre_parse_validation" (az 11) .none .none 379 101 1 0 3 u 385,
 nk 116 "__init__" "_netrclex.__init__" (dz 13 0) .none .none 402 111 2 0 3 u 407,
 nk 123 "_read_char" "_netrclex._read_char" (dz 13 1) .none .none 410 117 1 0 3 u 415,
 nk 130 "get_token" "_netrclex.get_token" (dz 13 2) .none .none 418 123 1 0 3 u 425,
 nk 137 "push_token" "_netrclex.push_token" (dz 13 3) .none .none 428 150 2 0 3 u 433,
 lX 182 "__init__" "Headers.__init__" (dz 19 0) (.ref 175) .none 566 167 2 0 3 u 573,
 lX 189 "_convert_string_type" "Headers._convert_string_type" (dz 19 1) .none .none 576 177 2 1 3 u 583,
 lX 227 "get_all" "Headers.get_all" (dz 19 7) .none .none 624 202 2 0 3 BQ 627,
 lX 252 "items" "Headers.items" (dz 19 11) .none .none 653 219 1 0 3 u 657,
 lX 285 "add_header" "Headers.add_header" (dz 19 16) .none .none 689 234 3 0 11 u 699,
 iy 299 "_law_desk" "_law_desk" (az 21) .none .none 713 248 1 0 3 u 719,
 iy 306 "_law_spelled" "_law_spelled" (az 22) .none .none 722 253 2 0 3 u 729,
 iy 313 "_law_label" "_law_label" (az 23) .none .none 732 257 3 0 3 u 738,
 iy 318 "_law_forth" "_law_forth" (az 24) .none .none 741 259 4 0 3 BQ 744,
 iy 323 "_law_back" "_law_back" (az 25) .none .none 747 272 3 0 3 BQ 750,
 iy 328 "_law_text" "_law_text" (az 26) .none .none 753 288 4 0 3 BQ 756,
 iy 333 "_law_way" "_law_way" (az 27) .none .none 759 291 2 0 3 BQ 762,
 iy 340 "_law_refused" "_law_refused" (az 28) .none .none 765 300 3 0 3 u 772,
 iy 345 "_law_line" "_law_line" (az 29) .none .none 775 306 2 0 3 BQ 778,
 iy 350 "law" "law" (az 30) .none .none 781 353 1 0 3 BQ 784].flatten
noncomputable def rt:Hook:=kmHook dA [3,139,287,40,49,58,67,39,48,57,66,175,153,158,154,159,140,288,47,46,56,55,65,64,74,73,81,80,88,87,95,94,102,101,116,115,123,122,130,129,137,136,182,181,189,188,227,226,252,251,285,284,299,298,306,305,313,312,318,317,323,322,328,327,333,332,340,339,345,344,350,349] (λP=>by kernel_rfl) [294,342]
noncomputable def Bi:DefRec:=((defOf qVv rZ.name).map Ms).getD ⟨"law",(az 30).l,(az 30).h,(az 30).aM,⟨0,0,0,0⟩⟩
namespace Hd0
noncomputable abbrev pZ:Program:=rZ.prog
noncomputable def so (w:World):Shared:=(fencedOpening treeTable pZ w 4030).getD {}
noncomputable def ob (w:World) (i:Nat):Obj:=(so w).heap.objs.toList.getD i default
noncomputable def dE (o:Obj):Array DictEntry:=match o.data with | .dict es _=>es | _=>#[]
noncomputable def mn (P:Params) (nm:Str) (t:Tok) (k:Nat):Addr × Obj:=(3,⟨.type "dict",none,.dict (ke P "__name__" 165 (.str nm t) :: (dE (((dA P).lookup 3).getD default)).toList.tail.take k).toArray (k + 1),#[]⟩)
noncomputable def cl (k:Nat):Addr × Obj:=(29,⟨.none,none,.fields ((([(2,37),(6,46),(12,55),(32,64),(38,73),(59,80),(72,87),(90,94),(101,101),(109,108),(156,166),(165,173)]:List (Int × Nat)).take k).flatMap λx=>[.int x.1 0,.int 0 0,.ref x.2]).toArray,#[]⟩)
noncomputable def bt (h:Nat->Obj) (n:Nat):Nat->Nat->Nat->BT
  | 0,_,_=>.nil
  | f + 1,a,b=>bif Nat.blt b n then .node (h b) (bt h n f (2 * a) (a + b)) (bt h n f (2 * a) (2 * a + b)) else .nil
noncomputable def hT (K:Frag) (g:Nat->Obj) (i:Nat):Obj:=((K.find? λx=>Nat.beq x.1 i).map Prod.snd).getD (g i)
noncomputable def sT (K:Frag) (n k:Nat) (g:Nat->Obj) (os:OsState):SharedT:=⟨bt (hT K g) n 10 1 0,n,{},#[],{},k,os⟩
abbrev Ov:=Nat × List (Option Obj) × Life × Array GenState × Drawn × Nat × OsState
noncomputable def oT (K:Frag) (s:SharedT):Ov:=(s.n,K.map λx=>s.tree.get x.1,s.life,s.gens,s.drawn,s.toks,s.os)
noncomputable def ov (K:Frag) (s:Shared):Ov:=(s.heap.objs.toList.length,K.map λx=>s.heap.objs.toList[x.1]?,s.heap.life,s.gens,s.drawn,s.toks,s.os)
noncomputable def vo (K:Frag) (n k:Nat) (os:OsState):Ov:=(n,K.map λx=>some x.2,{},#[],{},k,os)
-- object 2 is the dict of the model's statics; three of its keys are written by code points
noncomputable def ol (b:Nat->Obj) (P:Params):Frag:=(0,boot_o_0 P) :: (2,⟨.none,none,.dict #[ke P ⟨#[105,109,112,111,114,116,46,108,111,97,100,101,100,46,95,115,114,101]⟩ 183 (.bool true),ke P "class._frozen_importlib.BuiltinImporter" 185 (.ref 14),ke P ⟨#[119,97,116,99,104,101,100,46,105,109,112,111,114,116]⟩ 206 (.ref 18),ke P "class._frozen_importlib.ModuleSpec" 216 (.ref 22),ke P "sys.modules.booked-epoch" 245 (.int 3 0),ke P ⟨#[105,109,112,111,114,116,46,108,97,116,101,114,45,108,97,105,100,46,95,115,114,101]⟩ 270 (.bool true),ke P "watched.library" 272 (.ref 27),ke P "watched.library-objects" 0 (.str "\x0c" 0),ke P "watched.library-deep._sre" 273 (.str "\x04\x00\x00\x0b\x04\x00\x00\x0b\x04\x00\x00\x03\x04\x00\x00\x0b\x08\x04dict\x02" 0)] 9,#[]⟩) :: (4,boot_o_4 P) :: ([1,5,6,7,8,9,10,11,12,13,14,15,16,17,18,19,20,21,22,23,24,25,26,27]:List Nat).map λi=>(i,b i)
noncomputable def eE:Env:={ scope:=pZ.main.scope,locals:=mainNs,globals:=mainNs,cells:=[],code:=.ref 30,frame:=some 31 }
noncomputable def bB:List Stmt:=behindTheImports pZ
noncomputable abbrev cE:Code:=.body bB eE
abbrev z0:Pos:=⟨0,0,0,0⟩
noncomputable def l4:Frag:=[(28,⟨.type "tuple",none,.seq #[],#[]⟩),(30,⟨.type "code",none,.fields #[.str "<module>" 277,.str "<module>" 278,.str "/claim/cut.py" 279,.int 1 0,.int 0 0,.int 0 0,.int 0 0,.int 0 0,.ref 28,.bool false,.int 276 0,.ref 29,.none,.none,.none,.none,.int 280 0,.int 1 0,.str "/claim/cut.py" 281],#[]⟩),(31,⟨.type "frame",none,.plain,#[some (.ref 30),some (.ref 3),some (.ref 3),none,some (.str "__main__" 164),none,some (.ref 0)]⟩)]
noncomputable def kc (nm:Str) (t:Tok) (m k n:Nat) (b:Nat->Obj) (w:World):Frag:=mn w.params nm t m :: cl k :: (l4 ++ (ol b w.params ++ (dA w.params).filter λx=>Nat.blt 37 x.1 && Nat.blt x.1 n))
noncomputable def K0 (b:Nat->Obj) (w:World):Frag:=mn w.params "__main__" 164 9 :: ol b w.params
noncomputable def K1:=kc "__main__" 164 9 0 0
noncomputable def K2:=kc "cpy313.netrc" 388 18 9 103
noncomputable def KN:=kc "cpy313.netrc" 388 19 10 145
noncomputable def K3:=kc "cpy313.wsgiref.headers" 448 23 11 168
noncomputable def K4:=kc "cpy313.wsgiref.headers" 448 24 12 293
noncomputable def K5 (b:Nat->Obj) (w:World):Frag:=mn w.params "law_tc0077_01" 711 34 :: ([294,342,347].map (λa=>(a,tabObj #[])) ++ ol b w.params ++ (dA w.params).filter λx=>Nat.blt 37 x.1)
theorem hT_of {K:Frag} {f:Nat->Option Obj} (h:(K.map λx=>f x.1)=K.map λx=>some x.2) (i:Nat):hT K (λi=>(f i).getD default) i=(f i).getD default:=by
  unfold hT
  cases e:K.find? λx=>Nat.beq x.1 i with
  | none=>rfl
  | some x=>exact congrArg (·.getD default) ((List.map_inj_left.mp h x (List.mem_of_find?_eq_some e)).symm.trans (congrArg f (Nat.eq_of_beq_eq_true (List.find?_some (p:=λx:Addr × Obj=>Nat.beq x.1 i) e))))
theorem sEq {h h':Heap} {a a':Array GenState} {b b':Drawn} {c c':Nat} {d d':OsState} (e:h=h') (x:(a,b,c,d)=(a',b',c',d')):Shared.mk h a b c d=Shared.mk h' a' b' c' d' :=
  congr (congr (congr (congr (congrArg Shared.mk e) (congrArg Prod.fst x)) (congrArg (·.2.1) x)) (congrArg (·.2.2.1) x)) (congrArg (·.2.2.2) x)
abbrev LO (n:Nat):Prop:=∀ h,(bt h n 10 1 0).list n=(List.range n).map h
theorem abs_of {K:Frag} {n k:Nat} {os:OsState} {s:SharedT} (l:LO n) (e:oT K s=vo K n k os):∃ g,s.abs=(sT K n k g os).abs :=
  ⟨_,sEq (congr (congrArg Heap.mk (congrArg List.toArray ((congrArg s.tree.list (congrArg Prod.fst e)).trans ((List.map_congr_left λi _=>(hT_of (congrArg (·.2.1) e) i).symm).trans (l _).symm)))) (congrArg (·.2.2.1) e)) (congrArg (·.2.2.2) e)⟩
theorem at_of (L:List Obj):L=(List.range L.length).map λi=>(L[i]?).getD default:=List.ext_getElem? λi=>by
  rw [List.getElem?_map]
  rcases Nat.lt_or_ge i L.length with q | q
  · rw [List.getElem?_range q]; exact (List.getElem?_eq_getElem q).trans (congrArg some (congrArg (·.getD default) (List.getElem?_eq_getElem q)).symm)
  · rw [List.getElem?_eq_none q,List.getElem?_eq_none (by rw [List.length_range]; exact q)]; rfl
theorem heap_of {K:Frag} {n k:Nat} {os:OsState} {s:Shared} (l:LO n) (e:ov K s=vo K n k os):∃ g,s=(sT K n k g os).abs :=
  ⟨_,sEq (congr (congrArg Heap.mk (congrArg List.toArray ((at_of s.heap.objs.toList).trans ((congrArg (λm=>(List.range m).map _) (congrArg Prod.fst e)).trans ((List.map_congr_left λi _=>(hT_of (congrArg (·.2.1) e) i).symm).trans (l _).symm))))) (congrArg (·.2.2.1) e)) (congrArg (·.2.2.2) e)⟩
noncomputable abbrev sR (w:World):=segRun treeTable pZ w 28 (some (.ref 6)) 1
noncomputable abbrev sRT (w:World):=segRunT treeTable pZ w 28 (some (.ref 6)) 1
noncomputable abbrev tR (w:World):=topRun treeTable pZ w 28 (some (.ref 6))
noncomputable abbrev pO (l:List Stmt) (p:Pos):Thread:=piecesOf l eE cE p [topFrame z0]
theorem seg_of {w:World} {N n k:Nat} {os:OsState} {K:Frag} {s:SharedT} {l:List Stmt} {p q:Pos} (hn:LO n)
    (h:(sRT w N s (pO l p)).map (λx=>(x.1,oT K x.2.1,x.2.2))=some (.next,vo K n k os,cE,q)):∃ g,sR w N s.abs (pO l p)=some (.next,(sT K n k g os).abs,cE,q) :=
  (Option.map_eq_some_iff.mp h).elim λr h=>(abs_of hn (congrArg (·.2.1) h.2)).elim λg e=>⟨g,(segRun_of (f:=r.1) (s':=r.2.1) (c:=r.2.2.1) (q:=r.2.2.2) h.1).trans (congrArg some (Prod.ext (Prod.mk.inj h.2).1 (Prod.ext e (Prod.mk.inj (Prod.mk.inj h.2).2).2)))⟩
theorem p0 (w:World):(fencedOpening treeTable pZ w 4030).map (ov (K0 (ob w) w))=some (vo (K0 (ob w) w) 28 276 (so w).os):=by kernel_rfl
theorem p1 (b:Nat->Obj) (w:World) (g:Nat->Obj) (os:OsState):(topGo treeTable pZ w 28 (some (.ref 6)) 12 (sT (K0 b w) 28 276 g os).abs (topStub pZ)).map (λx=>(ov (K1 b w) x.1,x.2))=some (vo (K1 b w) 32 282 os,⟨denote treeTable cE,cE,z0,[topFrame z0]⟩):=by kernel_rfl
theorem p2 (w:World) (s:Shared):sR w 1 s (blockOf bB eE cE z0 [topFrame z0])=some (.next,s,cE,z0):=by kernel_rfl
theorem p3 (b:Nat->Obj) (w:World) (g:Nat->Obj) (os:OsState):(sRT w 348 (sT (K1 b w) 32 282 g os) (pO ((bB.drop 0).take 12) ⟨0,0,0,0⟩)).map (λx=>(x.1,oT (K2 b w) x.2.1,x.2.2))=some (.next,vo (K2 b w) 103 390 os,cE,⟨108,0,108,8⟩):=by kernel_rfl
theorem p4 (b:Nat->Obj) (w:World) (g:Nat->Obj) (os:OsState):(sRT w 324 (sT (K2 b w) 103 390 g os) (pO ((bB.drop 12).take 1) ⟨108,0,108,8⟩)).map (λx=>(x.1,oT (KN b w) x.2.1,x.2.2))=some (.next,vo (KN b w) 145 448 os,cE,⟨109,0,151,35⟩):=by kernel_rfl
theorem p5 (w:World) (g:Nat->Obj) (os:OsState):(sRT w 266 (sT (KN (ob w) w) 145 448 g os) (pO ((bB.drop 13).take 5) ⟨109,0,151,35⟩)).map (λx=>(x.1,oT (K3 (ob w) w) x.2.1,x.2.2))=some (.next,vo (K3 (ob w) w) 168 554 os,cE,⟨156,0,164,20⟩):=by kernel_rfl
theorem p6 (b:Nat->Obj) (w:World) (g:Nat->Obj) (os:OsState):(sRT w 727 (sT (K3 b w) 168 554 g os) (pO ((bB.drop 18).take 1) ⟨156,0,164,20⟩)).map (λx=>(x.1,oT (K4 b w) x.2.1,x.2.2))=some (.next,vo (K4 b w) 293 711 os,cE,⟨165,0,246,93⟩):=by kernel_rfl
theorem p7 (b:Nat->Obj) (w:World) (g:Nat->Obj) (os:OsState):(sRT w 292 (sT (K4 b w) 293 711 g os) (pO ((bB.drop 19).take 11) ⟨165,0,246,93⟩)).map (λx=>(x.1,oT (K5 b w) x.2.1,x.2.2))=some (.next,vo (K5 b w) 351 787 os,cE,⟨353,0,355,126⟩):=by kernel_rfl
theorem p8 (w:World) (s:Shared):tR w 2 s ⟨doneF .next,cE,⟨353,0,355,126⟩,[topFrame z0]⟩=some s:=by kernel_rfl
theorem p9 (w:World) (f g:Nat->Obj) (os:OsState):(staticsOk (importedModules pZ.main.body) (sT (K0 (ob w) w) 28 276 f os).abs.heap (sT (K5 (ob w) w) 351 787 g os).abs.heap && namesBound pZ (sT (K5 (ob w) w) 351 787 g os).abs.heap && gensDone (sT (K5 (ob w) w) 351 787 g os).abs && laidKept (sT (K0 (ob w) w) 28 276 f os).abs.heap (sT (K5 (ob w) w) 351 787 g os).abs.heap)=true:=by kernel_rfl
theorem pW (w:World) (g:Nat->Obj) (os:OsState):openSeen qVv pf (importedModules pZ.main.body) (λs=>xlAt qVv [] s && recOk (RowW.records rZ.toRowW) s) true (sT (K5 (ob w) w) 351 787 g os).abs=openGood qVv pf:=by kernel_rfl
theorem pX (b:Nat->Obj) (w:World) (g:Nat->Obj) (os:OsState):Hook.obs rt (sT (K5 b w) 351 787 g os).abs=Hook.val rt w:=by kernel_rfl
theorem pY (b:Nat->Obj) (w:World) (g:Nat->Obj) (os:OsState):((sT (K0 b w) 28 276 g os).abs.heap.isNs mainGlobals && (sT (K0 b w) 28 276 g os).abs.gens.size == 0,(sT (K0 b w) 28 276 g os).abs.heap.objs.size,(sT (K0 b w) 28 276 g os).abs.heap.nsMap mainGlobals "__annotations__")=(true,28,some (.ref 6)):=by kernel_rfl
theorem pZZ:bB=(bB.drop 0).take 12 ++ ((bB.drop 12).take 1 ++ ((bB.drop 13).take 5 ++ ((bB.drop 18).take 1 ++ ((bB.drop 19).take 11 ++ [])))):=by kernel_rfl
theorem run (w:World) (f:Nat->Obj) (os:OsState):∃ g,tR w 4030 (sT (K0 (ob w) w) 28 276 f os).abs (topStub pZ)=some (sT (K5 (ob w) w) 351 787 g os).abs :=
  (Option.map_eq_some_iff.mp (p1 (ob w) w f os)).elim λr h=>(heap_of (λh=>by kernel_rfl) (congrArg Prod.fst h.2)).elim λg1 e =>
  (seg_of (λh=>by kernel_rfl) (p3 (ob w) w g1 os)).elim λg2 h3=>(seg_of (λh=>by kernel_rfl) (p4 (ob w) w g2 os)).elim λg3 h4=>(seg_of (λh=>by kernel_rfl) (p5 w g3 os)).elim λg4 h5 =>
  (seg_of (λh=>by kernel_rfl) (p6 (ob w) w g4 os)).elim λg5 h6=>(seg_of (λh=>by kernel_rfl) (p7 (ob w) w g5 os)).elim λg6 h7=>⟨g6,by
    have r:=piece_app h3 (piece_app h4 (piece_app h5 (piece_app h6 (piece_app h7 (piece_nil (p8 w _))))))
    rw [← pZZ] at r
    have z:=topRun_mono 2058 _ _ _ _ (go_top (h.1.trans (congrArg some (Prod.ext e (Prod.mk.inj h.2).2))) (piece_block (p2 w _) r))
    exact z⟩
theorem left_of {p q:Program} {loose:List Str} {Xt:Shared->Bool} {α:Type} {Yf:Shared->α} {Ya:World->α} {N n:Nat} {an:Option Value} {w:World} {s₀ s₁:Shared} (e:fencedOpening treeTable p w N=some s₀)
    (y:(s₀.heap.isNs mainGlobals && s₀.gens.size == 0,s₀.heap.objs.size,s₀.heap.nsMap mainGlobals "__annotations__")=(true,n,an)) (r:topRun treeTable p w n an N s₀ (topStub p)=some s₁)
    (l:(staticsOk (importedModules p.main.body) s₀.heap s₁.heap && namesBound p s₁.heap && gensDone s₁ && laidKept s₀.heap s₁.heap)=true) (o:openSeen q loose (importedModules p.main.body) Xt true s₁=openGood q loose) (h:Yf s₁=Ya w) :
    (openEnds treeTable p w N).map (λs=>(openSeen q loose (importedModules p.main.body) Xt true s,Yf s))=some (openGood q loose,Ya w):=by
  obtain ⟨y1,y2⟩:=Prod.mk.inj y
  obtain ⟨y2,y3⟩:=Prod.mk.inj y2
  unfold openEnds
  rw [e]
  show (topFrom treeTable p w N s₀).map _=_
  unfold topFrom
  rw [y1,y2,y3]
  show ((topRun treeTable p w n an N s₀ (topStub p)).bind _).map _=_
  rw [r]
  show (match staticsOk (importedModules p.main.body) s₀.heap s₁.heap && namesBound p s₁.heap && gensDone s₁ && laidKept s₀.heap s₁.heap with | true=>some s₁ | false=>none).map _=_
  rw [l,← o,← h]
  rfl
theorem left:LeftO rZ.prog qVv pf (λs=>xlAt qVv [] s && recOk (RowW.records rZ.toRowW) s) (Hook.obs rt) (Hook.val rt) 4030:=λw =>
  (Option.map_eq_some_iff.mp (p0 w)).elim λs h=>(heap_of (λh=>by kernel_rfl) h.2).elim λf e=>(run w f (so w).os).elim λg r =>
    left_of (h.1.trans (congrArg some e)) (pY (ob w) w f (so w).os) r (p9 w f g (so w).os) (pW w g (so w).os) (pX (ob w) w g (so w).os)
end Hd0
theorem hdd(a:WalkO qVv pf (XL qVv []) (Mi rt) rZ.toRowW Bi [] λf vs=>Du f vs):DT.Holds:=
 holds_law sdd λb=>zi b rt (by kernel_rfl) (by kernel_rfl) (by kernel_rfl) Hd0.left (by w_witness2) a
end
section
variable{aO:Type _}{x a b c d e f g h:aO}
theorem yt(q:x∈[a]):x=a:=BO.mp q
theorem eU(q:x∈[a,b]):x=a\/x=b:=(BX.mp q).imp id yt
theorem il(q:x∈[a,b,c]):x=a\/x=b\/x=c:=(BX.mp q).imp id eU
theorem iO(q:x∈[a,b,c,d]):x=a\/x=b\/x=c\/x=d:=(BX.mp q).imp id il
theorem xI(q:x∈[a,b,c,d,e]):x=a\/x=b\/x=c\/x=d\/x=e:=(BX.mp q).imp id iO
theorem mq(q:x∈[a,b,c,d,e,f]):x=a\/x=b\/x=c\/x=d\/x=e\/x=f:=(BX.mp q).imp id xI
end
@[elab_as_elim] theorem U{aO:Sort _}{a b:aO}{motive:aO->Prop}(h:a=b)(k:motive b):motive a:=h▸k
@[elab_as_elim] theorem br{aO:Sort _}{a b:aO}{motive:aO->Prop}(h:b=a)(k:motive b):motive a:=h▸k
theorem bP{aO:Sort _}{a b l:aO}(h:a=b)(k:l=b):l=a:=k.trans h.symm
theorem hn{aO:Sort _}{a b r:aO}(h:b=a)(k:b=r):a=r:=h.symm.trans k
theorem a3{a b r:Nat}(h:a=b)(k:b<=r):a<=r:=h▸k
theorem dH{a b l:Nat}(h:a=b)(k:l<=b):l<=a:=h▸k
theorem oo{a b r:Nat}(h:a=b)(k:b<r):a<r:=h▸k
theorem dk{a b l:Nat}(h:a=b)(k:l<b):l<a:=h▸k
theorem DD{a b:Nat}(h:Ic a b=u):a<=b:=Fu h
theorem A0{a m:Nat}:a-(m+1)=a-1-(m+1-1):=by rw[Hl,Lv,D1]
theorem xO{a m:Nat}(h:m+1<=a):a-m=a-(m+1)+1:=by rw[Nat.sub_add_eq,Cc (Hx h)]
theorem An{a:Nat}(h:0<a):((a-1:Nat):Int)=(a:Int)-1:=Int.ofNat_sub h
theorem mQ{a:Nat}:((a+1:Nat):Int)-1=(a:Int):=Int.add_sub_cancel (a:Int) 1
theorem wl{m:Nat}(h:(m:Int)-1<0):m=0:=Nat.lt_one_iff.mp (El.mp (Int.lt_of_sub_neg h))
theorem z6{m:Nat}(h:¬(m:Int)-1<0):∃k,m=k+1:=by
 cases m with
 |zero=>exact absurd (by decide) h
 |succ k=>exact⟨k,R⟩
theorem ye{a b c j:Nat}(h:j<b)(e:a+b=c):a+1+(b-1)=c:=by rw[EG,D1 1,Cc (Nat.succ_le_of_lt (CP (Cm j) h))];exact e
theorem jX{l:Nat}(h:l<1000000):(-(2^63):Int)<=(l:Int)/\(l:Int)<2^63:=⟨EP (by decide) (C5 l),Lk (El.mpr h) (by decide)⟩
noncomputable abbrev vA(i:Nat):C0:=.var i
noncomputable abbrev nA(k:Nat):C0:=.num k
noncomputable abbrev ct(i c:Nat):C0:=.add (.var i) (.num c)
noncomputable abbrev aq(a b:C0):C0:=.add a b
noncomputable abbrev fz(c:Nat)(a:C0):C0:=.mulL c a
noncomputable abbrev ak:Nat.Internal.Linear.Expr:=.var 0
noncomputable abbrev af:Nat.Internal.Linear.Expr:=.var 1
noncomputable abbrev au:Nat.Internal.Linear.Expr:=.var 2
noncomputable abbrev bG:Nat.Internal.Linear.Expr:=.var 3
noncomputable abbrev f7:Nat.Internal.Linear.Expr:=.var 4
noncomputable abbrev aC:Nat.Internal.Linear.Expr:=.add (.var 0) (.num 1)
noncomputable abbrev bV:Nat.Internal.Linear.Expr:=.add (.var 2) (.num 1)
noncomputable abbrev b1:Nat.Internal.Linear.Expr:=.add (.var 1) (.num 1)
noncomputable abbrev ff:Nat.Internal.Linear.Expr:=.add (.var 0) (.num 8)
noncomputable abbrev fC:Nat.Internal.Linear.Expr:=.add (.var 3) (.num 1)
noncomputable abbrev gO:Nat.Internal.Linear.Expr:=.add (.var 0) (.num 4)
noncomputable abbrev a7:Nat.Internal.Linear.Expr:=.num 1
noncomputable abbrev c8:Nat.Internal.Linear.Expr:=.num 0
noncomputable abbrev dD:Nat.Internal.Linear.Expr:=.num 1000000
noncomputable abbrev dE:Nat.Internal.Linear.Expr:=.num 30
noncomputable abbrev dT:Nat.Internal.Linear.Expr:=.num 1000
noncomputable abbrev eO:Nat.Internal.Linear.Expr:=.num 10
noncomputable abbrev f2:Nat.Internal.Linear.Expr:=.num 5
noncomputable def cJ(l:List Nat):J2:=List.rec (λa=>.leaf 0) (λx a r i=>.branch (i+1) (.leaf x) (r (i+1))) l 0
noncomputable abbrev l2(a b:C0):Bool:=(Ia ⟨BQ,a,b⟩).isValid
section
variable(l:List Nat)(a b hy g4 x y z w c d:C0)
theorem h0(e:l2 a b=u):a.denote (cJ l)<=b.denote (cJ l):=of_eq_true (Ib _ ⟨BQ,a,b⟩ e)
theorem a0(e:l2 (.add c b) (.add d a)=u)(h:a.denote (cJ l)<=b.denote (cJ l)):c.denote (cJ l)<=d.denote (cJ l):=
 Nat.le_of_add_le_add_right (BG (h0 l (.add c b) (.add d a) e) (C8 h _))
theorem aV(e:l2 (.add c (.add b g4)) (.add d (.add a hy))=u)(h:a.denote (cJ l)<=b.denote (cJ l))(ay:hy.denote (cJ l)<=g4.denote (cJ l)):c.denote (cJ l)<=d.denote (cJ l):=
 a0 l (.add a hy) (.add b g4) c d e (Df h ay)
theorem cI(e:l2 (.add c (.add b (.add g4 y))) (.add d (.add a (.add hy x)))=u)(h:a.denote (cJ l)<=b.denote (cJ l))(ay:hy.denote (cJ l)<=g4.denote (cJ l))(h2:x.denote (cJ l)<=y.denote (cJ l)):c.denote (cJ l)<=d.denote (cJ l):=
 a0 l (.add a (.add hy x)) (.add b (.add g4 y)) c d e (Df h (Df ay h2))
theorem jq(e:l2 (.add c (.add b (.add g4 (.add y w)))) (.add d (.add a (.add hy (.add x z))))=u)(h:a.denote (cJ l)<=b.denote (cJ l))(ay:hy.denote (cJ l)<=g4.denote (cJ l))(h2:x.denote (cJ l)<=y.denote (cJ l))(f:z.denote (cJ l)<=w.denote (cJ l)):c.denote (cJ l)<=d.denote (cJ l):=
 a0 l (.add a (.add hy (.add x z))) (.add b (.add g4 (.add y w))) c d e (Df h (Df ay (Df h2 f)))
end
theorem eL{a b:Nat}(h:a=b):a<=b:=CL h
theorem eR{a b:Nat}(h:a=b):b<=a:=CL h.symm
theorem sA(a b:Nat):a<=a-b+b:=(Lh b a).elim (λh=>CL (Cc h).symm) λh=>BG h (FK b _)
theorem nf(h:1<=0):False:=absurd h (by decide)
theorem al:u=u:=R
variable{a b c p:Prop}
theorem A3(h:a/\b/\c)(q:a->b->c->p):p:=q h.1 h.2.1 h.2.2
variable{d:Prop}
theorem A4(h:a/\b/\c/\d)(q:a->b->c->d->p):p:=q h.1 h.2.1 h.2.2.1 h.2.2.2
variable{e:Prop}
theorem A5(h:a/\b/\c/\d/\e)(q:a->b->c->d->e->p):p:=q h.1 h.2.1 h.2.2.1 h.2.2.2.1 h.2.2.2.2
variable{f:Prop}
theorem A6(h:a/\b/\c/\d/\e/\f)(q:a->b->c->d->e->f->p):p:=q h.1 h.2.1 h.2.2.1 h.2.2.2.1 h.2.2.2.2.1 h.2.2.2.2.2
variable{g:Prop}
theorem A7(h:a/\b/\c/\d/\e/\f/\g)(q:a->b->c->d->e->f->g->p):p:=q h.1 h.2.1 h.2.2.1 h.2.2.2.1 h.2.2.2.2.1 h.2.2.2.2.2.1 h.2.2.2.2.2.2
theorem A9{i j:Prop}(h:a/\b/\c/\d/\e/\f/\g/\i/\j)(q:a->b->c->d->e->f->g->i->j->p):p:=q h.1 h.2.1 h.2.2.1 h.2.2.2.1 h.2.2.2.2.1 h.2.2.2.2.2.1 h.2.2.2.2.2.2.1 h.2.2.2.2.2.2.2.1 h.2.2.2.2.2.2.2.2
theorem xN{i j k l m:Prop}(h:a/\b/\c/\d/\e/\f/\g/\i/\j/\k/\l/\m)(q:a->b->c->d->e->f->g->i->j->k->l->m->p):p:=q h.1 h.2.1 h.2.2.1 h.2.2.2.1 h.2.2.2.2.1 h.2.2.2.2.2.1 h.2.2.2.2.2.2.1 h.2.2.2.2.2.2.2.1 h.2.2.2.2.2.2.2.2.1 h.2.2.2.2.2.2.2.2.2.1 h.2.2.2.2.2.2.2.2.2.2.1 h.2.2.2.2.2.2.2.2.2.2.2
set_option tactic.hygienic false
structure fO where
 P4:O
 l:Ep
 h:CQ
 aM:Ef
inductive Y where
 |ab (d:Cj)
 |aP (i:Nat)
 |bT (v:Z)
 |bh (C:M) (j:Nat)
 |ed (L:fO) (cells:List (O×Nat))
 |b2 (xs:List Y)
 |fv (n:Int)
 |c5 (kvs:List (O×Cj))
 |dN (f:M) (self:Y)
 |gJ (T:String)
inductive bL where
 |aN (xs:List Cj)
 |ev (xs:List Y)
 |ns (names:List O) (log:List (Nat×Y))
 |ar (v:Option Y)
 |fH (L:fO) (cells:List (O×Nat)) (dict:Option Nat)
 |fI (f:Y) (en:Bool)
variable{aO:Type}
noncomputable def J:List (Nat×aO)->Nat->Option aO
 |[],_=>B2
 |(j,a)::r,i=>if i=j then H a else J r i
structure V where
 aa:Nat
 aj:List (Nat×bL)
 ag:List (Nat×Y)
structure Gh where
 a:Nat->M
 F:M->Prop
structure Bx where
 PG:Fa
 w:HX
 i:CG
 SZ:KW
 k:List (M×M×O)
structure Cx extends Bx where
 bE:List M
instance:Coe Cx Bx:=⟨Cx.toBx⟩
noncomputable def Cx.a5(c:Cx)(L:M):Cx:={c with bE:=L::c.bE}
noncomputable def Bx.N9(c:Bx)(a:M):Prop:=∃p∈c.k,p.2.1=a
noncomputable def Bx.NU(c:Bx):F0:=DA c.PG c.w
noncomputable def dZ(ρ:Nat->M)(a9:List (O×Nat)):List (O×M):=a9.map λp=>(p.1,ρ p.2)
inductive f9(h:CG)(F:M->Prop)(ρ:Nat->M)(o:Ge)(L:fO)(cells:List (O×Nat)):Prop
 |mk:o.cls=.type "function"->∀cv ctv doc pm,o.data=.func {name:="<lambda>",qualname:=L.P4,params:=L.l,body:=.expr L.h,scope:=L.aM,globals:=C1,closure:=dZ ρ cells,defaults:=.none,kwdefaults:=.none,doc:=doc,pyModule:=pm,annotations:=B2,code:=cv,closureTuple:=ctv,builtins:=Dy}->∀c' oc vs t,cv=.ref c'->F c'->h.get? c'=H oc->oc.data=.fields vs->vs[1]?=H (.str L.P4 t)->f9 h F ρ o L cells
mutual
inductive a8(c:Bx)(h:CG)(F:M->Prop)(ρ:Nat->M)(n:Nat):Y->Z->Prop
 |ab {d v as:_}:E2 h v d as->(∀a∈as,F a)->d.canLay0=u->a8 c h F ρ n (.ab d) v
 |aP {i:_}:i<n->a8 c h F ρ n (.aP i) (.ref (ρ i))
 |bT {v:_}:a8 c h F ρ n (.bT v) v
 |bh {a o C j:_}:F a->h.get? a=H o->o.cls=.ref C->o.dict=H (ρ j)->(∀cd,o.data≠.cls cd)->j<n->a8 c h F ρ n (.bh C j) (.ref a)
 |ed {a o L cells:_}:F a->h.get? a=H o->o.dict=B2->f9 h F ρ o L cells->(∀q∈cells,q.2<n)->a8 c h F ρ n (.ed L cells) (.ref a)
 |b2 {a o vs k xs:_}:h.get? a=H o->o.cls=.type "tuple"->o.data=.seq vs k->bA c h F ρ n xs vs.toList->a8 c h F ρ n (.b2 xs) (.ref a)
 |fv {a m t bb v:_}:F a->IsRange h a 0 m 1 t bb v->a8 c h F ρ n (.fv m) (.ref a)
 |c5 {a vs as kvs:_}:F a->a≠Fh->h.DictOf (Fq c.PG c.w) a vs->kvs.map (·.1)=vs.map (·.1)->C7 h (vs.map (·.2)) (kvs.map (·.2)) as->(∀a∈as,F a)->Cy (kvs.map (·.2))=u->a8 c h F ρ n (.c5 kvs) (.ref a)
 |dN {a f sv self:_}:F a->h.get? a=H {cls:=.type "method",data:=.fields #[.ref f,sv]}->a8 c h F ρ n self sv->a8 c h F ρ n (.dN f self) (.ref a)
 |gJ {a o T:_}:F a->h.get? a=H o->o.cls=.type T->a8 c h F ρ n (.gJ T) (.ref a)
inductive bA(c:Bx)(h:CG)(F:M->Prop)(ρ:Nat->M)(n:Nat):List Y->List Z->Prop
 |a6:bA c h F ρ n [] []
 |aU {x v xs vs:_}:a8 c h F ρ n x v->bA c h F ρ n xs vs->bA c h F ρ n (x::xs) (v::vs)
end
inductive Vp(h:CG)(F:M->Prop)(d:Cj)(v:Z):Prop
 |mk:∀as,E2 h v d as->(∀a∈as,F a)->d.canLay0=u->Vp h F d v
inductive qP(h:CG)(F:M->Prop)(ρ:Nat->M)(n:Nat)(C:M)(j:Nat)(v:Z):Prop
 |mk:∀a o,v=.ref a->F a->h.get? a=H o->o.cls=.ref C->o.dict=H (ρ j)->(∀cd,o.data≠.cls cd)->j<n->qP h F ρ n C j v
inductive t3(h:CG)(F:M->Prop)(ρ:Nat->M)(n:Nat)(L:fO)(cells:List (O×Nat))(v:Z):Prop
 |mk:∀a o,v=.ref a->F a->h.get? a=H o->o.dict=B2->f9 h F ρ o L cells->(∀q∈cells,q.2<n)->t3 h F ρ n L cells v
inductive te(c:Bx)(h:CG)(F:M->Prop)(ρ:Nat->M)(n:Nat)(xs:List Y)(v:Z):Prop
 |mk:∀a o vs k,v=.ref a->h.get? a=H o->o.cls=.type "tuple"->o.data=.seq vs k->bA c h F ρ n xs vs.toList->te c h F ρ n xs v
inductive tB(h:CG)(F:M->Prop)(m:Int)(v:Z):Prop
 |mk:∀a t bb w,v=.ref a->F a->IsRange h a 0 m 1 t bb w->tB h F m v
inductive qU(c:Bx)(h:CG)(F:M->Prop)(kvs:List (O×Cj))(v:Z):Prop
 |mk:∀a vs as,v=.ref a->F a->a≠Fh->h.DictOf (Fq c.PG c.w) a vs->kvs.map (·.1)=vs.map (·.1)->C7 h (vs.map (·.2)) (kvs.map (·.2)) as->(∀a∈as,F a)->Cy (kvs.map (·.2))=u->qU c h F kvs v
inductive sJ(c:Bx)(h:CG)(F:M->Prop)(ρ:Nat->M)(n:Nat)(f:M)(self:Y)(v:Z):Prop
 |mk:∀a sv,v=.ref a->F a->h.get? a=H {cls:=.type "method",data:=.fields #[.ref f,sv]}->a8 c h F ρ n self sv->sJ c h F ρ n f self v
inductive r2(h:CG)(F:M->Prop)(T:String)(v:Z):Prop
 |mk:∀a o,v=.ref a->F a->h.get? a=H o->o.cls=.type T->r2 h F T v
inductive s0(c:Bx)(h:CG)(F:M->Prop)(ρ:Nat->M)(n:Nat)(x:Y)(xs:List Y)(vs:List Z):Prop
 |mk:∀v aR,vs=v::aR->a8 c h F ρ n x v->bA c h F ρ n xs aR->s0 c h F ρ n x xs vs
noncomputable def u7(c:Bx)(h:CG)(F:M->Prop)(ρ:Nat->M)(n:Nat):Y->Z->Prop
 | .ab d,v=>Vp h F d v
 | .aP i,v=>v=.ref (ρ i)/\i<n
 | .bT w,v=>v=w
 | .bh C j,v=>qP h F ρ n C j v
 | .ed L cells,v=>t3 h F ρ n L cells v
 | .b2 xs,v=>te c h F ρ n xs v
 | .fv m,v=>tB h F m v
 | .c5 kvs,v=>qU c h F kvs v
 | .dN f self,v=>sJ c h F ρ n f self v
 | .gJ T,v=>r2 h F T v
variable{c:Bx}{F:M->Prop}{ρ:Nat->M}{n:Nat}{v:Z}
theorem a8.NV{h:CG}{a:Y}(x:a8 c h F ρ n a v):u7 c h F ρ n a v:=by
 cases x with
 |ab h1 h2 b=>exact⟨_,h1,h2,b⟩
 |aP h1=>exact⟨R,h1⟩
 |bT=>exact R
 |bh h1 h2 b d e f=>exact⟨_,_,R,h1,h2,b,d,e,f⟩
 |ed h1 h2 b d e=>exact⟨_,_,R,h1,h2,b,d,e⟩
 |b2 h1 h2 b d=>exact⟨_,_,_,_,R,h1,h2,b,d⟩
 |fv h1 h2=>exact⟨_,_,_,_,R,h1,h2⟩
 |c5 h1 h2 b d e f g=>exact⟨_,_,_,R,h1,h2,b,d,e,f,g⟩
 |dN h1 h2 b=>exact⟨_,_,R,h1,h2,b⟩
 |gJ h1 h2 b=>exact⟨_,_,R,h1,h2,b⟩
variable{vs:List Z}
theorem bA.NV{h:CG}{x:Y}{xs:List Y}(y:bA c h F ρ n (x::xs) vs):s0 c h F ρ n x xs vs:=by
 cases y with|aU h1 h2=>exact⟨_,_,R,h1,h2⟩
theorem bA.OB{h:CG}(y:bA c h F ρ n [] vs):vs=[]:=by cases y;rfl
inductive V1(c:Bx)(h:CG)(F:M->Prop)(ρ:Nat->M)(n:Nat)(a:Y)(vs:List Z):Prop
 |mk:∀v,vs=[v]->a8 c h F ρ n a v->V1 c h F ρ n a vs
inductive V2(c:Bx)(h:CG)(F:M->Prop)(ρ:Nat->M)(n:Nat)(a b:Y)(vs:List Z):Prop
 |mk:∀v w,vs=[v,w]->a8 c h F ρ n a v->a8 c h F ρ n b w->V2 c h F ρ n a b vs
inductive V3(c:Bx)(h:CG)(F:M->Prop)(ρ:Nat->M)(n:Nat)(a b d:Y)(vs:List Z):Prop
 |mk:∀v w x,vs=[v,w,x]->a8 c h F ρ n a v->a8 c h F ρ n b w->a8 c h F ρ n d x->V3 c h F ρ n a b d vs
inductive V4(c:Bx)(h:CG)(F:M->Prop)(ρ:Nat->M)(n:Nat)(a b d e:Y)(vs:List Z):Prop
 |mk:∀v w x y,vs=[v,w,x,y]->a8 c h F ρ n a v->a8 c h F ρ n b w->a8 c h F ρ n d x->a8 c h F ρ n e y->V4 c h F ρ n a b d e vs
inductive V5(c:Bx)(h:CG)(F:M->Prop)(ρ:Nat->M)(n:Nat)(a b d e f:Y)(vs:List Z):Prop
 |mk:∀v w x y z,vs=[v,w,x,y,z]->a8 c h F ρ n a v->a8 c h F ρ n b w->a8 c h F ρ n d x->a8 c h F ρ n e y->a8 c h F ρ n f z->V5 c h F ρ n a b d e f vs
section
variable{c:Bx}{h:CG}{F:M->Prop}{ρ:Nat->M}{n:Nat}{a b d e f:Y}{vs:List Z}
theorem bA.PT(y:bA c h F ρ n [a] vs):V1 c h F ρ n a vs:=by
 obtain⟨v,_,rfl,r,z⟩:=y.NV;exact U z.OB ⟨_,R,r⟩
theorem bA.Qr(y:bA c h F ρ n [a,b] vs):V2 c h F ρ n a b vs:=by
 obtain⟨v,_,rfl,r,z⟩:=y.NV;obtain⟨_,rfl,d⟩:=z.PT;exact⟨_,_,R,r,d⟩
theorem bA.PR(y:bA c h F ρ n [a,b,d] vs):V3 c h F ρ n a b d vs:=by
 obtain⟨v,_,rfl,r,z⟩:=y.NV;obtain⟨_,_,rfl,e,f⟩:=z.Qr;exact⟨_,_,_,R,r,e,f⟩
theorem bA.RP(y:bA c h F ρ n [a,b,d,e] vs):V4 c h F ρ n a b d e vs:=by
 obtain⟨v,_,rfl,r,z⟩:=y.NV;obtain⟨_,_,_,rfl,f,g,q⟩:=z.PR;exact⟨_,_,_,_,R,r,f,g,q⟩
theorem bA.Ua(y:bA c h F ρ n [a,b,d,e,f] vs):V5 c h F ρ n a b d e f vs:=by
 obtain⟨v,_,rfl,r,z⟩:=y.NV;obtain⟨_,_,_,_,rfl,g,i,q,j⟩:=z.RP;exact⟨_,_,_,_,_,R,r,g,i,q,j⟩
end
noncomputable def iA(o:Ge):Prop:=o.cls=.type "list"/\o.dict=B2/\o.slots=#[]
inductive tO(h:CG)(F:M->Prop)(a:M)(xs:List Cj):Prop
 |mk:∀o vs k as,h.get? a=H o->iA o->o.data=.seq vs k->C7 h vs.toList xs as->(∀b∈as,F b)->Cy xs=u->tO h F a xs
inductive tK(c:Bx)(h:CG)(F:M->Prop)(ρ:Nat->M)(n:Nat)(a:M)(xs:List Y):Prop
 |mk:∀o vs k,h.get? a=H o->iA o->o.data=.seq vs k->bA c h F ρ n xs vs.toList->tK c h F ρ n a xs
inductive io(c:Bx)(h:CG)(F:M->Prop)(ρ:Nat->M)(n:Nat)(names:List O)(bv:O->Option Z)(k:Nat)(v:Y):Prop
 |mk:∀x v',names[k]?=H x->bv x=H v'->a8 c h F ρ n v v'->io c h F ρ n names bv k v
inductive ta(c:Bx)(h:CG)(F:M->Prop)(ρ:Nat->M)(n:Nat)(a:M)(names:List O)(log:List (Nat×Y)):Prop
 |mk:names.Nodup->∀o bv,h.get? a=H o->(o.cls=.type "dict"/\o.dict=B2)->h.Ns1 a bv->(∀x v,bv x=H v->x∈names)->
   (∀k v,J log k=H v->io c h F ρ n names bv k v)->(∀k x,names[k]?=H x->J log k=B2->bv x=B2)->ta c h F ρ n a names log
inductive tY(c:Bx)(h:CG)(F:M->Prop)(ρ:Nat->M)(n:Nat)(a:M)(v:Y):Prop
 |mk:∀o v',h.get? a=H o->o.data=.cell (H v')->o.cls=.type "cell"->a8 c h F ρ n v v'->tY c h F ρ n a v
inductive ug(h:CG)(F:M->Prop)(ρ:Nat->M)(n:Nat)(a:M)(L:fO)(cells:List (O×Nat))(d:Option Nat):Prop
 |mk:∀o,h.get? a=H o->f9 h F ρ o L cells->(∀q∈cells,q.2<n)->o.dict=d.map ρ->(∀j∈d,j<n)->ug h F ρ n a L cells d
inductive rH(c:Bx)(h:CG)(F:M->Prop)(ρ:Nat->M)(n:Nat)(a:M)(f:Y)(en:Bool):Prop
 |mk:∀o vs f',h.get? a=H o->o.cls=.type "callable_iterator"->o.data=.fields vs->vs.size=3->vs[0]?=H f'->(en=u->f'=.none)->(en=BQ->a8 c h F ρ n f f')->vs[2]?=H (.bool en)->(en=BQ->∃t,vs[1]?=H (.str B0 t))->rH c h F ρ n a f en
noncomputable def eW(c:Bx)(h:CG)(F:M->Prop)(ρ:Nat->M)(n:Nat)(a:M):bL->Prop
 | .aN xs=>tO h F a xs
 | .ev xs=>tK c h F ρ n a xs
 | .ns names log=>ta c h F ρ n a names log
 | .ar B2=>∃o,h.get? a=H o/\o.data=.cell B2/\o.cls=.type "cell"
 | .ar (H v)=>tY c h F ρ n a v
 | .fH L cells d=>ug h F ρ n a L cells d
 | .fI f en=>rH c h F ρ n a f en
noncomputable def fP(o:Ge):Prop:=o.cls=.type "tuple"/\∃vs k,o.data=.seq vs k
structure dc(h ay:CG)(F F':M->Prop):Prop where
 b2:∀a o,h.get? a=H o->fP o->ay.get? a=H o
 aK:∀a o,F a->h.get? a=H o->ay.get? a=H o
 N8:∀a,F a->F' a
theorem dc.N6(h:CG)(F:M->Prop):dc h h F F:=⟨λa a e a=>e,λa a a e=>e,λa e=>e⟩
theorem dc.NT{b c d:CG}{g h i:M->Prop}(x:dc b c g h)(y:dc c d h i):dc b d g i:=
 ⟨λa o e t=>y.b2 a o (x.b2 a o e t) t,λa o f e=>y.aK a o (x.N8 a f) (x.aK a o f e),λa f=>y.N8 a (x.N8 a f)⟩
inductive sP(h:CG)(d:Cj)(ds:List Cj)(vs:List Z)(as:List M):Prop
 |mk:∀v aR cj cq,vs=v::aR->as=cj++cq->E2 h v d cj->C7 h aR ds cq->sP h d ds vs as
variable{d:Cj}{ds:List Cj}{as:List M}
theorem f8{h:CG}(x:C7 h vs (d::ds) as):sP h d ds vs as:=by
 obtain⟨v,aR,cj,cq,a,b,h1,h2⟩:=readsAll_cons_inv x;exact⟨v,aR,cj,cq,a,b,h1,h2⟩
inductive sB(h:CG)(ds:List Cj)(v:Z)(as:List M):Prop
 |mk:∀a o vs n,v=.ref a->h.get? a=H o->o.cls=.type "tuple"->o.data=.seq vs n->C7 h vs.toList ds as->sB h ds v as
theorem nI{h:CG}(x:E2 h v (.tuple ds) as):sB h ds v as:=by
 obtain⟨a,o,vs,n,b,c,h1,h2,d⟩:=reads_tuple_inv x;exact⟨a,o,vs,n,b,c,h1,h2,d⟩
inductive td(h:CG)(ds:List Cj)(v:Z)(as:List M):Prop
 |mk:∀a o vs n bs,v=.ref a->h.get? a=H o->o.cls=.type "list"->o.data=.seq vs n->C7 h vs.toList ds bs->as=a::bs->td h ds v as
theorem qz{h:CG}(x:E2 h v (.list ds) as):td h ds v as:=by
 obtain⟨a,o,vs,n,bs,b,c,h1,h2,d,e⟩:=reads_list_inv x;exact⟨a,o,vs,n,bs,b,c,h1,h2,d,e⟩
variable{F':M->Prop}
theorem dc.RS{h ay:CG}(K:dc h ay F F')(x:E2 h v d as):(∀a∈as,F a)->E2 ay v d as:=
 @Reads.rec h (λv d as c=>(∀a∈as,F a)->E2 ay v d as) (λvs ds as c=>(∀a∈as,F a)->C7 ay vs ds as)
  (λc=>.none) (λb c=>.bool b) (λi t c=>.int i t) (λx t c=>.str x t)
  (λh1 h2 e c f cX=>.list (K.aK _ _ (cX _ (.head _)) h1) h2 e (f λa an=>cX a (.tail _ an)))
  (λh1 h2 e c f cX=>.tuple (K.b2 _ _ h1 ⟨h2,_,_,e⟩) h2 e (f cX))
  (λh1 h2 e c c f g cX=>.dict (K.aK _ _ (cX _ (.head _)) h1) h2 e (f λa an=>cX a (.tail _ (Ci _ an))) (g λa an=>cX a (.tail _ (Ce _ an))))
  (λc=>.nil) (λc c h1 h2 cX=>.cons (h1 λa an=>cX a (Ci _ an)) (h2 λa an=>cX a (Ce _ an))) v d as x
theorem dc.QN{h ay:CG}(K:dc h ay F F')(x:C7 h vs ds as)(cX:∀a∈as,F a):C7 ay vs ds as:=by
 induction ds generalizing vs as with
 |nil=>exact U ((C4 x).1) (U ((C4 x).2) .nil)
 |cons d ds b=>obtain⟨_,_,_,_,rfl,rfl,h1,h2⟩:=f8 x;exact .cons (K.RS h1 λa an=>cX a (Ci _ an)) (b h2 λa an=>cX a (Ce _ an))
variable{dx:Nat->M}
theorem mI(e:∀i,i<n->dx i=ρ i):∀{a9:List (O×Nat)},(∀q∈a9,q.2<n)->dZ dx a9=dZ ρ a9:=by
 intro a9
 induction a9 with
 |nil=>
  intro _
  exact R
 |cons q a9 a=>
  intro h;refine(?_:(q.1,dx q.2)::dZ dx a9=(q.1,ρ q.2)::dZ ρ a9);exact U (e _ (h q (.head _))) (U (a λb c=>h b (.tail _ c)) R)
theorem f9.be{h ay:CG}(K:dc h ay F F')(e:∀i,i<n->dx i=ρ i){o:Ge}{L:fO}{cells:List (O×Nat)}(aL:∀q∈cells,q.2<n)
  (x:f9 h F ρ o L cells):f9 ay F' dx o L cells:=by
 obtain⟨h1,b,c,d,f,h2,g,j,vs,t,k,a,l,m,p⟩:=x;exact⟨h1,b,c,d,f,U (mI e aL) h2,g,j,vs,t,k,K.N8 _ a,K.aK _ _ a l,m,p⟩
section
variable{c:Bx}{h ay:CG}{F F':M->Prop}{ρ dx:Nat->M}{n eI:Nat}
theorem f9.NW{o a:Ge}{L:fO}{cells:List (O×Nat)}(x:f9 h F ρ o L cells)(b:a.cls=o.cls)(c:a.data=o.data):f9 h F ρ a L cells:=by
 obtain⟨h1,d,e,f,g,h2,i,j,vs,t,k,l,m,n,p⟩:=x;exact⟨b.trans h1,d,e,f,g,c.trans h2,i,j,vs,t,k,l,m,n,p⟩
theorem a8.be(K:dc h ay F F')(e:∀i,i<n->dx i=ρ i)(k:n<=eI){a:Y}(x:a8 c h F ρ n a v):a8 c ay F' dx eI a v:=
 @a8.rec c h F ρ n (λa v g=>a8 c ay F' dx eI a v) (λas vs g=>bA c ay F' dx eI as vs) (λh1 h2 b=>.ab (K.RS h1 h2) (λa an=>K.N8 a (h2 a an)) b)
  (λ{i}h1=>e i h1▸ .aP (BL h1 k)) .bT (λh1 h2 b d f j=>.bh (K.N8 _ h1) (K.aK _ _ h1 h2) b (d.trans (congrArg H (e _ j).symm)) f (BL j k))
  (λh1 h2 b d f=>.ed (K.N8 _ h1) (K.aK _ _ h1 h2) b (d.be K e f) λq l=>BL (f q l) k) (λh1 h2 b g d=>.b2 (K.b2 _ _ h1 ⟨h2,_,_,b⟩) h2 b d) (λh1 h2=>.fv (K.N8 _ h1) (K.aK _ _ h1 h2))
  (λh1 h2 b d f j m=>.c5 (K.N8 _ h1) h2 (b.at λo e=>K.aK _ o h1 e) d (K.QN f j) (λa an=>K.N8 a (j a an)) m) (λh1 h2 g b=>.dN (K.N8 _ h1) (K.aK _ _ h1 h2) b) (λh1 h2 b=>.gJ (K.N8 _ h1) (K.aK _ _ h1 h2) b)
  .a6 (λg g h1 h2=>.aU h1 h2) a v x
theorem bA.be(K:dc h ay F F')(e:∀i,i<n->dx i=ρ i)(b:n<=eI){as:List Y}(x:bA c h F ρ n as vs):bA c ay F' dx eI as vs:=by
 induction as generalizing vs with
 |nil=>exact U x.OB .a6
 |cons a as d=>
  obtain⟨v,aR,rfl,h1,h2⟩:=x.NV;exact .aU (h1.be K e b) (d h2)
theorem bA.Qc{h:CG}{F:M->Prop}{ρ:Nat->M}{n:Nat}{as bs:List Y}{aR:List Z}(x:bA c h F ρ n as vs)(y:bA c h F ρ n bs aR):bA c h F ρ n (as++bs) (vs++aR):=by
 induction as generalizing vs with
 |nil=>exact U x.OB y
 |cons a as b=>obtain⟨v,vs,rfl,h1,h2⟩:=x.NV;exact .aU h1 (b h2)
end
theorem de(j:Nat)(a:aO)(r:List (Nat×aO))(i:Nat):J ((j,a)::r) i=if i=j then H a else J r i:=R
variable{i j:Nat}
theorem aS{a:aO}{l:List (Nat×aO)}{r:Option aO}(h:¬i=j)(e:J l i=r):J ((j,a)::l) i=r:=(if_neg h).trans e
@[elab_as_elim] theorem t2{b x y z:Nat}{P:Nat->Prop}(h:b∈[x,y,z])(h1:P x)(h2:P y)(a:P z):P b:=by
 rcases BX.mp h with q|h
 .exact q▸h1
 .rcases BX.mp h with q|h
  .exact q▸h2
  .exact BO.mp h▸a
theorem sf{a C I D n:Nat}(h:a=C\/a=I\/a=D)(c:n<=C)(d:n<=I)(e:n<=D)(b:a<n):False:=h.elim (λq=>BP.mpr c (q▸b)) λh=>h.elim (λq=>BP.mpr d (q▸b)) λq=>BP.mpr e (q▸b)
variable{L:M}{cX:CG}{bv:O->Option Z}
theorem nE(ns:cX.Ns1 L bv){a:M}(q:a=L){o:Ge}(e:cX.get? a=H o){d:Data}(h:o.data=d)(f:∀bS b,d≠.dict bS b):False:=by
 obtain⟨j,bS,b,c⟩:=ns;refine A3 c λg i k=>?_;clear c;rw[q,g]at e;cases e;exact f _ _ (h.symm.trans i)
theorem nO{a:M}{T:String}{vs:Array Z}(h:∃o,cX.get? a=H o/\o.cls=.type T/\∃n,o.data=.seq vs n):∃dd n b,cX.get? a=H ⟨.type T,dd,.seq vs n,b⟩:=by
 obtain⟨⟨c7,c,e,d⟩,h1,rfl,n,rfl⟩:=h;exact⟨c,n,d,h1⟩
variable{a m:Nat}
theorem bK(h:Nat.beq m n=BQ):¬a+m=a+n:=λe=>Nat.ne_of_beq_eq_false h (D7 e)
theorem dI:¬a=a+(n+1):=BZ (Dk (B4 a n))
theorem jh:¬a+(n+1)=a:=λe=>dI e.symm
theorem BB(h:Ic m n=u):a+m<=a+n:=C8 (Fu h) a
theorem nK{b:Nat}(h:i<a)(k:a<=b):¬i=b:=BZ (BL h k)
theorem xc{b:Nat}(h:i<a)(k:a<=b):¬b=i:=λe=>nK h k e.symm
noncomputable def pI(n:Nat)(a:List (Nat×bL)):Nat->List (Nat×bL)
 |0=>a
 |k+1=>(n+k,.ar B2)::pI n a k
variable{k:Nat}
theorem oS{a:List (Nat×bL)}(h:i<k):J (pI n a k) (n+i)=H (.ar B2):=by
 induction k with
 |zero=>exact absurd h (H2 i)
 |succ k b=>
  rcases JX (Dw h)with h|h
  .exact aS (λe=>BZ h (D7 e)) (b h)
  .exact U h (if_pos R)
theorem mV{l:List aO}{p:aO}(j:Nat)(h:l[j]?=H p):p∈l:=B5 h
@[elab_as_elim] theorem jW{φ:Nat->Prop}{l:Nat}(h:l<5)(a:φ 0)(h1:φ 1)(h2:φ 2)(b:φ 3)(c:φ 4):φ l:=by
 cases l with
 |zero=>exact a
 |succ l=>cases l with
  |zero=>exact h1
  |succ l=>cases l with
   |zero=>exact h2
   |succ l=>cases l with
    |zero=>exact b
    |succ l=>cases l with
     |zero=>exact c
     |succ l=>exact absurd h (BP.mpr (FK 5 l))
theorem zx(l:List (O×Nat))(h:(l.all λp=>Ic (p.2+1) m)=u){q:O×Nat}(a:q∈l.map λp=>(p.1,n+p.2)):q.2<n+m:=by
 obtain⟨p,ai,rfl⟩:=B7.mp a;exact Cs (Fu (Cn.mp h p ai)) n
@[elab_as_elim] theorem oT{aO:Type}{φ:List aO->Prop}(xs:List aO)(d:φ [])(h1:∀a,φ [a])(h2:∀a b r,φ r->φ (b::r)->φ (a::b::r)):φ xs:=by
 have:φ xs/\∀a,φ (a::xs):=by
  induction xs with
  |nil=>exact⟨d,h1⟩
  |cons b r c=>exact⟨c.2 b,λa=>h2 a b r c.1 (c.2 b)⟩
 exact this.1
theorem b7(h:i<a):¬i=a+n:=nK h (B4 a n)
theorem e1(h:i<a):¬a+n=i:=xc h (B4 a n)
variable{eI:Nat}
theorem io.be{h ay:CG}(K:dc h ay F F')(e:∀i,i<n->dx i=ρ i)(a:n<=eI){names bv k v}(x:io c h F ρ n names bv k v):io c ay F' dx eI names bv k v:=by
 obtain⟨x,b,aT,aX,bc⟩:=x;exact⟨x,b,aT,aX,bc.be K e a⟩
variable{a:M}
theorem eW.be{h ay:CG}(K:dc h ay F F')(e:∀i,i<n->dx i=ρ i)(p:n<=eI)(an:∀o,h.get? a=H o->ay.get? a=H o)
  {o:bL}(x:eW c h F ρ n a o):eW c ay F' dx eI a o:=by
 cases o with
 |aN xs=>obtain⟨o,vs,k,as,h1,h2,g,l,m,r⟩:=x;exact⟨o,vs,k,as,an _ h1,h2,g,K.QN l m,λb ac=>K.N8 b (m b ac),r⟩
 |ev xs=>obtain⟨o,vs,k,h1,h2,g,l⟩:=x;exact⟨o,vs,k,an _ h1,h2,g,l.be K e p⟩
 |ns names log=>obtain⟨s,o,bv,h1,h2,g,l,m,r⟩:=x;exact⟨s,o,bv,an _ h1,h2,g.at an,l,λk v t=>(m k v t).be K e p,r⟩
 |ar v=>cases v with
  |none=>obtain⟨o,h1,h2⟩:=x;exact⟨o,an _ h1,h2⟩
  |some v=>obtain⟨o,w,h1,h2,g,l⟩:=x;exact⟨o,w,an _ h1,h2,g,l.be K e p⟩
 |fH L cells d=>obtain⟨o,h1,h2,g,l,m⟩:=x;exact⟨o,an _ h1,h2.be K e g,λq y=>BL (g q y) p,by
   refine BK l ?_
   cases d with
   |none=>rfl
   |some j=>exact congrArg H (e j (m j R)).symm,λj z=>BL (m j z) p⟩
 |fI f en=>obtain⟨o,vs,A,h1,h2,g,l,m,r,B,C,D⟩:=x;exact⟨o,vs,A,an _ h1,h2,g,l,m,r,λE=>(B E).be K e p,C,D⟩
theorem ku{h:CG}{o:Ge}{T:String}(h1:h.get? a=H o)(h2:o.cls=.type T)(c:T≠"tuple"):∃b,h.get? a=H b/\b.cls≠.type "tuple"/\b.cls≠.none:=
 ⟨o,h1,λe=>c (by replace e:=h2.symm.trans e;cases e;rfl),λe=>by replace e:=h2.symm.trans e;cases e⟩
theorem eW.Qm{h:CG}{o:bL}(x:eW c h F ρ n a o):∃b,h.get? a=H b/\b.cls≠.type "tuple"/\b.cls≠.none:=by
 cases o with
 |aN xs=>obtain⟨o,vs,k,as,h1,h2⟩:=x;exact ku h1 h2.1 (by decide)
 |ev xs=>obtain⟨o,vs,k,h1,h2⟩:=x;exact ku h1 h2.1 (by decide)
 |ns names log=>obtain⟨i,o,bv,h1,h2⟩:=x;exact ku h1 h2.1 (by decide)
 |ar v=>cases v with
  |none=>obtain⟨o,g⟩:=x;refine A3 g λh1 j e=>?_;clear g;exact ku h1 e (by decide)
  |some v=>obtain⟨o,l,h1,_,e⟩:=x;exact ku h1 e (by decide)
 |fH L cells d=>obtain⟨o,h1,h2⟩:=x;obtain⟨h2,_⟩:=h2;exact ku h1 h2 (by decide)
 |fI f en=>obtain⟨o,vs,m,h1,h2⟩:=x;exact ku h1 h2 (by decide)
noncomputable def V.NY(σ:V)(i:Nat):Option bL:=J σ.aj i
inductive tl(h:CG)(F:M->Prop)(cv:Z)(q:O):Prop
 |mk:∀c' oc vs t,cv=.ref c'->F c'->h.get? c'=H oc->oc.data=.fields vs->vs[1]?=H (.str q t)->tl h F cv q
inductive ju(h:CG)(F:M->Prop)(P:M)(q:O):Prop
 |mk:∀ps,h.get? P=H (JE ps)->Lb ps.toList->(∀pos cv,GN pos ps.toList=H cv->tl h F cv q)->ju h F P q
theorem ju.be{h ay:CG}(K:dc h ay F F'){P:M}{q:O}(a:ay.get? P=h.get? P)(x:ju h F P q):ju ay F' P q:=by
 obtain⟨b,h1,h2,c⟩:=x;refine⟨b,a.trans h1,h2,λpos d aL=>?_⟩;obtain⟨i,j,vs,t,e,f,g,r,z⟩:=c pos d aL;exact⟨i,j,vs,t,e,K.N8 _ f,K.aK _ _ f g,r,z⟩
noncomputable def b3(g:Gh)(σ:V)(a:M):Prop:=∃i o,σ.NY i=H o/\g.a i=a
structure Bx.Ok(c:Bx):Prop where
 P9:c.i.NoLimit
 Sr:¬c.N9 cStatics
 RW:∀p∈c.k,CodeHd c.i p.1 p.2.1/\¬c.N9 p.1
 Ow:∃dW,c.i.Ns C1 dW/\∀P,c.N9 P->c.i.BuiltinsAt dW P
 gT:¬c.N9 C1
inductive h6(cX:CG)(g:Gh)(σ:V)(h:CG)(a:M):Prop
 |mk:cX.objs.size<=a->¬b3 g σ a->¬g.F a->∀o,h.get? a=H o->(o.cls≠.type "tuple"/\∀vs,o.data≠.fields vs)->h6 cX g σ h a
variable{g:Gh}{σ:V}
theorem h6.low{h:CG}(x:h6 cX g σ h a):cX.objs.size<=a:=by obtain⟨q,_⟩:=x;exact q
theorem h6.bm{h:CG}(x:h6 cX g σ h a):¬b3 g σ a:=by obtain⟨_,q,_⟩:=x;exact q
theorem h6.aK{h:CG}(x:h6 cX g σ h a):¬g.F a:=by obtain⟨_,_,q,_⟩:=x;exact q
variable{am:Gh}{σ':V}
theorem h6.to{h ay:CG}(x:h6 cX g σ h a)(h1:¬b3 g σ a->¬b3 am σ' a)(h2:¬g.F a->¬am.F a)(b:∀o,h.get? a=H o->ay.get? a=H o):h6 cX am σ' ay a:=by
 obtain⟨aT,aX,bc,o,cG,dG⟩:=x;exact⟨aT,h1 aX,h2 bc,o,b o cG,dG⟩
structure aA(c:Cx)(g:Gh)(σ:V)(s:BN):Prop where
 q:∀a o,c.i.get? a=H o->¬c.N9 a->s.heap.get? a=H o
 bX:c.i.objs.size<=s.heap.objs.size
 t:∀a,c.N9 a->a<c.i.objs.size
 k:∀p∈c.k,ju s.heap g.F p.2.1 p.2.2
 N5:∀i o,σ.NY i=H o->i<σ.aa/\c.i.objs.size<=g.a i/\¬g.F (g.a i)
 bh:∀i o,σ.NY i=H o->eW c s.heap g.F g.a σ.aa (g.a i) o
 A:∀i j oi oj,σ.NY i=H oi->σ.NY j=H oj->g.a i=g.a j->i=j
 aK:∀a,g.F a->a<s.heap.objs.size/\¬c.N9 a
 Ob:JK s.gens
 C:s.os=c.SZ
 cJ:c.toBx.Ok
 bE:∀a∈c.bE,h6 c.i g σ s.heap a
structure aF(c:Cx)(T:M->Prop)(g:Gh)(σ:V)(s:BN)(am:Gh)(σ':V)(s':BN):Prop where
 bM:∀a o,s.heap.get? a=H o->¬b3 g σ a->¬T a->¬c.N9 a->a∉c.bE->s'.heap.get? a=H o
 bE:∀a o,a∈c.bE->¬T a->s.heap.get? a=H o->∃sl,s'.heap.get? a=H {o with slots:=sl}
 p:dc s.heap s'.heap g.F am.F
 bX:s.heap.objs.size<=s'.heap.objs.size
 r:∀i,i<σ.aa->am.a i=g.a i
 aa:σ.aa<=σ'.aa
 bm:∀a,b3 am σ' a->b3 g σ a\/s.heap.objs.size<=a
 aK:∀a,am.F a->g.F a\/s.heap.objs.size<=a\/b3 g σ a
 Ot:∀(k:Nat)(x:E7),s.gens[k]?=H x->s'.gens[k]?=H x
theorem aF.N6(c:Cx)(T:M->Prop)(g:Gh)(σ:V)(s:BN):aF c T g σ s g σ s:=
 ⟨λa a e a a a a=>e,λa o a a e=>⟨o.slots,e⟩,.N6 _ _,BJ _,λa a=>R,BJ _,λa h=>.inl h,λa h=>.inl h,λa a h=>h⟩
variable{T:M->Prop}
theorem aF.NT{c:Cx}{bg d f:Gh}{σ₁ g j:V}{ax l m:BN}(x:aF c T bg σ₁ ax d g l)(y:aF c T d g l f j m):aF c T bg σ₁ ax f j m:=by
 refine⟨λa o e n ao p b=>?_,λa o b ao e=>?_,x.p.NT y.p,BG x.bX y.bX,λi hi=>?_,BG x.aa y.aa,λa an=>?_,λa an=>?_,λk z h=>y.Ot k z (x.Ot k z h)⟩
 .refine y.bM a o (x.bM a o e n ao p b) (λh=>?_) ao p b;rcases x.bm a h with h|h
  .exact n h
  .exact absurd (Ca e) (BP.mpr h)
 .obtain⟨t,q⟩:=x.bE a o b ao e;obtain⟨r,s⟩:=y.bE a _ b ao q;exact⟨r,s⟩
 .exact BK (y.r i (BL hi x.aa)) (BK (x.r i hi) R)
 .rcases y.bm a an with h|h
  .exact x.bm a h
  .exact .inr (BG x.bX h)
 .rcases y.aK a an with h|h|h
  .exact x.aK a h
  .exact .inr (.inl (BG x.bX h))
  .rcases x.bm a h with h|h
   .exact .inr (.inr h)
   .exact .inr (.inl h)
variable{s s':BN}
theorem aF.N8{c:Cx}{T':M->Prop}(x:aF c T g σ s am σ' s')(h:∀a,T a->T' a):aF c T' g σ s am σ' s':=
 {x with bM:=λa o e b ao d=>x.bM a o e b (λq=>ao (h a q)) d,bE:=λa o f ao=>x.bE a o f λq=>ao (h a q)}
inductive cQ where
 |ag (k:Nat)
 |ar (i:Nat)
 |Ow (v:Z)
structure bB where
 aM:Ef
 aG:List O
 bN:List (O×cQ)
 b0:List (O×Nat)
 fu:O
 gb:Option M
 fk:Z
noncomputable def bB.N3(ae:bB)(ρ:Nat->M)(L Fr:M):E6:=
 {scope:=ae.aM,locals:=L,globals:=C1,cells:=dZ ρ ae.b0,qual:=ae.fu,func:=ae.gb,code:=ae.fk,frame:=H Fr,builtins:=Dy}
structure wc(c:Bx)(dW fK:O->Option Z):Prop where
 QL:c.i.Ns C1 dW
 f:c.i.Ns Dy fK
 gT:¬c.N9 C1
 Tp:¬c.N9 Dy
inductive cr(c:Bx)(x:O)(v:Z):Prop
 |mk:∀dW fK,wc c dW fK->(dW x=H v\/(dW x=B2/\fK x=H v))->cr c x v
noncomputable def ow(c:Bx)(aY:Ef)(names:List O)(cells:List (O×Nat))(x:O):cQ->Prop
 | .ag k=>aY.names.lookup x=H .local/\names[k]?=H x
 | .ar i=>(aY.names.lookup x=H .cell\/aY.names.lookup x=H .free)/\cells.lookup x=H i
 | .Ow v=>aY.names.lookup x=H .globalImplicit/\cr c x v
structure bB.Ok(c:Bx)(ae:bB)(n:Nat):Prop where
 L:ae.aM.kind=.function
 OZ:ae.aG.Nodup
 bN:∀q∈ae.bN,ow c ae.aM ae.aG ae.b0 q.1 q.2/\(q.1==("__debug__":O))=BQ/\(q.1==("__classdict__":O))=BQ
 b0:∀q∈ae.b0,q.2<n
variable{ae:bB}
theorem bB.Ok.be(x:ae.Ok c n)(h:n<=eI):ae.Ok c eI:={x with b0:=λq a=>BL (x.b0 q a) h}
theorem bB.Ok.Pi(x:ae.Ok c n)(e:∀i,i<n->dx i=ρ i)(L Fr:M):ae.N3 dx L Fr=ae.N3 ρ L Fr:=by
 unfold bB.N3;exact U (mI e x.b0) R
inductive sR(c:Bx)(names:List O)(L:M)(h:CG)(F:M->Prop)(ρ:Nat->M)(n:Nat)(loc:List (Nat×Y)):Prop
 |mk:∀bv o,h.get? L=H o->o.cls≠.type "tuple"->h.Ns1 L bv->(∀k v,J loc k=H v->io c h F ρ n names bv k v)->sR c names L h F ρ n loc
structure bd(c:Bx)(names:List O)(L:M)(g:Gh)(σ:V)(s:BN):Prop where
 low:c.i.objs.size<=L
 bm:¬b3 g σ L
 aK:¬g.F L
 ns:sR c names L s.heap g.F g.a σ.aa σ.ag
structure dq(c:Cx)(A:DX)(d:Nat):Prop where
 G:A.handled=B2
 QR:∃fJ:List E6,A.frames=H fJ/\∀env∈fJ,env.scope.kind≠.module/\∃a∈c.bE,env.frame=H a
 Ri:A.depth+4*d<900
 QZ:A.units+100*d<9000
noncomputable def cy(L:M):M->Prop:=λa=>a=L
structure AX where
 cp:String
 Tx:List O
noncomputable def cm:AX->V->Prop:=λa a=>False
noncomputable def ls(g:Gh)(σ:V)(lo:Nat)(a:M):Prop:=lo<=a/\¬b3 g σ a/\¬g.F a
inductive ty(h:CG)(Lo:M->Prop)(x:AX)(v:Z):Prop
 |mk:∀e t vs oe ot aR k as,v=.ref e->Lo e->h.get? e=H oe->oe.cls=.type x.cp->oe.data=.fields vs->vs[0]?=H (.ref t)->h.get? t=H ot->ot.cls=.type "tuple"->ot.data=.seq aR k->C7 h aR.toList (x.Tx.map .str) as->(vs[1]?=H .none\/∃T oT bf,vs[1]?=H (.ref T)/\Lo T/\T≠e/\h.get? T=H oT/\oT.data=.fields bf/\bf[3]?=H .none)->ty h Lo x v
noncomputable def hR(h:CG)(lo:Nat)(g:Gh)(σ:V)(x:AX)(v:Z):Prop:=ty h (ls g σ lo) x v
theorem ls.to{lo b:Nat}(x:ls g σ lo a)(c:b<=lo)(k:∀a,lo<=a->¬b3 g σ a->¬g.F a->¬b3 am σ' a/\¬am.F a):ls am σ' b a:=
 ⟨BG c x.1,k a x.1 x.2.1 x.2.2⟩
theorem hR.to{h:CG}{lo b:Nat}{x:AX}(c:b<=lo)(k:∀a,lo<=a->¬b3 g σ a->¬g.F a->¬b3 am σ' a/\¬am.F a)(y:hR h lo g σ x v):hR h b am σ' x v:=by
 obtain⟨e,t,vs,d,f,aR,i,as,aT,aX,bc,cG,dG,fS,hP,kJ,ji,lG,kI⟩:=y;refine⟨e,t,vs,d,f,aR,i,as,aT,aX.to c k,bc,cG,dG,fS,hP,kJ,ji,lG,kI.imp id ?_⟩;rintro⟨T,j,bf,l,m,n⟩;exact⟨T,j,bf,l,m.to c k,n⟩
noncomputable def fb(b9 aO:Type):=Bx->CG->(M->Prop)->(Nat->M)->Nat->b9->aO->Prop
noncomputable def rV:fb Y Z:=λc h F ρ n a v=>a8 c h F ρ n a v
noncomputable def qk:fb (List Y) (List Z):=λc h F ρ n a v=>bA c h F ρ n a v
noncomputable def hX:fb aO aO:=λc c c c c a b=>a=b
inductive bY where
 |aa|eQ|eY
 |c0 (v:Y)
inductive rF:Bx->CG->(M->Prop)->(Nat->M)->Nat->bY->JD->Prop
 |aa {c h F ρ n:_}:rF c h F ρ n .aa .next
 |eQ {c h F ρ n:_}:rF c h F ρ n .eQ .brk
 |eY {c h F ρ n:_}:rF c h F ρ n .eY .cont
 |c0 {c h F ρ n a v:_}:a8 c h F ρ n a v->rF c h F ρ n (.c0 a) (.ret v)
class pS {b9 aO:Type} (cE:fb b9 aO):Prop where
 be:∀{c:Bx}{h ay:CG}{F F':M->Prop}{ρ dx:Nat->M}{n eI:Nat},dc h ay F F'->(∀i,i<n->dx i=ρ i)->n<=eI->∀{b a},cE c h F ρ n b a->cE c ay F' dx eI b a
structure En where
 Pm:Cx
 aG:List O
 Qg:M
inductive bZ{b9 aO:Type}(cE:fb b9 aO)(cH:En)(g:Gh)(σ:V)(s:BN)(Q:b9->V->Prop)(v:aO)(s':BN):Prop
 |mk:∀b am σ',aF cH.Pm (cy cH.Qg) g σ s am σ' s'->aA cH.Pm am σ' s'->bd cH.Pm cH.aG cH.Qg am σ' s'->cE cH.Pm s'.heap am.F am.a σ'.aa b v->Q b σ'->bZ cE cH g σ s Q v s'
inductive PX(cH:En)(g:Gh)(σ:V)(s:BN)(X:AX->V->Prop)(v:Z)(s':BN):Prop
 |mk:∀x am σ',aF cH.Pm (cy cH.Qg) g σ s am σ' s'->aA cH.Pm am σ' s'->bd cH.Pm cH.aG cH.Qg am σ' s'->hR s'.heap s.heap.objs.size am σ' x v->X x σ'->PX cH g σ s X v s'
section
variable{b9 aO us Bv:Type}{cE:fb b9 aO}{BE:fb us Bv}{cH:En}{g bg:Gh}{σ σ₁:V}{s ax:BN}{Q:b9->V->Prop}{qm:us->V->Prop}{X:AX->V->Prop}{ck:F0}{A:DX}
theorem bZ.NT{v:aO}(x:aF cH.Pm (cy cH.Qg) g σ s bg σ₁ ax)(h:bZ cE cH bg σ₁ ax Q v s'):bZ cE cH g σ s Q v s':=by
 obtain⟨b,am,σ',h1,h2,a,c,d⟩:=h;exact⟨b,am,σ',x.NT h1,h2,a,c,d⟩
theorem PX.NT(x:aF cH.Pm (cy cH.Qg) g σ s bg σ₁ ax)(h:PX cH bg σ₁ ax X v s'):PX cH g σ s X v s':=by
 obtain⟨b,am,σ',h1,h2,c,d,e⟩:=h;exact⟨b,am,σ',x.NT h1,h2,c,d.to x.bX λf f a b=>⟨a,b⟩,e⟩
theorem PX.no(h:PX cH g σ s cm v s'):p:=by
 obtain⟨_,_,_,_,_,_,_,z⟩:=h;exact z.elim
theorem bZ.Oi{b:b9}{v:aO}(r:aA cH.Pm g σ s)(f:bd cH.Pm cH.aG cH.Qg g σ s)(h:cE cH.Pm s.heap g.F g.a σ.aa b v)(a:Q b σ):bZ cE cH g σ s Q v s:=
 ⟨b,g,σ,.N6 ..,r,f,h,a⟩
end
noncomputable def V.N0(σ:V)(o:bL):V:=⟨σ.aa+1,(σ.aa,o)::σ.aj,σ.ag⟩
noncomputable def V.NX(σ:V)(i:Nat)(o:bL):V:=⟨σ.aa,(i,o)::σ.aj,σ.ag⟩
noncomputable def V.N2(σ:V)(k:Nat)(v:Y):V:=⟨σ.aa,σ.aj,(k,v)::σ.ag⟩
noncomputable def cu(ρ:Nat->M)(i:Nat)(a:M):Nat->M:=λj=>if j=i then a else ρ j
theorem fc(ρ:Nat->M)(i:Nat)(a:M):cu ρ i a i=a:=if_pos R
theorem eu(ρ:Nat->M)(i:Nat)(a:M):∀j,j<i->cu ρ i a j=ρ j:=λb h=>if_neg (BZ h)
section
variable{c:Cx}{g:Gh}{σ:V}{s:BN}{names:List O}{L:M}{T:M->Prop}
theorem aA.OO(r:aA c g σ s)(h:b3 g σ a):a<s.heap.objs.size:=by
 obtain⟨i,o,hi,rfl⟩:=h;obtain⟨d,b,_⟩:=(r.bh i o hi).Qm;exact Ca b
theorem aA.Sc(r:aA c g σ s)(h:a∈c.bE):a<s.heap.objs.size:=by obtain⟨_,_,_,o,e,_⟩:=r.bE a h;exact Ca e
theorem aA.Ru(r:aA c g σ s)(h:s.heap.objs.size<=a):a∉c.bE:=λb=>absurd (r.Sc b) (BP.mpr h)
theorem aA.Ur(r:aA c g σ s)(h:b3 g σ a):c.i.objs.size<=a:=by
 obtain⟨i,o,hi,rfl⟩:=h;exact(r.N5 i o hi).2.1
theorem aA.RR(r:aA c g σ s)(h:c.N9 a):¬b3 g σ a:=λay=>by
 exact BP.mpr (r.Ur ay) (r.t a h)
theorem aA.Oc(r:aA c g σ s)(k:∀b o,s.heap.get? b=H o->s'.heap.get? b=H o)(f:s.heap.objs.size<=s'.heap.objs.size)(h:s'.gens=s.gens)(j:s'.os=s.os):aA c g σ s':=by
 have K:dc s.heap s'.heap g.F g.F:=⟨λa o e d=>k a o e,λa o d e=>k a o e,λd e=>e⟩;refine⟨λa o e ao=>k a o (r.q a o e ao),BG r.bX f,r.t,λp ai=>?_,r.N5,λi o hi=>(r.bh i o hi).be K (λd d=>R) (BJ _) (λl e=>k _ _ e),r.A,λa an=>⟨BL (r.aK a an).1 f,(r.aK a an).2⟩,U h r.Ob,j.trans r.C,r.cJ,λa an=>(r.bE a an).to id id (k a)⟩;obtain⟨m,h1,_⟩:=r.k p ai;exact(r.k p ai).be K ((k _ _ h1).trans h1.symm)
theorem bd.Oc(f:bd c names L g σ s)(k:∀b o,s.heap.get? b=H o->s'.heap.get? b=H o):bd c names L g σ s':=by
 have K:dc s.heap s'.heap g.F g.F:=⟨λa o e d=>k a o e,λa o d e=>k a o e,λd e=>e⟩;obtain⟨bv,o,h1,h2,h,i⟩:=f.ns;exact⟨f.low,f.bm,f.aK,bv,o,k _ _ h1,h2,h.at λo e=>k _ _ e,λk v j=>(i k v j).be K (λd d=>R) (BJ _)⟩
theorem aF.Oc{s'':BN}(x:aF c T g σ s am σ' s')(k:∀b o,s'.heap.get? b=H o->s''.heap.get? b=H o)(i:s'.heap.objs.size<=s''.heap.objs.size)(l:s''.gens=s'.gens):
  aF c T g σ s am σ' s'':=
 ⟨λa o e m ao n d=>k a o (x.bM a o e m ao n d),λa o d ao e=>(x.bE a o d ao e).imp λq p=>k _ _ p,⟨λa o e t=>k a o (x.p.b2 a o e t),λa o f e=>k a o (x.p.aK a o f e),x.p.N8⟩,BG x.bX i,x.r,x.aa,x.bm,x.aK,λj y h=>U l (x.Ot j y h)⟩
structure fT(c:Cx)(g:Gh)(σ:V)(L:M)(h:CG)(b:M):Prop where
 bm:¬b3 g σ b
 aK:¬g.F b
 low:c.i.objs.size<=b
 ag:b≠L
 b2:∀o,h.get? b=H o->o.cls≠.type "tuple"
 OD:b∉c.bE
theorem aA.Pa(r:aA c g σ s){b:M}(ac:fT c g σ L s.heap b)(k:∀a o,a≠b->s.heap.get? a=H o->s'.heap.get? a=H o)(d:s.heap.objs.size<=s'.heap.objs.size)(j:s'.gens=s.gens)(l:s'.os=s.os):aA c g σ s':=by
 have K:dc s.heap s'.heap g.F g.F:=⟨λa o e t=>k a o (λq=>ac.b2 o (q▸e) t.1) e,λa o f e=>k a o (λq=>ac.aK (q▸f)) e,λh e=>e⟩
 refine⟨λa o e ao=>k a o (λq=>BP.mpr ac.low (Ca (q▸e))) (r.q a o e ao),BG r.bX d,r.t,λp ai=>?_,r.N5,
  λi o hi=>(r.bh i o hi).be K (λh h=>R) (BJ _) (λm e=>k _ _ (λq=>ac.bm ⟨i,o,hi,q⟩) e),r.A,λa an=>⟨BL (r.aK a an).1 d,(r.aK a an).2⟩,U j r.Ob,l.trans r.C,r.cJ,λa an=>(r.bE a an).to id id λo=>k a o (λe=>ac.OD (e▸an))⟩
 obtain⟨n,h1,_⟩:=r.k p ai;refine(r.k p ai).be K ((k _ _ (λe=>?_) h1).trans h1.symm);have h2:=r.t p.2.1 ⟨p,ai,R⟩;rw[e]at h2;exact absurd h2 (BP.mpr ac.low)
theorem bd.Pa(f:bd c names L g σ s){b:M}(ac:fT c g σ L s.heap b)(k:∀a o,a≠b->s.heap.get? a=H o->s'.heap.get? a=H o):bd c names L g σ s':=by
 have K:dc s.heap s'.heap g.F g.F:=⟨λa o e t=>k a o (λq=>ac.b2 o (q▸e) t.1) e,λa o f e=>k a o (λq=>ac.aK (q▸f)) e,λd e=>e⟩;obtain⟨bv,o,h1,h2,h,i⟩:=f.ns;exact⟨f.low,f.bm,f.aK,bv,o,k _ _ (DN ac.ag) h1,h2,h.at λo e=>k _ _ (DN ac.ag) e,λk v j=>(i k v j).be K (λd d=>R) (BJ _)⟩
theorem aF.Pa{s'':BN}(x:aF c T g σ s am σ' s'){b:M}(ac:¬am.F b)(ao:∀o,s'.heap.get? b=H o->o.cls≠.type "tuple")(aJ:s.heap.objs.size<=b)(i:b∉c.bE)(k:∀a o,a≠b->s'.heap.get? a=H o->s''.heap.get? a=H o)
  (l:s'.heap.objs.size<=s''.heap.objs.size)(m:s''.gens=s'.gens):aF c T g σ s am σ' s'':=by
 refine⟨λa o e n ao p d=>k a o ?_ (x.bM a o e n ao p d),λa o d ao e=>(x.bE a o d ao e).imp λv r=>k _ _ (λq=>i (q▸d)) r,⟨λa o e t=>k a o ?_ (x.p.b2 a o e t),λa o f e=>k a o ?_ (x.p.aK a o f e),x.p.N8⟩,BG x.bX l,x.r,x.aa,x.bm,x.aK,λj y h=>U m (x.Ot j y h)⟩
 .exactλq=>BP.mpr aJ (Ca (q▸e))
 .exactλq=>BP.mpr aJ (Ca (q▸e))
 .exactλq=>ac (x.p.N8 _ (q▸f))
theorem aA.N0(r:aA c g σ s){o:bL}(k:∀b o,s.heap.get? b=H o->s'.heap.get? b=H o)(y:s.heap.objs.size<=s'.heap.objs.size)(z:s'.gens=s.gens)(A:s'.os=s.os)
  (an:s.heap.objs.size<=a)(B:eW c s'.heap g.F (cu g.a σ.aa a) (σ.aa+1) a o):aA c ⟨cu g.a σ.aa a,g.F⟩ (σ.N0 o) s':=by
 have K:dc s.heap s'.heap g.F g.F:=⟨λa o e q=>k a o e,λa o q e=>k a o e,λq e=>e⟩;have l:=r.Oc k y z A
 have m:∀i d,(σ.N0 o).NY i=H d->(i=σ.aa/\d=o)\/(i<σ.aa/\σ.NY i=H d):=λi d h=>by
  unfold V.NY V.N0 at h;rw[de]at h
  by_cases hi:i=σ.aa
  .rw[if_pos hi]at h;exact .inl ⟨hi,(CO h).symm⟩
  .rw[if_neg hi]at h;exact .inr ⟨(r.N5 i d h).1,h⟩
 refine⟨l.q,l.bX,l.t,l.k,λi d h=>?_,λi d h=>?_,λi j n p hi C e=>?_,l.aK,l.Ob,l.C,l.cJ,λb ac=>?_⟩
 .rcases m i d h with⟨rfl,rfl⟩|⟨hi,h⟩
  .refine⟨B3 _,?_,?_⟩
   .refine(?_:_<=cu g.a σ.aa a σ.aa);exact dH (fc ..) (BG r.bX an)
   .refine(?_:¬g.F (cu g.a σ.aa a σ.aa));exact U (fc ..) (λD=>absurd (r.aK a D).1 (BP.mpr an))
  .refine⟨C3 hi,?_⟩;refine(?_:_<=cu g.a σ.aa a i/\¬g.F (cu g.a σ.aa a i));exact U (eu _ _ _ _ hi) ((r.N5 i d h).2)
 .rcases m i d h with⟨rfl,rfl⟩|⟨hi,h⟩
  .refine(?_:eW _ _ _ _ _ (cu g.a σ.aa a σ.aa) _);exact U (fc ..) B
  .refine(?_:eW _ _ _ _ _ (cu g.a σ.aa a i) _);refine U (eu _ _ _ _ hi)<|(r.bh i d h).be K (eu _ _ _) (Cr _) (λG e=>k _ _ e)
 .have f:cu g.a σ.aa a i=cu g.a σ.aa a j:=e;rcases m i n hi with⟨t,I⟩|⟨v,h⟩ <;> rcases m j p C with⟨w,L⟩|⟨x,ay⟩
  .exact BK t (bP w R)
  .rw[t,fc,eu _ _ _ _ x]at f;exact absurd (r.OO ⟨j,p,ay,R⟩) (br f (BP.mpr an))
  .rw[w,fc,eu _ _ _ _ v]at f;exact absurd (r.OO ⟨i,n,h,R⟩) (U f (BP.mpr an))
  .rw[eu _ _ _ _ v,eu _ _ _ _ x]at f;exact r.A i j n p h ay f
 .obtain⟨aT,aX,bc,E,cG,dG⟩:=r.bE b ac;refine⟨aT,λF=>?_,bc,E,k _ _ cG,dG⟩;obtain⟨i,d,h,e⟩:=F;rcases m i d h with⟨rfl,rfl⟩|⟨hi,h⟩
  .have f:cu g.a σ.aa a σ.aa=b:=e;rw[fc]at f;exact absurd (Ca cG) (br f (BP.mpr an))
  .have f:cu g.a σ.aa a i=b:=e;rw[eu _ _ _ _ hi]at f;exact aX ⟨i,d,h,f⟩
theorem jI(r:aA c g σ s){o:bL}{b:M}(h:b3 ⟨cu g.a σ.aa a,g.F⟩ (σ.N0 o) b):b3 g σ b\/b=a:=by
 obtain⟨i,f,hi,e⟩:=h;unfold V.NY V.N0 at hi;rw[de]at hi;have d:cu g.a σ.aa a i=b:=e
 by_cases h:i=σ.aa
 .subst h;rw[fc]at d;exact .inr d.symm
 .rw[if_neg h]at hi;rw[eu _ _ _ _ (r.N5 i f hi).1]at d;exact .inl ⟨i,f,hi,d⟩
theorem aF.N0(r:aA c g σ s){o:bL}(k:∀b o,s.heap.get? b=H o->s'.heap.get? b=H o)(f:s.heap.objs.size<=s'.heap.objs.size)(i:s'.gens=s.gens)
  (an:s.heap.objs.size<=a):aF c T g σ s ⟨cu g.a σ.aa a,g.F⟩ (σ.N0 o) s':=
 ⟨λa o e d d d d=>k a o e,λa o d d e=>⟨o.slots,k a o e⟩,⟨λa o e d=>k a o e,λa o d e=>k a o e,λd e=>e⟩,f,eu _ _ _,Cr _,λb ac=>(jI r ac).elim .inl (λ(e:b=a)=>.inr (dH e an)),λd h=>.inl h,λj y h=>U i h⟩
theorem bd.N0(f:bd c names L g σ s)(r:aA c g σ s){o:bL}(k:∀b o,s.heap.get? b=H o->s'.heap.get? b=H o)(an:s.heap.objs.size<=a):bd c names L ⟨cu g.a σ.aa a,g.F⟩ (σ.N0 o) s':=by
 have K:dc s.heap s'.heap g.F g.F:=⟨λa o e d=>k a o e,λa o d e=>k a o e,λd e=>e⟩;obtain⟨bv,i,h1,h2,j,l⟩:=f.ns;refine⟨f.low,λh=>?_,f.aK,bv,i,k _ _ h1,h2,j.at λo e=>k _ _ e,λk v m=>(l k v m).be K (eu _ _ _) (Cr _)⟩;rcases jI r h with h|h
 .exact f.bm h
 .exact absurd (Ca h1) (U h (BP.mpr an))
theorem aA.Qf(r:aA c g σ s){b:bL}(hi:σ.NY i=H b)(k:∀a o,a≠g.a i->s.heap.get? a=H o->s'.heap.get? a=H o):dc s.heap s'.heap g.F g.F:=by
 obtain⟨m,d⟩:=(r.bh i b hi).Qm;refine A3 d λh j l=>?_;clear d;exact⟨λa o e t=>k a o (λq=>by rw[q,h]at e;cases e;exact j t.1) e,λa o f e=>k a o (λq=>(r.N5 i b hi).2.2 (q▸f)) e,λl e=>e⟩
theorem aA.NX(r:aA c g σ s){t o:bL}(hi:σ.NY i=H t)(k:∀a o,a≠g.a i->s.heap.get? a=H o->s'.heap.get? a=H o)(w:s.heap.objs.size<=s'.heap.objs.size)
  (y:s'.gens=s.gens)(z:s'.os=s.os)(A:eW c s'.heap g.F g.a σ.aa (g.a i) o):aA c g (σ.NX i o) s':=by
 have K:=r.Qf hi k;have v:=r.N5 i t hi
 have m:∀j d,(σ.NX i o).NY j=H d->(j=i/\d=o)\/(j≠i/\σ.NY j=H d):=λj d h=>by
  unfold V.NY V.NX at h;rw[de]at h
  by_cases l:j=i
  .rw[if_pos l]at h;exact .inl ⟨l,(CO h).symm⟩
  .rw[if_neg l]at h;exact .inr ⟨l,h⟩
 refine⟨λa o e ao=>k a o (λq=>BP.mpr v.2.1 (Ca (q▸e))) (r.q a o e ao),BG r.bX w,r.t,λp ai=>?_,λj d h=>?_,λj d h=>?_,λj B C D h ay e=>?_,
  λa an=>⟨BL (r.aK a an).1 w,(r.aK a an).2⟩,U y r.Ob,z.trans r.C,r.cJ,λb ac=>?_⟩
 .obtain⟨I,h1,_⟩:=r.k p ai;refine(r.k p ai).be K ((k _ _ (λe=>?_) h1).trans h1.symm);have h2:=r.t p.2.1 ⟨p,ai,R⟩;rw[e]at h2;exact absurd h2 (BP.mpr v.2.1)
 .rcases m j d h with⟨f,n⟩|⟨_,h⟩
  .exact U f v
  .exact r.N5 j d h
 .rcases m j d h with⟨f,n⟩|⟨l,h⟩
  .exact U f (U n A)
  .exact(r.bh j d h).be K (λE E=>R) (BJ _) λL e=>k _ _ (λq=>l (r.A _ _ _ _ h hi q)) e
 .rcases m j C h with⟨f,_⟩|⟨_,q⟩ <;> rcases m B D ay with⟨n,_⟩|⟨_,x⟩
  .exact BK f (bP n R)
  .rw[f]at e⊢;exact r.A _ _ _ _ hi x e
  .rw[n]at e⊢;exact r.A _ _ _ _ q hi e
  .exact r.A _ _ _ _ q x e
 .obtain⟨aT,aX,bc,F,cG,dG⟩:=r.bE b ac;refine⟨aT,λG=>?_,bc,F,k _ _ (λe=>aX ⟨i,t,hi,e.symm⟩) cG,dG⟩;obtain⟨j,d,h,e⟩:=G;rcases m j d h with⟨f,_⟩|⟨_,h⟩
  .exact aX ⟨i,t,hi,f▸e⟩
  .exact aX ⟨j,d,h,e⟩
theorem qs{c o:bL}(hi:σ.NY i=H c){b:M}(h:b3 g (σ.NX i o) b):b3 g σ b:=by
 obtain⟨j,d,a,e⟩:=h;unfold V.NY V.NX at a;rw[de]at a
 by_cases q:j=i
 .subst q;exact⟨j,c,hi,e⟩
 .rw[if_neg q]at a;exact⟨j,d,a,e⟩
theorem aF.NX(r:aA c g σ s){d o:bL}(hi:σ.NY i=H d)(k:∀a o,a≠g.a i->s.heap.get? a=H o->s'.heap.get? a=H o)(f:s.heap.objs.size<=s'.heap.objs.size)
  (l:s'.gens=s.gens):aF c T g σ s g (σ.NX i o) s':=
 ⟨λa o e m b b b=>k a o (λq=>m ⟨i,d,hi,q.symm⟩) e,λa o n b e=>⟨o.slots,k a o (λq=>(r.bE a n).bm ⟨i,d,hi,q.symm⟩) e⟩,r.Qf hi k,f,λb b=>R,BJ _,λb h=>.inl (qs hi h),λb h=>.inl h,λj y h=>U l h⟩
theorem bd.NX(f:bd c names L g σ s)(r:aA c g σ s){b o:bL}(hi:σ.NY i=H b)(k:∀a o,a≠g.a i->s.heap.get? a=H o->s'.heap.get? a=H o):bd c names L g (σ.NX i o) s':=by
 have K:=r.Qf hi k;have d:L≠g.a i:=λe=>f.bm ⟨i,b,hi,e.symm⟩;obtain⟨bv,j,h1,h2,l,m⟩:=f.ns;exact⟨f.low,λh=>f.bm (qs hi h),f.aK,bv,j,k _ _ d h1,h2,l.at λo e=>k _ _ d e,λk v n=>(m k v n).be K (λp p=>R) (BJ _)⟩
end
instance:pS rV:=⟨λK e h a a x=>a8.be K e h x⟩
instance:pS qk:=⟨λK e h a a x=>bA.be K e h x⟩
section frame
variable{c:Cx}{g:Gh}{σ:V}{s:BN}{names:List O}{L:M}{T:M->Prop}
theorem bd.QH(f:bd c names L g σ s):∀o,s.heap.get? L=H o->o.cls≠.type "tuple":=by
 obtain⟨bv,a,h1,h2,_⟩:=f.ns;intro o e;replace e:=h1.symm.trans e;cases e;exact h2
theorem aA.R5(r:aA c g σ s)(f:bd c names L g σ s)(k:∀a o,a≠L->s.heap.get? a=H o->s'.heap.get? a=H o):dc s.heap s'.heap g.F g.F:=
 ⟨λa o e t=>k a o (λq=>f.QH o (q▸e) t.1) e,λa o h e=>k a o (λq=>f.aK (q▸h)) e,λb e=>e⟩
theorem aA.N2(r:aA c g σ s)(f:bd c names L g σ s){v:Y}(d:Ew L s.heap s'.heap)(x:s'.gens=s.gens)(y:s'.os=s.os)(z:s'.heap.Ns1 L bv)(aL:∃o,s'.heap.get? L=H o/\o.cls≠.type "tuple"):aA c g (σ.N2 k v) s':=by
 have b:∀a o,a≠L->s.heap.get? a=H o->s'.heap.get? a=H o:=λa o h e=>(d.2 a h).trans e;have K:=r.R5 f b;have j:=CL d.1.symm
 refine⟨λa o e ao=>b a o (λq=>BP.mpr f.low (Ca (q▸e))) (r.q a o e ao),BG r.bX j,r.t,λp ai=>?_,r.N5,
  λi o hi=>(r.bh i o hi).be K (λl l=>R) (BJ _) λD e=>b _ _ (λq=>f.bm ⟨i,o,hi,q⟩) e,r.A,λa an=>⟨BL (r.aK a an).1 j,(r.aK a an).2⟩,U x r.Ob,y.trans r.C,r.cJ,λa an=>?_⟩
 rotate_left
 .obtain⟨aT,aX,bc,A,cG,dG⟩:=r.bE a an
  by_cases m:a=L
  .rw[m]at aT aX bc⊢;obtain⟨o,n,B⟩:=aL;obtain⟨E,bS,F,t⟩:=z;refine A3 t λw C l=>?_;clear t;rw[n]at w;cases w;exact⟨aT,aX,bc,o,n,B,λvs e=>by rw[C]at e;cases e⟩
  .exact⟨aT,aX,bc,A,b _ _ m cG,dG⟩
 obtain⟨G,h1,_⟩:=r.k p ai;refine(r.k p ai).be K ((b _ _ (λe=>?_) h1).trans h1.symm);have h2:=r.t p.2.1 ⟨p,ai,R⟩;rw[e]at h2;exact absurd h2 (BP.mpr f.low)
theorem aF.N2(r:aA c g σ s)(f:bd c names L g σ s){v:Y}(i:Ew L s.heap s'.heap)(l:s'.gens=s.gens):aF c (cy L) g σ s g (σ.N2 k v) s':=by
 have d:∀a o,a≠L->s.heap.get? a=H o->s'.heap.get? a=H o:=λa o h e=>(i.2 a h).trans e;exact⟨λa o e b ao b b=>d a o ao e,λa o b ao e=>⟨o.slots,d a o ao e⟩,r.R5 f d,CL i.1.symm,λb b=>R,BJ _,λb h=>.inl h,λb h=>.inl h,λj y h=>U l h⟩
theorem tq{h:CG}{names:List O}{log:List (Nat×Y)}{bj:O}{v:Y}{d:Z}(g:names.Nodup)(f:names[k]?=H bj)(j:∀i w,J log i=H w->io c h F ρ n names bv i w)(hv:a8 c h F ρ n v d):
  ∀i w,J ((k,v)::log) i=H w->io c h F ρ n names (λy=>if y=bj then H d else bv y) i w:=λi w a=>by
 rw[de]at a
 by_cases b:i=k
 .rw[if_pos b]at a;cases a;exact⟨bj,d,b▸f,if_pos R,hv⟩
 .rw[if_neg b]at a;obtain⟨y,l,aT,aX,bc⟩:=j i w a;exact⟨y,l,aT,(if_neg λ(e:y=bj)=>b ((EI (BY.mp aT).1 g).mp (aT.trans (e▸f.symm)))).trans aX,bc⟩
theorem wg{names:List O}{log:List (Nat×Y)}{bj:O}{v:Y}{d:Z}(f:names.Nodup)(g:names[k]?=H bj)(h:∀i y,names[i]?=H y->J log i=B2->bv y=B2):
  ∀i y,names[i]?=H y->J ((k,v)::log) i=B2->(if y=bj then H d else bv y)=B2:=λi y b a=>by
 rw[de]at a
 by_cases c:i=k
 .rw[if_pos c]at a;cases a
 .rw[if_neg c]at a;exact(if_neg λ(e:y=bj)=>c ((EI (BY.mp b).1 f).mp (b.trans (e▸g.symm)))).trans (h i y b a)
theorem bd.N2(f:bd c names L g σ s)(r:aA c g σ s)(j:names.Nodup){x:O}{v:Y}{d:Z}(l:names[k]?=H x)(m:Ew L s.heap s'.heap)
  (n:∀k v,J σ.ag k=H v->io c s.heap g.F g.a σ.aa names bv k v)
  (p:s'.heap.Ns1 L λy=>if y=x then H d else bv y)(aL:∃o,s'.heap.get? L=H o/\o.cls≠.type "tuple")(hv:a8 c s.heap g.F g.a σ.aa v d):bd c names L g (σ.N2 k v) s':=by
 have q:∀a o,a≠L->s.heap.get? a=H o->s'.heap.get? a=H o:=λa o h e=>(m.2 a h).trans e;have K:=r.R5 f q;obtain⟨o,h1,h2⟩:=aL;exact⟨f.low,f.bm,f.aK,_,o,h1,h2,p,tq j l (λi w t=>(n i w t).be K (λb b=>R) (BJ _)) (hv.be K (λb b=>R) (BJ _))⟩
end frame
variable{b9:Type}
noncomputable def WT(cE:fb b9 aO)(c:Cx)(d:Nat)(ae:bB)(t:E6->FB aO)(σ:V)(Q:b9->V->Prop)(X:AX->V->Prop):Prop:=
 ∀A g s L Fr,dq c A d->aA c g σ s->bd c ae.aG L g σ s->ae.Ok c σ.aa->
  B9 c.NU A (t (ae.N3 g.a L Fr)) (bZ cE ⟨c,ae.aG,L⟩ g σ s Q) (PX ⟨c,ae.aG,L⟩ g σ s X) s
noncomputable abbrev WE(c:Cx)(d:Nat)(ae:bB)(e:CQ)(σ:V)(Q:Y->V->Prop)(X:AX->V->Prop):Prop:=WT rV c d ae (EJ e) σ Q X
noncomputable abbrev WB(c:Cx)(d:Nat)(ae:bB)(e:CQ)(σ:V)(Q:Bool->V->Prop)(X:AX->V->Prop):Prop:=WT hX c d ae (λenv=>It e env (EJ e env)) σ Q X
noncomputable abbrev WS(c:Cx)(d:Nat)(ae:bB)(b:List DZ)(σ:V)(Q:bY->V->Prop)(X:AX->V->Prop):Prop:=WT rF c d ae (GZ b) σ Q X
noncomputable abbrev eK(c:Cx)(d:Nat)(ae:bB)(b:DZ)(σ:V)(Q:bY->V->Prop)(X:AX->V->Prop):Prop:=WT rF c d ae (MR b) σ Q X
variable{c:Cx}{d:Nat}{X:AX->V->Prop}
theorem WT.be{cE:fb b9 aO}{t:E6->FB aO}{Q qm:b9->V->Prop}(h:WT cE c d ae t σ Q X)(k:∀b σ',Q b σ'->qm b σ'):WT cE c d ae t σ qm X:=
 λA g s L Fr a r f e=>CB (h A g s L Fr a r f e) (λv s' i=>by obtain⟨b,am,σ',h1,h2,j,l,m⟩:=i;exact⟨b,am,σ',h1,h2,j,l,k b σ' m⟩) λn n x=>x
variable{Q:Y->V->Prop}
theorem mZ(ρ:Nat->M)(x:O):∀(a9:List (O×Nat)){i:Nat},a9.lookup x=H i->(dZ ρ a9).lookup x=H (ρ i):=by
 intro r
 induction r with
 |nil=>
  intro _ h
  cases h
 |cons a r b=>
  obtain⟨y,j⟩:=a;intro i h;refine(?_:Lj x ((y,ρ j)::dZ ρ r)=_);rw[Fs]at h⊢
  cases ac:x==y with
  |true=>rw[ac]at h;cases h;rfl
  |false=>rw[ac]at h;exact b h
variable{x:O}
theorem ll{v:Y}(e:(x,cQ.ag k)∈ae.bN)(i:J σ.ag k=H v)(h:Q v σ):WT rV c d ae (λenv=>HZ env x) σ Q X:=by
 intro A g s L Fr m r f b;obtain⟨⟨h1,h2⟩,_⟩:=b.bN _ e;obtain⟨bv,o,aT,aX,bc,cG⟩:=f.ns;obtain⟨y,n,a,j,l⟩:=cG k v i;replace a:=(show ae.aG[k]?=H x from h2).symm.trans a;cases a;exact FU b.L h1 bc.ns j (bZ.Oi r f l h)
theorem pX{v:Y}(e:(x,cQ.ar i)∈ae.bN)(hi:σ.NY i=H (.ar (H v)))(h:Q v σ):WT rV c d ae (λenv=>HZ env x) σ Q X:=by
 intro A g s L Fr n r f a;obtain⟨⟨h1,h2⟩,_,j⟩:=a.bN _ e;obtain⟨o,k,l,m,_,b⟩:=r.bh i _ hi;have aL:s.heap.IsCell (g.a i) (H k):=⟨o,l,m⟩;rcases h1 with h1|h1
 .exact wpAny_loadName_cell a.L h1 (mZ g.a x _ h2) aL (bZ.Oi r f b h)
 .exact wpAny_loadName_free a.L h1 (mZ g.a x _ h2) aL (bZ.Oi r f b h) j
theorem ui(r:aA c g σ s){m:O->Option Z}(h:c.i.Ns a m)(b:¬c.N9 a):s.heap.Ns a m:=
 by obtain⟨o,bS,d,e,q⟩:=h;exact⟨o,bS,d,r.q a o e b,q⟩
variable{A:DX}{E:Z->BN->Prop}
theorem pr{c:Bx}{ck:F0}{env:E6}{K:Z->BN->Prop}(G:cr c x v)(d:env.scope.names.lookup x=H .globalImplicit)(aJ:env.scope.kind=.function)(f:env.globals=C1)(ac:env.builtins=Dy)
  (b:∀a o,c.i.get? a=H o->¬c.N9 a->s.heap.get? a=H o)(h:K v s):B9 ck A (HZ env x) K E s:=by
 obtain⟨dW,fK,G,h2⟩:=G;refine U (loadName_read aJ d) ?_;unfold loadGlobal;refine U f (U ac (BM (Kg (G.QL.at λo e=>b _ o e G.gT) ?_)));rcases h2 with h2|⟨h2,g⟩
 .exact U h2 (BW h)
 .refine U h2<|wpAny_bind (Kg (G.f.at λo e=>b _ o e G.Tp) (U g (BW h)))
theorem xf(e:(x,cQ.Ow v)∈ae.bN)(h:Q (.bT v) σ):WT rV c d ae (λenv=>HZ env x) σ Q X:=λa a a a a a r f b=>
 have k:=(b.bN _ e).1
 pr k.2 k.1 b.L R R r.q (bZ.Oi r f .bT h)
variable{pos:FH}
theorem p3{b:cQ}(e:(x,b)∈ae.bN)(h:WT rV c d ae (λenv=>HZ env x) σ Q X):WE c d ae (.Name x pos) σ Q X:=
 λA g s L Fr i r f a=>HG (h A g s L Fr i r f a) (a.bN _ e).2.1
theorem aw{v:Y}(a:(x,cQ.ag k)∈ae.bN)(b:J σ.ag k=H v)(h:Q v σ):WE c d ae (.Name x pos) σ Q X:=p3 a (ll a b h)
theorem bR{v:Y}(a:(x,cQ.ar i)∈ae.bN)(hi:σ.NY i=H (.ar (H v)))(h:Q v σ):WE c d ae (.Name x pos) σ Q X:=p3 a (pX a hi h)
theorem dr(a:(x,cQ.Ow v)∈ae.bN)(h:Q (.bT v) σ):WE c d ae (.Name x pos) σ Q X:=p3 a (xf a h)
variable{a:Y}
theorem fr{t:Nat}{names:List O}(r:aA c g σ s)(f:bd c names L g σ s)(hv:a8 c s.heap g.F g.a σ.aa a v)(h:Q a σ):bZ rV ⟨c,names,L⟩ g σ s Q v {s with toks:=t}:=
 ⟨a,g,σ,(aF.N6 ..).Oc (λb b e=>e) (BJ _) R,r.Oc (λb b e=>e) (BJ _) R R,f.Oc λb b e=>e,hv,h⟩
theorem a8.Oh{h F ρ n}(i:Int)(t:Jg):a8 c h F ρ n (.ab (.int i)) (.int i t):=.ab (.int i t) (λa h=>nomatch h) R
variable{b:Bool}
theorem a8.Qn{h:CG}(x:a8 c h F ρ n (.ab (.bool b)) v):v=.bool b:=by
 obtain⟨_,y,_,_⟩:=x.NV;exact(reads_bool_inv y).1
theorem a8.Oz{h F ρ n}(b:Bool):a8 c h F ρ n (.ab (.bool b)) (.bool b):=.ab (.bool b) (λa h=>nomatch h) R
theorem a8.none{h F ρ n}:a8 c h F ρ n (.ab .none) .none:=.ab .none (λa h=>nomatch h) R
theorem a8.Ov{h F ρ n}(x:O)(t:Jg)(a:BR x=u):a8 c h F ρ n (.ab (.str x)) (.str x t):=.ab (.str x t) (λb h=>nomatch h) (by simp[DH,a])
theorem bI{i:Int}(h:Q (.ab (.int i)) σ):WE c d ae (.Constant (.int i) k pos) σ Q X:=
 λA g s L Fr a r f b=>KN (fr r f (.Oh _ _) h)
theorem fV(h:Q (.ab .none) σ):WE c d ae (.Constant .none k pos) σ Q X:=
 λA g s L Fr a r f b=>wpAny_Constant_none (bZ.Oi r f .none h)
theorem jE(h:Q (.ab (.bool b)) σ):WE c d ae (.Constant (.bool b) k pos) σ Q X:=
 λA g s L Fr a r f e=>F1 (bZ.Oi r f (.Oz _) h)
theorem b8(h:Q (.ab (.str x)) σ)(a:BR x=u:=by decide+kernel):WE c d ae (.Constant (.str x) k pos) σ Q X:=
 λA g s L Fr b r f e=>Fk (fr r f (.Ov _ _ a) h)
variable{Fr:M}
theorem WT.NZ{cE:fb b9 aO}{t:E6->FB aO}{Q:b9->V->Prop}(h:WT cE c d ae t σ Q X){env:E6}
  (i:dq c A d)(r:aA c g σ s)(f:bd c ae.aG L g σ s)(a:ae.Ok c σ.aa)(j:ae.N3 g.a L Fr=env){K:aO->BN->Prop}
  (k:∀b bg σ₁ ax v,aF c (cy L) g σ s bg σ₁ ax->aA c bg σ₁ ax->bd c ae.aG L bg σ₁ ax->ae.Ok c σ₁.aa->ae.N3 bg.a L Fr=env->cE c ax.heap bg.F bg.a σ₁.aa b v->Q b σ₁->K v ax)
  (e:∀v s',PX ⟨c,ae.aG,L⟩ g σ s X v s'->E v s'):B9 c.NU A (t env) K E s:=by
 subst j;exact CB (h A g s L Fr i r f a) (λv s' l=>by obtain⟨b,am,σ',h1,h2,m,n,o⟩:=l;exact k b am σ' s' v h1 h2 m (a.be h1.aa) (a.Pi h1.r L Fr) n o) e
noncomputable def e2(cE:fb b9 aO)(c:Cx)(d:Nat)(f:Z->FB aO)(a:Y)(σ:V)(Q:b9->V->Prop)(X:AX->V->Prop):Prop:=
 ∀A g s names L bl,dq c A d->aA c g σ s->bd c names L g σ s->a8 c s.heap g.F g.a σ.aa a bl->B9 c.NU A (f bl) (bZ cE ⟨c,names,L⟩ g σ s Q) (PX ⟨c,names,L⟩ g σ s X) s
noncomputable def co(cE:fb b9 aO)(c:Cx)(d:Nat)(f:Z->Z->FB aO)(a b:Y)(σ:V)(Q:b9->V->Prop)(X:AX->V->Prop):Prop:=
 ∀A g s names L bl e,dq c A d->aA c g σ s->bd c names L g σ s->a8 c s.heap g.F g.a σ.aa a bl->a8 c s.heap g.F g.a σ.aa b e->B9 c.NU A (f bl e) (bZ cE ⟨c,names,L⟩ g σ s Q) (PX ⟨c,names,L⟩ g σ s X) s
variable{bl:Z}
theorem e2.NZ{cE:fb b9 aO}{t:Z->FB aO}{Q:b9->V->Prop}(h:e2 cE c d t a σ Q X){names:List O}
  (i:dq c A d)(r:aA c g σ s)(f:bd c names L g σ s)(j:a8 c s.heap g.F g.a σ.aa a bl){K:aO->BN->Prop}
  (k:∀b bg σ₁ ax v,aF c (cy L) g σ s bg σ₁ ax->aA c bg σ₁ ax->bd c names L bg σ₁ ax->cE c ax.heap bg.F bg.a σ₁.aa b v->Q b σ₁->K v ax)
  (e:∀v s',PX ⟨c,names,L⟩ g σ s X v s'->E v s'):B9 c.NU A (t bl) K E s:=
 CB (h A g s names L bl i r f j) (λv s' l=>by obtain⟨b,am,σ',h1,h2,m,n,o⟩:=l;exact k b am σ' s' v h1 h2 m n o) e
theorem co.NZ{cE:fb b9 aO}{t:Z->Z->FB aO}{b:Y}{Q:b9->V->Prop}(h:co cE c d t a b σ Q X){names:List O}{i:Z}
  (j:dq c A d)(r:aA c g σ s)(f:bd c names L g σ s)(l:a8 c s.heap g.F g.a σ.aa a bl)(m:a8 c s.heap g.F g.a σ.aa b i){K:aO->BN->Prop}
  (k:∀b bg σ₁ ax v,aF c (cy L) g σ s bg σ₁ ax->aA c bg σ₁ ax->bd c names L bg σ₁ ax->cE c ax.heap bg.F bg.a σ₁.aa b v->Q b σ₁->K v ax)
  (e:∀v s',PX ⟨c,names,L⟩ g σ s X v s'->E v s'):B9 c.NU A (t bl i) K E s:=
 CB (h A g s names L bl i j r f l m) (λv s' n=>by obtain⟨b,am,σ',h1,h2,o,p,q⟩:=n;exact k b am σ' s' v h1 h2 o p q) e
theorem aF.Ou(x:aF c T g σ s am σ' s')(h:a8 c s.heap g.F g.a σ.aa a v):a8 c s'.heap am.F am.a σ'.aa a v:=h.be x.p x.r x.aa
theorem aF.OH(x:aF c T g σ s am σ' s'){a:List Y}{v:List Z}(h:bA c s.heap g.F g.a σ.aa a v):bA c s'.heap am.F am.a σ'.aa a v:=h.be x.p x.r x.aa
noncomputable def y0(c:Cx)(d:Nat)(f:Z->Z->FB Z)(a:Y)(Q:Y->V->Prop)(X:AX->V->Prop):Y->V->Prop:=λb σ=>co rV c d f a b σ Q X
noncomputable def mY(c:Cx)(d:Nat)(ae:bB)(r:CQ)(f:Z->Z->FB Z)(Q:Y->V->Prop)(X:AX->V->Prop):Y->V->Prop:=λa σ=>WE c d ae r σ (y0 c d f a Q X) X
inductive uf(Q:Bool->V->Prop)(v:Y)(σ:V):Prop
 |mk:∀b,v=.ab (.bool b)->Q b σ->uf Q v σ
noncomputable def u9(Q:Bool->V->Prop):Bool->V->Prop:=λb σ=>Q (!b) σ
structure ux(c:Cx)(d:Nat)(ae:bB)(xs:List CQ)(pos:FH)(Q:Bool->V->Prop)(X:AX->V->Prop)(b:Bool)(σ:V):Prop where
 hr:(b=u->WB c d ae (.BoolOp .And xs pos) σ Q X)
 aP:(b=BQ->Q BQ σ)
structure zl(c:Cx)(d:Nat)(ae:bB)(xs:List CQ)(pos:FH)(Q:Bool->V->Prop)(X:AX->V->Prop)(b:Bool)(σ:V):Prop where
 hr:(b=BQ->WB c d ae (.BoolOp .Or xs pos) σ Q X)
 aP:(b=u->Q u σ)
noncomputable def wS(c:Cx)(d:Nat)(Q:Bool->V->Prop)(X:AX->V->Prop):Y->V->Prop:=λa σ=>e2 hX c d Hc a σ Q X
structure yw(c:Cx)(d:Nat)(ae:bB)(b o:CQ)(Q:Y->V->Prop)(X:AX->V->Prop)(q:Bool)(σ:V):Prop where
 hr:(q=u->WE c d ae b σ Q X)
 aP:(q=BQ->WE c d ae o σ Q X)
noncomputable def tm(c:Cx)(d:Nat)(f:Z->FB Z)(Q:Y->V->Prop)(X:AX->V->Prop):Y->V->Prop:=λa σ=>e2 rV c d f a σ Q X
noncomputable def ky(c:Cx)(d:Nat)(ae:bB)(bs:List DZ)(Q:bY->V->Prop)(X:AX->V->Prop):bY->V->Prop:=λa σ=>match a with| .aa=>WS c d ae bs σ Q X| .eQ=>Q .eQ σ| .eY=>Q .eY σ| .c0 v=>Q (.c0 v) σ
structure vS(c:Cx)(d:Nat)(ae:bB)(b o:List DZ)(Q:bY->V->Prop)(X:AX->V->Prop)(q:Bool)(σ:V):Prop where
 hr:(q=u->WS c d ae b σ Q X)
 aP:(q=BQ->WS c d ae o σ Q X)
noncomputable def oP(Q:bY->V->Prop):Y->V->Prop:=λv σ=>Q (.c0 v) σ
variable{l r:CQ}{op:Operator}
theorem b4(h:WE c d ae l σ (mY c d ae r (EU op) Q X) X):WE c d ae (.BinOp l op r pos) σ Q X:=
 λA g s L Fr i r f m=>MH (WT.NZ h i r f m R (λa bg σ₁ ax bl j n o p q t w=>WT.NZ w i n o p q (λb S T W ac k z B ah ai C D=>
  co.NZ D i z B (k.Ou t) C (λx E F am v G I K N P=>⟨x,E,F,(j.NT k).NT G,I,K,N,P⟩) λe e y=>PX.NT (j.NT k) y) λe e y=>PX.NT j y) λe e y=>y)
theorem ks{op:CmpOp}(h:WE c d ae l σ (mY c d ae r (CC op) Q X) X)(m:Mq op r=BQ:=by with_unfolding_all rfl):
  WE c d ae (.Compare l [op] [r] pos) σ Q X:=
 λA g s L Fr i r f n=>Ma (WT.NZ h i r f n R (λa bg σ₁ ax bl j o p q t w z=>WT.NZ z i o p q t (λb T W ac ah k B C ai am D E=>
  co.NZ E i B C (k.Ou w) D (λx F G an v I K N P S=>⟨x,F,G,(j.NT k).NT I,K,N,P,S⟩) λe e y=>PX.NT (j.NT k) y) λe e y=>PX.NT j y) λe e y=>y) m
variable{Q:Bool->V->Prop}
theorem ca{op:CmpOp}(h:WE c d ae l σ (mY c d ae r (CC op) (uf Q) X) X)
  (t:Mq op r=BQ:=by with_unfolding_all rfl):WB c d ae (.Compare l [op] [r] pos) σ Q X:=
 λA g s L Fr j r f w=>J5 (WT.NZ h j r f w R (λa bg σ₁ ax bl k z B C D E F=>WT.NZ F j z B C D (λb ah ai am an m G I ao ap K N=>
  co.NZ N j G I (m.Ou E) K (λx n p P v S T W ac o=>by
   obtain⟨q,e,o⟩:=o;refine U (a8.Qn (show a8 c P.heap n.F n.a p.aa (.ab (.bool q)) v from e▸ac)) ?_;exact KX ⟨q,n,p,(k.NT m).NT S,T,W,R,o⟩) λi i y=>PX.NT (k.NT m) y) λi i y=>PX.NT k y) λi i y=>y) t
theorem pO{x:CQ}(h:WB c d ae x σ (u9 Q) X):WB c d ae (.UnaryOp .Not x pos) σ Q X:=
 λA g s L Fr b r f e=>isTrue_not (WT.NZ h b r f e R (λa bg σ₁ ax bl i j k o p l m=>⟨_,bg,σ₁,i,j,k,congrArg _ l,m⟩) λn n y=>y)
variable{xs:List CQ}{pos':FH}
theorem kW{x:CQ}(h:WB c d ae x σ (ux c d ae xs pos' Q X) X):WB c d ae (.BoolOp .And (x::xs) pos) σ Q X:=by
 intro A g s L Fr k r f o;refine(?_:B9 c.NU A (IR .And (x::xs) _) _ _ s)
 have e:IR .And (x::xs) (ae.N3 g.a L Fr)=(do match BoolOp.And,←It x (ae.N3 g.a L Fr) (EJ x (ae.N3 g.a L Fr))with
  | .And,BQ=>CV BQ
  | .Or,u=>CV u
  |_,_=>IR .And xs (ae.N3 g.a L Fr)):=R
 refine U e<|wpAny_bind (WT.NZ h k r f o R (λb bg σ₁ ax bl a l m p q i n=>?_) λj j y=>y);have i:b=bl:=i;subst i
 cases b with
 |false=>exact BW ⟨BQ,bg,σ₁,a,l,m,R,n.2 R⟩
 |true=>exact WT.NZ (n.1 R) k l m p q (λb t v E F w z B G I C D=>⟨b,t,v,a.NT w,z,B,C,D⟩) λj j y=>PX.NT a y
theorem rn(h:Q u σ):WB c d ae (.BoolOp .And [] pos) σ Q X:=λA g s L Fr a r f b=>isTrue_and_nil ⟨u,g,σ,.N6 ..,r,f,R,h⟩
theorem hG{x:CQ}(h:WB c d ae x σ (zl c d ae xs pos' Q X) X):WB c d ae (.BoolOp .Or (x::xs) pos) σ Q X:=by
 intro A g s L Fr k r f o;refine(?_:B9 c.NU A (IR .Or (x::xs) _) _ _ s)
 have e:IR .Or (x::xs) (ae.N3 g.a L Fr)=(do match BoolOp.Or,←It x (ae.N3 g.a L Fr) (EJ x (ae.N3 g.a L Fr))with
  | .And,BQ=>CV BQ
  | .Or,u=>CV u
  |_,_=>IR .Or xs (ae.N3 g.a L Fr)):=R
 refine U e<|wpAny_bind (WT.NZ h k r f o R (λb bg σ₁ ax bl a l m p q i n=>?_) λj j y=>y);have i:b=bl:=i;subst i
 cases b with
 |true=>exact BW ⟨u,bg,σ₁,a,l,m,R,n.2 R⟩
 |false=>exact WT.NZ (n.1 R) k l m p q (λb t v E F w z B G I C D=>⟨b,t,v,a.NT w,z,B,C,D⟩) λj j y=>PX.NT a y
theorem kQ(h:Q BQ σ):WB c d ae (.BoolOp .Or [] pos) σ Q X:=λA g s L Fr a r f b=>BW ⟨BQ,g,σ,.N6 ..,r,f,R,h⟩
variable{e:CQ}
theorem gN(h:WE c d ae e σ (wS c d Q X) X)(m:(λenv i=>It e env i)=(λenv i=>(do let v ←i;F6 e.pos;GT [v] (Hc v))):=by rfl):WB c d ae e σ Q X:=
 λA g s L Fr k r f n=>HL (WT.NZ h k r f n R (λa bg σ₁ ax bl l o p F G q t=>e2.NZ t k o p q (λb w x I K z B C D E=>⟨b,w,x,l.NT z,B,C,D,E⟩) λj j y=>PX.NT l y) λj j y=>y) (congrFun (congrFun m _) _)
variable{Q:Y->V->Prop}
theorem hN{t b o:CQ}(h:WB c d ae t σ (yw c d ae b o Q X) X):WE c d ae (.IfExp t b o pos) σ Q X:=
 λA g s L Fr i r f E=>wpAny_IfExp (WT.NZ h i r f E R (λq bg σ₁ ax bl e x z B C j D=>by
  have j:q=bl:=j;subst j
  cases q with
  |true=>exact WT.NZ (D.1 R) i x z B C (λb k l F G m n p I K v w=>⟨b,k,l,e.NT m,n,p,v,w⟩) λa a y=>PX.NT e y
  |false=>exact WT.NZ (D.2 R) i x z B C (λb k l F G m n p I K v w=>⟨b,k,l,e.NT m,n,p,v,w⟩) λa a y=>PX.NT e y) λa a y=>y)
theorem lj{op:UnaryOp}{x:CQ}(h:WE c d ae x σ (tm c d (unaryOp op) Q X) X):WE c d ae (.UnaryOp op x pos) σ Q X:=
 λA g s L Fr i r f k=>wpAny_UnaryOp (WT.NZ h i r f k R (λa bg σ₁ ax bl j l m C D n o=>e2.NZ o i l m n (λb p q E F t v w z B=>⟨b,p,q,j.NT t,v,w,z,B⟩) λe e y=>PX.NT j y) λe e y=>y)
variable{Q:bY->V->Prop}
theorem bJ(h:Q .aa σ):WS c d ae [] σ Q X:=λA g s L Fr a r f b=>EK ⟨.aa,g,σ,.N6 ..,r,f,.aa,h⟩
theorem aQ{b:DZ}{bs:List DZ}(h:eK c d ae b σ (ky c d ae bs Q X) X):WS c d ae (b::bs) σ Q X:=
 λA g s L Fr l r f m=>Ld (WT.NZ h l r f m R (λC bg σ₁ ax bl a e i n o p j=>by
  cases p with
  |aa=>exact WT.NZ j l e i n o (λb q t D E v w x F G z B=>⟨b,q,t,a.NT v,w,x,z,B⟩) λk k y=>PX.NT a y
  |eQ=>exact⟨.eQ,bg,σ₁,a,e,i,.eQ,j⟩
  |eY=>exact⟨.eY,bg,σ₁,a,e,i,.eY,j⟩
  |c0 hv=>exact⟨.c0 _,bg,σ₁,a,e,i,.c0 hv,j⟩) λk k y=>y)
variable{t:CQ}
theorem cU{b o:List DZ}(h:WB c d ae t σ (vS c d ae b o Q X) X):eK c d ae (.If t b o pos) σ Q X:=
 λA g s L Fr i r f E=>wpAny_If (WT.NZ h i r f E R (λq bg σ₁ ax bl e x z B C j D=>by
  have j:q=bl:=j;subst j
  cases q with
  |true=>exact WT.NZ (D.1 R) i x z B C (λb k l F G m n p I K v w=>⟨b,k,l,e.NT m,n,p,v,w⟩) λa a y=>PX.NT e y
  |false=>exact WT.NZ (D.2 R) i x z B C (λb k l F G m n p I K v w=>⟨b,k,l,e.NT m,n,p,v,w⟩) λa a y=>PX.NT e y) λa a y=>y)
theorem ej(h:WE c d ae e σ (oP Q) X):eK c d ae (.Return (H e) pos) σ Q X:=
 λA g s L Fr b r f i=>KY (WT.NZ h b r f i R (λa bg σ₁ ax bl j k l p q m n=>⟨.c0 a,bg,σ₁,j,k,l,.c0 m,n⟩) λo o y=>y)
theorem y3(h:Q .eQ σ):eK c d ae (.Break pos) σ Q X:=λA g s L Fr a r f b=>wpAny_Break ⟨.eQ,g,σ,.N6 ..,r,f,.eQ,h⟩
theorem yg(h:Q .eY σ):eK c d ae (.Continue pos) σ Q X:=λA g s L Fr a r f b=>wpAny_Continue ⟨.eY,g,σ,.N6 ..,r,f,.eY,h⟩
structure ql(P:CG->Prop):Prop where
 a5:∀h o,P h->P (h.push o)
 cu:∀(h:CG)a f,(h.get? a).isSome->P h->P (h.update a f)
section
variable{P:CG->Prop}(jk:ql P)
include jk
set_option tactic.hygienic true in
theorem qi{ck:F0}{d:Ctx}{p:FH}{t:FB Lp}{cF:List LZ}{e:End}(h:Runs ck d p t cF s e s'):P s.heap->P s'.heap:=by
 induction h with
 |update f _ c=>exactλai=>c (jk.cu _ _ _ f ai)
 |alloc _ c=>exactλai=>c (jk.a5 _ _ ai)
 |call _ _ a b=>exactλai=>b (a ai)
 |resumeFresh _ _ _ _ a b=>exactλai=>b (a ai)
 |resumeSuspended _ _ _ _ a b=>exactλai=>b (a ai)
 |segRet _ _ a b=>exactλai=>b (a ai)
 |segGen _ _ a b=>exactλai=>b (a ai)
 |segSuspGen _ _ _ _ a b=>exactλai=>b (a ai)
 |_=>first|exactλai=>ai|(rename_i c;exactλai=>c ai)
theorem yv{ck:F0}{d:Ctx}{p:FH}{g:Nat}{r:Resume}{e:GenResult}(h:Wakes ck d p g r s e s')(ai:P s.heap):P s'.heap:=by
 unfold Wakes at h
 cases b:s.gens[g]? with
 |none=>rw[b]at h;exact h.elim
 |some f=>
  rw[b]at h
  cases f with
  |fresh c=>
   cases r with
   |throw x=>exact U h.2 ai
   |send v=>
    cases v with
    |none=>
     obtain⟨i,ax,a,_,_,rfl⟩:=h
     exact(qi jk a (show P (s.setGen g .running).heap from ai):P ax.heap)
    |_=>exact U h.2 ai
  |suspended j _ k l cF _=>
   obtain⟨i,ax,a,_,_,rfl⟩:=h
   exact(qi jk a (show P (s.setGen g .running).heap from ai):P ax.heap)
  |_=>exact U h.2 ai
theorem Ai(ck:F0)(n:Ctx)(t:FB aO):∀(Q:aO->FH->BN->Prop)(E:Z->FH->BN->Prop)(p:FH)(s:BN),P s.heap->M6 ck n t Q E p s->
  M6 ck n t (λa l s'=>P s'.heap/\Q a l s') (λe l s'=>P s'.heap/\E e l s') p s:=by
 induction t with
 |pure a=>exactλd d d d b h=>⟨b,h⟩
 |raise e=>exactλd d d d b h=>⟨b,h⟩
 |unsupported _=>exactλd d d d d h=>h
 |finish _=>exactλd d d d d h=>h
 |register _ _=>exactλd d d d d h=>h
 |yield _ _ _ _=>exactλd d d d d h=>h
 |fork _ _=>exactλd d d d d h=>h
 |await _ _ _ _ _=>exactλd d d d d h=>h
 |rule _ k i=>exactλQ E p s b h=>i () Q E p s b h
 |«at» l k i=>exactλQ E p s b h=>i () Q E l s b h
 |load a _ k i=>exactλQ E p s b j=>by obtain⟨o,y,h⟩:=j;exact⟨o,y,i o Q E p s b h⟩
 |update a _ f k i=>exactλQ E p s b h=>⟨h.1,i () Q E p _ (jk.cu _ _ _ h.1 b) h.2⟩
 |loadIfAlive a k i=>exactλQ E p s b h=>i _ Q E p s b h
 |point _ k i=>exactλQ E p s b h=>i () Q E p s b h
 |alloc o k i=>exactλQ E p s b h=>i _ Q E p _ (jk.a5 _ _ b) h
 |fresh k i=>exactλQ E p s b h=>i _ Q E p _ b h
 |ask k i=>exactλQ E p s b h=>i _ Q E p s b h
 |choose src m k i=>exactλQ E p s b h=>⟨h.1,i _ Q E p _ b h.2⟩
 |os q _ k i=>exactλQ E p s b h=>i _ Q E p _ b h
 |call c A _ _ k i=>exactλQ E p s b j=>by obtain⟨r,s',v,h⟩:=j;exact⟨r,s',v,i r Q E p s' (qi jk v b) h⟩
 |handled B k i=>exactλQ E p s b h=>i _ Q E p s b h
 |genState g k i=>exactλQ E p s b j=>by obtain⟨st,z,h⟩:=j;exact⟨st,z,i _ Q E p s b h⟩
 |newGen c k i=>exactλQ E p s b h=>i _ Q E p _ b h
 |resume g r _ k i=>exactλQ E p s b j=>by obtain⟨w,s',x,h⟩:=j;exact⟨w,s',x,i w Q E p s' (yv jk x b) h⟩
 |stack k i=>exactλQ E p s b h=>i _ Q E p s b h
 |thread k i=>exactλQ E p s b h=>i _ Q E p s b h
theorem k9{ck:F0}{t:FB aO}{Q:aO->BN->Prop}(ai:P s.heap)
  (h:B9 ck A t (λa s'=>P s'.heap->Q a s') (λe s'=>P s'.heap->E e s') s):B9 ck A t Q E s:=
 λc p d=>Sem.wp_mono ck c t (λb b b x=>x.2 x.1) (λb b b x=>x.2 x.1) p s (Ai jk ck c t _ _ p s ai (h c p d))
end
theorem uN(n:Nat):ql λh=>n<=h.objs.size:=
 ⟨λh o b=>dH (CH ..) (Co b),λh a f c b=>dH (Ff ..) b⟩
theorem gh{ck:F0}{t:FB aO}{Q:aO->BN->Prop}
  (h:B9 ck A t (λa s'=>s.heap.objs.size<=s'.heap.objs.size->Q a s') (λe s'=>s.heap.objs.size<=s'.heap.objs.size->E e s') s):B9 ck A t Q E s:=
 k9 (uN s.heap.objs.size) (BJ _) h
noncomputable def aH(ae:bB)(x:O)(σ:V)(a:Y)(σ':V):Prop:=
 (∃k,(x,cQ.ag k)∈ae.bN/\σ'=σ.N2 k a)\/(∃i v₀,(x,cQ.ar i)∈ae.bN/\σ.NY i=H (.ar v₀)/\σ'=σ.NX i (.ar (H a)))
theorem aH.ag(h:(x,cQ.ag k)∈ae.bN):aH ae x σ a (σ.N2 k a):=.inl ⟨k,h,R⟩
theorem aH.ar{v₀:Option Y}(h:(x,cQ.ar i)∈ae.bN)(hi:σ.NY i=H (.ar v₀)):aH ae x σ a (σ.NX i (.ar (H a))):=.inr ⟨i,v₀,h,hi,R⟩
variable{K:Unit->BN->Prop}
theorem aH.O3(h:aH ae x σ a σ')(P:dq c A d)(r:aA c g σ s)(f:bd c ae.aG L g σ s)(n:ae.Ok c σ.aa)
  (z:a8 c s.heap g.F g.a σ.aa a bl){env:E6}(D:ae.N3 g.a L Fr=env)
  (k:∀s',aF c (cy L) g σ s g σ' s'->aA c g σ' s'->bd c ae.aG L g σ' s'->K () s'):B9 c.NU A (Ga env x bl) K E s:=by
 subst D;rcases h with⟨Q,t,rfl⟩|⟨i,v₀,t,hi,rfl⟩
 .obtain⟨⟨h1,h2⟩,_⟩:=n.bN _ t;obtain⟨bv,o,aT,aX,bc,cG⟩:=f.ns
  have ai:((ae.N3 g.a L Fr).scope.kind== .class||((ae.N3 g.a L Fr).scope.kind== .module&&(ae.N3 g.a L Fr).locals !=(ae.N3 g.a L Fr).globals))=BQ:=by
   exact U n.L R
  rw[G1 (env:=ae.N3 g.a L Fr) h1 ai];refine FY bc λay B w F=>?_;obtain⟨m,j⟩:=F o aT;refine A3 j λb l C=>?_;clear j;exact k _ (aF.N2 r f w R) (aA.N2 r f w R R B ⟨m,b,U l aX⟩) (f.N2 r n.OZ h2 w cG B ⟨m,b,U l aX⟩ z)
 .obtain⟨⟨h1,h2⟩,_,S⟩:=n.bN _ t
  have aL:∃o y,s.heap.get? (g.a i)=H o/\o.data=.cell y/\o.cls=.type "cell":=by
   have:=r.bh i _ hi
   cases v₀ with
   |none=>obtain⟨o,j⟩:=this;refine A3 j λb l p=>?_;clear j;exact⟨o,_,b,l,p⟩
   |some v=>obtain⟨o,y,b,l,p,_⟩:=this;exact⟨o,_,b,l,p⟩
  obtain⟨o,y,j⟩:=aL;refine A3 j λb l p=>?_;clear j;have G:=mZ g.a x _ h2
  have I:B9 c.NU A (cellSet (g.a i) (H bl)) K E s:=by
   unfold cellSet;refine BM (Fg b (U l ?_));have q:∀a m,a≠g.a i->s.heap.get? a=H m->(s.heap.update (g.a i) λo=>{o with data:=.cell (H bl)}).get? a=H m:=λa m N e=>(I0 _ _ (DN N)).trans e;have K:=r.Qf (s':={s with heap:=s.heap.update (g.a i) λo=>{o with data:=.cell (H bl)}}) hi q;exact wpAny_update b (k _ (aF.NX r hi q (CL (Ff ..).symm) R) (r.NX hi q (CL (Ff ..).symm) R R ⟨_,bl,DU _ b R,R,p,z.be K (λC C=>R) (BJ _)⟩) (f.NX r hi q))
  unfold Ga;refine U (show(ae.N3 g.a L Fr).scope.kind=.function from n.L) ?_;rcases h1 with h1|h1 <;> rw[show(ae.N3 g.a L Fr).kindOf x=_ from h1] <;> exact BM (wpAny_cellOf G I)
inductive lz(ae:bB)(x:O)(Q:bY->V->Prop)(a:Y)(σ:V):Prop
 |mk:∀σ',aH ae x σ a σ'->Q .aa σ'->lz ae x Q a σ
noncomputable def AZ(Q:bY->V->Prop):Y->V->Prop:=λa σ=>Q .aa σ
variable{d0:CQ}
theorem dh(h:WE c d ae d0 σ (lz ae x Q) X)
  (e:(λenv=>Hp d0 (H (.Name x pos')) pos.line env)=(λenv=>CV BQ):=by rfl):eK c d ae (.Assign [.Name x pos'] d0 pos) σ Q X:=
 λA g s L Fr b r f i=>EN (WT.NZ h b r f i R (λa bg σ₁ ax bl j k l m n o p=>by
  obtain⟨q,t,v⟩:=p;exact t.O3 b k l m o n λs' w z B=>⟨.aa,bg,q,j.NT w,z,B,.aa,v⟩) λC C y=>y) (congrFun e _)
theorem ki(h:WT rV c d ae (λenv=>HZ env x) σ (mY c d ae d0 (Iv op) (lz ae x Q) X) X):
  eK c d ae (.AugAssign (.Name x pos') op d0 pos) σ Q X:=
 λA g s L Fr i r f n=>wpAny_AugAssign_Name (WT.NZ h i r f n R (λa bg σ₁ ax bl j o p q t w z=>WT.NZ z i o p q t (λb ai am an ao k B C m D E F=>
  co.NZ F i B C (k.Ou w) E (λv G ap av ay l I K rv N=>by
   obtain⟨P,S,T⟩:=N;exact S.O3 i I K (m.be l.aa) rv ((m.Pi l.r _ _).trans D) λs' W ac ah=>⟨.aa,G,P,((j.NT k).NT l).NT W,ac,ah,.aa,T⟩) λe e y=>PX.NT (j.NT k) y) λe e y=>PX.NT j y) λe e y=>y)
theorem ez(h:WE c d ae e σ (AZ Q) X)
  (i:(λenv=>Hp e B2 pos.line env)=(λenv=>CV BQ):=by rfl):eK c d ae (.Expr e pos) σ Q X:=
 λA g s L Fr j r f b=>wpAny_Expr_any (WT.NZ h j r f b R (λa bg σ₁ ax bl k l m p q t n=>⟨.aa,bg,σ₁,k,l,m,.aa,n⟩) λo o y=>y) (by unfold IE;exact U (show(ae.N3 g.a L Fr).scope.kind=.function from b.L) R) (congrFun i _)
inductive fD(ae:bB):List O->V->List Y->V->Prop
 |a6 (σ:V):fD ae [] σ [] σ
 |aU {x:O} {xs:List O} {σ₀:V} {a:Y} {as:List Y} {σ₁ σ₂:V}:aH ae x σ₀ a σ₁->fD ae xs σ₁ as σ₂->fD ae (x::xs) σ₀ (a::as) σ₂
inductive l1{aO b9:Type}(p:aO->b9->Prop):List aO->List b9->Prop
 |a6:l1 p [] []
 |aU {a b as bs:_}:p a b->l1 p as bs->l1 p (a::as) (b::bs)
variable{xs:List O}
theorem fD.O3{as:List Y}(h:fD ae xs σ as σ')(i:dq c A d)(r:aA c g σ s)(f:bd c ae.aG L g σ s)(b:ae.Ok c σ.aa)
  (e:bA c s.heap g.F g.a σ.aa as vs){env:E6}(j:ae.N3 g.a L Fr=env){cF:List (Z->FB Unit)}(aJ:l1 (λx f=>∀v s(K:Unit->BN->Prop)(E:Z->BN->Prop),B9 c.NU A (Ga env x v) K E s->B9 c.NU A (f v) K E s) xs cF)
  (k:∀s',aF c (cy L) g σ s g σ' s'->aA c g σ' s'->bd c ae.aG L g σ' s'->K () s'):B9 c.NU A (assignInOrder cF vs) K E s:=by
 induction h generalizing s vs cF with
 |a6 σ=>
  cases aJ;obtain rfl:=e.OB
  exact BW (k s (.N6 ..) r f)
 |aU h1 h2 l=>
  obtain⟨eC,y,rfl,a2,bH⟩:=e.NV
  cases aJ with
  |aU m n=>
   exact BM (C2 (m _ _ _ _ (h1.O3 i r f b a2 j λax a o p=>l o p (b.be a.aa) (a.OH bH) n λs' q t w=>k s' (a.NT q) t w)))
inductive dK:Y->List Y->Prop
 |b2 {xs:_}:dK (.b2 xs) xs
 |ab {xs:List Cj}:dK (.ab (.tuple xs)) (xs.map .ab)
theorem tG{xs:List Cj}(h:Cy xs=u):∀x∈xs,x.canLay0=u:=by
 induction xs with
 |nil=>exactλc a=>nomatch a
 |cons y ys b=>
  rw[Cy,Cv]at h;exact Jl.mpr ⟨h.1,b h.2⟩
theorem jD{h:CG}{xs:List Cj}(x:C7 h vs xs as)(e:∀a∈as,F a)(b:Cy xs=u):bA c h F ρ n (xs.map .ab) vs:=by
 induction xs generalizing vs as with
 |nil=>exact U ((C4 x).1) .a6
 |cons d ds f=>
  obtain⟨_,_,_,_,rfl,rfl,h1,h2⟩:=f8 x;have b:=CK.mp b;exact .aU (.ab h1 (λa an=>e a (Ci _ an)) b.1) (f h2 (λa an=>e a (Ce _ an)) b.2)
variable{as:List Y}
theorem dK.NV(bb:dK a as){h:CG}(x:a8 c h F ρ n a v):∃t f,v=.ref t/\h.IsTuple t f/\bA c h F ρ n as f.toList:=by
 cases bb with
 |b2=>obtain⟨_,_,_,_,rfl,h1,h2,b,d⟩:=x.NV;exact⟨_,_,R,⟨_,h1,h2,_,b⟩,d⟩
 |ab=>
  obtain⟨_,r,g,i⟩:=x.NV;obtain⟨_,_,_,_,e,h1,h2,b,d⟩:=nI r;exact⟨_,_,e,⟨_,h1,h2,_,b⟩,jD d g i⟩
theorem bA.length{h:CG}(x:bA c h F ρ n as vs):as.length=vs.length:=by
 induction as generalizing vs with
 |nil=>exact U x.OB R
 |cons a as b=>obtain⟨v,aR,rfl,_,h⟩:=x.NV;exact congrArg (·+1) (b h)
theorem fD.length(h:fD ae xs σ as σ'):xs.length=as.length:=by
 induction h with
 |a6=>rfl
 |aU _ _ a=>exact congrArg (·+1) a
theorem uc{x:aO}{P:Prop}(h:B2=H x):P:=nomatch h
theorem AU(h:JG e=H x):∃p,e=.Name x p:=by
 cases e with
 |Name y p=>exact⟨p,congrArg (Expr.Name · p) (CO h)⟩
 |_=>exact uc h
variable{eH:List CQ}
theorem uH{env:E6}(h:eH.map JG=xs.map H):
  (GV eH env).findIdx? (·.1)=B2/\(GV eH env).length=xs.length/\l1 (λx f=>∀v s(K:Unit->BN->Prop)(E:Z->BN->Prop),B9 c.NU A (Ga env x v) K E s->B9 c.NU A (f v) K E s) xs ((GV eH env).map (·.2)):=by
 induction eH generalizing xs with
 |nil=>cases xs with
  |nil=>exact⟨R,R,.a6⟩
  |cons _ _=>cases h
 |cons e bS a=>cases xs with
  |nil=>cases h
  |cons x xs=>
   simp only[CR,MC]at h;obtain⟨h1,h2⟩:=h;refine A3 (a h2) λaT aX bc=>?_;obtain⟨p,rfl⟩:=AU h1;have e:GV (.Name x p::bS) env=(BQ,Gf (.Name x p) env)::GV bS env:=R;refine U e<|⟨?_,congrArg (·+1) aX,.aU (λv s K E b=>Gy b) bc⟩;refine BK List.findIdx?_cons ?_;simp[aT]
theorem qn(m:eH.map JG=xs.map H)(bb:dK a as)(h:fD ae xs σ as σ')
  (i:dq c A d)(r:aA c g σ s)(f:bd c ae.aG L g σ s)(n:ae.Ok c σ.aa)(p:a8 c s.heap g.F g.a σ.aa a bl){env:E6}(q:ae.N3 g.a L Fr=env)
  (v:∀s',aF c (cy L) g σ s g σ' s'->aA c g σ' s'->bd c ae.aG L g σ' s'->K () s'):B9 c.NU A (Gf (.Tuple eH k pos) env bl) K E s:=by
 obtain⟨t,w,rfl,ao,hi⟩:=bb.NV p;refine A3 (uH (c:=c) (A:=A) (env:=env) m) λaT aX bc=>?_;have x:(GV eH env).length=w.size:=BK aX (BK h.length (BK hi.length Cq));refine BM (C6 ?_);unfold unpack;refine U x (U aT (BM (C2 (gh (wpAny_unpackItems_tuple i.G ao λay y j=>?_)))));have dy:=λb o e=>y b o (BZ (Ca e)) e;have l:aF c (cy L) g σ s g σ {s with heap:=ay}:=(aF.N6 ..).Oc dy j R;exact fD.O3 h i (r.Oc dy j R R) (f.Oc dy) n (l.OH hi) q bc λs' z B C=>v s' (l.NT z) B C
mutual
noncomputable def Y.ren(φ:Nat->Nat):Y->Y
 | .ab d=>.ab d
 | .aP i=>.aP (φ i)
 | .bT v=>.bT v
 | .bh C j=>.bh C (φ j)
 | .ed L cells=>.ed L (cells.map λq=>(q.1,φ q.2))
 | .b2 xs=>.b2 (Y.Q6 φ xs)
 | .fv n=>.fv n
 | .c5 kvs=>.c5 kvs
 | .dN f s=>.dN f (s.ren φ)
 | .gJ T=>.gJ T
noncomputable def Y.Q6(φ:Nat->Nat):List Y->List Y
 |[]=>[]
 |x::xs=>x.ren φ::Y.Q6 φ xs
end
mutual
noncomputable def Y.low(k:Nat):Y->Bool
 | .ab d=>u
 | .aP i=>decide (i<k)
 | .bT v=>u
 | .bh C j=>decide (j<k)
 | .ed L cells=>cells.all λq=>decide (q.2<k)
 | .b2 xs=>Y.PN k xs
 | .fv n=>u
 | .c5 kvs=>u
 | .dN f s=>s.low k
 | .gJ T=>u
noncomputable def Y.PN(k:Nat):List Y->Bool
 |[]=>u
 |x::xs=>x.low k&&Y.PN k xs
end
noncomputable def bL.ren(φ:Nat->Nat):bL->bL
 | .aN xs=>.aN xs
 | .ev xs=>.ev (Y.Q6 φ xs)
 | .ns names log=>.ns names (log.map λp=>(p.1,p.2.ren φ))
 | .ar v=>.ar (v.map (Y.ren φ))
 | .fH L cells d=>.fH L (cells.map λq=>(q.1,φ q.2)) (d.map φ)
 | .fI f b=>.fI (f.ren φ) b
noncomputable def bL.low(k:Nat):bL->Bool
 | .aN xs=>u
 | .ev xs=>Y.PN k xs
 | .ns names log=>log.all λp=>p.2.low k
 | .ar B2=>u
 | .ar (H v)=>v.low k
 | .fH L cells d=>cells.all (λq=>decide (q.2<k))&&d.all λj=>decide (j<k)
 | .fI f b=>f.low k
theorem si(f:aO->b9):∀(l:List (Nat×aO))(i:Nat),J (l.map λp=>(p.1,f p.2)) i=(J l i).map f:=by
 intro r
 induction r with
 |nil=>
  intro _
  exact R
 |cons b r c=>
  obtain⟨j,a⟩:=b;intro i;refine(?_:(if i=j then H (f a)else J (r.map λp=>(p.1,f p.2)) i)=K1 f (if i=j then H a else J r i))
  by_cases h:i=j
  .exact BK (if_pos h) (U (if_pos h) R)
  .exact BK (if_neg h) (U (if_neg h) (c i))
theorem q8:∀{l:List (Nat×aO)}{i:Nat}{a:aO},J l i=H a->(i,a)∈l:=by
 intro r
 induction r with
 |nil=>
  intro _ _ h
  cases h
 |cons c r d=>
  obtain⟨j,b⟩:=c;intro i a h;rw[de]at h
  by_cases e:i=j
  .replace h:=(if_pos e).symm.trans h;cases h;subst e;exact .head _
  .replace h:=(if_neg e).symm.trans h;exact .tail _ (d h)
section
variable{h:CG}{F:M->Prop}{ρ dx:Nat->M}{n k:Nat}{φ:Nat->Nat}
theorem qA(e:∀i,i<k->dx (φ i)=ρ i):∀{a9:List (O×Nat)},(∀q∈a9,q.2<k)->dZ dx (a9.map λq=>(q.1,φ q.2))=dZ ρ a9:=by
 intro a9
 induction a9 with
 |nil=>
  intro _
  exact R
 |cons q a9 b=>
  intro a;refine(?_:(q.1,dx (φ q.2))::dZ dx (a9.map λq=>(q.1,φ q.2))=(q.1,ρ q.2)::dZ ρ a9);exact U (e _ (a q (.head _))) (U (b λc ay=>a c (.tail _ ay)) R)
theorem f9.ren(e:∀i,i<k->dx (φ i)=ρ i){o:Ge}{L:fO}{cells:List (O×Nat)}(aL:∀q∈cells,q.2<k):f9 h F dx o L (cells.map λq=>(q.1,φ q.2))↔f9 h F ρ o L cells:=by
 constructor
 .intro x;obtain⟨h1,a,b,c,d,h2,z⟩:=x;exact⟨h1,a,b,c,d,br (qA e aL) h2,_,_,_,_,‹_›,‹_›,‹_›,‹_›,‹_›⟩
 .intro x;obtain⟨h1,a,b,c,d,h2,z⟩:=x;exact⟨h1,a,b,c,d,U (qA e aL) h2,_,_,_,_,‹_›,‹_›,‹_›,‹_›,‹_›⟩
theorem a8.PW(e:∀i,i<k->dx (φ i)=ρ i):∀{v:Z},a8 c h F dx n (a.ren φ) v->a.low k=u->a8 c h F ρ k a v:=by
 refine @Y.rec (λa=>∀{v:Z},a8 c h F dx n (a.ren φ) v->a.low k=u->a8 c h F ρ k a v) (λas=>∀{vs:List Z},bA c h F dx n (Y.Q6 φ as) vs->Y.PN k as=u->bA c h F ρ k as vs) ?_ ?_ ?_ ?_ ?_ ?_ ?_ ?_ ?_ ?_ ?_ ?_ a
 .intro d v x _;obtain⟨_,h1,h2,b⟩:=x.NV;exact .ab h1 h2 b
 .intro i v x ac;have hi:=of_decide_eq_true ac;obtain⟨rfl,_⟩:=x.NV;exact U (e i hi) (.aP hi)
 .intro w v x _;exact U (show v=w from x.NV) .bT
 .intro C j v x ac;have hi:=of_decide_eq_true ac;obtain⟨_,_,rfl,h1,h2,b,g,l,o⟩:=x.NV;exact .bh h1 h2 b (br (e j hi) g) l hi
 .intro L cells v x ac;have hi:=λq p=>of_decide_eq_true (Cn.mp ac q p);obtain⟨_,_,rfl,h1,h2,b,g,l⟩:=x.NV;exact .ed h1 h2 b ((f9.ren e hi).mp g) hi
 .intro xs m v x ac;obtain⟨_,_,_,_,rfl,h1,h2,b,g⟩:=x.NV;exact .b2 h1 h2 b (m g ac)
 .intro n v x _;obtain⟨_,_,_,_,rfl,h1,h2⟩:=x.NV;exact .fv h1 h2
 .intro kvs v x _;obtain⟨_,_,_,rfl,h1,h2,b,g,l,o,r⟩:=x.NV;exact .c5 h1 h2 b g l o r
 .intro f s m v x ac;obtain⟨_,_,rfl,h1,h2,b⟩:=x.NV;exact .dN h1 h2 (m b ac)
 .intro T v x ac;obtain⟨_,_,rfl,h1,h2,b⟩:=x.NV;exact .gJ h1 h2 b
 .intro vs x _;exact U x.OB .a6
 .intro a as t y vs x ac;rw[Y.PN,Cv]at ac;obtain⟨v,aR,rfl,h1,h2⟩:=x.NV;exact .aU (t h1 ac.1) (y h2 ac.2)
theorem bA.PW(e:∀i,i<k->dx (φ i)=ρ i)(x:bA c h F dx n (Y.Q6 φ as) vs)(ac:Y.PN k as=u):bA c h F ρ k as vs:=by
 induction as generalizing vs with
 |nil=>exact U x.OB .a6
 |cons a as b=>
  rw[Y.PN,Cv]at ac;obtain⟨v,aR,rfl,h1,h2⟩:=x.NV;exact .aU (h1.PW e ac.1) (b h2 ac.2)
theorem eW.PW(e:∀i,i<k->dx (φ i)=ρ i){a:M}{o:bL}(x:eW c h F dx n a (o.ren φ))(ac:o.low k=u):eW c h F ρ k a o:=by
 cases o with
 |aN xs=>exact x
 |ev xs=>obtain⟨o,vs,j,h1,h2,l,g⟩:=x;exact⟨o,vs,j,h1,h2,l,g.PW e ac⟩
 |ns names log=>
  obtain⟨y,o,bv,h1,h2,l,g,r,t⟩:=x;refine⟨y,o,bv,h1,h2,l,g,λj v m=>?_,λj x z m=>t j x z (BK (si ..) (U m R))⟩;obtain⟨x,w,aT,aX,bc⟩:=r j (v.ren φ) (BK (si ..) (U m R))
  exact⟨x,w,aT,aX,bc.PW e (Cn.mp (show(log.all λp=>p.2.low k)=u from ac) _ (q8 m))⟩
 |ar v=>cases v with
  |none=>exact x
  |some v=>obtain⟨o,w,h1,h2,l,g⟩:=x;exact⟨o,w,h1,h2,l,g.PW e ac⟩
 |fH L cells d=>
  obtain⟨o,h1,h2,l,g,r⟩:=x;have ac:(cells.all (λq=>decide (q.2<k))&&d.all λj=>decide (j<k))=u:=ac;rw[Cv]at ac;have aL:∀q∈cells,q.2<k:=by simpa using ac.1
  have s:∀j∈d,j<k:=by
   intro j m
   cases d with
   |none=>cases m
   |some E=>cases m;simpa using ac.2
  refine⟨o,h1,(f9.ren e aL).mp h2,aL,?_,s⟩;refine BK g ?_
  cases d with
  |none=>rfl
  |some j=>exact congrArg H (e j (s j R))
 |fI f b=>obtain⟨o,vs,A,h1,h2,l,g,r,t,B,C,D⟩:=x;exact⟨o,vs,A,h1,h2,l,g,r,t,λs=>(B s).PW e ac,C,D⟩
end
noncomputable def e6:M->Prop:=λa=>False
inductive PH{b9 aO:Type}(cE:fb b9 aO)(c:Cx)(g:Gh)(σ:V)(s:BN)(Q:b9->V->Prop)(v:aO)(s':BN):Prop
 |mk:∀b am σ',aF c e6 g σ s am σ' s'->aA c am σ' s'->cE c s'.heap am.F am.a σ'.aa b v->Q b σ'->PH cE c g σ s Q v s'
inductive lY(c:Cx)(g:Gh)(σ:V)(s:BN)(X:AX->V->Prop)(v:Z)(s':BN):Prop
 |mk:∀x am σ',aF c e6 g σ s am σ' s'->aA c am σ' s'->hR s'.heap s.heap.objs.size am σ' x v->X x σ'->lY c g σ s X v s'
noncomputable def WH(cE:fb b9 aO)(c:Cx)(d:Nat)(f:List Z->FB aO)(as:List Y)(σ:V)(Q:b9->V->Prop)(X:AX->V->Prop):Prop:=
 ∀A g s vs,dq c A d->aA c g σ s->bA c s.heap g.F g.a σ.aa as vs->B9 c.NU A (f vs) (PH cE c g σ s Q) (lY c g σ s X) s
theorem aF.PV{names:List O}(st:aF c e6 g σ s am σ' s')(r:aA c g σ s)(f:bd c names L g σ s)(m:σ'.ag=σ.ag):bd c names L am σ' s':=by
 obtain⟨bv,o,h1,h2,n,p⟩:=f.ns;have q:¬c.N9 L:=λh=>absurd (r.t L h) (BP.mpr f.low)
 have d:∃j,s'.heap.get? L=H {o with slots:=j}:=by
  by_cases l:L∈c.bE
  .exact st.bE L o l (λh=>h) h1
  .exact⟨o.slots,st.bM L o h1 f.bm (λh=>h) q l⟩
 obtain⟨j,d⟩:=d
 have t:s'.heap.Ns1 L bv:=by
  obtain⟨A,bS,w,i,y⟩:=n;replace i:=h1.symm.trans i;cases i;exact⟨_,bS,w,d,y⟩
 refine⟨f.low,λh=>?_,λh=>?_,bv,_,d,h2,t,λk v hv=>?_⟩
 .rcases st.bm L h with h|h
  .exact f.bm h
  .exact absurd (Ca h1) (BP.mpr h)
 .rcases st.aK L h with h|h|h
  .exact f.aK h
  .exact absurd (Ca h1) (BP.mpr h)
  .exact f.bm h
 .rw[m]at hv;obtain⟨x,z,a,b,e⟩:=p k v hv;exact⟨x,z,a,b,st.Ou e⟩
noncomputable def fs(n:Nat):List (O×Gi)->List (O×Nat)->List (O×Nat)
 |[],ba=>ba
 |(x,k)::r,ba=>if k== .cell then fs (n+1) r ((x,n)::ba)else fs n r ba
noncomputable def V.b0:List (O×Gi)->V->V
 |[],σ=>σ
 |(x,k)::r,σ=>if k== .cell then V.b0 r (σ.N0 (.ar B2))else V.b0 r σ
theorem aF.QV(x:aF c (cy L) g σ s am σ' s')(h:s.heap.objs.size<=L):aF c e6 g σ s am σ' s':=
 {x with bM:=λa o e b d f=>x.bM a o e b (λq=>by rw[q]at e;exact absurd (Ca e) (BP.mpr h)) f,bE:=λa o i d e=>x.bE a o i (λq=>by rw[q]at e;exact absurd (Ca e) (BP.mpr h)) e}
theorem w0{names:List O}{f:O×Gi->List (O×M)->FB (ForInStep (List (O×M)))}
  (aJ:∀bj n cells,f (bj,n) cells=if n== .cell then(do let a ←alloc {cls:=.type "cell",data:=.cell B2};CV (.yield ((bj,a)::cells)))else CV (.yield cells))
  (ns:List (O×Gi))(ba:List (O×Nat)){Q:List (O×M)->BN->Prop}(i:∀q∈ba,q.2<σ.aa)(r:aA c g σ s)(j:bd c names L g σ s)
   (h:∀am s',aF c e6 g σ s am (σ.b0 ns) s'->aA c am (σ.b0 ns) s'->bd c names L am (σ.b0 ns) s'->(∀q∈fs σ.aa ns ba,q.2<(σ.b0 ns).aa)->Q (dZ am.a (fs σ.aa ns ba)) s'):
   B9 c.NU A (HW ns (dZ g.a ba) f) Q E s:=by
 induction ns generalizing ba σ g s with
 |nil=>exact U Fb (BW (h g s (.N6 ..) r j i))
 |cons v ns p=>
  obtain⟨x,k⟩:=v;refine U (EE ..) (U (aJ ..) ?_)
  by_cases d:(k==JZ)=u
  .refine U (if_pos d) ?_;have l:V.b0 ((x,k)::ns) σ=V.b0 ns (σ.N0 (.ar B2)):=if_pos d;have m:fs σ.aa ((x,k)::ns) ba=fs (σ.aa+1) ns ((x,σ.aa)::ba):=if_pos d;rw[l,m]at h;refine BM (BM (Kh (BW ?_)))
   let ax:BN:={s with heap:=s.heap.push {cls:=.type "cell",data:=.cell B2}}
   have dy:∀b o,s.heap.get? b=H o->ax.heap.get? b=H o:=λb o e=>Cp _ e;have t:s.heap.objs.size<=ax.heap.objs.size:=(dH (CH ..) (Cr _):_<=(s.heap.push _).objs.size)
   have w:(x,s.heap.objs.size)::dZ g.a ba=dZ (cu g.a σ.aa s.heap.objs.size) ((x,σ.aa)::ba):=by
    refine(?_:_=(x,cu g.a σ.aa s.heap.objs.size σ.aa)::dZ _ ba);exact U (fc ..) (U (mI (eu _ _ _) i) R)
   refine U w<|p ((x,σ.aa)::ba) (Jl.mpr ⟨B3 _,λq y=>C3 (i q y)⟩) (r.N0 (o:=.ar B2) dy t R R (BJ _) ⟨_,B6 _ R,R,R⟩) (j.N0 r dy (BJ _)) λam s' z B C ac=>h am s' (aF.NT (aF.N0 r dy t R (BJ _)) z) B C ac
  .refine U (if_neg d) ?_;have l:V.b0 ((x,k)::ns) σ=V.b0 ns σ:=if_neg d;have m:fs σ.aa ((x,k)::ns) ba=fs σ.aa ns ba:=if_neg d;rw[l,m]at h;exact BM (BW (p ba i r j h))
theorem Az{env:E6}{f:O×Z->PUnit->FB (ForInStep PUnit)}(aJ:∀n v bb,f (n,v) bb=(do Ga env n v;CV (.yield ⟨⟩)))(i:dq c A d)
  (h:fD ae xs σ as σ'){Q:PUnit->BN->Prop}(r:aA c g σ s)(b:bd c ae.aG L g σ s)(e:ae.Ok c σ.aa)(j:ae.N3 g.a L Fr=env)(hv:bA c s.heap g.F g.a σ.aa as vs)
   (k:∀s',aF c (cy L) g σ s g σ' s'->aA c g σ' s'->bd c ae.aG L g σ' s'->Q ⟨⟩ s'):B9 c.NU A (HW (xs.zip vs) ⟨⟩ f) Q E s:=by
 induction h generalizing s vs with
 |a6 σ=>
  exact U Fb (BW (k s (.N6 ..) r b))
 |aU h1 h2 l=>
  obtain⟨w,aR,rfl,m,o⟩:=hv.NV;refine U Jy (U (EE ..) (U (aJ ..) (BM (BM (h1.O3 i r b e m j λax a p q=>BW (l p q (e.be a.aa) (a.OH o) λs' t x y=>k s' (a.NT t) x y))))))
variable{l hQ:List (Nat×Y)}
theorem aA.ag{o:List (Nat×bL)}(r:aA c g ⟨n,o,l⟩ s):aA c g ⟨n,o,hQ⟩ s:=⟨r.q,r.bX,r.t,r.k,r.N5,r.bh,r.A,r.aK,r.Ob,r.C,r.cJ,λa an=>(r.bE a an).to (λh=>h) (λh=>h) λb e=>e⟩
theorem aF.ag{o a:List (Nat×bL)}{m m':List (Nat×Y)}(x:aF c T g ⟨n,o,l⟩ s am ⟨eI,a,m⟩ s'):aF c T g ⟨n,o,hQ⟩ s am ⟨eI,a,m'⟩ s':=
 ⟨x.bM,x.bE,x.p,x.bX,x.r,x.aa,x.bm,x.aK,x.Ot⟩
noncomputable def V.Ob(σ:V):V:=⟨σ.aa,σ.aj,[]⟩
noncomputable def V.N1(σ a:V):V:=⟨σ.aa,σ.aj,a.ag⟩
variable{cl:List (O×Nat)}
theorem lM{σ₁:V}{a:Option E6}{j:Z}{Q:E6->BN->Prop}
  (z:dq c A d)(r:aA c g σ s)(B:∀q∈cl,q.2<σ.aa)(m:ae.b0=fs σ.aa ae.aM.names cl)(n:ae.Ok c (σ.Ob.b0 ae.aM.names).aa)(C:fD ae xs (σ.Ob.b0 ae.aM.names) as σ₁)
  (hv:bA c s.heap g.F g.a σ.aa as vs)(f:match a with|none=>ae.fk=j|some o=>o.frame=H Fr/\ae.fk=o.code/\o.builtins=Dy)
  (k:∀L am s',s.heap.objs.size<=L->aF c e6 g σ s am (σ₁.N1 σ) s'->aA c am σ₁ s'->bd c ae.aG L am σ₁ s'->ae.Ok c σ₁.aa->Q (ae.N3 am.a L (if a.isSome then Fr else L)) s'):
  B9 c.NU A (EC ae.aM C1 (dZ g.a cl) (xs.zip vs) ae.fu ae.gb j a Dy) Q E s:=by
 let L:=s.heap.objs.size
 let l:Ge:={cls:=.type (if a.isSome then"dict" else"frame"),data:=.dict #[]}
 let ax:BN:={s with heap:=s.heap.push l}
 have D:l.cls≠.type "tuple":=by
  cases a with
  |none=>refine(?_:Value.type "frame"≠.type "tuple");decide
  |some _=>refine(?_:Value.type "dict"≠.type "tuple");decide
 have dy:∀b o,s.heap.get? b=H o->ax.heap.get? b=H o:=λb o e=>Cp _ e;have p:s.heap.objs.size<=ax.heap.objs.size:=(dH (CH ..) (Cr _):_<=(s.heap.push _).objs.size);have F:aA c g σ.Ob ax:=aA.ag (r.Oc dy p R R);have G:bd c ae.aG L g σ.Ob ax:=⟨r.bX,λh=>absurd (r.OO h) (Gl _),λh=>absurd (r.aK _ h).1 (Gl _),λi=>B2,l,B6 _ R,D,G5 (NS s.heap _),λk v h=>by cases h⟩;have I:aF c (cy L) g σ s g σ.Ob ax:=aF.ag ((aF.N6 c (cy L) g σ s).Oc dy p R);simp only[EC];refine BM (Kh (BM (w0 (σ:=σ.Ob) (λbj K cells=>by cases N:K==JZ <;> simp[N]) _ cl (s:=ax) B F G λt P S T W ap=>?_)));have w:=I.NT (S.N8 λi h=>h.elim);have X:=w.OH hv
 have x:∀e:E6,e=ae.N3 t.a L (if a.isSome then Fr else L)->B9 c.NU A (do {for (bj,v) in xs.zip vs do {Ga e bj v};return e}:FB E6) Q E P:=λe ac=>by
  subst ac;refine BM (Az (λi i i=>R) z C T W n R X λah y ai an=>BW (k L t ah (BJ _) (aF.ag ((w.NT y).QV (BJ _))) ai an (n.be y.aa)))
 cases a with
 |none=>
  refine x _ ?_;have f:ae.fk=j:=f;subst f
  unfold bB.N3;exact U m R
 |some o=>
  refine A3 f λh1 h2 ao=>?_;clear f;refine x _ ?_;unfold bB.N3;refine U m (U h2 ?_);simp only[h1,ao];rfl
inductive fi(c:Bx)(a:M)(ah nm:O)(cK:Ep)(bx:List DZ)(aY:Ef)(bi bz:Z)(cc:M):Prop
 |mk:¬c.N9 a->¬c.N9 cc->(∃o doc pm an ct,c.i.get? a=H o/\o.cls=.type "function"/\o.data=.func (HV ah nm cK bx aY bi bz doc pm an (.ref cc) ct))->∀o vs t,c.i.get? cc=H o->o.data=.fields vs->vs[1]?=H (.str nm t)->fi c a ah nm cK bx aY bi bz cc
noncomputable abbrev eE(c:Bx)(a:M)(nm:O)(cK:Ep)(bx:List DZ)(aY:Ef)(bi bz:Z)(cc:M):Prop:=fi c a nm nm cK bx aY bi bz cc
noncomputable def iT(c:Cx)(σ:V)(nm:O)(cK:Ep)(bx:List DZ)(aY:Ef)(bi bz:Z)(cc:M)(m:Nat)(b6:List O)(as:List Y)(xs:List O)(gc:List Y):Prop:=
 ∀b d e f(A:DX)(E:Z->BN->Prop)(Q:List (O×Z)->BN->Prop)g s vs,aA c g σ s->bA c s.heap g.F g.a σ.aa as vs->
  (∀am s' a,aF c e6 g σ s am σ s'->aA c am σ s'->bA c s'.heap am.F am.a σ.aa gc a->Q (xs.zip a) s')->B9 c.NU A (EA (HV nm nm cK bx aY bi bz b d e (.ref cc) f) ⟨vs.take m,b6.zip (vs.drop m)⟩) Q E s
noncomputable def rC(t:FB aO)(o:Ge):FB aO:=
 @Sem.rec aO (λa=>FB aO) (λa=>t) (λa=>t) (λa=>t) (λa=>t) (λa a r=>r ()) (λa a r=>r ()) (λa a k a=>k o) (λa a a a a=>t) (λa a a=>t) (λa a a=>t) (λa a r=>r ()) (λa a a=>t) (λa a=>t) (λa a=>t) (λa a a a=>t) (λa a a a=>t) (λa a a a a a=>t) (λa a a=>t) (λa a a=>t) (λa a a=>t) (λa a a a a=>t) (λa a a a a=>t) (λa a=>t) (λa a a=>t) (λa a=>t) (λa a a a a a=>t) t
noncomputable def i8(ck:F0):FB aO->List (M×Ge)->aO->Prop
 |t,[],v=>(λA=>B9 ck A t)=λA=>B9 ck A (.pure v)
 |t,x::l,v=>(λA=>B9 ck A t)=(λA=>B9 ck A (.load x.1 B2 (rC t)))/\i8 ck (rC t x.2) l v
theorem i8.Qx{ck:F0}{t:FB aO}{v:aO}(e:(λA=>B9 ck A t)=λA=>B9 ck A (.pure v)):i8 ck t [] v:=e
theorem i8.O3{ck:F0}{Q:aO->BN->Prop}{v:aO}(q:Q v s){l:List (M×Ge)}:∀{t:FB aO},i8 ck t l v->(∀x∈l,s.heap.get? x.1=H x.2)->B9 ck A t Q E s:=by
 induction l with
 |nil=>exactλe a=>(congrArg (λf=>f A Q E s) e).mpr λa a a=>q
 |cons x l b=>exactλe h=>(congrArg (λf=>f A Q E s) e.1).mpr λc p i=>⟨x.2,h _ (.head _),b e.2 (λy d=>h y (.tail _ d)) c p i⟩
noncomputable def bY.QB:bY->Y
 | .c0 v=>v
 |_=>.ab .none
noncomputable def fW(a:M)(m:Nat)(b6:List O):List Z->FB Z:=λvs=>Du (.ref a) (vs.take m) (b6.zip (vs.drop m))
theorem dq.Qb(h:dq c A (d+1)):dq c A.in1 d:=⟨h.G,h.QR,by have:=h.Ri;refine(?_:A.depth+4*d<900);exact a0 [_,_] (aq (aq ak (fz 4 b1)) a7) (nA 900) (aq (aq ak (fz 4 af)) a7) (nA 900) al this,by have:=h.QZ;refine(?_:A.units+1+100*d<9000);exact a0 [_,_] (aq (aq ak (fz 100 b1)) a7) (nA 9000) (aq (aq aC (fz 100 af)) a7) (nA 9000) al this⟩
theorem dq.RI{env:E6}(h:dq c A (d+1))(f:env.scope.kind=.function)(aJ:env.frame=H L):dq (c.a5 L) (A.deeper env) d:=⟨h.G,by
 obtain⟨fJ,g,i⟩:=h.QR;refine⟨env::fJ,?_,λe b=>?_⟩
 .refine(?_:A.frames.map (env::·)=_);exact U g R
 .rcases BX.mp b with rfl|b
  .exact⟨by refine U f ?_;decide,L,.head _,aJ⟩
  .obtain⟨aT,a,aX,bc⟩:=i e b;exact⟨aT,a,.tail _ aX,bc⟩,by have:=h.Ri;refine(?_:A.depth+1+4*d<900);exact a0 [_,_] (aq (aq ak (fz 4 b1)) a7) (nA 900) (aq (aq aC (fz 4 af)) a7) (nA 900) al this,by have:=h.QZ;refine(?_:A.units+3+100*d<9000);exact a0 [_,_] (aq (aq ak (fz 100 b1)) a7) (nA 9000) (aq (aq (ct 0 3) (fz 100 af)) a7) (nA 9000) al this⟩
theorem dq.Oa(h:dq c A d):A.depth<Mb:=by have:=h.Ri;refine(?_:A.depth<1000);exact a0 [_,_] (aq (aq ak (fz 4 af)) a7) (nA 900) aC dT al this
theorem dq.QC(h:dq c A d):A.units+800<cLine:=by have:=h.QZ;refine(?_:A.units+800<9900);exact a0 [_,_] (aq (aq ak (fz 100 af)) a7) (nA 9000) (aq (ct 0 800) a7) (nA 9900) al this
theorem aA.a5{names:List O}(r:aA c g σ s)(f:bd c names L g σ s):aA (c.a5 L) g σ s:=
 ⟨r.q,r.bX,r.t,r.k,r.N5,r.bh,r.A,r.aK,r.Ob,r.C,r.cJ,λa an=>by
  rcases BX.mp an with rfl|an
  .obtain⟨bv,o,h1,h2,⟨h,bS,i,b,d,_⟩,_⟩:=f.ns;replace b:=h1.symm.trans b;cases b;exact⟨f.low,f.bm,f.aK,o,h1,h2,λvs e=>by replace e:=d.symm.trans e;cases e⟩
  .exact r.bE a an⟩
theorem aA.PY(r:aA (c.a5 L) g σ s):aA c g σ s:=
 ⟨r.q,r.bX,r.t,r.k,r.N5,r.bh,r.A,r.aK,r.Ob,r.C,r.cJ,λa an=>r.bE a (.tail _ an)⟩
theorem aF.PY(x:aF (c.a5 L) T g σ s am σ' s')(h:T L):aF c T g σ s am σ' s':=
 ⟨λa o e d ao f b=>x.bM a o e d ao f λi=>(BX.mp i).elim (λq=>ao (U q h)) b,λa o b=>x.bE a o (.tail _ b),x.p,x.bX,x.r,x.aa,x.bm,x.aK,x.Ot⟩
theorem aA.P9(r:aA c g σ s):s.heap.NoLimit:=by
 obtain⟨a,⟨o,bS,b,e,q⟩,h2⟩:=r.cJ.P9;exact⟨a,⟨o,bS,b,r.q _ o e r.cJ.Sr,q⟩,h2⟩
noncomputable abbrev WA(c:Cx)(d:Nat)(ae:bB)(bS:List CQ)(pos:FH)(σ:V)(Q:List Y->V->Prop)(X:AX->V->Prop):Prop:=WT qk c d ae (λenv=>HY (GA pos (Ez bS env))) σ Q X
noncomputable abbrev jn(c:Cx)(d:Nat)(ae:bB)(a:List Fw)(pos:FH)(σ:V)(Q:List Y->V->Prop)(X:AX->V->Prop):Prop:=WT qk c d ae (λenv=>KU ((EB pos (DI a env)).map (·.2))) σ Q X
noncomputable def nx(a:Y)(Q:List Y->V->Prop):List Y->V->Prop:=λas σ=>Q (a::as) σ
noncomputable def vE(c:Cx)(d:Nat)(ae:bB)(bS:List CQ)(pos:FH)(Q:List Y->V->Prop)(X:AX->V->Prop):Y->V->Prop:=λa σ=>WA c d ae bS pos σ (nx a Q) X
noncomputable def zZ(c:Cx)(d:Nat)(ae:bB)(bS:List Fw)(pos:FH)(Q:List Y->V->Prop)(X:AX->V->Prop):Y->V->Prop:=λa σ=>jn c d ae bS pos σ (nx a Q) X
structure y4(Q:Y->V->Prop)(as:List Y)(σ:V):Prop where
 hr:as.length<=1000000
 aP:Q (.b2 as) σ
inductive tR(Q:Y->V->Prop)(as:List Y)(σ:V):Prop
 |mk:∀(ds:List Cj),as=ds.map .ab->ds.length<=1000000->Q (.ab (.tuple ds)) σ->tR Q as σ
inductive qN(Q:Y->V->Prop)(as:List Y)(σ:V):Prop
 |mk:∀(ds:List Cj),as=ds.map .ab->ds.length<=1000000->Q (.ab (.list ds)) σ->qN Q as σ
inductive sF(Q:Y->V->Prop)(as:List Y)(σ:V):Prop
 |mk:∀(ds:List Cj),as=ds.map .ab->ds.length<=1000000->Q (.aP σ.aa) (σ.N0 (.aN ds))->sF Q as σ
theorem uk{bS:List CQ}{env:E6}(h:(e::bS).all Hh=u):Ez (e::bS) env=(BQ,EJ e env)::Ez bS env:=by
 exact BK (kds_star _ h) (U (kds_star bS (CK.mp h).2) R)
noncomputable def mP(c2:List CQ)(b6:List Fw):Bool:=c2.all Hh&&(b6.all (·.arg.isSome)&&Ic (c2.length+b6.length) 28)
variable{Q:List Y->V->Prop}
theorem bn(h:Q [] σ):WA c d ae [] pos σ Q X:=λA g s L Fr a r f b=>D3 ⟨[],g,σ,.N6 ..,r,f,.a6,h⟩
theorem aI{bS:List CQ}(h:WE c d ae e σ (vE c d ae bS pos Q X) X)(l:(e::bS).all Hh=u:=by rfl):WA c d ae (e::bS) pos σ Q X:=λA g s L Fr i r f m=>by
 refine(?_:B9 c.NU A (HY (GA pos (Ez (e::bS) (ae.N3 g.a L Fr)))) _ _ s);refine U (uk l)<|Calls.spliced_cons (WT.NZ h i r f m R (λa bg σ₁ ax bl j n o p q t v=>WT.NZ (show WA c d ae bS pos σ₁ (nx a Q) X from v) i n o p q (λas w x E vs k z B F G C D=>?_) λb b y=>PX.NT j y) λb b y=>y);exact⟨a::as,w,x,j.NT k,z,B,.aU (k.Ou t) C,D⟩
theorem ce(h:Q [] σ):jn c d ae [] pos σ Q X:=λA g s L Fr a r f b=>Fx ⟨[],g,σ,.N6 ..,r,f,.a6,h⟩
variable{p:FH}
theorem i2{n:Option O}{bS:List Fw}(h:WE c d ae e σ (zZ c d ae bS pos Q X) X):jn c d ae (⟨n,e,p⟩::bS) pos σ Q X:=λA g s L Fr i r f l=>by
 refine(?_:B9 c.NU A (KU ((do let v ←EJ e (ae.N3 g.a L Fr);F6 pos;CV v)::(EB pos (DI bS (ae.N3 g.a L Fr))).map (·.2))) _ _ s);refine wpAny_evalAll_cons (BM (WT.NZ h i r f l R (λa bg σ₁ ax bl j m o q t w x=>BM (C6 (BW (WT.NZ (show jn c d ae bS pos σ₁ (nx a Q) X from x) i m o q t (λas z B G vs k C D I K E F=>?_) λb b y=>PX.NT j y)))) λb b y=>y));exact⟨a::as,z,B,j.NT k,C,D,.aU (k.Ou w) E,F⟩
theorem hD{h:CG}(x:bA c h F ρ n (ds.map .ab) vs):∃as,C7 h vs ds as/\(∀a∈as,F a)/\Cy ds=u:=by
 induction ds generalizing vs with
 |nil=>exact U x.OB ⟨[],.nil,(λg h=>nomatch h),R⟩
 |cons y ys d=>
  obtain⟨v,aR,rfl,h1,h2⟩:=x.NV;obtain⟨_,r,e,f⟩:=h1.NV;obtain⟨as,b⟩:=d h2;refine A3 b λaT aX bc=>?_;clear b;exact⟨_,.cons r aT,λa an=>(CA.mp an).elim (e a) (aX a),by rw[Cy,f,bc];rfl⟩
theorem lr{T:String}{Q:Z->BN->Prop}(a:vs.length<=1000000)(h:Q (.ref s.heap.objs.size) {s with heap:=s.heap.push {cls:=.type T,data:=.seq vs.toArray}}):
  B9 c.NU A (newObj (.type T) (.seq vs.toArray)) Q E s:=Dc h (by refine(?_:vs.toArray.size<=Hf);refine a3 Fc ?_;exact BG ‹_› (DD R))
theorem cN(h:CG)(o:Ge):∀b a,h.get? b=H a->(h.push o).get? b=H a:=λb a e=>Cp _ e
theorem cR(h:CG)(o:Ge):h.objs.size<=(h.push o).objs.size:=dH (CH ..) (Cr _)
variable{Q:Y->V->Prop}
theorem hz(h:WA c d ae eH pos σ (y4 Q) X):WE c d ae (.Tuple eH k pos) σ Q X:=λA g s L Fr i r f j=>by
 refine BM (C6 (BM (WT.NZ h i r f j R (λas bg σ₁ ax vs l m n q t a b=>lr (br (bA.length a) b.1) ?_) λo o y=>y)))
 let p:BN:={ax with heap:=ax.heap.push {cls:=.type "tuple",data:=.seq vs.toArray}}
 have e:aF c (cy L) bg σ₁ ax bg σ₁ p:=(aF.N6 ..).Oc (cN _ _) (cR _ _) R;refine⟨.b2 as,bg,σ₁,l.NT e,m.Oc (cN _ _) (cR _ _) R R,n.Oc (cN _ _),.b2 (B6 _ R) R R ?_,b.2⟩;exact e.OH a
theorem gB(h:WA c d ae eH pos σ (tR Q) X):WE c d ae (.Tuple eH k pos) σ Q X:=λA g s L Fr i r f j=>by
 refine BM (C6 (BM (WT.NZ h i r f j R (λas bg σ₁ ax vs l m n w x a o=>?_) λp p y=>y)));obtain⟨ds,rfl,q,t⟩:=o;refine lr (br (bA.length a) (a3 (BH ..) q)) ?_
 let v:BN:={ax with heap:=ax.heap.push {cls:=.type "tuple",data:=.seq vs.toArray}}
 have b:aF c (cy L) bg σ₁ ax bg σ₁ v:=(aF.N6 ..).Oc (cN _ _) (cR _ _) R;obtain⟨bs,e⟩:=hD (b.OH a);refine A3 e λaT aX bc=>?_;clear e;exact⟨_,bg,σ₁,l.NT b,m.Oc (cN _ _) (cR _ _) R R,n.Oc (cN _ _),.ab (.tuple (B6 _ R) R R aT) aX (by rw[DH];exact bc),t⟩
noncomputable def Gh.aK(g:Gh)(a:M):Gh:=⟨g.a,λb=>g.F b\/b=a⟩
variable{a:M}
theorem aA.OA(r:aA c g σ s)(k:∀b o,s.heap.get? b=H o->s'.heap.get? b=H o)(f:s.heap.objs.size<=s'.heap.objs.size)(j:s'.gens=s.gens)(l:s'.os=s.os)
  (an:s.heap.objs.size<=a)(m:a<s'.heap.objs.size):aA c (g.aK a) σ s':=by
 have K:dc s.heap s'.heap g.F (g.aK a).F:=⟨λa o e d=>k a o e,λa o d e=>k a o e,λd e=>.inl e⟩;refine⟨λa o e ao=>k a o (r.q a o e ao),BG r.bX f,r.t,λp ai=>?_,λi o hi=>?_,λi o hi=>(r.bh i o hi).be K (λd d=>R) (BJ _) (λq e=>k _ _ e),r.A,λb ac=>?_,U j r.Ob,l.trans r.C,r.cJ,λb ac=>(r.bE b ac).to id (λbc h=>h.elim bc λ(e:b=a)=>absurd (r.Sc ac) (U e (BP.mpr an))) (k b)⟩
 .obtain⟨t,h1,_⟩:=r.k p ai;exact(r.k p ai).be K ((k _ _ h1).trans h1.symm)
 .refine⟨(r.N5 i o hi).1,(r.N5 i o hi).2.1,λh=>?_⟩;rcases h with h|h
  .exact(r.N5 i o hi).2.2 h
  .exact absurd (r.OO ⟨i,o,hi,R⟩) (U (show g.a i=a from h) (BP.mpr an))
 .rcases ac with ac|rfl
  .exact⟨BL (r.aK b ac).1 f,(r.aK b ac).2⟩
  .exact⟨m,λn=>absurd (r.t b n) (BP.mpr (BG r.bX an))⟩
theorem aF.OA(k:∀b o,s.heap.get? b=H o->s'.heap.get? b=H o)(f:s.heap.objs.size<=s'.heap.objs.size)(i:s'.gens=s.gens)(an:s.heap.objs.size<=a):aF c T g σ s (g.aK a) σ s':=
 ⟨λa o e d d d d=>k a o e,λa o d d e=>⟨o.slots,k a o e⟩,⟨λa o e d=>k a o e,λa o d e=>k a o e,λd e=>.inl e⟩,f,λd d=>R,BJ _,λd h=>.inl h,λb ac=>ac.elim .inl (λ(e:b=a)=>.inr (.inl (dH e an))),λj y h=>U i h⟩
theorem bd.OA{names:List O}(f:bd c names L g σ s)(k:∀b o,s.heap.get? b=H o->s'.heap.get? b=H o)(an:s.heap.objs.size<=a):bd c names L (g.aK a) σ s':=by
 have K:dc s.heap s'.heap g.F (g.aK a).F:=⟨λa o e i=>k a o e,λa o i e=>k a o e,λi e=>.inl e⟩;obtain⟨bv,o,h1,h2,j,l⟩:=f.ns;refine⟨f.low,f.bm,λh=>?_,bv,o,k _ _ h1,h2,j.at λo e=>k _ _ e,λk v m=>by obtain⟨x,n,a,b,d⟩:=l k v m;exact⟨x,n,a,b,d.be K (λi i=>R) (BJ _)⟩⟩;rcases h with h|h
 .exact f.aK h
 .exact absurd (Ca h1) (U h (BP.mpr an))
theorem uY{names:List O}{K:Z->BN->Prop}(r:aA c g σ s)(f:bd c names L g σ s)(d:bA c s.heap g.F g.a σ.aa (ds.map .ab) vs)(i:ds.length<=1000000)
  (k:∀v am s',aF c (cy L) g σ s am σ s'->aA c am σ s'->bd c names L am σ s'->a8 c s'.heap am.F am.a σ.aa (.ab (.list ds)) v->K v s'):B9 c.NU A (KT vs) K E s:=by
 refine lr (br (bA.length d) (a3 (BH ..) i)) ?_
 let b:BN:={s with heap:=s.heap.push {cls:=.type "list",data:=.seq vs.toArray}}
 have j:s.heap.objs.size<b.heap.objs.size:=(dk (CH ..) (B3 _):_<(s.heap.push _).objs.size);have e:aF c (cy L) g σ s (g.aK s.heap.objs.size) σ b:=aF.OA (cN _ _) (cR _ _) R (BJ _);obtain⟨bs,h⟩:=hD (e.OH d);refine A3 h λaT aX bc=>?_;clear h;refine k _ (g.aK s.heap.objs.size) b e (r.OA (cN _ _) (cR _ _) R R (BJ _) j) (f.OA (cN _ _) (BJ _)) (.ab (.list (B6 _ R) R R aT) (λa an=>?_) (by rw[DH];exact bc));rcases BX.mp an with rfl|an
 .exact .inr R
 .exact aX a an
theorem ho(h:WA c d ae eH pos σ (qN Q) X):WE c d ae (.List eH pos) σ Q X:=λA g s L Fr a r f b=>by
 refine BM (C6 (BM (WT.NZ h a r f b R (λas bg σ₁ ax vs e i j w x k l=>?_) λm m y=>y)));obtain⟨ds,rfl,n,o⟩:=l;exact uY i j k n λv am s' p q t rv=>⟨_,am,σ₁,e.NT p,q,t,rv,o⟩
theorem u0{names:List O}{K:Z->BN->Prop}(r:aA c g σ s)(f:bd c names L g σ s)(d:bA c s.heap g.F g.a σ.aa (ds.map .ab) vs)(j:ds.length<=1000000)
  (k:∀v am s',aF c (cy L) g σ s am (σ.N0 (.aN ds)) s'->aA c am (σ.N0 (.aN ds)) s'->bd c names L am (σ.N0 (.aN ds)) s'->a8 c s'.heap am.F am.a (σ.aa+1) (.aP σ.aa) v->K v s'):B9 c.NU A (KT vs) K E s:=by
 refine lr (br (bA.length d) (a3 (BH ..) j)) ?_
 let b:BN:={s with heap:=s.heap.push {cls:=.type "list",data:=.seq vs.toArray}}
 let a:Gh:=⟨cu g.a σ.aa s.heap.objs.size,g.F⟩
 have e:aF c (cy L) g σ s a (σ.N0 (.aN ds)) b:=aF.N0 r (cN _ _) (cR _ _) R (BJ _);obtain⟨bs,i⟩:=hD (e.OH d);refine A3 i λaT aX bc=>?_;clear i;have l:aA c a (σ.N0 (.aN ds)) b:=r.N0 (cN _ _) (cR _ _) R R (BJ _) ⟨_,vs.toArray,0,bs,B6 _ R,⟨R,R,R⟩,R,aT,aX,bc⟩;refine k _ a b e l (f.N0 r (cN _ _) (BJ _)) ?_;have:=a8.aP (c:=c) (h:=b.heap) (F:=a.F) (ρ:=a.a) (B3 σ.aa);rw[show a.a σ.aa=s.heap.objs.size from fc _ _ _]at this;exact this
theorem ig(h:WA c d ae eH pos σ (sF Q) X):WE c d ae (.List eH pos) σ Q X:=λA g s L Fr a r f b=>by
 refine BM (C6 (BM (WT.NZ h a r f b R (λas bg σ₁ ax vs e i j w x k l=>?_) λm m y=>y)));obtain⟨ds,rfl,n,o⟩:=l;exact u0 i j k n λv am s' p q t rv=>⟨_,am,_,e.NT p,q,t,rv,o⟩
noncomputable def WK(c:Cx)(d:Nat)(b:Y)(as:List Y)(e:List O)(f:List Y)(σ:V)(Q:Y->V->Prop)(X:AX->V->Prop):Prop:=
 ∀A g s names L a vs kvs,dq c A d->aA c g σ s->bd c names L g σ s->a8 c s.heap g.F g.a σ.aa b a->bA c s.heap g.F g.a σ.aa as vs->bA c s.heap g.F g.a σ.aa f kvs->
  B9 c.NU A (Du a vs (e.zip kvs)) (bZ rV ⟨c,names,L⟩ g σ s Q) (PX ⟨c,names,L⟩ g σ s X) s
noncomputable def a1(c:Cx)(b:Y):Prop:=∀(A:DX)g σ s a n,aA c g σ s->a8 c s.heap g.F g.a n b a->∃k,(k=IG\/k=HR\/k=G9)/\∀(Q:L4->BN->Prop)(E:Z->BN->Prop),Q k s->B9 c.NU A (Gg a) Q E s
theorem a1.Oe(a:String):a1 c (.bT (.builtin a)):=λA g σ s b n r h=>U (show b=_ from h.NV) ⟨.machine,.inr (.inl R),λQ E d=>BW d⟩
theorem a1.PA(T:String):a1 c (.bT (.type T)):=λA g σ s a n r h=>U (show a=_ from h.NV) ⟨.machine,.inr (.inl R),λQ E b=>BW b⟩
theorem a1.N4{ah nm cK bx aY bi bz cc}(aJ:fi c a ah nm cK bx aY bi bz cc):a1 c (.bT (.ref a)):=λA g σ s i n r h=>by
 obtain rfl:=h.NV;obtain⟨b,_,⟨o,j,k,l,m,d,_,e⟩,_⟩:=aJ;refine⟨.frame,.inl R,λQ E f=>?_⟩;unfold Gg;refine BM (Fg (r.q _ _ d b) (U e (BW f)))
theorem a1.OY{nm cK bx aY bi bz cc}(aJ:eE c a nm cK bx aY bi bz cc):a1 c (.bT (.ref a)):=a1.N4 aJ
theorem a1.ed{L:fO}{cells:List (O×Nat)}:a1 c (.ed L cells):=λA g σ s e n r h=>by
 obtain⟨_,_,rfl,h1,h2,f,a,i⟩:=h.NV;obtain⟨_,j,k,l,m,b,_⟩:=a;refine⟨.frame,.inl R,λQ E d=>?_⟩;unfold Gg;refine BM (Fg h2 (U b (BW d)))
variable{c2:List (Bool×FB Z)}{b6:List (Option O×FB Z)}
theorem lO{f:Z}{e:List Z}{Q:Z->BN->Prop}{k:L4}(g:(c2.any (·.1)||b6.any (·.1.isNone))=BQ)
  (h:B9 c.NU A (L6 f u c2 b6) (λa ax=>(∃k,(k=IG\/k=HR\/k=G9)/\∀(Q:L4->BN->Prop)(E:Z->BN->Prop),Q k ax->B9 c.NU A (Gg f) Q E ax)/\B9 c.NU A (Du f (e++a.pos) a.kw) Q E ax) E s):
  B9 c.NU A (FP pos f e c2 b6) Q E s:=by
 unfold FP;refine BM (C2 (CB h (λx ax i=>BM (C6 ?_)) λd d x=>x));obtain⟨⟨k,j,l⟩,aL⟩:=i
 have b:∀{t:FB Z},B9 c.NU A t Q E ax->B9 c.NU A (t>>=λr=>GT [r] point>>=λd=>CV r) Q E ax:=
  λao=>BM (CB ao (λr n m=>BM (C2 (MF (BW m)))) λd d x=>x)
 refine U g<|wpAny_bind (l _ _ ?_);rcases j with rfl|rfl|rfl
 .refine wpAny_ite ?_;split
  .exact b aL
  .exact b (by unfold I6;exact Hz aL)
 .exact b aL
 .refine wpAny_ite ?_;split
  .exact b aL
  .exact b (by unfold I6;exact Hz aL)
theorem oj:∀{bS:List CQ}{pos:FH}{env:E6},bS.all Hh=u->(GA pos (Ez bS env)).any (·.1)=BQ:=by
 intro bS
 induction bS with
 |nil=>
  intro _ _ _
  exact R
 |cons e bS a=>
  intro pos env h;have a:=a (pos:=pos) (env:=env) (CK.mp h).2;refine U (uk h) ?_;exact BK a R
theorem pH:∀{a:List Fw}{pos:FH}{env:E6},a.all (·.arg.isSome)=u->(EB pos (DI a env)).any (·.1.isNone)=BQ/\(EB pos (DI a env)).all (·.1.isSome)=u/\(EB pos (DI a env)).filterMap (·.1)=a.filterMap (·.arg):=by
 intro a
 induction a with
 |nil=>
  intro _ _ _
  exact⟨R,R,R⟩
 |cons b a c=>
  obtain⟨n,e,p⟩:=b;intro pos env h;have h:=CK.mp h;refine A3 (c (pos:=pos) (env:=env) h.2) λh1 h2 d=>?_;have f:n.isSome=u:=h.1;have g:EB pos (DI (⟨n,e,p⟩::a) env)=(n,do let v ←EJ e env;F6 pos;CV v)::EB pos (DI a env):=R;refine U g ?_;obtain⟨m,rfl⟩:=Option.isSome_iff_exists.mp f;refine⟨by simpa using h1,by simpa using h2,BK D6 (bP D6 ?_)⟩;simp[d]
theorem la{f:Z}{Q:Args->BN->Prop}(e:b6.all (·.1.isSome)=u)(g:c2.any (·.1)=BQ)
  (h:B9 c.NU A (HY c2) (λvs ax=>B9 c.NU A (KU (b6.map (·.2))) (λb d=>Q ⟨vs,(b6.filterMap (·.1)).zip b⟩ d) E ax) E s):B9 c.NU A (L6 f u c2 b6) Q E s:=by
 cases c2 with
 |nil=>
  refine evalArgs_kw_nil e ?_;have:B9 c.NU A (HY []) (λvs ax=>B9 c.NU A (KU (b6.map (·.2))) (λb d=>Q ⟨vs,(b6.filterMap (·.1)).zip b⟩ d) E ax) E s:=h
  exactλi p j=>this i p j i p j
 |cons a c6=>
  obtain⟨st,x⟩:=a
  have:st=BQ:=by
   simp only[KP,Jm]at g;exact g.1
  subst this;exact evalArgs_kw e h
noncomputable def nF(c:Cx)(d:Nat)(b6:List Fw)(a:Y)(as:List Y)(Q:Y->V->Prop)(X:AX->V->Prop):List Y->V->Prop:=λb σ=>WK c d a as (b6.filterMap (·.arg)) b σ Q X
noncomputable def xS(c:Cx)(d:Nat)(ae:bB)(b6:List Fw)(pos:FH)(a:Y)(Q:Y->V->Prop)(X:AX->V->Prop):List Y->V->Prop:=λas σ=>jn c d ae b6 pos σ (nF c d b6 a as Q X) X
structure AH(c:Cx)(d:Nat)(ae:bB)(c2:List CQ)(b6:List Fw)(pos:FH)(Q:Y->V->Prop)(X:AX->V->Prop)(fv:Y)(σ:V):Prop where
 hr:a1 c fv
 aP:WA c d ae c2 pos σ (xS c d ae b6 pos fv Q X) X
variable{c2:List CQ}{b6:List Fw}
theorem dJ{b:CQ}
  (h:WE c d ae b σ (AH c d ae c2 b6 pos Q X) X)
  (m:mP c2 b6=u:=by rfl)
  (n:(λenv=>EJ (.Call b c2 b6 pos) env)=(λenv=>(do FP pos (←EJ b env) [] (GA pos (Ez c2 env)) (EB pos (DI b6 env)))):=by rfl):WE c d ae (.Call b c2 b6 pos) σ Q X:=λA g s L Fr e r f B=>by
 have n:=λenv=>congrFun n env;obtain⟨m,o⟩:=CK.mp m;obtain⟨o,ap⟩:=CK.mp o;refine U (n ..)<|wpAny_bind (WT.NZ h e r f B R (λC bg σ₁ ax q i D E F G I p=>?_) λa a y=>y);obtain⟨K,p⟩:=p;refine A3 (pH (pos:=pos) (env:=ae.N3 g.a L Fr) o) λk1 k2 k3=>?_;have t:=oj (pos:=pos) (env:=ae.N3 g.a L Fr) m;refine lO (k:=.frame) (U t (U k1 R)) (la k2 t (WT.NZ p e D E F G (λas av N ay vs j P S T W ac ah=>WT.NZ (show jn c d ae b6 pos N (nF c d b6 C as Q X) X from ah) e P S T W (λaB v ai w kvs l x am aE aJ an ao=>?_) λa a y=>PX.NT (i.NT j) y) λa a y=>PX.NT i y));have z:=(j.NT l).Ou I;refine⟨K A v ai w q _ x z,U k3 ?_⟩;exact CB (ao A v w ae.aG L q vs kvs e x am z (l.OH ac) an) (λa a y=>bZ.NT ((i.NT j).NT l) y) λa a y=>PX.NT ((i.NT j).NT l) y
noncomputable def o5(c:Cx)(g:Gh)(σ:V)(L:M)(h:CG)(b:M):Prop:=(∃o,h.get? b=H o/\fP o)\/g.F b\/(¬b3 g σ b/\b≠L/\¬c.N9 b/\b<h.objs.size/\b∉c.bE)
noncomputable def t7(n:String):Bool:=!["enumerate","zip","dict_itemiterator","dict_reverseitemiterator","odict_iterator","itertools.zip_longest","itertools.pairwise"].contains n
noncomputable def ka(c:Cx)(A:DX)(g:Gh)(σ:V)(s:BN)(L:M)(v:Z)(xs:List Y):Prop:=
 ∀(Q:Z->BN->Prop)(E:Z->BN->Prop),
  (∀I a P St ax,s.heap.objs.size<=I->I<ax.heap.objs.size->(∀b o,s.heap.get? b=H o->ax.heap.get? b=H o)->s.heap.objs.size<=ax.heap.objs.size->ax.gens=s.gens->ax.os=s.os->Walks c.PG c.w A I a [I] xs.length P St->St 0 ax.heap->
   (∀i v,i<xs.length->P i v->∃x,xs[i]?=H x/\a8 c s.heap g.F g.a σ.aa x v)->(∀i h,St i h->∃o n,h.get? I=H o/\o.cls=.type n/\n≠"tuple"/\t7 n=u)->(∀b∈a,b=I\/o5 c g σ L s.heap b)->Q (.ref I) ax)->
  B9 c.NU A (HF v) Q E s
variable{target:CQ}
set_option tactic.hygienic true in
theorem pQ{I:M}{ck:F0}{Q:Unit->BN->Prop}(h:∃o n,s.heap.get? I=H o/\o.cls=.type n/\n≠"tuple"/\t7 n=u)(b:Q () s):
  B9 ck A (DE target (.ref I) v) Q E s:=by
 obtain⟨o,n,c⟩:=h;refine A4 c λh1 h2 g d=>?_;clear c
 have e:["enumerate","zip","dict_itemiterator","dict_reverseitemiterator","odict_iterator","itertools.zip_longest","itertools.pairwise"].contains n=BQ:=by
  exact(IT _).symm.trans (congrArg (!·) d)
 have f:∀a:M,B9 ck A (do
   let o ←load I
   match o.cls,o.data with
   | .type n,.fields vs=>
    if ["enumerate","zip","dict_itemiterator","dict_reverseitemiterator","odict_iterator","itertools.zip_longest","itertools.pairwise"].contains n&&vs[0]?==H (Ey a)then do
     rule "for.unpacks-the-owned-tuple"
     updateField I 0 .none
    else CV ()
   |_,_=>CV ()) Q E s:=λa=>by
  refine BM (Fg h1 (U h2 ?_));cases o.data <;> try exact BW b
  rename_i vs
  simp only[e,Bool.false_and,Ex,if_false];exact BW b
 unfold DE;cases target <;> first|exact BW b|(cases v <;> first|exact BW b|exact f _)
inductive gC(ae:bB):CQ->V->Y->V->Prop
 |v {x:O} {p:FH} {σ:V} {a:Y} {σ':V}:aH ae x σ a σ'->gC ae (.Name x p) σ a σ'
 |b2 {eH:List CQ} {k:Nat} {p:FH} {xs:List O} {a:Y} {as:List Y} {σ σ':V}:eH.map JG=xs.map H->dK a as->fD ae xs σ as σ'->gC ae (.Tuple eH k p) σ a σ'
theorem gC.O3{a:Y}(h:gC ae t σ a σ')(b:dq c A d)(r:aA c g σ s)(f:bd c ae.aG L g σ s)(e:ae.Ok c σ.aa)
  (i:a8 c s.heap g.F g.a σ.aa a bl){env:E6}(j:ae.N3 g.a L Fr=env)
  (k:∀s',aF c (cy L) g σ s g σ' s'->aA c g σ' s'->bd c ae.aG L g σ' s'->K () s'):B9 c.NU A (Gf t env bl) K E s:=by
 cases h with
 |v h=>exact Gy (h.O3 b r f e i j k)
 |b2 h1 h2 l=>exact qn h1 h2 l b r f e i j k
noncomputable def mH(L I:M):M->Prop:=λa=>a=L\/a=I
theorem aF.P1(x:aF c T g σ s am σ' s')(h:¬b3 g σ a)(b:a<s.heap.objs.size):¬b3 am σ' a:=λay=>(x.bm a ay).elim h λd=>absurd b (BP.mpr d)
noncomputable def zW(ck:F0)(A:DX)(target:CQ)(it:Z)(bx:List DZ)(env:E6)(K N:JD->BN->Prop)(E:Z->BN->Prop):Option Z->BN->Prop
 |none,s=>B9 ck A (GZ [] env) N E s
 |some v,s=>B9 ck A (DE target it v) (λa s=>B9 ck A (Gf target env v) (λa s=>B9 ck A (GZ bx env) K E s) E s) E s
variable{bx:List DZ}
theorem o7{c:Bx}{it:Z}{env:E6}{cw:KJ->BN->Prop}(a:Nat->BN->Prop)
  (g:∀n s(K N:JD->BN->Prop)(E:Z->BN->Prop),a n s->(∀m s',m<n->a m s'->K .next s'/\K .cont s')->(∀s',cw (.ok .next) s'->K .brk s'/\N .next s')->(∀v s',cw (.ok (.ret v)) s'->K (.ret v) s')->B9 c.NU A (Hd it) (zW c.NU A target it bx env K N E) E s)
  (n:Nat)(h:a n s):E9 c.NU A (.forLoop target it bx [] env) cw s:=
 Kw a (λn s h=>CB (g n s (λf d=>match f with
  | .next| .cont=>∃m,m<n/\a m d
  | .brk=>cw (.ok .next) d
  | .ret v=>cw (.ok (.ret v)) d) (λf s=>cw (.ok f) s) _ h (λm b e h=>⟨⟨m,e,h⟩,m,e,h⟩) (λb h=>⟨h,h⟩) (λb b h=>h)) (λr s h=>by cases r <;> exact h) λb b h=>h) n h
variable{K:JD->BN->Prop}
theorem oK{env:E6}{b:Y}{n:Z}{o:V}{p:bY->V->Prop}(t:dq c A d)(r:aA c g σ s)(f:bd c ae.aG L g σ s)(l:ae.Ok c σ.aa)(v:ae.N3 g.a L Fr=env)
  (w:a8 c s.heap g.F g.a σ.aa b n)(ao:gC ae target σ b o)(eg:WS c d ae bx o p cm)
  (x:∀i a e h j,aF c (cy L) g σ s a e h->aA c a e h->bd c ae.aG L a e h->rF c h.heap a.F a.a e.aa i j->p i e->K j h):
  B9 c.NU A (Gf target env n) (λk s=>B9 c.NU A (GZ bx env) K E s) E s:=
 ao.O3 t r f l w v λG m z B=>WT.NZ eg t z B (l.be m.aa) ((l.Pi m.r L Fr).trans v) (λi a e h j C D F k k rv q=>x i a e h j (m.NT C) D F rv q) λk k y=>y.no
theorem yl{Q:JD->BN->Prop}{φ:(JD->BN->Prop)->(Z->BN->Prop)->Prop}(h:∀(K:JD->BN->Prop)(E:Z->BN->Prop),(∀v s,Q (.ret v) s->K (.ret v) s)->φ K E):φ Q E:=h Q E λa a h=>h
variable{Q:bY->V->Prop}
theorem sl{b:V->Prop}{φ:(bY->V->Prop)->Prop}(h:∀a:bY->V->Prop,(∀σ,b σ->a .aa σ/\a .eY σ)->(∀σ,Q .aa σ->a .eQ σ)->(∀v σ,Q (.c0 v) σ->a (.c0 v) σ)->φ a):
  φ (λd σ=>match d with| .aa=>b σ| .eY=>b σ| .eQ=>Q .aa σ| .c0 v=>Q (.c0 v) σ):=
 h _ (λc h=>⟨h,h⟩) (λc h=>h) λc c h=>h
variable{xs:List Y}
theorem tP{env:E6}(cx:dq c A d)(r:aA c g σ s)(f:bd c ae.aG L g σ s)(bi:ae.Ok c σ.aa)(cA:ae.N3 g.a L Fr=env)
  (aJ:ka c A g σ s L v xs)(p:Nat->V->Prop)(cC:p 0 σ)
  (cE:∀k x σ₁,xs[k]?=H x->p k σ₁->∃aL,gC ae target σ₁ x aL/\WS c d ae bx aL (λw ai=>match w with| .aa=>p (k+1) ai| .eY=>p (k+1) ai| .eQ=>Q .aa ai| .c0 v=>Q (.c0 v) ai) cm)
  (cF:∀σ₁,p xs.length σ₁->Q .aa σ₁){cG:Z->BN->Prop}
  (k:∀w am σ' s' aO,aF c (cy L) g σ s am σ' s'->aA c am σ' s'->bd c ae.aG L am σ' s'->rF c s'.heap am.F am.a σ'.aa w aO->Q w σ'->K aO s'):
  B9 c.NU A (HF v) (λit ax=>E9 c.NU A (.forLoop target it bx [] env) (λcH s'=>match cH with| .ok w=>K w s'| .error e=>cG e s') ax) E s:=by
 refine aJ _ _ λI eB P St ax z bj dy aR bk cK W cM cS bl cV=>?_
 let T':M->Prop:=mH L I
 have bu:¬b3 g σ I:=λh=>absurd (r.OO h) (BP.mpr z);have bv:¬g.F I:=λh=>absurd (r.aK I h).1 (BP.mpr z);obtain⟨eC,eH,cW,_⟩:=f.ns;have cX:=Ca cW;have bz:I≠L:=λe=>absurd cX (br e (BP.mpr z));have c1:¬c.N9 I:=λh=>absurd (r.t I h) (BP.mpr (BG r.bX z));have c2:=r.Oc dy aR bk cK;have c6:=f.Oc dy;have ap:=r.Ru z
 let bC:Nat->BN->Prop:=λn s'=>∃i am σ',i+n=xs.length/\St i s'.heap/\aF c T' g σ ax am σ' s'/\aA c am σ' s'/\bd c ae.aG L am σ' s'/\p i σ'
 have aT:∀{am:Gh}{σ':V}{s':BN},aF c T' g σ ax am σ' s'->aF c (cy L) g σ s am σ' s':=λ{am σ' s'}x=>
  have aW:=((aF.N6 c T' g σ s).Oc dy aR bk).NT x
  {aW with bM:=λa o e l ao aX=>aW.bM a o e l (λq=>q.elim ao λ(q:a=I)=>absurd (Ca e) (U q (BP.mpr z))) aX,bE:=λa o B ao e=>aW.bE a o B (λq=>q.elim ao λ(q:a=I)=>ap (q▸B)) e}
 have bD:∀{am:Gh}{σ':V}{s':BN}{i:Nat},aF c T' g σ ax am σ' s'->St i s'.heap->aA c am σ' s'->fT c am σ' L s'.heap I:=λ{am σ' s' i}x m N=>by
  refine⟨x.P1 bu bj,λh=>?_,BG r.bX z,bz,λo l=>?_,ap⟩
  .rcases x.aK I h with h|h|h
   .exact bv h
   .exact absurd bj (BP.mpr h)
   .exact bu h
  .obtain⟨bH,n,S⟩:=bl i _ m;refine A4 S λT c7 df C=>?_;clear S;replace T:=l.symm.trans T;cases T;exactλe=>df (Ji (c7.symm.trans e))
 have di:∀{am bQ:Gh}{σ' cB:V}{s' s'':BN}{i:Nat},aF c T' g σ ax am σ' s'->aF c (cy L) am σ' s' bQ cB s''->aA c am σ' s'->St i s'.heap->St i s''.heap:=λ{am bQ σ' cB s' s'' i}x y N m=>by
  refine W.frame i _ _ m λb ac o l=>?_
  by_cases aY:b=I
  .exact aY▸y.bM I o (aY▸l) (bD x m N).bm bz c1 ap
  .rcases(cV b ac).resolve_left aY with⟨bH,h1,h2⟩|h|⟨h1,h2,dj,dt,du⟩
   .have:=x.p.b2 b bH (dy _ _ h1) h2;replace l:=this.symm.trans l;cases l;exact y.p.b2 b _ this h2
   .exact y.p.aK b o (x.p.N8 b h) l
   .exact y.bM b o l (x.P1 h1 (BL dt aR)) h2 dj du
 refine o7 bC (λn s' eI eS e9 dx bS bU dG=>?_) xs.length ⟨0,g,σ,Ek _,cM,.N6 ..,c2,c6,cC⟩;obtain⟨i,am,σ',S⟩:=dx;refine A6 S λhi m x N dO aZ=>?_;clear S;have dW:=bi.be x.aa;have d1:=(bi.Pi x.r L Fr).trans cA;have a4:=bD x m N
 have b6:∀{s'':BN},(∀b o,b∉[I]->s'.heap.get? b=H o->s''.heap.get? b=H o)->s'.heap.objs.size<=s''.heap.objs.size->s''.gens=s'.gens->s''.os=s'.os->
   aF c T' g σ ax am σ' s''/\aA c am σ' s''/\bd c ae.aG L am σ' s'':=λ{s''}X D b9 d2=>by
  have F:=λa o an e=>X a o (by simpa using an) e
  refine⟨⟨λa o e l ao aX B=>F a o (λq=>ao (.inr q)) (x.bM a o e l ao aX B),λa o B ao e=>(x.bE a o B ao e).imp λfa T=>F _ _ (λq=>ap (q▸B)) T,⟨λa o e t=>F a o ?_ (x.p.b2 a o e t),λa o h e=>F a o ?_ (x.p.aK a o h e),x.p.N8⟩,BG x.bX D,x.r,x.aa,x.bm,x.aK,λj y h=>U b9 (x.Ot j y h)⟩,
   N.Pa a4 F D b9 d2,dO.Pa a4 F⟩
  .exactλq=>a4.b2 o (q▸x.p.b2 a o e t) t.1
  .exactλq=>bv (q▸h)
 by_cases av:i<xs.length
 .refine gh (W.item i s' _ _ av m λv ay tk d9 cj X D=>A3 (b6 X D R R) λah aB a9=>?_);refine pQ (bl _ _ cj) ?_;obtain⟨y,aJ,ef⟩:=cS i v av d9;obtain⟨aL,ao,ac⟩:=cE i y σ' aJ aZ;have eg:=ah.Ou (a8.be (K:=⟨λa o e C=>dy a o e,λa o C e=>dy a o e,λC e=>e⟩) (λC C=>R) (BJ _) ef);refine oK cx aB a9 dW d1 eg ao ac λw ba aE bb aO ck bc bf eo G=>?_;have bg:=ah.NT (ck.N8 λC h=>.inl h);have cq:p (i+1) aE->bC (n-1) bb:=λG=>⟨i+1,ba,aE,by lia,di ah ck aB cj,bg,bc,bf,G⟩
  have cs:n-1<n:=(eL (Cc (aV [_,_,_] af (aq au ak) bV af a7 ak al (eR hi) av)))
  cases eo with
  |aa=>exact(bS _ _ cs (cq G)).1
  |eY=>exact(bS _ _ cs (cq G)).2
  |eQ=>exact(bU _ (k .aa ba aE bb .next (aT bg) bc bf .aa G)).1
  |c0 hv=>exact dG _ _ (k (.c0 _) ba aE bb _ (aT bg) bc bf (.c0 hv) G)
 .have ew:i=xs.length:=Cg (a0 [_,_,_] (aq ak au) af ak af al (eL hi)) (BP.mp av);rw[ew]at m aZ;refine gh (W.done s' _ _ m λay tk X D=>A3 (b6 X D R R) λah aB a9=>?_);exact EK (bU _ (k .aa am σ' _ .next (aT ah) aB a9 .aa (cF σ' aZ))).2
noncomputable def j6(c:Cx)(a:Y)(xs:List Y):Prop:=∀A g σ s L v,A.handled=B2->aA c g σ s->a8 c s.heap g.F g.a σ.aa a v->ka c A g σ s L v xs
noncomputable def AG(a:Nat->V->Prop)(k:Nat)(Q:bY->V->Prop):bY->V->Prop:=λb σ=>match b with| .aa=>a (k+1) σ| .eY=>a (k+1) σ| .eQ=>Q .aa σ| .c0 v=>Q (.c0 v) σ
inductive tz(c:Cx)(d:Nat)(ae:bB)(target:CQ)(bx:List DZ)(Q:bY->V->Prop)(a:Y)(σ₁:V):Prop
 |mk:∀xs,∀(Inv:Nat->V->Prop),j6 c a xs->Inv 0 σ₁->(∀k x σ₂,xs[k]?=H x->Inv k σ₂->∃σ₃,gC ae target σ₂ x σ₃/\WS c d ae bx σ₃ (AG Inv k Q) cm)->(∀σ₂,Inv xs.length σ₂->Q .aa σ₂)->tz c d ae target bx Q a σ₁
variable{c1:CQ}
theorem nH
  (h:WE c d ae c1 σ (tz c d ae target bx Q) X)
  (i:(λenv x=>Dl c1 env x)=(λenv x=>CV x):=by rfl):eK c d ae (.For target c1 bx [] pos) σ Q X:=
 λA g s L Fr b r f j=>Iu (WT.NZ h b r f j R (λa bg σ₁ ax bl k e l m n o p=>by
  obtain⟨xs,q,t,v,ac,w⟩:=p;exact tP b e l m n (t A bg σ₁ ax L bl b.G e o) q v ac w λz am σ' s' I B C D E F=>⟨z,am,σ',k.NT B,C,D,E,F⟩) λG G y=>y) (λx=>congrFun (congrFun i _) x)
theorem bA.NY{h:CG}(x:bA c h F ρ n as vs)(hv:vs[i]?=H v):∃a,as[i]?=H a/\a8 c h F ρ n a v:=by
 induction as generalizing vs i with
 |nil=>rw[x.OB]at hv;cases hv
 |cons a as b=>
  obtain⟨w,aR,rfl,h1,h2⟩:=x.NV
  cases i with
  |zero=>cases hv;exact⟨_,R,h1⟩
  |succ i=>exact b h2 hv
theorem tr{vs:Array Z}(f:A.handled=B2)(ao:s.heap.IsTuple a vs)(d:bA c s.heap g.F g.a σ.aa xs vs.toList):ka c A g σ s L (.ref a) xs:=λQ E k=>by
 refine wpAny_pyIter_tuple ao ?_;obtain⟨o,h1,h2,n,e⟩:=id ao;have j:=BZ (Ca h1);have l:vs.size=xs.length:=bP d.length Cq.symm
 refine k s.heap.objs.size _ _ _ _ (BJ _) ((dk (CH ..) (B3 _):_<(s.heap.push _).objs.size)) (cN _ _) (cR _ _) R R (l▸Walks.tuple f s.heap.objs.size a j vs)
  ⟨⟨_,B6 _ R,R,R⟩,⟨o,cN _ _ _ _ h1,h2,n,e⟩⟩ (λi v t hv=>d.NY (BK CN hv)) (λi h m=>?_) λb ac=>?_
 .obtain⟨⟨p,q,r,_⟩,_⟩:=m;exact⟨p,"tuple_iterator",q,r,by decide,by decide⟩
 .rcases BX.mp ac with rfl|ac
  .exact .inl R
  .rcases BX.mp ac with rfl|ac
   .exact .inr (.inl ⟨o,h1,h2,_,_,e⟩)
   .cases ac
theorem qb{vs:Array Z}(e:A.handled=B2)(ao:s.heap.IsList a vs)(d:bA c s.heap g.F g.a σ.aa xs vs.toList)(f:o5 c g σ L s.heap a):ka c A g σ s L (.ref a) xs:=λQ E k=>by
 refine wpAny_pyIter_list ao ?_;obtain⟨o,h1,h2,n,j⟩:=id ao;have l:=BZ (Ca h1);have m:vs.size=xs.length:=bP d.length Cq.symm
 refine k s.heap.objs.size _ _ _ _ (BJ _) ((dk (CH ..) (B3 _):_<(s.heap.push _).objs.size)) (cN _ _) (cR _ _) R R (m▸Walks.list e s.heap.objs.size a l vs)
  ⟨⟨_,B6 _ R,R,R⟩,⟨o,cN _ _ _ _ h1,h2,n,j⟩⟩ (λi v w hv=>d.NY (BK CN hv)) (λi h p=>?_) λb ac=>?_
 .obtain⟨⟨q,r,t,_⟩,_⟩:=p;exact⟨q,"list_iterator",r,t,by decide,by decide⟩
 .rcases BX.mp ac with rfl|ac
  .exact .inl R
  .rcases BX.mp ac with rfl|ac
   .exact .inr f
   .cases ac
theorem et.b2:j6 c (.b2 xs) xs:=λA g σ s L v a r hv=>by
 obtain⟨_,_,_,_,rfl,h1,h2,b,d⟩:=hv.NV;exact tr a ⟨_,h1,h2,_,b⟩ d
theorem et.TL{xs:List Cj}:j6 c (.ab (.tuple xs)) (xs.map .ab):=λA g σ s L v a r hv=>by
 obtain⟨_,x,b,d⟩:=hv.NV;obtain⟨_,_,_,_,rfl,h1,h2,e,f⟩:=nI x;exact tr a ⟨_,h1,h2,_,e⟩ (jD f b d)
theorem et.O1{xs:List Cj}:j6 c (.ab (.list xs)) (xs.map .ab):=λA g σ s L v d r hv=>by
 obtain⟨_,x,b,e⟩:=hv.NV;obtain⟨_,_,_,_,_,rfl,h1,h2,f,h,rfl⟩:=qz x;exact qb d ⟨_,h1,h2,_,f⟩ (jD h (λa an=>b a (.tail _ an)) e) (.inr (.inl (b _ (.head _))))
noncomputable def jc(x:O):List Y:=x.cps.toList.map λch=>.ab (.str ⟨#[ch]⟩)
theorem et.Ov:j6 c (.ab (.str x)) (jc x):=λA g σ s L v l r hv Q E k=>by
 obtain⟨_,y,B,p⟩:=hv.NV;obtain⟨t,rfl,_⟩:=EL y
 .have m:x.cps.size=(jc x).length:=by simp[jc]
  have q:∀ch∈x.cps,ch<0x110000:=by
   have:(x.cps.all λch=>decide (ch<0x110000))=u:=p;rw[FV]at this;intro ch w;simpa using this ch w
  have n:∀i v,i<(jc x).length->MU x i v->∃y,(jc x)[i]?=H y/\a8 c s.heap g.F g.a σ.aa y v:=λi v o z=>by
   obtain⟨ch,bb,h1,h2⟩:=z;subst h2;refine⟨.ab (.str ⟨#[ch]⟩),?_,.Ov _ _ ?_⟩
   .simp only[jc,Ck,CN,h1,JW]
   .simp[BR,q ch (GJ h1)]
  cases an:x.cps.all (·<128)with
  |true=>
   refine wpAny_pyIter_ascii an (k s.heap.objs.size [s.heap.objs.size] (MU x) _ _ (BJ _) ((dk (CH ..) (B3 _):_<(s.heap.push _).objs.size)) (cN _ _) (cR _ _) R R (m▸Walks.strAscii l s.heap.objs.size x t)
    ⟨_,B6 _ R,R,R⟩ n (λi h d=>?_) λb ac=>.inl (by simpa using ac))
   obtain⟨e,a⟩:=d;refine A3 a λf j o=>?_;clear a
   exact⟨e,"str_ascii_iterator",f,j,by decide,by decide⟩
  |false=>
   refine wpAny_pyIter_wide an (k s.heap.objs.size [s.heap.objs.size] (MU x) _ _ (BJ _) ((dk (CH ..) (B3 _):_<(s.heap.push _).objs.size)) (cN _ _) (cR _ _) R R (m▸Walks.strWide l s.heap.objs.size x t)
    ⟨_,B6 _ R,R,R⟩ n (λi h d=>?_) λb ac=>.inl (by simpa using ac))
   obtain⟨e,a⟩:=d;refine A3 a λf j o=>?_;clear a;exact⟨e,"str_iterator",f,j,by decide,by decide⟩
set_option tactic.hygienic true in
theorem et.fv(o:n<2^60):j6 c (.fv n) ((Ch n).map λ(i:Nat)=>.ab (.int (i:Int))):=λA g σ s L v e r hv Q E k=>by
 obtain⟨_,_,_,_,rfl,p,f⟩:=hv.NV
 rename_i a t bb v
 have d:Hs 0 (n:Int) 1=(n:Int):=by unfold Hs;simp;lia
 have j:HT 0 (n:Int) 1=u:=by
  have q:(n:Int)<1152921504606846976:=by lia
  unfold HT;refine U d ?_;simp[Lo];lia
 refine wpAny_pyIter_range f j<|U d<|k s.heap.objs.size [s.heap.objs.size] (λi v=>∃t,v=.int (0+i*1) t) (λi h=>IsRangeIter h s.heap.objs.size (0+(i:Nat)*1) ((n:Int)-(i:Nat)) 1) _ (BJ _) ((dk (CH ..) (B3 _):_<(s.heap.push _).objs.size)) (cN _ _) (cR _ _) R R ?_ ?_ (λi v hi hv=>?_) (λi h l=>?_) λb ac=>.inl (by simpa using ac)
 .have:=Walks.range (prog:=c.PG) (w:=c.w) e s.heap.objs.size 0 1 n;simpa using this
 .refine(?_:(s.heap.push _).get? _=_);refine BK (B6 _ R) ?_;simp[Ey]
 .obtain⟨t,rfl⟩:=hv;have m:i<n:=by simpa using hi
  refine⟨.ab (.int (i:Int)),by simp[m],?_⟩;have:=a8.Oh (c:=c) (h:=s.heap) (F:=g.F) (ρ:=g.a) (n:=σ.aa) (0+(i:Int)*1) t;simpa using this
 .exact⟨_,"range_iterator",l,R,by decide,by decide⟩
mutual
theorem Y.QW:∀a:Y,a.ren (λi=>i)=a
 | .ab d=>R
 | .aP i=>R
 | .bT v=>R
 | .bh C j=>R
 | .ed L cells=>congrArg (Y.ed L) (by simp)
 | .b2 xs=>congrArg Y.b2 (Y.Sf xs)
 | .fv n=>R
 | .c5 kvs=>R
 | .dN f s=>congrArg (Y.dN f) (Y.QW s)
 | .gJ T=>R
theorem Y.Sf:∀as:List Y,Y.Q6 (λi=>i) as=as
 |[]=>R
 |a::as=>by rw[Y.Q6,Y.QW a,Y.Sf as]
end
theorem bL.QW:∀o:bL,o.ren (λi=>i)=o
 | .aN xs=>R
 | .ev xs=>congrArg bL.ev (Y.Sf xs)
 | .ns names log=>congrArg (bL.ns names) (by simp[Y.QW])
 | .ar B2=>R
 | .ar (H v)=>congrArg (λv=>bL.ar (H v)) (Y.QW v)
 | .fH L cells d=>by simp[bL.ren]
 | .fI f b=>congrArg (λf=>bL.fI f b) (Y.QW f)
section
variable{c:Cx}{h:CG}{F:M->Prop}{ρ:Nat->M}{n k:Nat}
theorem eW.TI{o:bL}(x:eW c h F ρ n a o)(b:o.low k=u):eW c h F ρ k a o:=
 eW.PW (λd d=>R) (U (bL.QW ..) x) b
end
structure lc(cB σ':V):Prop where
 aj:∀i o,cB.NY i=H o->σ'.NY i=H o/\i<cB.aa/\o.low cB.aa=u
variable{cB:V}
theorem aA.Q3(r:aA c g σ' s)(h:lc cB σ'):aA c g cB s:=
 ⟨r.q,r.bX,r.t,r.k,λi o hi=>⟨(h.aj i o hi).2.1,(r.N5 i o (h.aj i o hi).1).2⟩,λi o hi=>(r.bh i o (h.aj i o hi).1).TI (h.aj i o hi).2.2,λi j b d hi f=>r.A i j b d (h.aj i b hi).1 (h.aj j d f).1,r.aK,r.Ob,r.C,r.cJ,λa an=>(r.bE a an).to (λaX k=>by obtain⟨i,o,hi,e⟩:=k;exact aX ⟨i,o,(h.aj i o hi).1,e⟩) id λl e=>e⟩
theorem lc.bm(h:lc cB σ')(x:b3 g cB a):b3 g σ' a:=by obtain⟨i,o,hi,e⟩:=x;exact⟨i,o,(h.aj i o hi).1,e⟩
theorem aF.Q3(x:aF c T g σ s am σ' s')(h:lc cB σ')(b:σ.aa<=cB.aa):aF c T g σ s am cB s':=
 ⟨x.bM,x.bE,x.p,x.bX,x.r,b,λa an=>x.bm a (h.bm an),x.aK,x.Ot⟩
noncomputable def db(aY a:Ef):Ef:={aY with names:=aY.names.map λ(n,k)=>if(k== .free&&a.kind== .function&&a.names.lookup n==H .cell)then(n,.cell)else(n,k)}
noncomputable def gR(cells:List (O×Nat)):List (O×Gi)->List (O×Nat)->Option (List (O×Nat))
 |[],ba=>H ba
 |(x,k)::r,ba=>if k== .free then(match cells.lookup x with|some i=>gR cells r ((x,i)::ba)|none=>B2)else gR cells r ba
theorem sU{cells:List (O×Nat)}{x:O}{k:Gi}{r:List (O×Gi)}{ba:List (O×Nat)}:gR cells ((x,k)::r) ba=if k== .free then(match cells.lookup x with|some i=>gR cells r ((x,i)::ba)|none=>B2)else gR cells r ba:=R
theorem sQ:∀{l:List (O×aO)}{x:O}{a:aO},l.lookup x=H a->(x,a)∈l:=by
 intro r
 induction r with
 |nil=>
  intro _ _ h
  cases h
 |cons c r d=>
  obtain⟨y,b⟩:=c;intro x a h;replace h:=Fs.symm.trans h
  cases ac:x==y with
  |true=>rw[ac]at h;cases h;exact U (beq_iff_eq.mp ac) (.head _)
  |false=>rw[ac]at h;exact .tail _ (d h)
theorem xQ{env:E6}{cells:List (O×Nat)}(e:env.cells=dZ ρ cells):∀(ns:List (O×Gi))(ba cl:List (O×Nat)),gR cells ns ba=H cl->
  (HW ns (dZ ρ ba) λx r=>(if(x.2==HP)=u then do {let a ←L2 env x.1;CV (Eb ((x.1,a)::r))}else CV (Eb r):FB (ForInStep (List (O×M)))))=CV (dZ ρ cl):=by
 intro ns
 induction ns with
 |nil=>
  intro ba cl h
  cases h;rfl
 |cons f ns d=>
  obtain⟨x,k⟩:=f;intro ba cl h;refine BK (EE ..) ?_;rw[sU]at h
  by_cases b:(k==HP)=u
  .replace h:=(if_pos b).symm.trans h;refine U (if_pos b) ?_
   cases c:cells.lookup x with
   |none=>rw[c]at h;cases h
   |some i=>
    rw[c]at h
    have aL:L2 env x=CV (ρ i):=by
     unfold L2;exact U e (U (mZ ρ x cells c) R)
    refine U aL<|d ((x,i)::ba) cl h
  .replace h:=(if_neg b).symm.trans h;refine U (if_neg b)<|d ba cl h
variable{aY:Ef}
theorem me(h:gR ae.b0 aY.names []=H cl):M3 aY (ae.N3 ρ L Fr)=CV (dZ ρ cl):=by
 have:=xQ (env:=ae.N3 ρ L Fr) R aY.names [] cl h;unfold M3;show(HW aY.names [] _>>=λa9=>CV a9)=_
 have e:(HW aY.names ([]:List (O×M)) λx r=>(match x with
   |(bj,b)=>if(b==HP)=u then do {let a ←L2 (ae.N3 ρ L Fr) bj;CV (Eb ((bj,a)::r))}else CV (Eb r):Sem (ForInStep (List (Str×Addr)))))=CV (dZ ρ cl):=this
 first
  |(exact U e R)
  |(simp only[bind_pure];exact this)
  |exact this
theorem m9{cells:List (O×Nat)}(aL:∀q∈cells,q.2<n):∀(ns:List (O×Gi))(ba cl:List (O×Nat)),gR cells ns ba=H cl->(∀q∈ba,q.2<n)->∀q∈cl,q.2<n:=by
 intro ns
 induction ns with
 |nil=>
  intro ba cl h an
  cases h;exact an
 |cons d ns c=>
  obtain⟨x,k⟩:=d;intro ba cl h an;rw[sU]at h;split at h
  .cases a:cells.lookup x with
   |none=>rw[a]at h;cases h
   |some i=>
    rw[a]at h
    exact c _ cl h λq b=>by
     rcases BX.mp b with rfl|b
     .exact aL _ (sQ a)
     .exact an q b
  .exact c ba cl h an
section
variable{c:Cx}{g:Gh}{σ:V}{s:BN}{names:List O}{L:M}{T:M->Prop}
theorem aA.PK(r:aA c g σ s)(f:¬b3 g σ a)(j:a<s.heap.objs.size)(k:¬c.N9 a)(l:a∉c.bE):aA c (g.aK a) σ s:=by
 have K:dc s.heap s.heap g.F (g.aK a).F:=⟨λa o e d=>e,λa o d e=>e,λd e=>.inl e⟩;refine⟨r.q,r.bX,r.t,λp ai=>(r.k p ai).be K R,λi o hi=>⟨(r.N5 i o hi).1,(r.N5 i o hi).2.1,λh=>?_⟩,λi o hi=>(r.bh i o hi).be K (λd d=>R) (BJ _) (λm e=>e),r.A,λb ac=>?_,r.Ob,r.C,r.cJ,λb ac=>(r.bE b ac).to id (λbc h=>h.elim bc λ(e:b=a)=>l (e▸ac)) λd e=>e⟩
 .rcases h with h|h
  .exact(r.N5 i o hi).2.2 h
  .exact f ⟨i,o,hi,h⟩
 .rcases ac with ac|rfl
  .exact r.aK b ac
  .exact⟨j,k⟩
theorem aF.PK(x:aF c T g σ s am σ' s')(an:s.heap.objs.size<=a):aF c T g σ s (am.aK a) σ' s':=
 ⟨x.bM,x.bE,⟨x.p.b2,x.p.aK,λb ac=>.inl (x.p.N8 b ac)⟩,x.bX,x.r,x.aa,x.bm,λb ac=>ac.elim (x.aK b) λ(e:b=a)=>.inr (.inl (dH e an)),x.Ot⟩
theorem bd.PK(f:bd c names L g σ s)(an:a≠L):bd c names L (g.aK a) σ s:=by
 have K:dc s.heap s.heap g.F (g.aK a).F:=⟨λa o e i=>e,λa o i e=>e,λi e=>.inl e⟩;obtain⟨bv,o,h1,h2,j,l⟩:=f.ns;exact⟨f.low,f.bm,λh=>h.elim f.aK λ(e:L=a)=>an e.symm,bv,o,h1,h2,j,λk v m=>by obtain⟨x,n,a,b,d⟩:=l k v m;exact⟨x,n,a,b,d.be K (λi i=>R) (BJ _)⟩⟩
theorem aA.P3{o:bL}(r:aA c g σ s)(n:¬b3 g σ a)(w:¬g.F a)(x:c.i.objs.size<=a)(y:a∉c.bE)(z:eW c s.heap g.F (cu g.a σ.aa a) (σ.aa+1) a o):aA c ⟨cu g.a σ.aa a,g.F⟩ (σ.N0 o) s:=by
 have K:dc s.heap s.heap g.F g.F:=.N6 _ _
 have k:∀i d,(σ.N0 o).NY i=H d->(i=σ.aa/\d=o)\/(i<σ.aa/\σ.NY i=H d):=λi d h=>by
  unfold V.NY V.N0 at h;rw[de]at h
  by_cases hi:i=σ.aa
  .rw[if_pos hi]at h;exact .inl ⟨hi,(CO h).symm⟩
  .rw[if_neg hi]at h;exact .inr ⟨(r.N5 i d h).1,h⟩
 refine⟨r.q,r.bX,r.t,r.k,λi d h=>?_,λi d h=>?_,λi j l m hi A e=>?_,r.aK,r.Ob,r.C,r.cJ,λb ac=>(r.bE b ac).to (λaX h=>(jI r h).elim aX λ(e:b=a)=>y (e▸ac)) id λB e=>e⟩
 .rcases k i d h with⟨rfl,rfl⟩|⟨hi,h⟩
  .refine⟨B3 _,?_⟩;refine(?_:_<=cu g.a σ.aa a σ.aa/\¬g.F (cu g.a σ.aa a σ.aa));exact U (fc ..) ⟨x,w⟩
  .refine⟨C3 hi,?_⟩;refine(?_:_<=cu g.a σ.aa a i/\¬g.F (cu g.a σ.aa a i));exact U (eu _ _ _ _ hi) ((r.N5 i d h).2)
 .rcases k i d h with⟨rfl,rfl⟩|⟨hi,h⟩
  .refine(?_:eW _ _ _ _ _ (cu g.a σ.aa a σ.aa) _);exact U (fc ..) z
  .refine(?_:eW _ _ _ _ _ (cu g.a σ.aa a i) _);refine U (eu _ _ _ _ hi)<|(r.bh i d h).be K (eu _ _ _) (Cr _) (λC e=>e)
 .have f:cu g.a σ.aa a i=cu g.a σ.aa a j:=e;rcases k i l hi with⟨p,D⟩|⟨q,h⟩ <;> rcases k j m A with⟨t,E⟩|⟨v,ay⟩
  .exact BK p (bP t R)
  .rw[p,fc,eu _ _ _ _ v]at f;exact absurd ⟨j,m,ay,f.symm⟩ n
  .rw[t,fc,eu _ _ _ _ q]at f;exact absurd ⟨i,l,h,f⟩ n
  .rw[eu _ _ _ _ q,eu _ _ _ _ v]at f;exact r.A i j l m h ay f
theorem aF.P3{o:bL}(x:aF c T g σ s am σ' s')(d:aA c am σ' s')(an:s.heap.objs.size<=a):aF c T g σ s ⟨cu am.a σ'.aa a,am.F⟩ (σ'.N0 o) s':=
 ⟨x.bM,x.bE,x.p,x.bX,λi hi=>(eu _ _ _ _ (BL hi x.aa)).trans (x.r i hi),Co x.aa,λb ac=>(jI d ac).elim (x.bm b) λ(e:b=a)=>.inr (dH e an),x.aK,x.Ot⟩
theorem bd.P3{o:bL}(f:bd c names L g σ s)(r:aA c g σ s)(an:a≠L):bd c names L ⟨cu g.a σ.aa a,g.F⟩ (σ.N0 o) s:=by
 have K:dc s.heap s.heap g.F g.F:=.N6 _ _;obtain⟨bv,i,h1,h2,j,l⟩:=f.ns;exact⟨f.low,λh=>(jI r h).elim f.bm λ(e:L=a)=>an e.symm,f.aK,bv,i,h1,h2,j,λk v m=>by obtain⟨x,n,a,b,d⟩:=l k v m;exact⟨x,n,a,b,d.be K (eu _ _ _) (Cr _)⟩⟩
end
structure lf(aO:Type) where
 fY:Cx->CG->(M->Prop)->(Nat->M)->Nat->M->aO->Prop
 be:∀{c:Cx}{h ay:CG}{F F':M->Prop}{ρ dx:Nat->M}{n eI:Nat}{D:M}{x:aO},dc h ay F F'->(∀i,i<n->dx i=ρ i)->n<=eI->(∀o,h.get? D=H o->ay.get? D=H o)->fY c h F ρ n D x->fY c ay F' dx eI D x
 cp:∀{c:Cx}{h:CG}{F:M->Prop}{ρ:Nat->M}{n:Nat}{D:M}{x:aO},fY c h F ρ n D x->∃o,h.get? D=H o/\o.cls≠.type "tuple"
noncomputable def hU:lf (List Y) where
 fY c h F ρ n D xs:=∃o vs k,h.get? D=H o/\iA o/\o.data=.seq vs k/\bA c h F ρ n xs vs.toList
 be K e a b:=by rintro⟨o,vs,k,h1,h2,d,f⟩;exact⟨o,vs,k,b _ h1,h2,d,f.be K e a⟩
 cp:=λg=>by obtain⟨o,vs,k,h1,h2,_⟩:=g;exact⟨o,h1,by refine U h2.1 ?_;decide⟩
noncomputable def iz:lf (List (O×Cj)) where
 fY c h F ρ n D kvs:=∃aR as,h.DictOf (Fq c.PG c.w) D aR/\kvs.map (·.1)=aR.map (·.1)/\C7 h (aR.map (·.2)) (kvs.map (·.2)) as/\(∀a∈as,F a)/\Cy (kvs.map (·.2))=u
 be K e m f:=by
  rintro⟨aR,as,h1,h2,g,b,i⟩;exact⟨aR,as,h1.at f,h2,K.QN g b,λa an=>K.N8 a (b a an),i⟩
 cp:=λj=>by
  obtain⟨aR,as,h1,_⟩:=j;obtain⟨o,bS,p,d⟩:=h1;refine A3 d λk l q=>?_;clear d;exact⟨o,k,by refine U l.1 ?_;decide⟩
noncomputable def nW(c:Cx)(d:Nat)(ae:bB)(K:lf aO)(e:M->E6->FB Unit)(σ:V)(x:aO)(Q:aO->V->Prop):Prop:=
 ∀A g s L Fr D,dq c A d->aA c g σ s->bd c ae.aG L g σ s->ae.Ok c σ.aa->fT c g σ L s.heap D->K.fY c s.heap g.F g.a σ.aa D x->∀(a:Unit->BN->Prop)(E:Z->BN->Prop),
  (∀am σ' s' b,aF c (mH L D) g σ s am σ' s'->aA c am σ' s'->bd c ae.aG L am σ' s'->K.fY c s'.heap am.F am.a σ'.aa D b->Q b σ'->a () s')->B9 c.NU A (e D (ae.N3 g.a L Fr)) a E s
noncomputable abbrev i5(c:Cx)(d:Nat)(ae:bB)(cV:List CQ)(σ:V)(Q:Bool->V->Prop):Prop:=
 WT hX c d ae (λenv=>HW cV u λt r=>if r=u then do let a ←It t env (EJ t env);CV (Eb a)else CV (Eb r)) σ Q cm
variable{Q:Bool->V->Prop}
theorem eT(h:Q u σ):i5 c d ae [] σ Q:=λA g s L Fr a r f b=>by
 refine(?_:B9 c.NU A (HW [] u _) _ _ s);refine U Fb<|wpAny_pure ⟨u,g,σ,.N6 ..,r,f,R,h⟩
theorem iH(h:WB c d ae t σ Q cm):i5 c d ae [t] σ Q:=λA g s L Fr a r f e=>by
 refine(?_:B9 c.NU A (HW [t] u _) _ _ s);refine U (EE ..) (U (if_pos R) (BM (BM (WT.NZ h a r f e R (λb bg σ₁ ax bl i j k o p l m=>BW ?_) λn n y=>y))));refine(?_:B9 c.NU A (HW [] bl _) _ _ ax);refine U Fb<|wpAny_pure ⟨b,bg,σ₁,i,j,k,l,m⟩
noncomputable def mz(target c1:CQ)(cV:List CQ)(b:M->E6->FB Unit)(e:CQ)(it:Z)(D:M)(env:E6):FB Lp:=do
 F6 c1.pos
 match ←Hd it with
 |none=>CV (.done .next)
 |some v=>
  DE target it v
  Gf target env v
  let a ←HW cV u λt r=>if r=u then do let a ←It t env (EJ t env);CV (Eb a)else CV (Eb r)
  if a then b D env
  again (.compLoop e 0 it (.ref D) env)
noncomputable def wb(C I D:M):M->Prop:=λa=>a=C\/a=I\/a=D
theorem aF.QH(x:aF c T g σ s am σ' s')(h:fT c g σ L s.heap a)(b:a<s.heap.objs.size)(ao:∀o,s'.heap.get? a=H o->o.cls≠.type "tuple"):fT c am σ' L s'.heap a:=
 ⟨x.P1 h.bm b,λaJ=>(x.aK a aJ).elim h.aK λaJ=>aJ.elim (λaJ=>absurd b (BP.mpr aJ)) h.bm,h.low,h.ag,ao,h.OD⟩
theorem vI{c:Bx}{a:Code}{cw:KJ->BN->Prop}(d:a.quiet=u)(b:Nat->BN->Prop)
  (e:∀n s(K:Lp->BN->Prop)(E:Z->BN->Prop),b n s->(∀m s',m<n->b m s'->K (.again a) s')->(∀s',cw (.ok .next) s'->K (.done .next) s')->B9 c.NU (A.under a) (c.NU.den a) K E s)(n:Nat)(h:b n s):E9 c.NU A a cw s:=
 codeAny_loop d b (λn s h=>e n s _ _ h (λm f g h=>⟨R,m,g,h⟩) λf h=>h) n h
variable{cV:List CQ}{oi:FB Z}
theorem wD{K:lf aO}{bS:aO}{dx:M->E6->FB Unit}{ae':bB}{cC:Ge}
  (cE:∀A it D env s(Q:Lp->BN->Prop)(E:Z->BN->Prop),B9 c.NU A (mz target c1 cV dx e it D env) Q (IQ c.NU A env E) s->B9 c.NU (A.under (.compLoop e 0 it (.ref D) env)) (c.NU.den (.compLoop e 0 it (.ref D) env)) Q E s)
  (cM:∀A cw s it ba env,E9 c.NU A (.compLoop e 0 it ba env) cw s->B9 c.NU A (HF it) (λg2 s'=>E9 c.NU A (.compLoop e 0 g2 ba env) cw s') (IQ c.NU A env λx s'=>cw (.error x) s') s->E9 c.NU A (.compStart e 0 it ba env) cw s)
  (g3:∀(s:BN)(Q:Z->BN->Prop)(E:Z->BN->Prop),Q (.ref s.heap.objs.size) {s with heap:=s.heap.push cC}->B9 c.NU A oi Q E s)
  (dG:∀(h:CG)F ρ n,K.fY c (h.push cC) F ρ n h.objs.size bS)
  (bU:dq c A d)(r:aA c g σ s)(f:bd c ae.aG L g σ s)(g4:ae.Ok c σ.aa)(g5:ka c A g σ s L v xs)
  (hs:gR ae.b0 aY.names []=H cl)(dO:ae'.aM=db aY ae.aM/\ae'.b0=fs σ.aa aY.names cl/\ae'.fu=ae.fu/\ae'.gb=B2/\ae'.fk=ae.fk)(bk:ae'.Ok c (σ.Ob.b0 aY.names).aa)
  (a9:Nat->V->aO->Prop)(hu:a9 0 (σ.Ob.b0 aY.names) bS)
  (hw:∀k y σ₁ x,xs[k]?=H y->a9 k σ₁ x->∃cF,gC ae' target σ₁ y cF/\i5 c d ae' cV cF λb dW=>(b=u->nW c d ae' K dx dW x λhx X=>a9 (k+1) X hx)/\(b=BQ->a9 (k+1) dW x))
  {cG:Z->M->KJ->BN->Prop}
  (bl:∀C D am σ' s' x,a9 xs.length σ' x->aF c e6 g σ s am (σ'.N1 σ) s'->aA c am σ' s'->K.fY c s'.heap am.F am.a σ'.aa D x->fT c am σ' L s'.heap D->D<s'.heap.objs.size->s.heap.objs.size<=D->(∃m,s'.heap.Ns C m)->fT c am σ' L s'.heap C->s.heap.objs.size<=C->C≠D->cG (.ref D) C (.ok .next) s'):
  B9 c.NU A (HF v) (λit ah=>B9 c.NU A oi (λba d1=>B9 c.NU A (EC aY (ae.N3 g.a L Fr).globals (dZ g.a cl) [] (ae.N3 g.a L Fr).qual B2 .none (H (ae.N3 g.a L Fr))) (λd2 ai=>
   E9 c.NU A (.compStart e 0 it ba {d2 with scope:=relabel aY (ae.N3 g.a L Fr)}) (cG ba d2.locals) ai) E d1) E ah) E s:=by
 refine g5 _ _ λI Ce P St ax S d9 dy ef eg hy W hP hQ eo ew=>g3 ax _ _ ?_;have ii:=bk.OZ;refine A5 dO λeB ij iJ iK iL=>?_;clear dO
 let D:=ax.heap.objs.size
 let ah:BN:={ax with heap:=ax.heap.push cC}
 have bb:∀b o,s.heap.get? b=H o->ah.heap.get? b=H o:=λb o q=>cN _ _ _ _ (dy b o q);have av:s.heap.objs.size<=ah.heap.objs.size:=BG ef (cR _ _);have b6:=r.Oc bb av eg hy;have ji:=m9 g4.b0 aY.names [] cl hs (λp h=>nomatch h)
 let bu:bB:={ae' with aM:=aY,bN:=[]}
 have jj:aY.kind=.function:=by have:=bk.L;rw[eB]at this;exact this
 have jk:bu.Ok c (σ.Ob.b0 aY.names).aa:=⟨jj,ii,λp h=>(nomatch h),bk.b0⟩
 have cH:EC aY (ae.N3 g.a L Fr).globals (dZ g.a cl) [] (ae.N3 g.a L Fr).qual B2 .none (H (ae.N3 g.a L Fr))=
   EC bu.aM C1 (dZ g.a cl) (([]:List O).zip ([]:List Z)) bu.fu bu.gb .none (H (ae.N3 g.a L Fr)) Dy:=by
  exact U iJ (U iK R)
 refine U cH<|lM bU b6 ji ij jk (.a6 _) .a6 ⟨R,iL,R⟩ λC G ai aB B jl jm p=>?_
 let X:=σ.Ob.b0 aY.names
 have jT:({bu.N3 G.a C (if(H (ae.N3 g.a L Fr)).isSome then Fr else C)with scope:=relabel aY (ae.N3 g.a L Fr)}:E6)=ae'.N3 G.a C Fr:=by
  refine(?_:_=({scope:=ae'.aM,locals:=C,globals:=C1,cells:=dZ G.a ae'.b0,qual:=ae'.fu,func:=ae'.gb,code:=ae'.fk,frame:=H Fr,builtins:=Dy}:E6));exact U eB R
 refine U jT ?_;have jU:bd c ae'.aG C G X ai:=jm;have bx:D<ah.heap.objs.size:=(dk (CH ..) (B3 _):_<(ax.heap.push _).objs.size);have cK:=BL bx B.bX;have bf:I<ah.heap.objs.size:=BL d9 (cR _ _);have eC:=BZ d9;have b9:=BZ (BL bx aB);have eH:=BZ (BL bf aB);have N:s.heap.objs.size<=D:=ef;have cj:∀a,s.heap.objs.size<=a->a<ah.heap.objs.size->¬b3 G X a:=λa h1 h2 aL=>(B.bm a aL).elim (λh=>absurd (r.OO h) (BP.mpr h1)) λh=>absurd h2 (BP.mpr h);have eI:∀a,s.heap.objs.size<=a->a<ah.heap.objs.size->¬G.F a:=λa h1 h2 aL=>(B.aK a aL).elim (λh=>absurd (r.aK a h).1 (BP.mpr h1)) λh=>h.elim (λh=>absurd h2 (BP.mpr h)) λh=>absurd (r.OO h) (BP.mpr h1);have ck:∀a,s.heap.objs.size<=a->¬c.N9 a:=λa h1 h=>absurd (r.t a h) (BP.mpr (BG r.bX h1));have aE:∀a,s.heap.objs.size<=a->a∉c.bE:=λa h1=>r.Ru h1
 have Cf:∀o,ah.heap.get? D=H o->o.cls≠.type "tuple":=λo w=>by
  obtain⟨aR,aT,aX⟩:=K.cp (dG ax.heap (λp=>True) (λi=>i) 0);replace w:=(show ah.heap.get? D=H aR from aT).symm.trans w;cases w;exact aX
 have kH:=λo w=>B.bM D o w (λh=>absurd (b6.OO h) (by
  intro _;exact absurd (r.OO h) (BP.mpr N))) (λh=>h) (ck D N) (aE D N)
 have kI:K.fY c ai.heap G.F G.a X.aa D bS:=K.be (F:=λp=>False) (h:=ah.heap) ⟨B.p.b2,λp p h=>h.elim,λp h=>h.elim⟩ (λp p=>R) (Cm _) kH (dG ax.heap _ _ 0)
 have eS:St 0 ai.heap:=by
  refine W.frame 0 _ _ hP λb ac o w=>?_;have bg:ah.heap.get? b=H o:=cN _ _ _ _ w;rcases ew b ac with q|⟨aR,h1,h2⟩|h|⟨h1,h2,aL,bz,cS⟩
  .exact q▸B.bM I o (q▸bg) (λh=>absurd (r.OO h) (BP.mpr S)) (λh=>h) (ck _ S) (aE _ S)
  .have:=bb _ _ h1;replace bg:=this.symm.trans bg;cases bg;exact B.p.b2 b _ this h2
  .exact B.p.aK b o h bg
  .exact B.bM b o bg h1 (λh=>h) aL cS
 let T':M->Prop:=wb C I D
 have e9:∀{am:Gh}{σ':V}{s':BN}{i:Nat},aF c T' G X ai am σ' s'->St i s'.heap->fT c am σ' C s'.heap I:=λ{am σ' s' i}x ap=>by
  refine⟨x.P1 (cj I S bf) (BL bf B.bX),λh=>?_,BG r.bX S,eH,λo w=>?_,aE I S⟩
  .rcases x.aK I h with h|h|h
   .exact eI I S bf h
   .exact absurd (BL bf B.bX) (BP.mpr h)
   .exact cj I S bf h
  .obtain⟨aR,n,bC⟩:=eo i _ ap;refine A4 bC λaT aX bc p=>?_;clear bC;replace aT:=w.symm.trans aT;cases aT;exactλq=>bc (Ji (aX.symm.trans q))
 have bD:∀{am:Gh}{σ':V}{s':BN}{x:aO},aF c T' G X ai am σ' s'->K.fY c s'.heap am.F am.a σ'.aa D x->fT c am σ' C s'.heap D:=λ{am σ' s' y}x ap=>by
  refine⟨x.P1 (cj D N bx) cK,λh=>?_,BG r.bX N,b9,λo w=>?_,aE D N⟩
  .rcases x.aK D h with h|h|h
   .exact eI D N bx h
   .exact absurd cK (BP.mpr h)
   .exact cj D N bx h
  .obtain⟨aR,aT,aX⟩:=K.cp ap;replace aT:=w.symm.trans aT;cases aT;exact aX
 have cW:∀{am aW:Gh}{σ' cB:V}{s' s'':BN}{i:Nat},aF c T' G X ai am σ' s'->aF c (mH C D) am σ' s' aW cB s''->St i s'.heap->St i s''.heap:=λ{am aW σ' cB s' s'' i}x y ap=>by
  refine W.frame i _ _ ap λb ac o w=>?_
  by_cases cX:b=I
  .exact cX▸y.bM I o (cX▸w) (e9 x ap).bm (λh=>h.elim eH eC) (ck _ S) (aE _ S)
  .rcases(ew b ac).resolve_left cX with⟨aR,h1,h2⟩|h|⟨h1,h2,aL,bz,cS⟩
   .have q:=x.p.b2 b aR (B.p.b2 b aR (bb _ _ h1) h2) h2;replace w:=q.symm.trans w;cases w;exact y.p.b2 b _ q h2
   .exact y.p.aK b o (x.p.N8 b (B.p.N8 b h)) w
   .refine y.bM b o w (x.P1 (B.P1 h1 (BL bz av)) (BL bz (BG av B.bX))) (λh=>h.elim (λq=>BP.mpr (BG av aB) (q▸bz)) λq=>BP.mpr N (q▸bz)) aL cS
 have fa:∀{am aW:Gh}{σ' cB:V}{s' s'':BN}{x:aO}{T:M->Prop},fT c am σ' C s'.heap D->aF c T am σ' s' aW cB s''->¬T D->K.fY c s'.heap am.F am.a σ'.aa D x->K.fY c s''.heap aW.F aW.a cB.aa D x:=λ{am aW σ' cB s' s'' x T}kJ y lG cq=>
  K.be y.p y.r y.aa (λo w=>y.bM D o w kJ.bm lG (ck D N) (aE D N)) cq
 let lH:KJ->BN->Prop:=cG (.ref D) C
 have fn:E9 c.NU A (.compLoop e 0 (.ref I) (.ref D) (ae'.N3 G.a C Fr)) lH ai:=by
  let mB:Nat->BN->Prop:=λn s'=>∃i am σ' x,i+n=xs.length/\St i s'.heap/\aF c T' G X ai am σ' s'/\aA c am σ' s'/\bd c ae'.aG C am σ' s'/\K.fY c s'.heap am.F am.a σ'.aa D x/\a9 i σ' x
  refine vI R mB (λn s' Ch Ci mD fo mE=>?_) xs.length ⟨0,G,X,bS,Ek _,eS,.N6 ..,jl,jU,kI,hu⟩;obtain⟨i,am,σ',x,bC⟩:=mD;refine A7 bC λhi ap y qm uo cq c2=>?_;clear bC;refine cE _ _ _ _ _ _ _ ?_;unfold mz;have fp:=bk.be y.aa;have fx:=bk.Pi y.r C Fr;have cs:=e9 y ap;have Cj:=bD y cq
  have fJ:∀{s'':BN},(∀b o,b∉[I]->s'.heap.get? b=H o->s''.heap.get? b=H o)->s'.heap.objs.size<=s''.heap.objs.size->s''.gens=s'.gens->s''.os=s'.os->
    aF c T' G X ai am σ' s''/\aA c am σ' s''/\bd c ae'.aG C am σ' s''/\K.fY c s''.heap am.F am.a σ'.aa D x:=λ{s''}bl bi fK uq=>by
   have aZ:=λa o an e=>bl a o (by simpa using an) e
   have fQ:dc s'.heap s''.heap am.F am.F:=⟨λa o e t=>aZ a o (λq=>cs.b2 o (q▸e) t.1) e,λa o h e=>aZ a o (λq=>cs.aK (q▸h)) e,λp h=>h⟩
   refine⟨⟨λa o e w ao cE bj=>aZ a o (λq=>ao (.inr (.inl q))) (y.bM a o e w ao cE bj),λa o bj ao e=>(y.bE a o bj ao e).imp λCk cH=>aZ _ _ (λq=>aE I S (q▸bj)) cH,y.p.NT fQ,BG y.bX bi,y.r,y.aa,y.bm,y.aK,λj z h=>U fK (y.Ot j z h)⟩,
    qm.Pa cs aZ bi fK uq,uo.Pa cs aZ,K.be fQ (λp p=>R) (BJ _) (λo q=>aZ D o (DN eC) q) cq⟩
  refine BM (C6 ?_)
  by_cases bH:i<xs.length
  .refine BM (gh (W.item i s' _ _ bH ap λv ay tk ur fR bl bi=>A4 (fJ bl bi R R) λaJ b6 a4 bQ=>?_));refine BM (pQ (eo _ _ fR) ?_);obtain⟨a,us,ut⟩:=hQ i v bH ur;obtain⟨cF,ao,ac⟩:=hw i a σ' x us c2;have Bu:=aJ.Ou (B.Ou (a8.be (K:=⟨λa o e p=>bb a o e,λa o p e=>bb a o e,λp e=>e⟩) (λp p=>R) (BJ _) ut));refine BM (ao.O3 bU b6 a4 fp Bu fx λd1 cx Bv BE=>?_);have c6:=bD aJ bQ;have fS:=fa c6 cx (λ(h:D=C)=>b9 h) bQ;have c7:=aJ.NT (cx.N8 λp h=>.inl h);have BF:=cW aJ (cx.N8 λp h=>.inl h) fR;have BH:=fp.be cx.aa;refine BM (WT.NZ ac bU Bv BE BH fx (λb gc BK BO BR df gw gx BU gy di gK=>?_) λp p y=>y.no);have di:b=BR:=di;subst di;have BV:=bD c7 fS;have dj:=fa BV df (λ(h:D=C)=>b9 h) fS;have cA:=c7.NT (df.N8 λp h=>.inl h);have gL:=cW c7 (df.N8 λp h=>.inl h) BF
   cases b with
   |false=>exact BM (BW (BW (fo (n-1) _ ((eL (Cc (aV [_,_,_] af (aq au ak) bV af a7 ak al (eR hi) bH)))) ⟨i+1,gc,BK,x,by lia,gL,cA,gw,gx,dj,gK.2 R⟩)))
   |true=>
    refine br gy<|wpAny_bind (gK.1 R A gc BO C Fr D bU gw gx BU (bD cA dj) dj _ _ λBX BY Cn B0 gU B1 B4 B5 B6=>BW (U gy (fo (n-1) _ ((eL (Cc (aV [_,_,_] af (aq au ak) bV af a7 ak al (eR hi) bH)))) ⟨i+1,BX,BY,B0,by lia,cW cA gU gL,cA.NT (gU.N8 λa h=>h.elim .inl λh=>.inr (.inr h)),B1,B4,B5,B6⟩)))
  .have B7:i=xs.length:=Cg (a0 [_,_,_] (aq ak au) af ak af al (eL hi)) (BP.mp bH);rw[B7]at ap c2;refine BM (gh (W.done s' _ _ ap λay tk B8 bi=>A4 (fJ B8 bi R R) λaJ Cb a4 bQ=>?_));have c6:=bD aJ bQ;refine BW (mE _ (bl C D am σ' _ x c2 ?_ Cb bQ ?_ (BL cK aJ.bX) N ?_ ?_ (BG av aB) (DN b9)))
   .have dt:=((aF.N6 c T' g σ s).Oc bb av eg).NT ((B.N8 λp h=>h.elim).NT (aF.ag (l:=X.ag) (m':=σ.ag) aJ));exact{dt with bM:=λa o q w p Cd=>dt.bM a o q w (λh=>sf h (BG av aB) S N (Ca q)) Cd,bE:=λa o bj p q=>dt.bE a o bj (λh=>sf h (BG av aB) S N (Ca q)) q}
   .obtain⟨_,_,du,_⟩:=f.ns;exact{c6 with ag:=λh=>absurd (Ca du) (br h (BP.mpr N))}
   .obtain⟨bv,o,aT,aX,bc,_⟩:=a4.ns;exact⟨bv,bc.ns⟩
   .obtain⟨_,_,du,_⟩:=f.ns;exact⟨a4.bm,a4.aK,a4.low,λh=>absurd (Ca du) (br h (BP.mpr (BG av aB))),a4.QH,aE C (BG av aB)⟩
 exact cM _ _ _ _ _ _ fn (W.self 0 _ _ _ eS fn)
structure kS(w σ:V):Prop where
 aa:w.aa=σ.aa
 aj:∀i o,J w.aj i=H o->J σ.aj i=H o
variable{w:V}
theorem kS.bm(h:kS w σ)(x:b3 g w a):b3 g σ a:=by obtain⟨i,o,hi,e⟩:=x;exact⟨i,o,h.aj i o hi,e⟩
theorem aA.Q2(r:aA c g σ s)(h:kS w σ):aA c g w s:=
 ⟨r.q,r.bX,r.t,r.k,λi o hi=>U h.aa (r.N5 i o (h.aj i o hi)),λi o hi=>U h.aa (r.bh i o (h.aj i o hi)),λi j b d hi f=>r.A i j b d (h.aj i b hi) (h.aj j d f),r.aK,r.Ob,r.C,r.cJ,
  λa an=>(r.bE a an).to (λaX q=>aX (h.bm q)) id λk e=>e⟩
theorem aF.Q2(x:aF c T g σ s am σ' s')(h:kS w σ'):aF c T g σ s am w s':=
 ⟨x.bM,x.bE,x.p,x.bX,x.r,dH h.aa x.aa,λa an=>x.bm a (h.bm an),x.aK,x.Ot⟩
inductive LQ(σ σ':V)(ba:List Y)(Q:Y->V->Prop):Prop
 |mk:∀cB,(lc cB σ'\/kS cB σ')->cB.ag=σ.ag->σ.aa<=cB.aa->((∃ds,ba=ds.map .ab/\Q (.ab (.list ds)) cB)\/(∃ds,ba=ds.map .ab/\Q (.aP cB.aa) (cB.N0 (.aN ds)))\/(Y.PN cB.aa ba=u/\Q (.aP cB.aa) (cB.N0 (.ev ba))))->LQ σ σ' ba Q
inductive DQ(σ σ':V)(ba:List (O×Cj))(Q:Y->V->Prop):Prop
 |mk:∀cB,(lc cB σ'\/kS cB σ')->cB.ag=σ.ag->σ.aa<=cB.aa->Q (.c5 ba) cB->DQ σ σ' ba Q
inductive h3(c:Cx)(names:List O)(L:M)(g:Gh)(σ:V)(s:BN)(Q:Y->V->Prop)(D C:M)(s':BN):Prop
 |mk:∀b am σ',aF c (cy L) g σ s am σ' s'->aA c am σ' s'->bd c names L am σ' s'->a8 c s'.heap am.F am.a σ'.aa b (.ref D)->Q b σ'->fT c am σ' L s'.heap C->s.heap.objs.size<=C->(∃m,s'.heap.Ns C m)->h3 c names L g σ s Q D C s'
variable{Q:Y->V->Prop}{C D:M}
theorem rT{names:List O}(r:aA c g σ s)(f:bd c names L g σ s){ba:List Y}(e:LQ σ σ' ba Q)
  (st:aF c e6 g σ s am (σ'.N1 σ) s')(G:aA c am σ' s')(P:hU.fY c s'.heap am.F am.a σ'.aa D ba)(d:fT c am σ' L s'.heap D)(S:D<s'.heap.objs.size)(k:s.heap.objs.size<=D)(l:∃m,s'.heap.Ns C m)
  (b:fT c am σ' L s'.heap C)(p:s.heap.objs.size<=C)(q:C≠D):h3 c names L g σ s Q D C s':=by
 obtain⟨cB,t,T,W,e⟩:=e;have I:=t.elim (λh=>st.Q3 ⟨h.aj⟩ W) λh=>st.Q2 ⟨h.aa,h.aj⟩;have K:∀{a:M},b3 am cB a->b3 am σ' a:=λ{a}=>t.elim (λh=>h.bm) λh=>h.bm;have v:aF c (cy L) g σ s am cB s':=I.N8 λN h=>h.elim;have i:=(t.elim (λh=>G.Q3 h) λh=>G.Q2 h);have w:=I.PV r f T;have X:¬c.N9 D:=λh=>absurd (r.t D h) (BP.mpr (BG r.bX k));have x:¬b3 am cB D:=λh=>d.bm (K h);have y:=λh=>b.bm (K h);obtain⟨o,vs,n,j⟩:=P;refine A4 j λz A B E=>?_;clear j;rcases e with⟨ds,rfl,e⟩|⟨ds,rfl,e⟩|⟨ac,e⟩
 .obtain⟨bs,j⟩:=hD E;refine A3 j λaT aX bc=>?_;clear j;refine⟨_,am.aK D,cB,v.PK k,i.PK x S X d.OD,w.PK d.ag,.ab (.list z A.1 B aT) (λa an=>?_) (by rw[DH];exact bc),e,⟨y,λh=>h.elim b.aK q,b.low,b.ag,b.b2,b.OD⟩,p,l⟩;rcases BX.mp an with rfl|an
  .exact .inr R
  .exact .inl (aX a an)
 .obtain⟨bs,j⟩:=hD E;refine A3 j λaT aX bc=>?_;clear j;refine⟨_,_,_,v.P3 i k,i.P3 (o:=.aN ds) x d.aK d.low d.OD ⟨o,vs,n,bs,z,A,B,aT,aX,bc⟩,w.P3 i d.ag,?_,e,⟨λh=>(jI i h).elim y q,b.aK,b.low,b.ag,b.b2,b.OD⟩,p,l⟩;have:=a8.aP (c:=c) (h:=s'.heap) (F:=am.F) (ρ:=cu am.a cB.aa D) (B3 cB.aa);rw[fc]at this;exact this
 .have ae:bA c s'.heap am.F am.a cB.aa ba vs.toList:=by
   have:=bA.PW (ρ:=am.a) (λN N=>R) (U (Y.Sf ..) E) ac;exact this
  refine⟨_,_,_,v.P3 i k,i.P3 (o:=.ev ba) x d.aK d.low d.OD ⟨o,vs,n,z,A,B,ae.be (.N6 _ _) (eu _ _ _) (Cr _)⟩,w.P3 i d.ag,?_,e,⟨λh=>(jI i h).elim y q,b.aK,b.low,b.ag,b.b2,b.OD⟩,p,l⟩;have:=a8.aP (c:=c) (h:=s'.heap) (F:=am.F) (ρ:=cu am.a cB.aa D) (B3 cB.aa);rw[fc]at this;exact this
variable{ba:List (O×Cj)}
theorem z2{names:List O}(r:aA c g σ s)(f:bd c names L g σ s)(i:DQ σ σ' ba Q)
  (st:aF c e6 g σ s am (σ'.N1 σ) s')(k:aA c am σ' s')(q:iz.fY c s'.heap am.F am.a σ'.aa D ba)(d:fT c am σ' L s'.heap D)(t:D<s'.heap.objs.size)(l:s.heap.objs.size<=D)(v:∃m,s'.heap.Ns C m)
  (b:fT c am σ' L s'.heap C)(w:s.heap.objs.size<=C)(x:C≠D)(y:Fh<c.i.objs.size):h3 c names L g σ s Q D C s':=by
 obtain⟨cB,j,z,A,i⟩:=i;have n:=j.elim (λh=>st.Q3 ⟨h.aj⟩ A) λh=>st.Q2 ⟨h.aa,h.aj⟩;have o:∀{a:M},b3 am cB a->b3 am σ' a:=λ{a}=>j.elim (λh=>h.bm) λh=>h.bm;have B:aF c (cy L) g σ s am cB s':=n.N8 λT h=>h.elim;have E:=(j.elim (λh=>k.Q3 h) λh=>k.Q2 h);have F:=n.PV r f z;have G:¬c.N9 D:=λh=>absurd (r.t D h) (BP.mpr (BG r.bX l));have I:=λh=>d.bm (o h);have K:=λh=>b.bm (o h);obtain⟨aR,as,p⟩:=q;refine A5 p λh1 h2 N P S=>?_;clear p;exact⟨_,am.aK D,cB,B.PK l,E.PK I t G d.OD,F.PK d.ag,.c5 (.inr R) (λe=>absurd y (BP.mpr (br e d.low))) h1 h2 N (λa an=>.inl (P a an)) S,i,⟨K,λh=>h.elim b.aK x,b.low,b.ag,b.b2,b.OD⟩,w,v⟩
theorem rX{names:List O}(h:h3 c names L g σ s Q D C s'):L7 c.NU A E B2 (bZ rV ⟨c,names,L⟩ g σ s Q) (.ref D) C (.ok .next) s':=by
 obtain⟨b,am,σ',st,r,f,rv,n,d,p,m,v⟩:=h;refine⟨m,v,λay j=>?_⟩;have i:∀a o,a≠C->s'.heap.get? a=H o->ay.get? a=H o:=λa o w e=>(j.2 a w).trans e;have k:=CL j.1.symm;have x:aA c am σ' {s' with heap:=ay}:=r.Pa d i k R R;have y:bd c names L am σ' {s' with heap:=ay}:=f.Pa d i;have z:aF c (cy L) g σ s am σ' {s' with heap:=ay}:=st.Pa d.aK d.b2 p d.OD i k R;have B:dc s'.heap ay am.F am.F:=⟨λa o e t=>i a o (λq=>d.b2 o (q▸e) t.1) e,λa o h e=>i a o (λq=>d.aK (q▸h)) e,λl h=>h⟩;exact⟨b,am,σ',z,x,y,rv.be B (λl l=>R) (BJ _),n⟩
theorem vF{Q:bY->V->Prop}{env:E6}(B:dq c A d)(r:aA c g σ s)(t:ae.Ok c σ.aa)(F:ae.N3 g.a L Fr=env)
  (h:h3 c ae.aG L g σ s (λb σ'=>lz ae x Q b σ') D C s'):L7 c.NU A E (H (Gf (.Name x pos) env)) (λac=>bZ rF ⟨c,ae.aG,L⟩ g σ s Q Flow.next) (.ref D) C (.ok .next) s':=by
 obtain⟨b,am,σ',st,G,f,rv,⟨cB,I,K⟩,i,v,m,l⟩:=h;refine Gy (I.O3 B G f (t.be st.aa) rv ((t.Pi st.r L Fr).trans F) λax n N P=>?_);have S:¬c.N9 C:=λh=>absurd (r.t C h) (BP.mpr (BG r.bX v));have T:=l.lt;have w:=λo e=>n.bM C o e i.bm i.ag S i.OD
 have j:=n.QH i T λo e=>by
  obtain⟨ah,_,_,k,_⟩:=id l;have:=w _ k;replace e:=this.symm.trans e;cases e;exact i.b2 _ k
 refine⟨m,?_,λay y=>?_⟩
 .obtain⟨o,bS,W,k,q⟩:=l;exact⟨o,bS,W,w _ k,q⟩
 have p:∀a o,a≠C->ax.heap.get? a=H o->ay.get? a=H o:=λa o X e=>(y.2 a X).trans e;have z:=CL y.1.symm;exact⟨.aa,am,cB,(st.NT n).Pa j.aK j.b2 v j.OD p z R,N.Pa j p z R R,P.Pa j p,.aa,K⟩
noncomputable def V.dropO(σ:V)(i:Nat):V:=⟨σ.aa,σ.aj.filter λp=>p.1 !=i,σ.ag⟩
theorem kY(i:Nat):∀(l:List (Nat×aO))(j:Nat),J (l.filter λp=>p.1 !=i) j=if j=i then B2 else J l j:=by
 intro r
 induction r with
 |nil=>
  intro j
  exact(ite_self _).symm
 |cons f r e=>
  obtain⟨k,a⟩:=f;intro j
  by_cases c:k=i
  .have d:((k,a)::r).filter (λp=>p.1 !=i)=r.filter λp=>p.1 !=i:=by refine BK CW ?_;simp[c]
   refine U d (BK (e j) ?_)
   by_cases b:j=i
   .simp[b]
   .simp only[b,if_false];rw[de,if_neg (by exact U c b)]
  .have d:((k,a)::r).filter (λp=>p.1 !=i)=(k,a)::r.filter λp=>p.1 !=i:=by refine BK CW ?_;simp[c]
   rw[d,de]
   by_cases b:j=k
   .subst b;rw[if_pos R,if_neg c,de,if_pos R]
   .rw[if_neg b,e j,de,if_neg b]
theorem kg{o:bL}(h:(σ.dropO i).NY j=H o):j≠i/\σ.NY j=H o:=by
 unfold V.NY V.dropO at h;rw[kY]at h
 by_cases a:j=i
 .rw[if_pos a]at h;cases h
 .rw[if_neg a]at h;exact⟨a,h⟩
section
variable{c:Cx}{g am:Gh}{σ σ':V}{s s':BN}{names:List O}{L:M}{T:M->Prop}{i:Nat}{o:bL}
theorem mw(h:b3 g (σ.dropO i) a):b3 g σ a:=by obtain⟨j,b,c,e⟩:=h;exact⟨j,b,(kg c).2,e⟩
theorem aA.dropO(r:aA c g σ s):aA c g (σ.dropO i) s:=
 ⟨r.q,r.bX,r.t,r.k,λj b h=>r.N5 j b (kg h).2,λj b h=>r.bh j b (kg h).2,λj k b d h ay=>r.A j k b d (kg h).2 (kg ay).2,r.aK,r.Ob,r.C,r.cJ,λa an=>(r.bE a an).to (λaX h=>aX (mw h)) id λf e=>e⟩
theorem bd.dropO(f:bd c names L g σ s):bd c names L g (σ.dropO i) s:=⟨f.low,λh=>f.bm (mw h),f.aK,f.ns⟩
theorem qr(r:aA c g σ s)(hi:σ.NY i=H o):¬b3 g (σ.dropO i) (g.a i):=λb=>by obtain⟨j,d,a,e⟩:=b;exact(kg a).1 (r.A _ _ _ _ (kg a).2 hi e)
theorem nu(h:b3 am (σ'.NX i o) a):b3 am σ' a\/a=am.a i:=by
 obtain⟨j,c,b,e⟩:=h;unfold V.NY V.NX at b;rw[de]at b
 by_cases q:j=i
 .subst q;exact .inr e.symm
 .rw[if_neg q]at b;exact .inl ⟨j,c,b,e⟩
theorem aA.QQ(r:aA c g σ s)(hi:σ.NY i=H o)(st:aF c T g (σ.dropO i) s am σ' s')(C:¬T (g.a i))(a:aA c am σ' s'):aA c am (σ'.NX i o) s':=by
 have v:=qr r hi;have m:=r.N5 i o hi;have w:=r.OO ⟨i,o,hi,R⟩;have D:=λh=>r.RR h ⟨i,o,hi,R⟩;have x:=λh=>(r.bE _ h).bm ⟨i,o,hi,R⟩;have l:=st.r i m.1
 have E:eW c s'.heap am.F am.a σ'.aa (am.a i) o:=by
  refine U l<|(r.bh i o hi).be st.p st.r st.aa λd e=>st.bM _ d e v C D x
 have y:¬b3 am σ' (am.a i):=U l (st.P1 v w)
 have F:¬am.F (am.a i):=by
  refine U l ?_;intro h;rcases st.aK _ h with h|h|h
  .exact m.2.2 h
  .exact absurd w (BP.mpr h)
  .exact v h
 have n:∀j d,(σ'.NX i o).NY j=H d->(j=i/\d=o)\/(j≠i/\σ'.NY j=H d):=λj d h=>by
  unfold V.NY V.NX at h;rw[de]at h
  by_cases p:j=i
  .rw[if_pos p]at h;exact .inl ⟨p,(CO h).symm⟩
  .rw[if_neg p]at h;exact .inr ⟨p,h⟩
 refine⟨a.q,a.bX,a.t,a.k,λj d h=>?_,λj d h=>?_,λj k z A h ay e=>?_,a.aK,a.Ob,a.C,a.cJ,λb ac=>(a.bE b ac).to (λaX h=>(nu h).elim aX λe=>x (br l (br e ac))) id λG e=>e⟩
 .rcases n j d h with⟨f,_⟩|⟨_,h⟩
  .exact U f ⟨BL m.1 st.aa,dH l m.2.1,F⟩
  .exact a.N5 j d h
 .rcases n j d h with⟨f,t⟩|⟨_,h⟩
  .exact U f (U t E)
  .exact a.bh j d h
 .rcases n j z h with⟨f,_⟩|⟨_,q⟩ <;> rcases n k A ay with⟨t,_⟩|⟨_,B⟩
  .exact BK f (bP t R)
  .rw[f]at e;exact absurd ⟨k,A,B,e.symm⟩ y
  .rw[t]at e;exact absurd ⟨j,z,q,e⟩ y
  .exact a.A _ _ _ _ q B e
theorem aF.QQ(r:aA c g σ s)(hi:σ.NY i=H o)(st:aF c T g (σ.dropO i) s am σ' s'):aF c T g σ s am (σ'.NX i o) s':=by
 refine⟨λa o e b ao d f=>st.bM a o e (λh=>b (mw h)) ao d f,st.bE,st.p,st.bX,st.r,st.aa,λa an=>?_,λa an=>(st.aK a an).elim .inl λh=>h.elim (λh=>.inr (.inl h)) λh=>.inr (.inr (mw h)),st.Ot⟩;rcases nu an with h|h
 .exact(st.bm a h).elim (λh=>.inl (mw h)) .inr
 .exact .inl ⟨i,o,hi,bP h (bP (st.r i (r.N5 i o hi).1) R)⟩
theorem bd.QQ(f:bd c names L g σ s)(hi:σ.NY i=H o)(b:i<σ.aa)(st:aF c T g (σ.dropO i) s am σ' s')(a:bd c names L am σ' s'):bd c names L am (σ'.NX i o) s':=by
 refine⟨a.low,λh=>?_,a.aK,a.ns⟩;rcases nu h with h|h
 .exact a.bm h
 .exact f.bm ⟨i,o,hi,bP h (bP (st.r i b) R)⟩
end
noncomputable def dm(c:Cx)(σ:V)(a:Y)(xs:List Y)(b:V)(d:V->V):Prop:=
 b.aa=σ.aa/\b.ag=σ.ag/\∀A g s names L v,A.handled=B2->aA c g σ s->bd c names L g σ s->a8 c s.heap g.F g.a σ.aa a v->aA c g b s/\bd c names L g b s/\ka c A g b s L v xs/\
  ∀am σ' s',aF c (cy L) g b s am σ' s'->aA c am σ' s'->bd c names L am σ' s'->aF c (cy L) g σ s am (d σ') s'/\aA c am (d σ') s'/\bd c names L am (d σ') s'/\(d σ').aa=σ'.aa/\∀a,b3 am (d σ') a->b3 am σ' a\/b3 g σ a
variable{a:Y}
theorem dm.NW(h:j6 c a xs):dm c σ a xs σ λσ=>σ:=
 ⟨R,R,λA g s names L v b r f hv=>⟨r,f,h A g σ s L v b r hv,λam σ' s' st d e=>⟨st,d,e,R,λi h=>.inl h⟩⟩⟩
theorem dm.bm{o:bL}(hi:σ.NY i=H o)(j:∀A g s L,A.handled=B2->aA c g σ s->i<σ.aa->o5 c g (σ.dropO i) L s.heap (g.a i)->ka c A g (σ.dropO i) s L (.ref (g.a i)) xs):
  dm c σ (.aP i) xs (σ.dropO i) λσ'=>σ'.NX i o:=
 ⟨R,R,λA g s names L v k r f hv=>by
  obtain⟨rfl,_⟩:=hv.NV;have b:=r.N5 i o hi;have l:=r.OO ⟨i,o,hi,R⟩;have d:=λe=>f.bm ⟨i,o,hi,e⟩;refine⟨r.dropO,f.dropO,j A g s L k r b.1 (.inr (.inr ⟨qr r hi,d,λh=>r.RR h ⟨i,o,hi,R⟩,l,λh=>(r.bE _ h).bm ⟨i,o,hi,R⟩⟩)),λam σ' s' st m n=>⟨st.QQ r hi,r.QQ hi st d m,f.QQ hi b.1 st n,R,λa an=>?_⟩⟩;rcases nu an with h|h
  .exact .inl h
  .exact .inr ⟨i,o,hi,bP h (bP (st.r i b.1) R)⟩⟩
theorem dm.aN(hi:σ.NY i=H (.aN ds)):dm c σ (.aP i) (ds.map .ab) (σ.dropO i) λσ'=>σ'.NX i (.aN ds):=
 .bm hi λA g s L a r j b=>by
  obtain⟨o,vs,k,as,h1,h2,d,e,f,h⟩:=r.bh i _ hi;exact qb a ⟨o,h1,h2.1,k,d⟩ (jD e f h) b
theorem dm.ev{ds:List Y}(hi:σ.NY i=H (.ev ds)):dm c σ (.aP i) ds (σ.dropO i) λσ'=>σ'.NX i (.ev ds):=
 .bm hi λA g s L a r f b=>by
  obtain⟨o,vs,k,h1,h2,d,e⟩:=r.bh i _ hi;exact qb a ⟨o,h1,h2.1,k,d⟩ e b
noncomputable def zB(a:Nat->V->Prop)(k:Nat)(b:V->V)(Q:bY->V->Prop):bY->V->Prop:=λc σ=>match c with| .aa=>a (k+1) σ| .eY=>a (k+1) σ| .eQ=>Q .aa (b σ)| .c0 v=>Q (.c0 v) (b σ)
inductive uj(c:Cx)(d:Nat)(ae:bB)(target:CQ)(bx:List DZ)(Q:bY->V->Prop)(a:Y)(σ₁:V):Prop
 |mk:∀xs σ₀ back,∀(Inv:Nat->V->Prop),dm c σ₁ a xs σ₀ back->Inv 0 σ₀->(∀k x σ₂,xs[k]?=H x->Inv k σ₂->∃σ₃,gC ae target σ₂ x σ₃/\WS c d ae bx σ₃ (zB Inv k back Q) cm)->(∀σ₂,Inv xs.length σ₂->Q .aa (back σ₂))->uj c d ae target bx Q a σ₁
theorem pM{Q:bY->V->Prop}
  (h:WE c d ae c1 σ (uj c d ae target bx Q) X)
  (l:(λenv x=>Dl c1 env x)=(λenv x=>CV x):=by rfl):eK c d ae (.For target c1 bx [] pos) σ Q X:=
 λA g s L Fr b r f m=>Iu (WT.NZ h b r f m R (λa bg σ₁ ax bl n o p q t v w=>by
  obtain⟨xs,aL,i,z,⟨B,aO,C⟩,D,ac,E⟩:=w;refine A4 (C A bg ax _ L bl b.G o p v) λF G I K=>?_;refine tP (Q:=λe σ=>Q e (i σ)) b F G (U B q) t I z D (λk x N P S=>?_) E λe am σ' s' aR T W ah ai an=>?_
  .obtain⟨ap,ao,av⟩:=ac k x N P S;exact⟨ap,ao,av⟩
  .refine A5 (K am σ' s' T W ah) λay aB aE aJ j=>?_;exact⟨e,am,i σ',n.NT ay,aB,aE,U aJ ai,an⟩) λj j y=>y) (λx=>congrFun (congrFun l _) x)
noncomputable def jA(eB:CQ):M->E6->FB Unit:=λD env=>do let _ ←call (.builtin "list.append") [.ref D,←EJ eB env]
noncomputable def j5(dy eC:CQ):M->E6->FB Unit:=λD env=>do
 let cW ←EJ dy env
 let a ←GT [cW] (EJ eC env)
 F6 {dy.pos with endLine:=eC.pos.endLine,endCol:=eC.pos.endCol}
 GT [cW,a] (dictSet D cW a)
noncomputable def bB.Qp(ae:bB)(aY:Ef)(n:Nat)(cl:List (O×Nat))(names:List O)(vars:List (O×cQ)):bB:=
 {aM:=db aY ae.aM,aG:=names,bN:=vars,b0:=fs n aY.names cl,fu:=ae.fu,gb:=B2,fk:=ae.fk}
inductive hY(c:Cx)(d:Nat)(ae:bB)(target:CQ)(cV:List CQ)(aY:Ef)(cl:List (O×Nat)){aO:Type}(K:lf aO)(x0:aO)(step:M->E6->FB Unit)(σ₁:V)(a:Y)(fin:(V->V)->V->V->aO->Prop):Prop
 |mk:∀xs σ₀ back names vars,∀(Inv:Nat->V->aO->Prop),dm c σ₁ a xs σ₀ back->(ae.Qp aY σ₁.aa cl names vars).Ok c (σ₀.Ob.b0 aY.names).aa->Inv 0 (σ₀.Ob.b0 aY.names) x0->(∀k y σ₂ x,xs[k]?=H y->Inv k σ₂ x->∃σ₃,gC (ae.Qp aY σ₁.aa cl names vars) target σ₂ y σ₃/\i5 c d (ae.Qp aY σ₁.aa cl names vars) cV σ₃ λb σ₄=>(b=u->nW c d (ae.Qp aY σ₁.aa cl names vars) K step σ₄ x λx' σ₅=>Inv (k+1) σ₅ x')/\(b=BQ->Inv (k+1) σ₄ x))->(∀σ₂ x,Inv xs.length σ₂ x->fin back σ₀ σ₂ x)->hY c d ae target cV aY cl K x0 step σ₁ a fin
theorem h3.N1{names:List O}{f:V}{d:V->V}(r:aA c g σ s)
  (j:∀am σ' s',aF c (cy L) g f s am σ' s'->aA c am σ' s'->bd c names L am σ' s'->aF c (cy L) g σ s am (d σ') s'/\aA c am (d σ') s'/\bd c names L am (d σ') s'/\(d σ').aa=σ'.aa/\∀a,b3 am (d σ') a->b3 am σ' a\/b3 g σ a)
  (h:h3 c names L g f s (λb σ'=>Q b (d σ')) D C s'):h3 c names L g σ s Q D C s':=by
 obtain⟨b,am,σ',st,k,l,rv,m,e,i,n⟩:=h;refine A5 (j am σ' s' st k l) λo p q t v=>?_;exact⟨b,am,d σ',o,p,q,U t rv,m,⟨λh=>(v C h).elim e.bm λh=>absurd (r.OO h) (BP.mpr i),e.aK,e.low,e.ag,e.b2,e.OD⟩,i,n⟩
theorem pd{K:lf aO}{l:aO}{o:M->E6->FB Unit}{p:Ge}{q:Option (Z->FB Unit)}{t:Z->BN->Prop}{w:(V->V)->V->V->aO->Prop}
  (j:gR ae.b0 aY.names []=H cl)(aL:clausesOf e=[⟨target,c1,cV,0⟩])
  (T:∀A it D env s(Q:Lp->BN->Prop)(E:Z->BN->Prop),B9 c.NU A (mz target c1 cV o e it D env) Q (IQ c.NU A env E) s->B9 c.NU (A.under (.compLoop e 0 it (.ref D) env)) (c.NU.den (.compLoop e 0 it (.ref D) env)) Q E s)
  (cM:∀A cw s it ba env,E9 c.NU A (.compLoop e 0 it ba env) cw s->B9 c.NU A (HF it) (λW s'=>E9 c.NU A (.compLoop e 0 W ba env) cw s') (IQ c.NU A env λx s'=>cw (.error x) s') s->E9 c.NU A (.compStart e 0 it ba env) cw s)
  (ah:∀A(s:BN)(Q:Z->BN->Prop)(E:Z->BN->Prop),Q (.ref s.heap.objs.size) {s with heap:=s.heap.push p}->B9 c.NU A oi Q E s)
  (ai:∀(h:CG)F ρ n,K.fY c (h.push p) F ρ n h.objs.size l)
  (k:dq c A d)(r:aA c g σ s)(f:bd c ae.aG L g σ s)(y:ae.Ok c σ.aa)
  (h:WE c d ae c1 σ (λa σ₁=>hY c d ae target cV aY cl K l o σ₁ a w) X)
  (an:∀env x,Dl c1 env x=CV x)(ao:∀x∈aY.names,x.2=.local->aY.names.lookup x.1=H .local)(ap:aY.kind=.function)
  (av:∀v s',PX ⟨c,ae.aG,L⟩ g σ s X v s'->E v s')
  (ay:∀bg σ₁ ax b i,aF c (cy L) g σ s bg σ₁ ax->aA c bg σ₁ ax->bd c ae.aG L bg σ₁ ax->ae.N3 bg.a L Fr=ae.N3 g.a L Fr->aA c bg b ax->bd c ae.aG L bg b ax->
   (∀am σ' s',aF c (cy L) bg b ax am σ' s'->aA c am σ' s'->bd c ae.aG L am σ' s'->aF c (cy L) bg σ₁ ax am (i σ') s'/\aA c am (i σ') s'/\bd c ae.aG L am (i σ') s'/\(i σ').aa=σ'.aa/\∀a,b3 am (i σ') a->b3 am σ' a\/b3 bg σ₁ a)->
   ∀C D am σ' s' x,w i b σ' x->aF c e6 bg b ax am (σ'.N1 b) s'->aA c am σ' s'->K.fY c s'.heap am.F am.a σ'.aa D x->fT c am σ' L s'.heap D->D<s'.heap.objs.size->ax.heap.objs.size<=D->(∃m,s'.heap.Ns C m)->fT c am σ' L s'.heap C->ax.heap.objs.size<=C->C≠D->
    L7 c.NU A E q t (.ref D) C (.ok .next) s'):
  B9 c.NU A (Mp e aY (ae.N3 g.a L Fr) pos oi BQ (EJ c1 (ae.N3 g.a L Fr)) q) t E s:=by
 refine wpAny_comprehension_free aL (an _) (me j) ap ao<|WT.NZ h k r f y R (λa bg σ₁ ax bl z B G aB I aE aJ=>?_) av;obtain⟨xs,b,i,names,aR,aT,⟨N,bH,aW⟩,aX,aZ,ac,a4⟩:=aJ;refine A4 (aW A bg ax _ L bl k.G B G aE) λP S a9 bb=>?_;have bc:=(mI z.r (m9 y.b0 aY.names [] cl j (λbQ h=>nomatch h))).symm;refine U bc (br I (wD (ae':=ae.Qp aY σ₁.aa cl names aR) T cM (ah A) ai k P S (U N aB) a9 j ⟨R,by refine U N ?_;rfl,R,R,R⟩ aX aT aZ ac λC D am σ' s' x bf st bi bj bk bu bv bx bz bC bD=>?_));exact ay bg σ₁ ax b i z B G I P S bb C D am σ' s' x (a4 σ' x bf) st bi bj bk bu bv bx bz bC bD
variable{eB:CQ}
theorem rK(A:DX)(it:Z)(D:M)(env:E6)(s:BN)(Q:Lp->BN->Prop)(E:Z->BN->Prop)
  (h:B9 c.NU A (mz target c1 cV (jA eB) (.ListComp eB [⟨target,c1,cV,0⟩] aY pos) it D env) Q (IQ c.NU A env E) s):
  B9 c.NU (A.under (.compLoop (.ListComp eB [⟨target,c1,cV,0⟩] aY pos) 0 it (.ref D) env)) (c.NU.den (.compLoop (.ListComp eB [⟨target,c1,cV,0⟩] aY pos) 0 it (.ref D) env)) Q E s:=by
 refine(?_:B9 c.NU A ((compTurn (.ListComp eB [⟨target,c1,cV,0⟩] aY pos) 0 it (.ref D) env).onRaise (λx=>do Fm x env;G0 x)) _ _ s);refine MG<|U (compTurn_list ..)<|h
variable{dy eC:CQ}
theorem Ax(A:DX)(it:Z)(D:M)(env:E6)(s:BN)(Q:Lp->BN->Prop)(E:Z->BN->Prop)
  (h:B9 c.NU A (mz target c1 cV (j5 dy eC) (.DictComp dy eC [⟨target,c1,cV,0⟩] aY pos) it D env) Q (IQ c.NU A env E) s):
  B9 c.NU (A.under (.compLoop (.DictComp dy eC [⟨target,c1,cV,0⟩] aY pos) 0 it (.ref D) env)) (c.NU.den (.compLoop (.DictComp dy eC [⟨target,c1,cV,0⟩] aY pos) 0 it (.ref D) env)) Q E s:=by
 refine(?_:B9 c.NU A ((compTurn (.DictComp dy eC [⟨target,c1,cV,0⟩] aY pos) 0 it (.ref D) env).onRaise (λx=>do Fm x env;G0 x)) _ _ s);refine MG<|U (compTurn_dict ..)<|h
noncomputable def kA(aY:Ef):Bool:=aY.kind== .function&&aY.names.all λx=>x.2 != .local||aY.names.lookup x.1==H .local
theorem pJ(h:kA aY=u):∀x∈aY.names,x.2=.local->aY.names.lookup x.1=H .local:=λx a b=>by
 unfold kA at h;rw[Cv,Cn]at h;have:=h.2 x a;rw[b]at this;simpa using this
theorem o2(h:kA aY=u):aY.kind=.function:=by
 unfold kA at h;rw[Cv]at h;exact La h.1
theorem uh(A:DX)(s:BN)(Q:Z->BN->Prop)(E:Z->BN->Prop)(h:Q (.ref s.heap.objs.size) {s with heap:=s.heap.push {cls:=.type "list",data:=.seq #[]}}):B9 c.NU A (KT []) Q E s:=
 lr (DD R) h
theorem u6(A:DX)(s:BN)(Q:Z->BN->Prop)(E:Z->BN->Prop)(h:Q (.ref s.heap.objs.size) {s with heap:=s.heap.push {cls:=.type "dict",data:=.dict #[]}}):B9 c.NU A newDict Q E s:=
 Dc h
theorem tX(h:CG):(h.push {cls:=.type "dict",data:=.dict #[]}).DictOf (Fq c.PG c.w) h.objs.size []:=Mk h
noncomputable def wn(Q:Y->V->Prop):(V->V)->V->V->List Y->Prop:=λa c σ' ba=>LQ c σ' ba λb cB=>Q b (a cB)
noncomputable def wF(Q:Y->V->Prop):(V->V)->V->V->List (O×Cj)->Prop:=λa c σ' ba=>DQ c σ' ba λb cB=>Q b (a cB)
noncomputable def tn(c:Cx)(d:Nat)(ae:bB)(target:CQ)(cV:List CQ)(aY:Ef)(cl:List (O×Nat))(eB:CQ)(Q:Y->V->Prop):Y->V->Prop:=λa σ=>hY c d ae target cV aY cl hU [] (jA eB) σ a (wn Q)
noncomputable def v6(c:Cx)(d:Nat)(ae:bB)(target:CQ)(cV:List CQ)(aY:Ef)(cl:List (O×Nat))(dy eC:CQ)(Q:Y->V->Prop):Y->V->Prop:=λa σ=>hY c d ae target cV aY cl iz [] (j5 dy eC) σ a (wF Q)
theorem e5(e:kA aY=u)(i:gR ae.b0 aY.names []=H cl)
  (h:WE c d ae c1 σ (tn c d ae target cV aY cl eB Q) X)
  (a:(λenv x=>Dl c1 env x)=(λenv x=>CV x):=by rfl):WE c d ae (.ListComp eB [⟨target,c1,cV,0⟩] aY pos) σ Q X:=λA g s L Fr j r f k=>by
 have a:=λenv x=>congrFun (congrFun a env) x
 refine pd (K:=hU) i R rK (λA cw s it ba env l h1=>JV l h1) uh (λh F ρ n=>⟨_,#[],0,B6 _ R,⟨R,R,R⟩,R,.a6⟩) j r f k h a (pJ e) (o2 e) (λb b x=>x)
  λbg σ₁ ax ai an o p ao ap q t v C D am σ' s' x w st y z B G I N P S T=>?_
 obtain⟨m,W,ac⟩:=rX (A:=A) (E:=λb b=>True) (h3.N1 p v (rT q t w st y z B G I N P S T));exact⟨m,W,λay ah=>bZ.NT o (ac ay ah)⟩
theorem kc{i:FH}{Q:bY->V->Prop}(j:kA aY=u)(p:gR ae.b0 aY.names []=H cl)
  (q:(λenv:E6=>Hp (.ListComp eB [⟨target,c1,cV,0⟩] aY pos) (H (.Name x pos')) i.line {env with scope:=ae.aM})=λa=>CV u)
  (h:WE c d ae c1 σ (tn c d ae target cV aY cl eB (lz ae x Q)) X)
  (b:(λenv x=>Dl c1 env x)=(λenv x=>CV x):=by rfl):eK c d ae (.Assign [.Name x pos'] (.ListComp eB [⟨target,c1,cV,0⟩] aY pos) i) σ Q X:=λA g s L Fr k r f l=>by
 have b:=λenv x=>congrFun (congrFun b env) x;refine U (exec_Assign_Name_used _ _ _ _ (congrFun q (ae.N3 g.a L Fr)))<|wpAny_bind (C6 (BM ?_));refine(?_:B9 c.NU A (do let _ ←Mp (.ListComp eB [⟨target,c1,cV,0⟩] aY pos) aY (ae.N3 g.a L Fr) (firstIterPos [⟨target,c1,cV,0⟩] pos) (KT []) BQ (EJ c1 (ae.N3 g.a L Fr)) (H (Gf (.Name x pos') (ae.N3 g.a L Fr)))) _ _ s);refine BM<|wpAny_mono ?_ (λa a x=>BW (BW x)) λa a x=>x
 refine pd (K:=hU) p R rK (λA cw s it ba env t h1=>JV t h1) uh (λh F ρ n=>⟨_,#[],0,B6 _ R,⟨R,R,R⟩,R,.a6⟩) k r f l h b (pJ j) (o2 j) (λa a x=>x)
  λbg σ₁ ax aE aJ e o aL v w z B C D am σ' s' ba G st I N P S T W ac ah ai=>?_
 have an:=h3.N1 o B (rT w z G st I N P S T W ac ah ai);have:=vF (E:=PX ⟨c,ae.aG,L⟩ bg σ₁ ax X) (pos:=pos') k o (l.be e.aa) v an;refine CB this (λa s'' ao=>by obtain⟨m,ap,av⟩:=ao;exact⟨m,ap,λay aB=>bZ.NT e (av ay aB)⟩) λa a y=>PX.NT e y
theorem lg(i:Fh<c.i.objs.size)(e:kA aY=u)(j:gR ae.b0 aY.names []=H cl)
  (h:WE c d ae c1 σ (v6 c d ae target cV aY cl dy eC Q) X)
  (b:(λenv x=>Dl c1 env x)=(λenv x=>CV x):=by rfl):WE c d ae (.DictComp dy eC [⟨target,c1,cV,0⟩] aY pos) σ Q X:=λA g s L Fr k r f l=>by
 have b:=λenv x=>congrFun (congrFun b env) x
 refine pd (K:=iz) j R Ax (λA cw s it ba env o h1=>codeAny_compStart_dict o h1) u6 (λh F ρ n=>⟨[],[],tX h,R,.nil,(λa h=>nomatch h),R⟩) k r f l h b (pJ e) (o2 e) (λa a x=>x)
  λbg σ₁ ax an ao p q ap av t v w C D am σ' s' x y st z B G I N P S T W=>?_
 obtain⟨m,ac,ah⟩:=rX (A:=A) (E:=λa a=>True) (h3.N1 q w (z2 t v y st z B G I N P S T W i));exact⟨m,ac,λay ai=>bZ.NT p (ah ay ai)⟩
theorem iA.Uj{o:Ge}{vs:Array Z}(ai:iA o)(a:o.data=.seq vs k)(f:Array Z->Array Z):iA (o.mapSeq f)/\∃b,(o.mapSeq f).data=.seq (f vs) b:=by
 obtain⟨c7,d,e,g⟩:=o;refine A3 ai λh1 h2 c=>?_;clear ai;subst a;exact⟨⟨h1,h2,c⟩,_,R⟩
theorem xo{l:M}{o:Ge}{a:Array Z}{x:Z}{Q:Z->BN->Prop}(b:s.heap.get? l=H o)(ai:iA o)(d:o.data=.seq a k)
  (h:∀ay e f,ay.get? l=H e->iA e->e.data=.seq (a.push x) f->Ew l s.heap ay->Q .none {s with heap:=ay})(i:a.size<=16777216):
  B9 c.NU A (call (.builtin "list.append") [.ref l,x]) Q E s:=by
 have j:s.heap.IsList l a:=⟨o,b,ai.1,k,d⟩;have n:a.size<=Hf:=BG i (DD R);refine Eh slot_list_append j.typeIs entry_list_append ?_ (args_list_append _ _);refine(?_:B9 _ _ (updateSeq l (·.push x)>>=λp=>ret .none) _ _ s);refine BM ?_;obtain⟨m,f,g⟩:=ai.Uj d (·.push x);refine wpAny_updateSeq b d (BW ⟨.none,R,h _ _ f (DU _ b (Obj.isFreed_of_seq g)) m g (H8 ..)⟩)
theorem rJ{names:List O}(r:aA c g σ s)(f:bd c names L g σ s)(i:fT c g σ L s.heap D){ay:CG}{tk:Nat}(j:Ew D s.heap ay):
  aF c (mH L D) g σ s g σ {s with heap:=ay,toks:=tk}/\aA c g σ {s with heap:=ay,toks:=tk}/\bd c names L g σ {s with heap:=ay,toks:=tk}/\dc s.heap ay g.F g.F:=by
 have d:∀a o,a≠D->s.heap.get? a=H o->ay.get? a=H o:=λa o l e=>(j.2 a l).trans e;have k:=CL j.1.symm;have K:dc s.heap ay g.F g.F:=⟨λa o e t=>d a o (λq=>i.b2 o (q▸e) t.1) e,λa o h e=>d a o (λq=>i.aK (q▸h)) e,λb h=>h⟩;exact⟨⟨λa o e n ao b b=>d a o (λh=>ao (.inr h)) e,λa o m b e=>⟨o.slots,d a o (λh=>i.OD (h▸m)) e⟩,K,k,λb b=>R,BJ _,λb h=>.inl h,λb h=>.inl h,λb b h=>h⟩,r.Pa i d k R R,f.Pa i d,K⟩
theorem zM{h:CG}{ba:List Y}(x:bA c h F ρ n ba vs)(hv:a8 c h F ρ n a v):bA c h F ρ n (ba++[a]) (vs++[v]):=x.Qc (.aU hv .a6)
theorem ms{ba:List Y}{Q:List Y->V->Prop}(w:ba.length<=1000000)(h:WE c d ae eB σ (λa σ₁=>Q (ba++[a]) σ₁) cm):nW c d ae hU (jA eB) σ ba Q:=by
 intro A g s L Fr D x r f z j l ao E k;unfold jA;have B:D<s.heap.objs.size:=by obtain⟨o,vs,m,b,_⟩:=l;exact Ca b
 have C:¬c.N9 D:=λh=>absurd (r.t D h) (BP.mpr j.low);refine BM (WT.NZ h x r f z R (λa bg σ₁ ax bl e F G ap av I K=>?_) λi i y=>y.no);have n:=hU.be e.p e.r e.aa (λo b=>e.bM D o b j.bm j.ag C j.OD) l
 have N:=e.QH j B λo b=>by
  obtain⟨p,aT,aX⟩:=hU.cp n;replace aT:=b.symm.trans aT;cases aT;exact aX
 obtain⟨o,vs,aB,q⟩:=n;refine A4 q λb P S t=>?_;clear q
 refine BM (xo b P S (λay p m T W X ac=>BW ?_) (by
  have ah:vs.size=ba.length:=bP t.length Cq.symm;refine a3 ah<|Nat.le_trans w (DD R)))
 refine A4 (rJ (tk:=ax.toks) F G N ac) λai am an v=>?_;exact k bg σ₁ _ _ ((e.N8 λi h=>.inl h).NT ai) am an ⟨p,vs.push bl,m,T,W,X,U Hm (zM (t.be v (λi i=>R) (BJ _)) (I.be v (λi i=>R) (BJ _)))⟩ K
theorem w7{h:CG}{d:Cj}{bs:List M}{as:List M}(x:C7 h vs ds as)(hv:E2 h v d bs):∃a9,C7 h (vs++[v]) (ds++[d]) a9/\∀a∈a9,a∈as\/a∈bs:=by
 induction ds generalizing vs as with
 |nil=>exact U ((C4 x).1) ⟨_,.cons hv .nil,λa an=>.inr (CE bs▸an)⟩
 |cons e ds b=>
  obtain⟨_,_,_,_,rfl,rfl,h1,h2⟩:=f8 x;obtain⟨a9,aT,aX⟩:=b h2;exact⟨_,.cons h1 aT,λa an=>(CA.mp an).elim (λan=>.inl (Ci _ an)) λan=>(aX a an).elim (λh=>.inl (Ce _ h)) .inr⟩
theorem wH:∀{ds:List Cj}{d:Cj},Cy ds=u->d.canLay0=u->Cy (ds++[d])=u:=by
 intro ds
 induction ds with
 |nil=>
  intro d _ h
  rw[ED,Cy,h];rfl
 |cons x ds a=>
  intro d h1 h;rw[Cy,Cv]at h1;rw[J9,Cy,h1.1,a h1.2 h];rfl
theorem rS{Q:List (O×Cj)->V->Prop}(W:ba.length<=1000000)
  (h:WE c d ae dy σ (λa σ₁=>∃k,a=.ab (.str k)/\k∉ba.map (·.1)/\WE c d ae eC σ₁ (λb p=>∃v,b=.ab v/\Q (ba++[(k,v)]) p) cm) cm):nW c d ae iz (j5 dy eC) σ ba Q:=by
 intro A g s L Fr D G r f X l I bD E k;unfold j5;have ac:D<s.heap.objs.size:=by obtain⟨o,m,_⟩:=iz.cp I;exact Ca m
 have ah:¬c.N9 D:=λh=>absurd (r.t D h) (BP.mpr l.low);refine BM (WT.NZ h G r f X R (λa bg σ₁ ax bl ai am ao ap av q x=>?_) λn n y=>y.no);obtain⟨i,rfl,aB,x⟩:=x;refine BM (C2 (WT.NZ x G am ao ap av (λb aE p aJ z aL aO aW bH bQ B C=>BM (C6 (C2 ?_))) λn n y=>y.no));obtain⟨w,rfl,C⟩:=C;have j:=ai.NT aL;have K:=iz.be j.p j.r j.aa (λo m=>j.bM D o m l.bm l.ag ah l.OD) I
 have aY:=j.QH l ac λo m=>by
  obtain⟨bS,aT,aX⟩:=iz.cp K;replace aT:=m.symm.trans aT;cases aT;exact aX
 obtain⟨aR,as,N⟩:=K;refine A5 N λaZ F a4 bb bc=>?_;clear N;obtain⟨_,q,bU,b6⟩:=q.NV;obtain⟨t,rfl,_⟩:=EL q
 .obtain⟨_,B,bf,bi⟩:=B.NV
  .refine wpAny_dictSet_pairs (MX _ _ _ _) aZ (λay P bj=>?_) (by
    have S:=congrArg E3 F;simp only[BH]at S;have:Hf=16777216:=by decide
    exact cI [_,_,_] au dD ak au (nA 16777216) af ak af al W (eR S) (eR this))
   refine A4 (rJ (tk:=aJ.toks+1) aO aW aY bj) λbk bu bv bx=>?_;obtain⟨a9,aT,aX⟩:=w7 a4 B
   have bz:stored aR i z=aR++[(i,z)]:=by
    unfold stored
    have:aR.any (λcW=>decide (cW.1=i))=BQ:=by
     rw[J0];intro cW bC;have:i∉aR.map (·.1):=br F aB;simp only[decide_eq_true_eq];intro e;exact this (e▸List.mem_map_of_mem bC)
    exact U this R
   rw[bz]at P;have T:=λa an=>(aX a an).elim (bb a) (bf a);refine k aE p _ (ba++[(i,w)]) ((j.N8 λn h=>.inl h).NT bk) bu bv ⟨aR++[(i,z)],a9,P,by refine BK Cb (bP Cb (U F ?_));rfl,?_,T,?_⟩ C
   .exact U Cb (U Cb (bx.QN aT T))
   .exact U Cb (wH bc bi)
noncomputable def gg(Q:b9->V->Prop)(σ:V):b9->V->Prop:=λb σ'=>Q b (σ'.N1 σ)
noncomputable def Bd(a:Nat->V->Prop)(n:Nat)(Q:bY->V->Prop):bY->V->Prop:=λb σ=>match b with| .aa=>∃m,m<n/\a m σ| .eY=>∃m,m<n/\a m σ| .eQ=>Q .aa σ| .c0 v=>Q (.c0 v) σ
structure wL(c:Cx)(d:Nat)(ae:bB)(bx:List DZ)(Inv:Nat->V->Prop)(n:Nat)(Q:bY->V->Prop)(b:Bool)(σ:V):Prop where
 hr:(b=u->WS c d ae bx σ (Bd Inv n Q) cm)
 aP:(b=BQ->Q .aa σ)
theorem Aj{hs:CQ}{Q:bY->V->Prop}(e:Nat->V->Prop)(ah:Nat)(E:e ah σ)
  (ac:∀n σ₁,e n σ₁->WB c d ae hs σ₁ (wL c d ae bx e n Q) cm):eK c d ae (.While hs bx [] pos) σ Q X:=λA g s L Fr w r f x=>by
 let F:Nat->BN->Prop:=λn s'=>∃am σ',aF c (cy L) g σ s am σ' s'/\aA c am σ' s'/\bd c ae.aG L am σ' s'/\e n σ'
 refine wpAny_While (codeAny_whileLoop F (λn s' G=>?_) ah ⟨g,σ,.N6 ..,r,f,E⟩);obtain⟨am,σ',z⟩:=G;refine A4 z λst I K N=>?_;clear z;have P:=x.be st.aa;have S:=x.Pi st.r L Fr;refine WT.NZ (ac n σ' N) w I K P S (λb bg σ₁ ax T W B C ai an p D=>?_) λq q y=>y.no;have p:b=T:=p;subst p;have a:=st.NT W
 cases b with
 |false=>exact EK ⟨.aa,bg,σ₁,a,B,C,.aa,D.2 R⟩
 |true=>
  refine WT.NZ (D.1 R) w B C ai an (λap h i av ay j k l aB aE ao o=>?_) λq q y=>y.no
  cases ao with
  |aa=>obtain⟨m,t,v⟩:=o;exact⟨m,t,h,i,a.NT j,k,l,v⟩
  |eY=>obtain⟨m,t,v⟩:=o;exact⟨m,t,h,i,a.NT j,k,l,v⟩
  |eQ=>exact⟨.aa,h,i,a.NT j,k,l,.aa,o⟩
  |c0 hv=>exact⟨.c0 _,h,i,a.NT j,k,l,.c0 hv,o⟩
theorem WH.Tg{cE:fb b9 aO}{f:List Z->FB aO}{Q:b9->V->Prop}(h:WH cE c d f as σ (gg Q σ) (gg X σ))
  {names:List O}(l:dq c A d)(r:aA c g σ s)(k:bd c names L g σ s)(hv:bA c s.heap g.F g.a σ.aa as vs):
  B9 c.NU A (f vs) (bZ cE ⟨c,names,L⟩ g σ s Q) (PX ⟨c,names,L⟩ g σ s X) s:=by
 refine CB (h A g s vs l r hv) (λv s' e=>?_) λv s' e=>?_
 .obtain⟨b,am,σ',st,i,m,j⟩:=e;have a:aF c e6 g σ s am (σ'.N1 σ) s':=aF.ag st;exact⟨b,am,σ'.N1 σ,a.N8 λn h=>h.elim,aA.ag i,a.PV r k R,m,j⟩
 .obtain⟨x,am,σ',st,i,o,j⟩:=e;have a:aF c e6 g σ s am (σ'.N1 σ) s':=aF.ag st;exact⟨x,am,σ'.N1 σ,a.N8 λn h=>h.elim,aA.ag i,a.PV r k R,o,j⟩
theorem e2.NW{cE:fb b9 aO}{t:Z->FB aO}{Q:b9->V->Prop}(h:WH cE c d (λvs=>t (vs.headD .none)) [a] σ (gg Q σ) (gg X σ)):e2 cE c d t a σ Q X:=
 λA g s names L bl b r f e=>h.Tg b r f (.aU e .a6)
theorem WK.NW{a:M}{b:List O}{e:List Y}(h:WH rV c d (fW a as.length b) (as++e) σ (gg Q σ) (gg X σ)):WK c d (.bT (.ref a)) as b e σ Q X:=
 λA g s names L m vs kvs j r f k i l=>by
  obtain rfl:=k.NV;have:=h.Tg j r f (i.Qc l);rw[i.length]at this;simpa[fW]using this
theorem PH.TJ{cE:fb b9 aO}[pS cE]{Q:b9->V->Prop}{b:b9}{v:aO}{tk:Nat}(r:aA c g σ s)(hv:cE c s.heap g.F g.a σ.aa b v)(h:Q b σ):PH cE c g σ s Q v {s with toks:=tk}:=
 ⟨b,g,σ,(aF.N6 ..).Oc (λa a e=>e) (BJ _) R,r.Oc (λa a e=>e) (BJ _) R R,hv,h⟩
inductive dF(σ:V):Y->List Cj->Prop
 |aK {ds:_}:dF σ (.ab (.list ds)) ds
 |bm {i ds:_}:σ.NY i=H (.aN ds)->dF σ (.aP i) ds
inductive ul(h:CG)(F:M->Prop)(v:Z)(ds:List Cj):Prop
 |mk:∀l vs as bs,v=.ref l->h.IsList l vs->C7 h vs.toList ds as->(∀a∈as,F a)->Cy ds=u->E2 h v (.list ds) bs->ul h F v ds
theorem dF.NV(h:dF σ a ds)(r:aA c g σ s)(hv:a8 c s.heap g.F g.a σ.aa a v):
  ul s.heap g.F v ds:=by
 cases h with
 |aK=>
  obtain⟨_,x,e,f⟩:=hv.NV;have i:=x;obtain⟨_,_,_,_,_,rfl,h1,h2,b,d,rfl⟩:=qz x
  exact⟨_,_,_,_,R,⟨_,h1,h2,_,b⟩,d,λa an=>e a (.tail _ an),f,i⟩
 |bm hi=>
  obtain⟨rfl,_⟩:=hv.NV;obtain⟨o,vs,k,as,h1,h2,b,d,j,l⟩:=r.bh _ _ hi;exact⟨_,vs,as,_,R,⟨o,h1,h2.1,k,b⟩,d,j,l,.list h1 h2.1 b d⟩
theorem iP.QO{h:CG}{as:List M}(x:C7 h vs ds as):vs.length=ds.length:=by
 induction ds generalizing vs as with
 |nil=>exact U ((C4 x).1) R
 |cons e ds a=>obtain⟨_,_,_,_,rfl,_,_,h2⟩:=f8 x;exact congrArg (·+1) (a h2)
theorem iP.R7{h:CG}{as:List M}(x:C7 h vs ds as){d:Cj}(a:ds[i]?=H d):∃v bs,vs[i]?=H v/\E2 h v d bs/\∀b∈bs,b∈as:=by
 induction ds generalizing vs as i with
 |nil=>cases a
 |cons e ds f=>
  obtain⟨_,_,_,_,rfl,rfl,h1,h2⟩:=f8 x
  cases i with
  |zero=>exact br (CO a) ⟨_,_,R,h1,λb ac=>Ci _ ac⟩
  |succ i=>
   obtain⟨v,bs,c⟩:=f h2 a;refine A3 c λaT aX bc=>?_;clear c;exact⟨v,bs,aT,aX,λb ac=>Ce _ (bc b ac)⟩
structure gG(c:Bx)(C N:M)(bC:O->Option Z):Prop where
 Ts:¬c.N9 C
 TR:¬c.N9 N
 SX:L0 c.i C N bC
inductive sq(h:CG)(C N:M):Prop
 |mk:∀nm q bs sn sub col dd k0 k1 k2 k3 k5,h.get? C=H (IF nm q C N bs [.type "object"] u sn sub BQ col dd k0 k1 k2 k3 k5 "object.__new__")->sq h C N
variable{N:M}{bC:O->Option Z}
theorem jM.Qa{h:CG}(x:L0 h C N bC):sq h C N:=by
 obtain⟨nm,q,bs,sn,sub,col,dd,k0,k1,k2,k3,k5,e⟩:=x.obj;exact⟨nm,q,bs,sn,sub,col,dd,k0,k1,k2,k3,k5,e⟩
theorem gG.QA(x:gG c C N bC)(r:aA c g σ s):L0 s.heap C N bC:=by
 obtain⟨nm,q,bs,sn,sub,col,dd,k0,k1,k2,k3,k5,e⟩:=jM.Qa x.SX;exact⟨⟨nm,q,bs,sn,sub,col,dd,k0,k1,k2,k3,k5,r.q _ _ e x.Ts⟩,ui r x.SX.ns x.TR⟩
section
variable{c:Cx}{d:Nat}{σ:V}{C N:M}{bC:O->Option Z}{j:Nat}{names:List O}{log:List (Nat×Y)}{bj:O}
inductive rd(c:Cx)(C:M)(j:Nat)(names:List O)(log:List (Nat×Y))(g:Gh)(σ:V)(s:BN)(v:Z):Prop
 |mk:∀x o bv,v=.ref x->g.F x->s.heap.get? x=H o->o.dict=H (g.a j)->g.a j≠x->s.heap.InstFk x C bv->(∀y w,bv y=H w->y∈names)->names.Nodup->
   (∀k w,J log k=H w->io c s.heap g.F g.a σ.aa names bv k w)->(∀k y,names[k]?=H y->J log k=B2->bv y=B2)->c.i.objs.size<=g.a j->rd c C j names log g σ s v
set_option tactic.hygienic true in
theorem nb(r:aA c g σ s)(b:σ.NY j=H (.ns names log))(hv:a8 c s.heap g.F g.a σ.aa (.bh C j) v):rd c C j names log g σ s v:=by
 obtain⟨_,_,rfl,h1,h2,h,d,i,n⟩:=hv.NV
 rename_i a o
 obtain⟨k,l,bv,aT,⟨aX,m⟩,bc,cG,dG,fS⟩:=r.bh j _ b;have f:g.a j≠a:=λe=>(r.N5 j _ b).2.2 (U e h1);exact⟨a,o,bv,R,h1,h2,d,f,⟨o,h2,h,i,.inr ⟨g.a j,d,f,bc,l,aT,aX,m⟩⟩,cG,k,dG,fS,(r.N5 j _ b).2.1⟩
theorem w1{w:Z}(h:∀a,w≠.builtin a):K9 w=CV w:=by
 cases w <;> first|rfl|exact absurd R (h _)
theorem a8.Tu{h:CG}{v:Y}{w:Z}(x:a8 c h F ρ n v w):(∃d as,E2 h w d as)\/(∃a,w=.ref a)\/v=.bT w:=by
 cases v with
 |ab d=>obtain⟨_,y,_,_⟩:=x.NV;exact .inl ⟨_,_,y⟩
 |aP i=>exact .inr (.inl ⟨_,x.NV.1⟩)
 |bT v=>exact .inr (.inr (congrArg Y.bT x.NV.symm))
 |bh C j=>obtain⟨_,_,e,_⟩:=x.NV;exact .inr (.inl ⟨_,e⟩)
 |ed L q=>obtain⟨_,_,e,_⟩:=x.NV;exact .inr (.inl ⟨_,e⟩)
 |b2 xs=>obtain⟨_,_,_,_,e,_⟩:=x.NV;exact .inr (.inl ⟨_,e⟩)
 |fv m=>obtain⟨_,_,_,_,e,_⟩:=x.NV;exact .inr (.inl ⟨_,e⟩)
 |c5 q=>obtain⟨_,_,_,e,_⟩:=x.NV;exact .inr (.inl ⟨_,e⟩)
 |dN f s=>obtain⟨_,_,e,_⟩:=x.NV;exact .inr (.inl ⟨_,e⟩)
 |gJ T=>obtain⟨_,_,e,_⟩:=x.NV;exact .inr (.inl ⟨_,e⟩)
theorem vQ{h:CG}{a:String}{d:Cj}{as:List M}(x:E2 h (.builtin a) d as):False:=by cases x
theorem a8.S4{h:CG}{v:Y}{w:Z}(x:a8 c h F ρ n v w)(b:∀a,v≠.bT (.builtin a)):K9 w=CV w:=by
 refine w1 λa e=>?_;rw[e]at x;rcases x.Tu with⟨_,_,y⟩|⟨_,y⟩|y
 .exact vQ y
 .exact Value.noConfusion y
 .exact b a y
theorem yy(aL:gG c C N bC)(f:σ.NY j=H (.ns names log))(i:names[k]?=H bj){v:Y}(hv:J log k=H v)(l:bC "__getattribute__"=B2)(m:bC bj=B2)
  (n:CD (.type "object") bj=CV B2)(p:∀t,v≠.bT (.builtin t))(h:Q v σ):WH rV c d (λvs=>Hn (vs.headD .none) bj u) [.bh C j] σ Q X:=by
 intro A g s vs F r z;obtain⟨_,rfl,h1⟩:=z.PT
 .obtain⟨x,o,bv,rfl,G,I,K,L,B,P,S,D,T,_⟩:=nb r f h1;obtain⟨y,w,a,E,b⟩:=D k v hv;replace a:=i.symm.trans a;cases a;have X:=aL.QA r;obtain⟨nm,q,bs,sn,sub,col,dd,k0,k1,k2,k3,k5,e⟩:=jM.Qa X;exact load_attrFk e X.ns l m n B E (b.S4 p) (PH.TJ r b h)
theorem zw(aL:gG c C N bC)(i:σ.NY j=H (.ns names log)){f:M}{a:Ge}(aJ:bC bj=H (.ref f))(k:¬c.N9 f)(l:c.i.get? f=H a)(m:a.cls=.type "function")(n:bC "__getattribute__"=B2)(p:bC "__getattr__"=B2)
  {y:Option Z}(t:CD (.type "object") bj=CV y)(z:bj∉names){B:FB Bool}{Q:Z×List Z->BN->Prop}
  (r:aA c g σ s)(hv:a8 c s.heap g.F g.a σ.aa (.bh C j) v)(h:Q (.ref f,[v]) s):B9 c.NU A (Jx v bj B) Q E s:=by
 obtain⟨x,o,bv,rfl,W,ac,ae,ah,D,F,ai,am,an,_⟩:=nb r i hv;have X:=aL.QA r;obtain⟨nm,q,bs,sn,sub,col,dd,k0,k1,k2,k3,k5,e⟩:=jM.Qa X
 have G:bv bj=B2:=by
  cases q:bv bj with
  |none=>rfl
  |some w=>exact absurd (F _ _ q) z
 have I:s.heap.Inst x C bv:=by
  obtain⟨K,b⟩:=D;refine A4 b λcx di eS e9=>?_;clear b;exact⟨K,cx,di,eS,e9.elim .inl λL=>by obtain⟨d,P,S,T,_⟩:=L;exact .inr ⟨d,P,S,T⟩⟩
 exact method_of e X.ns n p aJ (r.q _ _ l k) m t I G h
theorem v1{a o:Ge}(b:a.cls=o.cls)(c:a.data=o.data)(d:a.slots=o.slots)(e:a.dict=o.dict):a=o:=by
 cases a;cases o;simp only[Obj.mk.injEq];exact⟨b,e,c,d⟩
theorem vd(aL:gG c C N bC)(B:σ.NY j=H (.ns names log))(p:names[k]?=H bj){v:Y}(T:bC "__setattr__"=B2)(W:bC bj=B2)(ac:CD (.type "object") bj=CV B2)
  {D G:Z}{Q:Unit->BN->Prop}(r:aA c g σ s)(ae:a8 c s.heap g.F g.a σ.aa (.bh C j) D)(hv:a8 c s.heap g.F g.a σ.aa v G)(bi:names.length<=1000)
  (h:∀s',(∀a o,a≠g.a j->s.heap.get? a=H o->s'.heap.get? a=H o)->s.heap.objs.size<=s'.heap.objs.size->s'.gens=s.gens->s'.os=s.os->eW c s'.heap g.F g.a σ.aa (g.a j) (.ns names ((k,v)::log))->Q () s'):
  B9 c.NU A (JF D bj G) Q E s:=by
 obtain⟨x,o,bv,rfl,bk,m,d,ah,I,L,t,ai,am,bl⟩:=nb r B ae;have X:=aL.QA r;obtain⟨nm,q,bs,sn,sub,col,dd,k0,k1,k2,k3,k5,e⟩:=jM.Qa X
 have an:x≠C:=by
  intro q;obtain⟨bu,b⟩:=I;refine A4 b λcx di eS n=>?_;clear b;rw[q,e]at cx;cases cx;exact eS _ R
 refine gh (store_attrFk (ns:=names) F.store_object e X.ns T W ac an I (λay ao ap av ax aB=>?_) (λy f=>?_) ?_)
 .have z:∀a o,a≠g.a j->s.heap.get? a=H o->ay.get? a=H o:=λa aE aJ l=>by
   by_cases P:a=x
   .obtain⟨bx,b⟩:=ax o m;refine A5 b λaO aR aT aW aX=>?_;clear b;rw[P]at l⊢;replace l:=(show s.heap.get? x=H o from m).symm.trans l;cases l;exact BK aO (U (v1 aR aT aW ((aX _ d).trans d.symm)) R)
   .exact av a aE P (λbz aY h1 h2=>by replace h1:=(show s.heap.get? x=H o from m).symm.trans h1;cases h1;replace h2:=d.symm.trans h2;cases h2;exact aJ) l
  refine h _ z aB R R ?_;obtain⟨bD,b⟩:=ap;refine A4 b λcx di eS e9=>?_;clear b;have aZ:=z x o (DN ah) m;replace cx:=aZ.symm.trans cx;cases cx;rcases e9 with⟨e9,_⟩|⟨aY,e9,bH,a4,a9⟩
  .replace e9:=d.symm.trans e9;cases e9
  .replace e9:=d.symm.trans e9;cases e9;obtain⟨ba,b⟩:=a9;refine A3 b λbb bc bf=>?_;clear b;have K:=r.Qf (s':=⟨ay,s.gens,s.drawn,ao,s.os⟩) B z;refine⟨t,ba,_,bb,⟨bc,bf⟩,a4,λy w f=>?_,tq t p (λi w bg=>(ai i w bg).be K (λn n=>R) (BJ _)) (hv.be K (λn n=>R) (BJ _)),wg t p am⟩
   by_cases S:y=bj
   .exact U S (B5 p)
   .replace f:=(if_neg S).symm.trans f;exact L _ _ f
 .exact(Option.ne_none_iff_exists'.mp f).elim λw q=>L _ _ q
 .have:Hf=16777216:=by decide
  exact BG ‹_› (DD R)
end
theorem h9{i:O}(h:WE c d ae d0 σ (tm c d (λv=>Hn v i u) Q X) X)
  (j:(λenv e=>GC d0 i env e)=(λenv e=>e):=by rfl):WE c d ae (.Attribute d0 i pos) σ Q X:=λA g s L Fr l r f n=>by
 have j:=λenv e=>congrFun (congrFun j env) e;refine U (arm_eval_Attribute ..) (U (j ..) (BM (WT.NZ h l r f n R (λa bg σ₁ ax bl m o p F G q t=>BM (C6 (BM (C2 (e2.NZ t l o p q (λb w x I K z B C D E=>BM (Kk (BW ⟨b,w,x,m.NT z,B,C,D,E⟩))) λk k y=>PX.NT m y))))) λk k y=>y)))
noncomputable def im(c:Cx)(d:Nat)(bj:O)(e v:Y)(σ σ':V):Prop:=
 ∀A g s names L a b,dq c A d->aA c g σ s->bd c names L g σ s->a8 c s.heap g.F g.a σ.aa e a->a8 c s.heap g.F g.a σ.aa v b->∀(K:Unit->BN->Prop)(E:Z->BN->Prop),
  (∀s',aF c (cy L) g σ s g σ' s'->aA c g σ' s'->bd c names L g σ' s'->K () s')->B9 c.NU A (JF a bj b) K E s
variable{log:List (Nat×Y)}
theorem im.Px{names:List O}{bj:O}{v:Y}(aL:gG c C N bC)(a:σ.NY j=H (.ns names log))(i:names[k]?=H bj)(l:bC "__setattr__"=B2)(m:bC bj=B2)
  (n:CD (.type "object") bj=CV B2)(o:names.length<=1000):im c d bj (.bh C j) v σ (σ.NX j (.ns names ((k,v)::log))):=
 λA g s x L y z B r f p rv K E q=>vd aL a i l m n r p rv o λs' b e h t w=>q s' (aF.NX r a b e h) (r.NX a b e h t w) (f.NX r a b)
inductive qF(c:Cx)(d:Nat)(attr:O)(v:Y)(Q:bY->V->Prop)(ov:Y)(σ:V):Prop
 |mk:∀σ',im c d attr ov v σ σ'->Q .aa σ'->qF c d attr v Q ov σ
noncomputable def zr(c:Cx)(d:Nat)(ae:bB)(o:CQ)(a:O)(Q:bY->V->Prop)(X:AX->V->Prop):Y->V->Prop:=λv σ=>WE c d ae o σ (qF c d a v Q) X
theorem lV{o:CQ}{e:O}{Q:bY->V->Prop}(h:WE c d ae d0 σ (zr c d ae o e Q X) X)
  (n:(λenv=>Hp d0 (H (.Attribute o e pos')) pos.line env)=(λenv=>CV BQ):=by rfl):eK c d ae (.Assign [.Attribute o e pos'] d0 pos) σ Q X:=
 λA g s L Fr i r f p=>Ij (WT.NZ h i r f p R (λa bg σ₁ ax bl k q t v w x z=>WT.NZ z i q t v w (λb l W B C m D E ac ah F G=>by
  obtain⟨I,K,N⟩:=G;exact K A l B ae.aG L C bl i D E F (m.Ou x) _ _ λs' P S T=>⟨.aa,l,I,(k.NT m).NT P,S,T,.aa,N⟩) λj j y=>PX.NT k y) λj j y=>y) (congrFun n _)
noncomputable def cf(c:Cx)(d:Y)(bj:O)(σ:V)(e:Y)(self:Bool):Prop:=
 ∀A g s a(f:FB Bool)(Q:Z×List Z->BN->Prop)(E:Z->BN->Prop),A.handled=B2->aA c g σ s->a8 c s.heap g.F g.a σ.aa d a->
  (∀b tk,a8 c s.heap g.F g.a σ.aa e b->Q (b,if self then[a]else[]) {s with toks:=tk})->B9 c.NU A (Jx a bj f) Q E s
theorem cf.Px{names:List O}{bj:O}(aL:gG c C N bC)(b:σ.NY j=H (.ns names log)){f:M}{a:Ge}(aJ:bC bj=H (.ref f))(d:¬c.N9 f)
  (e:c.i.get? f=H a)(h:a.cls=.type "function")(i:bC "__getattribute__"=B2)(l:bC "__getattr__"=B2){y:Option Z}(m:CD (.type "object") bj=CV y)(n:bj∉names):cf c (.bh C j) bj σ (.bT (.ref f)) u:=
 λA g s o p Q E q r hv k=>zw aL b aJ d e h i l m n r hv (k _ s.toks .bT)
theorem zj{env:E6}(c:c2.all Hh=u)(d:b6.all (·.arg.isSome)=u)(a:Ic (c2.length+b6.length) 28=u):
  Mc (c2.length+b6.length) (GA pos (Ez c2 env)) (EB pos (DI b6 env))=u:=by
 refine A3 (pH (pos:=pos) (env:=env) d) λk1 k2 k3=>?_;have b:=oj (pos:=pos) (env:=env) c;unfold Mc;refine U k2 ?_
 have:(GA pos (Ez c2 env)).all (!·.1)=u:=by
  rw[Cn];intro x e;rw[J0]at b;have:=b x e;simpa using this
 refine U this ?_;have a:=Fu a;simp only[Bool.true_and,decide_eq_true_eq];split <;> lia
noncomputable def yM(c:Cx)(d:Nat)(ae:bB)(b6:List Fw)(pos:FH)(a:Y)(self:Bool)(b:Y)(Q:Y->V->Prop)(X:AX->V->Prop):List Y->V->Prop:=λas σ=>jn c d ae b6 pos σ (nF c d b6 a ((if self then[b]else[])++as) Q X) X
inductive tx(c:Cx)(d:Nat)(ae:bB)(bj:O)(c2:List CQ)(b6:List Fw)(pos:FH)(Q:Y->V->Prop)(X:AX->V->Prop)(ov:Y)(σ:V):Prop
 |mk:∀fv self,cf c ov bj σ fv self->a1 c fv->WA c d ae c2 pos σ (yM c d ae b6 pos fv self ov Q X) X->tx c d ae bj c2 b6 pos Q X ov σ
theorem eb{o:CQ}{bj:O}{i:FH}
  (h:WE c d ae o σ (tx c d ae bj c2 b6 pos Q X) X)
  (hpos:(i.endLine==pos.line)=u:=by rfl)
  (n:mP c2 b6=u:=by rfl)
  (w:(λenv j=>GC o bj env j)=(λenv j=>j):=by rfl):WE c d ae (.Call (.Attribute o bj i) c2 b6 pos) σ Q X:=λA g s L Fr l r f S=>by
 have w:=λenv j=>congrFun (congrFun w env) j;obtain⟨n,p⟩:=CK.mp n;obtain⟨p,T⟩:=CK.mp p
 have e:EJ (.Call (.Attribute o bj i) c2 b6 pos) (ae.N3 g.a L Fr)=(do
  let q ←GC o bj (ae.N3 g.a L Fr) (EJ o (ae.N3 g.a L Fr))
  F6 i.atName
  M0 o bj i pos (ae.N3 g.a L Fr) q (c2.length+b6.length) (GA pos (Ez c2 (ae.N3 g.a L Fr))) (EB pos (DI b6 (ae.N3 g.a L Fr)))):=R
 refine U e (U (w ..) (BM (WT.NZ h l r f S R (λq bg σ₁ ax C W D ac ah ai E x=>BM (C6 ?_)) λa a y=>y)));obtain⟨am,self,an,ao,x⟩:=x;unfold M0;refine U (zj n p T)<|wpAny_bind (C2 ?_);refine an A bg ax C _ _ _ l.G D E λF tk ap=>?_;have z:aF c (cy L) bg σ₁ ax bg σ₁ {ax with toks:=tk}:=(aF.N6 ..).Oc (λa a e=>e) (BJ _) R;have av:aA c bg σ₁ {ax with toks:=tk}:=D.Oc (λa a e=>e) (BJ _) R R;have ay:bd c ae.aG L bg σ₁ {ax with toks:=tk}:=ac.Oc λa a e=>e;have t:=W.NT z;unfold methodCallPos;refine U hpos (U (Bool.or_true ..) (U (if_pos R) (BM (BW ?_))));refine A3 (pH (pos:=pos) (env:=ae.N3 g.a L Fr) p) λk1 k2 k3=>?_;have G:=oj (pos:=pos) (env:=ae.N3 g.a L Fr) n;refine lO (k:=.frame) (U G (U k1 R)) (la k2 G (WT.NZ x l av ay ah ai (λas a4 aB a9 vs m aE aJ aL aO I aR=>WT.NZ (show jn c d ae b6 pos aB (nF c d b6 am ((if self then[q]else[])++as) Q X) X from aR) l aE aJ aL aO (λba v K B kvs b N aT bb bc aW aX=>?_) λa a y=>PX.NT (t.NT m) y) λa a y=>PX.NT t y));have P:=(m.NT b).Ou (z.Ou ap);have aY:=(m.NT b).Ou (z.Ou E);refine⟨ao A v K B F _ N P,U k3 ?_⟩
 have aZ:bA c B.heap v.F v.a K.aa ((if self then[q]else[])++as) ((if self then[C]else[])++vs):=by
  cases self with
  |true=>exact .aU aY (b.OH I)
  |false=>exact b.OH I
 exact CB (aX A v B ae.aG L F _ kvs l N aT P aZ aW) (λa a y=>bZ.NT ((t.NT m).NT b) y) λa a y=>PX.NT ((t.NT m).NT b) y
structure hl(ae:bB)(σ:V)(o:CQ)(v:Y):Prop where
 hr:Hh o=u
 aP:∀c d X Q,Q v σ->WE c d ae o σ Q X
structure e8(ae:bB)(σ:V)(bS:List CQ)(as:List Y):Prop where
 hr:bS.all Hh=u
 aP:∀c d X pos Q,Q as σ->WA c d ae bS pos σ Q X
section
variable{x:O}{pos:FH}{v:Y}{w:Z}{k i:Nat}{bS:List CQ}{as:List Y}{o:CQ}
theorem hl.aU(a:hl ae σ o v)(h:e8 ae σ bS as):e8 ae σ (o::bS) (v::as):=
 have e:=CK.mpr ⟨a.hr,h.hr⟩
 ⟨e,λb b b b b q=>aI (a.aP _ _ _ _ (h.aP _ _ _ _ _ q)) e⟩
theorem hl.ag(b:(x,cQ.ag k)∈ae.bN)(c:J σ.ag k=H v):hl ae σ (.Name x pos) v:=⟨R,λa a a a q=>aw b c q⟩
theorem hl.ar(b:(x,cQ.ar i)∈ae.bN)(hi:σ.NY i=H (.ar (H v))):hl ae σ (.Name x pos) v:=⟨R,λa a a a q=>bR b hi q⟩
theorem e8.a6:e8 ae σ [] []:=⟨R,λa a a a a q=>bn q⟩
theorem e8.ag(a:(x,cQ.ag k)∈ae.bN)(b:J σ.ag k=H v)(h:e8 ae σ bS as):e8 ae σ (.Name x pos::bS) (v::as):=(hl.ag a b).aU h
theorem e8.ar(a:(x,cQ.ar i)∈ae.bN)(hi:σ.NY i=H (.ar (H v)))(h:e8 ae σ bS as):e8 ae σ (.Name x pos::bS) (v::as):=(hl.ar a hi).aU h
theorem e8.Ow(b:(x,cQ.Ow w)∈ae.bN)(h:e8 ae σ bS as):e8 ae σ (.Name x pos::bS) (.bT w::as):=hl.aU ⟨R,λa a a a q=>dr b q⟩ h
theorem e8.Oh{i:Int}(h:e8 ae σ bS as):e8 ae σ (.Constant (.int i) k pos::bS) (.ab (.int i)::as):=hl.aU ⟨R,λa a a a q=>bI q⟩ h
theorem e8.none(h:e8 ae σ bS as):e8 ae σ (.Constant .none k pos::bS) (.ab .none::as):=hl.aU ⟨R,λa a a a q=>fV q⟩ h
theorem e8.Ov(h:e8 ae σ bS as)(b:BR x=u:=by decide+kernel):e8 ae σ (.Constant (.str x) k pos::bS) (.ab (.str x)::as):=hl.aU ⟨R,λa a a a q=>b8 q b⟩ h
end
theorem d3(a:(x,cQ.Ow v)∈ae.bN)(b:a1 c (.bT v))(an:e8 ae σ c2 as)(h:WK c d (.bT v) as [] [] σ Q X)
  (e:mP c2 []=u:=by rfl)
  (f:(λenv=>EJ (.Call (.Name x p) c2 [] pos) env)=(λenv=>(do FP pos (←EJ (.Name x p) env) [] (GA pos (Ez c2 env)) (EB pos (DI [] env)))):=by rfl):WE c d ae (.Call (.Name x p) c2 [] pos) σ Q X:=
 dJ (dr a ⟨b,an.aP _ _ _ _ _ (ce h)⟩) e f
theorem fe{o:CQ}{a:Y}{bj:O}{f:FH}{b:Y}{self:Bool}(g:hl ae σ o a)(i:cf c a bj σ b self)(j:a1 c b)(an:e8 ae σ c2 as)(h:WK c d b ((if self then[a]else[])++as) [] [] σ Q X)
  (hpos:(f.endLine==pos.line)=u:=by rfl)(k:mP c2 []=u:=by rfl)(l:(λenv e=>GC o bj env e)=(λenv e=>e):=by rfl):WE c d ae (.Call (.Attribute o bj f) c2 [] pos) σ Q X:=
 eb (g.aP _ _ _ _ ⟨_,self,i,j,an.aP _ _ _ _ _ (ce h)⟩) hpos k l
theorem a8.Op{h:CG}{i:Int}(x:a8 c h F ρ n (.ab (.int i)) v):∃t,v=.int i t:=by
 obtain⟨_,y,_,_⟩:=x.NV;exact(E8 y).imp λa h=>h.1
theorem a8.On{h:CG}{i:O}(x:a8 c h F ρ n (.ab (.str i)) v):(∃t,v=.str i t)/\BR i=u:=by
 obtain⟨_,y,_,a⟩:=x.NV;exact⟨(EL y).imp λb h=>h.1,a⟩
theorem a8.Ql{h:CG}(x:a8 c h F ρ n (.ab .none) v):v=.none:=by
 obtain⟨_,y,_,_⟩:=x.NV;exact(reads_none_inv y).1
variable{w:Z}{cj:Y}
theorem WK.Pn(k:∀A g s names L a,dq c A d->aA c g σ s->bd c names L g σ s->a8 c s.heap g.F g.a σ.aa cj a->B9 c.NU A (Du w [a] []) (bZ rV ⟨c,names,L⟩ g σ s Q) (PX ⟨c,names,L⟩ g σ s X) s):WK c d (.bT w) [cj] [] [] σ Q X:=λA g s names L j vs kvs b r f e h i=>by
 obtain rfl:=e.NV;obtain rfl:=i.OB;obtain⟨a,rfl,a2⟩:=h.PT;exact k A g s names L a b r f a2
theorem WK.QI{cq:Y}(k:∀A g s names L a b,dq c A d->aA c g σ s->bd c names L g σ s->a8 c s.heap g.F g.a σ.aa cj a->a8 c s.heap g.F g.a σ.aa cq b->B9 c.NU A (Du w [a,b] []) (bZ rV ⟨c,names,L⟩ g σ s Q) (PX ⟨c,names,L⟩ g σ s X) s):WK c d (.bT w) [cj,cq] [] [] σ Q X:=λA g s names L l vs kvs e r f h i j=>by
 obtain rfl:=h.NV;obtain rfl:=j.OB;obtain⟨a,b,rfl,a2,bH⟩:=i.Qr;exact k A g s names L a b e r f a2 bH
theorem WK.TQ{cq du:Y}(k:∀A g s names L a b e,dq c A d->aA c g σ s->bd c names L g σ s->a8 c s.heap g.F g.a σ.aa cj a->a8 c s.heap g.F g.a σ.aa cq b->a8 c s.heap g.F g.a σ.aa du e->B9 c.NU A (Du w [a,b,e] []) (bZ rV ⟨c,names,L⟩ g σ s Q) (PX ⟨c,names,L⟩ g σ s X) s):WK c d (.bT w) [cj,cq,du] [] [] σ Q X:=λA g s names L m vs kvs h r f i j l=>by
 obtain rfl:=i.NV;obtain rfl:=l.OB;obtain⟨a,b,e,rfl,a2,bH,ef⟩:=j.PR;exact k A g s names L a b e h r f a2 bH ef
theorem AY{t:Nat}{names:List O}{Q:Bool->V->Prop}(r:aA c g σ s)(f:bd c names L g σ s)(h:Q b σ):bZ hX ⟨c,names,L⟩ g σ s Q b {s with toks:=t}:=
 ⟨b,g,σ,(aF.N6 ..).Oc (λa a e=>e) (BJ _) R,r.Oc (λa a e=>e) (BJ _) R R,f.Oc λa a e=>e,R,h⟩
variable{a b:Int}
theorem iw(h:Q (.ab (.int (a+b))) σ):co rV c d (EU .Add) (.ab (.int a)) (.ab (.int b)) σ Q X:=λA g s names L bl j k r f e i=>by
 obtain⟨t,rfl⟩:=e.Op;obtain⟨bb,rfl⟩:=i.Op;exact LV (fr r f (.Oh _ _) h)
theorem kE(h:Q (.ab (.int (a-b))) σ):co rV c d (EU .Sub) (.ab (.int a)) (.ab (.int b)) σ Q X:=λA g s names L bl j k r f e i=>by
 obtain⟨t,rfl⟩:=e.Op;obtain⟨bb,rfl⟩:=i.Op;exact LB (fr r f (.Oh _ _) h)
theorem qV(ac:b≠0)(h:Q (.ab (.int (a.fmod b))) σ):co rV c d (EU .Mod) (.ab (.int a)) (.ab (.int b)) σ Q X:=λA g s names L bl j k r f e i=>by
 obtain⟨t,rfl⟩:=e.Op;obtain⟨bb,rfl⟩:=i.Op;exact mod_int' ac (fr r f (.Oh _ _) h)
theorem jx(h:Q (.ab (.bool (decide (a<b)))) σ):co rV c d (CC .Lt) (.ab (.int a)) (.ab (.int b)) σ Q X:=λA g s names L bl j k r f e i=>by
 obtain⟨t,rfl⟩:=e.Op;obtain⟨bb,rfl⟩:=i.Op;exact LJ (bZ.Oi r f (.Oz _) h)
theorem sh(h:Q (.ab (.bool (decide (b<a)))) σ):co rV c d (CC .Gt) (.ab (.int a)) (.ab (.int b)) σ Q X:=λA g s names L bl j k r f e i=>by
 obtain⟨t,rfl⟩:=e.Op;obtain⟨bb,rfl⟩:=i.Op;exact LO (bZ.Oi r f (.Oz _) h)
theorem y8(h:Q (.ab (.bool (decide (a<=b)))) σ):co rV c d (CC .LtE) (.ab (.int a)) (.ab (.int b)) σ Q X:=λA g s names L bl j k r f e i=>by
 obtain⟨t,rfl⟩:=e.Op;obtain⟨bb,rfl⟩:=i.Op;exact LL (bZ.Oi r f (.Oz _) h)
theorem om(h:Q (.ab (.bool (a==b))) σ):co rV c d (CC .Eq) (.ab (.int a)) (.ab (.int b)) σ Q X:=λA g s names L bl j k r f e i=>by
 obtain⟨t,rfl⟩:=e.Op;obtain⟨bb,rfl⟩:=i.Op;exact LU (bZ.Oi r f (.Oz _) h)
theorem qE(h:Q (.ab (.bool (a !=b))) σ):co rV c d (CC .NotEq) (.ab (.int a)) (.ab (.int b)) σ Q X:=λA g s names L bl j k r f e i=>by
 obtain⟨t,rfl⟩:=e.Op;obtain⟨bb,rfl⟩:=i.Op;exact LG (bZ.Oi r f (.Oz _) h)
theorem sj(e:IntMulOk a b)(h:Q (.ab (.int (a*b))) σ):co rV c d (EU .Mult) (.ab (.int a)) (.ab (.int b)) σ Q X:=λA g s names L bl k l r f i j=>by
 obtain⟨t,rfl⟩:=i.Op;obtain⟨bb,rfl⟩:=j.Op;exact LH (fr r f (.Oh _ _) h) e
theorem qw(ac:b≠0)(e:b.natAbs<1073741824)(h:Q (.ab (.int (a.fdiv b))) σ):co rV c d (EU .FloorDiv) (.ab (.int a)) (.ab (.int b)) σ Q X:=λA g s names L bl k l r f i j=>by
 obtain⟨t,rfl⟩:=i.Op;obtain⟨bb,rfl⟩:=j.Op;exact floordiv_int ac (fr r f (.Oh _ _) h) (.inl (NP e))
theorem kU(h:Q (.ab (.int (-a))) σ):e2 rV c d (unaryOp .USub) (.ab (.int a)) σ Q X:=λA g s names L bl e r f b=>by
 obtain⟨t,rfl⟩:=b.Op;exact LF (fr r f (.Oh _ _) h)
variable{a b:O}
theorem nS(h:Q (.ab (.bool (decide (a.cps.toList<b.cps.toList)))) σ):co rV c d (CC .Lt) (.ab (.str a)) (.ab (.str b)) σ Q X:=λA g s names L bl j k r f e i=>by
 obtain⟨⟨t,rfl⟩,_⟩:=e.On;obtain⟨⟨bb,rfl⟩,_⟩:=i.On;exact Gq (bZ.Oi r f (.Oz _) h)
theorem oV(h:Q (.ab (.bool (decide (b.cps.toList<a.cps.toList)))) σ):co rV c d (CC .Gt) (.ab (.str a)) (.ab (.str b)) σ Q X:=λA g s names L bl j k r f e i=>by
 obtain⟨⟨t,rfl⟩,_⟩:=e.On;obtain⟨⟨bb,rfl⟩,_⟩:=i.On;exact _root_.PySem.P.gt_str (bZ.Oi r f (.Oz _) h)
theorem hL(h:Q (.ab (.bool (a==b))) σ):co rV c d (CC .Eq) (.ab (.str a)) (.ab (.str b)) σ Q X:=λA g s names L bl j k r f e i=>by
 obtain⟨⟨t,rfl⟩,_⟩:=e.On;obtain⟨⟨bb,rfl⟩,_⟩:=i.On;exact Gr (bZ.Oi r f (.Oz _) h)
theorem qe(an:BR a=u)(ac:BR b=u):BR (a++b)=u:=by
 unfold BR at*;exact BK Array.all_append (U an (U ac R))
theorem gm(e:a.length+b.length<=1000000)(h:Q (.ab (.str (a++b))) σ):co rV c d (EU .Add) (.ab (.str a)) (.ab (.str b)) σ Q X:=λA g s names L bl k l r f i j=>by
 obtain⟨⟨t,rfl⟩,h1⟩:=i.On;obtain⟨⟨bb,rfl⟩,h2⟩:=j.On;exact HS (λm tk=>fr r f (.Ov _ _ (qe h1 h2)) h) (BG e (DD R))
theorem y2(h:Q (.ab (.bool (!(Ej a b 0 a.length 1).isEmpty))) σ):co rV c d (CC .In) (.ab (.str b)) (.ab (.str a)) σ Q X:=λA g s names L bl j k r f e i=>by
 obtain⟨⟨t,rfl⟩,_⟩:=e.On;obtain⟨⟨bb,rfl⟩,_⟩:=i.On;exact LM (bZ.Oi r f (.Oz _) h)
theorem pa(h:Q (.ab (.bool ((Ej a b 0 a.length 1).isEmpty))) σ):co rV c d (CC .NotIn) (.ab (.str b)) (.ab (.str a)) σ Q X:=λA g s names L bl j k r f e i=>by
 obtain⟨⟨t,rfl⟩,_⟩:=e.On;obtain⟨⟨bb,rfl⟩,_⟩:=i.On;exact LD (U (IT ..) (bZ.Oi r f (.Oz _) h))
noncomputable def Y.Pk:Y->Bool
 | .ab .none=>u
 | .bT .none=>u
 |_=>BQ
theorem xW(v:Z):(v== .none)=(Y.bT v).Pk:=by cases v <;> rfl
theorem wd{h:CG}{d:Cj}{as:List M}(y:E2 h v d as):(v== .none)=(Y.ab d).Pk:=by cases y <;> rfl
variable{a:Y}
theorem a8.SL{h:CG}(x:a8 c h F ρ n a v):(v== .none)=a.Pk:=by
 cases a with
 |ab d=>obtain⟨_,y,_,_⟩:=x.NV;exact wd y
 |aP i=>exact U x.NV.1 R
 |bT w=>exact U (show v=w from x.NV) (xW w)
 |bh C j=>obtain⟨_,_,e,_⟩:=x.NV;exact U e R
 |ed L q=>obtain⟨_,_,e,_⟩:=x.NV;exact U e R
 |b2 xs=>obtain⟨_,_,_,_,e,_⟩:=x.NV;exact U e R
 |fv m=>obtain⟨_,_,_,_,e,_⟩:=x.NV;exact U e R
 |c5 q=>obtain⟨_,_,_,e,_⟩:=x.NV;exact U e R
 |dN f s=>obtain⟨_,_,e,_⟩:=x.NV;exact U e R
 |gJ T=>obtain⟨_,_,e,_⟩:=x.NV;exact U e R
theorem hB(h:Q (.ab (.bool a.Pk)) σ):co rV c d (CC .Is) a (.ab .none) σ Q X:=λA g s names L bl i j r f b e=>by
 cases e.Ql;exact is_none (U b.SL (bZ.Oi r f (.Oz _) h))
theorem pn(h:Q (.ab (.bool (!a.Pk))) σ):co rV c d (CC .IsNot) a (.ab .none) σ Q X:=λA g s names L bl i j r f b e=>by
 cases e.Ql;exact isNot_none (U b.SL (bZ.Oi r f (.Oz _) h))
variable{b:Bool}
theorem xr{a:Bool}(h:Q (.ab (.bool (a==b))) σ):co rV c d (CC .Is) (.ab (.bool a)) (.ab (.bool b)) σ Q X:=λA g s names L bl j k r f e i=>by
 cases e.Qn;cases i.Qn;cases a <;> cases b <;> exact BM (BW (BW (bZ.Oi r f (.Oz _) h)))
theorem w2{a:Bool}(h:Q (.ab (.bool (a !=b))) σ):co rV c d (CC .IsNot) (.ab (.bool a)) (.ab (.bool b)) σ Q X:=λA g s names L bl j k r f e i=>by
 cases e.Qn;cases i.Qn;cases a <;> cases b <;> exact BM (BW (BW (bZ.Oi r f (.Oz _) h)))
theorem iI{Q:Bool->V->Prop}(h:Q b σ):e2 hX c d Hc (.ab (.bool b)) σ Q X:=λA g s names L bl e r f a=>by
 cases a.Qn;exact KX (bZ.Oi r f R h)
theorem yO{i:Int}{Q:Bool->V->Prop}(h:Q (i !=0) σ):e2 hX c d Hc (.ab (.int i)) σ Q X:=λA g s names L bl b r f a=>by
 obtain⟨t,rfl⟩:=a.Op;exact Lz (bZ.Oi r f R h)
theorem oH{Q:Bool->V->Prop}(b:dF σ a ds)(k:ds.length<=1000000)(h:Q (!ds.isEmpty) σ):e2 hX c d Hc a σ Q X:=λA g s names L bl m r f i=>by
 obtain⟨l,vs,as,_,rfl,h1,h2,_⟩:=b.NV r i;have e:vs.size=ds.length:=br (iP.QO h2) Cq.symm;refine wpAny_truthy_list h1 (by refine U e ?_;lia) ?_
 have j:(!vs.isEmpty)=!ds.isEmpty:=by
  unfold Array.isEmpty;refine U e ?_;cases ds <;> simp
 exact U j (AY r f h)
theorem iG(b:dF σ a ds)(n:ds.length<=1000000)(h:Q (.ab (.int ds.length)) σ):WK c d (.bT (.builtin "len")) [a] [] [] σ Q X:=λA g s names L o vs kvs p r f i j k=>by
 obtain rfl:=i.NV;obtain rfl:=k.OB;obtain⟨_,rfl,m⟩:=j.PT
 .obtain⟨l,vs,as,_,rfl,h1,h2,_⟩:=b.NV r m;have e:vs.size=ds.length:=br (iP.QO h2) Cq.symm;refine HN h1 (by refine U e ?_;lia) ?_;exact U e (fr r f (.Oh _ _) h)
theorem wm(j:x.length<=1000000)(h:Q (.ab (.int x.length)) σ):WK c d (.bT (.builtin "len")) [.ab (.str x)] [] [] σ Q X:=λA g s names L k vs kvs l r f a b e=>by
 obtain rfl:=a.NV;obtain rfl:=e.OB;obtain⟨_,rfl,i⟩:=b.PT
 .obtain⟨⟨t,rfl⟩,_⟩:=i.On;exact LK (by lia) (fr r f (.Oh _ _) h)
inductive gq(σ:V):Y->Cj->Prop
 |ab {x:Cj}:gq σ (.ab x) x
 |bm {i:Nat} {ds:List Cj}:σ.NY i=H (.aN ds)->gq σ (.aP i) (.list ds)
theorem gq.NV{d:Cj}(h:gq σ a d)(r:aA c g σ s)(hv:a8 c s.heap g.F g.a σ.aa a v):∃as,E2 s.heap v d as/\d.canLay0=u:=by
 cases h with
 |ab=>obtain⟨_,x,j,b⟩:=hv.NV;exact⟨_,x,b⟩
 |bm hi=>
  obtain⟨rfl,_⟩:=hv.NV;obtain⟨o,vs,k,as,h1,h2,e,f,l,i⟩:=r.bh _ _ hi;exact⟨_,.list h1 h2.1 e f,by rw[DH];exact i⟩
variable{b:Y}{da lH:Cj}
theorem vi(an:gq σ a da)(ac:gq σ b lH)(e:ME da.depth lH.depth<=800)(h:Q (.ab (.bool (Gm da lH))) σ):co rV c d (CC .Eq) a b σ Q X:=λA g s names L bl n i r f j k=>by
 obtain⟨as,a2,l⟩:=an.NV r j;obtain⟨bs,bH,m⟩:=ac.NV r k;exact IV a2 bH l m (by have:=i.QC;exact aV [_,_,_] af (nA 800) (aq (ct 0 800) a7) au (aq (aq ak af) a7) au al e this) (bZ.Oi r f (.Oz _) h)
theorem ze(an:gq σ a da)(ac:gq σ b lH)(e:ME da.depth lH.depth<=800)(h:Q (.ab (.bool (!Gm da lH))) σ):co rV c d (CC .NotEq) a b σ Q X:=λA g s names L bl n i r f j k=>by
 obtain⟨as,a2,l⟩:=an.NV r j;obtain⟨bs,bH,m⟩:=ac.NV r k;exact IU a2 bH l m (by have:=i.QC;exact aV [_,_,_] af (nA 800) (aq (ct 0 800) a7) au (aq (aq ak af) a7) au al e this) (bZ.Oi r f (.Oz _) h)
theorem n3(an:gq σ a da)(ac:dF σ b ds)(e:da.depth<=700)(h:Q (.ab (.bool (ds.any λy=>Gm y da))) σ):co rV c d (CC .In) a b σ Q X:=λA g s names L bl p i r f j k=>by
 obtain⟨as,a2,m⟩:=an.NV r j;obtain⟨l,vs,bs,a9,rfl,h1,h2,q,n,o⟩:=ac.NV r k;exact SeqAt.in_list_reads o a2 n m (by have:=i.QC;exact cI [_,_,_,_] bG (nA 700) (aq (ct 0 800) a7) au af bG (aq (aq aC af) a7) au al e this (Da _ _)) (bZ.Oi r f (.Oz _) h)
section
variable{c:Cx}{h:CG}{F:M->Prop}{ρ:Nat->M}{n:Nat}
theorem bA.SQ(k:Nat)(x:bA c h F ρ n as vs):bA c h F ρ n (as.take k) (vs.take k):=by
 induction as generalizing vs k with
 |nil=>exact U x.OB (U KO (U KO .a6))
 |cons a as b=>
  obtain⟨w,aR,rfl,h1,h2⟩:=x.NV
  cases k with
  |zero=>exact .a6
  |succ k=>exact .aU h1 (b k h2)
theorem bA.dropO:∀{as:List Y}{vs:List Z}(k:Nat),bA c h F ρ n as vs->bA c h F ρ n (as.drop k) (vs.drop k)
 |_,_,0,x=>x
 |_,_,k+1,.a6=>.a6
 |_,_,k+1,.aU h1 h2=>h2.dropO k
theorem bA.NZ{as:List Y}{vs:List Z}(x:bA c h F ρ n as vs){i:Nat}{a:Y}(an:as[i]?=H a):∃v,vs[i]?=H v/\a8 c h F ρ n a v:=by
 induction as generalizing vs i with
 |nil=>cases an
 |cons b bs d=>
  cases x with
  |aU h1 h2=>
   cases i with
   |zero=>cases an;exact⟨_,R,h1⟩
   |succ i=>exact d h2 an
theorem bA.S9(k:Nat)(x:bA c h F ρ n as vs):bA c h F ρ n (as.eraseIdx k) (vs.eraseIdx k):=by
 refine U (Fn ..) (U (Fn ..) ((x.SQ k).Qc (x.dropO (k+1))))
theorem bA.TC(x:bA c h F ρ n as vs):∀dj:List Nat,bA c h F ρ n (dj.filterMap (as[·]?)) (dj.filterMap (vs[·]?)):=by
 intro dj
 induction dj with
 |nil=>
  exact .a6
 |cons i dj b=>
  refine U D6 (U D6 ?_)
  cases an:as[i]? with
  |none=>
   have:vs[i]?=B2:=by
    rw[List.getElem?_eq_none_iff]at an⊢;exact br x.length an
   exact U this b
  |some a=>
   obtain⟨v,hv,rv⟩:=x.NZ an;exact U hv (.aU rv (b))
end
noncomputable def jJ(c:Cx)(d:Nat)(a b:Y)(σ:V)(Q:Y->V->Prop)(X:AX->V->Prop):Prop:=
 ∀A g s names L bl e,dq c A d->aA c g σ s->bd c names L g σ s->a8 c s.heap g.F g.a σ.aa a bl->a8 c s.heap g.F g.a σ.aa b e->
  ∃T f,CD (.type T) "__getitem__"=CV (H (.builtin f))/\s.TypeIs bl T/\B9 c.NU A (JI bl e) (bZ rV ⟨c,names,L⟩ g σ s Q) (PX ⟨c,names,L⟩ g σ s X) s
variable{kH:CQ}
theorem pP{o i:Z}{T b:String}{d:List Z}{Q:Z->BN->Prop}(a:s.TypeIs o T)(e:CD (.type T) "__getitem__"=CV (H (.builtin b)))
  (h:B9 c.NU A (JI o i) Q E s)(f:MI kH BQ o i=operate d (JI o i)):B9 c.NU A (Mm d0 kH o i) Q E s:=by
 unfold Mm;refine BM<|U (getitemInPython_of_ne a.not_modules)<|wpAny_bind (Dr a e (BW (BM (U f ?_))));exact L9 (CB h (λr k g=>BM (Kk (BW g))) λj j x=>x)
noncomputable def Ad(c:Cx)(d:Nat)(a:Y)(Q:Y->V->Prop)(X:AX->V->Prop):Y->V->Prop:=λb σ=>jJ c d a b σ Q X
noncomputable def zU(c:Cx)(d:Nat)(ae:bB)(kH:CQ)(Q:Y->V->Prop)(X:AX->V->Prop):Y->V->Prop:=λa σ=>WE c d ae kH σ (Ad c d a Q X) X
theorem c3(h:WE c d ae d0 σ (zU c d ae kH Q X) X)
  (j:(λo i=>MI kH BQ o i)=(λo i=>operate [o,i] (JI o i)):=by with_unfolding_all rfl):WE c d ae (.Subscript d0 kH pos) σ Q X:=
 λA g s L Fr k r f p=>M5 (WT.NZ h k r f p R (λa bg σ₁ ax bl l q t v w x z=>WT.NZ z k q t v w (λb B S C D m E F W ac G I=>by
  have j:=λo i=>congrFun (congrFun j o) i;obtain⟨T,ah,n⟩:=I A B C ae.aG L bl D k E F (m.Ou x) G;refine A3 n λK N P=>?_;clear n;exact pP N K (CB P (λe e y=>bZ.NT (l.NT m) y) λe e y=>PX.NT (l.NT m) y) (j _ _)) λe e y=>PX.NT l y) λe e y=>y)
variable{k:Int}{x:Cj}
set_option tactic.hygienic true in
theorem vR(a:Eg k ds.length=H j)(c:ds[j]?=H x):(0<=k/\j=k.toNat)\/(k<0/\-(ds.length:Int)<=k/\j=(k+ds.length).toNat):=by
 unfold Eg at a
 by_cases b:k<0
 .simp only[b,if_true]at a;split at a
  .rename_i h1
   simp only[Cv,decide_eq_true_eq]at h1;cases a;exact .inr ⟨b,by lia,R⟩
  .cases a
 .simp only[b,if_false]at a;split at a
  .cases a;exact .inl ⟨by lia,R⟩
  .cases a
theorem gl(an:dF σ a ds)(n:Eg k ds.length=H j)(b:ds[j]?=H x)(z:ds.length<=1000000)(h:Q (.ab x) σ):jJ c d a (.ab (.int k)) σ Q X:=λA g s names L bl B C r f o p=>by
 obtain⟨l,vs,as,_,rfl,h1,h2,q,w,_⟩:=an.NV r o;obtain⟨t,rfl⟩:=p.Op;obtain⟨v,bs,m⟩:=iP.R7 h2 b;refine A3 m λaT aX bc=>?_;clear m;have e:vs.size=ds.length:=br (iP.QO h2) Cq.symm;replace aT:=CN.symm.trans aT;have D:=(BY.mp b).1;have rv:a8 c s.heap g.F g.a σ.aa (.ab x) v:=.ab aX (λa an=>q a (bc a an)) (tG w x (B5 b));refine⟨"list",_,KZ.lookup,h1.typeIs,?_⟩;rcases vR n b with⟨i,rfl⟩|⟨i,y,rfl⟩
 .exact wpAny_getItem_list h1 i (by lia) aT (bZ.Oi r f rv h)
 .exact wpAny_getItem_list_neg h1 i (U e y) (by lia) (U e aT) (bZ.Oi r f rv h)
theorem iN{x:Y}(an:dK a xs)(l:Eg k xs.length=H j)(m:xs[j]?=H x)(b:-(2^63)<=k/\k<2^63)(h:Q x σ):jJ c d a (.ab (.int k)) σ Q X:=λA g s names L bl z B r f n p=>by
 obtain⟨t,q,rfl,h1,h2⟩:=an.NV n;obtain⟨bb,rfl⟩:=p.Op;obtain⟨v,aT,aX⟩:=h2.NZ m;replace aT:=CN.symm.trans aT;have e:q.size=xs.length:=bP h2.length Cq.symm;obtain⟨o,i⟩:=id h1;refine A3 i λw y C=>?_;clear i;exact⟨"tuple",_,Nj.lookup,⟨o,w,y⟩,LR h1 b.1 b.2 (U e l) aT (bZ.Oi r f aX h)⟩
theorem jF{x:O}{ch:Nat}(aL:(Eg k x.length).bind (x.cps[·]?)=H ch)(m:-(2^63)<=k/\k<2^63)(h:Q (.ab (.str ⟨#[ch]⟩)) σ):jJ c d (.ab (.str x)) (.ab (.int k)) σ Q X:=λA g s names L bl n o r f b e=>by
 obtain⟨⟨t,rfl⟩,a⟩:=b.On;obtain⟨bb,rfl⟩:=e.Op
 have j:ch<0x110000:=by
  cases hi:Eg k x.length with
  |none=>rw[hi]at aL;cases aL
  |some i=>
   rw[hi]at aL;have l:=aL;unfold BR at a;rw[FV]at a;simpa using a ch (GJ l)
 refine⟨"str",_,Le.lookup,HH s x t,LS ?_ aL (fr r f (.Ov _ _ ?_) h)⟩
 .simp only[Jm,decide_eq_false_iff_not];lia
 .simp[BR,j]
variable{as:List M}{kvs:List (O×Cj)}
theorem wY{h:CG}{k:O}{aR:List (O×Z)}(d:kvs.map (·.1)=aR.map (·.1))(y:C7 h (aR.map (·.2)) (kvs.map (·.2)) as)(a:kvs.lookup k=H x):
  ∃v bs,valueAt aR k=H v/\E2 h v x bs/\∀b∈bs,b∈as:=by
 induction kvs generalizing aR as with
 |nil=>cases a
 |cons q kvs g=>
  cases aR with
  |nil=>cases d
  |cons w aR=>
  obtain⟨k1,i⟩:=w;obtain⟨k2,x2⟩:=q;obtain⟨_,_,_,_,e,rfl,a2,bH⟩:=f8 y;obtain⟨j,l⟩:=GL e;rw[←j]at a2;rw[←l]at bH;obtain⟨c,m⟩:=GL d;have c:k2=k1:=c;subst c;replace a:=Fs.symm.trans a;unfold valueAt;refine U List.find?_cons ?_
  cases ac:k==k2 with
  |true=>
   rw[ac]at a;cases a;have:k2=k:=(beq_iff_eq.mp ac).symm;simp only[this,decide_true,JW]
   exact⟨i,_,R,a2,λb ac=>Ci _ ac⟩
  |false=>
   rw[ac]at a;have:¬k2=k:=λe=>by rw[e,beq_self_eq_true]at ac;cases ac
   simp only[this,decide_false];obtain⟨v,bs,f⟩:=g m bH a;refine A3 f λaT aX bc=>?_;clear f;exact⟨v,bs,aT,aX,λb ac=>Ce _ (bc b ac)⟩
theorem g9{k:O}(e:kvs.lookup k=H x)(h:Q (.ab x) σ):jJ c d (.c5 kvs) (.ab (.str k)) σ Q X:=λA g s names L bl z B r f j l=>by
 obtain⟨⟨bb,rfl⟩,_⟩:=l.On;obtain⟨_,_,_,rfl,h1,h2,i,m,n,p,q⟩:=j.NV;obtain⟨v,bs,b⟩:=wY m n e;refine A3 b λaT aX bc=>?_;clear b;obtain⟨o,bS,C,b⟩:=id i;refine A3 b λt w D=>?_;clear b
 have y:x∈kvs.map (·.2):=by
  have:=sQ e;exact B7.mpr ⟨_,this,R⟩
 exact⟨"dict",_,Nn.lookup,⟨o,t,w.1⟩,wpAny_getItem_of (MX _ _ _ _) i.mapOf aT (fr r f (.ab aX (λa an=>p a (bc a an)) (tG q x y)) h)⟩
noncomputable def e7(xs:List aO)(lo hi st:Option Int):List aO:=(Fi (Dd lo hi st xs.length).1 (Dd lo hi st xs.length).2.1 (Dd lo hi st xs.length).2.2).filterMap (xs[·]?)
theorem ud(f:aO->b9)(xs:List aO)(lo hi st:Option Int):e7 (xs.map f) lo hi st=(e7 xs lo hi st).map f:=by
 unfold e7;refine U (BH ..) (bP List.map_filterMap ?_)
 congr 1
 funext i
 exact BK Ck R
inductive iB:Y->Option Int->Prop
 |none:iB (.ab .none) B2
 |Oh (i:Int):iB (.ab (.int i)) (H i)
theorem iB.NV{h:CG}{o:Option Int}(x:iB a o)(rv:a8 c h F ρ n a v):IsPart v o:=by
 cases x with
 |none=>cases rv.Ql;exact .none
 |Oh i=>obtain⟨t,rfl⟩:=rv.Op;exact .int i t
noncomputable abbrev lP(c:Cx)(d:Nat)(ae:bB)(x:Option CQ)(σ:V)(Q:Y->V->Prop)(X:AX->V->Prop):Prop:=WT rV c d ae (evalPart x) σ Q X
theorem dS(h:Q (.ab .none) σ):lP c d ae B2 σ Q X:=λA g s L Fr a r f b=>BW (bZ.Oi r f .none h)
theorem gk(h:WE c d ae e σ Q X):lP c d ae (H e) σ Q X:=h
noncomputable def o0(c:Cx)(d:Nat)(a l bb st:Y)(σ:V)(Q:Y->V->Prop)(X:AX->V->Prop):Prop:=
 ∀A g s names L bl b e vs,dq c A d->aA c g σ s->bd c names L g σ s->a8 c s.heap g.F g.a σ.aa a bl->a8 c s.heap g.F g.a σ.aa l b->a8 c s.heap g.F g.a σ.aa bb e->a8 c s.heap g.F g.a σ.aa st vs->
  ∃T f,CD (.type T) "__getitem__"=CV (H (.builtin f))/\({s with heap:=s.heap.push {cls:=.type "slice",data:=.fields #[b,e,vs]}}:BN).TypeIs bl T/\
   B9 c.NU A (JI bl (.ref s.heap.objs.size)) (bZ rV ⟨c,names,L⟩ g σ s Q) (PX ⟨c,names,L⟩ g σ s X) {s with heap:=s.heap.push {cls:=.type "slice",data:=.fields #[b,e,vs]}}
noncomputable def AJ(c:Cx)(d:Nat)(a l bb:Y)(Q:Y->V->Prop)(X:AX->V->Prop):Y->V->Prop:=λw σ=>o0 c d a l bb w σ Q X
noncomputable def zD(c:Cx)(d:Nat)(ae:bB)(st:Option CQ)(a l:Y)(Q:Y->V->Prop)(X:AX->V->Prop):Y->V->Prop:=λbb σ=>lP c d ae st σ (AJ c d a l bb Q X) X
noncomputable def v0(c:Cx)(d:Nat)(ae:bB)(hi st:Option CQ)(a:Y)(Q:Y->V->Prop)(X:AX->V->Prop):Y->V->Prop:=λl σ=>lP c d ae hi σ (zD c d ae st a l Q X) X
noncomputable def xK(c:Cx)(d:Nat)(ae:bB)(lo hi st:Option CQ)(Q:Y->V->Prop)(X:AX->V->Prop):Y->V->Prop:=λa σ=>lP c d ae lo σ (v0 c d ae hi st a Q X) X
theorem gu{lo hi st:Option CQ}(h:WE c d ae d0 σ (xK c d ae lo hi st Q X) X):WE c d ae (.Subscript d0 (.Slice lo hi st p) pos) σ Q X:=
 λA g s L Fr j r f x=>M5 (WT.NZ h j r f x R (λa bg σ₁ ax bl k z B C D E F=>wpAny_Slice (WT.NZ F j z B C D (λb aR aT aW G l I K N P S W=>WT.NZ W j I K N P (λb aX aY aZ ac m ah ai am an ao ap=>WT.NZ ap j ah ai am an (λb av a4 ay aB n aE aJ a9 ba aL aO=>by
  obtain⟨T,bb,q⟩:=aO A av ay ae.aG L bl G ac aB j aE aJ (((l.NT m).NT n).Ou E) ((m.NT n).Ou S) (n.Ou ao) aL;refine A3 q λt v w=>?_;clear q;have o:=((k.NT l).NT m).NT n
  cases st with
  |none=>exact pP v t (CB w (λi i y=>bZ.NT o y) λi i y=>PX.NT o y) R
  |some e=>exact pP v t (CB w (λi i y=>bZ.NT o y) λi i y=>PX.NT o y) R)
  λi i y=>PX.NT ((k.NT l).NT m) y) λi i y=>PX.NT (k.NT l) y) λi i y=>PX.NT k y)) λi i y=>y)
theorem gQ{l bb w:Y}{lo hi st:Option Int}(an:dF σ a ds)(y:iB l lo)(z:iB bb hi)(B:iB w st)(C:st≠H 0)(D:ds.length<=1000000)
  (h:Q (.ab (.list (e7 ds lo hi st))) σ\/Q (.aP σ.aa) (σ.N0 (.aN (e7 ds lo hi st)))):o0 c d a l bb w σ Q X:=λA g s names L bl E G I av r f K N P S=>by
 obtain⟨hQ,vs,as,_,rfl,h1,h2,T,W,_⟩:=an.NV r K;have e:vs.size=ds.length:=br (iP.QO h2) Cq.symm
 let ax:BN:={s with heap:=s.heap.push {cls:=.type "slice",data:=.fields #[E,G,I]}}
 have k1:∀b o,s.heap.get? b=H o->ax.heap.get? b=H o:=cN _ _;have n:ax.heap.IsList hQ vs:=by obtain⟨o,ae,ah⟩:=h1;exact⟨o,k1 _ _ ae,ah⟩
 have ai:bA c s.heap g.F g.a σ.aa (ds.map .ab) vs.toList:=jD h2 T W
 have p:bA c s.heap g.F g.a σ.aa ((e7 ds lo hi st).map .ab) (Hq vs lo hi st).toList:=by
  have:=ai.TC (Fi (Dd lo hi st ds.length).1 (Dd lo hi st ds.length).2.1 (Dd lo hi st ds.length).2.2)
  have am:(Hq vs lo hi st).toList=(Fi (Dd lo hi st ds.length).1 (Dd lo hi st ds.length).2.1 (Dd lo hi st ds.length).2.2).filterMap (vs.toList[·]?):=by
   unfold Hq;refine U e ?_;simp only[CN]
  have ao:(e7 ds lo hi st).map Y.ab=(Fi (Dd lo hi st ds.length).1 (Dd lo hi st ds.length).2.1 (Dd lo hi st ds.length).2.2).filterMap ((ds.map Y.ab)[·]?):=by
   refine hn (ud ..) ?_;unfold e7;exact U (BH ..) R
  exact U am (U ao this)
 refine⟨"list",_,KZ.lookup,n.typeIs,wpAny_getItem_list_slice n (K6 _ _ _ _) (y.NV N) (z.NV P) (B.NV S) C ?_ (a3 e (BG D (DD R)))⟩
 let i:BN:={ax with heap:=ax.heap.push {cls:=.type "list",data:=.seq (Hq vs lo hi st)}}
 have k2:∀b o,s.heap.get? b=H o->i.heap.get? b=H o:=λb o q=>cN _ _ _ _ (k1 b o q);have j:s.heap.objs.size<=ax.heap.objs.size:=cR _ _;have m:s.heap.objs.size<=i.heap.objs.size:=BG j (cR _ _);have t:i.heap.get? ax.heap.objs.size=H {cls:=.type "list",data:=.seq (Hq vs lo hi st)}:=B6 _ R;have ap:ax.heap.objs.size<i.heap.objs.size:=by refine(?_:ax.heap.objs.size<(ax.heap.push {cls:=.type "list",data:=.seq (Hq vs lo hi st)}).objs.size);rw[CH ax.heap];exact B3 _
 rcases h with h|h
 .have v:aF c (cy L) g σ s (g.aK ax.heap.objs.size) σ i:=aF.OA k2 m R j;obtain⟨bs,k⟩:=hD (v.OH p);refine A3 k λaT aX bc=>?_;clear k;refine⟨_,g.aK ax.heap.objs.size,σ,v,r.OA k2 m R R j ap,f.OA k2 j,.ab (.list t R R aT) (λb ac=>?_) (by rw[DH];exact bc),h⟩;rcases BX.mp ac with rfl|ac
  .exact .inr R
  .exact aX b ac
 .have x:aF c (cy L) g σ s ⟨cu g.a σ.aa ax.heap.objs.size,g.F⟩ (σ.N0 (.aN (e7 ds lo hi st))) i:=aF.N0 r k2 m R j;obtain⟨bs,k⟩:=hD (x.OH p);refine A3 k λaT aX bc=>?_;clear k;refine⟨_,_,_,x,r.N0 k2 m R R j ⟨_,_,0,bs,t,⟨R,R,R⟩,R,aT,aX,bc⟩,f.N0 r k2 j,?_,h⟩;have:=a8.aP (c:=c) (h:=i.heap) (F:=g.F) (ρ:=cu g.a σ.aa ax.heap.objs.size) (B3 σ.aa);rw[fc]at this;exact this
set_option maxRecDepth 4000
theorem lD(r:aA c g σ s)(hi:σ.NY i=H (.aN ds)):∃vs k,IsL s.heap (g.a i) vs k/\bA c s.heap g.F g.a σ.aa (ds.map .ab) vs.toList:=by
 obtain⟨o,vs,k,as,h1,⟨cx,di,eS⟩,a,b,d,e⟩:=r.bh i _ hi;obtain⟨c7,f,h,j⟩:=o;simp only at cx di eS a;subst cx di eS a;exact⟨vs,k,h1,jD b d e⟩
theorem cf.aN{bj:O}{b:String}(hi:σ.NY i=H (.aN ds))(f:Fo "list" bj b)(h:MS (.builtin b)=CV (.type "method_descriptor")):cf c (.aP i) bj σ (.bT (.builtin b)) u:=
 λA g s j l Q E m r hv k=>by
  obtain⟨rfl,_⟩:=hv.NV;obtain⟨vs,n,d,_⟩:=lD r hi;exact H1 d.isList.typeIs Np f h (λa e=>by cases e;exact⟨_,d,R⟩) (k _ s.toks .bT)
theorem cf.Ov{x:O}{bj:O}{b:String}(d:Fo "str" bj b)(f:MS (.builtin b)=CV (.type "method_descriptor")):cf c (.ab (.str x)) bj σ (.bT (.builtin b)) u:=
 λA g s h i Q E j r hv k=>by
  obtain⟨⟨t,rfl⟩,_⟩:=hv.On;exact H1 (HH s x t) No d f (λa e=>nomatch e) (k _ s.toks .bT)
theorem lQ{names:List O}{d:List Cj}{vs:Array Z}{k:Nat}{f:Array Z->Array Z}{j:Y}{tk:Nat}(r:aA c g σ s)(q:bd c names L g σ s)(hi:σ.NY i=H (.aN ds))
  (t:IsL s.heap (g.a i) vs k)(hv:bA c s.heap g.F g.a σ.aa (d.map .ab) (f vs).toList)(w:a8 c s.heap g.F g.a σ.aa j v)(h:Q j (σ.NX i (.aN d))):
  bZ rV ⟨c,names,L⟩ g σ s Q v {s with heap:=s.heap.update (g.a i) (Hi f),toks:=tk}:=by
 let s':BN:={s with heap:=s.heap.update (g.a i) (Hi f),toks:=tk}
 have m:Ew (g.a i) s.heap s'.heap:=H8 ..;have b:∀a o,a≠g.a i->s.heap.get? a=H o->s'.heap.get? a=H o:=λa o x e=>(m.2 a x).trans e;have n:=CL m.1.symm;have K:=r.Qf hi b;have y:=t.update f;obtain⟨bs,p⟩:=hD (hv.be K (λl l=>R) (BJ _));refine A3 p λaT aX bc=>?_;clear p;exact⟨j,g,σ.NX i (.aN d),aF.NX r hi b n R,r.NX hi b n R R ⟨_,_,_,bs,y,⟨R,R,R⟩,R,aT,aX,bc⟩,q.NX r hi b,w.be K (λl l=>R) (BJ _),h⟩
theorem jR{h:CG}{vs:Array Z}(x:bA c h F ρ n (ds.map .ab) vs.toList):vs.size=ds.length:=by
 have:=x.length;rw[BH]at this;exact bP this Cq.symm
theorem hH(h:n<=1000000):n<=Hf:=BG h (DD R)
theorem vU{i:Int}(h:-1000000<=i/\i<=1000000):Fv i=u:=by
 unfold Fv;refine U (Cv ..) (U decide_eq_true_eq (U decide_eq_true_eq ?_));constructor <;> lia
theorem iD(hi:σ.NY i=H (.aN ds))(j:ds.length<=999999)(h:Q (.ab .none) (σ.NX i (.aN (ds++[x])))):WK c d (.bT (.builtin "list.append")) [.aP i,.ab x] [] [] σ Q X:=WK.QI λA g s names L b b l r f a2 bH=>by
 obtain⟨rfl,_⟩:=a2.NV;obtain⟨aR,k,a,hv⟩:=lD r hi;have e:=jR hv;refine Gk CT a.isList.typeIs ND (NN _ _) (PySem.list_append _ _ _ _ (a3 e (hH (Co ‹_›)))) ⟨a,lQ r f hi a ?_ .none h⟩;refine U Hm (U Cb (hv.Qc (.aU bH .a6)))
theorem nN{z:Int}(q:z=(j:Int))(hi:σ.NY i=H (.aN ds))(l:j<=ds.length)(t:ds.length<=999999)(h:Q (.ab .none) (σ.NX i (.aN (ds.take j++x::ds.drop j)))):
  WK c d (.bT (.builtin "list.insert")) [.aP i,.ab (.int z),.ab x] [] [] σ Q X:=WK.TQ λA g s names L b b b v r f a2 bH ef=>by
 obtain⟨rfl,_⟩:=a2.NV;obtain⟨bb,rfl⟩:=bH.Op;obtain⟨aR,k,a,hv⟩:=lD r hi;have e:=jR hv
 have m:¬(!Fv z)=u:=by
  have:=vU (i:=z) (by lia);exact U this Dn
 refine Gk Ei a.isList.typeIs NA (NK _ _ _) (MP (g.a i) aR k z bb _ m (a3 e (hH (Co ‹_›)))) ⟨a,lQ r f hi a ?_ .none h⟩
 have n:(if z<0 then(z+(aR.size:Int)).toNat else ME z.toNat aR.size)=j:=by
  refine BK (if_neg (by lia)) (U e ?_);have:z.toNat=j:=by lia
  exact U this (FJ l)
 dsimp only;refine U n (U EQ (U Hm (U Cb (U CR (U EF (U EZ ?_))))));have o:(aR.extract 0 j).toList=aR.toList.take j:=by simp
 have p:(aR.extract j).toList=aR.toList.drop j:=by
  refine BK Array.toList_extract (BK List.extract_eq_take_drop (D8 (a3 Dh (U Cq (BJ _)))))
 refine U o (U p (U (Cu ..) ((hv.SQ j).Qc (.aU ef (hv.dropO j)))))
theorem sL(hi:σ.NY i=H (.aN (x::ds)))(j:ds.length<=999999)(h:Q (.ab x) (σ.NX i (.aN ds))):WK c d (.bT (.builtin "list.pop")) [.aP i,.ab (.int 0)] [] [] σ Q X:=WK.QI λA g s names L e e l r f a2 bH=>by
 obtain⟨rfl,_⟩:=a2.NV;obtain⟨bb,rfl⟩:=bH.Op;obtain⟨aR,k,a,hv⟩:=lD r hi;have b:=jR hv;rw[Cd]at b;obtain⟨v,aT,aX⟩:=hv.NZ (i:=0) R;rw[CN]at aT;refine Gk Gw a.isList.typeIs Nz (NJ _ _) (K3 _ _ _ 0 bb 0 v (by decide) (by refine U b ?_;simp[Eg]) aT (a3 b (hH (Dk ‹_›)))) ⟨a,?_⟩;refine lQ r f hi a ?_ aX h;refine U Ht<|hv.S9 0
theorem u8(hi:σ.NY i=H (.aN ds))(e:ds.length<=999999)(h:Q (.ab .none) (σ.NX i (.aN []))):WK c d (.bT (.builtin "list.clear")) [.aP i] [] [] σ Q X:=WK.Pn λA g s names L j l r f a2=>by
 obtain⟨rfl,_⟩:=a2.NV;obtain⟨aR,k,a,hv⟩:=lD r hi;have b:=jR hv;refine Gk Il a.isList.typeIs NC (NM _) (MQ _ _ _ (a3 b (hH (Co ‹_›)))) ⟨a,lQ r f hi a .a6 .none h⟩
set_option maxRecDepth 4000
theorem w4{h:CG}{ns:List Int}(x:C7 h vs (ns.map .int) as):∃xs:List (Int×Jg),vs=xs.map (λp=>Lt p.1 p.2)/\xs.map (·.1)=ns:=by
 induction ns generalizing vs as with
 |nil=>exact⟨[],(C4 x).1,R⟩
 |cons n ns a=>
  obtain⟨_,_,_,_,e,_,h1,h2⟩:=f8 x;obtain⟨xs,b,c⟩:=a h2;obtain⟨t,d,_⟩:=E8 h1;exact⟨(n,t)::xs,by refine BK e (U b (U d ?_));rfl,congrArg (n::·) c⟩
theorem pm{h:CG}{ns:List O}(x:C7 h vs (ns.map .str) as):∃xs:List (O×Jg),vs=Db xs/\xs.map (·.1)=ns:=by
 induction ns generalizing vs as with
 |nil=>exact⟨[],(C4 x).1,R⟩
 |cons n ns a=>
  obtain⟨_,_,_,_,e,_,h1,h2⟩:=f8 x;obtain⟨xs,b,c⟩:=a h2;obtain⟨t,d,_⟩:=EL h1;exact⟨(n,t)::xs,by refine BK e (U b (U d ?_));rfl,congrArg (n::·) c⟩
variable{xs:List (O×Jg)}
theorem yF:StrsAre (Db xs) (xs.map (·.1)):=by
 induction xs with
 |nil=>exact .nil
 |cons p xs a=>exact .cons p.1 p.2 a
variable{ys:List O}
theorem sG.OH{h:CG}(x:E4 vs ys)(a:∀y∈ys,BR y=u):bA c h F ρ n ((ys.map .str).map .ab) vs:=by
 induction x with
 |nil=>exact .a6
 |cons y t r b=>exact .aU (.Ov y t (a y (.head _))) (b λz d=>a z (.tail _ d))
theorem vL(h:Cy (ys.map .str)=u)(y:O)(b:y∈ys):BR y=u:=by
 induction ys with
 |nil=>cases b
 |cons a ys c=>
  rw[CR,Cy,Cv]at h;rcases BX.mp b with rfl|b
  .simpa[DH]using h.1
  .exact c h.2 b
theorem lB{names:List O}(r:aA c g σ s)(f:bd c names L g σ s)(k:∀b o,s.heap.get? b=H o->s'.heap.get? b=H o)(d:s.heap.objs.size<=s'.heap.objs.size)(e:s'.gens=s.gens)(i:s'.os=s.os)
  (hv:a8 c s'.heap g.F g.a σ.aa a v)(h:Q a σ):bZ rV ⟨c,names,L⟩ g σ s Q v s':=⟨a,g,σ,(aF.N6 ..).Oc k d e,r.Oc k d e i,f.Oc k,hv,h⟩
theorem mN{names:List O}{a:M}{o:Ge}{vs:Array Z}(r:aA c g σ s)(f:bd c names L g σ s)(k:∀b o,s.heap.get? b=H o->s'.heap.get? b=H o)(j:s.heap.objs.size<=s'.heap.objs.size)(l:s'.gens=s.gens)(p:s'.os=s.os)
  (an:s.heap.objs.size<=a)(m:s'.heap.get? a=H o)(ai:iA o)(q:o.data=.seq vs n)(hv:bA c s'.heap g.F g.a σ.aa (ds.map .ab) vs.toList)(h:Q (.ab (.list ds)) σ\/Q (.aP σ.aa) (σ.N0 (.aN ds))):bZ rV ⟨c,names,L⟩ g σ s Q (.ref a) s':=by
 have t:=Ca m;rcases h with h|h
 .have v:aF c (cy L) g σ s (g.aK a) σ s':=aF.OA k j l an;obtain⟨bs,i⟩:=hD (hv.be (F':=(g.aK a).F) ⟨λd d e d=>e,λd d d e=>e,λd e=>.inl e⟩ (λd d=>R) (BJ _));refine A3 i λaT aX bc=>?_;clear i;refine⟨_,g.aK a,σ,v,r.OA k j l p an t,f.OA k an,.ab (.list m ai.1 q aT) (λb ac=>?_) (by rw[DH];exact bc),h⟩;rcases BX.mp ac with rfl|ac
  .exact .inr R
  .exact aX b ac
 .have w:aF c (cy L) g σ s ⟨cu g.a σ.aa a,g.F⟩ (σ.N0 (.aN ds)) s':=aF.N0 r k j l an;obtain⟨bs,i⟩:=hD (hv.be (.N6 _ _) (eu g.a σ.aa a) (Cr _));refine A3 i λaT aX bc=>?_;clear i;refine⟨_,_,_,w,r.N0 k j l p an ⟨_,_,n,bs,m,ai,q,aT,aX,bc⟩,f.N0 r k an,?_,h⟩;have:=a8.aP (c:=c) (h:=s'.heap) (F:=g.F) (ρ:=cu g.a σ.aa a) (B3 σ.aa);rw[fc]at this;exact this
theorem oa{ds bS:List Cj}(an:dF σ a ds)(ac:dF σ b bS)(j:ds.length+bS.length<=1000000)(h:Q (.ab (.list (ds++bS))) σ\/Q (.aP σ.aa) (σ.N0 (.aN (ds++bS)))):co rV c d (EU .Add) a b σ Q X:=λA g s names L bl B C r f k m=>by
 obtain⟨l,vs,as,_,rfl,h1,h2,o,p,_⟩:=an.NV r k;obtain⟨hQ,aR,bs,_,rfl,k1,k2,k3,q,_⟩:=ac.NV r m;have a2:bA c s.heap g.F g.a σ.aa (ds.map .ab) vs.toList:=jD h2 o p;have bH:bA c s.heap g.F g.a σ.aa (bS.map .ab) aR.toList:=jD k2 k3 q;have t:=jR a2;have v:=jR bH;obtain⟨dd,n,w,e⟩:=nO h1;obtain⟨x,y,z,i⟩:=nO k1;refine JR ⟨_,e,R⟩ ⟨_,i,R⟩ Lq Mw IK Iz (Io _ _) (list_addW l hQ vs aR n y dd x w z (U t (U v (hH j)))) ⟨e,i,mN r f (cN _ _) (cR _ _) R R (BJ _) (B6 _ R) ⟨R,R,R⟩ R ?_ h⟩;refine U EQ (U Cb (((aF.N6 c (cy L) g σ s).Oc (s'':={s with heap:=s.heap.push {cls:=.type "list",data:=.seq (vs++aR)}}) (cN _ _) (cR _ _) R).OH (a2.Qc bH)))
theorem t5{ds bS:List Cj}(h1:ds≠[])(h2:bS≠[])(o:ds.length+bS.length<=1000000)(h:Q (.ab (.tuple (ds++bS))) σ):co rV c d (EU .Add) (.ab (.tuple ds)) (.ab (.tuple bS)) σ Q X:=λA g s names L bl B C r f p q=>by
 obtain⟨a,vs,rfl,k1,a2⟩:=(dK.ab).NV p;obtain⟨b,aR,rfl,k2,bH⟩:=(dK.ab).NV q;obtain⟨dd,n,t,i⟩:=nO k1;obtain⟨v,w,x,j⟩:=nO k2;have k:=jR a2;have l:=jR bH
 have y:¬vs.isEmpty=u:=by
  intro e;have:vs.size=0:=by simpa using e
  replace this:=k.symm.trans this;exact h1 (Gt.mp this)
 have z:¬aR.isEmpty=u:=by
  intro e;have:aR.size=0:=by simpa using e
  replace this:=l.symm.trans this;exact h2 (Gt.mp this)
 refine JR ⟨_,i,R⟩ ⟨_,j,R⟩ noFill_tuple_add seq_tuple_add Nk Nw (NG _ _) (tuple_addW2 a b vs aR n w dd v t x y z (U k (U l (hH o)))) ⟨i,j,?_⟩;have st:aF c (cy L) g σ s g σ {s with heap:=s.heap.push {cls:=.type "tuple",data:=.seq (vs++aR)}}:=(aF.N6 ..).Oc (cN _ _) (cR _ _) R;obtain⟨a9,m⟩:=hD (vs:=(vs++aR).toList) (U EQ (U Cb (st.OH (a2.Qc bH))));refine A3 m λaT aX bc=>?_;clear m;exact lB r f (cN _ _) (cR _ _) R R (.ab (.tuple (B6 _ R) R R aT) aX (by rw[DH];exact bc)) h
variable{x:O}
theorem wi(a:x.length<=1000000)(b:BR (Ki x)=u)(h:Q (.ab (.str (Ki x))) σ):WK c d (.bT (.builtin "str.upper")) [.ab (.str x)] [] [] σ Q X:=WK.Pn λA g s names L e i r f a2=>by
 obtain⟨⟨t,rfl⟩,_⟩:=a2.On;exact KG (BG a (DD R)) λe=>fr r f (.Ov _ _ b) h
theorem rB(a:x.length<=1000000)(b:BR (CS x)=u)(h:Q (.ab (.str (CS x))) σ):WK c d (.bT (.builtin "str.lower")) [.ab (.str x)] [] [] σ Q X:=WK.Pn λA g s names L e i r f a2=>by
 obtain⟨⟨t,rfl⟩,_⟩:=a2.On;exact KH (BG a (DD R)) λe=>fr r f (.Ov _ _ b) h
theorem AB{y:O}(h:Q (.ab (.int (IS x y))) σ):WK c d (.bT (.builtin "str.count")) [.ab (.str x),.ab (.str y)] [] [] σ Q X:=WK.QI λA g s names L a a b r f a2 bH=>by
 obtain⟨⟨t,rfl⟩,_⟩:=a2.On;obtain⟨⟨bb,rfl⟩,_⟩:=bH.On;exact SC.count (fr r f (.Oh _ _) h)
set_option tactic.hygienic true in
theorem li(an:dF σ a (ys.map .str))(j:Ir (ys.toArray.foldl (·+·.length+x.length) 0)=BQ)(b:BR (De x ys)=u)(k:(De x ys).length<=1000000)(h:Q (.ab (.str (De x ys))) σ):
  WK c d (.bT (.builtin "str.join")) [.ab (.str x),a] [] [] σ Q X:=WK.QI λA g s names L m m v r f a2 bH=>by
 obtain⟨⟨t,rfl⟩,_⟩:=a2.On;obtain⟨l,aR,as,_,rfl,h1,h2,w,y,_⟩:=an.NV r bH;obtain⟨xs,n,e⟩:=pm h2;have o:aR=(Db xs).toArray:=br n R;rw[o]at h1;refine Gk DO (HH s x t) Nx (NH _ _) (meets_str_join_list x t l xs (U e j)) ⟨h1,?_⟩
 have i:joinMade x xs=.str (De x (xs.map (·.1)))\/∃p,xs=[p]:=by
  cases xs with
  |nil=>exact .inl R
  |cons p r=>
   cases r with
   |nil=>exact .inr ⟨p,R⟩
   |cons q r=>exact .inl R
 rcases i with i|⟨p,ai⟩
 .exact U i (U e ⟨hH k,fr r f (.Ov _ _ b) h⟩)
 .have:ys=[p.1]:=hn e (U ai R);rw[this]at b h;refine U ai<|bZ.Oi r f (.Ov _ _ b) h
set_option maxRecDepth 4000
noncomputable def lu(x:O):Z->Bool
 | .str y _=>y.cps.toList==x.cps.toList
 |_=>BQ
theorem qQ{bb:Jg}:∀y,y∈(Db xs).toArray->K5 y (.str x bb) (lu x y):=λy a=>by
 have b:y∈Db xs:=by simpa using a
 obtain⟨p,ai,rfl⟩:=B7.mp b;exact Jf _ _ _ _
theorem yq(a b:O):(a.cps.toList==b.cps.toList)=(a==b):=by
 rw[GI,beq_iff_eq,beq_iff_eq];exact⟨λh=>Str.ext' (HA.mp h),λh=>U h R⟩
theorem sp(r:aA c g σ s)(hi:σ.NY i=H (.aN (ys.map .str))):∃xs k,IsL s.heap (g.a i) (Db xs).toArray k/\xs.map (·.1)=ys/\bA c s.heap g.F g.a σ.aa ((ys.map .str).map .ab) (Db xs):=by
 obtain⟨vs,k,b,hv⟩:=lD r hi;obtain⟨as,a⟩:=hD hv;refine A3 a λaT aX bc=>?_;clear a;obtain⟨xs,d,e⟩:=pm aT;have f:vs=(Db xs).toArray:=br d R;subst f;exact⟨xs,k,b,e,hv⟩
theorem qS(e:xs.map (·.1)=ys)(b:ys.findIdx? (·==x)=H j):
  ∃h:j<(Db xs).toArray.size,lu x (Db xs).toArray[j]=u/\∀m(a:m<(Db xs).toArray.size),m<j->lu x (Db xs).toArray[m]=BQ:=by
 subst e;rw[E5]at b;obtain⟨h1,h2,f⟩:=b;have c:(Db xs).toArray.size=(xs.map (·.1)).length:=by simp[Db]
 have d:∀m(a:m<(Db xs).toArray.size),lu x (Db xs).toArray[m]=((xs.map (·.1))[m]'(br c a)==x):=λm a=>by
  simp only[Db,List.getElem_toArray,J8];exact yq _ _
 refine⟨dk c h1,?_,λm a g=>?_⟩
 .exact BK (d ..) h2
 .refine BK (d ..) ?_;have:=f m g;simpa using this
theorem wC(hi:σ.NY i=H (.aN (ys.map .str)))(l:ys.findIdx? (·==x)=H j)(v:ys.length<=999999)(h:Q (.ab .none) (σ.NX i (.aN ((ys.eraseIdx j).map .str)))):WK c d (.bT (.builtin "list.remove")) [.aP i,.ab (.str x)] [] [] σ Q X:=WK.QI λA g s names L m m w r f a2 bH=>by
 obtain⟨rfl,_⟩:=a2.NV;obtain⟨⟨bb,rfl⟩,_⟩:=bH.On;obtain⟨xs,k,b⟩:=sp r hi;refine A3 b λa e hv=>?_;clear b;obtain⟨n,o,p⟩:=qS e l;have q:(Db xs).toArray.size=ys.length:=by refine br e ?_;simp[Db]
 refine Gk H4 a.isList.typeIs Ny (NI _ _) (K2 _ _ _ _ (lu x) qQ j n o p (a3 q (hH (Co ‹_›)))) ⟨a,lQ r f hi a ?_ .none h⟩;refine U Ht ?_;have:=hv.S9 j
 have t:(((ys.map B1).map Y.ab).eraseIdx j)=((ys.eraseIdx j).map B1).map Y.ab:=by
  simp only[Fn,EF,EZ,Cb]
 rw[t]at this;exact this
theorem uK(hi:σ.NY i=H (.aN (ys.map .str)))(m:ys.findIdx? (·==x)=H j)(t:ys.length<=999999)(h:Q (.ab (.int j)) σ):WK c d (.bT (.builtin "list.index")) [.aP i,.ab (.str x)] [] [] σ Q X:=WK.QI λA g s names L n n v r f a2 bH=>by
 obtain⟨rfl,_⟩:=a2.NV;obtain⟨⟨bb,rfl⟩,_⟩:=bH.On;obtain⟨xs,k,a⟩:=sp r hi;refine A3 a λb e hv=>?_;clear a;obtain⟨l,o,p⟩:=qS e m;have q:(Db xs).toArray.size=ys.length:=by refine br e ?_;simp[Db]
 refine Gk Ik b.isList.typeIs NB (NL _ _) (K4 _ _ _ _ (lu x) qQ j l (by rw[q]at l;lia) o p) ⟨b,fr r f (.Oh _ _) h⟩
theorem kR(h:Q (.fv n) σ):WK c d (.bT (.type "range")) [.ab (.int n)] [] [] σ Q X:=WK.Pn λA g s names L b e r f a2=>by
 obtain⟨t,rfl⟩:=a2.Op;refine call_range_1 ?_
 let s':BN:={s with heap:=s.heap.push {cls:=.type "range",data:=.fields #[.int 0 s.toks,.int n t,.int 1 (s.toks+1)]},toks:=s.toks+1+1}
 have a:s.heap.objs.size<s'.heap.objs.size:=(dk (CH ..) (B3 _):_<(s.heap.push _).objs.size);exact⟨_,g.aK s.heap.objs.size,σ,aF.OA (cN _ _) (cR _ _) R (BJ _),r.OA (cN _ _) (cR _ _) R R (BJ _) a,f.OA (cN _ _) (BJ _),.fv (.inr R) (B6 _ R),h⟩
theorem pA{ns:List Int}(an:dF σ a (ns.map .int))(r:aA c g σ s)(rv:a8 c s.heap g.F g.a σ.aa a v):∃l,∃xs:Array (Int×Jg),v=.ref l/\s.heap.IsList l (L5 xs)/\xs.toList.map (·.1)=ns:=by
 obtain⟨l,vs,as,_,rfl,h1,h2,_⟩:=an.NV r rv;obtain⟨xs,b,d⟩:=w4 h2;refine⟨l,xs.toArray,R,?_,by simpa using d⟩
 have:vs=L5 xs.toArray:=by
  apply HA.mp;refine BK b ?_;simp[L5]
 exact br this h1
theorem xZ{ns:List Int}{B:Int}(b:∀x∈ns,0<=x/\x<=B):∀k,0<=(ns.take k).sum/\(ns.take k).sum<=B*ns.length:=by
 induction ns with
 |nil=>intro k;simp
 |cons x xs c=>
  intro k;have a:=b x (.head _);have d:=c (λy f=>b y (.tail _ f))
  cases k with
  |zero=>
   simp only[Ig,List.sum_nil,Cd]
   exact⟨Int.le_refl _,Int.mul_nonneg (EP a.1 a.2) (C5 _)⟩
  |succ k=>
   simp only[Js,G6,Cd];have:=d k;have e:B*((xs.length+1:Nat):Int)=B*xs.length+B:=by refine U (H3 ..) (BK (Int.mul_add ..) ?_);simp
   exact U e ⟨Int.add_nonneg a.1 this.1,EP (Int.add_le_add a.2 this.2) (Ja (Jb ..))⟩
theorem my{xs:Array (Int×Jg)}{ns:List Int}(e:xs.toList.map (·.1)=ns)(a:j<xs.size):ns[j]?=H (LY xs j):=by
 refine br e ?_;simp[LY,a]
theorem vG{ns:List Int}(an:dF σ a (ns.map .int))(b:∀x∈ns,0<=x/\x<=1000000)(n:ns.length<=1000000)(h:Q (.ab (.int ns.sum)) σ):WK c d (.bT (.builtin "sum")) [a] [] [] σ Q X:=WK.Pn λA g s names L w o r f a2=>by
 obtain⟨l,xs,rfl,h1,e⟩:=pA an r a2;have p:xs.size=ns.length:=by refine br e ?_;simp
 refine gh (sum_intList o.G h1 (λj q=>?_) λay tk y k t=>?_)
 .have v:=B5 (my e q);have i:=b _ v;refine⟨⟨EP (by decide) i.1,FZ i.2 (by decide)⟩,U (preSum_eq ..) (U e ?_)⟩;have m:=xZ b (j+1);exact⟨EP (by decide) m.1,FZ (EP m.2 (Int.mul_le_mul_of_nonneg_left (Hv.mpr n) (by decide):(1000000:Int)*ns.length<=1000000*1000000)) (by decide)⟩
 .have:preSum (LY xs) xs.size=ns.sum:=BK (preSum_eq ..) (U e (U p (U Dg R)));refine U this<|lB r f k t R R (.Oh _ _) h
theorem qY{bt:Nat->Nat->Bool}(c:∀i j k,bt j i=BQ->bt k j=BQ->bt k i=BQ)(b:∀i,bt i i=BQ)(d:∀i j,bt i j=u->bt j i=BQ):∀n,Ho bt n<=n/\∀j,j<=n->bt j (Ho bt n)=BQ:=by
 intro n
 induction n with
 |zero=>
  exact⟨BJ _,λj a=>U (Ly.mp a) (b _)⟩
 |succ n e=>
  obtain⟨h1,h2⟩:=e;unfold Ho
  cases ac:bt (n+1) (Ho bt n)with
  |true=>
   simp only[if_true];refine⟨BJ _,λj a=>?_⟩;rcases FR j (n+1)with h|h
   .exact c _ _ _ (d _ _ ac) (h2 j (Dw ‹_›))
   .have:j=n+1:=Cg a h
    exact U this (b _)
  |false=>
   simp only[Ex,if_false];refine⟨Co ‹_›,λj a=>?_⟩;rcases FR j (n+1)with h|h
   .exact h2 j (Dw ‹_›)
   .have:j=n+1:=Cg a h;exact U this ac
theorem AF(f:Nat->Int)(n:Nat):Ho (λi j=>decide (f i>f j)) n<=n/\∀j,j<=n->f j<=f (Ho (λi j=>decide (f i>f j)) n):=by
 have w:=qY (bt:=λi j=>decide (f i>f j)) (λi j k h1 h2=>decide_eq_false (DM.mpr (EP (DM.mp (of_decide_eq_false h2)) (DM.mp (of_decide_eq_false h1))))) (λi=>decide_eq_false (IN _)) (λi j h=>decide_eq_false (DM.mpr (GG (of_decide_eq_true h)))) n;exact⟨w.1,λj a=>DM.mp (of_decide_eq_false (w.2 j a))⟩
theorem xE(f:Nat->Int)(n:Nat):Ho (λi j=>decide (f i<f j)) n<=n/\∀j,j<=n->f (Ho (λi j=>decide (f i<f j)) n)<=f j:=by
 have w:=qY (bt:=λi j=>decide (f i<f j)) (λi j k h1 h2=>decide_eq_false (DM.mpr (EP (DM.mp (of_decide_eq_false h1)) (DM.mp (of_decide_eq_false h2))))) (λi=>decide_eq_false (IN _)) (λi j h=>decide_eq_false (DM.mpr (GG (of_decide_eq_true h)))) n;exact⟨w.1,λj a=>DM.mp (of_decide_eq_false (w.2 j a))⟩
theorem xA{ns:List Int}(an:dF σ a (ns.map .int))(o:ns≠[])(h:∀m,m∈ns->(∀x∈ns,x<=m)->Q (.ab (.int m)) σ):WK c d (.bT (.builtin "max")) [a] [] [] σ Q X:=WK.Pn λA g s names L C p r f a2=>by
 obtain⟨l,xs,rfl,h1,e⟩:=pA an r a2;have b:xs.size=ns.length:=by refine br e ?_;simp
 have hpos:0<xs.size:=dk b (G2.mpr o);refine gh (max_intList p.G h1 hpos λv ay tk hv k q=>?_);obtain⟨t,rfl⟩:=MM hv;obtain⟨w,y⟩:=AF (LY xs) (xs.size-1);refine lB r f k q R R (.Oh _ _) (h _ (B5 (my e (aV [_,_,_] ak au bV af aC af al w (eL (Cc (a0 [_] (aq c8 a7) ak a7 ak al hpos)))))) λx z=>?_);obtain⟨j,i,rfl⟩:=G3 z;have B:j<xs.size:=dk b i;have n:=my e B;replace n:=(BU i).symm.trans n;have:=y j (cI [_,_,_,_] au bG aC au bG b1 ak af al (eR b) i (sA _ _));exact U (CO n) this
theorem w6{ns:List Int}(an:dF σ a (ns.map .int))(o:ns≠[])(h:∀m,m∈ns->(∀x∈ns,m<=x)->Q (.ab (.int m)) σ):WK c d (.bT (.builtin "min")) [a] [] [] σ Q X:=WK.Pn λA g s names L C p r f a2=>by
 obtain⟨l,xs,rfl,h1,e⟩:=pA an r a2;have b:xs.size=ns.length:=by refine br e ?_;simp
 have hpos:0<xs.size:=dk b (G2.mpr o);refine gh (min_intList p.G h1 hpos λv ay tk hv k q=>?_);obtain⟨t,rfl⟩:=MM hv;obtain⟨w,y⟩:=xE (LY xs) (xs.size-1);refine lB r f k q R R (.Oh _ _) (h _ (B5 (my e (aV [_,_,_] ak au bV af aC af al w (eL (Cc (a0 [_] (aq c8 a7) ak a7 ak al hpos)))))) λx z=>?_);obtain⟨j,i,rfl⟩:=G3 z;have B:j<xs.size:=dk b i;have n:=my e B;replace n:=(BU i).symm.trans n;have:=y j (cI [_,_,_,_] au bG aC au bG b1 ak af al (eR b) i (sA _ _));exact U (CO n) this
set_option maxRecDepth 4000
noncomputable def dn(x:O):List O:=x.cps.toList.map λch=>⟨#[ch]⟩
theorem xz(a:BR x=u):∀y∈dn x,BR y=u:=λy b=>by
 obtain⟨ch,aL,rfl⟩:=B7.mp b;unfold BR at a;rw[FV]at a;have:=a ch (by simpa using aL);simpa[BR]using this
theorem qv(i:x.length<=1000000)(h:Q (.ab (.list ((dn x).map .str))) σ\/Q (.aP σ.aa) (σ.N0 (.aN ((dn x).map .str)))):WK c d (.bT (.type "list")) [.ab (.str x)] [] [] σ Q X:=WK.Pn λA g s names L C l r f a2=>by
 obtain⟨⟨t,rfl⟩,m⟩:=a2.On;refine gh (call_list_str l.G x t (λay tk n D k o p q=>?_) (hH i));refine mN r f k q R R (BJ _) o ⟨R,R,R⟩ R ?_ h;obtain⟨h1,h2⟩:=p
 have cM:E4 n.toList (dn x):=by
  have y:∀(vs:List Z)(a9:List Nat),vs.length=a9.length->(∀(j:Nat)(v:Z),vs[j]?=H v->∃ch bb,a9[j]?=H ch/\v=Ls ⟨#[ch]⟩ bb)->E4 vs (a9.map λch=>(⟨#[ch]⟩:O)):=by
   intro vs
   induction vs with
   |nil=>intro a9 a _;cases a9 with|nil=>exact .nil|cons _ _=>cases a
   |cons v vs z=>
    intro a9 a hv
    cases a9 with
    |nil=>cases a
    |cons ch a9=>
     obtain⟨E,bb,b,e⟩:=hv 0 v R;cases b;refine U e<|.cons _ bb (z a9 (by simpa using a) λj w B=>hv (j+1) w B)
  refine y _ _ (BK Cq (bP Cq h1)) λj v hv=>?_;obtain⟨ch,bb,b,e⟩:=h2 j v (by replace hv:=CN.symm.trans hv;exact hv);exact⟨ch,bb,BK CN b,e⟩
 exact sG.OH cM (xz m)
theorem r3(an:dF σ a (ys.map .str))(i:ys.length<64)(h:∀aZ:List O,aZ.Perm ys->KR aZ=u->Q (.ab (.list (aZ.map .str))) σ):WK c d (.bT (.builtin "sorted")) [a] [] [] σ Q X:=WK.Pn λA g s names L x z r f a2=>by
 obtain⟨l,vs,as,_,rfl,h1,h2,B,k,_⟩:=an.NV r a2;obtain⟨xs,m,j⟩:=pm h2;have n:vs=(Db xs).toArray:=br m R;subst n;have cM:E4 (Db xs) ys:=br j yF;refine gh (LC h1 cM (by rw[←j]at i;simpa[Db]using i) λout aZ p ai q t=>?_);obtain⟨e,v⟩:=sortedAll_at s.heap (Db xs) out;refine mN r f (λb o ac=>sortedAll_old ac) t R R (Cr _) v ⟨R,R,R⟩ R (sG.OH p λy w=>vL k y (ai.mem_iff.mp w)) (.inl (h aZ ai q))
noncomputable abbrev lp(x:O)(lo hi:Option Int):O:=M9 x lo hi
theorem ws(a:BR x=u)(dj:List Nat):BR ⟨(dj.filterMap (x.cps[·]?)).toArray⟩=u:=by
 unfold BR at*;rw[FV]at*;intro ch b;have:ch∈dj.filterMap (x.cps[·]?):=by simpa using b
 obtain⟨i,_,hi⟩:=Jz.mp this;exact a ch (GJ hi)
set_option tactic.hygienic true in
theorem oO{l bb:Y}{lo hi:Option Int}(k:iB l lo)(m:iB bb hi)(n:x.length<=1000000)(h:Q (.ab (.str (lp x lo hi))) σ):o0 c d (.ab (.str x)) l bb (.ab .none) σ Q X:=λA g s names L bl p y T W r f z B C a=>by
 obtain⟨⟨t,rfl⟩,b⟩:=z.On;cases a.Ql
 have ai:∀{w:Y}{o:Option Int}{v:Z},iB w o->a8 c s.heap g.F g.a σ.aa w v->∃q:Option (Int×Jg),v=partValue q/\q.map (·.1)=o:=λD a=>by
  cases D with
  |none=>cases a.Ql;exact⟨B2,R,R⟩
  |Oh i=>obtain⟨t,rfl⟩:=a.Op;exact⟨H (i,t),R,R⟩
 obtain⟨e,E,F⟩:=ai k B;obtain⟨j,G,I⟩:=ai m C
 let ax:BN:={s with heap:=s.heap.push {cls:=.type "slice",data:=.fields #[p,y,.none]}}
 have K:ax.heap.IsSlice s.heap.objs.size e j B2:=⟨_,B6 _ R,R,U E (U G R)⟩;refine⟨"str",_,Le.lookup,HH _ x t,wpAny_getItem_str_slice K (by rfl) ?_⟩;unfold sliceMade
 have N:MJ x e j B2=Es lo hi 1 x.length:=by
  unfold MJ;exact U F (U I R)
 refine U N ?_;have P:lp x lo hi=if((1:Int)==1&&(Es lo hi 1 x.length).length==x.length)=u then x else⟨((Es lo hi 1 x.length).filterMap (x.cps[·]?)).toArray⟩:=R
 have S:((K1 (λx=>x.1) (B2:Option (Int×Jg))).getD 1)=1:=R;refine U S ?_;rw[P]at h;split
 .rename_i aL
  rw[if_pos aL]at h;exact lB r f (cN _ _) (cR _ _) R R (.Ov _ _ b) h
 .rename_i aL
  rw[if_neg aL]at h;refine⟨?_,lB r f (cN _ _) (cR _ _) R R (.Ov _ _ (ws b _)) h⟩;refine BG ?_ (hH n);refine(?_:(((Es lo hi 1 x.length).filterMap (x.cps[·]?)).toArray).size<=_);refine a3 Fc<|Nat.le_trans (E0 _ _) (_root_.PySem.sliceIndices_le lo hi x.length)
noncomputable def lx(h:CG)(ay:CG):Prop:=h.objs.size<=ay.objs.size/\∀a,a<h.objs.size->h.get? a=B2->ay.get? a=B2
theorem lR(h:CG):ql (lx h) where
 a5:=λay o⟨h1,h2⟩=>⟨dH (CH ..) (Co h1),λa an c=>by
  have:=h2 a an c;exact(J1 _ _ _ (BZ (BL an h1))).trans this⟩
 cu:=λay b f ac⟨h1,h2⟩=>⟨dH (Ff ..) h1,λa an c=>by
  have:=h2 a an c;have d:b≠a:=λe=>by rw[e,this]at ac;cases ac
  exact BK (I0 _ _ d) this⟩
noncomputable def oz(h:CG)(a:M->Bool):CG:=⟨h.objs.mapIdx λi o=>if a i then{cls:=.none,data:=.freed}else o,h.life⟩
theorem xT(h:CG)(b:M->Bool)(a:M):(oz h b).get? a=if b a then B2 else h.get? a:=by
 unfold oz J4;simp only[Array.getElem?_mapIdx]
 cases ac:b a with
 |true=>cases h.objs[a]? <;> simp
 |false=>cases h.objs[a]? <;> simp
end
section
set_option tactic.hygienic false
theorem zg{h c:CG}:∀{fJ:List E6},(∀cH∈fJ,cH.scope.kind≠.module/\∃a o,cH.frame=H a/\c.get? a=B2/\h.get? a=H o/\∀vs,o.data≠.fields vs)->h.FunFrames c fJ:=by
 intro fJ
 induction fJ with
 |nil=>
  intro _
  exact trivial
 |cons cH fJ d=>
  intro b;exact⟨(b cH (.head _)).1,(b cH (.head _)).2,d λe f=>b e (.tail _ f)⟩
variable{vs:List Z}{ys:List O}
theorem yD{h ay:CG}{as:List M}(x:C7 h vs (ys.map .str) as):C7 ay vs (ys.map .str) as:=by
 induction ys generalizing vs as with
 |nil=>exact U ((C4 x).1) (U ((C4 x).2) .nil)
 |cons y ys a=>
  obtain⟨_,_,_,_,rfl,rfl,h1,h2⟩:=f8 x;obtain⟨_,rfl,rfl⟩:=EL h1;exact .cons (.str _ _) (a h2)
variable{c:Cx}{fJ:List E6}{g:Gh}{σ:V}{s:BN}{lo:Nat}{v:Z}
theorem tE{env:E6}{x:AX}(aL:∀cH∈env::fJ,cH.scope.kind≠.module/\∃a∈c.bE,cH.frame=H a)
  (r:aA c g σ s)(aO:hR s.heap lo g σ x v)(cx:c.i.objs.size<=lo){K:BN->Prop}{S:Prop}
  (k:∀s',(∀a o,s.heap.get? a=H o->a∉c.bE->(lo<=a->b3 g σ a\/g.F a\/fP o)->s'.heap.get? a=H o)->(∀a o,a∈c.bE->s.heap.get? a=H o->∃W,s'.heap.get? a=H {o with slots:=W})->
   s.heap.objs.size<=s'.heap.objs.size->s'.gens=s.gens->s'.os=s.os->hR s'.heap lo g σ x v->K s')
  (cS:∀(d:CG)(e:M)(C:Z),v=.ref e->d.StaysIn s.heap->d.get? e=B2->s.heap.FunFrames d (env::fJ)->((∃q vs,s.heap.get? e=H q/\q.cls=.type x.cp/\q.data=.fields vs/\vs[1]?=H .none/\vs[0]?=H C)\/s.heap.TracedW d e (.type x.cp) C)->
   (∀ay,lx s.heap ay->Ie d (env::fJ) e (.type x.cp) C s.heap ay->K {s with heap:=ay})->S):S:=by
 classical
 obtain⟨e,t,vs,q,D,aR,X,as,rfl,E,bc,cG,dG,fS,hP,kJ,ji,lG,kI⟩:=aO
 let F:M->Prop:=λa=>∃f bf,vs[1]?=H (.ref a)/\s.heap.get? a=H f/\f.data=.fields bf
 let i:M->Bool:=λa=>decide (a=e\/a∈c.bE\/F a)
 let d:=oz s.heap i
 have B:∀a,d.get? a=if i a then B2 else s.heap.get? a:=xT s.heap i
 have A:∀a,i a=u↔(a=e\/a∈c.bE\/F a):=λa=>decide_eq_true_iff
 have aT:d.StaysIn s.heap:=λa o an=>by
  rw[B]at an
  cases ac:i a with
  |true=>rw[ac]at an;cases an
  |false=>rw[ac]at an;exact an
 have G:∀a,i a=u->d.get? a=B2:=λa an=>BK (B ..) (U an R);have aW:=G e ((A e).mpr (.inl R))
 have aX:=zg λcH aY=>by
  obtain⟨aZ,a,ae,a4⟩:=aL cH aY;obtain⟨_,_,_,o,j,_,l⟩:=r.bE a ae;exact⟨aZ,a,o,a4,G a ((A a).mpr (.inr (.inl ae))),j,l⟩
 have a9:=Ca bc
 have ba:∀ay,lx s.heap ay->Ie d (env::fJ) e (.type x.cp) (.ref t) s.heap ay->K {s with heap:=ay}:=λay ah bb=>by
  obtain⟨k1,k2,⟨bg,bi,T',bj,bk,bl,⟨bu,bv⟩,bx,bz,I,ai,L,am,bC⟩,ao⟩:=bb
  have ap:∀a o,s.heap.get? a=H o->a∉c.bE->a≠e->¬F a->ay.get? a=H o:=λa o an h1 h2 bD=>by
   refine k1 a o<|Eq.trans (B ..) ?_
   have:i a=BQ:=by
    cases ac:i a with
    |false=>rfl
    |true=>exact absurd ((A a).mp ac) (λh=>h.elim h2 λh=>h.elim h1 bD)
   exact U this an
  have bH:∀a o,s.heap.get? a=H o->a∉c.bE->(lo<=a->b3 g σ a\/g.F a\/fP o)->ay.get? a=H o:=λa o an h1 h2=>by
   have av:∀b,ls g σ lo b->(∃N vs,s.heap.get? b=H N/\N.data=.fields vs)->a≠b:=by
    rintro b ⟨bQ,bS,bU⟩ ⟨N,vs,ax,aB⟩ rfl;rcases h2 bQ with h|h|h
    .exact bS h
    .exact bU h
    .obtain⟨_,aR,X,h⟩:=h;rw[an]at ax;cases ax;rw[h]at aB;cases aB
   refine ap a o an h1 (av e E ⟨q,vs,bc,dG⟩) λP=>?_;obtain⟨f,bf,m⟩:=P;refine A3 m λn y w=>?_;clear m;rcases kI with h|⟨T,b6,b9,p,z,_⟩
   .rw[n]at h;cases h
   .rw[n]at p;cases p;exact av _ z ⟨f,bf,y,w⟩ R
  refine k {s with heap:=ay} bH (λa o an aE=>?_) ah.1 R R ?_
  .obtain⟨_,_,_,cj,j,_,l⟩:=r.bE a an;rw[aE]at j;cases j;exact ao a o aE l
  .have ck:ay.get? t=H D:=by
    refine ap t D hP (λcq=>?_) (λh=>?_) λP=>?_
    .obtain⟨_,_,_,cj,j,l,_⟩:=r.bE t cq;rw[hP]at j;cases j;exact l kJ
    .rw[h,bc]at hP;cases hP;rw[dG]at ji;cases ji
    .obtain⟨f,bf,m⟩:=P;refine A3 m λcA y w=>?_;clear m;rw[hP]at y;cases y;rw[ji]at w;cases w
   refine⟨e,t,bi,bg,D,aR,X,as,R,E,bl,bu,bx,bv,ck,kJ,ji,yD lG,.inr ⟨T',bj,bk,bz,?_,ai,L,am,bC⟩⟩;rw[B]at I
   cases ac:i T' with
   |true=>
    rcases(A T').mp ac with h|h|h
    .exact absurd h ai
    .obtain⟨_,_,_,o,j,_,l⟩:=r.bE T' h;obtain⟨W,aJ⟩:=ao T' o j l;rw[L]at aJ;cases aJ;exact absurd am (l _)
    .obtain⟨f,bf,m⟩:=h;refine A3 m λn y w=>?_;clear m;rcases kI with h|⟨T,b6,b9,p,z,_⟩
     .rw[n]at h;cases h
     .rw[n]at p;cases p;exact z
   |false=>
    rw[ac]at I
    have Q:s.heap.objs.size<=T':=by
     rcases FR T' s.heap.objs.size with h|h
     .have:=ah.2 T' h I;rw[L]at this;cases this
     .exact h
    exact⟨BG (Cz (CP E.1 a9)) Q,λh=>absurd (r.OO h) (BP.mpr Q),λh=>absurd (r.aK T' h).1 (BP.mpr Q)⟩
 refine cS d e (.ref t) R aT aW aX ?_ ba;rcases kI with h|⟨T,f,bf,n,y,w,p,z,cs⟩
 .exact .inl ⟨q,vs,bc,cG,dG,h,fS⟩
 .exact .inr ⟨q,vs,T,f,bf,bc,⟨cG,fS⟩,dG,n,G T ((A T).mpr (.inr (.inr ⟨f,bf,n,p,z⟩))),w,p,z,cs⟩
variable{K:Unit->BN->Prop}{A:DX}{L:M}{E:Z->BN->Prop}
theorem A1{env:E6}{x:AX}(f:A.frames=H (env::fJ))(aJ:env.frame=H L)(p:∀cH∈env::fJ,cH.scope.kind≠.module/\∃a∈c.bE,cH.frame=H a)
  (r:aA c g σ s)(q:hR s.heap lo g σ x v)(t:c.i.objs.size<=lo)
  (k:∀s',(∀a o,s.heap.get? a=H o->a∉c.bE->(lo<=a->b3 g σ a\/g.F a\/fP o)->s'.heap.get? a=H o)->(∀a o,a∈c.bE->s.heap.get? a=H o->∃w,s'.heap.get? a=H {o with slots:=w})->
   s.heap.objs.size<=s'.heap.objs.size->s'.gens=s.gens->s'.os=s.os->hR s'.heap lo g σ x v->K () s'):B9 c.NU A (leaving env v) K E s:=by
 have i:lx s.heap s.heap:=⟨BJ _,λy y h=>h⟩;refine tE p r q t k λz e B hv j l m a9 n=>?_;subst hv;rcases a9 with⟨C,vs,bc,cG,dG,h,fS⟩|ao
 .exact k9 (lR s.heap) i (wpAny_leaving_firstW f m aJ bc j l dG h fS λay b d=>n ay d (by rw[cG]at b;exact b))
 .exact k9 (lR s.heap) i (wpAny_leaving_nextW f m aJ ao j l λay b d=>n ay d b)
variable{s':BN}
theorem aA.RZ(r:aA c g σ s)(k1:∀a o,s.heap.get? a=H o->a∉c.bE->(lo<=a->b3 g σ a\/g.F a\/fP o)->s'.heap.get? a=H o):dc s.heap s'.heap g.F g.F:=
 ⟨λa o e t=>k1 a o e (λh=>by
  obtain⟨_,_,_,j,b,i,_⟩:=r.bE a h;replace b:=e.symm.trans b;cases b;exact i t.1) λd=>.inr (.inr t),λa o f e=>k1 a o e (λh=>(r.bE a h).aK f) λd=>.inr (.inl f),λd h=>h⟩
theorem aA.Pu(r:aA c g σ s)(l:c.i.objs.size<=lo)(k1:∀a o,s.heap.get? a=H o->a∉c.bE->(lo<=a->b3 g σ a\/g.F a\/fP o)->s'.heap.get? a=H o)(k2:∀a o,a∈c.bE->s.heap.get? a=H o->∃b,s'.heap.get? a=H {o with slots:=b})
  (d:s.heap.objs.size<=s'.heap.objs.size)(m:s'.gens=s.gens)(n:s'.os=s.os):aA c g σ s':=by
 have K:=r.RZ k1;have f:=λa o j e=>k1 a o e (λh=>absurd (r.bE a h).low (GB.mpr j)) λh=>absurd j (BP.mpr (BG l h))
 refine⟨λa o e ao=>f a o (Ca e) (r.q a o e ao),BG r.bX d,r.t,λp ai=>?_,r.N5,λi o hi=>(r.bh i o hi).be K (λk k=>R) (BJ _) λq e=>k1 _ _ e (λh=>(r.bE _ h).bm ⟨i,o,hi,R⟩) λk=>.inl ⟨i,o,hi,R⟩,r.A,
  λa an=>⟨BL (r.aK a an).1 d,(r.aK a an).2⟩,U m r.Ob,n.trans r.C,r.cJ,λa an=>?_⟩
 .obtain⟨t,h1,_⟩:=r.k p ai;exact(r.k p ai).be K ((f _ _ (r.t _ ⟨p,ai,R⟩) h1).trans h1.symm)
 .obtain⟨aT,aX,bc,o,cG,dG,fS⟩:=r.bE a an;obtain⟨b,hP⟩:=k2 a o an cG;exact⟨aT,aX,bc,_,hP,dG,fS⟩
variable{T:M->Prop}
theorem aF.Pu{d:Gh}{f:V}{cA:BN}(x:aF c T d f cA g σ s)(r:aA c g σ s)(k:cA.heap.objs.size<=lo)(k1:∀a o,s.heap.get? a=H o->a∉c.bE->(lo<=a->b3 g σ a\/g.F a\/fP o)->s'.heap.get? a=H o)
  (k2:∀a o,a∈c.bE->s.heap.get? a=H o->∃i,s'.heap.get? a=H {o with slots:=i})(l:s.heap.objs.size<=s'.heap.objs.size)(m:s'.gens=s.gens):aF c T d f cA g σ s':=
 ⟨λa o e n ao p b=>k1 a o (x.bM a o e n ao p b) b λq=>absurd (Ca e) (BP.mpr (BG k q)),λa o b ao e=>by
  obtain⟨i,t⟩:=x.bE a o b ao e;obtain⟨v,w⟩:=k2 a _ b t;exact⟨v,w⟩,x.p.NT (r.RZ k1),BG x.bX l,x.r,x.aa,x.bm,x.aK,λj y h=>U m (x.Ot j y h)⟩
noncomputable def hh(c:Cx)(σ:V)(ah nm:O)(cK:Ep)(bx:List DZ)(aY:Ef)(bi bz:Z)(cc:M)(m:Nat)(b6:List O)(as:List Y)(σ₁:V)(xs:List O)(gc:List Y):Prop:=
 ∀b d e f(A:DX)(E:Z->BN->Prop)(Q:List (O×Z)->BN->Prop)g s vs,A.handled=B2->aA c g σ s->bA c s.heap g.F g.a σ.aa as vs->
  (∀am s' a,aF c e6 g σ s am σ₁ s'->aA c am σ₁ s'->bA c s'.heap am.F am.a σ₁.aa gc a->Q (xs.zip a) s')->B9 c.NU A (EA (HV ah nm cK bx aY bi bz b d e (.ref cc) f) ⟨vs.take m,b6.zip (vs.drop m)⟩) Q E s
noncomputable def WC(c:Cx)(d:Nat)(a:M)(m:Nat)(b6:List O)(as:List Y)(σ:V)(Q:Y->V->Prop)(X:AX->V->Prop):Prop:=
 ∀A g s vs,dq c A d->aA c g σ s->bA c s.heap g.F g.a σ.aa as vs->E9 c.NU A (.call (.ref a) ⟨vs.take m,b6.zip (vs.drop m)⟩) (λr s'=>match r with| .ok (.ret v)=>PH rV c g σ s Q v s'| .ok _=>False| .error e=>lY c g σ s X e s') s
variable{as:List Y}{d m:Nat}{a:M}{b6:List O}{Q:Y->V->Prop}{X:AX->V->Prop}
theorem WC.Of(h:WC c d a m b6 as σ Q X):WH rV c d (fW a m b6) as σ Q X:=
 λA g s vs b r hv=>GU (h A g s vs b r hv)
noncomputable def oW(Q:Y->V->Prop)(σ:V):bY->V->Prop:=λa σ'=>Q a.QB (σ'.N1 σ)
variable{cK:Ep}{bx:List DZ}{aY:Ef}{bi bz:Z}{cc:M}{gc:List Y}{xs:List O}{σ' σ₁:V}
theorem e3{ah nm:O}
  (aJ:fi c a ah nm cK bx aY bi bz cc)(ae:bB)(ac:hh c σ ah nm cK bx aY bi bz cc m b6 as σ' xs gc)(S:σ'.ag=σ.ag)
  (T:ae.aM=aY/\ae.fu=nm++".<locals>."/\ae.gb=H a/\ae.fk=.ref cc/\ae.b0=fs σ'.aa aY.names [])(W:ae.Ok c (σ'.Ob.b0 aY.names).aa)(ai:fD ae xs (σ'.Ob.b0 aY.names) gc σ₁)
  (h:∀L,WS (c.a5 L) d ae bx σ₁ (oW Q σ) (gg X σ))(am:aY.isCoroutine=BQ:=by rfl)(an:aY.isGenerator=BQ:=by rfl):WC c (d+1) a m b6 as σ Q X:=by
 obtain⟨rfl,E⟩:=T;refine A4 E λh2 ao ap av=>?_;clear E;intro A g s vs k r hv;obtain⟨ay,aB,⟨o,aE,aL,aO,aR,t,cs,aW⟩,aZ,a4,a9,ba,bb,bf⟩:=aJ;refine J6 k.Oa (r.q _ _ t ay) aW am an R ⟨cc,aZ,a4,a9,R,r.q _ _ ba aB,bb,bf⟩<|ac aE aL aO aR _ _ _ g s vs k.Qb.G r hv λbg ax bj w bk bl=>?_
 refine(?_:B9 c.NU A.in1 (EC ae.aM C1 [] (xs.zip bj) (nm++".<locals>.") (H a) (.ref cc) B2 Dy) _ _ ax);refine br h2 (br ao (lM (cl:=[]) (Fr:=0) k.Qb bk (λp h=>nomatch h) av W ai bl ap λL bu bv F y z G B=>?_));refine⟨z.P9,Mx ?_⟩;have I:∀{e:V},e.N1 σ'=e.N1 σ:=λ{e}=>by unfold V.N1;exact U S R
 refine CB (h L (A.deeper _) bu bv L L (k.RI B.L R) (z.a5 G) G B) (λcx C bC=>?_) λv C bD=>?_
 .obtain⟨cA,f,e,l,i,bH,bQ,q⟩:=bC;have l:=l.PY R;have i:=i.PY;have n:aF c e6 bg σ' ax f (e.N1 σ') C:=aF.ag (m:=e.ag) (((y.N8 (T':=cy L) λp h=>h.elim).NT (aF.ag l)).QV F);rw[I]at n;have st:=w.NT n;have j:aA c f (e.N1 σ) C:=aA.ag i
  cases bQ with
  |c0 hv=>exact⟨_,f,e.N1 σ,st,j,hv,q⟩
  |aa=>exact⟨_,f,e.N1 σ,st,j,.none,q⟩
  |eQ=>exact⟨_,f,e.N1 σ,st,j,.none,q⟩
  |eY=>exact⟨_,f,e.N1 σ,st,j,.none,q⟩
 .obtain⟨x,f,e,l,i,bH,bS,bU⟩:=bD;obtain⟨fJ,b9,cj⟩:=k.QR;have K:=z.bX;refine A1 (c:=c.a5 L) (I1 b9) R (λcH D=>?_) i bS K λs' k1 k2 N P t ck=>?_
  .rcases BX.mp D with rfl|D
   .exact⟨by refine(?_:ae.aM.kind≠.module);refine U B.L ?_;decide,L,.head _,R⟩
   .obtain⟨aT,a,aX,bc⟩:=cj cH D;exact⟨aT,a,.tail _ aX,bc⟩
  have cq:=l.Pu i (BJ _) k1 k2 N P;have j:aA c f (e.N1 σ) s':=aA.ag (aA.PY (i.Pu K k1 k2 N P t));have n:aF c e6 bg σ' ax f (e.N1 σ') s':=aF.ag (m:=e.ag) (((y.N8 (T':=cy L) λp h=>h.elim).NT (aF.ag (cq.PY R))).QV F);rw[I]at n;exact⟨x,f,e.N1 σ,w.NT n,j,ck.to (BG w.bX y.bX) (λp p a b=>⟨a,b⟩),bU⟩
variable{aO:Type}{ae:bB}
theorem WT.Tt{b9:Type}{cE:fb b9 aO}{t:E6->FB aO}{Q:b9->V->Prop}(h:WT cE c d ae t σ Q cm):WT cE c d ae t σ Q X:=λA g s L Fr b r f e=>
 CB (h A g s L Fr b r f e) (λa a y=>y) λa a y=>y.no
variable{nm:O}
theorem iT.Rz{cK bx aY bi bz}(h:iT c σ nm cK bx aY bi bz cc m b6 as xs gc):hh c σ nm nm cK bx aY bi bz cc m b6 as σ xs gc:=
 λa b d e A E Q g s vs f r hv k=>h a b d e A E Q g s vs r hv k
theorem hM
  (aJ:eE c a nm cK bx aY bi bz cc)(ae:bB)(ac:iT c σ nm cK bx aY bi bz cc m b6 as xs gc)
  (b:ae.aM=aY/\ae.fu=nm++".<locals>."/\ae.gb=H a/\ae.fk=.ref cc/\ae.b0=fs σ.aa aY.names [])(e:ae.Ok c (σ.Ob.b0 aY.names).aa)(f:fD ae xs (σ.Ob.b0 aY.names) gc σ₁)
  (h:∀L,WS (c.a5 L) d ae bx σ₁ (λg i=>Q g.QB (i.N1 σ)) cm)(j:aY.isCoroutine=BQ:=by rfl)(k:aY.isGenerator=BQ:=by rfl):WH rV c (d+1) (fW a m b6) as σ Q X:=
 WC.Of (e3 aJ ae ac.Rz R b e f (λL=>(h L).Tt) j k)
theorem nj{x:O}{b:FH}(d:(x,cQ.Ow v)∈ae.bN){Fr:M}(r:aA c g σ s)(a:ae.Ok c σ.aa){K:Z->BN->Prop}(h:K v s):B9 c.NU A (EJ (.Name x b) (ae.N3 g.a L Fr)) K E s:=
 have k:=a.bN _ d
 HG (pr k.1.2 k.1.1 a.L R R r.q h) k.2.1
variable{Q:bY->V->Prop}{pos:FH}{k:Nat}{msg:O}
theorem oF{x:O}{n q p:FH}(v:(x,cQ.Ow (.type "ValueError"))∈ae.bN)(h:X ⟨"ValueError",[msg]⟩ σ):
  eK c d ae (.Raise (H (.Call (.Name x n) [.Constant (.str msg) k p] [] q)) B2 pos) σ Q X:=λA g s L Fr w r f y=>by
 refine k9 (lR s.heap) ⟨BJ _,λz z h=>h⟩ (wpAny_Raise_call Nu Nt w.G (by rfl) (nj v r y ⟨R,la R (by rfl) (Dm (Fk (pos:=p) (k:=k) (D3 (Fx ?_))))⟩));refine⟨R,(show 1<=Hf by decide),λay e a i=>?_⟩;obtain⟨t,l⟩:=a.there;refine A3 l λm C ao=>?_;clear l
 have B:∀b o,s.heap.get? b=B2->ay.get? b=H o->s.heap.objs.size<=b:=λb o h1 h2=>by
  rcases FR b s.heap.objs.size with h|h
  .replace h2:=(i.2 b h h1).symm.trans h2;cases h2
  .exact h
 have j:=B e _ a.new m
 let s':BN:={s with heap:=ay,toks:=s.toks+1}
 have k1:=a.keeps;exact⟨_,g,σ,(aF.N6 ..).Oc k1 i.1 R,r.Oc k1 i.1 R R,f.Oc k1,⟨e,t,_,_,_,_,_,_,R,⟨j,λh=>absurd (r.OO h) (BP.mpr j),λh=>absurd (r.aK e h).1 (BP.mpr j)⟩,m,R,R,R,ao,R,R,.cons (.str msg _) .nil,.inl R⟩,h⟩
noncomputable def dg(p:Nat->Bool):Nat->Nat->Nat->Nat
 |0,lo,_=>lo
 |f+1,lo,hi=>if lo<hi then(if p ((lo+hi)/2)then dg p f ((lo+hi)/2+1) hi else dg p f lo ((lo+hi)/2))else lo
theorem pD{p:Nat->Bool}{f lo hi:Nat}:dg p (f+1) lo hi=if lo<hi then(if p ((lo+hi)/2)then dg p f ((lo+hi)/2+1) hi else dg p f lo ((lo+hi)/2))else lo:=R
noncomputable def ek(i:Nat)(nm:O)(a cc:M):bB:=
 {aM:=(az i).aM,aG:=["a","x","lo","hi","key","mid"],bN:=[("a",.ag 0),("x",.ag 1),("lo",.ag 2),("hi",.ag 3),("key",.ag 4),("mid",.ag 5),("len",.Ow (.builtin "len")),("ValueError",.Ow (.type "ValueError"))],
  b0:=[],fu:=nm++".<locals>.",gb:=H a,fk:=.ref cc}
section
variable{i:Nat}{nm:O}{a cc:M}
theorem rY:(("a":O),cQ.ag 0)∈(ek i nm a cc).bN:=.head _
theorem nD:(("x":O),cQ.ag 1)∈(ek i nm a cc).bN:=.tail _ (.head _)
theorem jN:(("lo":O),cQ.ag 2)∈(ek i nm a cc).bN:=.tail _ (.tail _ (.head _))
theorem l6:(("hi":O),cQ.ag 3)∈(ek i nm a cc).bN:=.tail _ (.tail _ (.tail _ (.head _)))
theorem k7:(("key":O),cQ.ag 4)∈(ek i nm a cc).bN:=.tail _ (.tail _ (.tail _ (.tail _ (.head _))))
theorem nP:(("mid":O),cQ.ag 5)∈(ek i nm a cc).bN:=.tail _ (.tail _ (.tail _ (.tail _ (.tail _ (.head _)))))
theorem w5:(("len":O),cQ.Ow (.builtin "len"))∈(ek i nm a cc).bN:=.tail _ (.tail _ (.tail _ (.tail _ (.tail _ (.tail _ (.head _))))))
inductive ub(dt dO cW:Y)(hu:Nat)(p:Nat->Bool)(r N:Nat)(df:List (Nat×bL))(n:Nat):V->Prop
 |mk (l:List (Nat×Y)) (lo hi:Nat):J l 0=H dt->J l 1=H dO->J l 2=H (.ab (.int lo))->J l 3=H (.ab (.int hi))->J l 4=H cW->hi<=hu->hi<=lo+n->dg p n lo hi=r->ub dt dO cW hu p r N df n ⟨N,df,l⟩
theorem oJ{lo hi n:Nat}(h:lo<hi)(k:hi<=lo+(n+1)):(lo+hi)/2<hi/\hi<=(lo+hi)/2+1+n/\(lo+hi)/2<=lo+n:=by
 have h1:=(Jj Lu).mpr (a3 (Lx ..) (C8 (Cz h) lo));refine⟨GX (dk (Gc ..) (Jr h hi)),BG k ?_,Dw (GX ?_)⟩
 .rw[EG,D1 1];exact Nat.add_le_add_right h1 _
 .exact dk (Gc ..) (IA (Dk (B4 lo n)) k)
theorem lv{lo hi:Nat}(h:lo<hi):lo<=(lo+hi)/2:=(Jj Lu).mpr (U (Lx ..) (C8 (Cz h) lo))
theorem lE{lo hi:Nat}(h:lo<hi):(lo+hi)/2<hi:=GX (U (Gc ..) (Jr h hi))
theorem yU{lo hi:Nat}:((lo:Int)+hi).fdiv 2=((lo+hi)/2:Nat):=IC _ (by decide)
theorem dF.ag{N:Nat}{df:List (Nat×bL)}{l hQ:List (Nat×Y)}{dt:Y}{ds:List Cj}(h:dF ⟨N,df,l⟩ dt ds):dF ⟨N,df,hQ⟩ dt ds:=by
 cases h with
 |aK=>exact .aK
 |bm hi=>exact .bm hi
variable{c:Cx}{d:Nat}{X:AX->V->Prop}{N:Nat}{df:List (Nat×bL)}{l:List (Nat×Y)}{dt dO cW:Y}{ds:List Cj}{hu lo hi:Nat}{p:Nat->Bool}{Q:bY->V->Prop}{aT aX bc cG dG fS hP kJ ji lG ur kI Bu:FH}{k1 k2:Nat}{b g4:List DZ}
theorem ni(v:J l 0=H dt)(h1:J l 1=H dO)(h2:J l 2=H (.ab (.int lo)))(w:J l 3=H (.ab (.int hi)))(x:J l 4=H cW)(q:hi<=hu)
  (ac:∀l f(K:bY->V->Prop),J l 0=H dt->J l 1=H dO->J l 4=H cW->J l 5=H (.ab (.int (f:Nat)))->f<hu->(p f=u->K .aa ⟨N,df,(2,.ab (.int ((f:Int)+1)))::l⟩)->(p f=BQ->K .aa ⟨N,df,(3,.ab (.int f))::l⟩)->WS c d (ek i nm a cc) b ⟨N,df,l⟩ K cm)
  (y:∀l,J l 2=H (.ab (.int (dg p hu lo hi)))->Q .aa ⟨N,df,l⟩):
  eK c d (ek i nm a cc) (.While (.Compare (.Name "lo" aT) [.Lt] [.Name "hi" aX] bc) (.Assign [.Name "mid" cG] (.BinOp (.BinOp (.Name "lo" dG) .Add (.Name "hi" fS) hP) .FloorDiv (.Constant (.int 2) k2 kJ) ji) lG::b) [] ur) ⟨N,df,l⟩ Q X:=by
 refine Aj (ub dt dO cW hu p (dg p hu lo hi) N df) hu (.mk l lo hi v h1 h2 w x q (BG q (FK ..)) R) λn σ' z=>?_
 cases z with
 |mk l j r k0 k1 k2 k3 k k5 s g=>
 refine ca (aw jN k2 (aw l6 k3 (jx ⟨_,R,λm=>?_,λm=>?_⟩)))
 .have o:=El.mp (of_decide_eq_true m)
  cases n with
  |zero=>exact absurd s (Nat.not_le_of_lt o)
  |succ n=>
  refine A3 (oJ o s) λt A B=>?_;rw[pD,if_pos o]at g;refine aQ (dh (b4 (b4 (aw jN k2 (aw l6 k3 (iw (bI (qw (by decide) (DD R) ⟨_,aH.ag nP,U yU ?_⟩))))))));exact ac _ _ _ k0 k1 k R (BL t k5) (λe=>⟨n,BJ _,.mk _ _ r k0 k1 R k3 k k5 A ((if_pos e).symm.trans g)⟩) λe=>⟨n,BJ _,.mk _ j _ k0 k1 k2 R k (BG (Cz t) k5) B ((if_neg (ne_true_of_eq_false e)).symm.trans g)⟩
 .have C:=λh=>of_decide_eq_false m (El.mpr h)
  have D:dg p n j r=j:=by
   cases n with
   |zero=>rfl
   |succ n=>exact if_neg C
  exact y l (br g (U D k2))
theorem nv{b:Nat}(k5:J l 5=H (.ab (.int (b:Nat))))(h:Q .aa ⟨N,df,(2,.ab (.int ((b:Int)+1)))::l⟩):WS c d (ek i nm a cc) [.Assign [.Name "lo" aT] (.BinOp (.Name "mid" aX) .Add (.Constant (.int 1) k1 bc) cG) dG] ⟨N,df,l⟩ (ky c d (ek i nm a cc) [] Q X) X:=
 aQ (dh (b4 (aw nP k5 (bI (iw ⟨_,aH.ag jN,bJ (bJ h)⟩)))))
theorem ng{b:Nat}(k5:J l 5=H (.ab (.int (b:Nat))))(h:Q .aa ⟨N,df,(3,.ab (.int b))::l⟩):WS c d (ek i nm a cc) [.Assign [.Name "hi" aT] (.Name "mid" aX) dG] ⟨N,df,l⟩ (ky c d (ek i nm a cc) [] Q X) X:=
 aQ (dh (aw nP k5 ⟨_,aH.ag l6,bJ (bJ h)⟩))
theorem nZ{b:Nat}{Q:Y->V->Prop}(an:dF ⟨N,df,hQ⟩ dt ds)(f:ds.length<=1000)(k0:J l 0=H dt)(k5:J l 5=H (.ab (.int (b:Nat))))(e:b<ds.length)(h:Q (.ab ds[b]) ⟨N,df,l⟩):WE c d (ek i nm a cc) (.Subscript (.Name "a" aT) (.Name "mid" aX) bc) ⟨N,df,l⟩ Q X:=
 c3 (aw rY k0 (aw nP k5 (gl an.ag ((seqIndex_of (C5 _) (El.mpr e)).trans (congrArg H (Fl _))) (BU e) (BG f (DD R)) h)))
theorem nt(an:dF ⟨N,df,l⟩ dt ds)(k:ds.length<=1000)(e:J l 0=H dt)(h1:J l 1=H dO)(h2:J l 2=H (.ab (.int (lo:Nat)))){hv:Y}(f:hv=.ab (.int (hi:Nat))\/(hv=.ab .none/\hi=ds.length))(g:J l 3=H hv)(j:J l 4=H cW)
  (h:∀l,J l 0=H dt->J l 1=H dO->J l 2=H (.ab (.int lo))->J l 3=H (.ab (.int hi))->J l 4=H cW->WS c d (ek i nm a cc) b ⟨N,df,l⟩ Q X):
  WS c d (ek i nm a cc) (.If (.Compare (.Name "lo" aT) [.Lt] [.Constant (.int 0) k1 aX] bc) g4 [] cG::.If (.Compare (.Name "hi" dG) [.Is] [.Constant .none k2 fS] hP) [.Assign [.Name "hi" kJ] (.Call (.Name "len" ji) [.Name "a" lG] [] ur) kI] [] Bu::b) ⟨N,df,l⟩ Q X:=by
 refine aQ (cU (ca (aw jN h2 (bI (jx ⟨_,R,λac=>absurd (of_decide_eq_true ac) (DM.mpr (C5 _)),λm=>bJ (aQ (cU (ca (aw l6 g (fV (hB ⟨_,R,λac=>?_,λac=>bJ ?_⟩))))))⟩)))))
 .rcases f with rfl|⟨rfl,rfl⟩
  .cases ac
  .exact aQ (dh (d3 w5 (a1.Oe _) (.ag rY e .a6) (iG an (BG k (DD R)) ⟨_,aH.ag l6,bJ (h _ e h1 h2 R j)⟩)))
 .rcases f with rfl|⟨rfl,rfl⟩
  .exact h _ e h1 h2 g j
  .cases ac
end
variable{p:Nat->Bool}{dt hv dO:Y}{ds:List Cj}
theorem uz{lo hi:Nat}(an:dF σ dt ds)(i:ds.length<=1000)(n:hi<=ds.length)
  (ai:∀(σ:V)(Q:Y->V->Prop)j y,ds[j]?=H y->Q (.ab (.bool (p j))) σ->co rV c d (CC .Lt) (.ab y) dO σ Q cm)
  (f:J σ.ag 0=H dt)(h1:J σ.ag 1=H dO)(h2:J σ.ag 2=H (.ab (.int lo)))(o:hv=.ab (.int hi)\/(hv=.ab .none/\hi=ds.length))(g:J σ.ag 3=H hv)(b:J σ.ag 4=H (.ab .none))
  (h:∀l,Q (.c0 (.ab (.int (dg p ds.length lo hi)))) ⟨σ.aa,σ.aj,l⟩):WS c d (ek 6 nm a cc) (az 6).h σ Q X:=by
 obtain⟨N,df,l⟩:=σ;refine nt an i f h1 h2 o g b λl f h1 h2 g b=>?_;refine aQ (cU (ca (aw k7 b (fV (hB ⟨_,R,λq=>aQ (ni f h1 h2 g b n (λl r K k0 k1 s k5 m kt kf=>?_) λl k=>bJ (aQ (ej (aw jN k (h l))))),λac=>nomatch ac⟩)))));exact aQ (cU (ca (nZ an i k0 k5 m (aw nD k1 (ai _ _ _ _ (BU m) ⟨_,R,λe=>nv k5 (kt e),λe=>ng k5 (kf e)⟩)))))
theorem rP{lo hi:Nat}(an:dF σ dt ds)(i:ds.length<=1000)(n:hi<=ds.length)
  (ai:∀(σ:V)(Q:Y->V->Prop)j y,ds[j]?=H y->Q (.ab (.bool (!p j))) σ->co rV c d (CC .Lt) dO (.ab y) σ Q cm)
  (f:J σ.ag 0=H dt)(h1:J σ.ag 1=H dO)(h2:J σ.ag 2=H (.ab (.int lo)))(o:hv=.ab (.int hi)\/(hv=.ab .none/\hi=ds.length))(g:J σ.ag 3=H hv)(b:J σ.ag 4=H (.ab .none))
  (h:∀l,Q (.c0 (.ab (.int (dg p ds.length lo hi)))) ⟨σ.aa,σ.aj,l⟩):WS c d (ek 4 nm a cc) (az 4).h σ Q X:=by
 obtain⟨N,df,l⟩:=σ;refine nt an i f h1 h2 o g b λl f h1 h2 g b=>?_;refine aQ (cU (ca (aw k7 b (fV (hB ⟨_,R,λq=>aQ (ni f h1 h2 g b n (λl r K k0 k1 s k5 m kt kf=>?_) λl k=>bJ (aQ (ej (aw jN k (h l))))),λac=>nomatch ac⟩)))));exact aQ (cU (ca (aw nD k1 (nZ an i k0 k5 m (ai _ _ _ _ (BU m) ⟨_,R,λe=>ng k5 (kf ((F9 _).mp e)),λe=>nv k5 (kt ((Hb _).mp e))⟩)))))
variable{cW:Y}{kf:Cj->Cj}
theorem Ao{lo hi:Nat}(n:cW.Pk=BQ)(o:a1 c cW)(q:∀(σ:V)(Q:Y->V->Prop)(j:Nat)(y:Cj),ds[j]?=H y->Q (.ab (kf y)) σ->WK c d cW [.ab y] [] [] σ Q cm)(an:dF σ dt ds)(m:ds.length<=1000)(r:hi<=ds.length)
  (ai:∀(σ:V)(Q:Y->V->Prop)(j:Nat)(y:Cj),ds[j]?=H y->Q (.ab (.bool (p j))) σ->co rV c d (CC .Lt) (.ab (kf y)) dO σ Q cm)
  (f:J σ.ag 0=H dt)(h1:J σ.ag 1=H dO)(h2:J σ.ag 2=H (.ab (.int lo)))(s:hv=.ab (.int hi)\/(hv=.ab .none/\hi=ds.length))(g:J σ.ag 3=H hv)(b:J σ.ag 4=H cW)
  (h:∀l,Q (.c0 (.ab (.int (dg p ds.length lo hi)))) ⟨σ.aa,σ.aj,l⟩):WS c d (ek 6 nm a cc) (az 6).h σ Q X:=by
 obtain⟨N,df,l⟩:=σ;refine nt an m f h1 h2 s g b λl f h1 h2 g b=>?_;refine aQ (cU (ca (aw k7 b (fV (hB ⟨_,R,λac=>(nomatch n.symm.trans ac),λv=>aQ (ni f h1 h2 g b r (λl w K k0 k1 t k5 i kt kf=>?_) λl k=>bJ (aQ (ej (aw jN k (h l)))))⟩)))));exact aQ (cU (ca (dJ (aw k7 t ⟨o,aI (nZ an m k0 k5 i (bn (ce (q _ _ _ _ (BU i) (aw nD k1 (ai _ _ _ _ (BU i) ⟨_,R,λe=>nv k5 (kt e),λe=>ng k5 (kf e)⟩))))))⟩))))
theorem vB{lo hi:Nat}(n:cW.Pk=BQ)(o:a1 c cW)(q:∀(σ:V)(Q:Y->V->Prop)(j:Nat)(y:Cj),ds[j]?=H y->Q (.ab (kf y)) σ->WK c d cW [.ab y] [] [] σ Q cm)(an:dF σ dt ds)(m:ds.length<=1000)(r:hi<=ds.length)
  (ai:∀(σ:V)(Q:Y->V->Prop)(j:Nat)(y:Cj),ds[j]?=H y->Q (.ab (.bool (!p j))) σ->co rV c d (CC .Lt) dO (.ab (kf y)) σ Q cm)
  (f:J σ.ag 0=H dt)(h1:J σ.ag 1=H dO)(h2:J σ.ag 2=H (.ab (.int lo)))(s:hv=.ab (.int hi)\/(hv=.ab .none/\hi=ds.length))(g:J σ.ag 3=H hv)(b:J σ.ag 4=H cW)
  (h:∀l,Q (.c0 (.ab (.int (dg p ds.length lo hi)))) ⟨σ.aa,σ.aj,l⟩):WS c d (ek 4 nm a cc) (az 4).h σ Q X:=by
 obtain⟨N,df,l⟩:=σ;refine nt an m f h1 h2 s g b λl f h1 h2 g b=>?_;refine aQ (cU (ca (aw k7 b (fV (hB ⟨_,R,λac=>(nomatch n.symm.trans ac),λv=>aQ (ni f h1 h2 g b r (λl w K k0 k1 t k5 i kt kf=>?_) λl k=>bJ (aQ (ej (aw jN k (h l)))))⟩)))));exact aQ (cU (ca (aw nD k1 (dJ (aw k7 t ⟨o,aI (nZ an m k0 k5 i (bn (ce (q _ _ _ _ (BU i) (ai _ _ _ _ (BU i) ⟨_,R,λe=>ng k5 (kf ((F9 _).mp e)),λe=>nv k5 (kt ((Hb _).mp e))⟩)))))⟩)))))
inductive s4(c:Bx):Z->Prop
 |mk (T:M) (o:Ge) (t n):¬c.N9 T->c.i.get? T=H ⟨o.cls,o.dict,.seq #[.int 0 t,.none] n,o.slots⟩->s4 c (.ref T)
inductive tS(c:Bx):Z->Prop
 |mk (K:M) (o:Ge) (h t n):¬c.N9 K->c.i.get? K=H ⟨o.cls,o.dict,.dict #[⟨h,.str "key" t,.none⟩] n,o.slots⟩->tS c (.ref K)
structure d7(c:Bx)(bi bz:Z):Prop where
 S:s4 c bi
 BC:tS c bz
section
variable{c:Cx}{d:Nat}{σ:V}
noncomputable abbrev AC:Ep:=(az 3).l
noncomputable def ss(nm:O)(bi bz:Z):I5:=HV nm nm AC [] JJ bi bz .none .none B2 .none .none
noncomputable def wZ(c:Bx)(nm:O)(m:Nat)(b6:List O)(b:Bool)(vs a:List Z)(tk:Jg):Prop:=∀T K n d kt m'(o p:Ge),i8 c.NU (EA (ss nm (.ref T) (.ref K)) ⟨vs.take m,b6.zip (vs.drop m)⟩) ((T,⟨o.cls,o.dict,.seq #[.int 0 tk,.none] n,o.slots⟩)::(cond b [(K,⟨p.cls,p.dict,.dict #[⟨d,.str "key" kt,.none⟩] m',p.slots⟩)] [])) ((["a","x","lo","hi","key"]:List O).zip a)
theorem Ac{i:Nat}(hi:i=3\/i=4\/i=5\/i=6){nm bx aY bi bz a b c d e}{c2:Args}:EA (HV nm nm (az i).l bx aY bi bz a b c d e) c2=EA (ss nm bi bz) c2:=by
 rcases hi with rfl|rfl|rfl|rfl <;> kernel_rfl
variable{i:Nat}(hi:i=3\/i=4\/i=5\/i=6){nm:O}{bi bz:Z}{cc:M}{cj cq du fp iK:Y}(h:d7 c bi bz)
include hi h
theorem mS{b:Bool}
  (F:∀{cX j ρ n vs},bA c cX j ρ n as vs->∀tk,∃d,bA c cX j ρ n gc d/\wZ c nm m b6 b vs d tk):
  iT c σ nm (az i).l (az i).h (az i).aM bi bz cc m b6 as ["a","x","lo","hi","key"] gc:=by
 obtain⟨w,f⟩:=h
 induction w with|mk T o t n q v=>?_
 induction f with|mk K p y kt m' z f=>?_
 intro B C D G A E Q g s vs r hv k;obtain⟨d,h1,h2⟩:=F hv t;refine U (Ac hi)<|i8.O3 (l:=(T,⟨o.cls,o.dict,.seq #[.int 0 t,.none] n,o.slots⟩)::cond b [(K,⟨p.cls,p.dict,.dict #[⟨y,.str "key" kt,.none⟩] m',p.slots⟩)] []) (k g s _ (.N6 ..) r h1) (h2 ..) λx a=>?_
 cases b with
 |false=>exact r.q _ _ ((BO.mp a).symm▸v) ((BO.mp a).symm▸q)
 |true=>exact(BX.mp a).elim (λe=>r.q _ _ (e.symm▸v) (e.symm▸q)) λa=>r.q _ _ ((BO.mp a).symm▸f) ((BO.mp a).symm▸z)
theorem mh:iT c σ nm (az i).l (az i).h (az i).aM bi bz cc 4 [] [cj,cq,du,fp] ["a","x","lo","hi","key"] [cj,cq,du,fp,.ab .none]:=
 mS hi h (b:=u) λhv a=>by
  obtain⟨e,f,g,j,rfl,a2,bH,ef,d⟩:=hv.RP;exact⟨_,.aU a2 (.aU bH (.aU ef (.aU d (.aU .none .a6)))),λa a a a a a a a=>⟨by kernel_rfl,by kernel_rfl,.Qx (by kernel_rfl)⟩⟩
theorem mu:iT c σ nm (az i).l (az i).h (az i).aM bi bz cc 3 [] [cj,cq,du] ["a","x","lo","hi","key"] [cj,cq,du,.ab .none,.ab .none]:=
 mS hi h (b:=u) λhv a=>by
  obtain⟨d,e,f,rfl,a2,bH,ef⟩:=hv.PR;exact⟨_,.aU a2 (.aU bH (.aU ef (.aU .none (.aU .none .a6)))),λa a a a a a a a=>⟨by kernel_rfl,by kernel_rfl,.Qx (by kernel_rfl)⟩⟩
theorem sM:iT c σ nm (az i).l (az i).h (az i).aM bi bz cc 4 ["key"] [cj,cq,du,fp,iK] ["a","x","lo","hi","key"] [cj,cq,du,fp,iK]:=
 mS hi h (b:=BQ) λhv a=>by
  obtain⟨f,g,j,k,l,rfl,a2,bH,ef,d,e⟩:=hv.Ua;exact⟨_,.aU a2 (.aU bH (.aU ef (.aU d (.aU e .a6)))),λa a a a a a a a=>⟨by kernel_rfl,.Qx (by kernel_rfl)⟩⟩
theorem rm:iT c σ nm (az i).l (az i).h (az i).aM bi bz cc 2 ["key"] [cj,cq,du] ["a","x","lo","hi","key"] [cj,cq,.ab (.int 0),.ab .none,du]:=
 mS hi h (b:=BQ) λhv t=>by
  obtain⟨d,e,f,rfl,a2,bH,ef⟩:=hv.PR;exact⟨_,.aU a2 (.aU bH (.aU (.Oh 0 t) (.aU .none (.aU ef .a6)))),λa a a a a a a a=>⟨by kernel_rfl,.Qx (by kernel_rfl)⟩⟩
end
structure fB(c:Bx):Prop where
 cZ:cr c "len" (.builtin "len")
 Sm:cr c "ValueError" (.type "ValueError")
variable{i n:Nat}
theorem ly{c:Bx}(G:fB c)(hi:i=4\/i=6):(ek i nm a cc).Ok c n:=by
 refine⟨?_,by refine(?_:Gx (["a","x","lo","hi","key","mid"]:List O));decide+kernel,λq b=>?_,λq b=>nomatch b⟩
 .rcases hi with rfl|rfl <;> rfl
 .simp only[ek,BX,EO,or_false]at b;rcases b with rfl|rfl|rfl|rfl|rfl|rfl|rfl|rfl
  all_goals refine⟨?_,by decide+kernel,by decide+kernel⟩
  all_goals rcases hi with rfl|rfl
  all_goals first
   |exact⟨by refine(?_:(az 4).aM.names.lookup _=H NameKind.local);decide+kernel,R⟩
   |exact⟨by refine(?_:(az 6).aM.names.lookup _=some NameKind.local);decide+kernel,R⟩
   |exact⟨by refine(?_:(az 4).aM.names.lookup _=H F2);decide+kernel,G.cZ⟩
   |exact⟨by refine(?_:(az 6).aM.names.lookup _=some NameKind.globalImplicit);decide+kernel,G.cZ⟩
   |exact⟨by refine(?_:(az 4).aM.names.lookup _=H F2);decide+kernel,G.Sm⟩
   |exact⟨by refine(?_:(az 6).aM.names.lookup _=some NameKind.globalImplicit);decide+kernel,G.Sm⟩
variable{cj cq du:Y}
theorem lq(hi:i=4\/i=6){fp iK:Y}:fD (ek i nm a cc) ["a","x","lo","hi","key"] (σ.Ob.b0 (az i).aM.names) [cj,cq,du,fp,iK] ⟨σ.aa,σ.aj,[(4,iK),(3,fp),(2,du),(1,cq),(0,cj)]⟩:=by
 have e:σ.Ob.b0 (az i).aM.names=σ.Ob:=by rcases hi with rfl|rfl <;> rfl
 refine U e<|.aU (aH.ag (mV 0 R)) (.aU (aH.ag (mV 1 R)) (.aU (aH.ag (mV 2 R)) (.aU (aH.ag (mV 3 R)) (.aU (aH.ag (mV 4 R)) (.a6 _)))))
theorem dF.aj{a:Y}(h:dF σ a ds)(e:σ'.aj=σ.aj):dF σ' a ds:=by
 cases h with
 |aK=>exact .aK
 |bm hi=>exact .bm (by unfold V.NY at*;exact U e hi)
variable{Q:Y->V->Prop}{bu:M}
theorem th(aJ:eE c bu nm (az 6).l (az 6).h (az 6).aM bi bz cc)(a:d7 c bi bz)(G:fB c)(an:dF σ dt ds)(b:ds.length<=1000){hi:Nat}(e:hv=.ab (.int hi)\/(hv=.ab .none/\hi=ds.length))(f:hi<=ds.length)
  (ai:∀(g:Cx)(σ:V)(Q:Y->V->Prop)(j:Nat)(y:Cj),ds[j]?=H y->Q (.ab (.bool (p j))) σ->co rV g d (CC .Lt) (.ab y) dO σ Q cm)
  (h:Q (.ab (.int (dg p ds.length lo hi))) σ):WH rV c (d+1) (fW bu 4 []) [dt,dO,.ab (.int lo),hv] σ Q X:=by
 refine hM aJ (ek 6 nm bu cc) (mh (.inr (.inr (.inr R))) a) ⟨R,R,R,R,R⟩ (ly G (.inr R)) (lq (.inr R)) (λL=>uz (an.aj R) b f (ai (c.a5 L)) R R R e R R λl=>h)
theorem xg(aJ:eE c bu nm (az 6).l (az 6).h (az 6).aM bi bz cc)(b:d7 c bi bz)(G:fB c)(e:cW.Pk=BQ)(f:∀a:Cx,a.toBx=c.toBx->a1 a cW)(g:∀(a:Cx),a.toBx=c.toBx->∀(σ:V)(Q:Y->V->Prop)(j:Nat)(y:Cj),ds[j]?=H y->Q (.ab (kf y)) σ->WK a d cW [.ab y] [] [] σ Q cm)(an:dF σ dt ds)(i:ds.length<=1000){hi:Nat}(k:hv=.ab (.int hi)\/(hv=.ab .none/\hi=ds.length))(m:hi<=ds.length)
  (ai:∀(a:Cx)(σ:V)(Q:Y->V->Prop)(j:Nat)(y:Cj),ds[j]?=H y->Q (.ab (.bool (p j))) σ->co rV a d (CC .Lt) (.ab (kf y)) dO σ Q cm)
  (h:Q (.ab (.int (dg p ds.length lo hi))) σ):WH rV c (d+1) (fW bu 4 ["key"]) [dt,dO,.ab (.int lo),hv,cW] σ Q X:=by
 refine hM aJ (ek 6 nm bu cc) (sM (.inr (.inr (.inr R))) b) ⟨R,R,R,R,R⟩ (ly G (.inr R)) (lq (.inr R)) (λL=>Ao e (f (c.a5 L) R) (g (c.a5 L) R) (an.aj R) i m (ai (c.a5 L)) R R R k R R λl=>h)
theorem zA(aJ:eE c bu nm (az 4).l (az 4).h (az 4).aM bi bz cc)(a:d7 c bi bz)(G:fB c)(an:dF σ dt ds)(b:ds.length<=1000){hi:Nat}(e:hv=.ab (.int hi)\/(hv=.ab .none/\hi=ds.length))(f:hi<=ds.length)
  (ai:∀(g:Cx)(σ:V)(Q:Y->V->Prop)(j:Nat)(y:Cj),ds[j]?=H y->Q (.ab (.bool (!p j))) σ->co rV g d (CC .Lt) dO (.ab y) σ Q cm)
  (h:Q (.ab (.int (dg p ds.length lo hi))) σ):WH rV c (d+1) (fW bu 4 []) [dt,dO,.ab (.int lo),hv] σ Q X:=by
 refine hM aJ (ek 4 nm bu cc) (mh (.inr (.inl R)) a) ⟨R,R,R,R,R⟩ (ly G (.inl R)) (lq (.inl R)) (λL=>rP (an.aj R) b f (ai (c.a5 L)) R R R e R R λl=>h)
theorem Bp(aJ:eE c bu nm (az 4).l (az 4).h (az 4).aM bi bz cc)(a:d7 c bi bz)(G:fB c)(an:dF σ dt ds)(b:ds.length<=1000)
  (ai:∀(e:Cx)(σ:V)(Q:Y->V->Prop)(j:Nat)(y:Cj),ds[j]?=H y->Q (.ab (.bool (!p j))) σ->co rV e d (CC .Lt) dO (.ab y) σ Q cm)
  (h:Q (.ab (.int (dg p ds.length lo ds.length))) σ):WH rV c (d+1) (fW bu 3 []) [dt,dO,.ab (.int lo)] σ Q X:=by
 refine hM aJ (ek 4 nm bu cc) (mu (.inr (.inl R)) a) ⟨R,R,R,R,R⟩ (ly G (.inl R)) (lq (.inl R)) (λL=>rP (an.aj R) b (BJ _) (ai (c.a5 L)) R R R (.inr ⟨R,R⟩) R R λl=>h)
theorem wy(aJ:eE c bu nm (az 4).l (az 4).h (az 4).aM bi bz cc)(b:d7 c bi bz)(G:fB c)(e:cW.Pk=BQ)(f:∀a:Cx,a.toBx=c.toBx->a1 a cW)(g:∀(a:Cx),a.toBx=c.toBx->∀(σ:V)(Q:Y->V->Prop)(j:Nat)(y:Cj),ds[j]?=H y->Q (.ab (kf y)) σ->WK a d cW [.ab y] [] [] σ Q cm)(an:dF σ dt ds)(i:ds.length<=1000){hi:Nat}(k:hv=.ab (.int hi)\/(hv=.ab .none/\hi=ds.length))(m:hi<=ds.length)
  (ai:∀(a:Cx)(σ:V)(Q:Y->V->Prop)(j:Nat)(y:Cj),ds[j]?=H y->Q (.ab (.bool (!p j))) σ->co rV a d (CC .Lt) dO (.ab (kf y)) σ Q cm)
  (h:Q (.ab (.int (dg p ds.length lo hi))) σ):WH rV c (d+1) (fW bu 4 ["key"]) [dt,dO,.ab (.int lo),hv,cW] σ Q X:=by
 refine hM aJ (ek 4 nm bu cc) (sM (.inr (.inl R)) b) ⟨R,R,R,R,R⟩ (ly G (.inl R)) (lq (.inl R)) (λL=>vB e (f (c.a5 L) R) (g (c.a5 L) R) (an.aj R) i m (ai (c.a5 L)) R R R k R R λl=>h)
theorem nn(p:Nat->Bool):∀(f lo hi:Nat),lo<=hi->lo<=dg p f lo hi/\dg p f lo hi<=hi:=by
 intro f
 induction f with
 |zero=>
  intro lo hi h
  exact⟨BJ _,h⟩
 |succ f b=>
  intro lo hi h;rw[pD]
  by_cases a:lo<hi
  .refine U (if_pos a) ?_
   by_cases ai:p ((lo+hi)/2)=u
   .refine U (if_pos ai) ?_;exact⟨BG (lv a) (Eo (b ((lo+hi)/2+1) hi (lE a)).1),(b _ hi (lE a)).2⟩
   .refine U (if_neg ai) ?_;exact⟨(b lo _ (lv a)).1,BG (b lo _ (lv a)).2 (Cz (lE a))⟩
  .exact U (if_neg a) ⟨BJ _,h⟩
noncomputable def d5(ds:List aO)(k:Nat)(x:aO):List aO:=ds.take k++x::ds.drop k
noncomputable def gZ(i:Nat)(nm:O)(g:O)(d2:M)(a cc:M):bB:=
 {aM:=(az i).aM,aG:=["a","x","lo","hi","key"],bN:=[("a",.ag 0),("x",.ag 1),("lo",.ag 2),("hi",.ag 3),("key",.ag 4),(g,.Ow (.ref d2))],
  b0:=[],fu:=nm++".<locals>.",gb:=H a,fk:=.ref cc}
variable{x:Cj}{Q:bY->V->Prop}{d2 iL:M}{iJ:O}
theorem t9(aJ:eE c d2 iJ (az 6).l (az 6).h (az 6).aM bi bz iL)(g:d7 c bi bz)(G:fB c)
  {lo hi:Nat}(k:hv=.ab (.int hi)\/(hv=.ab .none/\hi=ds.length))(e:hi<=ds.length)(m:lo<=hi)(b:σ.NY i=H (.aN ds))(n:ds.length<=1000)
  (ai:∀(o:Cx)(σ:V)(Q:Y->V->Prop)(j:Nat)(y:Cj),ds[j]?=H y->Q (.ab (.bool (p j))) σ->co rV o d (CC .Lt) (.ab y) (.ab x) σ Q cm)
  (f:J σ.ag 0=H (.aP i))(h1:J σ.ag 1=H (.ab x))(h2:J σ.ag 2=H (.ab (.int lo)))(q:J σ.ag 3=H hv)(r:J σ.ag 4=H (.ab .none))
  (h:∀l,Q .aa (V.NX ⟨σ.aa,σ.aj,l⟩ i (.aN (d5 ds (dg p ds.length lo hi) x)))):WS c (d+1) (gZ 5 nm "bisect_left" d2 a cc) (az 5).h σ Q X:=by
 refine aQ (cU (ca (aw (mV 4 R) r (fV (hB ⟨_,R,λt=>?_,λac=>?_⟩)))))
 rotate_left
 .exact Kc (show u=BQ from ac)
 refine aQ (dh (dJ (dr (mV 5 R) ⟨a1.OY aJ,?_⟩)));refine aI (aw (mV 0 R) f (aI (aw (mV 1 R) h1 (aI (aw (mV 2 R) h2 (aI (aw (mV 3 R) q (bn (ce (WK.NW (th aJ g G (.bm b) n k e ai ⟨_,aH.ag (mV 2 R),?_⟩)))))))))));refine bJ<|aQ (ez (eb (aw (mV 0 R) (by exact f) ⟨_,u,cf.aN b Ei ER,a1.Oe _,?_⟩)));refine aI (aw (v:=.ab (.int (dg p ds.length lo hi))) (mV 2 R) R (aI (aw (mV 1 R) (by exact h1) (bn (ce ?_)))));have s:=nn p ds.length lo hi m;refine nN R b (aV [_,_,_] au af ak au ak af al e s.2) (BG ‹_› (DD R))<|bJ (h _)
theorem q1(aJ:eE c d2 iJ (az 4).l (az 4).h (az 4).aM bi bz iL)(g:d7 c bi bz)(G:fB c)
  {lo hi:Nat}(k:hv=.ab (.int hi)\/(hv=.ab .none/\hi=ds.length))(e:hi<=ds.length)(m:lo<=hi)(b:σ.NY i=H (.aN ds))(n:ds.length<=1000)
  (ai:∀(o:Cx)(σ:V)(Q:Y->V->Prop)(j:Nat)(y:Cj),ds[j]?=H y->Q (.ab (.bool (!p j))) σ->co rV o d (CC .Lt) (.ab x) (.ab y) σ Q cm)
  (f:J σ.ag 0=H (.aP i))(h1:J σ.ag 1=H (.ab x))(h2:J σ.ag 2=H (.ab (.int lo)))(q:J σ.ag 3=H hv)(r:J σ.ag 4=H (.ab .none))
  (h:∀l,Q .aa (V.NX ⟨σ.aa,σ.aj,l⟩ i (.aN (d5 ds (dg p ds.length lo hi) x)))):WS c (d+1) (gZ 3 nm "bisect_right" d2 a cc) (az 3).h σ Q X:=by
 refine aQ (cU (ca (aw (mV 4 R) r (fV (hB ⟨_,R,λt=>?_,λac=>?_⟩)))))
 rotate_left
 .exact Kc (show u=BQ from ac)
 refine aQ (dh (dJ (dr (mV 5 R) ⟨a1.OY aJ,?_⟩)));refine aI (aw (mV 0 R) f (aI (aw (mV 1 R) h1 (aI (aw (mV 2 R) h2 (aI (aw (mV 3 R) q (bn (ce (WK.NW (zA aJ g G (.bm b) n k e ai ⟨_,aH.ag (mV 2 R),?_⟩)))))))))));refine bJ<|aQ (ez (eb (aw (mV 0 R) (by exact f) ⟨_,u,cf.aN b Ei ER,a1.Oe _,?_⟩)));refine aI (aw (v:=.ab (.int (dg p ds.length lo hi))) (mV 2 R) R (aI (aw (mV 1 R) (by exact h1) (bn (ce ?_)))));have s:=nn p ds.length lo hi m;refine nN R b (aV [_,_,_] au af ak au ak af al e s.2) (BG ‹_› (DD R))<|bJ (h _)
theorem uA(aJ:eE c d2 iJ (az 6).l (az 6).h (az 6).aM bi bz iL)(q:d7 c bi bz)(G:fB c)
  (k:cW.Pk=BQ)(m:∀b:Cx,b.toBx=c.toBx->a1 b cW){lo hi:Nat}(r:hv=.ab (.int hi)\/(hv=.ab .none/\hi=ds.length))(n:hi<=ds.length)(s:∀(b:Cx),b.toBx=c.toBx->∀(σ:V)(Q:Y->V->Prop)(y:Cj),(y=x\/y∈ds)->Q (.ab (kf y)) σ->WK b d cW [.ab y] [] [] σ Q cm)(t:∀(σ:V)(Q:Y->V->Prop),Q (.ab (kf x)) σ->WK c (d+1) cW [.ab x] [] [] σ Q X)(w:lo<=hi)(f:σ.NY i=H (.aN ds))(z:ds.length<=1000)
  (ai:∀(b:Cx)(σ:V)(Q:Y->V->Prop)(j:Nat)(y:Cj),ds[j]?=H y->Q (.ab (.bool (p j))) σ->co rV b d (CC .Lt) (.ab (kf y)) (.ab (kf x)) σ Q cm)
  (o:J σ.ag 0=H (.aP i))(h1:J σ.ag 1=H (.ab x))(h2:J σ.ag 2=H (.ab (.int lo)))(A:J σ.ag 3=H hv)(g:J σ.ag 4=H cW)
  (h:∀l,Q .aa (V.NX ⟨σ.aa,σ.aj,l⟩ i (.aN (d5 ds (dg p ds.length lo hi) x)))):WS c (d+1) (gZ 5 nm "bisect_left" d2 a cc) (az 5).h σ Q X:=by
 refine aQ (cU (ca (aw (mV 4 R) g (fV (hB ⟨_,R,λac=>?_,λE=>?_⟩)))))
 .replace ac:=k.symm.trans ac;cases ac
 refine aQ (dh (dJ (dr (mV 5 R) ⟨a1.OY aJ,?_⟩)));refine aI (aw (mV 0 R) o (aI (dJ (aw (mV 4 R) g ⟨m c R,aI (aw (mV 1 R) h1 (bn (ce (t _ _ (aI (aw (mV 2 R) h2 (aI (aw (mV 3 R) A (bn (i2 (aw (mV 4 R) g (ce ?_))))))))))))⟩))));refine WK.NW (xg aJ q G k m (λb e σ Q j y B C=>s b e σ Q y (.inr (B5 B)) C) (.bm f) z r n ai ⟨_,aH.ag (mV 2 R),bJ ?_⟩);refine aQ (ez (eb (aw (mV 0 R) (by exact o) ⟨_,u,cf.aN f Ei ER,a1.Oe _,?_⟩)));refine aI (aw (v:=.ab (.int (dg p ds.length lo hi))) (mV 2 R) R (aI (aw (mV 1 R) (by exact h1) (bn (ce ?_)))));have D:=nn p ds.length lo hi w;refine nN R f (aV [_,_,_] au af ak au ak af al n D.2) (BG ‹_› (DD R))<|bJ (h _)
theorem vt(aJ:eE c d2 iJ (az 4).l (az 4).h (az 4).aM bi bz iL)(q:d7 c bi bz)(G:fB c)
  (k:cW.Pk=BQ)(m:∀b:Cx,b.toBx=c.toBx->a1 b cW){lo hi:Nat}(r:hv=.ab (.int hi)\/(hv=.ab .none/\hi=ds.length))(n:hi<=ds.length)(s:∀(b:Cx),b.toBx=c.toBx->∀(σ:V)(Q:Y->V->Prop)(y:Cj),(y=x\/y∈ds)->Q (.ab (kf y)) σ->WK b d cW [.ab y] [] [] σ Q cm)(t:∀(σ:V)(Q:Y->V->Prop),Q (.ab (kf x)) σ->WK c (d+1) cW [.ab x] [] [] σ Q X)(w:lo<=hi)(f:σ.NY i=H (.aN ds))(z:ds.length<=1000)
  (ai:∀(b:Cx)(σ:V)(Q:Y->V->Prop)(j:Nat)(y:Cj),ds[j]?=H y->Q (.ab (.bool (!p j))) σ->co rV b d (CC .Lt) (.ab (kf x)) (.ab (kf y)) σ Q cm)
  (o:J σ.ag 0=H (.aP i))(h1:J σ.ag 1=H (.ab x))(h2:J σ.ag 2=H (.ab (.int lo)))(A:J σ.ag 3=H hv)(g:J σ.ag 4=H cW)
  (h:∀l,Q .aa (V.NX ⟨σ.aa,σ.aj,l⟩ i (.aN (d5 ds (dg p ds.length lo hi) x)))):WS c (d+1) (gZ 3 nm "bisect_right" d2 a cc) (az 3).h σ Q X:=by
 refine aQ (cU (ca (aw (mV 4 R) g (fV (hB ⟨_,R,λac=>?_,λE=>?_⟩)))))
 .replace ac:=k.symm.trans ac;cases ac
 refine aQ (dh (dJ (dr (mV 5 R) ⟨a1.OY aJ,?_⟩)));refine aI (aw (mV 0 R) o (aI (dJ (aw (mV 4 R) g ⟨m c R,aI (aw (mV 1 R) h1 (bn (ce (t _ _ (aI (aw (mV 2 R) h2 (aI (aw (mV 3 R) A (bn (i2 (aw (mV 4 R) g (ce ?_))))))))))))⟩))));refine WK.NW (wy aJ q G k m (λb e σ Q j y B C=>s b e σ Q y (.inr (B5 B)) C) (.bm f) z r n ai ⟨_,aH.ag (mV 2 R),bJ ?_⟩);refine aQ (ez (eb (aw (mV 0 R) (by exact o) ⟨_,u,cf.aN f Ei ER,a1.Oe _,?_⟩)));refine aI (aw (v:=.ab (.int (dg p ds.length lo hi))) (mV 2 R) R (aI (aw (mV 1 R) (by exact h1) (bn (ce ?_)))));have D:=nn p ds.length lo hi w;refine nN R f (aV [_,_,_] au af ak au ak af al n D.2) (BG ‹_› (DD R))<|bJ (h _)
theorem j2{c:Bx}{b:O}(hi:(i=3/\b="bisect_right")\/(i=5/\b="bisect_left"))(G:cr c b (.ref d2)):(gZ i nm b d2 a cc).Ok c n:=by
 refine⟨?_,by refine(?_:Gx (["a","x","lo","hi","key"]:List O));decide+kernel,λq d=>?_,λq d=>nomatch d⟩
 .rcases hi with⟨rfl,rfl⟩|⟨rfl,rfl⟩ <;> rfl
 .simp only[gZ,BX,EO,or_false]at d;rcases hi with⟨rfl,rfl⟩|⟨rfl,rfl⟩
  all_goals rcases d with rfl|rfl|rfl|rfl|rfl|rfl
  all_goals refine⟨?_,(by first|decide+kernel|(refine(?_:(("bisect_right":O)==("__debug__":O))=BQ);decide+kernel)|(refine(?_:(("bisect_left":Str)==("__debug__":Str))=false);decide+kernel)),(by first|decide+kernel|(refine(?_:(("bisect_right":O)==("__classdict__":O))=BQ);decide+kernel)|(refine(?_:(("bisect_left":Str)==("__classdict__":Str))=false);decide+kernel))⟩
  all_goals first
   |exact⟨by refine(?_:(az 3).aM.names.lookup _=H NameKind.local);decide+kernel,R⟩
   |exact⟨by refine(?_:(az 5).aM.names.lookup _=H NameKind.local);decide+kernel,R⟩
   |exact⟨by refine(?_:(az 3).aM.names.lookup ("bisect_right":O)=H F2);decide+kernel,G⟩
   |exact⟨by refine(?_:(az 5).aM.names.lookup ("bisect_left":Str)=some NameKind.globalImplicit);decide+kernel,G⟩
theorem kB(hi:i=3\/i=5){g:O}{fp iK:Y}:fD (gZ i nm g d2 a cc) ["a","x","lo","hi","key"] (σ.Ob.b0 (az i).aM.names) [cj,cq,du,fp,iK] ⟨σ.aa,σ.aj,[(4,iK),(3,fp),(2,du),(1,cq),(0,cj)]⟩:=by
 have e:σ.Ob.b0 (az i).aM.names=σ.Ob:=by rcases hi with rfl|rfl <;> rfl
 refine U e<|.aU (aH.ag (mV 0 R)) (.aU (aH.ag (mV 1 R)) (.aU (aH.ag (mV 2 R)) (.aU (aH.ag (mV 3 R)) (.aU (aH.ag (mV 4 R)) (.a6 _)))))
variable{Q:Y->V->Prop}{gx gy:Z}
theorem zV(aJ:eE c bu nm (az 5).l (az 5).h (az 5).aM bi bz cc)(a:d7 c bi bz)(b:eE c d2 iJ (az 6).l (az 6).h (az 6).aM gx gy iL)(e:d7 c gx gy)(G:fB c)(f:cr c "bisect_left" (.ref d2))
  {lo hi:Nat}(g:hi<=ds.length)(k:lo<=hi)(m:σ.NY i=H (.aN ds))(n:ds.length<=1000)
  (ai:∀(o:Cx)(σ:V)(Q:Y->V->Prop)(j:Nat)(y:Cj),ds[j]?=H y->Q (.ab (.bool (p j))) σ->co rV o (d) (CC .Lt) (.ab y) (.ab x) σ Q cm)
  (h:Q (.ab .none) (σ.NX i (.aN (d5 ds (dg p ds.length lo hi) x)))):WH rV c (d+2) (fW bu 4 []) [.aP i,.ab x,.ab (.int lo),.ab (.int hi)] σ Q X:=by
 refine hM aJ (gZ 5 nm "bisect_left" d2 bu cc) (mh (.inr (.inr (.inl R))) a) ⟨R,R,R,R,R⟩ (j2 (.inr ⟨R,R⟩) f) (kB (.inr R)) (λL=>t9 b e G (.inl R) g k m n ai R R R R R λl=>h)
theorem zv(aJ:eE c bu nm (az 5).l (az 5).h (az 5).aM bi bz cc)(a:d7 c bi bz)(b:eE c d2 iJ (az 6).l (az 6).h (az 6).aM gx gy iL)(e:d7 c gx gy)(G:fB c)(f:cr c "bisect_left" (.ref d2))
  (g:lo<=ds.length)(k:σ.NY i=H (.aN ds))(m:ds.length<=1000)
  (ai:∀(n:Cx)(σ:V)(Q:Y->V->Prop)(j:Nat)(y:Cj),ds[j]?=H y->Q (.ab (.bool (p j))) σ->co rV n (d) (CC .Lt) (.ab y) (.ab x) σ Q cm)
  (h:Q (.ab .none) (σ.NX i (.aN (d5 ds (dg p ds.length lo ds.length) x)))):WH rV c (d+2) (fW bu 3 []) [.aP i,.ab x,.ab (.int lo)] σ Q X:=by
 refine hM aJ (gZ 5 nm "bisect_left" d2 bu cc) (mu (.inr (.inr (.inl R))) a) ⟨R,R,R,R,R⟩ (j2 (.inr ⟨R,R⟩) f) (kB (.inr R)) (λL=>t9 b e G (.inr ⟨R,R⟩) (BJ _) g k m ai R R R R R λl=>h)
theorem yk(aJ:eE c bu nm (az 5).l (az 5).h (az 5).aM bi bz cc)(g:d7 c bi bz)(k:eE c d2 iJ (az 6).l (az 6).h (az 6).aM gx gy iL)(m:d7 c gx gy)(G:fB c)(n:cr c "bisect_left" (.ref d2))
  (o:cW.Pk=BQ)(q:∀a:Cx,a.toBx=c.toBx->a1 a cW)(f:∀(d:Nat)(a:Cx),a.toBx=c.toBx->∀(σ:V)(Q:Y->V->Prop)(X:AX->V->Prop)(y:Cj),(y=x\/y∈ds)->Q (.ab (kf y)) σ->WK a (d+1) cW [.ab y] [] [] σ Q X)(r:σ.NY i=H (.aN ds))(s:ds.length<=1000)
  (ai:∀(a:Cx)(σ:V)(Q:Y->V->Prop)(j:Nat)(y:Cj),ds[j]?=H y->Q (.ab (.bool (p j))) σ->co rV a (d+1) (CC .Lt) (.ab (kf y)) (.ab (kf x)) σ Q cm)
  (h:Q (.ab .none) (σ.NX i (.aN (d5 ds (dg p ds.length 0 ds.length) x)))):WH rV c (d+1+2) (fW bu 2 ["key"]) [.aP i,.ab x,cW] σ Q X:=by
 refine hM aJ (gZ 5 nm "bisect_left" d2 bu cc) (rm (.inr (.inr (.inl R))) g) ⟨R,R,R,R,R⟩ (j2 (.inr ⟨R,R⟩) n) (kB (.inr R)) (λL=>uA k m G o (λa e=>q a e) (.inr ⟨R,R⟩) (BJ _) (λa e σ Q y t b=>f d a e σ Q _ y t b) (λσ Q b=>f (d+1) (c.a5 L) R σ Q _ x (.inl R) b) (Cm _) r s ai R R R R R λl=>h)
theorem xt(aJ:eE c bu nm (az 3).l (az 3).h (az 3).aM bi bz cc)(a:d7 c bi bz)(b:eE c d2 iJ (az 4).l (az 4).h (az 4).aM gx gy iL)(e:d7 c gx gy)(G:fB c)(f:cr c "bisect_right" (.ref d2))
  {lo hi:Nat}(g:hi<=ds.length)(k:lo<=hi)(m:σ.NY i=H (.aN ds))(n:ds.length<=1000)
  (ai:∀(o:Cx)(σ:V)(Q:Y->V->Prop)(j:Nat)(y:Cj),ds[j]?=H y->Q (.ab (.bool (!p j))) σ->co rV o (d) (CC .Lt) (.ab x) (.ab y) σ Q cm)
  (h:Q (.ab .none) (σ.NX i (.aN (d5 ds (dg p ds.length lo hi) x)))):WH rV c (d+2) (fW bu 4 []) [.aP i,.ab x,.ab (.int lo),.ab (.int hi)] σ Q X:=by
 refine hM aJ (gZ 3 nm "bisect_right" d2 bu cc) (mh (.inl R) a) ⟨R,R,R,R,R⟩ (j2 (.inl ⟨R,R⟩) f) (kB (.inl R)) (λL=>q1 b e G (.inl R) g k m n ai R R R R R λl=>h)
theorem Bb(aJ:eE c bu nm (az 3).l (az 3).h (az 3).aM bi bz cc)(a:d7 c bi bz)(b:eE c d2 iJ (az 4).l (az 4).h (az 4).aM gx gy iL)(e:d7 c gx gy)(G:fB c)(f:cr c "bisect_right" (.ref d2))
  (g:lo<=ds.length)(k:σ.NY i=H (.aN ds))(m:ds.length<=1000)
  (ai:∀(n:Cx)(σ:V)(Q:Y->V->Prop)(j:Nat)(y:Cj),ds[j]?=H y->Q (.ab (.bool (!p j))) σ->co rV n (d) (CC .Lt) (.ab x) (.ab y) σ Q cm)
  (h:Q (.ab .none) (σ.NX i (.aN (d5 ds (dg p ds.length lo ds.length) x)))):WH rV c (d+2) (fW bu 3 []) [.aP i,.ab x,.ab (.int lo)] σ Q X:=by
 refine hM aJ (gZ 3 nm "bisect_right" d2 bu cc) (mu (.inl R) a) ⟨R,R,R,R,R⟩ (j2 (.inl ⟨R,R⟩) f) (kB (.inl R)) (λL=>q1 b e G (.inr ⟨R,R⟩) (BJ _) g k m ai R R R R R λl=>h)
theorem vq(aJ:eE c bu nm (az 3).l (az 3).h (az 3).aM bi bz cc)(g:d7 c bi bz)(k:eE c d2 iJ (az 4).l (az 4).h (az 4).aM gx gy iL)(m:d7 c gx gy)(G:fB c)(n:cr c "bisect_right" (.ref d2))
  (o:cW.Pk=BQ)(q:∀a:Cx,a.toBx=c.toBx->a1 a cW)(f:∀(d:Nat)(a:Cx),a.toBx=c.toBx->∀(σ:V)(Q:Y->V->Prop)(X:AX->V->Prop)(y:Cj),(y=x\/y∈ds)->Q (.ab (kf y)) σ->WK a (d+1) cW [.ab y] [] [] σ Q X)(r:σ.NY i=H (.aN ds))(s:ds.length<=1000)
  (ai:∀(a:Cx)(σ:V)(Q:Y->V->Prop)(j:Nat)(y:Cj),ds[j]?=H y->Q (.ab (.bool (!p j))) σ->co rV a (d+1) (CC .Lt) (.ab (kf x)) (.ab (kf y)) σ Q cm)
  (h:Q (.ab .none) (σ.NX i (.aN (d5 ds (dg p ds.length 0 ds.length) x)))):WH rV c (d+1+2) (fW bu 2 ["key"]) [.aP i,.ab x,cW] σ Q X:=by
 refine hM aJ (gZ 3 nm "bisect_right" d2 bu cc) (rm (.inl R) g) ⟨R,R,R,R,R⟩ (j2 (.inl ⟨R,R⟩) n) (kB (.inl R)) (λL=>vt k m G o (λa e=>q a e) (.inr ⟨R,R⟩) (BJ _) (λa e σ Q y t b=>f d a e σ Q _ y t b) (λσ Q b=>f (d+1) (c.a5 L) R σ Q _ x (.inl R) b) (Cm _) r s ai R R R R R λl=>h)
theorem wU{x1 x2 x3:O}
  (h:∀a b d e f i j,EA (HV nm nm cK bx aY .none .none a b d (.ref cc) e) ⟨[f,i,j],[]⟩=CV [(x1,f),(x2,i),(x3,j)]):
  iT c σ nm cK bx aY .none .none cc 3 [] [cj,cq,du] [x1,x2,x3] [cj,cq,du]:=by
 intro a b d e A E Q g s vs r hv k;obtain⟨_,_,_,rfl,a2,bH,ef⟩:=hv.PR;refine U (h ..)<|wpAny_pure (k g s _ (.N6 ..) r (.aU a2 (.aU bH (.aU ef .a6))))
noncomputable def pL(ys:List O)(x:O)(j:Nat):Bool:=match ys[j]? with|some y=>decide (y.cps.toList<x.cps.toList)|none=>BQ
noncomputable def pR(ys:List O)(x:O)(j:Nat):Bool:=match ys[j]? with|some y=>!decide (x.cps.toList<y.cps.toList)|none=>BQ
variable{x:O}
theorem ph(b:Cx)(σ:V)(Q:Y->V->Prop)(j:Nat)(y:Cj)(a:(ys.map B1)[j]?=H y)(c:Q (.ab (.bool (pL ys x j))) σ):co rV b d (CC .Lt) (.ab y) (.ab (.str x)) σ Q cm:=by
 replace a:=Ck.symm.trans a
 cases e:ys[j]? with
 |none=>rw[e]at a;cases a
 |some z=>
  rw[e]at a;cases a;refine nS ?_;have:pL ys x j=decide (z.cps.toList<x.cps.toList):=by unfold pL;exact U e R
  exact br this c
theorem qc(b:Cx)(σ:V)(Q:Y->V->Prop)(j:Nat)(y:Cj)(a:(ys.map B1)[j]?=H y)(c:Q (.ab (.bool (!pR ys x j))) σ):co rV b d (CC .Lt) (.ab (.str x)) (.ab y) σ Q cm:=by
 replace a:=Ck.symm.trans a
 cases e:ys[j]? with
 |none=>rw[e]at a;cases a
 |some z=>
  rw[e]at a;cases a;refine nS ?_;have:(!pR ys x j)=decide (x.cps.toList<z.cps.toList):=by unfold pR;refine U e ?_;simp
  exact br this c
noncomputable def j9(ys:List O)(x:O)(lo hi:Nat):Nat:=dg (pL ys x) ys.length lo hi
noncomputable def kG(ys:List O)(x:O)(lo hi:Nat):Nat:=dg (pR ys x) ys.length lo hi
noncomputable def el(ys:List O)(fQ:Nat)(x:O):Int:=(j9 ys x 0 fQ:Int)+ys.length-kG ys x fQ ys.length
noncomputable def pz(b c a cc:M):bB:=
 {aM:=(az 23).aM,aG:=["line","cut","word"],bN:=[("line",.ag 0),("cut",.ag 1),("word",.ag 2),("bisect_left",.Ow (.ref b)),("bisect_right",.Ow (.ref c)),("len",.Ow (.builtin "len"))],
  b0:=[],fu:="_law_label"++".<locals>.",gb:=H a,fk:=.ref cc}
theorem zo{c:Bx}{d e a cc:M}(G:fB c)(f:cr c "bisect_left" (.ref d))(g:cr c "bisect_right" (.ref e)):(pz d e a cc).Ok c n:=by
 refine⟨R,by refine(?_:Gx (["line","cut","word"]:List O));decide+kernel,λq b=>?_,λq b=>nomatch b⟩;simp only[pz,BX,EO,or_false]at b;rcases b with rfl|rfl|rfl|rfl|rfl|rfl
 .exact⟨⟨by refine(?_:(az 23).aM.names.lookup ("line":O)=_);decide+kernel,R⟩,by decide+kernel,by decide+kernel⟩
 .exact⟨⟨by refine(?_:(az 23).aM.names.lookup ("cut":O)=_);decide+kernel,R⟩,by decide+kernel,by decide+kernel⟩
 .exact⟨⟨by refine(?_:(az 23).aM.names.lookup ("word":O)=_);decide+kernel,R⟩,by decide+kernel,by decide+kernel⟩
 .exact⟨⟨by refine(?_:(az 23).aM.names.lookup ("bisect_left":O)=_);decide+kernel,f⟩,by refine(?_:(("bisect_left":O)=="__debug__")=BQ);decide+kernel,by refine(?_:(("bisect_left":O)=="__classdict__")=BQ);decide+kernel⟩
 .exact⟨⟨by refine(?_:(az 23).aM.names.lookup ("bisect_right":O)=_);decide+kernel,g⟩,by refine(?_:(("bisect_right":O)=="__debug__")=BQ);decide+kernel,by refine(?_:(("bisect_right":O)=="__classdict__")=BQ);decide+kernel⟩
 .exact⟨⟨by refine(?_:(az 23).aM.names.lookup ("len":O)=_);decide+kernel,G.cZ⟩,by decide+kernel,by decide+kernel⟩
theorem pb{bu cc e m f n:M}{ap o:O}(aJ:eE c bu "_law_label" (az 23).l (az 23).h (az 23).aM .none .none cc)(k:eE c e ap (az 6).l (az 6).h (az 6).aM bi bz m)(p:d7 c bi bz)(l:eE c f o (az 4).l (az 4).h (az 4).aM gx gy n)(q:d7 c gx gy)
  (G:fB c)(r:cr c "bisect_left" (.ref e))(s:cr c "bisect_right" (.ref f)){fQ:Nat}(hi:σ.NY i=H (.aN (ys.map .str)))(g:ys.length<=1000)(t:fQ<=ys.length)(h:Q (.ab (.int (el ys fQ x))) σ):
  WH rV c (d+2) (fW bu 3 []) [.aP i,.ab (.int fQ),.ab (.str x)] σ Q X:=by
 refine hM (σ₁:=⟨σ.aa,σ.aj,[(2,.ab (.str x)),(1,.ab (.int fQ)),(0,.aP i)]⟩) aJ (pz e f bu cc) (wU (x1:="line") (x2:="cut") (x3:="word") λa a a a a a a=>by rfl) ⟨R,R,R,R,R⟩ (zo G r s) ?_ (λL=>?_)
 .exact .aU (aH.ag (mV 0 R)) (.aU (aH.ag (mV 1 R)) (.aU (aH.ag (mV 2 R)) (.a6 _)))
 have b:(ys.map B1).length=ys.length:=BH _;refine aQ (ej (b4 (b4 (dJ (dr (mV 3 R) ⟨a1.OY k,?_⟩)))));refine aI (aw (mV 0 R) R (aI (aw (mV 2 R) R (aI (bI (aI (aw (mV 1 R) R (bn (ce (WK.NW (th k p G (.bm hi) (aV [_,_] af dT ak af ak dT al g (eL b)) (.inl R) (aV [_,_,_] ak au au af ak af al t (eR b)) (λj=>ph j) ?_)))))))))));refine dJ<|dr (mV 5 R) ⟨a1.Oe _,aI (aw (mV 0 R) R (bn (ce ?_)))⟩;refine iG (.bm hi) (aV [_,_] af dT ak af ak dD al g (eL b))<|iw<|dJ<|dr (mV 4 R) ⟨a1.OY l,aI (aw (mV 0 R) R (aI (aw (mV 2 R) R (aI (aw (mV 1 R) R (bn (ce ?_)))))))⟩;refine WK.NW (Bp l q G (.bm hi) (aV [_,_] af dT ak af ak dT al g (eL b)) (λj=>qc j) (kE ?_));refine U b<|h
noncomputable def o3(a:fO)(cl:List (O×M))(b c doc d:Z):I5:=
 {name:="<lambda>",qualname:=a.P4,params:=a.l,body:=.expr a.h,scope:=a.aM,globals:=C1,closure:=cl,defaults:=.none,kwdefaults:=.none,doc:=doc,pyModule:=d,annotations:=B2,code:=b,closureTuple:=c,builtins:=Dy}
theorem PH.Sn{b9:Type}{cE:fb b9 aO}{t:FB aO}{Q:b9->V->Prop}{names:List O}(r:aA c g σ s)(i:bd c names L g σ s)
  (h:B9 c.NU A t (PH cE c g σ s (λb σ'=>Q b (σ'.N1 σ))) (lY c g σ s (λx σ'=>X x (σ'.N1 σ))) s):B9 c.NU A t (bZ cE ⟨c,names,L⟩ g σ s Q) (PX ⟨c,names,L⟩ g σ s X) s:=by
 refine CB h (λv s' d=>?_) λv s' d=>?_
 .obtain⟨b,am,σ',st,e,j,f⟩:=d;have a:aF c e6 g σ s am (σ'.N1 σ) s':=aF.ag st;exact⟨b,am,σ'.N1 σ,a.N8 λk h=>h.elim,aA.ag e,a.PV r i R,j,f⟩
 .obtain⟨x,am,σ',st,e,l,f⟩:=d;have a:aF c e6 g σ s am (σ'.N1 σ) s':=aF.ag st;exact⟨x,am,σ'.N1 σ,a.N8 λk h=>h.elim,aA.ag e,a.PV r i R,l,f⟩
theorem uD{f:fO}{cells:List (O×Nat)}(ae:M->Z->bB)
  (F:∀cl e j k l vs,vs.length=as.length->EA (o3 f cl e j k l) ⟨vs,[]⟩=CV (xs.zip vs))
  (G:∀a e,(ae a e).aM=f.aM/\(ae a e).fu=f.P4++".<locals>."/\(ae a e).gb=H a/\(ae a e).fk=e/\(ae a e).b0=fs σ.aa f.aM.names cells)
  (I:∀a e,(ae a e).Ok c (σ.Ob.b0 f.aM.names).aa)(K:∀a e,fD (ae a e) xs (σ.Ob.b0 f.aM.names) as σ₁)
  (h:∀L a e,WE (c.a5 L) d (ae a e) f.h σ₁ (λv w=>v.low w.aa=u/\Q v (w.N1 σ)) (λy y=>False))(N:f.aM.isCoroutine=BQ)(P:f.aM.isGenerator=BQ)
  {o:Ge}(n:dq c A (d+1))(r:aA c g σ s)(S:s.heap.get? a=H o)(T:f9 s.heap g.F g.a o f cells)(W:∀q∈cells,q.2<σ.aa)(hv:bA c s.heap g.F g.a σ.aa as vs):
  B9 c.NU A (Du (.ref a) vs []) (PH rV c g σ s Q) (lY c g σ s X) s:=by
 obtain⟨a9,e,j,k,l,ac,i,ah,ai,t,rfl,ba,an,ao,ap⟩:=T;refine GU (kla_callFunE (fd:=o3 f (dZ g.a cells) (.ref i) j k l) n.Oa S ac N P R ⟨i,ah,ai,t,R,an,ao,ap⟩ (U (F _ _ _ _ _ _ hv.length.symm) ?_));refine BW<|A5 (G a (.ref i)) λh1 h2 av ax ay=>?_
 refine(?_:B9 c.NU A.in1 (EC f.aM C1 (dZ g.a cells) (xs.zip vs) (f.P4++".<locals>.") (H a) (.ref i) B2 Dy) _ _ s);refine br h2 (br av (br h1 (lM (Fr:=0) n.Qb r W (U h1 ay) (U h1 (I a _)) (U h1 (K a _)) hv ax λL aB aE aJ aL z B C=>?_)));refine⟨z.P9,kla_codeExpr (CB (h L a (.ref i) (A.deeper _) aB aE L L (n.RI C.L R) (z.a5 B) B C) (λv D aO=>?_) λv D aR=>?_)⟩
 .obtain⟨b,E,p,aT,aW,bb,aX,bc,aY⟩:=aO;have aZ:aF c e6 g σ s E (p.N1 σ) D:=aF.ag (m:=p.ag) (((aL.N8 (T':=cy L) λy h=>h.elim).NT (aF.ag (aT.PY R))).QV aJ);exact⟨b,E,p.N1 σ,aZ,aA.ag (aA.PY aW),aX,aY⟩
 .obtain⟨x,am,σ',_,_,_,_,a4⟩:=aR;exact a4.elim
theorem qX{e:fO}{cells:List (O×Nat)}(ae:M->Z->bB)
  (j:∀cl b k l m vs,vs.length=as.length->EA (o3 e cl b k l m) ⟨vs,[]⟩=CV (xs.zip vs))
  (n:∀a b,(ae a b).aM=e.aM/\(ae a b).fu=e.P4++".<locals>."/\(ae a b).gb=H a/\(ae a b).fk=b/\(ae a b).b0=fs σ.aa e.aM.names cells)
  (o:∀a b,(ae a b).Ok c (σ.Ob.b0 e.aM.names).aa)(p:∀a b,fD (ae a b) xs (σ.Ob.b0 e.aM.names) as σ₁)
  (h:∀L a b,WE (c.a5 L) d (ae a b) e.h σ₁ (λv i=>v.low i.aa=u/\Q v (i.N1 σ)) (λq q=>False))(t:e.aM.isCoroutine=BQ)(w:e.aM.isGenerator=BQ):WK c (d+1) (.ed e cells) as [] [] σ Q X:=
 λA g s names L E vs kvs x r f y z B=>by
  obtain rfl:=B.OB;obtain⟨_,_,rfl,h1,h2,F,C,D⟩:=y.NV;exact PH.Sn r f (uD ae j n o p h t w x r h2 C D z)
theorem r9{x y:Int}{d f:Z}(l:List Z)(ao:Lb l)(h:GN pos (l++[Ey x,Ey y,d])=H f):GN pos l=H f\/f=d:=by
 have e:∀a t b bb z r,GN pos (.int a t::.int b bb::z::r)=if(a==(pos.line:Int)&&b==(pos.col:Int))=u then H z else GN pos r:=λc c c c c c=>R
 fun_induction Lb l with
 |case1=>
  have h:=(e x 0 y 0 d []).symm.trans h
  by_cases aL:(x==(pos.line:Int)&&y==(pos.col:Int))=u
  .replace h:=(if_pos aL).symm.trans h;exact .inr (CO h).symm
  .replace h:=(if_neg aL).symm.trans h;exact uc h
 |case2 a t b bb z c6 g=>
  have h:=(e a t b bb z (c6++[Ey x,Ey y,d])).symm.trans h;refine U (e ..) ?_
  by_cases aL:(a==(pos.line:Int)&&b==(pos.col:Int))=u
  .rw[if_pos aL]at h⊢;exact .inl h
  .rw[if_neg aL]at h⊢;exact g ao h
 |case3 l h1 h2=>exact ao.elim
noncomputable def Gh.Pg(g:Gh)(a b:M):Gh:=⟨g.a,λx=>g.F x\/x=a\/x=b⟩
section
variable{c:Cx}{g:Gh}{σ:V}{s s':BN}{names:List O}{L P a b:M}
theorem aA.P8(r:aA c g σ s)(k:∀x o,x≠P->s.heap.get? x=H o->s'.heap.get? x=H o)(n:s.heap.objs.size<=s'.heap.objs.size)(y:s'.gens=s.gens)(z:s'.os=s.os)(j:c.N9 P)(an:s.heap.objs.size<=a/\a<s'.heap.objs.size)(ac:s.heap.objs.size<=b/\b<s'.heap.objs.size)
  (ao:∀p∈c.k,p.2.1=P->ju s'.heap (g.Pg a b).F p.2.1 p.2.2):aA c (g.Pg a b) σ s'/\dc s.heap s'.heap g.F (g.Pg a b).F:=by
 have A:∃l,s.heap.get? P=H (JE l):=by
  obtain⟨p,ai,rfl⟩:=j;obtain⟨l,h1,_⟩:=r.k p ai;exact⟨l,h1⟩
 obtain⟨l,B⟩:=A
 have K:dc s.heap s'.heap g.F (g.Pg a b).F:=⟨λx o e t=>k x o (λq=>by
   rw[q,B]at e;cases e;have:=t.1;cases this) e,λx o f e=>k x o (λq=>(r.aK x f).2 (q▸j)) e,λv f=>.inl f⟩
 have C:=r.t P j;refine⟨⟨λx o e d=>k x o (λq=>d (q▸j)) (r.q x o e d),BG r.bX n,r.t,λp ai=>?_,λi o hi=>⟨(r.N5 i o hi).1,(r.N5 i o hi).2.1,λh=>?_⟩,λi o hi=>(r.bh i o hi).be K (λv v=>R) (BJ _) λD e=>k _ _ (λq=>r.RR (q▸j) ⟨i,o,hi,R⟩) e,r.A,λx d=>?_,U y r.Ob,z.trans r.C,r.cJ,λx d=>?_⟩,K⟩
 .by_cases w:p.2.1=P
  .exact ao p ai w
  .obtain⟨E,h1,_⟩:=r.k p ai;exact(r.k p ai).be K ((k _ _ w h1).trans h1.symm)
 .rcases h with h|h|h
  .exact(r.N5 i o hi).2.2 h
  .exact absurd (r.OO ⟨i,o,hi,R⟩) (U (show g.a i=a from h) (BP.mpr an.1))
  .exact absurd (r.OO ⟨i,o,hi,R⟩) (U (show g.a i=b from h) (BP.mpr ac.1))
 .rcases d with d|rfl|rfl
  .exact⟨BL (r.aK x d).1 n,(r.aK x d).2⟩
  .exact⟨an.2,λm=>absurd (r.t _ m) (BP.mpr (BG r.bX an.1))⟩
  .exact⟨ac.2,λm=>absurd (r.t _ m) (BP.mpr (BG r.bX ac.1))⟩
 .obtain⟨aT,aX,bc,o,cG,dG⟩:=r.bE x d;refine⟨aT,aX,λh=>?_,o,k _ _ (λq=>absurd C (BP.mpr (q▸aT))) cG,dG⟩;rcases h with h|rfl|rfl
  .exact bc h
  .exact absurd (Ca cG) (BP.mpr an.1)
  .exact absurd (Ca cG) (BP.mpr ac.1)
theorem aF.P8(r:aA c g σ s)(k:∀x o,x≠P->s.heap.get? x=H o->s'.heap.get? x=H o)(l:s.heap.objs.size<=s'.heap.objs.size)(m:s'.gens=s.gens)(i:c.N9 P)(an:s.heap.objs.size<=a)(ac:s.heap.objs.size<=b)(K:dc s.heap s'.heap g.F (g.Pg a b).F):aF c T g σ s (g.Pg a b) σ s':=
 ⟨λx o e d d f d=>k x o (λq=>f (q▸i)) e,λx o f d e=>⟨o.slots,k x o (λq=>absurd (r.t P i) (BP.mpr (q▸(r.bE x f).low))) e⟩,K,l,λd d=>R,BJ _,λd h=>.inl h,λx f=>by
  rcases f with h|rfl|rfl
  .exact .inl h
  .exact .inr (.inl an)
  .exact .inr (.inl ac),λj y h=>U m h⟩
theorem bd.P8(r:aA c g σ s)(f:bd c names L g σ s)(k:∀x o,x≠P->s.heap.get? x=H o->s'.heap.get? x=H o)(i:c.N9 P)(an:s.heap.objs.size<=a)(ac:s.heap.objs.size<=b)(K:dc s.heap s'.heap g.F (g.Pg a b).F):bd c names L (g.Pg a b) σ s':=by
 obtain⟨bv,o,h1,h2,l,m⟩:=f.ns;have d:L≠P:=λq=>absurd (r.t P i) (BP.mpr (q▸f.low));refine⟨f.low,f.bm,λh=>?_,bv,o,k _ _ d h1,h2,l.at λo e=>k _ _ d e,λj v hv=>by obtain⟨x,n,p,q,e⟩:=m j v hv;exact⟨x,n,p,q,e.be K (λt t=>R) (BJ _)⟩⟩;rcases h with h|h|h
 .exact f.aK h
 .exact absurd (Ca h1) (U h (BP.mpr an))
 .exact absurd (Ca h1) (U h (BP.mpr ac))
end
variable{q:O}
theorem nT(r:aA c g σ s){cc P:M}(h:(cc,P,q)∈c.k):CodeHd s.heap cc P:=by
 obtain⟨⟨o,vs,a,b,d,f,i,j,k,e,c6⟩,l⟩:=r.cJ.RW _ h;exact⟨o,vs,a,b,d,f,i,j,k,r.q _ _ e l,c6⟩
theorem tg(r:aA c g σ s):∃dW,s.heap.Ns C1 dW/\∀P,c.N9 P->s.heap.BuiltinsAt dW P:=by
 obtain⟨dW,h1,h2⟩:=r.cJ.Ow;refine⟨dW,ui r h1 r.cJ.gT,λP f=>?_⟩;obtain⟨d,o,a⟩:=h2 P f;refine A6 a λe h i j k l=>?_;clear a;refine⟨d,o,e,h,i,j,r.q _ _ k (λm=>?_),l⟩;obtain⟨p,q,a⟩:=h2 d m;refine A5 a λb t v n w=>?_;clear a;replace b:=e.symm.trans b;cases b;exact n R
variable{cl:List (O×Nat)}
theorem pK{bx:CQ}{cc P:M}(v:(cc,P,q)∈c.k)(aL:∀p∈c.k,p.2.1=P->p.2.2=q)(W:ae.fk=.ref cc)
  (aO:ae.fu++"<lambda>"=q)(I:gR ae.b0 aY.names []=H cl)(aR:∀env,M2 cK env=([],[]))(h:Q (.ed ⟨q,cK,bx,aY⟩ cl) σ):WE c d ae (.Lambda cK bx aY pos) σ Q X:=λA g s L Fr bC r f aT=>by
 refine kla_eval (aR _) ?_;refine U aO ?_;obtain⟨dW,ah,ac⟩:=tg r;have j:c.N9 P:=⟨_,v,R⟩;obtain⟨w,am,x,an⟩:=r.k _ v;have ao:=m9 aT.b0 aY.names [] cl I (λbD h=>nomatch h)
 cases N:GN pos w.toList with
 |some S=>
  obtain⟨a,l,y,t,rfl,aW,T,z,B⟩:=an pos S N;refine Kv (me I) R ah W (nT r v) am x N (ac P j) λm ay tk k C=>?_
  let o:Ge:={cls:=.type "function",data:=.func (kla_fn "<lambda>" q cK bx aY (dZ g.a cl) ((dW "__name__").getD .none) (.ref a) m)}
  let s':BN:={s with heap:=ay.push o,toks:=tk}
  have i:∀b o,s.heap.get? b=H o->s'.heap.get? b=H o:=λb o e=>cN _ _ _ _ (k b o e);have n:s.heap.objs.size<=s'.heap.objs.size:=BG C (cR _ _);have D:ay.objs.size<s'.heap.objs.size:=(dk (CH ..) (B3 _):ay.objs.size<(ay.push o).objs.size)
  exact⟨_,g.aK ay.objs.size,σ,aF.OA i n R C,r.OA i n R R C D,f.OA i C,.ed (.inr R) (B6 _ R) R ⟨R,.ref a,m,_,_,R,a,l,y,t,R,.inl aW,i _ _ T,z,B⟩ ao,h⟩
 |none=>
  refine Lf (me I) R ah W (nT r v) am x N (λe=>r.cJ.gT (e▸j)) (ac P j) λa m ay tk aX E ap aZ a4=>?_
  let o:Ge:=kla_obj "<lambda>" q cK bx aY (dZ g.a cl) ((dW "__name__").getD .none) a m
  let s':BN:={s with heap:=ay.push o,toks:=tk}
  have F:=Cz (CP E ap);have i:∀b o,b≠P->s.heap.get? b=H o->s'.heap.get? b=H o:=λb o a9 e=>cN _ _ _ _ (aX b o a9 e);have n:s.heap.objs.size<=s'.heap.objs.size:=BG F (cR _ _);have D:ay.objs.size<s'.heap.objs.size:=(dk (CH ..) (B3 _):ay.objs.size<(ay.push o).objs.size);obtain⟨bH,l,y,t,av⟩:=aZ;refine A4 av λba T z B=>?_;clear av;cases ba;have ax:s'.heap.get? a=H l:=cN _ _ _ _ T;have bb:s'.heap.get? P=H (JE (w++#[Ey pos.line,Ey pos.col,.ref a])):=cN _ _ _ _ a4;have aB:(w++#[Ey pos.line,Ey pos.col,.ref a]).toList=w.toList++[Ey pos.line,Ey pos.col,.ref a]:=by simp
  have bc:∀p∈c.k,p.2.1=P->ju s'.heap (g.Pg a ay.objs.size).F p.2.1 p.2.2:=λp ai aE=>by
   refine U aE (U (aL p ai aE) (⟨_,bb,U aB (Mf _ _ _ _ x),λpos' S G=>?_⟩));rw[aB]at G;rcases r9 _ x G with G|rfl
   .obtain⟨c7,bf,bg,bi,bj,aJ,bk,bl,bu⟩:=an pos' S G;exact⟨c7,bf,bg,bi,bj,.inl aJ,i _ _ (λe=>(r.aK c7 aJ).2 (e▸j)) bk,bl,bu⟩
   .exact⟨a,l,y,t,R,.inr (.inl R),ax,z,B⟩
  have bv:=GE ap D;obtain⟨bz,K⟩:=r.P8 i n R R j ⟨E,bv⟩ ⟨F,D⟩ bc;exact⟨_,_,σ,aF.P8 r i n R j E F K,bz,f.P8 r i j E F K,.ed (.inr (.inr R)) (B6 _ R) R ⟨R,.ref a,m,_,_,R,a,l,y,t,R,.inr (.inl R),ax,z,B⟩ ao,h⟩
inductive qM(ae:bB)(xs:List O)(Q:bY->V->Prop)(a:Y)(σ:V):Prop
 |mk:∀as σ',dK a as->fD ae xs σ as σ'->Q .aa σ'->qM ae xs Q a σ
noncomputable def qR(bQ:Ef):E6:={scope:=bQ,locals:=0,globals:=0,cells:=[]}
theorem vm(bf:List CQ)(v:CQ)(env:E6):Jo bf v env=Jo bf v (qR env.scope):=by cases env;rfl
variable{d0:CQ}
theorem jL{eH:List CQ}{b:FH}{Q:bY->V->Prop}(j:eH.map JG=xs.map H)(h:WE c d ae d0 σ (qM ae xs Q) X)
  (l:(λenv=>swapsWithSole [.Tuple eH k b] d0 pos.line env)=(λe=>CV BQ):=by rfl)(m:Jo [.Tuple eH k b] d0 (qR ae.aM)=CV B2:=by kernel_rfl):eK c d ae (.Assign [.Tuple eH k b] d0 pos) σ Q X:=
 λA g s L Fr i r f n=>Assign_Tuple (WT.NZ h i r f n R (λa bg σ₁ ax bl o p q t v w x=>by
  obtain⟨as,z,B,C,D⟩:=x;exact qn j B C i p q t w v λs' E F G=>⟨.aa,bg,z,o.NT E,F,G,.aa,D⟩) λe e y=>y) (congrFun l _) ((vm _ _ _).trans m)
theorem uU{o d0:CQ}{p:O}{E:FH}{op:Operator}{Q:bY->V->Prop}
  (h:WE c d ae o σ (λq σ₁=>e2 rV c d (λv=>Hn v p u) q σ₁ (λF t=>WE c d ae d0 t (λv w=>co rV c d (Iv op) F v w (λG x=>∃k,im c d p q G x k/\Q .aa k) X) X) X) X):eK c d ae (.AugAssign (.Attribute o p E) op d0 pos) σ Q X:=
 λA g s L Fr j r f I=>wpAny_AugAssign_AttributeAny (WT.NZ h j r f I R (λa bg σ₁ ax bl l K N z P B S=>e2.NZ S j K N B (λb aW t aX aY i T W ac ah=>
  WT.NZ ah j T W (z.be i.aa) ((z.Pi i.r _ _).trans P) (λv aZ w a4 a9 m ai am ba bb rv an=>co.NZ an j ai am (m.Ou ac) rv (λn C x ao ap D av ay aB aE=>by
   obtain⟨k,aJ,aL⟩:=aE;exact aJ A C ao ae.aG L bl ap j av ay (((i.NT m).NT D).Ou B) aB _ _ λs' aO aR aT=>⟨.aa,C,k,(((l.NT i).NT m).NT D).NT aO,aR,aT,.aa,aL⟩)
   λe e y=>PX.NT ((l.NT i).NT m) y) λe e y=>PX.NT (l.NT i) y) λe e y=>PX.NT l y) λe e y=>y)
theorem vH{a:Y}(an:dF σ a ds)(h:Q (.bT (.type "list")) σ):WK c d (.bT (.type "type")) [a] [] [] σ Q X:=WK.Pn λA g s names L b e r f a2=>by
 obtain⟨l,vs,as,_,rfl,h1,_⟩:=an.NV r a2;exact My h1.typeIs (by decide) (bZ.Oi r f .bT h)
theorem w9(h:Q (.bT (.type "str")) σ):WK c d (.bT (.type "type")) [.ab (.str x)] [] [] σ Q X:=WK.Pn λA g s names L a b r f a2=>by
 obtain⟨⟨t,rfl⟩,_⟩:=a2.On;exact My (HH s x t) (by decide) (bZ.Oi r f .bT h)
theorem wa{a:String}(h:Q (.ab (.bool u)) σ):co rV c d (CC .Is) (.bT (.type a)) (.bT (.type a)) σ Q X:=λA g s names L bl i j r f b e=>by
 obtain rfl:=b.NV;obtain rfl:=e.NV;refine BM (BW (BW (U (show(Value.type a==Value.type a)=u from beq_self_eq_true _) ?_)));exact bZ.Oi r f (.Oz _) h
theorem wT{a:String}(h:Q (.ab (.bool BQ)) σ):co rV c d (CC .IsNot) (.bT (.type a)) (.bT (.type a)) σ Q X:=λA g s names L bl i j r f b e=>by
 obtain rfl:=b.NV;obtain rfl:=e.NV;refine BM (BW (BW (U (show(Value.type a==Value.type a)=u from beq_self_eq_true _) ?_)));exact bZ.Oi r f (.Oz _) h
set_option maxRecDepth 4000
section
variable{c:Cx}{A:DX}{E:Z->BN->Prop}{h:CG}{g:Array E7}{ij:Drawn}{t:Nat}{ew:KW}{C N:M}{bC:O->Option Z}
noncomputable def jG(h:CG)(C:M):CG:=(h.push {cls:=.type "dict",data:=.dict #[]}).push {cls:=.ref C,dict:=H h.objs.size,data:=.plain}
theorem vT(F:Kj "object.__new__")(X:L0 h C N bC){c6:List Z}{d:M}{f:Ge}{Q:Lp->BN->Prop}(hi:bC "__init__"=H (.ref d))(j:h.get? d=H f)(k:f.cls=.type "function")
  (l:B9 c.NU A (Du (.ref d) (.ref (h.objs.size+1)::c6)) (λr s'=>r=.none/\Q (.done (.ret (.ref (h.objs.size+1)))) s') E ⟨jG h C,g,ij,t,ew⟩):
  B9 c.NU A (Builtin.«type.__call__» ⟨.ref C::c6,[]⟩) Q E ⟨h,g,ij,t,ew⟩:=by
 obtain⟨nm,q,bs,sn,sub,col,dd,k0,k1,k2,k3,k5,a⟩:=jM.Qa X;have i:=X.ns;have m:mroOf (.type "object")=CV [.type "object"]:=by kernel_rfl
 have n:CD (.type "object") "__init__"=CV (H (.builtin "object.__init__")):=by refine BK (Cw ..) (U Cf ?_);kernel_rfl
 repeat (first|with_reducible refine Er a ?_|with_reducible refine wpAny_madeBy_exc a ?_|wp_step)
 refine codeAny_call_builtin_code (JC _ F.quiet) (wpAny_check_obj_new F a (codeAny_obj_new F a i hi ?_));refine(?_:B9 _ _ _ _ _ (⟨jG h C,g,ij,t,ew⟩:BN));have up:∀{b:M}{o:Ge},h.get? b=H o->(jG h C).get? b=H o:=λe=>Cp _ (Cp _ e)
 have p:(jG h C).get? (h.objs.size+1)=H {cls:=.ref C,dict:=H h.objs.size,data:=.plain}:=by
  have:=B6 (h.push {cls:=.type "dict",data:=.dict #[]}) (o:={cls:=.ref C,dict:=H h.objs.size,data:=.plain}) R;rw[CH]at this;exact this
 have s:(JU C::[Value.type "object"]).contains (.ref C)=u:=by simp
 unfold KL
 repeat (first|with_reducible refine Er p ?_|(with_reducible refine wpAny_isSubtype_exc (up a) ?_;rewrite [s])|wp_step)
 refine EX (up a) (by obtain⟨o,bS,v,e,r⟩:=i;exact⟨o,bS,v,up e,r⟩) m n ?_;refine U hi<|wpAny_holding (BM ?_);unfold bindSpecial;refine BM (wpAny_typeOf ⟨_,up j,k⟩ (U (if_pos (by decide)) ?_));refine BW (BM (CB l (λr s' w=>?_) λy y x=>x));obtain⟨rfl,z⟩:=w
 wp_walk
 exact z
theorem vp(F:Kj "object.__new__")(X:L0 h C N bC){c6:List Z}{a:M}{d:Ge}{Q:Z->BN->Prop}(hi:bC "__init__"=H (.ref a))(e:h.get? a=H d)(f:d.cls=.type "function")
  (i:B9 c.NU (A.under (.builtin "type.__call__" ⟨.ref C::c6,[]⟩)) (Du (.ref a) (.ref (h.objs.size+1)::c6)) (λr s'=>r=.none/\Q (.ref (h.objs.size+1)) s') E ⟨jG h C,g,ij,t,ew⟩):
  B9 c.NU A (Du (.ref C) c6) Q E ⟨h,g,ij,t,ew⟩:=by
 obtain⟨nm,q,bs,sn,sub,col,dd,k0,k1,k2,k3,k5,b⟩:=jM.Qa X;have bU:=tc_lookup;have eo:=tc_bind (.ref C);have j:(⟨h,g,ij,t,ew⟩:BN).TypeIs (.ref C) "type":=⟨_,b,R⟩;refine GU (codeAny_of_tree ?_);refine(?_:B9 _ _ (callAny (.ref C) _) _ _ _)
 repeat (any_goals (first|assumption|with_reducible refine Er b ?_|wp_step))
 exact⟨R,codeAny_call_builtin_at (JC _ (by decide+kernel)) entry_typeCall (wpAny_check_type_call_sub b (vT F X hi e f i))⟩
end
variable{N C:M}{bC:O->Option Z}
theorem p1(F:Kj "object.__new__")(aL:gG c C N bC){n:M}{K:Ge}(hi:bC "__init__"=H (.ref n))(ae:¬c.N9 n)(ah:c.i.get? n=H K)(an:K.cls=.type "function")(names:List O)(ao:names.Nodup)
  (h:WH rV c d (fW n (as.length+1) []) (.bh C σ.aa::as) (σ.N0 (.ns names [])) (λv σ'=>v=.ab .none/\σ.aa<σ'.aa/\Q (.bh C σ.aa) (σ'.N1 σ)) (λx σ'=>X x (σ'.N1 σ))):WK c (d+1) (.bT (.ref C)) as [] [] σ Q X:=λA g s bf L bg vs kvs q r f ap P av=>by
 obtain rfl:=ap.NV;obtain rfl:=av.OB;obtain⟨ai,t,ij,tk,ew⟩:=s;have ax:=aL.QA r;refine vp F ax hi (r.q _ _ ah ae) an ?_
 let s':BN:=⟨jG ai C,t,ij,tk,ew⟩
 let j:=σ.aa
 let l:=ai.objs.size
 let x:=ai.objs.size+1
 have k1:∀b o,ai.get? b=H o->s'.heap.get? b=H o:=λb o e=>Cp _ (Cp _ e);have S:s'.heap.objs.size=ai.objs.size+2:=by refine(?_:(jG ai C).objs.size=_);unfold jG;exact BK (CH ..) (U (CH ..) R)
 have T:s'.heap.get? l=H {cls:=.type "dict",data:=.dict #[]}:=Cp _ (B6 _ R)
 have ay:s'.heap.get? x=H {cls:=.ref C,dict:=H l,data:=.plain}:=by
  have:=B6 (ai.push {cls:=.type "dict",data:=.dict #[]}) (o:={cls:=.ref C,dict:=H ai.objs.size,data:=.plain}) R;rw[CH]at this;exact this
 have z:ai.objs.size<=s'.heap.objs.size:=dH S (B4 ..);have aB:aA c ⟨cu g.a j l,g.F⟩ (σ.N0 (.ns names [])) s':=r.N0 k1 z R R (BJ _) ⟨ao,_,λi=>B2,T,⟨R,R⟩,G5 ⟨_,#[],_,T,R,λe aE=>absurd aE (by simp),λi=>R⟩,(λy v aJ=>nomatch aJ),(λk v aO=>nomatch aO),λi i i i=>R⟩;have aR:aF c e6 g σ ⟨ai,t,ij,tk,ew⟩ ⟨cu g.a j l,g.F⟩ (σ.N0 (.ns names [])) s':=aF.N0 r k1 z R (BJ _);have aT:¬b3 ⟨cu g.a j l,g.F⟩ (σ.N0 (.ns names [])) x:=λh=>(jI r h).elim (λh=>absurd (r.OO h) (BP.mpr (Cr _))) λe=>absurd e (Kp _);have aW:x<s'.heap.objs.size:=dk S (B3 _);have B:ai.objs.size<=x:=Cr _;have aX:=aB.PK aT aW (λh=>absurd (r.t x h) (BP.mpr (BG r.bX B))) (r.Ru B);have D:=aR.PK B;have W:a8 c s'.heap (Gh.aK ⟨cu g.a j l,g.F⟩ x).F (cu g.a j l) (σ.aa+1) (.bh C j) (.ref x):=.bh (.inr R) ay R (U (fc ..) R) (λbi e=>by cases e) (B3 _)
 have aY:dq c (A.under (.builtin "type.__call__" ⟨.ref C::vs,[]⟩)) d:=⟨q.G,q.QR,by have:=q.Ri;refine(?_:A.depth+1+4*d<900);exact a0 [_,_] (aq (aq ak (fz 4 b1)) a7) (nA 900) (aq (aq aC (fz 4 af)) a7) (nA 900) al this,by
  have:=q.QZ;exact a0 [_,_] (aq (aq ak (fz 100 b1)) a7) (nA 9000) (aq (aq aC (fz 100 af)) a7) (nA 9000) al this⟩
 have ac:=h (A.under (.builtin "type.__call__" ⟨.ref C::vs,[]⟩)) (Gh.aK ⟨cu g.a j l,g.F⟩ x) s' (.ref x::vs) aY aX (.aU W (D.OH P))
 have e:fW n (as.length+1) [] (.ref x::vs)=Du (.ref n) (.ref x::vs):=by
  unfold fW;refine U P.length (U (D8 (a3 Cd (BJ _))) ?_)
  rfl
 rw[e]at ac;refine CB ac (λv E aZ=>?_) λv E a4=>?_
 .obtain⟨b,am,σ',w,G,a9,rfl,bj,I⟩:=aZ;refine⟨a9.Ql,?_⟩;have p:aF c e6 g σ ⟨ai,t,ij,tk,ew⟩ am (σ'.N1 σ) E:=aF.ag (m:=σ'.ag) (D.NT (aF.ag w));have ba:=w.Ou W;exact⟨.bh C σ.aa,am,σ'.N1 σ,p.N8 λi h=>h.elim,aA.ag G,p.PV r f R,ba,I⟩
 .obtain⟨bb,am,σ',w,G,bc,I⟩:=a4;have p:aF c e6 g σ ⟨ai,t,ij,tk,ew⟩ am (σ'.N1 σ) E:=aF.ag (m:=σ'.ag) (D.NT (aF.ag w));exact⟨bb,am,σ'.N1 σ,p.N8 λi h=>h.elim,aA.ag G,p.PV r f R,bc.to z λi i a b=>⟨a,b⟩,I⟩
theorem uv{f:Z}{b:List Z}{c2:List (Bool×FB Z)}{Q:Z->BN->Prop}(g:c2.any (·.1)=u)
  (h:B9 c.NU A (L6 f u c2 []) (λa ax=>(∃k,(k=IG\/k=HR\/k=G9)/\∀(Q:L4->BN->Prop)(E:Z->BN->Prop),Q k ax->B9 c.NU A (Gg f) Q E ax)/\B9 c.NU A (Du f (b++a.pos) a.kw) Q E ax) E s):
  B9 c.NU A (FP pos f b c2 []) Q E s:=by
 unfold FP;refine BM (C2 (CB h (λa ax i=>BM (C6 ?_)) λd d x=>x));obtain⟨⟨k,j,l⟩,aL⟩:=i;refine U (show(c2.any (·.1)||([]:List (Option O×FB Z)).any (·.1.isNone))=u from U g R)<|wpAny_bind (l _ _ ?_)
 have e:∀{t:FB Z},B9 c.NU A t Q E ax->B9 c.NU A (t>>=λr=>GT [r] point>>=λd=>CV r) Q E ax:=
  λao=>BM (CB ao (λr p m=>BM (C2 (MF (BW m)))) λd d x=>x)
 have n (o:Z):B9 c.NU A (I6 o f (b++a.pos) a.kw) Q E ax:=by unfold I6;exact Hz aL
 rcases j with rfl|rfl|rfl <;> dsimp only <;> first|exact e (n _)|exact e (L9 aL)
theorem zq{k e:CQ}{p:FH}(h:WE c d ae k σ (λm σ₁=>a1 c m/\WE c d ae e σ₁ (λa b=>∃xs,dK a xs/\xs.length<=1000/\WK c d m xs [] [] b Q X) X) X)
  (q:(λenv=>EJ (.Call k [.Starred e p] [] pos) env)=(λenv=>(do FP pos (←EJ k env) [] (GA pos (Ez [.Starred e p] env)) (EB pos (DI [] env)))):=by rfl):WE c d ae (.Call k [.Starred e p] [] pos) σ Q X:=λA g s L Fr v r f P=>by
 have q:=λenv=>congrFun q env;refine U (q ..)<|wpAny_bind (WT.NZ h v r f P R (λm bg σ₁ ax D w S T W ac ah x=>?_) λi i y=>y);obtain⟨ai,x⟩:=x;refine uv (by rfl) (ks_lone (WT.NZ x v S T W ac (λa j b z bl B am an aW aX ap av=>?_) λi i y=>PX.NT w y));obtain⟨xs,E⟩:=av;refine A3 E λaB aY aE=>?_;clear E;obtain⟨t,F,rfl,ao,hi⟩:=aB.NV ap;obtain⟨o,G,aL,n,aJ⟩:=id ao;have aO:z.TypeIs (.ref t) "tuple":=⟨o,G,aL⟩;have aR:F.size=xs.length:=bP hi.length Cq.symm;unfold StarOf notIterableAtAll;refine BM (Dr aO Ni.lookup (BW ⟨R,gh (wpAny_collect_seq t (.inr R) G aL aJ (λay C I=>?_) (a3 aR (hH (BG ‹_› (DD R)))))⟩))
 let s':BN:={z with heap:=ay}
 have K:aA c j b s':=am.Oc C I R R;have aT:bd c ae.aG L j b s':=an.Oc C;have l:aF c (cy L) j b z j b s':=(aF.N6 ..).Oc C I R;have N:=(B.NT l).Ou ah;refine⟨ai A j b s' D _ K N,CB (aE A j s' ae.aG L D F.toList [] v K aT N (l.OH hi) .a6) (λi i y=>bZ.NT ((w.NT B).NT l) y) λi i y=>PX.NT ((w.NT B).NT l) y⟩
namespace FF
theorem Up:mroOf (.type "function")=CV [.type "function",.type "object"]:=by kernel_rfl
theorem Ry:Fo "function" "__setattr__" "object.__setattr__":=
 .of (owner:="object") (n:="__setattr__") (by refine BK (Cw ..) (U Cf ?_);kernel_rfl) (by decide+kernel) (by decide+kernel) (by decide+kernel)
  (by first|exact .inl (by decide+kernel)|exact .inr (by decide+kernel)) (by refine BK (D5 ..) ?_;kernel_rfl)
theorem Rv:Fo "function" "__getattribute__" "object.__getattribute__":=
 .of (owner:="object") (n:="__getattribute__") (by refine BK (Cw ..) (U Cf ?_);kernel_rfl) (by decide+kernel) (by decide+kernel) (by decide+kernel)
  (by first|exact .inl (by decide+kernel)|exact .inr (by decide+kernel)) (by refine BK (D5 ..) ?_;kernel_rfl)
theorem TF(self:Z):refuseLoop self "__setattr__" [.type "function",.type "object"]=CV ():=by kernel_rfl
theorem TO(a b c:Z):FX "object.__setattr__" ⟨[a,b,c],[]⟩:=by unfold FX;kernel_rfl
theorem Tq(a b:Z):FX "object.__getattribute__" ⟨[a,b],[]⟩:=by unfold FX;kernel_rfl
theorem TN:(IX "object.__getattribute__"!="object.__getattribute__")=BQ:=by decide+kernel
theorem Ud:CD (.type "function") "__getattr__"=CV B2:=by refine BK (Cw ..) (U Cf ?_);kernel_rfl
theorem SK:CD (.type "function") "read"=CV B2:=by refine BK (Cw ..) (U Cf ?_);kernel_rfl
theorem Ul:Jw (.type "function") (.type "staticmethod")=CV BQ:=by refine BK (D5 ..) ?_;kernel_rfl
theorem TE:Jw (.type "function") (.type "classmethod")=CV BQ:=by refine BK (D5 ..) ?_;kernel_rfl
end FF
section
variable{prog:Fa}{w:HX}{A:DX}{E:Z->BN->Prop}{h:CG}{g:Array E7}{d:Drawn}{t:Nat}{ew:KW}{x:M}{o:Ge}
theorem vC{D:M}{b:O->Option Z}{bj:O}{e:FB Bool}{Q:Z×List Z->BN->Prop}{fd:I5}{f:Array (Option Z)}(c:h.get? x=H ⟨.type "function",H D,.func fd,f⟩)(k:h.Ns D b)(i:CD (.type "function") bj=CV B2)(hv:b bj=H v)
  (l:K9 v=CV v)(m:Q (v,[]) ⟨h,g,d,t+1,ew⟩):B9 (DA prog w) A (Jx (.ref x) bj e) Q E ⟨h,g,d,t,ew⟩:=by
 have a:(⟨h,g,d,t,ew⟩:BN).TypeIs (.ref x) "function":=⟨_,c,R⟩;have j:(⟨h,g,d,t+1,ew⟩:BN).TypeIs (.ref x) "function":=⟨_,c,R⟩;have bU:=FF.Rv.lookup;have eo:=FF.Ud;have n:=FF.Rv.bind (.ref x);unfold Jx;refine BM (Dr a bU ?_);refine(?_:B9 _ A (if(IX "object.__getattribute__"!="object.__getattribute__")=u then _ else _) Q E _);refine U FF.TN (U (if_neg (by decide)) (BM (Dr a eo ?_)));refine BM (Dr a i ?_)
 repeat (any_goals (first|with_reducible assumption|wp_step))
 refine Hk FF.Rv.plain F.entry_object_getattribute (FF.Rv.check _ _ _ _ _ _ _ _ j (FF.Tq _ _) ?_);have o:=FF.Ul;have p:=FF.TE
 repeat (any_goals (first|with_reducible assumption|with_reducible apply MB|with_reducible apply G8|wp_step))
theorem xF{ck:F0}{D:M}{bj:O}{tk:Jg}{Q:Lp->BN->Prop}(b:h.get? D=H {cls:=.type "dict",data:=.dict #[]})
  (i:∀ay j,(∃a,ay.get? D=H a/\a.cls=.type "dict"/\a.dict=B2)->ay.Ns1 D (λy=>if y=bj then H v else B2)->Ew D h ay->Q (.done (.ret .none)) ⟨ay,g,d,j,ew⟩):
  B9 ck A (Gu D (.str bj tk) bj v) Q E ⟨h,g,d,t,ew⟩:=by
 have k:h.Ns D (λl=>B2):=⟨_,#[],_,b,R,λe m=>absurd m (by simp),λl=>R⟩;unfold Gu Kd;refine BM (BW (BM (FY (G5 k) λay c n o=>?_)));obtain⟨B,C,F,f⟩:=c.count (Within.cons bj v Within.nil);refine A3 f λp q r=>?_;clear f;refine BM (wpAny_lookBehind p (U q (pastItsLine_dict (BG r (by refine a3 Cd (U HQ (U MK ?_));decide)))) ?_)
 wp_walk
 exact i ay _ (by obtain⟨s,w,x,z⟩:=o _ b;exact⟨s,w,x,z⟩) c n
theorem xl{bj:O}{Q:Unit->BN->Prop}{fd:I5}{j:Array (Option Z)}(a:h.get? x=H ⟨.type "function",B2,.func fd,j⟩)(z:CD (.type "function") bj=CV B2)
  (n:∀ay f,ay.get? x=H ⟨.type "function",H h.objs.size,.func fd,j⟩->(∃c,ay.get? h.objs.size=H c/\c.cls=.type "dict"/\c.dict=B2)->ay.Ns1 h.objs.size (λy=>if y=bj then H v else B2)->
   (∀b i,b≠x->h.get? b=H i->ay.get? b=H i)->h.objs.size<ay.objs.size->Q () ⟨ay,g,d,f,ew⟩):B9 (DA prog w) A (JF (.ref x) bj v) Q E ⟨h,g,d,t,ew⟩:=by
 have B:(⟨h,g,d,t,ew⟩:BN).TypeIs (.ref x) "function":=⟨_,a,R⟩;have o:(⟨h,g,d,t+1,ew⟩:BN).TypeIs (.ref x) "function":=⟨_,a,R⟩;have bU:=FF.Ry.lookup;have C:=FF.Ry.bind (.ref x);have fo:=FF.Up;have p:=FF.TF (.ref x);unfold JF Mz
 repeat (any_goals (first|with_reducible assumption|wp_step))
 refine Hk FF.Ry.plain F.entry_object_sa (FF.Ry.check _ _ _ _ _ _ _ _ o (FF.TO _ _ _) ?_);unfold Builtin.«object.__setattr__»;have k:x≠h.objs.size:=BZ (Ca a)
 repeat (first|rewrite [refuse_eq]|(rewrite [p])|with_reducible assumption|with_reducible apply G8|with_reducible apply xF|wp_step)
 .exact(Dj _ _ _ _ k.symm).trans (Heap.get?_push_at R R)
 .intro ay f l q m;have r:(h.push {cls:=.type "dict",data:=.dict #[]}).get? x=H _:=Cp _ a;have D:=(Heap.get?_some_iff.mp a).2;refine BW (BW (n ay f ((m.2 x k).trans (DU _ r R)) l q (λb i s ac=>(m.2 b (BZ (Ca ac))).trans ((Dj _ _ _ _ s).trans (Cp _ ac))) ?_));obtain⟨c,e,_⟩:=l;exact Ca e
end
theorem zE{bx:CQ}{cc P:M}(y:(cc,P,q)∈c.k)(a9:∀p∈c.k,p.2.1=P->p.2.2=q)(aJ:ae.fk=.ref cc)
  (v:ae.fu++"<lambda>"=q)(ah:gR ae.b0 aY.names []=H cl)(ba:∀env,M2 cK env=([],[]))(h:Q (.aP σ.aa) (σ.N0 (.fH ⟨q,cK,bx,aY⟩ cl B2))):WE c d ae (.Lambda cK bx aY pos) σ Q X:=λA g s L Fr bS r f bb=>by
 refine kla_eval (ba _) ?_;refine U v ?_;obtain⟨dW,aL,ac⟩:=tg r;have m:c.N9 P:=⟨_,y,R⟩;obtain⟨am,aO,z,aR⟩:=r.k _ y;have B:=m9 bb.b0 aY.names [] cl ah (λbU h=>nomatch h)
 cases an:GN pos am.toList with
 |some ao=>
  obtain⟨a,C,D,t,rfl,bc,E,G,I⟩:=aR pos ao an;refine Kv (me ah) R aL aJ (nT r y) aO z an (ac P m) λw ay tk k N=>?_
  let o:Ge:={cls:=.type "function",data:=.func (kla_fn "<lambda>" q cK bx aY (dZ g.a cl) ((dW "__name__").getD .none) (.ref a) w)}
  let s':BN:={s with heap:=ay.push o,toks:=tk}
  have l:∀b o,s.heap.get? b=H o->s'.heap.get? b=H o:=λb o e=>cN _ _ _ _ (k b o e);have x:s.heap.objs.size<=s'.heap.objs.size:=BG N (cR _ _)
  refine⟨_,⟨cu g.a σ.aa ay.objs.size,g.F⟩,_,aF.N0 r l x R N,r.N0 (s':=s') l x R R N ?_,f.N0 r l N,by
   have:=a8.aP (c:=c.toBx) (h:=s'.heap) (F:=g.F) (ρ:=cu g.a σ.aa ay.objs.size) (i:=σ.aa) (B3 _);rw[fc]at this;exact this,h⟩
  have ap:f9 s'.heap g.F g.a o ⟨q,cK,bx,aY⟩ cl:=⟨R,.ref a,w,_,_,R,a,C,D,t,R,bc,l _ _ E,G,I⟩
  exact⟨o,B6 _ R,ap.be (dc.N6 _ _) (λi hi=>eu _ _ _ i hi) B,λq v=>C3 (B q v),R,λj av=>nomatch av⟩
 |none=>
  refine Lf (me ah) R aL aJ (nT r y) aO z an (λe=>r.cJ.gT (e▸m)) (ac P m) λa w ay tk S n aB bf bg=>?_
  let o:Ge:=kla_obj "<lambda>" q cK bx aY (dZ g.a cl) ((dW "__name__").getD .none) a w
  let ax:BN:={s with heap:=ay,toks:=tk}
  let s':BN:={s with heap:=ay.push o,toks:=tk}
  have aT:=Cz (CP n aB);obtain⟨b6,C,D,t,aW⟩:=bf;refine A4 aW λbi E G I=>?_;clear aW;cases bi;have aX:(am++#[Ey pos.line,Ey pos.col,.ref a]).toList=am.toList++[Ey pos.line,Ey pos.col,.ref a]:=by simp
  have bj:∀p∈c.k,p.2.1=P->ju ax.heap (g.Pg a a).F p.2.1 p.2.2:=λp ai aZ=>by
   refine U aZ (U (a9 p ai aZ) (⟨_,bg,U aX (Mf _ _ _ _ z),λpos' ao W=>?_⟩));rw[aX]at W;rcases r9 _ z W with W|rfl
   .obtain⟨c7,bk,bl,bu,bv,a4,bz,bC,bD⟩:=aR pos' ao W;exact⟨c7,bk,bl,bu,bv,.inl a4,S _ _ (λe=>(r.aK c7 a4).2 (e▸m)) bz,bC,bD⟩
   .exact⟨a,C,D,t,R,.inr (.inl R),E,G,I⟩
  obtain⟨aE,K⟩:=r.P8 (s':=ax) S aT R R m ⟨n,aB⟩ ⟨n,aB⟩ bj;have bH:=f.P8 r (s':=ax) S m n n K;have bQ:=aF.P8 (T:=cy L) r (s':=ax) S aT R m n n K;have l:∀b o,ax.heap.get? b=H o->s'.heap.get? b=H o:=λb o e=>cN _ _ _ _ e;have x:ax.heap.objs.size<=s'.heap.objs.size:=cR _ _
  refine⟨_,⟨cu g.a σ.aa ay.objs.size,(g.Pg a a).F⟩,_,bQ.NT (aF.N0 aE l x R (BJ _)),aE.N0 (s':=s') l x R R (BJ _) ?_,bH.N0 aE l (BJ _),by
   have:=a8.aP (c:=c.toBx) (h:=s'.heap) (F:=(g.Pg a a).F) (ρ:=cu g.a σ.aa ay.objs.size) (i:=σ.aa) (B3 _);rw[fc]at this;exact this,h⟩
  have ap:f9 s'.heap (g.Pg a a).F g.a o ⟨q,cK,bx,aY⟩ cl:=⟨R,.ref a,w,_,_,R,a,C,D,t,R,.inr (.inl R),l _ _ E,G,I⟩;exact⟨o,B6 _ R,ap.be (dc.N6 _ _) (λi hi=>eu _ _ _ i hi) B,λq v=>C3 (B q v),R,λj av=>nomatch av⟩
noncomputable def nY(c:Cx)(d:Nat)(bj:O)(e v:Y)(σ σ':V):Prop:=
 ∀A g s names L a b,dq c A d->aA c g σ s->bd c names L g σ s->a8 c s.heap g.F g.a σ.aa e a->a8 c s.heap g.F g.a σ.aa v b->∀(K:Unit->BN->Prop)(E:Z->BN->Prop),
  (∀am s',aF c (cy L) g σ s am σ' s'->aA c am σ' s'->bd c names L am σ' s'->K () s')->B9 c.NU A (JF a bj b) K E s
theorem rU{o:Ge}{a:Z}{b:Option M}{d:Data}(h1:o.cls=a)(h2:o.dict=b)(c:o.data=d):o=⟨a,b,d,o.slots⟩:=by subst h1 h2 c;rfl
theorem nY.fH{L:fO}{cells:List (O×Nat)}{bj:O}{v:Y}(hi:σ.NY i=H (.fH L cells B2))(am:CD (.type "function") bj=CV B2):
  nY c d bj (.aP i) v σ ((σ.N0 (.ns [bj] [(0,v)])).NX i (.fH L cells (H σ.aa))):=by
 intro A g s names ao bc ap bf r f m hv K E k;obtain⟨rfl,_⟩:=m.NV;obtain⟨o,m,av,bg,aB,_⟩:=r.bh i _ hi;obtain⟨aE,bi,bk,bl,bu,aJ,bv⟩:=av;obtain⟨fd,aL⟩:∃fd,o.data=.func fd:=⟨_,aJ⟩;have m:=m.trans (congrArg H (rU aE (show o.dict=B2 from aB) aL));have aO:=Ca m;refine xl m am λay P y aR aT aW aX=>?_
 let cA:BN:=s
 let F:CG:=ay.update (g.a i) λn=>⟨.type "function",B2,.func fd,o.slots⟩
 let ax:BN:=⟨F,s.gens,s.drawn,P,s.os⟩
 let G:BN:=⟨ay,s.gens,s.drawn,P,s.os⟩
 have Q:F.get? (g.a i)=H _:=DU _ y R;have z:∀b,b≠g.a i->F.get? b=ay.get? b:=λb ac=>Dj _ _ _ _ ac
 have k1:∀b B,cA.heap.get? b=H B->ax.heap.get? b=H B:=λb B ac=>by
  by_cases e:b=g.a i
  .subst e;exact Q.trans (m.symm.trans ac)
  .exact(z b e).trans (aW b B e ac)
 have S:ax.heap.objs.size=ay.objs.size:=by refine(?_:(ay.update _ _).objs.size=_);simp[HJ]
 have W:cA.heap.objs.size<=ax.heap.objs.size:=dH S (Cz aX);have X:=D0 aO
 have aY:eW c ax.heap g.F (cu g.a σ.aa s.heap.objs.size) (σ.aa+1) s.heap.objs.size (.ns [bj] [(0,v)]):=by
  obtain⟨aZ,ae⟩:=aR;refine A3 ae λC I D=>?_;clear ae;refine⟨by simp,aZ,_,(z _ X).trans C,⟨I,D⟩,aT.at (λo e=>(z _ X).trans e),λx w l=>?_,λj w l=>?_,λj x y p=>?_⟩
  .by_cases e:x=bj
   .exact U e (.head _)
   .replace l:=(if_neg e).symm.trans l;cases l
  .rw[de]at l
   by_cases e:j=0
   .replace l:=(if_pos e).symm.trans l;cases l;subst e;exact⟨bj,ap,R,if_pos R,(hv.be ⟨λa o e n=>k1 a o e,λa o n e=>k1 a o e,λn h=>h⟩ (λj p=>eu _ _ _ j p) (Cr _))⟩
   .rw[if_neg e]at l;cases l
  .cases j with
   |zero=>cases p
   |succ j=>cases y
 have q:=r.N0 k1 W R R (BJ _) aY;have a4:=f.N0 r (o:=.ns [bj] [(0,v)]) k1 (BJ _);have a9:=aF.N0 (T:=cy ao) r (o:=.ns [bj] [(0,v)]) k1 W R (BJ _);have ah:=(r.N5 i _ hi).1
 have t:(σ.N0 (.ns [bj] [(0,v)])).NY i=H (.fH L cells B2):=by
  exact aS (BZ ah) hi
 have N:(Gh.mk (cu g.a σ.aa s.heap.objs.size) g.F).a i=g.a i:=eu _ _ _ i ah
 have k2:∀a o,a≠(Gh.mk (cu g.a σ.aa s.heap.objs.size) g.F).a i->ax.heap.get? a=H o->G.heap.get? a=H o:=λa o an e=>by
  rw[N]at an;exact(z a an).symm.trans e
 have ba:=q.Qf t k2
 have bb:eW c G.heap g.F (cu g.a σ.aa s.heap.objs.size) (σ.aa+1) ((Gh.mk (cu g.a σ.aa s.heap.objs.size) g.F).a i) (.fH L cells (H σ.aa)):=by
  refine U N ?_;obtain⟨bx,C,I,D,_⟩:=q.bh i _ t;rw[N,Q]at C;cases C;exact⟨_,y,(I.be ba (λn n=>R) D).NW R R,D,by exact(U (fc ..) R:_=H (cu g.a σ.aa s.heap.objs.size σ.aa)),λj p=>by cases p;exact B3 _⟩
 have ai:=CL S;exact k _ G (a9.NT (aF.NX q t k2 ai R)) (q.NX t k2 ai R R bb) (a4.NX q t k2)
theorem cf.fH{j:Nat}{L a:fO}{cells b:List (O×Nat)}{bj:O}{log:List (Nat×Y)}(hi:σ.NY i=H (.fH L cells (H j)))(d:σ.NY j=H (.ns [bj] log))(f:J log 0=H (.ed a b))(k:CD (.type "function") bj=CV B2):
  cf c (.aP i) bj σ (.ed a b) BQ:=by
 intro A g s v w Q E y r hv h;obtain⟨rfl,_⟩:=hv.NV;obtain⟨o,l,m,z,n,_⟩:=r.bh i _ hi;obtain⟨p,B,C,D,F,q,G⟩:=m;obtain⟨_,I,bv,aT,_,bc,cG,dG,fS⟩:=r.bh j _ d;obtain⟨x,t,cx,di,eS⟩:=dG 0 _ f;rw[←CO cx]at di;exact vC (l.trans (congrArg H (rU p n q))) bc.ns k di (eS.S4 λK e=>nomatch e) (h t (s.toks+1) eS)
theorem Bs{o:CQ}{i:O}{pos':FH}{Q:bY->V->Prop}(h:WE c d ae d0 σ (λv σ₁=>WE c d ae o σ₁ (λp l=>∃e,nY c d i p v l e/\Q .aa e) X) X)
  (q:(λenv=>Hp d0 (H (.Attribute o i pos')) pos.line env)=(λenv=>CV BQ):=by rfl):eK c d ae (.Assign [.Attribute o i pos'] d0 pos) σ Q X:=
 λA g s L Fr j r f t=>Ij (WT.NZ h j r f t R (λa bg σ₁ ax bl m w x z B C D=>WT.NZ D j w x z B (λb E l F G n I K ai an N P=>by
  obtain⟨e,S,T⟩:=P;exact S A E F ae.aG L G bl j I K N (n.Ou C) _ _ λam s' W ac ah=>⟨.aa,am,e,(m.NT n).NT W,ac,ah,.aa,T⟩) λk k y=>PX.NT m y) λk k y=>y) (congrFun q _)
section
open Builtin Builtin.ObjectAttr
namespace FF
theorem RY:Fo "function" "__get__" "function.__get__":=
 .of (owner:="function") (n:="__get__") (by refine BK (Cw ..) (U Cf ?_);kernel_rfl) (by decide+kernel) (by decide+kernel) (by decide+kernel)
  (by first|exact .inl (by decide+kernel)|exact .inr (by decide+kernel)) (by refine BK (D5 ..) ?_;kernel_rfl)
theorem TU:I3 LX "function.__get__"=H Builtin.«function.__get__»:=GP (by kernel_rfl)
theorem Ug(a b c:Z):FX "function.__get__" ⟨[a,b,c],[]⟩:=by unfold FX;kernel_rfl
theorem Tm:CD (.type "function") "__set__"=CV B2:=by refine BK (Cw ..) (U Cf ?_);kernel_rfl
theorem T0:CD (.type "function") "__delete__"=CV B2:=by refine BK (Cw ..) (U Cf ?_);kernel_rfl
end FF
section
variable{prog:Fa}{w:HX}{A:DX}{E:Z->BN->Prop}{h:CG}{g:Array E7}{d:Drawn}{t:Nat}{ew:KW}
variable{nm q:O}{C N x:M}{bs:List Z}{sn:List O}{sub:List Z}{ut:Bool}{col:Option Bool}{dd:Option M}{k0 k1 k2 k3 k5:Option Z}{uo:String}
 {bC jj:O->Option Z}{bj:O}{v:Z}
set_option maxHeartbeats 1000000 in
set_option tactic.hygienic true in
theorem zL{tk:Jg}{Q:Lp->BN->Prop}{f:M}{i:Ge}
  (a:h.get? C=H (IF nm q C N bs [.type "object"] u sn sub ut col dd k0 k1 k2 k3 k5 uo))(e:h.Ns N bC)(aJ:bC bj=H (.ref f))(p:h.get? f=H i)(r:i.cls=.type "function")(j:bC "__getattr__"=B2)
  {y:Option Z}(s:CD (.type "object") bj=CV y)(k:(["__module__","__name__","__qualname__","__doc__","__annotations__"]:List O).contains bj=BQ)(I:h.InstFk x C jj)(v:jj bj=B2)
  (L:Q (.done (.ret (.ref h.objs.size))) ⟨h.push {cls:=.type "method",data:=.fields #[.ref f,.ref x]},g,d,t,ew⟩):
  B9 (DA prog w) A (Builtin.«proto.getattr_hooked» ⟨[.ref x,.str bj tk],[]⟩) Q E ⟨h,g,d,t,ew⟩:=by
 obtain⟨o,l⟩:=I;refine A4 l λm aL z B=>?_;clear l;have b:(⟨h,g,d,t,ew⟩:BN).TypeIs (.ref f) "function":=⟨_,p,r⟩;have bU:=FF.RY.lookup;have eo:=FF.Tm;have fo:=FF.T0;unfold Builtin.«proto.getattr_hooked»
 repeat (first|(with_reducible refine Er m ?_;rewrite [aL])|(with_reducible refine EX a e HK s ?_;rewrite [aJ])|(with_reducible refine Dr b bU ?_)|(with_reducible refine Dr b eo ?_)|(with_reducible refine Dr b fo ?_)|wp_step)
 split
 .rename_i c D
  exact absurd D (z c)
 unfold instanceDict
 repeat (first|(with_reducible refine Er m ?_;rewrite [aL])|with_reducible refine Er a ?_|wp_step)
 have n:B9 (DA prog w) A (bindTo (.builtin "function.__get__") (.ref f) (.ref x) (.ref C)) Q E ⟨h,g,d,t,ew⟩:=by
  unfold bindTo;refine BM (C2 (GU (Hk FF.RY.plain FF.TU (FF.RY.check _ _ _ _ _ _ _ _ b (FF.Ug _ _ _) ?_))));unfold Builtin.«function.__get__»
  repeat (first|with_reducible assumption|wp_step)
 rcases B with⟨F,_⟩|⟨P,G,S,K,_⟩
 .refine U F ?_
  repeat (first|rewrite [k,if_neg Dn]|(with_reducible refine EX a e HK Kb ?_;rewrite [j])|with_reducible exact n|wp_step)
 .refine U G ?_
  repeat (first|rewrite [k,if_neg Dn]|(with_reducible refine Kg K.ns ?_;rewrite [v])|(with_reducible refine EX a e HK Kb ?_;rewrite [j])|with_reducible exact n|wp_step)
theorem yd{i:Bool}{Q:Z->BN->Prop}{f:M}{a:Ge}
  (b:h.get? C=H (IF nm q C N bs [.type "object"] u sn sub ut col dd k0 k1 k2 k3 k5 uo))(c:h.Ns N bC)(j:bC "__getattribute__"=B2)(k:bC "__getattr__"=B2)(aJ:bC bj=H (.ref f))(l:h.get? f=H a)(m:a.cls=.type "function")
  {y:Option Z}(n:CD (.type "object") bj=CV y)(p:(["__module__","__name__","__qualname__","__doc__","__annotations__"]:List O).contains bj=BQ)(I:h.InstFk x C jj)(r:jj bj=B2)
  (s:Q (.ref h.objs.size) ⟨h.push {cls:=.type "method",data:=.fields #[.ref f,.ref x]},g,d,t+1,ew⟩):
  B9 (DA prog w) A (Hn (.ref x) bj i) Q E ⟨h,g,d,t,ew⟩:=by
 obtain⟨o,e⟩:=id I;refine A3 e λv aL z=>?_;clear e;unfold Hn getAttrBy
 repeat (first|(with_reducible refine Er v ?_;rewrite [aL])|(with_reducible refine EX b c HK F.lk_object_ga ?_;rewrite [j])|wp_step)
 refine Jn (wpAny_runValue (codeAny_builtin F.plainObj_entry_getattr_hooked (zL b c aJ l m k n p I r ?_)));exact BW s
end
end
variable{self:Y}
theorem o4(h:WC c d a (as.length+1) [] (self::as) σ (gg Q σ) (gg X σ)):WK c d (.dN a self) as [] [] σ Q X:=by
 intro A g s names L m vs kvs e r f i b j;obtain rfl:=j.OB;obtain⟨_,_,rfl,h1,h2,k⟩:=i.NV;refine PH.Sn r f (GU (ks_codeAny_call_bound h2 ?_));have l:=b.length.symm;have:=h A g s (_::vs) e r (.aU k b);rw[←l,D8 (by simp),IY (by simp)]at this;exact this
theorem a1.dN{ah nm cK bx aY bi bz cc}(aJ:fi c a ah nm cK bx aY bi bz cc):a1 c (.dN a self):=λA g σ s i n r h=>by
 obtain⟨b,_,⟨o,j,k,l,m,d,_,e⟩,_⟩:=aJ;obtain⟨_,_,rfl,h1,h2,p⟩:=h.NV;refine⟨.boundFrame,.inr (.inr R),λQ E f=>?_⟩;unfold Gg;refine BM (Fg h2 (BM (Fg (r.q _ _ d b) ?_)));exact U e (BW f)
section
variable{c:Cx}{d:Nat}{σ:V}{C N:M}{bC:O->Option Z}{j:Nat}{names:List O}{log:List (Nat×Y)}{bj:O}
theorem yZ(aL:gG c C N bC)(n:σ.NY j=H (.ns names log)){f:M}{l:Ge}(aJ:bC bj=H (.ref f))(p:¬c.N9 f)(t:c.i.get? f=H l)(v:l.cls=.type "function")(z:bC "__getattribute__"=B2)(B:bC "__getattr__"=B2)
  {y:Option Z}(D:CD (.type "object") bj=CV y)(E:(["__module__","__name__","__qualname__","__doc__","__annotations__"]:List O).contains bj=BQ)(F:bj∉names)(h:Q (.dN f (.bh C j)) σ):
  WH rV c d (λvs=>Hn (vs.headD .none) bj u) [.bh C j] σ Q X:=by
 intro A g s vs T r G;obtain⟨_,rfl,h1⟩:=G.PT
 .obtain⟨x,o,bv,rfl,W,ac,ae,ah,I,L,ai,am,ao,_⟩:=nb r n h1
  have P:bv bj=B2:=by
   cases q:bv bj with
   |none=>rfl
   |some w=>exact absurd (L _ _ q) F
  have X:=aL.QA r;obtain⟨nm,q,bs,sn,sub,col,dd,k0,k1,k2,k3,k5,e⟩:=jM.Qa X
  let cA:BN:=s
  let s':BN:=⟨s.heap.push {cls:=.type "method",data:=.fields #[.ref f,.ref x]},s.gens,s.drawn,s.toks+1,s.os⟩
  have i:∀b o,cA.heap.get? b=H o->s'.heap.get? b=H o:=λb o e=>cN _ _ _ _ e;have m:cA.heap.objs.size<=s'.heap.objs.size:=cR _ _;have S:s.heap.objs.size<s'.heap.objs.size:=(dk (CH ..) (B3 _):_<(s.heap.push _).objs.size);have K:dc cA.heap s'.heap g.F (g.aK s.heap.objs.size).F:=⟨λa o e k=>i a o e,λa o k e=>i a o e,λa an=>.inl an⟩
  exact yd e X.ns z B aJ (r.q _ _ t p) v D E I P ⟨_,g.aK s.heap.objs.size,σ,aF.OA i m R (BJ _),r.OA i m R R (BJ _) S,
   .dN (.inr R) (B6 _ R) (h1.be K (λk k=>R) (BJ _)),h⟩
end
namespace FF
theorem QP:Fo "callable_iterator" "__next__" "callable_iterator.__next__":=
 .of (owner:="callable_iterator") (n:="__next__") (by refine BK (Cw ..) (U Cf ?_);kernel_rfl) (by decide+kernel) (by decide+kernel) (by decide+kernel)
  (by first|exact .inl (by decide+kernel)|exact .inr (by decide+kernel)) (by refine BK (D5 ..) ?_;kernel_rfl)
theorem Ss:I3 LX "callable_iterator.__next__"=H Builtin.«callable_iterator.__next__»:=GP (by kernel_rfl)
theorem SO(a:Z):FX "callable_iterator.__next__" ⟨[a],[]⟩:=by unfold FX;kernel_rfl
end FF
variable{prog:Fa}{w:HX}
variable{Q:Option Z->BN->Prop}
theorem tU{K:aO->BN->Prop}(c:A.handled=B2)(d:∀ay,(∀b o,s.heap.get? b=H o->ay.get? b=H o)->s.heap.objs.size<=ay.objs.size->Q B2 {s with heap:=ay}):
  B9 (DA prog w) A.in1 (Gd) K (λe s'=>B9 (DA prog w) A (do if ←KL e (.type "StopIteration")then CV B2 else throw e) Q E s') s:=by
 unfold Gd;refine BM ?_;simp only[MT,FN];refine BM (Dc ?_ (by size_fits));refine BM (EV (a:=DV) (by first|rfl|(simp only[firstArgMember];rfl)) (Dc ?_ (by size_fits)));refine Ku (show A.in1.handled=B2 from c)<|wpAny_bind (Iw ⟨_,B6 _ R,R⟩ Md ?_);exact BW (d _ (λb o ac=>Cp _ (Cp _ ac)) (BG (cR _ _) (cR _ _)))
theorem zG{f:Z}{Q:Z->BN->Prop}(h:B9 (DA prog w) A (Du f []) Q E s):B9 (DA prog w) A (MA f []) Q E s:=λa p b=>by
 have:=h a p b;unfold Du at this;rw[Sem.wp_runValue]at this;unfold MA;refine U (Sem.wp_call ..)<|cast (congrArg (λK=>wpCode (DA prog w) (a.enter (.call f ⟨[],[]⟩) B2 p) K p s) ?_) this
 funext r s'
 cases r with
 |error e=>rfl
 |ok f=>cases f <;> rfl
variable{f:M}{fd:I5}
theorem r5{m:M}{a:Ge}{x:Z}{Q:Bool->BN->Prop}(b:s.heap.get? m=H {cls:=.type "method",data:=.fields #[.ref f,x]})(aJ:s.heap.get? f=H a)(c:a.data=.func fd)(h:Q u s):
  B9 (DA prog w) A (Me (.ref m)) Q E s:=by
 unfold Me;refine BM (Fg b ?_);refine BM (Fg aJ (U c (BW h)))
variable{vs:Array Z}
theorem zm{o:Ge}(e:A.handled=B2)(c:s.heap.get? a=H o)(aL:o.cls=.type "callable_iterator")(f:o.data=.fields vs)(h2:vs[2]?=H (.bool u))
  (g:∀ay,(∀b o,s.heap.get? b=H o->ay.get? b=H o)->s.heap.objs.size<=ay.objs.size->Q B2 {s with heap:=ay}):B9 (DA prog w) A (Hd (.ref a)) Q E s:=by
 have d:s.TypeIs (.ref a) "callable_iterator":=⟨o,c,aL⟩;unfold Hd;refine BM (HB (GQ d FF.QP (Eh FF.QP d FF.Ss ?_ (FF.SO _))));unfold Builtin.«callable_iterator.__next__»;refine BM (EV R (BM (EW c f h2 ?_)));refine U (if_pos (by decide))<|wpAny_bind (Gj (BM (tU e g)))
theorem Au{m:M}{o j:Ge}{x:Z}{d1:Jg}(K:A.handled=B2)(h:s.heap.get? a=H o)(aL:o.cls=.type "callable_iterator")(c:o.data=.fields vs)(d:vs[0]?=H (.ref m))(h1:vs[1]?=H (.str B0 d1))(h2:vs[2]?=H (.bool BQ))
  (p:s.heap.get? m=H {cls:=.type "method",data:=.fields #[.ref f,x]})(aJ:s.heap.get? f=H j)(q:j.data=.func fd)
  (v:B9 (DA prog w) A.in1 (Du (.ref m) []) (λr ax=>∃y t o vs m x d1,r=.str y t/\ax.heap.get? a=H o/\o.data=.fields vs/\vs[0]?=H (.ref m)/\vs[1]?=H (.str B0 d1)/\vs[2]?=H (.bool BQ)/\ax.heap.get? m=H {cls:=.type "method",data:=.fields #[.ref f,x]}/\ax.heap.get? f=H j/\
   (y≠B0->Q (H r) ax)/\(y=B0->∀ay i,ay.get? a=H {o with data:=.fields i}->i.size=vs.size->i[0]?=H .none->i[2]?=H (.bool u)->(∀b o,b≠a->ax.heap.get? b=H o->ay.get? b=H o)->ax.heap.objs.size<=ay.objs.size->Q B2 {ax with heap:=ay})) (λl l=>False) s):B9 (DA prog w) A (Hd (.ref a)) Q E s:=by
 have B:s.TypeIs (.ref a) "callable_iterator":=⟨o,h,aL⟩;unfold Hd;refine BM (HB (GQ B FF.QP (Eh FF.QP B FF.Ss ?_ (FF.SO _))));unfold Builtin.«callable_iterator.__next__»;refine BM (EV R (BM (EW h c h2 ?_)));refine U (if_neg (by decide))<|wpAny_bind (EW h c d (BM (HB ?_)));unfold callOutOfASlot;refine BM (r5 p aJ q (U (if_pos R) ?_));refine zG (CB v (λr ax L=>?_) λl l z=>z.elim);clear h aL c d h1 h2 p v;obtain⟨y,t,o,vs,m,x,d1,rfl,C⟩:=L;refine A9 C λg c d h1 h2 N P aT aX=>?_;clear C;refine BM (EW g c h2 ?_);refine U (if_neg (by decide))<|wpAny_bind (EW g c h1 (BM (C2 (wpAny_eqBool_str ?_))))
 by_cases n:y=B0
 .subst n;refine U (show decide (B0=B0)=u from decide_eq_true R) ?_;refine BM (Gj (BM (BM (EW g c d (BM ?_)))));unfold slotLetsGo;refine BM (r5 N P q (U (if_pos R) ?_));refine BW ?_;have D:=(C9.mp d).1;have S:=(C9.mp h1).1;have F:=(C9.mp h2).1;obtain⟨cl,X,da,ae⟩:=o;simp only at c;subst c;refine BM (Hj g R D ?_);have G:=DU (Fy (·.setIfInBounds 0 .none)) g R;refine BM (Hj G R (by simpa using S) ?_);have I:=DU (Fy (·.setIfInBounds 1 .none)) G R;refine(Hj (s:={ax with heap:=(ax.heap.update a (Fy (·.setIfInBounds 0 .none))).update a (Fy (·.setIfInBounds 1 .none))}) I R (by simpa using F) ?_);have T:=DU (Fy (·.setIfInBounds 2 (.bool u))) I R;refine tU K λay k W=>?_;refine aX R ay _ (k _ _ T) (by simp) (by simp[HO,D]) (by simp[HO,F]) (λb ah ac e=>k _ _ ?_) (BG (CL (by simp[HJ])) W);exact U (Dj _ _ _ _ ac) (BK (Dj _ _ _ _ ac) (U (Dj _ _ _ _ ac) e))
 .refine U (show decide (B0=y)=BQ from decide_eq_false λe=>n e.symm) ?_;exact BW ⟨_,R,BW (aT n)⟩
namespace FF
theorem SU:Fo "callable_iterator" "__iter__" "callable_iterator.__iter__":=
 .of (owner:="callable_iterator") (n:="__iter__") (by refine BK (Cw ..) (U Cf ?_);kernel_rfl) (by decide+kernel) (by decide+kernel) (by decide+kernel)
  (by first|exact .inl (by decide+kernel)|exact .inr (by decide+kernel)) (by refine BK (D5 ..) ?_;kernel_rfl)
theorem TX:I3 LX "callable_iterator.__iter__"=H Builtin.«dict_keyiterator.__iter__»:=
 entryFor_alias (id':="dict_keyiterator.__iter__") (by kernel_rfl) R (by decide+kernel) (by kernel_rfl)
theorem Uc(a:Z):FX "callable_iterator.__iter__" ⟨[a],[]⟩:=by unfold FX;kernel_rfl
theorem Ui:builtinKind "iter"=B2:=by decide+kernel
theorem T6:plainId "iter"=u:=by decide+kernel
theorem TH:I3 LX "iter"=H Builtin.«iter»:=GP (by kernel_rfl)
theorem TA(a b:Z):FX "iter" ⟨[a,b],[]⟩:=by unfold FX;kernel_rfl
theorem T8:∃v,CD (.type "method") "__call__"=CV (H v):=⟨.builtin "method.__call__",by refine BK (Cw ..) (U Cf ?_);kernel_rfl⟩
end FF
variable{Q:Y->V->Prop}
set_option tactic.hygienic true in
theorem xy(h:Q (.aP σ.aa) (σ.N0 (.fI (.dN f self) BQ))):WK c d (.bT (.builtin "iter")) [.dN f self,.ab (.str B0)] [] [] σ Q X:=by
 intro A g s names L E vs kvs G r q v w x;obtain rfl:=v.NV;obtain rfl:=x.OB;obtain⟨_,_,rfl,h1,h2⟩:=w.Qr;obtain⟨⟨t,rfl⟩,_⟩:=h2.On;obtain⟨_,_,rfl,y,n,z⟩:=h1.NV
 rename_i m I
 have B:s.TypeIs (.ref m) "method":=⟨_,n,R⟩;obtain⟨K,C⟩:=FF.T8;refine Iq FF.Ui FF.T6 FF.TH (FF.TA _ _) ?_;unfold Builtin.«iter»;refine BM (EV (a:=[.ref m,.str B0 t]) (by first|rfl|kernel_rfl) ?_);dsimp only;refine BM (Dr B C ?_);refine U (if_neg Dn)<|wpAny_bind (Gj ?_);simp only[K8];refine BM (Dc ?_ (by size_fits));refine BW ⟨_,R,?_⟩
 let s':BN:={s with heap:=s.heap.push {cls:=.type "callable_iterator",data:=.fields #[.ref m,.str B0 t,.bool BQ]}}
 have k:∀b o,s.heap.get? b=H o->s'.heap.get? b=H o:=λb o e=>cN _ _ _ _ e;have p:s.heap.objs.size<=s'.heap.objs.size:=cR _ _
 refine⟨_,⟨cu g.a σ.aa s.heap.objs.size,g.F⟩,_,aF.N0 r (s':=s') k p R (BJ _),r.N0 (s':=s') k p R R (BJ _) ?_,q.N0 r k (BJ _),by
  have:=a8.aP (c:=c.toBx) (h:=s'.heap) (F:=g.F) (ρ:=cu g.a σ.aa s.heap.objs.size) (i:=σ.aa) (B3 _);rw[fc]at this;exact this,h⟩
 have hv:a8 c s.heap g.F g.a σ.aa (.dN f self) (.ref m):=.dN y n z;exact⟨_,_,_,B6 _ R,R,R,R,R,(λh=>nomatch h),λl=>hv.be ⟨λa o e l=>k a o e,λa o l e=>k a o e,λl h=>h⟩ (λj D=>eu _ _ _ j D) (Cr _),R,λl=>⟨t,R⟩⟩
set_option tactic.hygienic true in
theorem yS(t:CQ)(a:M)(x:O)(k:Jg):DE t (.ref a) (.str x k)=CV ():=by
 cases t <;> rfl
theorem sN{target c1:CQ}{Q:bY->V->Prop}{ah nm:O}{d2:List DZ}(aJ:fi c f ah nm cK d2 aY bi bz cc)(q:Nat->V->Prop)(T:Nat)
  (h:WE c (d+1) ae c1 σ (λa σ₁=>a=.aP i/\q T σ₁) X)
  (ac:∀n l,q n l->∃en,l.NY i=H (.fI (.dN f self) en)/\(en=u->Q .aa l)/\
   (en=BQ->WK c d (.dN f self) [] [] [] l (λv W=>∃x,v=.ab (.str x)/\W.NY i=H (.fI (.dN f self) BQ)/\(x=B0->Q .aa (W.NX i (.fI (.dN f self) u)))/\
    (x≠B0->∃ap,gC ae target W v ap/\WS c (d+1) ae bx ap (λba j=>match ba with| .aa=>∃m,m<n/\q m j| .eY=>∃m,m<n/\q m j| .eQ=>Q .aa j| .c0 v=>Q (.c0 v) j) cm)) cm))
  (ck:(λenv x=>Dl c1 env x)=(λenv x=>CV x):=by rfl):eK c (d+1) ae (.For target c1 bx [] pos) σ Q X:=
 λA g s L Fr t r cq cs=>Iu (WT.NZ h t r cq cs R (λa bg σ₁ ax bl B bb cx bc cA cB cC=>by
  obtain⟨rfl,bf⟩:=cC;obtain⟨rfl,cE⟩:=cB.NV;obtain⟨fx,cF,_⟩:=ac T σ₁ bf;obtain⟨o,vs,av,cG,aL,fJ,_⟩:=bb.bh i _ cF;have aB:ax.TypeIs (.ref (bg.a i)) "callable_iterator":=⟨o,cG,aL⟩;refine wpAny_pyIter_slot aB FF.SU (Eh FF.SU aB FF.TX ?_ (FF.Uc _));refine BW ⟨_,R,"callable_iterator",_,aB,FF.QP.lookup,?_⟩;have bj:∀{am:Gh}{σ':V}{s':BN},aF c (cy L) bg σ₁ ax am σ' s'->am.a i=bg.a i:=λx=>x.r i cE;refine o7 (λn s'=>∃am σ',aF c (cy L) bg σ₁ ax am σ' s'/\aA c am σ' s'/\bd c ae.aG L am σ' s'/\q n σ') (λn s' fK fQ fR cH bk aE cM=>?_) T ⟨bg,σ₁,.N6 ..,bb,cx,bf⟩;obtain⟨am,σ',w⟩:=cH;refine A4 w λx C av cS=>?_;clear w;have bu:=bc.be x.aa;have cV:=(bc.Pi x.r L Fr).trans cA;obtain⟨en,w⟩:=ac n σ' cS;refine A3 w λcW cX c2=>?_;clear w;obtain⟨fS,gc,gw,aO,bC,bD,gx,c6,gy,c7,D,aR⟩:=C.bh i _ cW;rw[bj x]at aO;rcases Bool.eq_false_or_eq_true en with e|e
  .rw[e]at D;refine zm t.G aO bC bD D λay k z=>?_
   let s'':BN:={s' with heap:=ay}
   exact EK (aE _ ⟨.aa,am,σ',B.NT (x.Oc (s'':=s'') k z R),C.Oc k z R R,av.Oc k,.aa,cX e⟩).2
  .rw[e]at D;obtain⟨gK,aR⟩:=aR e;have hv:=c7 e;have df:=hv;obtain⟨bv,gL,rfl,gU,di,g2⟩:=hv.NV;obtain⟨bH,_,⟨g3,g4,g5,hs,hu,bQ,hw,dj⟩,_⟩:=id aJ;refine Au t.G aO bC bD c6 aR D di (C.q _ _ bQ bH) dj (CB (c2 e A.in1 am s' ae.aG L _ _ _ t.Qb C av df .a6 .a6) (λrv bS ai=>?_) (λE E y=>y.no));obtain⟨b,F,l,y,p,bU,b6,xs,rfl,G,aT,aX⟩:=ai;obtain⟨⟨tk,rfl⟩,_⟩:=b6.On;have aW:=bj (x.NT y);have dt:=bu.be y.aa;have du:=(bu.Pi y.r L Fr).trans cV;obtain⟨dx,dy,hx,b9,dG,dO,dW,d1,hy,d9,ef,aZ⟩:=p.bh i _ G;rw[aW]at b9;obtain⟨eo,aZ⟩:=aZ R;have ew:=d9 R;obtain⟨_,_,rfl,hP,eB,hQ⟩:=ew.NV;refine⟨xs,tk,dx,dy,_,_,eo,R,b9,dO,d1,aZ,ef,eB,p.q _ _ bQ bH,λeC=>?_,λeH ay eI an eS e9 fa k z=>?_⟩
   .obtain⟨ap,ao,eg⟩:=aX eC;refine(?_:B9 _ A (DE target _ _) _ _ bS);refine U (yS ..)<|wpAny_pure<|oK t p bU dt du b6 ao eg λba I j ii ij fn K N fo P=>?_
    have S:=(x.NT y).NT fn
    cases fo with
    |aa=>obtain⟨m,a4,hi⟩:=P;exact(bk m _ a4 ⟨I,j,S,K,N,hi⟩).1
    |eY=>obtain⟨m,a4,hi⟩:=P;exact(bk m _ a4 ⟨I,j,S,K,N,hi⟩).2
    |eQ=>exact(aE _ ⟨.aa,I,j,B.NT S,K,N,.aa,P⟩).1
    |c0 hv=>exact cM _ _ ⟨_,I,j,B.NT S,K,N,.c0 hv,P⟩
   .refine EK ?_
    let cj:BN:={bS with heap:=ay}
    have a9:=λa o an e=>k a o (br aW an) e
    have fp:eW c cj.heap F.F F.a l.aa (F.a i) (.fI (.dN f self) u):=by
     refine U aW<|⟨_,eI,.none,an,dG,R,BK eS dW,e9,λE=>R,(λh=>nomatch h),fa,λh=>nomatch h⟩
    exact(aE _ ⟨.aa,F,l.NX i (.fI (.dN f self) u),B.NT ((x.NT y).NT (aF.NX p G (s':=cj) a9 z R)),p.NX G a9 z R R fp,bU.NX p G a9,.aa,aT eH⟩).2) λE E y=>y) (λx=>congrFun (congrFun ck _) x)
section
open PySem.Builtin PySem.Builtin.Re
noncomputable def lA:Nat->J3->Option J3
 |0,_=>B2
 |k+1,m=>if(m.runFor ID).outcome.isSome then H (m.runFor ID)else lA k (m.runFor ID)
noncomputable def fA(a:Array Nat)(x:O):Option Bool:=
 match lA 1000 (K0 a x.cps 0 (ME 0 x.cps.size) (ME (2^63-1) x.cps.size) BQ)with
 |some m=>match m.outcome with|some .matched=>H u|some .failed=>H BQ|_=>B2
 |none=>B2
structure mF(c:Bx)(P:M)(code:Array Nat):Prop where
 ex:∃o T ot cF aR k,¬c.N9 P/\¬c.N9 T/\c.i.get? P=H o/\o.cls=.type "re.Pattern"/\o.dict=B2/\o.data=.fields cF/\cF.getD 5 .none=.ref T/\reRawNat (cF.getD 6 .none)=0/\reRawNat (cF.getD 2 .none)=0/\c.i.get? T=H ot/\ot.data=.seq aR k/\(aR.map reRawOf).map (·.toNat)=code
namespace FF
theorem Th:Fo "re.Pattern" "search" "re.Pattern.search":=
 .of (owner:="re.Pattern") (n:="search") (by refine BK (Cw ..) (U Cf ?_);kernel_rfl) (by decide+kernel) (by decide+kernel) (by decide+kernel)
  (by first|exact .inl (by decide+kernel)|exact .inr (by decide+kernel)) (by refine BK (D5 ..) ?_;kernel_rfl)
theorem T5:MS (.builtin "re.Pattern.search")=CV (.type "method_descriptor"):=by kernel_rfl
theorem TK:I3 LX "re.Pattern.search"=H Builtin.«re.Pattern.search»:=GP (by kernel_rfl)
theorem Ut(a b:Z):FX "re.Pattern.search" ⟨[a,b],[]⟩:=by unfold FX;kernel_rfl
theorem TY:PlainAttrs "re.Pattern":=⟨⟨_,vw,by decide+kernel⟩,by refine BK (Cw ..) (U Cf ?_);kernel_rfl⟩
where vw:CD (.type "re.Pattern") "__getattribute__"=CV (H (.builtin "object.__getattribute__")):=by refine BK (Cw ..) (U Cf ?_);kernel_rfl
theorem Uo:CD (.type "re.Match") "__bool__"=CV B2:=by refine BK (Cw ..) (U Cf ?_);kernel_rfl
theorem Uk:CD (.type "re.Match") "__len__"=CV B2:=by refine BK (Cw ..) (U Cf ?_);kernel_rfl
end FF
section
variable{ck:F0}{A:DX}{s:BN}
theorem uE{m m':J3}{Q:J3->BN->Prop}(h:lA k m=H m')(b:k<=n)(c:Q m' s):B9 ck A (reDrive n m) Q E s:=by
 induction k generalizing n m with
 |zero=>exact nomatch h
 |succ k d=>cases n with
  |zero=>exact absurd b (Nat.not_succ_le_zero _)
  |succ n=>
   unfold lA at h;rw[reDrive]
   by_cases a:(m.runFor ID).outcome.isSome=u
   .replace h:=(if_pos a).symm.trans h;cases h;exact U (if_pos a) (BW c)
   .replace h:=(if_neg a).symm.trans h;refine U (if_neg a)<|wpAny_bind (Gj (d h (Nat.le_of_succ_le_succ b)))
theorem vM{f:aO->PUnit->FB (ForInStep PUnit)}(aJ:∀i(Q:ForInStep PUnit->BN->Prop)(E:Z->BN->Prop),Q (.yield ⟨⟩) s->B9 ck A (f i ⟨⟩) Q E s):∀{l:List aO}{Q:PUnit->BN->Prop}{E:Z->BN->Prop},Q ⟨⟩ s->B9 ck A (HW l PUnit.unit f) Q E s:=by
 intro l
 induction l with
 |nil=>
  intro _ _ a
  exact U Fb (BW a)
 |cons i l b=>
  intro Q E a;refine U (EE ..)<|wpAny_bind (aJ i _ _ (b a))
theorem wr{m m':J3}{Q:Option J3->BN->Prop}(h:lA k m=H m')(a:k<=2^64)(b:match m'.outcome with|some .matched=>Q (H m') s|some .failed=>Q B2 s|_=>False):
  B9 ck A (MZ m) Q E s:=by
 unfold MZ;refine BM (uE h a (BM (vM (λi Q E h=>?_) ?_)))
 .split
  .exact BM (Gj (BW h))
  .exact BW h
 revert b
 cases m'.outcome with
 |none=>exactλh=>h.elim
 |some o=>cases o <;> first|exactλh=>BW h|exactλh=>h.elim
end
section
variable{c:Cx}{d:Nat}{ae:bB}{σ:V}{X:AX->V->Prop}
theorem v3{names:List O}{a d:Ge}{T:String}(r:aA c g σ s)(f:bd c names L g σ s)(aL:d.cls=.type T)(aJ:d.isFreed=BQ)(h:Q (.gJ T) σ):
  bZ rV ⟨c,names,L⟩ g σ s Q (.ref (s.heap.push a).objs.size) {s with heap:=(s.heap.push a).push d}:=by
 let s':BN:={s with heap:=(s.heap.push a).push d}
 have j:∀b o,s.heap.get? b=H o->s'.heap.get? b=H o:=λb o e=>cN _ _ _ _ (cN _ _ _ _ e);have i:s.heap.objs.size<=(s.heap.push a).objs.size:=cR _ _;have k:s.heap.objs.size<=s'.heap.objs.size:=BG i (cR _ _);have l:(s.heap.push a).objs.size<s'.heap.objs.size:=by refine(?_:_<((s.heap.push a).push d).objs.size);rw[CH (s.heap.push a)];exact B3 _
 exact⟨_,g.aK _,σ,aF.OA j k R i,r.OA j k R R i l,f.OA j i,.gJ (.inr R) (B6 _ aJ) aL,h⟩
theorem cf.Se{b:M}{h:Array Nat}(i:mF c b h):cf c (.bT (.ref b)) "search" σ (.bT (.builtin "re.Pattern.search")) u:=
 λA g s p q Q E t r hv k=>by
  obtain rfl:=hv.NV;obtain⟨o,T,v,cF,aR,w,d⟩:=i.ex;refine A6 d λj l m aL n l=>?_;clear d;have f:=r.q _ _ m j;exact H1 ⟨o,f,aL⟩ FF.TY FF.Th FF.T5 (λa e=>by cases e;exact⟨o,f,n⟩) (k _ s.toks .bT)
theorem rs{i:M}{j:Array Nat}{b:Bool}(q:mF c i j)(e:fA j x=H b)(h:Q (if b then .gJ "re.Match" else .ab .none) σ):WK c d (.bT (.builtin "re.Pattern.search")) [.bT (.ref i),.ab (.str x)] [] [] σ Q X:=by
 intro A g s names L ac vs kvs ae r f v w y;obtain rfl:=v.NV;obtain rfl:=y.OB;obtain⟨_,_,rfl,a2,bH⟩:=w.Qr;obtain⟨rfl,_⟩:=a2.NV;obtain⟨⟨t,rfl⟩,_⟩:=bH.On;obtain⟨o,T,ah,cF,aR,ai,n⟩:=q.ex;refine xN n λz B k aL am C D E h2 F G I=>?_;clear n;have p:=r.q _ _ k z;have K:=r.q _ _ F B;have N:s.TypeIs (.ref i) "re.Pattern":=⟨o,p,aL⟩;refine Eh FF.Th N FF.TK ?_ (FF.Ut _ _);unfold Builtin.«re.Pattern.search» reTarget;refine BM<|wpAny_bind (EV (a:=[H (.str x t),B2,B2]) (by rfl) (BM (BW ?_)));refine BM (BW (BM (wpAny_fieldsOf p C ?_)));refine BM (EV (by rfl) ?_);dsimp only;refine U E<|wpAny_bind (EV (by rfl) (BM ?_));refine U D ?_;unfold reRawItems;refine BM (wpAny_seqItems K G (BW (BW ?_)));unfold fA at e
 cases l:lA 1000 (K0 j x.cps 0 (ME 0 x.cps.size) (ME (2^63-1) x.cps.size) BQ)with
 |none=>rw[l]at e;cases e
 |some m=>
  rw[l]at e;have e:(match m.outcome with|some .matched=>H u|some .failed=>H BQ|_=>B2)=H b:=e;unfold reAnswer;have P:((((H aR).getD #[]).map reRawOf).map (·.toNat))=j:=I;refine BM (wr (U h2 (U P l)) (DD R) ?_)
  cases k:m.outcome with
  |none=>rw[k]at e;cases e
  |some S=>
   rw[k]at e
   cases S with
   |stuck _=>cases e
   |failed=>
    cases e
    exact BW ⟨_,R,bZ.Oi r f .none h⟩
   |matched=>
    cases e;refine BM<|U h2 ?_;unfold reNewMatch;refine(?_:B9 _ _ (FN [Ey m.start,Ey m.handed]>>=λW=>K8 "re.Match" [.str x t,.ref i,Ey _,Ey _,Ey m.lastindex,W]) _ _ _);simp only[FN,K8];refine BM (Dc ?_ (by size_fits));refine Dc ?_ (by size_fits);refine BW ⟨_,R,v3 r f R R h⟩
theorem rq{Q:Bool->V->Prop}(h:Q BQ σ):e2 hX c d Hc (.ab .none) σ Q X:=λA g s names L bl b r f a=>by
 cases a.Ql;exact BW (bZ.Oi r f R h)
set_option tactic.hygienic true in
theorem sV{Q:Bool->V->Prop}(h:Q u σ):e2 hX c d Hc (.gJ "re.Match") σ Q X:=λA g s names L bl j r f e=>by
 obtain⟨_,_,rfl,h1,h2,i⟩:=e.NV
 rename_i a o
 have b:s.TypeIs (.ref a) "re.Match":=⟨o,h2,i⟩;unfold Hc Mz;refine BM (BM (Dr b FF.Uo (BW (BM (Dr b FF.Uk ?_)))));exact BW (bZ.Oi r f R h)
end
end
section
variable{ck:F0}{A:DX}{E:Z->BN->Prop}{s:BN}
theorem wX{a:CG}{env:E6}{b:List E6}{e:M}{c:Ge}{d:Z}{Q:Unit->BN->Prop}
  (i:A.frames=H (env::b))(j:s.heap.FunFrames a (env::b))(aJ:env.frame=H L)
  (f:s.heap.get? e=H c)(k:a.StaysIn s.heap)(l:a.get? e=B2)(g:c.data=.fields vs)(h1:vs[1]?=H .none)(m:vs[0]?=H d)
  (h:∀ay,Ie a (env::b) e c.cls d s.heap ay->Q () {s with heap:=ay}):B9 ck A (Fm (.ref e) env) (λn s'=>B9 ck A (Gb (.ref e) B2) Q E s') E s:=by
 unfold Fm;simp only[aJ];refine BM (EW f g h1 (U (if_neg (by decide)) ?_));exact wpAny_newEntryW i j aJ f k l g (C9.mp h1).1 m h
theorem vO{a:CG}{env:E6}{c:List E6}{e:M}{d f:Z}{Q:Unit->BN->Prop}
  (i:A.frames=H (env::c))(j:s.heap.FunFrames a (env::c))(aJ:env.frame=H L)(ao:s.heap.TracedW a e d f)(k:a.StaysIn s.heap)(l:a.get? e=B2)
  (h:∀ay,Ie a (env::c) e d f s.heap ay->Q () {s with heap:=ay}):B9 ck A (Fm (.ref e) env) (λw s'=>B9 ck A (Gb (.ref e) B2) Q E s') E s:=
 wpAny_noteFrame_onW i j aJ ao k l λay⟨x1,x2,x3,gU⟩=>wpAny_setFlight_noneW x1 x2 x3 λm n p q r=>h m ⟨n,p,q,λb o e g=>by
  obtain⟨t,v⟩:=gU b o e g;exact⟨t,r b _ v g⟩⟩
end
theorem vx{env:E6}{x:AX}(j:A.frames=H (env::fJ))(aJ:env.frame=H L)(q:∀cH∈env::fJ,cH.scope.kind≠.module/\∃a∈c.bE,cH.frame=H a)
  (r:aA c g σ s)(t:hR s.heap lo g σ x v)(w:c.i.objs.size<=lo)
  (k:∀s',(∀a o,s.heap.get? a=H o->a∉c.bE->(lo<=a->b3 g σ a\/g.F a\/fP o)->s'.heap.get? a=H o)->(∀a o,a∈c.bE->s.heap.get? a=H o->∃y,s'.heap.get? a=H {o with slots:=y})->
   s.heap.objs.size<=s'.heap.objs.size->s'.gens=s.gens->s'.os=s.os->hR s'.heap lo g σ x v->K () s'):B9 c.NU A (Fm v env) (λb d=>B9 c.NU A (Gb v B2) K E d) E s:=by
 have z:lx s.heap s.heap:=⟨BJ _,λb b h=>h⟩;refine tE q r t w k λD e F hv l m n a9 p=>?_;subst hv
 have B:B9 c.NU A (Fm (.ref e) env) (λb d=>B9 c.NU A (Gb (.ref e) B2) (λa s'=>lx s.heap s'.heap->K a s') E d) E s:=by
  rcases a9 with⟨G,vs,bc,cG,dG,h,fS⟩|ao
  .exact wX j n aJ bc l m dG h fS λay f i=>p ay i (by rw[cG]at f;exact f)
  .exact vO j n aJ ao l m λay f i=>p ay i f
 exact k9 (lR s.heap) z (CB B (λb d h2 C=>k9 (lR s.heap) C (CB h2 (λb b h=>h) λb b h b=>h)) λb b h b=>h)
theorem x8:Jw (.type ((MO "ValueError").elim "type" λx=>x.metatype)) (.type "tuple")=CV BQ:=by refine BK (D5 ..) ?_;kernel_rfl
theorem yH:Jw (.type "ValueError") (.type "ValueError")=CV u:=by refine BK (D5 ..) ?_;kernel_rfl
variable{words:O}
theorem xH{y:DX}{env:E6}{e t:M}{bv:O->Option Z}{b g:O}{n p:CQ}{eS e9 z B C D:FH}{F q:Jg}{Q:JD->BN->Prop}{G I N:Z->BN->Prop}
  (l:env.scope.kind=.function)(P:env.locals=L)(i:env.scope.names.lookup b=H .local)(S:env.scope.names.lookup g=H .local)(T:(b==("__debug__":O))=BQ)(W:(g==("__debug__":O))=BQ)(X:g≠b)(ac:s.heap.Ns1 L bv)(ae:bv g=H (.str words F))
  (ah:s.heap.ExcAt e "ValueError" (.ref t))(ao:s.heap.TupAt t [.str msg q])(am:e≠L)(ap:t≠L)(av:A.units+2<cLine)
  (ax:EJ n env=(do FP e9 (←EJ p env) [] (GA e9 (Ez [.Name b eS] env)) (EB e9 (DI [] env))))
  (ay:∀s':BN,(∀a o,a≠L->s.heap.get? a=H o->s'.heap.get? a=H o)->s.heap.objs.size<=s'.heap.objs.size->s'.gens=s.gens->s'.os=s.os->∀(K:Z->BN->Prop)(E:Z->BN->Prop),K (.type "str") s'->B9 c.NU A (EJ p env) K E s')
  (aB:∀s':BN,(∀a o,a≠L->s.heap.get? a=H o->s'.heap.get? a=H o)->s.heap.objs.size<=s'.heap.objs.size->s'.gens=s.gens->s'.os=s.os->Q (.ret (.bool (msg==words))) s'):
  B9 c.NU A (Ga env b (.ref e)) (λaE d=>B9 c.NU A (GZ [.Return (H (.Compare n [.Eq] [.Name g z] B)) C] env) (λf aJ=>B9 c.NU y (do bindName env b .none;Kl env b D) (λaE aL=>Q f aL) G aJ) I d) N s:=by
 have ai:(env.scope.kind== .class||(env.scope.kind== .module&&env.locals !=env.globals))=BQ:=U l R;have aO:env.kindOf b=H .local:=i;subst P;rw[G1 i ai];refine FY ac λaR m r bg=>?_
 let d:BN:={s with heap:=aR,toks:=s.toks+1}
 have j:∀a o,a≠env.locals->s.heap.get? a=H o->d.heap.get? a=H o:=λa o an e=>(r.2 a an).trans e;have v:s.heap.objs.size<=d.heap.objs.size:=CL r.1.symm;obtain⟨aT,aW,h⟩:=ah;refine A4 h λx1 x2 x3 gU=>?_;clear h;obtain⟨aX,kt,h⟩:=ao;refine A3 h λaY aZ a4=>?_;clear h;have a9:d.heap.ExcAt e "ValueError" (.ref t):=⟨aT,aW,j _ _ am x1,x2,x3,gU⟩;have ba:d.heap.TupAt t [.str msg q]:=⟨aX,kt,j _ _ ap aY,aZ,a4⟩;refine Ld (KY (Ma ?_ R));refine U ax<|wpAny_bind (ay d j v R R _ _ (lO (k:=.machine) R (la R R ?_)));refine Dm (HG (FU l i m.ns (if_pos R) (D3 (Fx ?_))) T);refine⟨⟨.machine,.inr (.inl R),λQ E bc=>?_⟩,?_⟩
 .unfold Gg;exact BW bc
 refine Na Ns av a9 ba<|wpAny_Name (FU l S m.ns ((if_neg X).trans ae) ?_) W;refine Gr ?_;refine BM (wpAny_bindName ?_);rw[G1 i ai];refine FY m λbi bf w bj=>?_;unfold Kl;refine Jn (wpAny_unbindName_local aO bf.ns (if_pos R) ai λbk bb bl x=>aB _ (λa o an e=>(x.2 a an).trans ((w.2 a an).trans (j a o an e))) (BG v (CL (w.1.symm.trans x.1.symm))) R R)
theorem vP{ah nm:O}{b:DZ}{c6:List DZ}
  {cH aL sn aO:O}{cx di eS e9 fx fK fQ fR:FH}{kf kw:Nat}
  {bl:List DZ}{cs:DZ}{aW:ExceptHandler}{cA cB cC:CQ}{fS:FH}(gw:bl=.Try [b] [aW] [] [] fS::c6)(gx:aW=.ExceptHandler (H cC) (H aL) [cs] fR)(gy:cs=.Return (H (.Compare cA [.Eq] [.Name aO fx] fK)) fQ)(gK:cC=.Name cH cx)(gL:cB=.Name sn di)
  (aJ:fi c a ah nm cK bl aY bi bz cc)(ae:bB)(ac:hh c σ ah nm cK bl aY bi bz cc m b6 as σ' xs gc)(g2:σ'.ag=σ.ag)
  (g3:ae.aM=aY/\ae.fu=nm++".<locals>."/\ae.gb=H a/\ae.fk=.ref cc/\ae.b0=fs σ'.aa aY.names [])(g4:ae.Ok c (σ'.Ob.b0 aY.names).aa)(g5:fD ae xs (σ'.Ob.b0 aY.names) gc σ₁)
  (N:(cH,cQ.Ow (.type "ValueError"))∈ae.bN)(hs:(sn,cQ.Ow (.type "str"))∈ae.bN)(cE:(aL,cQ.ag kf)∈ae.bN)(cF:(aO,cQ.ag kw)∈ae.bN)(P:aO≠aL)
  (hu:∀env,EJ cA env=(do FP e9 (←EJ cB env) [] (GA e9 (Ez [.Name aL eS] env)) (EB e9 (DI [] env))))
  (h:∀L,WS (c.a5 L) d ae [b] σ₁ (λj j=>False) (λx cM=>x=⟨"ValueError",[msg]⟩/\J cM.ag kw=H (.ab (.str words))/\Q (.ab (.bool (msg==words))) (cM.N1 σ)))(hw:aY.isCoroutine=BQ:=by rfl)(hx:aY.isGenerator=BQ:=by rfl):WC c (d+1) a m b6 as σ Q X:=by
 obtain⟨rfl,S⟩:=g3;refine A4 S λh2 hy hP hQ=>?_;clear S;intro A g s vs W r hv;obtain⟨ii,ij,⟨o,iJ,iK,iL,ji,jj,Cm,aW⟩,jk,jl,jm,jT,jU,kH⟩:=aJ;refine J6 W.Oa (r.q _ _ jj ii) aW hw hx R ⟨cc,jk,jl,jm,R,r.q _ _ jT ij,jU,kH⟩<|ac iJ iK iL ji _ _ _ g s vs W.Qb.G r hv λbg ax kI kJ ai lG=>?_
 refine(?_:B9 c.NU A.in1 (EC ae.aM C1 [] (xs.zip kI) (nm++".<locals>.") (H a) (.ref cc) B2 Dy) _ _ ax);refine br h2 (br hy (lM (cl:=[]) (Fr:=0) W.Qb ai (λj h=>nomatch h) hQ g4 g5 lG hP λL bu aZ bv cS bx cV w=>?_));refine⟨bx.P9,Mx ?_⟩;have lH:∀{n:V},n.N1 σ'=n.N1 σ:=λ{n}=>by unfold V.N1;exact U g2 R
 have cW:=W.RI w.L (env:=ae.N3 bu.a L L) R;refine U gw<|wpAny_execs_cons (wpAny_Try_except (CB (h L (A.deeper _) bu aZ L L cW (bx.a5 cV) cV w) (λCn ao mB=>?_) λv ao mD=>?_))
 .obtain⟨_,_,_,_,_,_,_,z⟩:=mB;exact z.elim
 obtain⟨x,p,n,a4,bC,bD,mE,rfl,oi,qm⟩:=mD;obtain⟨fJ,bH,uo⟩:=W.QR;have cX:=bx.bX;obtain⟨uq,ur,aT,aX,bc,cG⟩:=bD.ns;refine yl (φ:=λK E=>B9 c.NU _ (Fm v _) (λj aZ=>B9 c.NU _ (Gb v B2) (λj ao=>B9 c.NU _ (handleBy v _ _) K E ao) E aZ) E ao) λCo Cp us=>?_;refine vx (c:=c.a5 L) (I1 bH) R (λcH N=>?_) bC mE cX λi k1 k2 c1 c2 ut Bu=>?_
 .rcases BX.mp N with rfl|N
  .exact⟨by refine(?_:ae.aM.kind≠.module);refine U w.L ?_;decide,L,.head _,R⟩
  .obtain⟨aT,a,aX,bc⟩:=uo cH N;exact⟨aT,a,.tail _ aX,bc⟩
 have Bv:=a4.Pu bC (BJ _) k1 k2 c1 c2;have F:=aA.PY (bC.Pu cX k1 k2 c1 c2 ut);obtain⟨Cq,Cr,c7,BE,BF⟩:=cG kw _ oi;obtain⟨⟨BH,BO⟩,_⟩:=w.bN _ cF;rw[show ae.aG[kw]?=H aO from BO]at c7;cases c7;obtain⟨⟨Cs,rfl⟩,_⟩:=BF.On;obtain⟨⟨BR,Ct⟩,_⟩:=w.bN _ cE;obtain⟨Cu,BU⟩:=k2 L ur (.head _) aT
 have a9:i.heap.Ns1 L uq:=by
  obtain⟨G,bS,BV,S⟩:=bc;refine A3 S λB BY ap=>?_;clear S;rw[aT]at B;cases B;exact⟨_,bS,BV,BU,BY,ap⟩
 obtain⟨e,t,eC,ba,df,aR,bb,Cv,rfl,Cw,x3,gU,av,dj,dt,B0,bQ,B1,B3⟩:=Bu
 obtain⟨du,rfl⟩:∃du,aR=#[.str msg du]:=by
  obtain⟨l⟩:=aR;obtain⟨_,_,_,_,e,_,bU,ay⟩:=f8 B1;obtain⟨t,bH,_⟩:=EL bU;exact⟨t,congrArg Mj (BK (show l=_ from e) (U bH (U ((C4 ay).1) R)))⟩
 let b9:E6:=ae.N3 bu.a L L
 have dx:ae.N3 p.a L L=b9:=w.Pi a4.r L L;have dy:=bv;have Cy:L<ao.heap.objs.size:=Ca aT;have B4:∀b,ls p n aZ.heap.objs.size b->ax.heap.objs.size<=b:=λb ac=>BG cS.bX ac.1;have dG:¬b3 p n L:=bD.bm;have dO:¬p.F L:=bD.aK;have dW:=ai.Ru bv;have d1:aF c e6 bg σ' ax p (n.N1 σ') i:=aF.ag (m:=n.ag) (((cS.N8 λj h=>h.elim).NT (aF.ag (Bv.PY R))).QV bv);rw[lH]at d1
 have B5:∀y:BN,(∀a o,a≠L->(∀bf,o.data≠.fields bf)->i.heap.get? a=H o->y.heap.get? a=H o)->(∀a o,a≠L->(b3 p n a\/p.F a\/a<ax.heap.objs.size)->i.heap.get? a=H o->y.heap.get? a=H o)->i.heap.objs.size<=y.heap.objs.size->y.gens=i.gens->y.os=i.os->PH rV c g σ s Q (.bool (msg==words)) y:=λy d2 cj d9 ef B6=>by
  have eg:∀a o,i.heap.get? a=H o->a∉c.bE->(ax.heap.objs.size<=a->b3 p n a\/p.F a\/fP o)->y.heap.get? a=H o:=λa o an j h=>by
   by_cases I:a<ax.heap.objs.size
   .exact cj a o (BZ (BL I dy)) (.inr (.inr I)) an
   .rcases h (Ea I)with h|h|h
    .exact cj a o (λq=>dG (q▸h)) (.inl h) an
    .exact cj a o (λq=>dO (q▸h)) (.inr (.inl h)) an
    .obtain⟨_,aR,bb,h⟩:=h;exact d2 a o (λq=>nE a9 q an h nofun) (λbf q=>by rw[h]at q;cases q) an
  have eo:∀a o,a∈c.bE->i.heap.get? a=H o->∃B7,y.heap.get? a=H {o with slots:=B7}:=λa o D an=>by
   obtain⟨_,_,_,G,B,_,ap⟩:=F.bE a D;rw[an]at B;cases B;exact⟨o.slots,d2 a o (λq=>dW (q▸D)) ap an⟩
  have B8:=F.Pu ai.bX eg eo d9 ef B6;have Cb:=d1.Pu (aA.ag F) (BJ _) eg eo d9 ef;exact⟨.ab (.bool (msg==words)),p,n.N1 σ,kJ.NT Cb,aA.ag B8,.Oz _,qm⟩
 refine U gx<|wpAny_handleBy_builtin_as Nr x8 yH<|U gK ?_;refine(?_:B9 _ _ (EJ (.Name cH cx) b9) _ _ _);refine br dx<|nj N F (w.be a4.aa) ⟨R,⟨ba,x3,gU⟩,U (if_pos R) ?_⟩
 have Cc:∀(ew:DX)(K:Unit->BN->Prop)(E:Z->BN->Prop),(∀C:BN,(∀a o,(∀bf,o.data≠.fields bf)->i.heap.get? a=H o->C.heap.get? a=H o)->(∀a o,(b3 p n a\/p.F a\/a<ax.heap.objs.size)->i.heap.get? a=H o->C.heap.get? a=H o)->i.heap.objs.size<=C.heap.objs.size->C.gens=i.gens->C.os=i.os->C.heap.ExcAt e "ValueError" (.ref t)->K () C)->
   B9 c.NU ew (Gb (.ref e) B2) K E i:=λew K E bj=>by
  unfold Gb;rcases B3 with Cd|⟨T,Cz,bf,bU,ay,Ce,eB,eH,Cf⟩
  .refine BM (EW x3 av Cd (U (if_neg (by decide)) ?_));exact BW (bj i (λj j j e=>e) (λj j j e=>e) (BJ _) R R ⟨ba,eC,x3,gU,av,dj⟩)
  .refine BM (EW x3 av bU (U (if_pos (show(JU T !=DV)=u from by simp)) ?_));refine Hj eB eH (C9.mp Cf).1 ?_;have ck:∀b,b≠T->(i.heap.update T (Fy (·.setIfInBounds 3 ((B2:Option M).elim DV λf=>Ey f)))).get? b=i.heap.get? b:=λb ac=>Dj _ _ _ _ ac;refine bj _ (λa o k e=>(ck a λq=>?_).trans e) (λa o k e=>(ck a λq=>?_).trans e) (CL (by simp[HJ])) R R ⟨ba,eC,(ck e (DN Ce)).trans x3,gU,av,dj⟩
   .subst q;rw[eB]at e;cases e;exact k _ eH
   .subst q;rcases k with k|k|k
    .exact ay.2.1 k
    .exact ay.2.2 k
    .exact absurd k (BP.mpr (B4 _ ay))
 refine Cc _ _ _ λC aB bk eI fa fn Cg=>?_
 have Ch:=F.Pu ai.bX (λa o an j h=>by
   by_cases I:a<ax.heap.objs.size
   .exact bk a o (.inr (.inr I)) an
   .rcases h (Ea I)with h|h|h
    .exact bk a o (.inl h) an
    .exact bk a o (.inr (.inl h)) an
    .obtain⟨_,aR,bb,h⟩:=h;exact aB a o (λbf q=>by rw[h]at q;cases q) an) (λa o D an=>by
   obtain⟨_,_,_,G,B,_,ap⟩:=F.bE a D;rw[an]at B;cases B;exact⟨o.slots,aB a o ap an⟩) eI fa fn
 have fo:∀o,i.heap.get? L=H o->∀bf,o.data≠.fields bf:=λo e bf q=>nE a9 R e q nofun;have fp:=a9.at λo e=>aB L o (fo o e) e;have Ci:=λq=>nE a9 q dt bQ nofun;have Cj:e≠L:=λq=>fo ba (q▸x3) _ av;have Ck:=w.be a4.aa;refine U gy<|xH w.L R BR BH (w.bN _ cE).2.1 (w.bN _ cF).2.1 P fp BE Cg ⟨df,bb,aB t df (λbf q=>by rw[bQ]at q;cases q) dt,B0,bQ⟩ Cj Ci ?_ (hu _) (λs' aE cq am G K E bj=>?_) (λs' aE cq am G=>?_)
 .exact CP (C8 (by decide:2<=800) _) cW.QC
 .refine U gL ?_;refine(?_:B9 _ _ (EJ (.Name sn di) b9) _ _ _);refine br dx<|nj hs (Ch.Pu ai.bX (λa o an D h=>aE a o (λq=>?_) an) (λa o D an=>⟨o.slots,aE a o (λ(q:a=L)=>dW (q▸D)) an⟩) cq am G) Ck bj;have q:a=L:=q;rcases h (q▸dy)with h|h|h
  .exact dG (q▸h)
  .exact dO (q▸h)
  .obtain⟨_,aR,bb,h⟩:=h;exact nE fp q an h nofun
 .exact us _ _<|B5 s' (λa o P k e=>aE a o P (aB a o k e)) (λa o P k e=>aE a o P (bk a o k e)) (BG eI cq) (am.trans fa) (G.trans fn)
end
section
set_option tactic.hygienic false
section
variable{ck:F0}{A:DX}{cw:MW}{fa:Kf}{n:Nat}{cA:BN}{c:Code}{cF:List LZ}{s:BN}{env:E6}
 {K:JD->FB Lp}{cX:Z->FB Lp}{jl:Bool->Bool}{jm:List Z->List Z}
theorem nc{st:DZ}(h:B9 ck (A.over c cF) (MR st env) (λa s'=>Ju ck A cw fa n cA c (K a) cF s') (λb b=>False) s):Ju ck A cw fa n cA c ((MR st env).wrap K cX jl jm) cF s:=
 Hg (CB h (λb b x=>x) λb b x=>x.elim)
theorem qd{hs:CQ}{bx d:List DZ}{pos:FH}(h:B9 ck (A.over c cF) (It hs env (EJ hs env)) (λb s'=>(b=u->Ju ck A cw fa n cA c ((GZ bx env).wrap K cX jl jm) cF s')/\(b=BQ->Ju ck A cw fa n cA c ((GZ d env).wrap K cX jl jm) cF s')) (λa a=>False) s):
  Ju ck A cw fa n cA c ((MR (.If hs bx d pos) env).wrap K cX jl jm) cF s:=by
 refine U (exec_If ..) ?_;refine(?_:Ju ck A cw fa n cA c (.at pos λa=>((It hs env (EJ hs env)>>=λb=>if b=u then GZ bx env else GZ d env)).wrap K cX jl jm) cF s);refine L1<|U (Em ..) (U (E1 ..) (Hg (CB h (λb s' ac=>?_) λa a x=>x.elim)))
 cases b with
 |true=>exact ac.1 R
 |false=>exact ac.2 R
theorem zf{target c1:CQ}{bx:List DZ}{pos:FH}
  (h:B9 ck (A.over c cF) (EJ c1 env) (λx ax=>B9 ck (A.over c cF) (HF x) (λit b=>∀p,Ju ck A cw fa n cA (.forLoop target it bx [] env) (ck.den (.forLoop target it bx [] env))
   (.ret (λr=>((match r with| .ok f=>(.pure f:FB JD)| .error e=>.raise e).onRaise λ(x:Z)=>do
    if(←field x 1)==DV then unsupported "frame.own-activation:exception-without-traceback"
    Gb x env.frame).wrap K cX jl jm) B2 (jl BQ) (jm []) c p []::cF) b) (λa a=>False) ax) (λa a=>False) s)
  (d:∀x,Dl c1 env x=CV x):Ju ck A cw fa n cA c ((MR (.For target c1 bx [] pos) env).wrap K cX jl jm) cF s:=by
 refine U (exec_For ..) ?_;refine(?_:Ju ck A cw fa n cA c (.at pos λa=>((EJ c1 env>>=λx=>Dl c1 env x>>=λx=>F6 c1.pos>>=λa=>GT [x] (HF x)>>=λit=>runOwn (.forLoop target it bx [] env) env)).wrap K cX jl jm) cF s);refine L1<|U (Em ..) (U (E1 ..) (Hg (CB h (λx ax g=>?_) λa a x=>x.elim)));refine U (d ..) ?_;refine(?_:Ju ck A cw fa n cA c (.at c1.pos λa=>(GT [x] (HF x)>>=λit=>runOwn (.forLoop target it bx [] env) env).wrap K cX _ _) cF ax);refine L1<|U (Em ..) (U (E1 ..) (Hg (C2 (CB g (λit b i=>?_) λa a x=>x.elim))));exact seg_call i
end
section
variable{prog:Fa}{w:HX}{A:DX}{cw:MW}{fa:Kf}{n:Nat}{cA:BN}{cF:List LZ}{s:BN}{env:E6}
noncomputable def qf(target:CQ)(it:Z)(bx:List DZ)(env:E6):JD->FB Lp
 | .next| .cont=>.pure (.again (.forLoop target it bx [] env))
 | .brk=>.pure (.done .next)
 | .ret v=>.pure (.done (.ret v))
noncomputable def n6(env:E6):Z->FB Lp:=λe=>(do Fm e env;G0 e:FB Unit).wrap (λa=>.raise e) .raise id id
theorem rx{target:CQ}{it:Z}{bx:List DZ}
  (h:B9 (DA prog w) (A.over (.forLoop target it bx [] env) cF) (Hd it) (λr ax=>match r with
   |none=>Ju (DA prog w) A cw fa n cA (.block [] env) ((DA prog w).den (.block [] env)) cF ax
   |some v=>B9 (DA prog w) (A.over (.forLoop target it bx [] env) cF) (DE target it v) (λa b=>B9 (DA prog w) (A.over (.forLoop target it bx [] env) cF) (Gf target env v)
     (λa c=>Ju (DA prog w) A cw fa n cA (.forLoop target it bx [] env) ((GZ bx env).wrap (qf target it bx env) (n6 env) id id) cF c) (λa a=>False) b) (λa a=>False) ax) (λa a=>False) s):
  Ju (DA prog w) A cw fa n cA (.forLoop target it bx [] env) ((DA prog w).den (.forLoop target it bx [] env)) cF s:=by
 refine(?_:Ju _ A cw fa n cA _ ((forTurn target it bx [] env).onRaise (λx=>do Fm x env;G0 x)) cF s);unfold forTurn;refine U (Sem.onRaise_eq_wrap ..) ?_;refine(?_:Ju _ A cw fa n cA _ (.at target.pos λa=>((Hd it).onRaise (λa=>F6 {target.pos with line:=0})>>=λr=>_).wrap _ _ id id) cF s);refine L1<|U (Em ..) (U (E1 ..) (Hg (Jn (CB h (λr ax d=>?_) λa a x=>x.elim))))
 cases r with
 |none=>exact Jv R d
 |some v=>
  refine(?_:Ju _ A cw fa n cA _ ((DE target it v>>=λa=>Gf target env v>>=λa=>GZ bx env>>=λf=>_).wrap _ _ _ _) cF ax);refine U (Em ..) (U (E1 ..) (Hg (CB d (λa b g=>?_) λa a x=>x.elim)));refine U (Em ..) (U (E1 ..) (Hg (CB g (λa c i=>?_) λa a x=>x.elim)));refine U (Em ..) (U (E1 ..) (U (Sem.wrap_congr (GZ bx env) _ _ (K':=qf target it bx env) (H':=n6 env) (λf=>by cases f <;> rfl) (λe=>by first|rfl|(unfold n6;rw[Kn];rfl)|exact Kn _ _)) ?_));exact i
end
noncomputable def ey:List Nat->Nat->Bool->List (Nat×O)
 |[],i,u=>[(i-1,"\\")]
 |[],_,BQ=>[]
 |ch::a9,i,u=>(i,"\\"++⟨#[ch]⟩)::ey a9 (i+1) BQ
 |ch::a9,i,BQ=>if(⟨#[ch]⟩:O)="\\" then ey a9 (i+1) u else(i,⟨#[ch]⟩)::ey a9 (i+1) BQ
theorem rW{ch i:Nat}{a9:List Nat}:ey (ch::a9) i BQ=if(⟨#[ch]⟩:O)="\\" then ey a9 (i+1) u else(i,⟨#[ch]⟩)::ey a9 (i+1) BQ:=R
noncomputable def i1(s:DZ):CQ:=(jP s).1
noncomputable def jg(s:DZ):List DZ:=(jP s).2.1
noncomputable def f0:DZ:=((az 8).h[2]?).getD (.Pass ⟨0,0,0,0⟩)
structure oq(St:Nat->CG->Prop)(L:M)(i:Nat)(esc:Bool)(s:BN):Prop where
 ns:∃bv,s.heap.Ns1 L bv/\bv "escape"=H (.bool esc)/\(esc=u->∃t,bv "pos"=H (.int ((i:Int)-1) t))
 en:St i s.heap
noncomputable def f6(a:List M)(s s':BN):Prop:=(∀b o,(b∉a\/fP o)->s.heap.get? b=H o->s'.heap.get? b=H o)/\s.heap.objs.size<=s'.heap.objs.size/\s'.gens=s.gens/\s'.os=s.os
theorem f6.N6(b:List M)(s:BN):f6 b s s:=⟨λa a a e=>e,BJ _,R,R⟩
variable{a:BN}
theorem f6.NT{f:List M}{b c:BN}(x:f6 f a b)(y:f6 f b c):f6 f a c:=
 ⟨λd o h e=>y.1 d o h (x.1 d o h e),BG x.2.1 y.2.1,y.2.2.1.trans x.2.2.1,y.2.2.2.trans x.2.2.2⟩
theorem f6.to{c:List M}{ay:CG}{tk:Nat}(k:∀b o,(b∉c\/fP o)->a.heap.get? b=H o->ay.get? b=H o)(d:a.heap.objs.size<=ay.objs.size):f6 c a {a with heap:=ay,toks:=tk}:=⟨k,d,R,R⟩
variable{L:M}{bv:O->Option Z}
theorem m2.Ns1.Qm{h:CG}(x:h.Ns1 L bv){o:Ge}(e:h.get? L=H o):¬fP o:=λd=>by
 obtain⟨_,vs,k,q⟩:=d;obtain⟨f,bS,g,c⟩:=x;refine A3 c λa b i=>?_;clear c;replace a:=e.symm.trans a;cases a;replace b:=q.symm.trans b;cases b
theorem f6.SV{c:List M}{ay:CG}{tk:Nat}(d:a.heap.Ns1 L bv)(f:L∈c)(k:∀b o,b≠L->a.heap.get? b=H o->ay.get? b=H o)(g:a.heap.objs.size<=ay.objs.size):f6 c a {a with heap:=ay,toks:=tk}:=
 ⟨λb o ac e=>k b o (λq=>by
  subst q;rcases ac with ac|ac
  .exact ac f
  .exact m2.Ns1.Qm d e ac) e,g,R,R⟩
noncomputable def sD(v:Z)(p:Nat×O)(s:BN):Prop:=∃T t bb,v=.ref T/\s.heap.IsTuple T #[.int p.1 t,.str p.2 bb]
noncomputable def nB(c:List M)(a:BN->Prop):Prop:=∀s s':BN,a s->(∀b∈c,∀o,s.heap.get? b=H o->s'.heap.get? b=H o)->a s'
noncomputable def kk(a:List M)(ys:List (Nat×O)):Kf:=λn cA v s d=>
 f6 a cA s/\(∀b∈a,b<s.heap.objs.size)/\(∃p,ys[ys.length-1-n]?=H p/\sD v p s)/\∃c:BN->Prop,c s/\nB a c/\∀s'',c s''->d (.send .none) s''
noncomputable def kx(a:List M):MW:=λn cA r s=>r=.ok (.ret .none)/\(n=0/\f6 a cA s)
variable{aO:Type}{n:Nat}
theorem pZ{ys:List aO}{y:aO}{r:List aO}(a:n<=ys.length)(h:ys.drop (ys.length-n)=y::r):0<n/\ys[ys.length-1-(n-1)]?=H y/\ys.drop (ys.length-(n-1))=r/\r.length=n-1:=by
 have b:n=r.length+1:=hn (Kr a) (hn Dh (U h R));subst b;refine⟨GD _,?_,?_,R⟩
 .rw[Lv,D1 1,Hl,←GF (ys.length-_),←JB,h];rfl
 .have e:ys.length-(r.length+1-1)=ys.length-(r.length+1)+1:=(IW (Hx a)).symm;exact U e (hn Ii (U h R))
section
variable{prog:Fa}{w:HX}{A:DX}{E:Z->BN->Prop}{s:BN}{env:E6}
theorem iZ{x:O}{p:FH}{v:Z}{Q:Z->BN->Prop}(a:env.scope=(az 8).aM)(b:(az 8).aM.names.lookup x=H .local)(c:(x==("__debug__":O))=BQ)(d:s.heap.Ns1 env.locals bv)(hv:bv x=H v)(h:Q v s):B9 (DA prog w) A (EJ (.Name x p) env) Q E s:=
 HG (FU (U a R) ((U a b:env.scope.names.lookup x=_)) d.ns hv h) c
theorem lN{x:O}{v:Z}{Q:Unit->BN->Prop}(a:env.scope=(az 8).aM)(b:(az 8).aM.names.lookup x=H .local)(c:s.heap.Ns1 env.locals bv)
  (h:∀ay,ay.Ns1 env.locals (λy=>if y=x then H v else bv y)->Ew env.locals s.heap ay->Q () {s with heap:=ay,toks:=s.toks+1}):B9 (DA prog w) A (Ga env x v) Q E s:=by
 have ai:(env.scope.kind== .class||(env.scope.kind== .module&&env.locals !=env.globals))=BQ:=U a R;rw[G1 ((U a b:env.scope.names.lookup x=_)) ai];exact FY c λay d e f=>h ay d e
theorem l7:(az 8).aM.names.lookup ("escape":O)=H .local:=by decide+kernel
theorem mg:(az 8).aM.names.lookup ("pos":O)=H .local:=by decide+kernel
theorem og:(az 8).aM.names.lookup ("ch":O)=H .local:=by decide+kernel
theorem y5{c:List M}{f:Nat->CG->Prop}{ys:List (Nat×O)}{cF:List LZ}{it:Z}{i ch:Nat}{a9:List Nat}{g:Bool}{cA:BN}{tp y:Jg}
  (a:env.scope=(az 8).aM)(am:env.locals=L)(p:L∈c)(Q:∀i,nB c λs=>f i s.heap)(an:∀(s:BN)i,f i s.heap->∀b∈c,b≠L->∃o,s.heap.get? b=H o/\¬fP o)(r:∀(s s':BN)i,f i s.heap->(∀b o,b≠L->s.heap.get? b=H o->s'.heap.get? b=H o)->f i s'.heap)
  (S:MY cF=B2)(T:cF.any KB=BQ)
  (z:∀(g:Bool)(cA s:BN)(n:Nat),n=(ey a9 (i+1) g).length->n<=ys.length->ys.drop (ys.length-n)=ey a9 (i+1) g->f6 c cA s->oq f L (i+1) g s->Ju (DA prog w) A (kx c) (kk c ys) n cA (.forLoop (i1 f0) it (jg f0) [] env) ((DA prog w).den (.forLoop (i1 f0) it (jg f0) [] env)) cF s)
  (B:n=(ey (ch::a9) i g).length)(C:n<=ys.length)(l:ys.drop (ys.length-n)=ey (ch::a9) i g)(D:f6 c cA s)(d:s.heap.Ns1 L bv)(W:bv "escape"=H (.bool g))(ai:bv "pos"=H (.int i tp))(aL:bv "ch"=H (.str ⟨#[ch]⟩ y))(t:f (i+1) s.heap):
  Ju (DA prog w) A (kx c) (kk c ys) n cA (.forLoop (i1 f0) it (jg f0) [] env) ((GZ (jg f0) env).wrap (qf (i1 f0) it (jg f0) env) (n6 env) id id) cF s:=by
 subst am;have X:=λb ac=>if q:b=env.locals then q▸d.ns.lt else by obtain⟨o,e,_⟩:=an s _ t b ac q;exact Ca e
 refine D4 (qd (HL (iZ a l7 (by decide+kernel) d W (BW ⟨λh1=>?_,λv=>?_⟩))))
 .subst h1;have ao:=l;refine A4 (pZ C ao) λE aT aX bc=>?_;obtain⟨m,rfl⟩:∃m,n=m+1:=⟨n-1,Cg (sA _ _) (eL (Cc (a0 [_] (aq c8 a7) ak a7 ak al E)))⟩;refine D4 (I7 S R T ?_ (U a R) ?_)
  .refine(?_:B9 _ _ (do F6 _;FN (←HY _)) _ _ s);refine BM (C6 (BM (Dm (iZ a mg (by decide+kernel) d ai ?_))));refine Dm (MH (Fk (iZ a og (by decide+kernel) d aL (HS (λae tk=>?_) ?_))))
   .refine D3 ?_;unfold FN;refine Dc ?_ (by size_fits);intro ap F;have G:f6 c cA {s with heap:=s.heap.push {cls:=.type "tuple",data:=.seq #[.int i tp,.str ("\\"++⟨#[ch]⟩) ae]},toks:=tk}:=D.NT (.to (λb o x e=>cN _ _ _ _ e) (cR _ _));refine⟨G,λb ac=>BL (X b ac) (cR _ _),⟨_,aT,_,tp,ae,R,_,B6 _ R,R,_,R⟩,λs=>(∃bv,s.heap.Ns1 env.locals bv)/\f (i+1) s.heap,⟨⟨bv,d.at λo e=>cN _ _ _ _ e⟩,r s _ _ t λb o x e=>cN _ _ _ _ e⟩,λs s' I k=>by obtain⟨⟨bv,h1⟩,h2⟩:=I;exact⟨⟨bv,h1.at (k _ p)⟩,Q _ s s' h2 k⟩,λs''⟨⟨aB,ah⟩,av⟩=>?_⟩;refine F .none s'' ?_;refine D4 (nc (EN (F1 (lN a l7 ah λK N j=>?_))));refine DR ?_;refine DR (Jv R (z BQ s'' _ m (bP bc R) (Cz ‹_›) aX (.SV ah p (λb o ac e=>(j.2 b ac).trans e) (CL j.1.symm)) ⟨⟨_,N,if_pos R,λh=>nomatch h⟩,r s'' _ _ av λb o ac e=>(j.2 b ac).trans e⟩))
   .size_fits
  .first|rfl|decide|(unfold IE;exact U a R)
 .subst v;refine D4 (qd (J5 (iZ a og (by decide+kernel) d aL (Fk (Gr (BW ?_)))) ?_))
  .refine⟨λh1=>?_,λv=>?_⟩
   .have ac:=beq_iff_eq.mp h1;have P:ey (ch::a9) i BQ=ey a9 (i+1) u:=if_pos ac;rw[P]at B l;refine D4 (nc (EN (F1 (lN a l7 d λK N j=>?_))));refine DR ?_;refine DR ?_;refine DR (Jv R ?_)
    exact z u cA _ n B C l (D.NT (.SV d p (λb o ac e=>(j.2 b ac).trans e) (CL j.1.symm))) ⟨⟨_,N,if_pos R,λx=>⟨tp,by
     refine BK (if_neg (by decide+kernel))<|Eq.trans ai ?_;have:((i+1:Nat):Int)-1=(i:Int):=mQ;exact U this R⟩⟩,r s _ _ t λb o ac e=>(j.2 b ac).trans e⟩
   .have ac:¬((⟨#[ch]⟩:O)="\\"):=λq=>by rw[q]at v;exact absurd v (by decide+kernel)
    have P:ey (ch::a9) i BQ=(i,⟨#[ch]⟩)::ey a9 (i+1) BQ:=if_neg ac;rw[P]at B l;refine A4 (pZ C l) λE aT aX bc=>?_;obtain⟨m,rfl⟩:∃m,n=m+1:=⟨n-1,Cg (sA _ _) (eL (Cc (a0 [_] (aq c8 a7) ak a7 ak al E)))⟩;refine D4 (I7 S R T ?_ (U a R) ?_)
    .refine(?_:B9 _ _ (do F6 _;FN (←HY _)) _ _ _);refine BM (C6 (BM (Dm (iZ a mg (by decide+kernel) d ai ?_))));refine Dm (iZ a og (by decide+kernel) d aL (D3 ?_));unfold FN;refine Dc ?_ (by size_fits);intro ap F;have G:f6 c cA {s with heap:=s.heap.push {cls:=.type "tuple",data:=.seq #[.int i tp,.str ⟨#[ch]⟩ y]},toks:=s.toks+1}:=D.NT (.to (λb o x e=>cN _ _ _ _ e) (cR _ _));refine⟨G,λb ac=>BL (X b ac) (cR _ _),⟨_,aT,_,tp,y,R,_,B6 _ R,R,_,R⟩,λs=>oq f env.locals (i+1) BQ s,⟨⟨bv,d.at λo e=>cN _ _ _ _ e,W,λh=>nomatch h⟩,r s _ _ t λb o x e=>cN _ _ _ _ e⟩,λs s' I k=>by obtain⟨⟨bv,h1,ax,K⟩,h2⟩:=I;exact⟨⟨bv,h1.at (k _ p),ax,K⟩,Q _ s s' h2 k⟩,λs'' ay=>?_⟩;refine F .none s'' ?_;refine DR ?_;refine DR ?_;refine DR (Jv R (z BQ s'' s'' m bc.symm (Cz ‹_›) aX (.N6 _ _) ay))
    .first|rfl|decide|(unfold IE;exact U a R)
  .with_unfolding_all rfl
end
section
variable{prog:Fa}{w:HX}{A:DX}{E:Z->BN->Prop}{s:BN}{env:E6}
theorem yb{a:List M}{e:M}{F G:List M}{x:O}{am:Nat->Array Z->Prop}{g:Nat->CG->Prop}{a4:Nat->M->CG->Prop}{ys:List (Nat×O)}{cF:List LZ}
  (W:∀an:DX,an.handled=B2->WalksT prog w an e F G x.cps.size am g a4)(ba:∀i C,am i C->∃t bb ch,x.cps[i]?=H ch/\C=#[.int i t,.str ⟨#[ch]⟩ bb])
  (ao:env.scope=(az 8).aM)(bc:env.locals=L)(ap:L∈a)(av:∀b∈F,b∈a)(ax:L∉F)(bf:∀i,nB a λs=>g i s.heap)(D:∀(s:BN)i,g i s.heap->∀b∈a,b≠L->∃o,s.heap.get? b=H o/\¬fP o)(aB:∀(s s':BN)i,g i s.heap->(∀b o,b≠L->s.heap.get? b=H o->s'.heap.get? b=H o)->g i s'.heap)
  (bg:MY cF=B2)(bi:cF.any KB=BQ)(d:(A.over (.forLoop (i1 f0) (.ref e) (jg f0) [] env) cF).handled=B2)
  (bj:∀(cA s:BN)(n:Nat)(c:Bool)(bv:O->Option Z),n=(ey [] x.cps.size c).length->n<=ys.length->ys.drop (ys.length-n)=ey [] x.cps.size c->f6 a cA s->(∀b∈a,b<s.heap.objs.size)->s.heap.Ns1 L bv->bv "escape"=H (.bool c)->(c=u->∃t,bv "pos"=H (.int ((x.cps.size:Int)-1) t))->
   Ju (DA prog w) A (kx a) (kk a ys) n cA (.block [] env) ((DA prog w).den (.block [] env)) cF s):
  ∀(a9:List Nat)(i n:Nat)(c:Bool)(cA s:BN),x.cps.toList.drop i=a9->i<=x.cps.size->n=(ey a9 i c).length->n<=ys.length->ys.drop (ys.length-n)=ey a9 i c->f6 a cA s->oq g L i c s->
   Ju (DA prog w) A (kx a) (kk a ys) n cA (.forLoop (i1 f0) (.ref e) (jg f0) [] env) ((DA prog w).den (.forLoop (i1 f0) (.ref e) (jg f0) [] env)) cF s:=by
 intro a9
 induction a9 with
 |nil=>
  intro i n c cA s m hi z I K N f
  have bk:i=x.cps.size:=by
   have:=congrArg E3 m;rw[Dh,Cq,HQ]at this;exact Cg hi (aV [_,_,_] au c8 ak (aq au af) ak af al (eL this) (sA _ _))
  subst bk;refine rx ?_;obtain⟨bv,B⟩:=f.ns;refine A3 B λl P ai=>?_;clear B;refine gh ((W _ d).done s _ _ f.en λay tk k aE=>?_);have S:∀b∈a,∀o,s.heap.get? b=H o->¬fP o:=λb ac o e=>if q:b=L then m2.Ns1.Qm l (q▸e)else by obtain⟨bl,j,h⟩:=D s _ f.en b ac q;exact by replace j:=e.symm.trans j;cases j;exact h
  have bu:∀b o,b∉a->s.heap.get? b=H o->ay.get? b=H o:=λb o ac=>k b o λq=>ac (av b ((W _ d).sub b q))
  exact bj cA _ n c bv z I K (N.NT (.to (λb o ac e=>if q:b∈a then(ac.elim (λh=>(h q).elim) λh=>(S b q o e h).elim)else bu b o q e) aE)) (λb ac=>BL (if q:b=L then q▸l.ns.lt else by obtain⟨o,e,_⟩:=D s _ f.en b ac q;exact Ca e) aE) (l.at (k L · λq=>ax ((W _ d).sub L q))) P ai
 |cons ch a9 X=>
  intro i n c cA s m hi z I K N f
  have aJ:i<x.cps.size:=by
   have:=congrArg E3 m;rw[Dh,Cq,Cd]at this;exact aV [_,_,_,_] bV bG (aq bG ak) af aC af al (eR this) (eL (Cc (hi)))
  have bx:x.cps[i]?=H ch:=by
   have:=congrArg List.head? m;rw[List.head?_drop,CN]at this;exact this
  have bz:x.cps.toList.drop (i+1)=a9:=hn Ii (U m R);have X:=λc cA s n=>X (i+1) n c cA s bz aJ;have aL:∀b,b∉a->b∉G:=λb ac q=>ac (av b ((W _ d).sub b q));have aO:L∉G:=λq=>ax ((W _ d).sub L q);obtain⟨bv,B⟩:=f.ns;refine A3 B λl P ai=>?_;clear B;subst bc;refine rx<|gh ((W _ d).item i s _ _ aJ f.en λT C h1 aR bC cK bD aT k1 bH=>?_);obtain⟨t,bb,cM,ae,rfl⟩:=ba i C bC;replace ae:=bx.symm.trans ae;cases ae;have bQ:=(W _ d).apart i T _ aT;refine gh ((W _ d).go _ _ _ i T {s with heap:=h1,toks:=aR} _ _ aT λh2 bS k2 bU=>?_);have b6:h2.IsTuple T #[.int i t,.str ⟨#[ch]⟩ bb]:=by obtain⟨o,b9,r⟩:=bD;exact⟨o,k2 _ _ bQ b9,r⟩
  refine gh (wpAny_assign_Tuple (s:={s with heap:=h2,toks:=aR}) d b6 R R λcj ck=>?_);have k3:∀b o,h2.get? b=H o->cj.get? b=H o:=λb o e=>ck b o (BZ (Ca e)) e;have cq:=((l.at (k1 env.locals · aO)).at (k2 env.locals · aO)).at (k3 _)
  have aW:∀(x:O)(p:FH)v(s:BN)(bv:O->Option Z)(Q:Unit->BN->Prop)(E:Z->BN->Prop),(az 8).aM.names.lookup x=H .local->s.heap.Ns1 env.locals bv->(∀ay,ay.Ns1 env.locals (λy=>if y=x then H v else bv y)->Ew env.locals s.heap ay->Q () {s with heap:=ay,toks:=s.toks+1})->B9 (DA prog w) (A.over (.forLoop (i1 f0) (.ref e) (jg f0) [] env) cF) (Gf (.Name x p) env v) Q E s:=
   λx p v s bv Q E cs z h=>Gy (lN ao cs z h)
  refine(?_:B9 _ _ (do GT [.str ⟨#[ch]⟩ bb] (Gf (.Name "pos" _) env (.int i t));do GT [] (Gf (.Name "ch" _) env (.str ⟨#[ch]⟩ bb));CV ()) _ _ _);refine BM (C2 (aW "pos" _ _ _ _ _ _ mg cq λcS cx aX=>BM (C2 (aW "ch" _ _ _ _ _ _ og cx λah cB aY=>BW λcC=>?_))))
  have cE:=λb o ac e0=>
   have aZ:=λq=>ac (q▸ap)
   (aY.2 b aZ).trans ((aX.2 b aZ).trans (k3 _ _ (k2 b o (aL b ac) (k1 b o (aL b ac) e0))))
  have S:∀b∈a,∀o,s.heap.get? b=H o->¬fP o:=λb ac o e=>if q:b=env.locals then m2.Ns1.Qm l (q▸e)else by obtain⟨bl,j,h⟩:=D s _ f.en b ac q;exact by replace j:=e.symm.trans j;cases j;exact h
  have cG:g (i+1) ah:=aB {s with heap:=h2} {s with heap:=ah} _ bS λb o ac e0=>(aY.2 b ac).trans ((aX.2 b ac).trans (k3 _ _ e0));have cH:s.heap.objs.size<=ah.objs.size:=BG bH (BG bU cC);refine y5 (tp:=t) ao R ap bf D aB bg bi X z I K (N.NT (.to (λb o ac e=>if q:b∈a then(ac.elim (λh=>(h q).elim) λh=>(S b q o e h).elim)else cE b o q e) cH)) cB ?_ ?_ (if_pos R) cG
  .exact BK (if_neg (by decide+kernel)) (BK (if_neg (by decide+kernel)) P)
  .exact BK (if_neg (by decide+kernel)) ((if_pos R))
end
section
variable{prog:Fa}{w:HX}{A:DX}{E:Z->BN->Prop}{s:BN}{env:E6}
noncomputable def kK(e it:M)(x:O)(t:Jg)(i:Nat)(h:CG):Prop:=(∃a,MV h e it i a)/\h.IsStrIter it (FQ x) x t i
theorem wK{e it:M}{x:O}{t:Jg}(b:e≠it):∃g,∀a:DX,a.handled=B2->WalksT prog w a e [e,it] [e,it] x.cps.size (λi h=>∃t y,(∃c bb,x.cps[i]?=H c/\y=.str ⟨#[c]⟩ bb)/\h=#[.int i t,y]) (kK e it x t) g:=by
 unfold kK
 cases an:x.cps.all (·<128)with
 |true=>
  have d:FQ x="str_ascii_iterator":=by unfold FQ;exact U an R
  refine U d<|⟨_,λa f=>Jp (Draws.strAscii (A:=a.in1) f it x t) e b (by simpa using b) (by simp)⟩
 |false=>
  have d:FQ x="str_iterator":=by unfold FQ;exact U an R
  refine U d<|⟨_,λa f=>Jp (Draws.strWide (A:=a.in1) f it x t) e b (by simpa using b) (by simp)⟩
theorem wt{x:O}{t:Jg}(f:env.scope=(az 8).aM)(av:env.locals=L)(B:A.handled=B2)(C:s.heap.Ns1 L bv)(an:bv "addr"=H (.str x t))
  (ay:∀(aB:DX)(p:FH)(s':BN)(K:Z->BN->Prop)(E:Z->BN->Prop),(∀b o,b≠L->s.heap.get? b=H o->s'.heap.get? b=H o)->K (.type "enumerate") s'->B9 (DA prog w) aB (EJ (.Name "enumerate" p) env) K E s'):
  Ju (DA prog w) A (kx [L,s.heap.objs.size+1,s.heap.objs.size]) (kk [L,s.heap.objs.size+1,s.heap.objs.size] (ey x.cps.toList 0 BQ)) (ey x.cps.toList 0 BQ).length s (.func (az 8).h env) ((DA prog w).den (.func (az 8).h env)) [] s:=by
 subst av;have I:=C.ns.lt
 let it:=s.heap.objs.size
 let e:=s.heap.objs.size+1
 let D:List M:=[env.locals,e,it]
 have N:env.locals∈D:=.head _;have P:env.locals≠e:=BZ (C3 I);have S:env.locals≠it:=BZ I;obtain⟨bC,W⟩:=wK (prog:=prog) (w:=w) (e:=e) (it:=it) (Kp _);refine seg_func<|seg_execs_cons (nc (EN (KN (lN f mg C λh1 aE T=>?_))));refine D4 (nc (EN (F1 (lN f l7 aE λh2 X ae=>?_))));have v:=ae.1.trans T.1;have k2:∀b o,b≠env.locals->s.heap.get? b=H o->h2.get? b=H o:=λb o ac e=>(ae.2 b ac).trans ((T.2 b ac).trans e)
 have hpos:(λy:O=>if y="escape" then H (.bool BQ)else if y="pos" then H (.int 0 s.toks)else bv y) "addr"=H (.str x t):=by
  refine(?_:(if("addr":O)="escape" then _ else _)=_);exact BK (if_neg (by decide+kernel)) (BK (if_neg (by decide+kernel)) an)
 refine D4 (zf (target:=i1 f0) ?_ (by intros;rfl));refine BM (ay _ _ _ _ _ k2 (lO (c:=⟨⟨prog,w,s.heap,s.os,[]⟩,[]⟩) (k:=.machine) R (la R R ?_)));refine Dm (iZ f (by decide+kernel) (by decide+kernel) X hpos (D3 (Fx (⟨⟨.machine,.inr (.inl R),λQ E aJ=>?_⟩,?_⟩))))
 .unfold Gg;exact BW aJ
 refine call_enumerate_str λj z F ah k3=>?_
 have z:MV j e it 0 .none:=by
  have:MV j (h2.objs.size+1) h2.objs.size 0 .none:=z;rw[v]at this;exact this
 have F:j.IsStrIter it (FQ x) x t 0:=by
  have:j.IsStrIter h2.objs.size (FQ x) x t 0:=F;rw[v]at this;exact this
 have aL:JU (h2.objs.size+1)=.ref e:=U v R;refine U aL<|wpAny_pyIter_enum z λp=>?_
 have aO:∀i,nB D λs=>kK e it x t i s.heap:=λi a b h k=>(W A B).frame i _ _ h λd m o g=>k d (.tail _ m) o g
 have aR:∀(a b:BN)i,kK e it x t i a.heap->(∀d o,d≠env.locals->a.heap.get? d=H o->b.heap.get? d=H o)->kK e it x t i b.heap:=λa b i h k=>(W A B).frame i _ _ h λd m o g=>k d o (λq=>by
  rcases BX.mp m with rfl|m
  .exact P q.symm
  .replace q:=(BO.mp m).symm.trans q;exact S q.symm) g
 have aW:∀(a:BN)i,kK e it x t i a.heap->∀b∈D,b≠env.locals->∃o,a.heap.get? b=H o/\¬fP o:=λa i h b ac q=>by
  obtain⟨⟨bD,h1⟩,bH,ai⟩:=h;refine A3 ai λh2 l j=>?_;clear ai;rcases BX.mp ac with rfl|ac
  .exact absurd R q
  .rcases BX.mp ac with rfl|ac
   .exact⟨_,h1,λr=>by obtain⟨_,vs,k,q⟩:=r;cases q⟩
   .exact U (BO.mp ac) ⟨_,h2,λr=>by obtain⟨_,vs,k,q⟩:=r;replace q:=j.symm.trans q;cases q⟩
 refine yb W (λi bQ r=>by obtain⟨aY,y,⟨aZ,a4,aT,aX⟩,bc⟩:=r;exact⟨aY,a4,aZ,aT,BK bc (U aX R)⟩) f R N (λb ac=>.tail _ ac) (λq=>?_) aO aW aR R R ?_ ?_ x.cps.toList 0 _ BQ s _ R (Cm _) R (BJ _) (U (Fj ..) R) ?_ ⟨⟨_,X.at λo g=>k3 _ o g,?_,λh=>nomatch h⟩,⟨⟨.none,z⟩,F⟩⟩
 .rcases BX.mp q with q|q
  .exact P q
  .exact S (BO.mp q)
 .refine(?_:(A.over _ _).handled=B2);simp only[Around.over,marksOver,List.foldr,Frame.marks,B]
  first|rfl|decide
 .intro cA ax n bS bU am G a9 ao ba ap bb bf;refine seg_leaf (.ok .next) ?_;refine D4 (qd (HL (iZ f l7 (by decide+kernel) ap bb (BW ⟨λh1=>?_,λbg=>?_⟩))))
  .subst h1;obtain⟨tp,bi⟩:=bf R;have bj:=a9;refine A4 (pZ G bj) λbk aT aX bc=>?_
   have bl:0<x.cps.size:=by
    rcases Nat.eq_zero_or_pos x.cps.size with h|h
    .have:x.cps.toList=[]:=by rw[←Gt,Cq];exact h
     rw[this]at G;exact absurd G (GB.mpr bk)
    .exact h
   obtain rfl:n=1:=am;refine D4 (I7 R R R ?_ (U f R) ?_)
   .refine(?_:B9 _ _ (do F6 _;FN (←HY _)) _ _ _);refine BM (C6 (BM (Dm (iZ f mg (by decide+kernel) ap bi ?_))));refine Dm (Fk (k:=0) (pos:=⟨0,0,0,0⟩) (D3 ?_));unfold FN;refine Dc ?_ (by size_fits);intro b6 bu;have bx:((x.cps.size-1:Nat):Int)=(x.cps.size:Int)-1:=An bl;refine⟨ao.NT (.to (λb o l e=>cN _ _ _ _ e) (cR _ _)),λb ac=>BL (ba b ac) (cR _ _),⟨_,aT,_,tp,ax.toks,R,_,B6 _ R,R,0,U bx R⟩,λl=>True,trivial,λl l l l=>trivial,λs'' l=>?_⟩;refine bu .none s'' ?_;refine DR ?_;refine DR<|seg_end (.ok (.ret .none)) ⟨R,R,.N6 _ _⟩
   .first|rfl|decide|(unfold IE;exact U f R)
  .subst bg;have bz:n=0:=am;subst bz;refine DR ?_;refine DR<|seg_end (.ok (.ret .none)) ⟨R,R,ao⟩
 .refine⟨λb o ac g=>k3 _ _ (k2 b o (λq=>ac.elim (λh=>h (q▸N)) λh=>m2.Ns1.Qm C (q▸g) h) g),?_,R,R⟩;have:j.objs.size=h2.objs.size+2:=ah;exact aV [_,_,_] ak au (ct 2 2) af ak af al (eR v) (eR ah)
 .refine(?_:(if("escape":O)="escape" then _ else _)=_);exact(if_pos R)
end
variable{prog:Fa}{w:HX}{A:DX}{E:Z->BN->Prop}{s:BN}
variable{a:M}
theorem Ab{g:Nat}{d:E7}{P:Nat->BN->BN->Prop}{fa:Kf}{Q:Option Z->BN->Prop}(i:A.handled=B2)
  (j:s.heap.NoLimit)(k:A.depth<Mb)
  (e:s.heap.IsGen a g)(h:s.gens[g]?=H d)
  (f:d.Goes (DA prog w) A.in1 (λn cA r ax=>r=.ok (.ret .none)/\P n cA ax) fa n (.send .none) (s.setGen g .running))
  (l:∀v ax c,c.bare=u->fa (n-1) (s.setGen g .running) v ax (λp s''=>match n with
    |0=>False
    |m+1=>c.Goes (DA prog w) A.in1 (λn cA r ax=>r=.ok (.ret .none)/\P n cA ax) fa m p s'')->Q (H v) (ax.setGen g c))
  (q:∀ax,P n (s.setGen g .running) ax->∀ay,(∀b o,ax.heap.get? b=H o->ay.get? b=H o)->ax.heap.objs.size<=ay.objs.size->Q B2 {ax.setGen g .finished with heap:=ay}):
  B9 (DA prog w) A (Hd (.ref a)) Q E s:=by
 unfold Hd
 refine BM (HB (GQ e.typeIs Mn
  (Eh Mn e.typeIs entry_gen_next ?_ (args_gen_next _))))
 refine(?_:B9 _ A.in1 (GS (.ref a) (.send .none)) _ _ s);unfold GS;refine BM (C2 (wpAny_genNumber e (BM (wpAny_genState h ?_))))
 cases d with
 |running=>exact f.elim
 |finished=>exact f.elim
 |_=>
  refine BM (wpAny_roomToWake j k ?_);refine wpAny_resumeQ h f (λx ax t=>?_) (λv ax c ac hv=>?_)
  .obtain⟨rfl,ai⟩:=t;refine(?_:B9 _ A.in1 (MT (.type "StopIteration") []>>=_) _ _ _);refine BM ?_;simp only[MT,FN];refine BM (Dc ?_ (by size_fits));refine BM (EV (a:=DV) (by first|rfl|(simp only[firstArgMember];rfl)) (Dc ?_ (by size_fits)));refine BM (Ku (show A.in1.handled=B2 from i) (BM (Iw ⟨_,B6 _ R,R⟩ Md ?_)));exact BW (q ax ai _ (λb o ac=>Cp _ (Cp _ ac)) (BG (cR _ _) (cR _ _)))
  .exact BW ⟨v,R,BW (l v ax c ac hv)⟩
variable{c:Cx}{g:Gh}{σ:V}{mD:Array E7}
theorem aA.Ot(r:aA c g σ s)(h:JK mD):aA c g σ {s with gens:=mD}:={r with Ob:=h}
variable{T:M->Prop}{σ':V}{s':BN}
theorem aF.SW{am:Gh}(x:aF c T g σ s am σ' s')(h:∀(k:Nat)(y:E7),s.gens[k]?=H y->mD[k]?=H y):aF c T g σ s am σ' {s' with gens:=mD}:={x with Ot:=h}
theorem bd.Ot{c:Bx}{names:List O}(f:bd c names L g σ s):bd c names L g σ {s with gens:=mD}:=⟨f.low,f.bm,f.aK,f.ns⟩
variable{x:O}{v:Z}
theorem AI{c:Bx}{ck:F0}{p:FH}{env:E6}{K:Z->BN->Prop}(G:cr c x v)(b:env.scope.names.lookup x=H .globalImplicit)(aJ:env.scope.kind=.function)(d:(x==("__debug__":O))=BQ)(e:env.globals=C1)(ac:env.builtins=Dy)
  (f:∀a o,c.i.get? a=H o->¬c.N9 a->s.heap.get? a=H o)(h:K v s):B9 ck A (EJ (.Name x p) env) K E s:=HG (pr G b aJ e ac f h) d
noncomputable def er(x:O):List (Nat×O):=ey x.cps.toList 0 BQ
noncomputable def pC(p:Nat×O):Cj:=.tuple [.int p.1,.str p.2]
variable{i:Nat}
theorem z1(a:BR x=u){ch:Nat}(h:x.cps[i]?=H ch):BR ⟨#[ch]⟩=u:=by
 unfold BR at*;rw[Array.all_eq_true]at a;obtain⟨hi,e⟩:=C9.mp h;have:=a i hi;rw[e]at this;simpa using this
theorem mO(a:BR x=u):∀(a9:List Nat)(i:Nat)(b:Bool),(∀ch∈a9,BR ⟨#[ch]⟩=u)->∀p∈ey a9 i b,BR p.2=u
 |[],i,u,_,p,ai=>by refine U (BO.mp ai) ?_;refine(?_:BR ("\\":O)=u);decide+kernel
 |[],_,BQ,_,p,ai=>nomatch ai
 |ch::a9,i,u,h,p,ai=>by
  rcases BX.mp ai with rfl|ai
  .exact qe (by decide+kernel) (h ch (.head _))
  .exact mO a a9 (i+1) BQ (λc aL=>h c (.tail _ aL)) p ai
 |ch::a9,i,BQ,h,p,ai=>by
  rw[rW]at ai;split at ai
  .exact mO a a9 (i+1) u (λc aL=>h c (.tail _ aL)) p ai
  .rcases BX.mp ai with rfl|ai
   .exact h ch (.head _)
   .exact mO a a9 (i+1) BQ (λc aL=>h c (.tail _ aL)) p ai
variable{p:Nat×O}
theorem u4(a:BR x=u)(ai:p∈er x):BR p.2=u:=
 mO a _ _ _ (λch aL=>by
  obtain⟨i,hi⟩:=GM.mp aL;exact z1 a (by rw[←CN];exact hi)) p ai
noncomputable def p8(a cc:M):bB:=
 {aM:=(az 8).aM,aG:=["addr"],bN:=[("addr",.ag 0)],b0:=[],fu:="_iter_escaped_chars"++".<locals>.",gb:=H a,fk:=.ref cc}
variable{cc:M}
theorem wx{c:Bx}:(p8 a cc).Ok c n:=by
 refine⟨R,by refine(?_:Gx (["addr"]:List O));decide+kernel,λq b=>?_,λq b=>nomatch b⟩;simp only[p8,BX,EO,or_false]at b;subst b;exact⟨⟨by refine(?_:(az 8).aM.names.lookup ("addr":O)=_);decide+kernel,R⟩,by decide+kernel,by decide+kernel⟩
theorem rr{names:List O}{L z:Nat}{am:Gh}{s'':BN}{d:List M}(x:aF c T g σ s am σ' s')(r:aA c am σ' s')(f:bd c names L am σ' s')(t:s.heap.objs.size<=z)
  (i:∀b∈d,z<=b/\¬b3 am σ' b/\¬am.F b/\b≠L/\b∉c.bE/\¬c.N9 b)(w:c.i.objs.size<=z)
  (k:∀b o,(b∉d\/fP o)->s'.heap.get? b=H o->s''.heap.get? b=H o)(l:s'.heap.objs.size<=s''.heap.objs.size)(A:s''.os=s'.os)(ac:JK s''.gens)(B:∀(k:Nat)(y:E7),s.gens[k]?=H y->s''.gens[k]?=H y):
  aF c T g σ s am σ' s''/\aA c am σ' s''/\bd c names L am σ' s'':=by
 let ax:BN:={s'' with gens:=s'.gens}
 have k1:∀a o,s'.heap.get? a=H o->a∉c.bE->(z<=a->b3 am σ' a\/am.F a\/fP o)->ax.heap.get? a=H o:=λa o e m h=>k a o (if q:a∈d then(by
  refine A4 (i a q) λaT aX bc n=>?_;rcases h aT with h|h|h
  .exact absurd h aX
  .exact absurd h bc
  .exact .inr h)else .inl q) e
 have k2:∀a o,a∈c.bE->s'.heap.get? a=H o->∃C,ax.heap.get? a=H {o with slots:=C}:=λa o m e=>⟨o.slots,k a o (.inl λq=>(i a q).2.2.2.2.1 m) e⟩;have D:=r.Pu w k1 k2 l R A;have E:=x.Pu r t k1 k2 l R
 have F:bd c names L am σ' ax:=by
  obtain⟨bv,o,h1,h2,G,I⟩:=f.ns;have p:=λo e=>k L o (.inl λq=>(i L q).2.2.2.1 R) e;have K:=r.RZ k1;exact⟨f.low,f.bm,f.aK,bv,o,p o h1,h2,G.at p,λj v N=>by obtain⟨y,P,a,b,e⟩:=I j v N;exact⟨y,P,a,b,e.be K (λn n=>R) (BJ _)⟩⟩
 exact⟨E.SW B,D.Ot ac,F.Ot⟩
variable{d:Nat}{ae:bB}{X:AX->V->Prop}
theorem yx{h:CG}{F:M->Prop}{ρ:Nat->M}(hv:sD v p s)(ai:BR p.2=u):a8 c s.heap F ρ n (.ab (pC p)) v:=by
 obtain⟨T,t,bb,rfl,o,h1,h2,k,a⟩:=hv;refine .ab (as:=[]) (.tuple h1 h2 a (.cons (.int _ _) (.cons (.str _ _) .nil))) (λb h=>nomatch h) ?_;simp[pC,DH,Cy,ai]
inductive r0(c:Cx)(d:Nat)(ae:bB)(target:CQ)(bx:List DZ)(x:O)(σ:V)(Q:bY->V->Prop):Prop
 |mk:∀(Inv:Nat->V->Prop),Inv 0 σ->(∀k p σ₂,(er x)[k]?=H p->Inv k σ₂->∃σ₃,gC ae target σ₂ (.ab (pC p)) σ₃/\WS c d ae bx σ₃ (λfl σ₄=>match fl with| .aa=>Inv (k+1) σ₄| .eY=>Inv (k+1) σ₄| .eQ=>Q .aa σ₄| .c0 v=>Q (.c0 v) σ₄) cm)->(∀σ₂,Inv (er x).length σ₂->Q .aa σ₂)->r0 c d ae target bx x σ Q
variable{bx:List DZ}{target:CQ}
theorem q0{N:CQ}{pos ah a4:FH}{aE:O}{bu:M}{Q:bY->V->Prop}
  (aJ:fi c bu "_iter_escaped_chars" "_iter_escaped_chars" (az 8).l (az 8).h (az 8).aM .none .none cc)(G:cr c "enumerate" (.type "enumerate"))(eB:(aE,cQ.Ow (.ref bu))∈ae.bN)
  (h:WE c (d+1) ae N σ (λa σ₁=>∃x,a=.ab (.str x)/\r0 c (d+1) ae target bx x σ₁ Q) X)
  (eC:∀env,EJ (.Call (.Name aE a4) [N] [] ah) env=(do FP ah (←EJ (.Name aE a4) env) [] (GA ah (Ez [N] env)) (EB ah (DI [] env))))
  (eH:∀env,Ez [N] env=[(BQ,EJ N env)])(eI:∀env x,Dl (.Call (.Name aE a4) [N] [] ah) env x=CV x):eK c (d+1) ae (.For target (.Call (.Name aE a4) [N] [] ah) bx [] pos) σ Q X:=λA g s L Fr S r f cH=>by
 refine Iu ?_ (eI _);refine U (eC ..) (U (eH ..) (BM (nj eB r cH ?_)));refine lO (k:=.frame) R (la R R (Dm (WT.NZ h S r f cH R (λa bg σ₁ ax bl bz B cK cM eS cS e9=>D3 (Fx ⟨a1.N4 aJ A bg σ₁ ax _ σ₁.aa B .bT,?_⟩)) λan an y=>y)));obtain⟨x,rfl,fa,fn,fo,fp⟩:=e9;obtain⟨⟨t,rfl⟩,fx⟩:=cS.On;obtain⟨aL,fJ,⟨o,ur,us,ut,Bu,bC,Bv,fK⟩,fQ,fR,gc,gw,gx,gy⟩:=id aJ;refine(?_:B9 c.NU A (Du (.ref bu) [.str x t] []) _ _ ax);refine GU (codeAny_call_generator S.Oa (B.q _ _ bC aL) fK R R R ⟨cc,fQ,fR,gc,R,B.q _ _ gw fJ,gx,gy⟩ (EV (a:=([("addr",Ls x t)]:List (O×Z))) R ?_));refine lM (cl:=[]) (Fr:=0) (σ₁:=⟨σ₁.aa,σ₁.aj,[(0,.ab (.str x))]⟩) S.Qb B (λan h=>nomatch h) R wx (.aU (aH.ag (mV 0 R)) (.a6 _)) (.aU cS .a6) R λT l C a9 aO ap bD BE=>?_
 refine⟨ap.P9,?_⟩
 let a:=C.heap.objs.size
 let i:=C.gens.size
 let bH:E6:=(p8 bu cc).N3 l.a T T
 let cV:Ge:={cls:=.type "generator",data:=.fields #[.int i 0,.str "_iter_escaped_chars" C.toks,.str "_iter_escaped_chars" (C.toks+1)]}
 let j:BN:={C with gens:=C.gens.push (.fresh (.func (az 8).h bH)),toks:=C.toks+1+1,heap:=C.heap.push cV}
 have cW:j.heap.IsGen a i:=⟨cV,_,_,B6 _ R,R,R,R⟩;refine(?_:B9 c.NU A (HF (.ref a)) _ _ j);refine wpAny_pyIter_gen cW ?_
 let z:=ax.heap.objs.size
 let D:List M:=[T,j.heap.objs.size+1,j.heap.objs.size]
 let ys:=er x
 let T':M->Prop:=λb=>b=L\/z<=b
 obtain⟨BF,BH,gK,_⟩:=cK.ns;have gL:L<z:=Ca gK;obtain⟨BR,BU,gU,BV,g2,g3⟩:=bD.ns;have bQ:T<a:=Ca gU;have g4:z<=a:=aO.bX;have av:j.heap.objs.size=a+1:=CH ..
 have cX:∀b,b=a\/b∈D->z<=b/\b≠L/\b∉c.bE/\¬c.N9 b:=λb ac=>by
  have ba:=ac.elim (λq=>q▸g4) λh=>t2 h a9 (by exact cI [_,_,_,_] ak au bV bG fC af ak b1 al a9 bQ (eR av)) (by exact cI [_,_,_,_] ak au bV bG fC af ak af al a9 bQ (eR av))
  exact⟨ba,D0 (BL gL ba),λq=>absurd (B.Sc q) (BP.mpr ba),λq=>absurd (B.t b q) (BP.mpr (BG B.bX ba))⟩
 have g5:a∉D:=λq=>by
  rcases BX.mp q with q|q
  .exact nf (aV [_,_] aC af af ak a7 c8 al bQ (eL q))
  .rcases BX.mp q with q|q
   .exact nf (aV [_,_] aC af b1 ak a7 c8 al (eR av) (eR q))
   .have:=BO.mp q;exact nf (aV [_,_] aC af af ak a7 c8 al (eR av) (eR this))
 have bS:∀{am:Gh}{σ':V}{s':BN},aF c T' bg σ₁ ax am σ' s'->aF c (cy L) bg σ₁ ax am σ' s':=λ{am σ' s'}x=>
  {x with bM:=λb o e bC ao aL bU=>x.bM b o e bC (λq=>q.elim ao λq=>absurd (Ca e) (BP.mpr q)) aL bU,bE:=λb o bU ao e=>x.bE b o bU (λq=>q.elim ao λq=>absurd (Ca e) (BP.mpr q)) e}
 have b6:∀(k:Nat)(y:E7),ax.gens[k]?=H y->k<i:=λk y W=>(C9.mp (aO.Ot k y W)).1;have k3:∀b o,C.heap.get? b=H o->j.heap.get? b=H o:=λb o e=>cN _ _ _ _ e;have hs:bd c ae.aG L l σ₁ C:=aO.PV B cK R
 have c1:aF c T' bg σ₁ ax l σ₁ j/\aA c l σ₁ j/\bd c ae.aG L l σ₁ j:=by
  let b9:BN:={j with gens:=C.gens}
  have x1:aF c T' bg σ₁ ax l σ₁ b9:=(aF.Oc (s'':=b9) aO k3 (cR _ _) R).N8 λan h=>h.elim;have x2:aA c l σ₁ b9:=aA.Oc (aA.ag ap) k3 (cR _ _) R R;have x3:=hs.Oc k3;refine⟨x1.SW λk y W=>?_,x2.Ot (ap.Ob.push R),x3.Ot⟩;have:=aO.Ot k y W;refine BK (Array.getElem?_push_lt (b6 k y W)) ?_;exact br this (bP (Is (b6 k y W)) R)
 refine A3 c1 λhu hw hx=>?_;clear c1
 have hy:∀b,b=a\/b∈D->¬b3 l σ₁ b/\¬l.F b:=λb ac=>by
  have c2:a<=b->¬b3 l σ₁ b/\¬l.F b:=λq=>⟨λh=>absurd (aA.OO (aA.ag ap) h) (BP.mpr q),λh=>absurd (ap.aK b h).1 (BP.mpr q)⟩;rcases ac with q|ac
  .exact c2 (CL q.symm)
  .by_cases q:b=T
   .exact U q ⟨bD.bm,bD.aK⟩
   .exact c2 (t2 (P:=λb=>b≠T->a<=b) ac (λq=>absurd R q) (λan=>by exact a0 [_,_] aC af ak b1 al (eR av)) (λan=>by exact a0 [_,_] aC af ak af al (eR av)) q)
 obtain⟨BW,BY,hP,hQ,ii⟩:=g3 0 _ R;cases hP;obtain⟨⟨BZ,rfl⟩,_⟩:=ii.On
 have ij:Ju c.NU A.in1 (kx D) (kk D ys) ys.length (j.setGen i .running) (.func (az 8).h bH) (c.NU.den (.func (az 8).h bH)) [] (j.setGen i .running):=
  wt (s:=j.setGen i .running) (L:=T) R R S.Qb.G (g2.at λo e=>k3 _ o e) hQ λB0 p s' K E bb iJ=>
   AI G (by refine(?_:(az 8).aM.names.lookup ("enumerate":O)=_);decide+kernel) R (by decide+kernel) R R (λb o e aL=>bb b o (λq=>absurd (Ca e) (BP.mpr (q▸BG B.bX a9))) (k3 _ _ (ap.q b o e aL))) iJ
 refine o7 (λn s'=>∃cj am σ',s'.gens[i]?=H cj/\s'.heap.IsGen a i/\cj.Goes c.NU A.in1 (kx D) (kk D ys) n (.send .none) (s'.setGen i .running)/\n<=ys.length/\fa (ys.length-n) σ'/\aF c T' bg σ₁ ax am σ' s'/\aA c am σ' s'/\bd c ae.aG L am σ' s'/\∀b,b=a\/b∈D->¬b3 am σ' b/\¬am.F b) (λn s' B1 B2 B4 bf iK c6 iL=>?_) ys.length
  ⟨_,l,σ₁,Array.getElem?_push_size,cW,⟨R,ij⟩,BJ _,by exact U (Fj ..) fn,hu,hw,hx,hy⟩
 obtain⟨cj,am,σ',aR⟩:=bf;refine A9 aR λc7 df ji di dj aW bi dt aY=>?_;clear aR;have jj:=(C9.mp c7).1
 have du:∀b∈D,z<=b/\¬b3 am σ' b/\¬am.F b/\b≠L/\b∉c.bE/\¬c.N9 b:=λb ac=>by
  refine A4 (cX b (.inr ac)) λaT aX bc cG=>?_;obtain⟨dG,fS⟩:=aY b (.inr ac);exact⟨aT,dG,fS,aX,bc,cG⟩
 have dx:∀(gens:Array E7)(y:E7),gens=(s'.setGen i .running).gens->y.bare=u->JK (gens.setIfInBounds i y)/\(∀(k:Nat)(w:E7),ax.gens[k]?=H w->(gens.setIfInBounds i y)[k]?=H w)/\(gens.setIfInBounds i y)[i]?=H y:=λgens y jk ac=>by
  subst jk;refine⟨λw bj=>?_,λk w bj=>?_,?_⟩
  .rcases GY bj with h|h
   .rcases GY h with h|h
    .exact bi.Ob w h
    .exact U h R
   .exact U h ac
  .have bb:=b6 k w bj;refine(?_:((s'.gens.setIfInBounds i .running).setIfInBounds i y)[k]?=H w);refine BK (Hu (D0 bb)) (BK (Hu (D0 bb)) ?_);exact aW.Ot k w bj
  .refine(?_:((s'.gens.setIfInBounds i .running).setIfInBounds i y)[i]?=H y);rw[Array.getElem?_setIfInBounds_self_of_lt];simpa using jj
 refine Ab (prog:=c.PG) (w:=c.w) S.G bi.P9 S.Oa df c7 ji (λv ck bk ac W=>?_) (λdy ai ay k jl=>?_)
 .obtain⟨I,jm,⟨p,ai,jT⟩,B7,aR⟩:=W;refine A3 aR λbf jU dO=>?_;clear aR
  cases n with
  |zero=>exact(dO _ bf).elim
  |succ m=>
  refine A3 (dx ck.gens bk I.2.2.1 ac) λcq cs dW=>?_
  let aB:BN:=ck.setGen i bk
  refine A3 (rr (s'':=aB) (z:=z) aW bi dt (BJ _) du B.bX (λb o ac e=>I.1 b o ac e) I.2.1 I.2.2.2 cq cs) λkH kI kJ=>?_;obtain⟨aZ,nm,lG,lH,d1⟩:=df;have cx:aB.heap.get? a=H aZ:=I.1 a aZ (.inl g5) lH;have B8:DE target (.ref a) v=DE target (.ref a) v:=R;refine(?_:B9 c.NU A (DE target (.ref a) v) _ _ aB);refine pQ ⟨aZ,"generator",cx,d1.1,by decide,by decide⟩ ?_;have d2:ys[ys.length-(m+1)]?=H p:=by refine br ai ?_;exact congrArg (ys[·]?) A0
  obtain⟨Cb,ao,eg⟩:=fo _ p σ' d2 dj;have mB:=cM.be aW.aa;have mD:=(cM.Pi aW.r L Fr).trans eS;have mE:=yx (c:=c) (F:=am.F) (ρ:=am.a) (n:=σ'.aa) (h:=aB.heap) (s:=aB) jT (u4 fx (B5 d2));refine oK S kI kJ mB mD mE ao eg λCc cA cB Cd Ce y cC cE oi bv=>?_;have cF:=kH.NT (y.N8 λan h=>.inl h)
  have d9:=λb o ac e=>by
   refine A4 (cX b ac) λaT aX bc cG=>?_;exact y.bM b o e (aY b ac).1 aX cG bc
  have ef:∀b,(b=a\/b∈D)->b<aB.heap.objs.size:=λb ac=>by
   rcases ac with q|ac
   .exact q▸Ca cx
   .exact jm b ac
  have eo:=λhi=>
   iK m _ (B3 _) ⟨bk,cA,cB,y.Ot i bk dW,⟨aZ,nm,lG,d9 a aZ (.inl R) cx,d1⟩,dO _ (jU ck _ bf λb ac o e=>d9 b o (.inr ac) e),Eo di,by exact U (show ys.length-m=ys.length-(m+1)+1 from xO di) hi,cF,cC,cE,
    λb ac=>⟨λh=>(y.bm b h).elim (aY b ac).1 λh=>absurd (ef b ac) (BP.mpr h),λh=>(y.aK b h).elim (aY b ac).2 λh=>h.elim (λh=>absurd (ef b ac) (BP.mpr h)) (aY b ac).1⟩⟩
  cases oi with
  |aa=>exact(eo bv).1
  |eY=>exact(eo bv).2
  |eQ=>exact(c6 _ ⟨.aa,cA,cB,bz.NT (bS cF),cC,cE,.aa,bv⟩).1
  |c0 hv=>exact iL _ _ ⟨_,cA,cB,bz.NT (bS cF),cC,cE,.c0 hv,bv⟩
 .obtain⟨rfl,I⟩:=ai;refine A3 (dx dy.gens .finished I.2.2.1 R) λcq cs dW=>?_
  let ew:BN:={dy.setGen i .finished with heap:=ay}
  refine A3 (rr (s'':=ew) (z:=z) aW bi dt (BJ _) du B.bX (λb o ac e=>k _ _ (I.1 b o ac e)) (BG I.2.1 jl) I.2.2.2 cq cs) λqm uo uq=>?_;refine(?_:B9 c.NU A (GZ [] (ae.N3 g.a L Fr)) _ _ ew);exact EK (c6 _ ⟨.aa,am,σ',bz.NT (bS qm),uo,uq,.aa,fp σ' dj⟩).2
noncomputable def eX(bQ:Ef)(names:List O)(cells:List (O×Nat))(gn:List O)(gv:List Z)(q:O)(a cc:M):bB:=
 {aM:=bQ,aG:=names,bN:=names.zipIdx.map (λp=>(p.1,.ag p.2))++(cells.map (λp=>(p.1,.ar p.2))++(gn.zip gv).map λp=>(p.1,.Ow p.2)),b0:=cells,fu:=q++".<locals>.",gb:=H a,fk:=.ref cc}
noncomputable def dp(bQ:Ef)(names cn gn:List O):Bool:=
 (bQ.kind== .function)&&decide names.Nodup&&decide cn.Nodup&&names.all (λx=>bQ.names.lookup x==H .local)&&cn.all (λx=>bQ.names.lookup x==H .cell||bQ.names.lookup x==H .free)&&gn.all (λx=>bQ.names.lookup x==H .globalImplicit)&&
  (names++cn++gn).all λx=>!(x==("__debug__":O))&&!(x==("__classdict__":O))
noncomputable def j0(c:Bx):List O->List Z->Prop
 |x::xs,v::vs=>cr c x v/\j0 c xs vs
 |_,_=>True
theorem j0.NY{c:Bx}:∀{gn:List O}{gv:List Z},j0 c gn gv->∀{p:O×Z},p∈gn.zip gv->cr c p.1 p.2
 |x::xs,v::vs,h,p,ai=>by
  rw[Jy]at ai;rcases BX.mp ai with rfl|ai
  .exact h.1
  .exact j0.NY h.2 ai
 |[],_,_,_,ai=>by rw[List.zip_nil_left]at ai;cases ai
 |_::_,[],_,_,ai=>by rw[List.zip_nil_right]at ai;cases ai
theorem ya{cells:List (O×Nat)}(b:(cells.map (·.1)).Nodup){q:O×Nat}(a:q∈cells):cells.lookup q.1=H q.2:=by
 induction cells with
 |nil=>cases a
 |cons p r c=>
  obtain⟨y,j⟩:=p;obtain⟨h1,h2⟩:=FC.mp b;refine BK Fs ?_;rcases BX.mp a with e|a
  .exact U e (U (beq_self_eq_true y) R)
  .exact U (beq_eq_false_iff_ne.mpr λe=>h1 (B7.mpr ⟨q,a,e⟩)) (c h2 a)
theorem e0{c:Bx}{bQ:Ef}{names cn gn:List O}{cells:List (O×Nat)}{gv:List Z}{q:O}(f:dp bQ names cn gn=u)(g:cells.map (·.1)=cn)(i:j0 c gn gv)(aL:∀q∈cells,q.2<n):
  (eX bQ names cells gn gv q a cc).Ok c n:=by
 simp only[dp,Cv,beq_iff_eq,decide_eq_true_eq,Cn,Bool.or_eq_true,F9]at f;obtain⟨⟨⟨⟨⟨⟨h1,h2⟩,j⟩,l⟩,m⟩,o⟩,e⟩:=f;refine⟨h1,h2,λp ai=>?_,aL⟩;rcases CA.mp ai with ai|ai
 .obtain⟨⟨x,k⟩,s,rfl⟩:=B7.mp ai;have h:=FG.mp s;have b:=B5 h;exact⟨⟨l x b,h⟩,e x (Ci _ (Ci _ b))⟩
 .rcases CA.mp ai with ai|ai
  .obtain⟨r,d,rfl⟩:=B7.mp ai;have b:=g▸B7.mpr ⟨r,d,R⟩;exact⟨⟨m _ b,ya (g▸j) d⟩,e _ (Ci _ (Ce _ b))⟩
  .obtain⟨r,d,rfl⟩:=B7.mp ai;have b:=(List.of_mem_zip d).1;exact⟨⟨o _ b,i.NY d⟩,e _ (Ce _ b)⟩
section
variable{bQ:Ef}{names gn:List O}{cells:List (O×Nat)}{gv:List Z}{q:O}{a cc:M}
theorem mL{k:Nat}(h:names[k]?=H x):(x,cQ.ag k)∈(eX bQ names cells gn gv q a cc).bN:=
 Ci _ (B7.mpr ⟨(x,k),FG.mpr h,R⟩)
theorem mC(h:(x,i)∈cells):(x,cQ.ar i)∈(eX bQ names cells gn gv q a cc).bN:=
 Ce _ (Ci _ (B7.mpr ⟨(x,i),h,R⟩))
theorem mG(k:Nat)(h:gn[k]?=H x)(ay:gv[k]?=H v):(x,cQ.Ow v)∈(eX bQ names cells gn gv q a cc).bN:=
 Ce _ (Ce _ (B7.mpr ⟨(x,v),by
  refine B5 (i:=k) ?_;rw[F4];exact⟨h,ay⟩,R⟩))
end
section
variable{c:Cx}{σ:V}{ah nm:O}{cK:Ep}{bx:List DZ}{aY:Ef}{bi bz:Z}{cc:M}{cj cq du fp:Y}{x1 x2 x3 gU:O}
theorem jS(h:∀a b d e f,EA (HV ah nm cK bx aY bi bz a b d (.ref cc) e) ⟨[f],[]⟩=CV [(x1,f)]):hh c σ ah nm cK bx aY bi bz cc 1 [] [cj] σ [x1] [cj]:=by
 intro a b d e A E Q g s vs i r hv k;obtain⟨_,rfl,a2⟩:=hv.PT;exact U (h ..) (BW (k g s _ (.N6 ..) r (.aU a2 .a6)))
theorem kM(h:∀a b d e f i,EA (HV ah nm cK bx aY bi bz a b d (.ref cc) e) ⟨[f,i],[]⟩=CV [(x1,f),(x2,i)]):hh c σ ah nm cK bx aY bi bz cc 2 [] [cj,cq] σ [x1,x2] [cj,cq]:=by
 intro a b d e A E Q g s vs j r hv k;obtain⟨_,_,rfl,a2,bH⟩:=hv.Qr;exact U (h ..) (BW (k g s _ (.N6 ..) r (.aU a2 (.aU bH .a6))))
theorem xa{a:O}(h:∀b d e f i j l,EA (HV ah nm cK bx aY bi bz b d e (.ref cc) f) ⟨[i,j],[(a,l)]⟩=CV [(x1,i),(x2,j),(x3,l)]):hh c σ ah nm cK bx aY bi bz cc 2 [a] [cj,cq,du] σ [x1,x2,x3] [cj,cq,du]:=by
 intro b d e f A E Q g s vs m r hv k;obtain⟨_,_,_,rfl,a2,bH,ef⟩:=hv.PR;exact U (h ..) (BW (k g s _ (.N6 ..) r (.aU a2 (.aU bH (.aU ef .a6)))))
theorem tb(h:∀a b d e f i j,EA (HV ah nm cK bx aY bi bz a b d (.ref cc) e) ⟨[f,i,j],[]⟩=CV [(x1,f),(x2,i),(x3,j)]):hh c σ ah nm cK bx aY bi bz cc 3 [] [cj,cq,du] σ [x1,x2,x3] [cj,cq,du]:=by
 intro a b d e A E Q g s vs l r hv k;obtain⟨_,_,_,rfl,a2,bH,ef⟩:=hv.PR;exact U (h ..) (BW (k g s _ (.N6 ..) r (.aU a2 (.aU bH (.aU ef .a6)))))
theorem sw(h:∀a b d e f i j l,EA (HV ah nm cK bx aY bi bz a b d (.ref cc) e) ⟨[f,i,j,l],[]⟩=CV [(x1,f),(x2,i),(x3,j),(gU,l)]):hh c σ ah nm cK bx aY bi bz cc 4 [] [cj,cq,du,fp] σ [x1,x2,x3,gU] [cj,cq,du,fp]:=by
 intro a b d e A E Q g s vs n r hv k;obtain⟨_,_,_,_,rfl,a2,bH,ef,m⟩:=hv.RP;exact U (h ..) (BW (k g s _ (.N6 ..) r (.aU a2 (.aU bH (.aU ef (.aU m .a6))))))
end
structure ft(w σ:V):Prop where
 aa:w.aa=σ.aa
 aj:∀i o,J w.aj i=H o->J σ.aj i=H o
 ag:∀k v,J w.ag k=H v->J σ.ag k=H v
theorem ft.N6(σ:V):ft σ σ:=⟨R,λa a h=>h,λa a h=>h⟩
variable{l:List (Nat×Y)}
theorem gE{hQ:List (Nat×Y)}(h:∀p∈l,J hQ p.1=H p.2):∀k v,J l k=H v->J hQ k=H v:=λk v e=>h _ (q8 e)
theorem qg{a b:aO}{r:List (Nat×aO)}:∀j o,J ((i,a)::r) j=H o->J ((i,a)::(i,b)::r) j=H o:=λj o h=>by
 rw[de]at h⊢
 by_cases e:j=i
 .rw[if_pos e]at h⊢;exact h
 .rw[if_neg e]at h⊢;exact aS e h
section
variable{c:Cx}{T:M->Prop}{g am:Gh}{w σ σ':V}{s s':BN}{names:List O}{L:M}
theorem ft.bm(h:ft w σ)(x:b3 g w a):b3 g σ a:=by obtain⟨i,o,hi,e⟩:=x;exact⟨i,o,h.aj i o hi,e⟩
theorem aA.Ph(r:aA c g σ s)(h:ft w σ):aA c g w s:=
 ⟨r.q,r.bX,r.t,r.k,λi o hi=>U h.aa (r.N5 i o (h.aj i o hi)),λi o hi=>U h.aa (r.bh i o (h.aj i o hi)),λi j b d hi f=>r.A i j b d (h.aj i b hi) (h.aj j d f),r.aK,r.Ob,r.C,r.cJ,
  λa an=>(r.bE a an).to (λaX q=>aX (h.bm q)) id λk e=>e⟩
theorem bd.Ph(f:bd c names L g σ s)(h:ft w σ):bd c names L g w s:=by
 obtain⟨bv,o,h1,h2,a,b⟩:=f.ns;exact⟨f.low,λq=>f.bm (h.bm q),f.aK,bv,o,h1,h2,a,λk v d=>U h.aa (b k v (h.ag k v d))⟩
theorem aF.SG(x:aF c T g σ s am σ' s')(h:ft w σ'):aF c T g σ s am w s':=
 ⟨x.bM,x.bE,x.p,x.bX,x.r,dH h.aa x.aa,λa an=>x.bm a (h.bm an),x.aK,x.Ot⟩
theorem aF.So(x:aF c T g w s am σ' s')(h:ft w σ):aF c T g σ s am σ' s':=
 ⟨λa o e b=>x.bM a o e λq=>b (h.bm q),x.bE,x.p,x.bX,br h.aa x.r,br h.aa x.aa,λa an=>(x.bm a an).imp h.bm id,λa an=>(x.aK a an).imp id λq=>q.imp id h.bm,x.Ot⟩
end
section
variable{c:Cx}{d:Nat}{ae:bB}{w σ:V}{X:AX->V->Prop}{b9 aO:Type}{cE:fb b9 aO}{t:E6->FB aO}{Q:b9->V->Prop}
theorem WT.Ph(a:ft w σ)(h:WT cE c d ae t w Q X):WT cE c d ae t σ Q X:=λA g s L Fr m r f n=>
 CB (h A g s L Fr m (r.Ph a) (f.Ph a) (U a.aa n)) (λv s' e=>by obtain⟨b,am,σ',x,i,j,k,l⟩:=e;exact⟨b,am,σ',x.So a,i,j,k,l⟩) λv s' e=>by obtain⟨b,am,σ',x,i,j,k,l⟩:=e;exact⟨b,am,σ',x.So a,i,j,k,l⟩
noncomputable def sd{b9:Type}(Q:b9->V->Prop):b9->V->Prop:=λb σ=>∃w,ft w σ/\Q b w
theorem WT.OR(h:WT cE c d ae t σ (sd Q) X):WT cE c d ae t σ Q X:=λA g s L Fr e r f i=>
 CB (h A g s L Fr e r f i) (λv s' j=>by obtain⟨b,am,σ',x,k,l,m,w,a,n⟩:=j;exact⟨b,am,w,x.SG a,k.Ph a,l.Ph a,U a.aa m,n⟩) λo o x=>x
end
variable{Q:Y->V->Prop}{m:Nat}{b6:List O}{as:List Y}
theorem WC.OR(h:WC c d a m b6 as σ (sd Q) X):WC c d a m b6 as σ Q X:=λA g s vs j r hv=>
 JT (h A g s vs j r hv) λr s' f=>by
  cases r with
  |error e=>exact f
  |ok k=>
   cases k with
   |ret v=>
    obtain⟨b,am,σ',x,l,n,w,i,o⟩:=f
    exact⟨b,am,w,x.SG i,l.Ph i,U i.aa n,o⟩
   |_=>exact f
noncomputable def V.PC(σ:V):Prop:=∀i o,J σ.aj i=H o->i<σ.aa
theorem WC.N5(h:σ.PC->WC c d a m b6 as σ Q X):WC c d a m b6 as σ Q X:=
 λA g s vs b r hv=>h (λi o hi=>(r.N5 i o hi).1) A g s vs b r hv
variable{b9:Type}
theorem WT.N5{cE:fb b9 aO}{t:E6->FB aO}{Q:b9->V->Prop}(h:σ.PC->WT cE c d ae t σ Q X):WT cE c d ae t σ Q X:=
 λA g s L Fr a r f b=>h (λi o hi=>(r.N5 i o hi).1) A g s L Fr a r f b
theorem V.PC.PZ(h:σ.PC)(b:σ.aa<=n){a o:bL}(e:J σ.aj i=H o):J ((n,a)::σ.aj) i=H o:=by
 exact aS (BZ (BL (h i o e) b)) e
section
open PySem.Builtin.Str (glued tooLong)
noncomputable abbrev cb(x:O):List Nat:=x.cps.toList
theorem gX(a b:O):cb (a++b)=cb a++cb b:=(EQ:(a.cps++b.cps).toList=_)
theorem eF(x:O):x.length=(cb x).length:=by show x.cps.size=_;rw[Cq]
theorem m4{a b:O}(h:cb a=cb b):a=b:=by
 obtain⟨a⟩:=a;obtain⟨b⟩:=b;have:a=b:=HA.mp h;exact U this R
theorem ko(x:O):BR x=(cb x).all (·<0x110000):=by unfold BR;exact bP Array.all_toList R
noncomputable def kN(g:List Nat):List (List Nat)->List Nat
 |[]=>[]
 |y::r=>y++(r.map (g++·)).flatten
theorem mj(g:O)(ys:List O):cb (De g ys)=kN (cb g) (ys.map cb):=by
 cases ys with
 |nil=>rfl
 |cons y r=>
  have:∀(r:List O)(a:Array Nat),(r.foldl (λba p=>ba++g.cps++p.cps) a).toList=a.toList++((r.map cb).map (cb g++·)).flatten:=by
   intro r
   induction r with
   |nil=>intro a;simp
   |cons z r b=>intro a;refine U FD (BK (b ..) ?_);simp[cb]
  exact this r y.cps
theorem A2(g:List Nat)(B:Nat):∀(ys:List (List Nat)),(∀y∈ys,y.length<=B)->(kN g ys).length<=ys.length*(B+g.length):=by
 intro r
 induction r with
 |nil=>
  intro _
  exact Cm _
 |cons y r b=>
  intro h
  have:∀(r:List (List Nat)),(∀y∈r,y.length<=B)->((r.map (g++·)).flatten).length<=r.length*(B+g.length):=by
   intro r
   induction r with
   |nil=>intro _;simp
   |cons z r b=>
    intro h;refine U CR (U DK (a3 BV (U BV (U Cd (dH (I8 ..) ?_)))));have h1:=h z (.head _);have h2:=b λy a=>h y (.tail _ a);exact aV [_,_,_,_,_] af f7 au bG (aq (aq ak af) au) (aq bG (aq f7 ak)) al h1 h2
  have h1:=h y (.head _);have h2:=this r λy a=>h y (.tail _ a);refine(?_:(y++(r.map (g++·)).flatten).length<=_);refine a3 BV (U Cd (dH (I8 ..) (aV [_,_,_,_,_] ak bG af au (aq ak af) (aq au (aq bG f7)) al h1 h2)))
theorem v2(g:List Nat){P:Nat->Prop}(b:∀n∈g,P n):∀{ys:List (List Nat)},(∀y∈ys,∀n∈y,P n)->∀n∈kN g ys,P n:=by
 intro r
 induction r with
 |nil=>
  intro _ _ a
  exact nomatch a
 |cons y r e=>
  intro h n a;rcases CA.mp a with a|a
  .exact h y (.head _) n a
  .obtain⟨l,c,a⟩:=J7.mp a;obtain⟨z,d,rfl⟩:=B7.mp c;rcases CA.mp a with a|a
   .exact b n a
   .exact h z (.tail _ d) n a
theorem jB{g:O}{ys:List O}{B N:Nat}(d:∀y∈ys,y.length<=B/\BR y=u)(e:BR g=u)(f:ys.length<=N)(i:N*(B+g.length)<=1000000):
  Ir (ys.toArray.foldl (·+·.length+g.length) 0)=BQ/\BR (De g ys)=u/\(De g ys).length<=N*(B+g.length):=by
 refine⟨?_,?_,?_⟩
 .have:∀(ys:List O)(a:Nat),(∀y∈ys,y.length<=B)->ys.foldl (·+·.length+g.length) a<=a+ys.length*(B+g.length):=by
   intro ys
   induction ys with
   |nil=>intro a _;simp
   |cons y r j=>
    intro a h;refine a3 FD (U Cd (U (I8 ..) ?_));have h1:=h y (.head _);have h2:=j (a+y.length+g.length) λz b=>h z (.tail _ b);exact aV [_,_,_,_,_,_] (vA 5) bG ak (aq (aq (aq af (vA 5)) f7) au) ak (aq af (aq au (aq bG f7))) al h1 h2
  have h1:=this ys 0 λy c=>(d y c).1;have h2:ys.length*(B+g.length)<=N*(B+g.length):=Jq _ f;have k:ys.toArray.foldl (·+·.length+g.length) 0=ys.foldl (·+·.length+g.length) 0:=by simp
  unfold Ir;refine U k ?_;exact decide_eq_false (BP.mpr (BG h1 (BG (CL (Ek _)) (BG h2 (BG i (by decide))))))
 .rw[ko,Cn,mj];rw[ko,Cn]at e;refine v2 _ e λy c=>?_;obtain⟨z,b,rfl⟩:=B7.mp c;have:=(d z b).2;rw[ko,Cn]at this;exact this
 .refine a3 (eF ..) (U (mj ..) (BG (A2 _ B _ λy c=>?_) ?_))
  .obtain⟨z,b,rfl⟩:=B7.mp c;exact br (eF ..) ((d z b).1)
  .refine U (BH ..) (br (eF ..) (Jq _ f))
noncomputable def f5(x:O)(a b:Nat):O:=⟨(((cb x).drop a).take (b-a)).toArray⟩
theorem uw(x:O){a b:Nat}(c:a<=b)(ac:b<=x.length):lp x (H (a:Int)) (H (b:Int))=f5 x a b:=M7 x c ac
theorem vj(x:O){a:Nat}(an:a<=x.length):lp x (H (a:Int)) B2=f5 x a x.length:=by
 have:=M8 ⟨C5 a,by rw[eF]at an;exact_mod_cast an⟩;refine this.trans ?_;unfold f5
 rewrite [eF,Fl]
 have:((x.cps.toList.length:Int)-a).toNat=x.cps.toList.length-a:=by(simp <;> lia)
 exact U this R
theorem t1(c:BR x=u)(a b:Nat):(f5 x a b).length<=x.length/\BR (f5 x a b)=u:=by
 have h1:cb (f5 x a b)=((cb x).drop a).take (b-a):=List.toList_toArray ..;refine⟨a3 (eF ..) (dH (eF ..) (U h1 (a3 CM (U Dh (BG (Da _ _) (DY _ _)))))),?_⟩;rw[ko,Cn]at c⊢;refine U h1<|λn d=>c n (GR (Fz d))
theorem tt(a9:List Nat)(i:Nat)(a:Bool)(h:a=u->0<i):(∀p∈ey a9 i a,(if a then i-1 else i)<=p.1/\p.1<i+a9.length)/\(ey a9 i a).Pairwise (·.1<·.1)/\(ey a9 i a).length<=a9.length+1:=by
 induction a9 generalizing i a with
 |nil=>cases a with
  |true=>exact⟨λp ai=>U (BO.mp ai) ⟨BJ _,Mh (h R) Lw⟩,Gs ..,BJ _⟩
  |false=>exact⟨(λp ai=>nomatch ai),Lm,Cm _⟩
 |cons ch a9 b=>cases a with
  |true=>
    refine A3 (b (i+1) BQ (λh=>nomatch h)) λh1 h2 c=>?_
    refine⟨λp ai=>?_,H7 (λp ai=>?_) h2,?_⟩
    .rcases BX.mp ai with rfl|ai
     .simp
     .have:=h1 p ai;simp at this⊢;exact⟨a0 [_,_] aC af ak b1 al this.1,a0 [_,_,_] aC (aq b1 au) aC (aq af bV) al this.2⟩
    .have:=(h1 p ai).1;simp at this
     assumption
    .refine(?_:(_::ey a9 (i+1) BQ).length<=_)
     simp only[Cd];exact Dk ‹_›
  |false=>
    rw[rW];split
    .refine A3 (b (i+1) u (λd=>GD i)) λh1 h2 c=>?_;refine⟨λp ai=>?_,h2,by simp only[Cd];exact Co ‹_›⟩;have:=h1 p ai;simp at this⊢;exact⟨this.1,a0 [_,_,_] aC (aq b1 au) aC (aq af bV) al this.2⟩
    .refine A3 (b (i+1) BQ (λh=>nomatch h)) λh1 h2 c=>?_
     refine⟨λp ai=>?_,H7 (λp ai=>?_) h2,?_⟩
     .rcases BX.mp ai with rfl|ai
      .simp
      .have:=h1 p ai;simp at this⊢;exact⟨a0 [_,_] aC af ak af al this.1,a0 [_,_,_] aC (aq b1 au) aC (aq af bV) al this.2⟩
     .have:=(h1 p ai).1;simp at this
      assumption
     .simp only[Cd];exact Dk ‹_›
noncomputable abbrev QS:=Nat×Option Nat×List O
noncomputable def ia(x:O)(st:QS)(p:Nat×O):QS:=
 if p.2="\"" then(match st.2.1 with
  |none=>(st.1,H p.1,st.2.2)
  |some o=>(p.1+1,B2,if st.1=o then st.2.2 else st.2.2++[f5 x st.1 o]))else st
noncomputable def c9(x:O)(k:Nat):QS:=((er x).take k).foldl (ia x) (0,B2,[])
noncomputable def iC(x:O):O:=
 if(Ej x "\"" 0 x.length 1).isEmpty then x
 else let f:=c9 x (er x).length
  De B0 (if f.1<x.length then f.2.2++[f5 x f.1 x.length]else f.2.2)
theorem lS{k:Nat}(h:(er x)[k]?=H p):c9 x (k+1)=ia x (c9 x k) p:=by
 unfold c9;exact U CX (U h (DJ))
structure AK(x:O)(k:Nat)(f:QS):Prop where
 K:f.1<=x.length
 OJ:∀j p,k<=j->(er x)[j]?=H p->f.1<=p.1/\∀o,f.2.1=H o->o<p.1
 op:∀o,f.2.1=H o->f.1<=o/\o<x.length
 PJ:f.2.2.length<=k/\(BR x=u->∀y∈f.2.2,y.length<=x.length/\BR y=u)
theorem xn{k:Nat}(h:(er x)[k]?=H p):p.1<x.length/\∀j q,k<j->(er x)[j]?=H q->p.1<q.1:=by
 refine A3 (tt x.cps.toList 0 BQ (λh=>nomatch h)) λh1 h2 e=>?_
 refine⟨?_,λj q a b=>?_⟩
 .have:=(h1 p (B5 h)).2;refine dk (eF ..) ?_;simpa using this
 .obtain⟨cj,cq⟩:=BY.mp h;obtain⟨c,d⟩:=BY.mp b;have:=Ds.mp h2 k j cj c a;exact br cq (br d this)
theorem qy:∀k,k<=(er x).length->AK x k (c9 x k):=by
 intro k
 induction k with
 |zero=>
  intro _
  exact⟨Cm _,λj p f f=>⟨Cm _,λo h=>nomatch h⟩,(λo h=>nomatch h),Cm _,λf y b=>nomatch b⟩
 |succ k a=>
  intro g;have a:=a (Eo g);obtain⟨p,ai⟩:∃p,(er x)[k]?=H p:=⟨_,BU g⟩;obtain⟨cx,di⟩:=xn ai;refine U (lS ai) ?_;unfold ia
  by_cases c:p.2="\""
  .refine U (if_pos c) ?_
   cases i:(c9 x k).2.1 with
   |none=>
    exact⟨a.K,λj q d c=>⟨(a.OJ j q (Eo d) c).1,λo h=>by cases h;exact di j q d c⟩,λo h=>by cases h;exact⟨(a.OJ k p (BJ _) ai).1,cx⟩,Co a.PJ.1,a.PJ.2⟩
   |some o=>
    obtain⟨l,m⟩:=a.op o i;refine⟨cx,λj q d c=>⟨di j q d c,λo h=>nomatch h⟩,(λo h=>nomatch h),?_,λe y b=>?_⟩
    .show(if _ then _ else _:List O).length<=_;split
     .exact Co a.PJ.1
     .exact a3 BV (Kq a.PJ.1)
    .have b:y∈(if(c9 x k).1=o then(c9 x k).2.2 else(c9 x k).2.2++[f5 x (c9 x k).1 o]):=b;split at b
     .exact a.PJ.2 e y b
     .rcases CA.mp b with b|b
      .exact a.PJ.2 e y b
      .exact U (BO.mp b) (t1 e _ _)
  .refine U (if_neg c)<|⟨a.K,λj q d c=>a.OJ j q (Eo d) c,a.op,Co a.PJ.1,a.PJ.2⟩
theorem wO(x:O):(er x).length<=x.length+1:=by
 have:=(tt x.cps.toList 0 BQ (λh=>nomatch h)).2.2;exact U (eF ..) this
end
noncomputable def zH(b a cc:M):bB:=eX (az 9).aM ["addr","start","open_pos","result","pos","ch"] [] ["_iter_escaped_chars","len"] [.ref b,.builtin "len"] "_strip_quoted_realnames" a cc
noncomputable def rp:Option Nat->Y
 |none=>.ab .none
 |some o=>.ab (.int (o:Int))
noncomputable def oG(n:Nat)(a:List (Nat×bL))(x:O)(f:QS):V:=⟨n+1,(n,.aN (f.2.2.map .str))::a,[(0,.ab (.str x)),(1,.ab (.int (f.1:Int))),(2,rp f.2.1),(3,.aP n)]⟩
theorem bq(i:Nat)(a:aO)(r:List (Nat×aO)):J ((i,a)::r) i=H a:=BK (de ..) ((if_pos R))
theorem n9:310*(300+B0.length)<=1000000:=by refine(?_:310*(300+0)<=1000000);decide
theorem wV{bu cc ah aR:M}(aJ:fi c bu "_strip_quoted_realnames" "_strip_quoted_realnames" (az 9).l (az 9).h (az 9).aM .none .none cc)
  (aT:fi c ah "_iter_escaped_chars" "_iter_escaped_chars" (az 8).l (az 8).h (az 8).aM .none .none aR)(G:cr c "enumerate" (.type "enumerate"))(aW:cr c "_iter_escaped_chars" (.ref ah))(aX:cr c "len" (.builtin "len"))
  (z:x.length<=300)(E:BR x=u)(h:∀n,σ.aa<=n->Q (.ab (.str (iC x))) ⟨n,σ.aj,σ.ag⟩):WC c (d+2) bu 1 [] [.ab (.str x)] σ Q X:=by
 refine WC.N5 λam=>WC.OR<|e3 aJ (zH ah bu cc) (jS λl l l l l=>by rfl) R ⟨R,R,R,R,R⟩ (e0 (by decide+kernel) R ⟨aW,aX,trivial⟩ (λl h=>nomatch h)) (.aU (aH.ag (k:=0) (mL R)) (.a6 _)) λL=>?_
 refine aQ (cU (ca (b8 (aw (k:=0) (mL R) R (pa ⟨_,R,λao=>?_,λF=>?_⟩)))))
 .refine aQ (ej (aw (k:=0) (mL R) R (⟨_,⟨R,λl l h=>h,λl l h=>h⟩,?_⟩)));have:=h σ.aa (BJ _);rw[show iC x=x from if_pos ao]at this;exact this
 refine bJ<|aQ (dh (bI ⟨_,aH.ag (k:=1) (mL R),aQ (dh (fV ⟨_,aH.ag (k:=2) (mL R),?_⟩))⟩));refine aQ (dh (ig (bn ⟨[],R,Cm _,_,aH.ag (k:=3) (mL R),?_⟩)));have S:=wO x;refine aQ (q0 aT G (mG 0 R R) (aw (k:=0) (mL R) R ⟨x,R,λk T=>k<=(er x).length/\ft (oG σ.aa σ.aj x (c9 x k)) T,⟨Cm _,R,λl l h=>h,gE λp ai=>?_⟩,λk p T ai⟨bc,A⟩=>?_,λT⟨_,A⟩=>?_⟩) (by intros;rfl) (by intros;rfl) (by intros;rfl))
 .replace ai:=iO ai;rcases ai with rfl|rfl|rfl|rfl <;> rfl
 .have C:=qy k (Cz (BY.mp ai).1);have I:=(BY.mp ai).1;refine⟨_,.b2 R .ab (.aU (aH.ag (k:=4) (mL R)) (.aU (aH.ag (k:=5) (mL R)) (.a6 _))),WT.Ph (w:=⟨σ.aa+1,(σ.aa,.aN ((c9 x k).2.2.map .str))::σ.aj,[(5,.ab (.str p.2)),(4,.ab (.int (p.1:Int))),(0,.ab (.str x)),(1,.ab (.int ((c9 x k).1:Int))),(2,rp (c9 x k).2.1),(3,.aP σ.aa)]⟩) ⟨A.aa,A.aj,λj v s=>?_⟩ (WT.OR ?_)⟩
  .rw[de]at s;refine(?_:J ((5,_)::(4,_)::T.ag) j=H v);refine BK (de ..) ?_
   by_cases e:j=5
   .rw[if_pos e]at s⊢;exact s
   .rw[if_neg e]at s⊢;rw[de]at s⊢
    by_cases e:j=4
    .rw[if_pos e]at s⊢;exact s
    .rw[if_neg e]at s⊢;exact A.ag j v s
  have aY:∀{aO:V},ia x (c9 x k) p=c9 x k->(∃w,ft w aO/\ft (oG σ.aa σ.aj x (c9 x k)) w)->∃w,ft w aO/\(k+1<=(er x).length/\ft (oG σ.aa σ.aj x (c9 x (k+1))) w):=λe aZ=>by obtain⟨w,h1,h2⟩:=aZ;exact⟨w,h1,I,by exact U (lS ai) (U e h2)⟩
  refine aQ (cU (ca (aw (k:=5) (mL R) R (b8 (hL ⟨_,R,λao=>?_,λF=>?_⟩)))))
  .have m:=beq_iff_eq.mp ao;have K:ia x (c9 x k) p=_:=if_pos m
   cases an:(c9 x k).2.1 with
   |none=>
    rw[an]at K;refine aQ (cU (ca (aw (k:=2) (mL R) R (fV (hB ⟨_,R,λl=>?_,λac=>(nomatch ac)⟩)))));refine aQ (dh (aw (k:=4) (mL R) R ⟨_,aH.ag (k:=2) (mL R),bJ (bJ (bJ ⟨_,.N6 _,I,?_⟩))⟩));refine U (lS ai) (U K ?_)
    exact⟨R,λl l h=>h,gE λq m=>by
     replace m:=iO m
     rcases m with rfl|rfl|rfl|rfl <;> rfl⟩
   |some o=>
    rw[an]at K;obtain⟨a4,a9⟩:=C.op o an;refine aQ (cU (ca (aw (k:=2) (v:=.ab (.int (o:Int))) (mL R) R (fV (hB ⟨_,R,λac=>(nomatch ac),λl=>aQ (cU (ca (aw (k:=1) (mL R) R (aw (k:=2) (v:=.ab (.int (o:Int))) (mL R) R (qE ⟨_,R,λW=>?_,λap=>?_⟩)))))⟩)))))
    .have W:¬(c9 x k).1=o:=λq=>by rw[q]at W;simp at W
     have av:=C.PJ.1;refine aQ (ez (eb (aw (k:=3) (v:=.aP σ.aa) (mL R) R ⟨_,u,cf.aN (ds:=(c9 x k).2.2.map .str) (bq _ _ _) CT CY,a1.Oe _,aI (gu (aw (k:=0) (mL R) R (gk (aw (k:=1) (mL R) R (gk (aw (k:=2) (v:=.ab (.int (o:Int))) (mL R) R (dS (oO (.Oh _) (.Oh _) (by exact BG ‹_› (DD R)) (bn (ce (iD (ds:=(c9 x k).2.2.map .str) (bq _ _ _) (by refine a3 (BH ..) ?_;exact jq [_,_,_,_] af (nA 300) au b1 fC au ak bG ak (nA 999999) al z S I av) ?_)))))))))))⟩)));refine bJ<|aQ (dh (b4 (aw (k:=4) (mL R) R (bI (i:=1) (iw ⟨_,aH.ag (k:=1) (mL R),aQ (dh (fV ⟨_,aH.ag (k:=2) (mL R),?_⟩))⟩)))));refine bJ (bJ (bJ ⟨_,.N6 _,I,U (lS ai) (U K ?_)⟩));refine U (uw x a4 (Cz a9))<|⟨R,λi a hi=>?_,gE λq m=>?_⟩
     .have ba:(if(c9 x k).1=o then(c9 x k).2.2 else(c9 x k).2.2++[f5 x (c9 x k).1 o]).map B1=(c9 x k).2.2.map B1++[.str (f5 x (c9 x k).1 o)]:=by exact U (if_neg W) (Cb)
      have hi:J ((σ.aa,bL.aN ((if(c9 x k).1=o then(c9 x k).2.2 else(c9 x k).2.2++[f5 x (c9 x k).1 o]).map B1))::σ.aj) i=H a:=hi;rw[ba]at hi;exact qg i a hi
     .replace m:=iO m;rcases m with rfl|rfl|rfl|rfl <;> rfl
    .have ap:(c9 x k).1=o:=by
      have:((c9 x k).1:Int)=(o:Int):=by simpa using ap
      exact_mod_cast this
     refine bJ<|aQ (dh (b4 (aw (k:=4) (mL R) R (bI (i:=1) (iw ⟨_,aH.ag (k:=1) (mL R),aQ (dh (fV ⟨_,aH.ag (k:=2) (mL R),?_⟩))⟩)))));refine bJ (bJ (bJ ⟨_,.N6 _,I,U (lS ai) (U K ?_)⟩));refine⟨R,λi a hi=>?_,gE λq m=>?_⟩
     .have hi:J ((σ.aa,bL.aN ((if(c9 x k).1=o then(c9 x k).2.2 else(c9 x k).2.2++[f5 x (c9 x k).1 o]).map B1))::σ.aj) i=H a:=hi;rw[if_pos ap]at hi;exact hi
     .replace m:=iO m;rcases m with rfl|rfl|rfl|rfl <;> rfl
  .have m:¬p.2="\"":=λq=>by rw[q]at F;exact absurd F (by decide+kernel)
   refine bJ (bJ (aY (if_neg m) ⟨_,.N6 _,R,λl l h=>h,gE λq m=>?_⟩));replace m:=iO m;rcases m with rfl|rfl|rfl|rfl <;> rfl
 .refine WT.Ph A ?_;have C:=qy (er x).length (x:=x) (BJ _);have P:=h (σ.aa+1) (Cr _)
  have D:iC x=De B0 (if(c9 x (er x).length).1<x.length then(c9 x (er x).length).2.2++[f5 x (c9 x (er x).length).1 x.length]else(c9 x (er x).length).2.2):=by
   unfold iC;exact(if_neg (by exact U F Dn))
  have aL:=λa b=>t1 E a b;have bb:=C.K;have r:=C.PJ;clear C A;generalize c9 x (er x).length=f at D bb r⊢;generalize iC x=y at D P;clear F;refine aQ (cU (ca (aw (k:=1) (mL R) R (d3 (v:=.builtin "len") (mG 1 R R) (a1.Oe _) (.ag (k:=0) (v:=.ab (.str x)) (mL R) R .a6) (wm (by exact BG ‹_› (DD R)) (jx ⟨_,R,λae=>?_,λax=>?_⟩))))))
  .have ae:f.1<x.length:=by have:=of_decide_eq_true ae;exact_mod_cast this
   rw[if_pos ae]at D;refine aQ (ez (eb (aw (k:=3) (v:=.aP σ.aa) (mL R) R ⟨_,u,cf.aN (ds:=f.2.2.map .str) (bq _ _ _) CT CY,a1.Oe _,aI (gu (aw (k:=0) (mL R) R (gk (aw (k:=1) (mL R) R (dS (dS (oO (.Oh _) .none (by exact BG ‹_› (DD R)) ?_)))))))⟩)));have av:=r.1;refine bn (ce (iD (ds:=f.2.2.map .str) (bq _ _ _) (by refine a3 (BH ..) ?_;exact cI [_,_,_] af (nA 300) au b1 ak au ak (nA 999999) al z S r.1) ?_));refine U (vj x (Cz ae))<|bJ ?_
   obtain⟨ay,aB,aE⟩:=jB (g:=B0) (ys:=f.2.2++[f5 x f.1 x.length]) (B:=300) (N:=310) (λy t=>by
    rcases CA.mp t with t|t
    .exact⟨BG (r.2 E y t).1 z,(r.2 E y t).2⟩
    .exact U (BO.mp t) ⟨BG (aL _ _).1 z,(aL _ _).2⟩) (by decide+kernel) (by refine a3 BV ?_;simp only[Dx];exact cI [_,_,_] af (nA 300) au b1 ak au aC (nA 310) al z S r.1) n9
   try dsimp only
   refine aQ ?_;refine ej ?_;refine eb ?_;refine b8 (x:=B0)<|⟨_,u,cf.Ov DO D9,a1.Oe _,(aI (aw (k:=3) (v:=.aP σ.aa) (mL R) R (bn (ce (li (ys:=f.2.2++[f5 x f.1 x.length]) (.bm ?_) ay aB (BG aE n9) ?_)))))⟩
   .exact U Cb (bq _ _ _)
   .rw[D]at P;exact⟨⟨σ.aa+1,σ.aj,σ.ag⟩,⟨R,λi o(e:J σ.aj i=H o)=>by exact(aS (BZ (am i o e)) (am.PZ (BJ _) e):J ((σ.aa,_)::(σ.aa,_)::σ.aj) i=_),λl l h=>h⟩,P⟩
  .have ax:¬f.1<x.length:=by have:=of_decide_eq_false ax;exact_mod_cast this
   rw[if_neg ax]at D;have av:=r.1;refine bJ ?_;obtain⟨ay,aB,aE⟩:=jB (g:=B0) (ys:=f.2.2) (B:=300) (N:=310) (λy t=>⟨BG (r.2 E y t).1 z,(r.2 E y t).2⟩) (by decide+kernel) (by exact cI [_,_,_] af (nA 300) au b1 ak au ak (nA 310) al z S r.1) n9
   try dsimp only
   refine aQ ?_;refine ej ?_;refine eb ?_;refine b8 (x:=B0)<|⟨_,u,cf.Ov DO D9,a1.Oe _,(aI (aw (k:=3) (v:=.aP σ.aa) (mL R) R (bn (ce (li (ys:=f.2.2) (.bm (bq _ _ _)) ay aB (BG aE n9) ?_)))))⟩;rw[D]at P;exact⟨⟨σ.aa+1,σ.aj,σ.ag⟩,⟨R,λi o(e:J σ.aj i=H o)=>am.PZ (BJ _) e,λl l h=>h⟩,P⟩
noncomputable def hV:List (Nat×O)->Nat->Bool
 |[],n=>n==0
 |p::r,n=>if p.2="(" then hV r (n+1)else if p.2=")" then(match n with|0=>BQ|m+1=>hV r m)else hV r n
noncomputable def iq(x:O):Bool:=hV (er (iC x)) 0
variable{r:List (Nat×O)}
theorem yn(h:p.2=")"):hV (p::r) 0=BQ:=by
 refine(?_:(if p.2="(" then _ else if p.2=")" then _ else _)=_);exact BK (if_neg (by refine U h ?_;decide+kernel)) ((if_pos h))
theorem vN(h:p.2=")"):hV (p::r) (m+1)=hV r m:=by
 refine(?_:(if p.2="(" then _ else if p.2=")" then _ else _)=_);exact BK (if_neg (by refine U h ?_;decide+kernel)) ((if_pos h))
variable{k:Nat}
theorem Be{l:List aO}{p:aO}(h:l[k]?=H p):l.drop k=p::l.drop (k+1):=by
 obtain⟨h1,h2⟩:=BY.mp h;exact BK (DS h1) (U h2 R)
noncomputable def yL(b c a cc:M):bB:=eX (az 10).aM ["addr","opens","pos","ch"] [] ["_strip_quoted_realnames","_iter_escaped_chars"] [.ref b,.ref c] "_check_parenthesis" a cc
structure nl(c:Bx)(bu cc si bQ gi gc:M):Prop where
 y:fi c bu "_check_parenthesis" "_check_parenthesis" (az 10).l (az 10).h (az 10).aM .none .none cc
 Og:fi c si "_strip_quoted_realnames" "_strip_quoted_realnames" (az 9).l (az 9).h (az 9).aM .none .none bQ
 QL:fi c gi "_iter_escaped_chars" "_iter_escaped_chars" (az 8).l (az 8).h (az 8).aM .none .none gc
 en:cr c "enumerate" (.type "enumerate")
 Sq:cr c "_strip_quoted_realnames" (.ref si)
 Sa:cr c "_iter_escaped_chars" (.ref gi)
 cZ:cr c "len" (.builtin "len")
variable{a b:Int}
theorem nr(h:Q (.ab (.int (a+b))) σ):co rV c d (Iv .Add) (.ab (.int a)) (.ab (.int b)) σ Q X:=λA g s names L bl j k r f e i=>by
 obtain⟨t,rfl⟩:=e.Op;obtain⟨bb,rfl⟩:=i.Op;exact KF (fr r f (.Oh _ _) h)
theorem xU(h:Q (.ab (.int (a-b))) σ):co rV c d (Iv .Sub) (.ab (.int a)) (.ab (.int b)) σ Q X:=λA g s names L bl j k r f e i=>by
 obtain⟨t,rfl⟩:=e.Op;obtain⟨bb,rfl⟩:=i.Op;exact KD (fr r f (.Oh _ _) h)
theorem p0{a b:O}(e:a.length+b.length<=1000000)(h:Q (.ab (.str (a++b))) σ):co rV c d (Iv .Add) (.ab (.str a)) (.ab (.str b)) σ Q X:=λA g s names L bl k l r f i j=>by
 obtain⟨⟨t,rfl⟩,h1⟩:=i.On;obtain⟨⟨bb,rfl⟩,h2⟩:=j.On;exact LN (λm tk=>fr r f (.Ov _ _ (qe h1 h2)) h) (BG e (DD R))
theorem r1{bu cc s bQ t z:M}(D:nl c bu cc s bQ t z)(A:x.length<=300)(B:BR x=u)(h:∀n,σ.aa<=n->Q (.ab (.bool (iq x))) ⟨n,σ.aj,σ.ag⟩):WC c (d+3) bu 1 [] [.ab (.str x)] σ Q X:=by
 refine WC.N5 λE=>WC.OR<|e3 D.y (yL s t bu cc) (jS λa a a a a=>by rfl) R ⟨R,R,R,R,R⟩ (e0 (by decide+kernel) R ⟨D.Sq,D.Sa,trivial⟩ (λa h=>nomatch h)) (.aU (aH.ag (k:=0) (mL R)) (.a6 _)) λL=>?_
 refine aQ (dh (d3 (mG 0 R R) (a1.N4 D.Og) (.ag (k:=0) (mL R) R .a6) (WK.NW (WC.Of (wV D.Og D.QL D.en D.Sa D.cZ A B λn C=>?_)))));refine⟨_,aH.ag (k:=0) (mL R),?_⟩;have f:=h n C;unfold iq at f;generalize iC x=y at f⊢;refine aQ (dh (bI (i:=((0:Nat):Int)) ⟨_,aH.ag (k:=1) (mL R),aQ (q0 D.QL D.en (mG 1 R R) (aw (k:=0) (mL R) R ⟨y,R,λk l=>∃m:Nat,hV (er y) 0=hV ((er y).drop k) m/\ft ⟨n,σ.aj,[(1,.ab (.int (m:Int)))]⟩ l,⟨0,R,R,λa a h=>h,gE λp ai=>?_⟩,λk p l ai⟨m,e,g⟩=>?_,λl⟨m,e,g⟩=>?_⟩) (by intros;rfl) (by intros;rfl) (by intros;rfl))⟩))
 .exact U (BO.mp ai) R
 .rw[Be ai]at e;refine⟨_,.b2 R .ab (.aU (aH.ag (k:=2) (mL R)) (.aU (aH.ag (k:=3) (mL R)) (.a6 _))),WT.Ph (w:=⟨n,σ.aj,[(3,.ab (.str p.2)),(1,.ab (.int (m:Int)))]⟩) ⟨g.aa,g.aj,gE λq b=>?_⟩ (WT.OR ?_)⟩
  .replace b:=eU b;rcases b with rfl|rfl
   .rfl
   .exact g.ag 1 _ R
  refine aQ (cU (ca (aw (k:=3) (mL R) R (b8 (hL ⟨_,R,λao=>?_,λaJ=>?_⟩)))))
  .have b:p.2="(":=beq_iff_eq.mp ao;refine aQ (ki (ll (k:=1) (mL R) R (bI (nr ⟨_,aH.ag (k:=1) (mL R),bJ ?_⟩))))
   try dsimp only
   refine bJ ⟨_,.N6 _,m+1,?_,R,λa a h=>h,gE λq b=>?_⟩
   .exact BK e (if_pos b)
   .exact U (BO.mp b) R
  .have b:¬p.2="(":=λq=>by rw[q]at aJ;exact absurd aJ (by decide+kernel)
   refine aQ (cU (ca (aw (k:=3) (mL R) R (b8 (hL ⟨_,R,λao=>?_,λv=>?_⟩)))))
   .have j:p.2=")":=beq_iff_eq.mp ao;refine aQ (ki (ll (k:=1) (mL R) R (bI (xU ⟨_,aH.ag (k:=1) (mL R),aQ (cU (ca (aw (k:=1) (mL R) R (bI (jx ⟨_,R,λo=>?_,λr=>?_⟩)))))⟩))))
    .have o:=of_decide_eq_true o;obtain rfl:m=0:=wl o;refine aQ (ej (jE (⟨_,.N6 _,⟨n,σ.aj,σ.ag⟩,⟨g.aa.symm.trans R|>.symm▸R,λa a h=>h,λa a h=>h⟩,?_⟩)));rw[e,yn j]at f;exact f
    .have r:=of_decide_eq_false r;obtain⟨m',rfl⟩:=z6 r;refine bJ ?_
     try dsimp only
     refine bJ ?_
     try dsimp only
     refine bJ ?_
     try dsimp only
     refine bJ ⟨_,.N6 _,m',e.trans (vN j),R,λa a h=>h,gE λq b=>U (BO.mp b) ?_⟩;have:((m'+1:Nat):Int)-1=(m':Int):=mQ;exact U this R
   .have j:¬p.2=")":=λq=>by rw[q]at v;exact absurd v (by decide+kernel)
    refine bJ ?_
    try dsimp only
    refine bJ ?_
    try dsimp only
    refine bJ ⟨_,.N6 _,m,e.trans ?_,R,λa a h=>h,gE λq b=>?_⟩
    .refine(?_:(if p.2="(" then _ else if p.2=")" then _ else _)=_);exact BK (if_neg b) ((if_neg j))
    .exact U (BO.mp b) R
 .refine WT.Ph g ?_;rw[Gp]at e;refine aQ (ej (ks (aw (k:=1) (mL R) R (bI (om ?_)))));rw[e]at f;refine⟨⟨n,σ.aj,σ.ag⟩,⟨R,λa a h=>h,λa a h=>h⟩,?_⟩;have:(((m:Int)==0):Bool)=hV [] m:=by refine(?_:_=(m==0));cases m <;> rfl
  rw[←this]at f;exact f
noncomputable def fj(v:O):O:=if iq v then v else"('', '')"
noncomputable def yI(cs a cc:M):bB:=eX (az 11).aM ["email_header_fields","accepted_values","v"] [] ["_check_parenthesis"] [.ref cs] "_pre_parse_validation" a cc
theorem Ba{bu cc cs A B bQ C E:M}(aJ:fi c bu "_pre_parse_validation" "_pre_parse_validation" (az 11).l (az 11).h (az 11).aM .none .none cc)(D:nl c cs A B bQ C E)(F:cr c "_check_parenthesis" (.ref cs))
  {vs:List O}(G:∀v∈vs,v.length<=300/\BR v=u)(I:vs.length<=100)(h:∀m k,σ.aa<=m->m<k->Q (.aP m) ⟨k,(m,.aN ((vs.map fj).map .str))::σ.aj,σ.ag⟩):WC c (d+4) bu 1 [] [.ab (.list (vs.map .str))] σ Q X:=by
 refine WC.N5 λP=>WC.OR<|e3 aJ (yI cs bu cc) (jS λb b b b b=>by rfl) R ⟨R,R,R,R,R⟩ (e0 (by decide+kernel) R ⟨F,trivial⟩ (λb h=>nomatch h)) (.aU (aH.ag (k:=0) (mL R)) (.a6 _)) λL=>?_
 refine aQ (dh (ig (bn ⟨[],R,Cm _,_,aH.ag (k:=1) (mL R),aQ (nH (aw (k:=0) (mL R) R ⟨(vs.map .str).map .ab,λk o=>∃n,σ.aa<n/\ft ⟨n,(σ.aa,.aN (((vs.take k).map fj).map .str))::σ.aj,[(1,.aP σ.aa)]⟩ o,et.O1,⟨_,B3 _,R,λb b h=>h,gE λp ai=>?_⟩,λk x o g r=>?_,λo r=>?_⟩))⟩)))
 .exact U (BO.mp ai) R
 .obtain⟨n,l,j⟩:=r
  obtain⟨v,hv,rfl⟩:∃v,vs[k]?=H v/\x=.ab (.str v):=by
   rw[Ck,Ck]at g
   cases e:vs[k]? with
   |none=>rw[e]at g;cases g
   |some v=>rw[e]at g;cases g;exact⟨v,R,R⟩
  have S:=(BY.mp hv).1;obtain⟨K,N⟩:=G v (B5 hv);have t:(vs.take (k+1)).map fj=(vs.take k).map fj++[fj v]:=U CX (U hv (Cb));refine⟨_,.v (aH.ag (k:=2) (mL R)),WT.Ph (w:=⟨n,(σ.aa,.aN (((vs.take k).map fj).map .str))::σ.aj,[(2,.ab (.str v)),(1,.aP σ.aa)]⟩) ⟨j.aa,j.aj,gE λq f=>?_⟩ (WT.OR ?_)⟩
  .replace f:=eU f;rcases f with rfl|rfl
   .rfl
   .exact j.ag 1 _ R
  have y:(((vs.take k).map fj).map B1).length<=999999:=by refine a3 (BH ..) (a3 (BH ..) (a3 CM ?_));exact aV [_,_] af (nA 100) ak af ak (nA 999999) al I (Da _ _)
  refine aQ (cU (pO (gN (d3 (mG 0 R R) (a1.N4 D.y) (.ag (k:=2) (mL R) R .a6) (WK.NW (WC.Of (r1 D K N λeI z=>iI ⟨λao=>?_,λaJ=>?_⟩)))))))
  .have s:fj v="('', '')":=by unfold fj;rw[F9]at ao;exact U ao R
   refine aQ (dh (b8 ⟨_,aH.ag (k:=2) (mL R),bJ ?_⟩))
   try dsimp only
   refine aQ (ez (fe (.ag (k:=1) (mL R) R) (cf.aN (bq _ _ _) CT CY) (a1.Oe _) (.ag (k:=2) (mL R) R .a6) (iD (bq _ _ _) y (bJ ⟨_,.N6 _,eI,BL l z,R,λi a hi=>?_,gE λq f=>?_⟩))))
   .have hi:J ((σ.aa,bL.aN (((vs.take (k+1)).map fj).map .str))::σ.aj) i=H a:=hi;rw[t,Cb,s]at hi;exact qg i a hi
   .exact U (BO.mp f) R
  .have s:fj v=v:=by unfold fj;rw[Hb]at aJ;exact U aJ R
   refine bJ ?_
   try dsimp only
   refine aQ (ez (fe (.ag (k:=1) (mL R) R) (cf.aN (bq _ _ _) CT CY) (a1.Oe _) (.ag (k:=2) (mL R) R .a6) (iD (bq _ _ _) y (bJ ⟨_,.N6 _,eI,BL l z,R,λi a hi=>?_,gE λq f=>?_⟩))))
   .have hi:J ((σ.aa,bL.aN (((vs.take (k+1)).map fj).map .str))::σ.aj) i=H a:=hi;rw[t,Cb,s]at hi;exact qg i a hi
   .exact U (BO.mp f) R
 .obtain⟨n,l,j⟩:=r;refine WT.Ph j<|U (show((vs.map B1).map Y.ab).length=vs.length by exact BK (BH ..) ((BH ..))) (U Dg (aQ (ej (aw (k:=1) (mL R) R ?_))));exact⟨⟨n,(σ.aa,.aN ((vs.map fj).map .str))::σ.aj,σ.ag⟩,⟨R,λb b h=>h,λb b h=>h⟩,h σ.aa n (BJ _) l⟩
noncomputable def na(q:O)(e:CQ):fO:=⟨q,(mJ e).1.1,(mJ e).1.2.1,(mJ e).1.2.2⟩
noncomputable def s9(q:O)(s:DZ):fO:=na q (jP s).1
noncomputable def i6:O:="_law_desk"++".<locals>."++"<lambda>"
noncomputable def p7:fO:=s9 i6 (((az 21).h[1]?).getD (.Pass ⟨0,0,0,0⟩))
noncomputable def jz:fO:=s9 i6 (((az 21).h[2]?).getD (.Pass ⟨0,0,0,0⟩))
noncomputable def g7:List O:=["lineno","instream","whitespace","pushback"]
noncomputable def hI:O:="\n\t\r "
structure cO where
 j:Nat
 x:Nat
 s:Nat
 m:Nat
 e:Nat
 f:Nat
structure ei(σ:V)(I:cO)(ap:Int)(aE bk:List O):Prop where
 ns:∃log,J σ.aj I.j=H (.ns g7 log)/\J log 0=H (.ab (.int ap))/\J log 1=H (.aP I.x)/\J log 2=H (.ab (.str hI))/\J log 3=H (.aP I.f)
 P2:∃L cells,J σ.aj I.x=H (.fH L cells (H I.s))
 s:∃log,J σ.aj I.s=H (.ns ["read"] log)/\J log 0=H (.ed jz [("signs",I.m)])
 m:J σ.aj I.m=H (.ar (H (.aP I.e)))
 e:J σ.aj I.e=H (.aN (aE.map .str))
 f:J σ.aj I.f=H (.aN (bk.map .str))
 Po:I.e≠I.f/\I.j≠I.s
noncomputable def c4(ch:O)(ap:Int):Int:=if ch="\n" then ap+1 else ap
structure hE(T:List Nat)(σ σ':V):Prop where
 aa:σ.aa<=σ'.aa
 ag:σ'.ag=σ.ag
 aj:∀i,i<σ.aa->i∉T->J σ'.aj i=J σ.aj i
theorem ei.NX{I:cO}{ap cC:Int}{aE mB bk mE:List O}(D:ei σ I ap aE bk){c:List (Nat×bL)}(j:∃log,J c I.j=H (.ns g7 log)/\J log 0=H (.ab (.int cC))/\J log 1=H (.aP I.x)/\J log 2=H (.ab (.str hI))/\J log 3=H (.aP I.f))
  (k:J c I.e=H (.aN (mB.map .str)))(ac:J c I.f=H (.aN (mE.map .str)))(h:∀i o,i≠I.j->i≠I.e->i≠I.f->(∀f b,o≠.fI f b)->J σ.aj i=H o->J c i=H o):ei ⟨n,c,l⟩ I cC mB mE:=by
 obtain⟨log,g,_⟩:=D.ns;obtain⟨L,cells,a⟩:=D.P2;obtain⟨m,a2,bH⟩:=D.s;refine⟨j,⟨L,cells,h _ _ ?_ ?_ ?_ (λd d=>nofun) a⟩,⟨m,h _ _ ?_ ?_ ?_ (λd d=>nofun) a2,bH⟩,h _ _ ?_ ?_ ?_ (λd d=>nofun) D.m,k,ac,D.Po⟩
 .intro e;rw[e,g]at a;cases a
 .intro e;rw[e,D.e]at a;cases a
 .intro e;rw[e,D.f]at a;cases a
 .exact DN D.Po.2
 .intro e;rw[e,D.e]at a2;cases a2
 .intro e;rw[e,D.f]at a2;cases a2
 .intro e;have:=D.m;rw[e,g]at this;cases this
 .intro e;have:=D.m;rw[e,D.e]at this;cases this
 .intro e;have:=D.m;rw[e,D.f]at this;cases this
noncomputable def yp(b:Nat)(a:M)(c:Z):bB:=
 {aM:=jz.aM,aG:=["size"],bN:=[("size",.ag 0),("signs",.ar b)],b0:=[("signs",b)],fu:=jz.P4++".<locals>.",gb:=H a,fk:=c}
theorem zn{I:cO}{ap:Int}{aE bk:List O}(D:ei σ I ap aE bk)(g:aE.length<=1000)(i:I.m<σ.aa)(j:aE=[]->Q (.ab (.str B0)) σ)(h1:∀ch r,aE=ch::r->Q (.ab (.str ch)) (σ.NX I.e (.aN (r.map .str)))):
  WK c (d+1) (.ed jz [("signs",I.m)]) [.ab (.int 1)] [] [] σ Q X:=by
 refine qX (yp I.m) (λcl e k l m vs hv=>?_) (λa e=>⟨R,R,R,R,R⟩) (λa e=>?_) (λa e=>.aU (aH.ag (mV 0 R)) (.a6 _)) (λL a e=>?_) R R
 .obtain⟨v,rfl⟩:=Gz.mp hv;rfl
 .refine⟨R,by refine(?_:Gx (["size"]:List O));decide+kernel,λq b=>?_,λq b=>?_⟩
  .replace b:=eU b;rcases b with rfl|rfl
   .exact⟨⟨by refine(?_:jz.aM.names.lookup ("size":O)=_);decide+kernel,R⟩,by decide+kernel,by decide+kernel⟩
   .exact⟨⟨.inr (by refine(?_:jz.aM.names.lookup ("signs":O)=_);decide+kernel),by refine(?_:Lj ("signs":O) [(("signs":O),I.m)]=_);simp⟩,by refine(?_:(("signs":O)=="__debug__")=BQ);decide+kernel,by refine(?_:(("signs":O)=="__classdict__")=BQ);decide+kernel⟩
  .exact U (BO.mp b) i
 .have f:=D.e;have h:(aE.map B1).length=aE.length:=BH _;refine hN (gN (bR (mV 1 R) D.m (oH (.bm f) (aV [_,_] af dT ak af ak dD al g (eL h)) ⟨λao=>?_,λaJ=>?_⟩)))
  .cases aE with
   |nil=>cases ao
   |cons ch r=>
    refine fe (.ar (mV 1 R) D.m) (cf.aN f Gw II) (a1.Oe _) (.Oh .a6) (sL f (by simp at h g⊢;exact BG ‹_› (DD R)) ⟨R,h1 ch r R⟩)
  .cases aE with
   |nil=>exact b8 (x:=B0) ⟨R,j R⟩
   |cons ch r=>cases aJ
namespace FO
theorem Rl:CD (.type "object") "lineno"=CV B2:=by refine BK (Cw ..) (U Cf ?_);kernel_rfl
theorem Td:CD (.type "object") "instream"=CV B2:=by refine BK (Cw ..) (U Cf ?_);kernel_rfl
theorem Sh:CD (.type "object") "whitespace"=CV B2:=by refine BK (Cw ..) (U Cf ?_);kernel_rfl
theorem Rj:CD (.type "object") "pushback"=CV B2:=by refine BK (Cw ..) (U Cf ?_);kernel_rfl
theorem RJ:CD (.type "object") "_read_char"=CV B2:=by refine BK (Cw ..) (U Cf ?_);kernel_rfl
theorem Q5:CD (.type "object") "get_token"=CV B2:=by refine BK (Cw ..) (U Cf ?_);kernel_rfl
theorem Sj:CD (.type "object") "push_token"=CV B2:=by refine BK (Cw ..) (U Cf ?_);kernel_rfl
end FO
noncomputable abbrev hd(c:Bx)(i j:Nat)(ah nm:O)(bC:O->Option Z)(f cc:M)(bi bz:Z):Prop:=bC ah=H (.ref f)/\fi c f ah nm (dz i j).l (dz i j).h (dz i j).aM bi bz cc
structure hK(c:Bx)(C N:M)(bC:O->Option Z)(d9 ex bU c7 eo fx fo fR:M):Prop where
 cp:gG c C N bC
 ga:bC "__getattribute__"=B2
 gt:bC "__getattr__"=B2
 sa:bC "__setattr__"=B2
 ih:bC "lineno"=B2
 R4:bC "instream"=B2
 a2:bC "whitespace"=B2
 Q8:bC "pushback"=B2
 hO:hd c 13 0 "__init__" "_netrclex.__init__" bC d9 ex .none .none
 fw:hd c 13 1 "_read_char" "_netrclex._read_char" bC bU c7 .none .none
 Pr:hd c 13 2 "get_token" "_netrclex.get_token" bC eo fx .none .none
 Qy:hd c 13 3 "push_token" "_netrclex.push_token" bC fo fR .none .none
 SD:cr c "iter" (.builtin "iter")
variable{j:Nat}{bC:O->Option Z}{f:M}{bz:Z}
theorem hd.OY{c:Bx}{ah nm:O}{bi:Z}(h:hd c i j ah nm bC f cc bi bz):∃a,¬c.N9 f/\c.i.get? f=H a/\a.cls=.type "function":=by
 obtain⟨_,b,_,⟨o,g,k,l,m,d,e,n⟩,_⟩:=h;exact⟨o,b,d,e⟩
variable{N C d9 ex bU c7 eo fx fo fR:M}
variable{log:List (Nat×Y)}
theorem iF{names:List O}{bj:O}{v:Y}(aL:gG c C N bC)(a:J σ.aj j=H (.ns names log))(b:names[k]?=H bj)(hv:J log k=H v)(e:bC "__getattribute__"=B2)(f:bC bj=B2)(g:CD (.type "object") bj=CV B2)(i:∀l,v≠.bT (.builtin l))(h:Q v σ):
  e2 rV c d (λv=>Hn v bj u) (.bh C j) σ Q X:=e2.NW (yy aL a b hv e f g i (h))
noncomputable def wh(a cc:M):bB:=eX (dz 13 1).aM ["self","ch"] [] [] [] "_netrclex._read_char" a cc
theorem Av(D:hK c C N bC d9 ex bU c7 eo fx fo fR){I:cO}{ap:Int}{aE bk:List O}(K:ei σ I ap aE bk)(w:aE.length<=1000)
  (x:aE=[]->Q (.ab (.str B0)) σ)(h1:∀ch r,aE=ch::r->∀σ',ei σ' I (c4 ch ap) r bk->σ'.aa=σ.aa->(∀i,i≠I.j->i≠I.e->J σ'.aj i=J σ.aj i)->σ'.ag=σ.ag->Q (.ab (.str ch)) σ'):WC c (d+2) bU 1 [] [.bh C I.j] σ Q X:=by
 obtain⟨A,aJ⟩:=D.fw;refine WC.N5 λy=>?_;refine e3 aJ (wh bU c7) (jS λa a a a a=>by rfl) R ⟨R,R,R,R,R⟩ (e0 (by decide+kernel) R trivial (λa h=>nomatch h)) (.aU (aH.ag (k:=0) (mL R)) (.a6 _)) λL=>?_
 obtain⟨log,m⟩:=K.ns;refine A5 m λb n g p s=>?_;clear m;obtain⟨B,E,z⟩:=K.P2;obtain⟨F,a2,bH⟩:=K.s;refine aQ (dh (eb (h9 (aw (k:=0) (mL R) R (iF D.cp b R g D.ga D.R4 FO.Td (λa=>nofun) ⟨_,BQ,cf.fH z a2 bH FF.SK,a1.ed,aI (bI (bn (ce (zn ⟨K.ns,K.P2,K.s,K.m,K.e,K.f,K.Po⟩ w (y _ _ K.m) (λf=>?_) (λch r f=>?_)))))⟩)))))
 .refine⟨_,aH.ag (k:=1) (mL R),aQ (cU (ca (aw (k:=1) (mL R) R (b8 (hL ⟨_,R,λao=>absurd ao (by decide+kernel),λaJ=>?_⟩)))))⟩;refine bJ ?_
  try dsimp only
  refine aQ (ej (aw (k:=1) (mL R) R (x f)))
 .refine⟨_,aH.ag (k:=1) (mL R),?_⟩;have j:I.e≠I.j:=λe=>by have:=K.e;rw[e,b]at this;cases this
  have t:=K.Po.1;refine aQ (cU (ca (aw (k:=1) (mL R) R (b8 (hL ⟨_,R,λao=>?_,λaJ=>?_⟩)))))
  .have l:c4 ch ap=ap+1:=if_pos (beq_iff_eq.mp ao);have v:J ((I.e,bL.aN (r.map .str))::σ.aj) I.j=H (.ns g7 log):=aS (DN j) b;refine aQ (uU (aw (k:=0) (mL R) R (iF D.cp v R n D.ga D.ih FO.Rl (λa=>nofun) (bI (nr ⟨_,im.Px (k:=0) D.cp v R D.sa D.ih FO.Rl (DD R),bJ ?_⟩)))))
   try dsimp only
   refine aQ (ej (aw (k:=1) (mL R) R (h1 ch r f _ ?_ R (λi h1 h2=>?_) R)))
   .refine U l<|K.NX ⟨(0,.ab (.int (ap+1)))::log,bq _ _ _,bq _ _ _,?_,?_,?_⟩ ?_ ?_ (λi o hi h1 h2 a e=>?_)
    .exact aS (by decide) g
    .exact aS (by decide) p
    .exact aS (by decide) s
    .exact aS j (bq _ _ _)
    .exact aS (λe=>by have:=K.f;rw[e,b]at this;cases this) (aS (DN t) K.f)
    .exact aS hi (aS h1 e)
   .exact aS h1 (aS h2 R)
  .have l:c4 ch ap=ap:=if_neg λq=>by rw[q]at aJ;exact absurd aJ (by decide+kernel)
   refine bJ ?_
   try dsimp only
   refine aQ (ej (aw (k:=1) (mL R) R (h1 ch r f _ ?_ R (λi h1 h2=>?_) R)))
   .refine U l<|K.NX ⟨log,?_,n,g,p,s⟩ (bq _ _ _) ?_ (λi o hi h1 h2 a e=>?_)
    .exact aS (DN j) b
    .exact aS (DN t) K.f
    .exact aS h1 e
   .exact aS h2 R
noncomputable def fN(ch:O):Bool:=!(Ej hI ch 0 hI.length 1).isEmpty
noncomputable def dv(stop:O->Bool):List O->O->Int->O×List O×Int
 |[],a,ap=>(a,[],ap)
 |[ch],a,ap=>if stop ch then(a,[],c4 ch ap)else if ch="\\" then(a++B0,[],c4 ch ap)else(a++ch,[],c4 ch ap)
 |ch::e::r,a,ap=>if stop ch then(a,e::r,c4 ch ap)else if ch="\\" then dv stop r (a++e) (c4 e (c4 ch ap))else dv stop (e::r) (a++ch) (c4 ch ap)
theorem n4{stop:O->Bool}{ch a:O}{ap:Int}:dv stop [ch] a ap=if stop ch then(a,[],c4 ch ap)else if ch="\\" then(a++B0,[],c4 ch ap)else(a++ch,[],c4 ch ap):=R
theorem l9{stop:O->Bool}{ch e a:O}{r:List O}{ap:Int}:dv stop (ch::e::r) a ap=if stop ch then(a,e::r,c4 ch ap)else if ch="\\" then dv stop r (a++e) (c4 e (c4 ch ap))else dv stop (e::r) (a++ch) (c4 ch ap):=R
structure gj(T:List Nat)(σ σ':V):Prop where
 aa:σ'.aa=σ.aa
 aj:∀i,i∉T->J σ'.aj i=J σ.aj i
theorem gj.NT{T:List Nat}{a b c:V}(x:gj T a b)(y:gj T b c):gj T a c:=⟨y.aa.trans x.aa,λi h=>(y.aj i h).trans (x.aj i h)⟩
noncomputable def i9(a cc:M):bB:=eX (dz 13 2).aM ["self","token","fiter","ch"] [] ["iter"] [.builtin "iter"] "_netrclex.get_token" a cc
structure d4(C bU:M)(σ:V)(I:cO)(cs:Nat)(ap:Int)(aE bk:List O)(tok:O)(en:Bool):Prop where
 cz:ei σ I ap aE bk
 it:J σ.aj cs=H (.fI (.dN bU (.bh C I.j)) en)
 D:J σ.ag 0=H (.bh C I.j)
 d8:J σ.ag 1=H (.ab (.str tok))
 z:J σ.ag 2=H (.aP cs)
 O7:∀s∈aE,s.length=1
 cZ:tok.length+aE.length<=800
 QJ:en=u->aE=[]
variable{cs:Nat}{en:Bool}
theorem d4.Po{I:cO}{ap:Int}{aE bk:List O}{a:O}(h:d4 C bU σ I cs ap aE bk a en):cs≠I.j/\cs≠I.e/\cs≠I.f:=by
 obtain⟨log,b,_⟩:=h.cz.ns;refine⟨λe=>?_,λe=>?_,λe=>?_⟩
 .have:=h.it;rw[e,b]at this;cases this
 .have:=h.it;rw[e,h.cz.e]at this;cases this
 .have:=h.it;rw[e,h.cz.f]at this;cases this
theorem m8(D:hK c C N bC d9 ex bU c7 eo fx fo fR){I:cO}{ap:Int}{aE bk:List O}{b:O}(K:d4 C bU σ I cs ap aE bk b BQ)(g:aE=[]->Q (.ab (.str B0)) σ)
  (h1:∀ch r,aE=ch::r->ch.length=1->∀σ',d4 C bU σ' I cs (c4 ch ap) r bk b BQ->gj [I.j,I.e,cs] σ σ'->Q (.ab (.str ch)) σ'):WC c (d+2) bU 1 [] [.bh C I.j] σ Q X:=by
 refine Av D K.cz (BG (FK _ _) (BG K.cZ (DD R))) g λch r j σ' k l f a=>?_;subst j;refine A3 K.Po λm n p=>?_;refine h1 ch r R (K.O7 ch (.head _)) σ' ⟨k,(f cs m n).trans K.it,U a K.D,U a K.d8,U a K.z,λs o=>K.O7 s (.tail _ o),?_,λh=>nomatch h⟩ ⟨l,λi hi=>f i (λe=>hi (U e (.head _))) λe=>hi (U e (.tail _ (.head _)))⟩;have:=K.cZ;rw[Cd]at this;exact Cz ‹_›
variable{ch:O}{r:List O}
theorem zz{stop:O->Bool}{a:O}{ap:Int}(b:stop ch=BQ)(aL:¬ch="\\"):dv stop (ch::r) a ap=dv stop r (a++ch) (c4 ch ap):=by
 cases r with
 |nil=>exact(BK (if_neg (by exact U b Dn)) ((if_neg aL)):(if stop ch=u then _ else if ch="\\" then _ else _)=_)
 |cons e r=>exact(BK (if_neg (by exact U b Dn)) ((if_neg aL)):(if stop ch=u then _ else if ch="\\" then _ else _)=_)
theorem p2{stop:O->Bool}{a:O}{ap:Int}(b:stop ch=u):dv stop (ch::r) a ap=(a,r,c4 ch ap):=by
 cases r with
 |nil=>exact if_pos b
 |cons e r=>exact if_pos b
theorem Aq{stop:O->Bool}{a:O}{ap:Int}(b:stop ch=BQ)(aL:ch="\\"):dv stop [ch] a ap=(a++B0,[],c4 ch ap):=by
 refine(?_:(if stop ch=u then _ else if ch="\\" then _ else _)=_);exact BK (if_neg (by exact U b Dn)) ((if_pos aL))
theorem AE{stop:O->Bool}{e:O}{a:O}{ap:Int}(b:stop ch=BQ)(aL:ch="\\"):dv stop (ch::e::r) a ap=dv stop r (a++e) (c4 e (c4 ch ap)):=by
 refine(?_:(if stop ch=u then _ else if ch="\\" then _ else _)=_);exact BK (if_neg (by exact U b Dn)) ((if_pos aL))
theorem d4.ag{I:cO}{ap:Int}{aE bk:List O}{b a:O}(h:d4 C bU σ I cs ap aE bk b en)(c:J l 0=H (.bh C I.j))(d:J l 1=H (.ab (.str a)))(e:J l 2=H (.aP cs))(f:a.length+aE.length<=800):d4 C bU ⟨σ.aa,σ.aj,l⟩ I cs ap aE bk a en:=
 ⟨⟨h.cz.ns,h.cz.P2,h.cz.s,h.cz.m,h.cz.e,h.cz.f,h.cz.Po⟩,h.it,c,d,e,h.O7,f,h.QJ⟩
theorem d4.S0{I:cO}{ap:Int}{bk:List O}{c:O}(A:d4 C bU σ I cs ap [] bk c BQ):d4 C bU (σ.NX cs (.fI (.dN bU (.bh C I.j)) u)) I cs ap [] bk c u:=
 have a:=A.Po
 ⟨A.cz.NX (by obtain⟨log,d,f⟩:=A.cz.ns;exact⟨log,aS (DN a.1) d,f⟩) (aS (DN a.2.1) A.cz.e) (aS (DN a.2.2) A.cz.f) λi o b b b aL e=>aS (λq=>by rw[q,A.it]at e;cases e;exact aL _ _ R) e,bq _ _ _,A.D,A.d8,A.z,A.O7,A.cZ,λb=>R⟩
variable{hs:CQ}{a:M}{T:O}{cx di eS e9:FH}{c6:List O}{cC:Int}
theorem r7(D:hK c C N bC d9 ex bU c7 eo fx fo fR){I:cO}{ap:Int}{aE bk:List O}{g:O}(K:d4 C bU σ I cs ap aE bk g BQ){stop:O->Bool}{ax ay aB aO aR E F aT aW aX G L S aY:FH}{aZ:Nat}
  (a4:∀(σ:V)(ch:O)(Q:Bool->V->Prop),J σ.ag 3=H (.ab (.str ch))->J σ.ag 0=H (.bh C I.j)->(∃log,J σ.aj I.j=H (.ns g7 log)/\J log 2=H (.ab (.str hI)))->Q (stop ch) σ->WB c (d+3) (i9 a cc) hs σ Q cm)(hpos:(E.endLine==F.line)=u)
  {Q:bY->V->Prop}(f:dv stop aE g ap=(T,c6,cC))
  (a9:∀σ',d4 C bU σ' I cs cC c6 bk T BQ->gj [I.j,I.e,cs] σ σ'->Q (.c0 (.ab (.str T))) σ')(ba:∀σ',d4 C bU σ' I cs cC c6 bk T u->gj [I.j,I.e,cs] σ σ'->Q .aa σ'):
  eK c (d+3) (i9 a cc) (.For (.Name "ch" cx) (.Name "fiter" di) [.If hs [.Return (H (.Name "token" eS)) e9] [.If (.Compare (.Name "ch" ax) [.Eq] [.Constant (.str "\\") aZ ay] aB) [.Assign [.Name "ch" aO] (.Call (.Attribute (.Name "self" aR) "_read_char" E) [] [] F) aT] [] aW] aX,.AugAssign (.Name "token" G) .Add (.Name "ch" L) S] [] aY) σ Q X:=by
 obtain⟨bb,aJ⟩:=D.fw;obtain⟨ck,W⟩:=D.fw.OY;refine A3 W λbc bf bg=>?_;clear W;refine sN (self:=.bh C I.j) aJ (λn o=>∃g aE ap,n=aE.length/\dv stop aE g ap=(T,c6,cC)/\d4 C bU o I cs ap aE bk g BQ/\gj [I.j,I.e,cs] σ o) aE.length (aw (mL R) K.z ⟨R,g,aE,ap,R,f,K,R,λt t=>R⟩) λn o bi=>?_;obtain⟨g,aE,ap,y,f,K,cM⟩:=bi;refine⟨BQ,K.it,(λh=>nomatch h),λt=>o4 (m8 D K (λj=>?_) λch r j ac v w ae=>?_)⟩
 .rw[j]at f K;have bj:g=T:=congrArg (·.1) f;have bl:[]=c6:=congrArg (·.2.1) f;have bu:ap=cC:=congrArg (·.2.2) f;refine⟨B0,R,K.it,λt=>ba _ (bj▸bl▸bu▸K.S0) ⟨cM.aa,λi hi=>aS (λe=>hi (U e (.tail _ (.tail _ (.head _))))) (cM.aj i hi)⟩,λh=>absurd R h⟩
 .rw[j]at f y K;have ah:d4 C bU (v.N1 o) I cs (c4 ch ap) r bk g BQ:=w.ag K.D K.d8 K.z w.cZ;have ai:=cM.NT ⟨ae.aa,ae.aj⟩;refine⟨ch,R,ah.it,λh=>absurd (congrArg Mg h) (by refine U ac ?_;decide),λt=>⟨_,.v (aH.ag (k:=3) (mL R)),?_⟩⟩;have bv:∃log,J v.aj I.j=H (.ns g7 log)/\J log 2=H (.ab (.str hI)):=by obtain⟨log,z,_,_,bx,_⟩:=w.cz.ns;exact⟨log,z,bx⟩
  have A:=K.cZ;rw[Cd]at A y;refine sl (φ:=λP=>WS c _ _ _ _ P cm) λbz bD cq bH=>?_
  have B:∀(p:V)(e:O)(l:List O)(x:Int),e.length<=1->J p.ag 3=H (.ab (.str e))->d4 C bU p I cs x l bk g BQ->l.length<=r.length->gj [I.j,I.e,cs] σ p->dv stop l (g++e) x=(T,c6,cC)->eK c (d+3) (i9 a cc) (.AugAssign (.Name "token" G) .Add (.Name "ch" L) S) p (ky c (d+3) (i9 a cc) [] bz cm) cm:=λp e l x j bQ b am m bS=>by
   have b6:g.length+e.length<=1000000:=aV [_,_,_] (aq ak bV) (nA 800) af a7 (aq ak af) dD al A j;have b9:(g++e).length=g.length+e.length:=U (eF ..) (U (gX ..) (U BV (br (eF ..) (br (eF ..) R))));refine ki (ll (mL R) b.d8 (aw (mL R) bQ (p0 b6 ⟨_,aH.ag (k:=1) (mL R),bJ (bD _ ?_).1⟩)));refine⟨l.length,aV [_,_,_] bV af ak au aC af al (eR y) am,g++e,l,x,R,bS,b.ag ?_ ?_ ?_ (jq [_,_,_,_,_] (aq au fC) (nA 800) f7 a7 af bG ak (aq au f7) (aq ak af) (nA 800) al A j am (eL b9)),m.aa,m.aj⟩
   .exact aS (by decide) b.D
   .exact bq _ _ _
   .exact aS (by decide) b.z
  have b:d4 C bU ((v.N1 o).N2 3 (.ab (.str ch))) I cs (c4 ch ap) r bk g BQ:=ah.ag (aS (by decide) K.D) (aS (by decide) K.d8) (aS (by decide) K.z) w.cZ;have m:gj [I.j,I.e,cs] σ ((v.N1 o).N2 3 (.ab (.str ch))):=⟨ai.aa,ai.aj⟩;refine aQ (cU (a4 _ ch _ (bq _ _ _) b.D bv ⟨λs=>?_,λs=>?_⟩))
  .replace f:=(p2 s).symm.trans f;cases f;exact aQ (ej (aw (mL R) b.d8 (bH _ _ (a9 _ b m))))
  .refine aQ (cU (ca (aw (mL R) (bq _ _ _) (b8 (hL ⟨_,R,λao=>?_,λaJ=>?_⟩)))))
   .have aL:=beq_iff_eq.mp ao;obtain⟨log,z,_⟩:=b.cz.ns;refine aQ (dh (fe (.ag (mL R) b.D) (cf.Px D.cp z bb bc bf bg D.ga D.gt FO.RJ (by decide+kernel)) (a1.N4 aJ) .a6 ?_ (hpos:=hpos)));refine WK.NW (WC.Of (m8 D b (λj=>?_) λe l j cj cA an av=>?_))
    .rw[j]at f b;replace f:=(Aq s aL).symm.trans f;refine⟨_,aH.ag (mL R),bJ (bJ (aQ (B _ B0 [] _ (Cm _) (bq _ _ _) (b.ag ?_ ?_ ?_ b.cZ) (Cm _) ⟨m.aa,m.aj⟩ f)))⟩
     .exact aS (by decide) b.D
     .exact aS (by decide) b.d8
     .exact aS (by decide) b.z
    .rw[j,AE s aL]at f;refine⟨_,aH.ag (mL R),bJ (bJ (aQ (B _ e l _ (CL cj) (bq _ _ _) (an.ag ?_ ?_ ?_ an.cZ) (U j (Cr _)) (m.NT ⟨av.aa,av.aj⟩) f)))⟩
     .exact aS (by decide) b.D
     .exact aS (by decide) b.d8
     .exact aS (by decide) b.z
   .have aL:¬ch="\\":=λq=>by rw[q]at aJ;exact absurd aJ (by decide+kernel)
    replace f:=(zz s aL).symm.trans f;exact bJ (bJ (aQ (B _ ch r _ (CL ac) (bq _ _ _) b (BJ _) m f)))
noncomputable def lL(ch:O):Bool:=ch=="\""
noncomputable def dC:List O->Int->O×List O×Int
 |[],ap=>(B0,[],ap)
 |ch::r,ap=>if fN ch then dC r (c4 ch ap)else if ch="\"" then dv lL r B0 (c4 ch ap)else if ch="\\" then(match r with
   |[]=>dv fN [] (B0++B0) (c4 ch ap)
   |e::a=>dv fN a (B0++e) (c4 e (c4 ch ap)))else dv fN r (B0++ch) (c4 ch ap)
theorem mv{ch:O}{r:List O}{ap:Int}:dC (ch::r) ap=if fN ch then dC r (c4 ch ap)else if ch="\"" then dv lL r B0 (c4 ch ap)else if ch="\\" then(match r with
   |[]=>dv fN [] (B0++B0) (c4 ch ap)
   |e::a=>dv fN a (B0++e) (c4 e (c4 ch ap)))else dv fN r (B0++ch) (c4 ch ap):=R
variable{y:Option Z}
theorem sc{names:List O}{bj:O}(aL:gG c C N bC)(e:J σ.aj j=H (.ns names log))(aJ:bC bj=H (.ref f))(g:∃a,¬c.N9 f/\c.i.get? f=H a/\a.cls=.type "function")(i:bC "__getattribute__"=B2)(k:bC "__getattr__"=B2)(l:CD (.type "object") bj=CV y)
  (m:(["__module__","__name__","__qualname__","__doc__","__annotations__"]:List O).contains bj=BQ)(n:bj∉names)(h:Q (.dN f (.bh C j)) σ):e2 rV c d (λv=>Hn v bj u) (.bh C j) σ Q X:=by
 obtain⟨a,b⟩:=g;refine A3 b λh1 h2 o=>?_;clear b;exact e2.NW (yZ aL e aJ h1 h2 o i k l m n (h))
theorem ei.PZ{I:cO}{ap:Int}{aE bk:List O}(K:ei σ I ap aE bk)(b:σ.PC){a:bL}:ei ⟨σ.aa+1,(σ.aa,a)::σ.aj,l⟩ I ap aE bk:=
 K.NX (by obtain⟨log,d,f⟩:=K.ns;exact⟨log,b.PZ (BJ _) d,f⟩) (b.PZ (BJ _) K.e) (b.PZ (BJ _) K.f) λi o c c c c e=>b.PZ (BJ _) e
theorem mR(D:hK c C N bC d9 ex bU c7 eo fx fo fR){Q:Bool->V->Prop}(b:J σ.ag 3=H (.ab (.str ch)))(e:J σ.ag 0=H (.bh C j))(f:∃log,J σ.aj j=H (.ns g7 log)/\J log 2=H (.ab (.str hI)))(h:Q (fN ch) σ):
  WB c d (i9 a cc) (.Compare (.Name "ch" cx) [.In] [.Attribute (.Name "self" di) "whitespace" eS] e9) σ Q X:=by
 obtain⟨log,g,i⟩:=f;refine ca (aw (mL R) b (h9 (aw (mL R) e (iF D.cp g R i D.ga D.a2 FO.Sh (λk=>nofun) (y2 ⟨_,R,h⟩)))))
theorem pt(D:hK c C N bC d9 ex bU c7 eo fx fo fR){I:cO}{ap:Int}{aE bk:List O}{e:O}(K:d4 C bU σ I cs ap aE bk B0 BQ){h i j k l b f m n o p q r s aT aX bc:FH}{t:Nat}(v:J σ.ag 3=H (.ab (.str e)))(g:e.length+aE.length<=800){stop:O->Bool}
  (w:∀(σ:V)(ch:O)(Q:Bool->V->Prop),J σ.ag 3=H (.ab (.str ch))->J σ.ag 0=H (.bh C I.j)->(∃log,J σ.aj I.j=H (.ns g7 log)/\J log 2=H (.ab (.str hI)))->Q (stop ch) σ->WB c (d+3) (i9 a cc) hs σ Q cm)(hpos:(b.endLine==f.line)=u)
  {P:bY->V->Prop}(x:dv stop aE (B0++e) ap=(T,c6,cC))
  (y:∀σ',d4 C bU σ' I cs cC c6 bk T BQ->gj [I.j,I.e,cs] σ σ'->P (.c0 (.ab (.str T))) σ')(z:∀σ',d4 C bU σ' I cs cC c6 bk T u->gj [I.j,I.e,cs] σ σ'->P .aa σ'):
  WS c (d+3) (i9 a cc) [.AugAssign (.Name "token" aT) .Add (.Name "ch" aX) bc,.For (.Name "ch" cx) (.Name "fiter" di) [.If hs [.Return (H (.Name "token" eS)) e9] [.If (.Compare (.Name "ch" h) [.Eq] [.Constant (.str "\\") t i] j) [.Assign [.Name "ch" k] (.Call (.Attribute (.Name "self" l) "_read_char" b) [] [] f) m] [] n] o,.AugAssign (.Name "token" p) .Add (.Name "ch" q) r] [] s] σ P cm:=
 have B:(B0++e).length=e.length:=by rw[eF,gX];show([]++cb _).length=_;rw[ED,←eF]
 aQ (ki (ll (mL R) K.d8 (aw (mL R) v (p0 (BG (C8 (BG (B4 ..) g) _) (DD R)) ⟨_,aH.ag (mL R),aQ (r7 D (K.ag (aS (by decide) K.D) (bq _ _ _) (aS (by decide) K.z) (U B g)) w hpos x (λσ' A S=>y σ' A ⟨S.aa,S.aj⟩) λσ' A S=>bJ (z σ' A ⟨S.aa,S.aj⟩))⟩))))
theorem v4(D:hK c C N bC d9 ex bU c7 eo fx fo fR){I:cO}{ap:Int}{aE:List O}{P:bY->V->Prop}(K:d4 C bU σ I cs ap aE [] B0 BQ)(b:dC aE ap=(T,c6,cC))
  (s:∀(σ':V)(en:Bool),d4 C bU σ' I cs cC c6 [] T en->gj [I.j,I.e,cs] σ σ'->P (.c0 (.ab (.str T))) σ'):WS c (d+3) (i9 a cc) ((dz 13 2).h.drop 3) σ P X:=by
 obtain⟨aO,ae⟩:=D.fw;obtain⟨bi,ah⟩:=D.fw.OY;refine A3 ah λaR aT aW=>?_;clear ah
 refine aQ (sN (self:=.bh C I.j) ae (λn g=>(∃aE ap,n=aE.length+1/\dC aE ap=(T,c6,cC)/\d4 C bU g I cs ap aE [] B0 BQ/\gj [I.j,I.e,cs] σ g)\/(n=0/\d4 C bU g I cs cC c6 [] T u/\gj [I.j,I.e,cs] σ g)) (aE.length+1)
  (aw (mL R) K.z ⟨R,.inl ⟨aE,ap,R,b,K,R,λp p=>R⟩⟩) λn g aX=>?_)
 rcases aX with⟨aE,ap,m,b,A,S⟩|⟨rfl,A,S⟩
 .refine⟨BQ,A.it,(λh=>nomatch h),λp=>o4 (m8 D A (λt=>?_) λch r t ai o E am=>?_)⟩
  .rw[t]at b A;have x:B0=T:=congrArg (·.1) b;have aY:[]=c6:=congrArg (·.2.1) b;have aZ:ap=cC:=congrArg (·.2.2) b;refine⟨B0,R,A.it,λp=>?_,λh=>absurd R h⟩;have f:d4 C bU ((g.N1 g).NX cs (.fI (.dN bU (.bh C I.j)) u)) I cs cC c6 [] T u:=x▸aY▸aZ▸A.S0
   try dsimp only
   exact aQ (ej (aw (mL R) f.d8 (s _ _ f ⟨S.aa,λi hi=>aS (λe=>hi (U e (.tail _ (.tail _ (.head _))))) (S.aj i hi)⟩)))
  .rw[t]at b m A;have an:d4 C bU (o.N1 g) I cs (c4 ch ap) r [] B0 BQ:=E.ag A.D A.d8 A.z E.cZ;have a4:=S.NT ⟨am.aa,am.aj⟩;refine⟨ch,R,an.it,λh=>absurd (congrArg Mg h) (by refine U ai ?_;decide),λp=>⟨_,.v (aH.ag (k:=3) (mL R)),?_⟩⟩;refine sl (φ:=λP=>WS _ _ _ _ _ P cm) λa9 av bj ba=>?_;have s:=λσ' en A S=>ba _ _ (s σ' en A S);have F:∀(σ':V),d4 C bU σ' I cs cC c6 [] T u->gj [I.j,I.e,cs] σ σ'->a9 .aa σ':=λσ' A S=>(av _ ⟨0,dk m (GD _),.inr ⟨R,A,S⟩⟩).1;have bb:∃log,J o.aj I.j=H (.ns g7 log)/\J log 2=H (.ab (.str hI)):=by obtain⟨log,G,_,_,bc,_⟩:=E.cz.ns;exact⟨log,G,bc⟩
   have z:=A.cZ;rw[Cd]at z m;have bk:B0.length=0:=R;have l:d4 C bU ((o.N1 g).N2 3 (.ab (.str ch))) I cs (c4 ch ap) r [] B0 BQ:=an.ag (aS (by decide) A.D) (aS (by decide) A.d8) (aS (by decide) A.z) E.cZ;have v:=a4.NT (c:=(o.N1 g).N2 3 (.ab (.str ch))) ⟨R,λp p=>R⟩;refine aQ (cU (mR D (bq _ _ _) l.D bb ⟨λL=>?_,λL=>?_⟩))
   .have x:dC (ch::r) ap=dC r (c4 ch ap):=if_pos L;replace b:=x.symm.trans b;exact aQ (yg (av _ ⟨r.length+1,dk m (B3 _),.inl ⟨r,c4 ch ap,R,b,l,v⟩⟩).2)
   have x:dC (ch::r) ap=_:=if_neg (by exact U L Dn);replace b:=x.symm.trans b;clear x;refine bJ ?_
   try dsimp only
   refine aQ (cU (ca (aw (mL R) (bq _ _ _) (b8 (hL ⟨_,R,λao=>?_,λaJ=>?_⟩)))))
   .have W:=beq_iff_eq.mp ao;replace b:=(if_pos W).symm.trans b;refine aQ (r7 D l (stop:=lL) (λσ ch Q w y m h=>ca (aw (mL R) w (b8 (hL ⟨_,R,h⟩)))) R b (λσ' f j=>s _ _ f (v.NT j)) λσ' f j=>bJ (bJ (F _ f (v.NT j))))
   have W:¬ch="\"":=λq=>by rw[q]at aJ;exact absurd aJ (by decide+kernel)
   replace b:=(if_neg W).symm.trans b;refine aQ (cU (ca (aw (mL R) (bq _ _ _) (b8 (hL ⟨_,R,λao=>?_,λaJ=>?_⟩)))))
   .have aL:=beq_iff_eq.mp ao;replace b:=(if_pos aL).symm.trans b;obtain⟨log,G,_⟩:=l.cz.ns;refine aQ (dh (fe (.ag (mL R) l.D) (cf.Px D.cp G aO aR aT aW D.ga D.gt FO.RJ (by decide+kernel)) (a1.N4 ae) .a6 (WK.NW (WC.Of (m8 D l (λt=>?_) λe bf t bg ax ay aB=>?_)))))
    .rw[t]at b;refine⟨_,aH.ag (k:=3) (mL R),bJ ?_⟩
     try dsimp only
     have ac:d4 C bU ((((o.N1 g).N2 3 (.ab (.str ch))).N1 ((o.N1 g).N2 3 (.ab (.str ch)))).N2 3 (.ab (.str B0))) I cs (c4 ch ap) [] [] B0 BQ:=(t▸l:d4 C bU _ I cs (c4 ch ap) [] [] Str.empty false).ag (aS (by decide) l.D) (aS (by decide) l.d8) (aS (by decide) l.z) (Cm _);have B:=v.NT (c:=(((o.N1 g).N2 3 (.ab (.str ch))).N1 ((o.N1 g).N2 3 (.ab (.str ch)))).N2 3 (.ab (.str B0))) ⟨R,λp p=>R⟩;exact pt D ac (bq _ _ _) (DD R) (λσ ch Q w y m h=>mR D w y m h) R b (λσ' f j=>s _ _ f (B.NT j)) λσ' f j=>bJ (F _ f (B.NT j))
    .rw[t]at z m b;refine⟨_,aH.ag (k:=3) (mL R),bJ ?_⟩
     try dsimp only
     rw[Cd]at z m;have ac:d4 C bU ((ax.N1 ((o.N1 g).N2 3 (.ab (.str ch)))).N2 3 (.ab (.str e))) I cs (c4 e (c4 ch ap)) bf [] B0 BQ:=ay.ag (aS (by decide) l.D) (aS (by decide) l.d8) (aS (by decide) l.z) ay.cZ;have B:=v.NT (c:=(ax.N1 ((o.N1 g).N2 3 (.ab (.str ch)))).N2 3 (.ab (.str e))) ⟨aB.aa,aB.aj⟩;exact pt D ac (bq _ _ _) (U bg (BG (by exact h0 [_,_] (aq a7 ak) (aq af (aq aC a7)) al) z)) (λσ ch Q w y m h=>mR D w y m h) R b (λσ' f j=>s _ _ f (B.NT j)) λσ' f j=>bJ (F _ f (B.NT j))
   .have aL:¬ch="\\":=λq=>by rw[q]at aJ;exact absurd aJ (by decide+kernel)
    replace b:=(if_neg aL).symm.trans b;refine bJ ?_
    try dsimp only
    exact pt D l (bq _ _ _) (aV [_,_,_] ak a7 (aq au b1) (nA 800) (aq ak af) (nA 800) al (eL ai) z) (λσ ch Q w y m h=>mR D w y m h) R b (λσ' f j=>s _ _ f (v.NT j)) λσ' f j=>bJ (F _ f (v.NT j))
 .refine⟨u,A.it,λp=>?_,λh=>nomatch h⟩
  try dsimp only
  exact aQ (ej (aw (mL R) A.d8 (s _ _ A S)))
theorem mA(D:hK c C N bC d9 ex bU c7 eo fx fo fR){I:cO}{ap:Int}{aE bk:List O}(K:ei σ I ap aE bk)(w:∀s∈aE,s.length=1)(y:aE.length<=800)(n:bk.length<=1000)
  (ai:∀p b,bk=p::b->∀σ',ei σ' I ap aE b->hE [I.j,I.e,I.f] σ σ'->Q (.ab (.str p)) σ')
  (f:bk=[]->∀T c6 cC,dC aE ap=(T,c6,cC)->∀σ',ei σ' I cC c6 []->hE [I.j,I.e,I.f] σ σ'->Q (.ab (.str T)) σ'):WC c (d+4) eo 1 [] [.bh C I.j] σ Q X:=by
 obtain⟨ah,aJ⟩:=D.Pr;obtain⟨am,g⟩:=D.fw.OY;refine A3 g λan av ax=>?_;clear g;refine WC.N5 λz=>?_;refine e3 aJ (i9 eo fx) (jS λa a a a a=>by rfl) R ⟨R,R,R,R,R⟩ (e0 (by decide+kernel) R ⟨D.SD,trivial⟩ (λa h=>nomatch h)) (.aU (aH.ag (k:=0) (mL R)) (.a6 _)) λL=>?_
 obtain⟨log,g⟩:=K.ns;refine A5 g λj B E F m=>?_;clear g;have r:(bk.map B1).length=bk.length:=BH _;refine aQ (cU (gN (h9 (aw (k:=0) (mL R) R (iF D.cp j R m D.ga D.Q8 FO.Rj (λa=>nofun) (oH (.bm K.f) (aV [_,_] af dT ak af ak dD al n (eL r)) ⟨λao=>?_,λG=>?_⟩))))))
 .cases bk with
  |nil=>cases ao
  |cons p b=>
   refine aQ (ej (eb (h9 (aw (k:=0) (mL R) R (iF D.cp j R m D.ga D.Q8 FO.Rj (λa=>nofun) ⟨_,u,cf.aN K.f Gw II,a1.Oe _,aI (bI (bn (ce (sL K.f (by simp at r n⊢;exact BG ‹_› (DD R)) (ai p b R _ (K.NX ?_ ?_ (bq _ _ _) λi o a a P a e=>?_) ⟨BJ _,R,λi hi l=>?_⟩)))))⟩)))))
   .refine⟨log,?_,B,E,F,m⟩;exact aS (λe=>by have:=K.f;rw[←e,j]at this;cases this) j
   .exact aS K.Po.1 K.e
   .exact aS P e
   .exact aS (λe=>l (U e (.tail _ (.tail _ (.head _))))) R
 .have W:bk=[]:=by
   cases bk with
   |nil=>rfl
   |cons p b=>cases G
  subst W;have f:=f R;refine bJ ?_
  try dsimp only
  refine aQ (dh (b8 (x:=B0) ⟨_,aH.ag (k:=1) (mL R),aQ (dh (dJ (dr (mG 0 R R) ⟨a1.Oe _,aI (h9 (aw (k:=0) (mL R) R (sc D.cp j D.fw.1 D.fw.OY D.ga D.gt FO.RJ (by decide+kernel) (by decide+kernel) ?_)))⟩)))⟩));refine aI (b8 (x:=B0) (bn (ce (xy ⟨_,aH.ag (k:=2) (mL R),?_⟩))));obtain⟨T,c6,cC,t⟩:∃T c6 cC,dC aE ap=(T,c6,cC):=⟨_,_,_,R⟩;have f:=f T c6 cC t
  let cs:=σ.aa
  have ac:d4 C bU ⟨σ.aa+1,(cs,.fI (.dN bU (.bh C I.j)) BQ)::σ.aj,[(2,.aP cs),(1,.ab (.str B0)),(0,.bh C I.j)]⟩ I cs ap aE [] B0 BQ:=
   ⟨K.PZ z,bq _ _ _,R,R,R,w,by refine(?_:0+_<=_);exact a0 [_] ak (nA 800) (aq c8 ak) (nA 800) al y,λh=>nomatch h⟩
  have v:∀i,i<σ.aa->i≠cs:=λi h=>BZ h
  have ae:∀(σ':V)(en:Bool),d4 C bU σ' I cs cC c6 [] T en->gj [I.j,I.e,cs] ⟨σ.aa+1,(cs,.fI (.dN bU (.bh C I.j)) BQ)::σ.aj,[(2,.aP cs),(1,.ab (.str B0)),(0,.bh C I.j)]⟩ σ'->Q (.ab (.str T)) (σ'.N1 σ):=λσ' en A S=>by
   refine f _ ⟨A.cz.ns,A.cz.P2,A.cz.s,A.cz.m,A.cz.e,A.cz.f,A.cz.Po⟩ ⟨(dH S.aa (Cr _):σ.aa<=σ'.aa),R,λi hi l=>?_⟩;refine(?_:J σ'.aj i=_);rw[S.aj i (λq=>?_),de,if_neg (v i hi)];rcases BX.mp q with q|q
   .exact l (U q (.head _))
   .rcases BX.mp q with q|q
    .exact l (U q (.tail _ (.head _)))
    .exact v i hi (BO.mp q)
  exact v4 (c:=c.a5 L) D ac t ae
noncomputable def yN(a cc:M):bB:=eX (dz 13 3).aM ["self","token"] [] [] [] "_netrclex.push_token" a cc
theorem r8(D:hK c C N bC d9 ex bU c7 eo fx fo fR){I:cO}{ap:Int}{aE bk:List O}{w:O}(K:ei σ I ap aE bk)(j:bk.length<=1000)
  (h:∀σ',ei σ' I ap aE (bk++[w])->hE [I.f] σ σ'->σ'.aa=σ.aa->Q (.ab .none) σ'):WC c (d+1) fo 2 [] [.bh C I.j,.ab (.str w)] σ Q X:=by
 obtain⟨s,aJ⟩:=D.Qy;refine e3 aJ (yN fo fR) (kM λa a a a a a=>by rfl) R ⟨R,R,R,R,R⟩ (e0 (by decide+kernel) R trivial (λa h=>nomatch h)) (.aU (aH.ag (k:=0) (mL R)) (.aU (aH.ag (k:=1) (mL R)) (.a6 _))) λL=>?_
 obtain⟨log,f⟩:=K.ns;refine A5 f λb l m n g=>?_;clear f;have p:(bk.map B1).length=bk.length:=BH _;refine aQ (ez (eb (h9 (aw (k:=0) (mL R) R (iF D.cp b R g D.ga D.Q8 FO.Rj (λa=>nofun) ⟨_,u,cf.aN K.f CT CY,a1.Oe _,aI (aw (k:=1) (mL R) R (bn (ce (iD K.f (aV [_,_] af dT ak af ak (nA 999999) al j (eL p)) (bJ (h _ (K.NX ⟨log,?_,l,m,n,g⟩ ?_ ?_ λi o a a q a e=>?_) ⟨BJ _,R,λi hi r=>?_⟩ R))))))⟩)))))
 .exact aS (λe=>by have:=K.f;rw[←e,b]at this;cases this) b
 .exact aS K.Po.1 K.e
 .exact U Cb (bq _ _ _)
 .exact aS q e
 .exact aS (λe=>r (U e (.head _))) R
noncomputable def zS(a cc:M):bB:=eX (dz 13 0).aM ["self","fp"] [] [] [] "_netrclex.__init__" a cc
theorem wR(D:hK c C N bC d9 ex bU c7 eo fx fo fR){t:Nat}(b:J σ.aj j=H (.ns g7 []))
  (h:∀log,J log 0=H (.ab (.int 1))->J log 1=H (.aP t)->J log 2=H (.ab (.str hI))->J log 3=H (.aP σ.aa)->∀σ',σ'.aa=σ.aa+1->σ'.ag=σ.ag->J σ'.aj j=H (.ns g7 log)->J σ'.aj σ.aa=H (.aN [])->(∀i,i≠j->i≠σ.aa->J σ'.aj i=J σ.aj i)->Q (.ab .none) σ'):WC c (d+1) d9 2 [] [.bh C j,.aP t] σ Q X:=by
 obtain⟨g,aJ⟩:=D.hO;refine WC.N5 λf=>?_;refine e3 aJ (zS d9 ex) (kM λa a a a a a=>by rfl) R ⟨R,R,R,R,R⟩ (e0 (by decide+kernel) R trivial (λa h=>nomatch h)) (.aU (aH.ag (k:=0) (mL R)) (.aU (aH.ag (k:=1) (mL R)) (.a6 _))) λL=>?_
 have e:=BZ (f _ _ b);refine aQ (lV (bI (aw (k:=0) (mL R) R ⟨_,im.Px (k:=0) D.cp b R D.sa D.ih FO.Rl (DD R),aQ (lV (aw (k:=1) (mL R) R (aw (k:=0) (mL R) R ⟨_,im.Px (k:=1) D.cp (bq _ _ _) R D.sa D.R4 FO.Td (DD R),?_⟩)))⟩)));refine aQ (lV (b8 (aw (k:=0) (mL R) R ⟨_,im.Px (k:=2) D.cp (bq _ _ _) R D.sa D.a2 FO.Sh (DD R),aQ (lV (ig (bn ⟨[],R,Cm _,aw (k:=0) (mL R) R ⟨_,im.Px (names:=g7) (k:=3) D.cp (log:=[(2,.ab (.str hI)),(1,.aP t),(0,.ab (.int 1))]) ?_ R D.sa D.Q8 FO.Rj (DD R),?_⟩⟩)))⟩)))
 .exact aS e (bq _ _ _)
 .refine bJ (h [(3,.aP σ.aa),(2,.ab (.str hI)),(1,.aP t),(0,.ab (.int 1))] R R R R _ R R (bq _ _ _) ?_ λi h1 h2=>?_)
  .exact aS (DN e) (bq _ _ _)
  .exact aS h1 (aS h2 (aS h1 (aS h1 (aS h1 R))))
theorem a1.cp(aL:gG c C N bC):a1 c (.bT (.ref C)):=λA g σ s d n r h=>by
 obtain rfl:=h.NV;have X:=aL.QA r;obtain⟨nm,q,bs,sn,sub,col,dd,k0,k1,k2,k3,k5,e⟩:=jM.Qa X;have a:s.TypeIs (.ref C) "type":=⟨_,e,R⟩;refine⟨.machine,.inr (.inl R),λQ E b=>?_⟩;unfold Gg;refine BM (Fg e (BM (Dr a tc_lookup ?_)));exact BW b
noncomputable def su(C:M)(n:Nat)(a cc:M):bB:=eX (az 21).aM ["text","tape"] [("signs",n)] ["list","_netrclex"] [.type "list",.ref C] "_law_desk" a cc
theorem xi(D:hK c C N bC d9 ex bU c7 eo fx fo fR){bu cc P:M}(aJ:fi c bu "_law_desk" "_law_desk" (az 21).l (az 21).h (az 21).aM .none .none cc)(e:(cc,P,i6)∈c.k)(f:∀p∈c.k,p.2.1=P->p.2.2=i6)(l:cr c "list" (.type "list"))(m:cr c "_netrclex" (.ref C))
  (G:x.length<=800)
  (h:∀σ' I,ei σ' I 1 (dn x) []->hE [] σ σ'->(∀i∈[I.j,I.x,I.s,I.m,I.e,I.f],σ.aa<=i)->Q (.bh C I.j) σ'):WC c (d+4) bu 1 [] [.ab (.str x)] σ Q X:=by
 refine WC.N5 λK=>?_;refine e3 aJ (su C σ.aa bu cc) (jS λb b b b b=>by rfl) R ⟨R,R,R,R,R⟩ (e0 (cn:=["signs"]) (by decide+kernel) R ⟨l,m,trivial⟩ (λq n=>U (BO.mp n) (B3 _))) (.aU (aH.ag (k:=0) (mL R)) (.a6 _)) λL=>?_
 have o:(("signs":O),cQ.ar σ.aa)∈(su C σ.aa bu cc).bN:=mC (.head _);refine aQ (dh (d3 (mG 0 R R) (a1.PA _) (.ag (k:=0) (mL R) R .a6) (qv (BG ‹_› (DD R)) (.inr ⟨_,aH.ar (v₀:=B2) o ?_,?_⟩))))
 .refine(?_:J ((σ.aa+1,_)::(σ.aa,_)::σ.aj) σ.aa=_)
  repeat first|exact bq _ _ _|refine aS (bK R) ?_|refine aS dI ?_|refine aS jh ?_
 refine aQ (dh (zE e f R R R (by intros;rfl) ⟨_,aH.ag (k:=1) (mL R),aQ (Bs (pK e f R R (cl:=[("signs",σ.aa)]) R (by intros;rfl) (aw (k:=1) (mL R) R ⟨_,nY.fH (bq _ _ _) FF.SK,?_⟩)))⟩));obtain⟨r,S⟩:=D.hO;obtain⟨T,g⟩:=D.hO.OY;refine A3 g λh1 h2 s=>?_;clear g;refine aQ (ej (d3 (mG 1 R R) ?_ (.ag (k:=1) (mL R) R .a6) (p1 HM D.cp r h1 h2 s g7 (by decide+kernel) (WC.Of (wR (c:=c.a5 L) D (bq _ _ _) λlog t v w y σ' j W z ac A=>?_)))))
 .exact a1.cp D.cp
 .refine⟨R,(dk (show σ'.aa=σ.aa+6 from j) (Cr _):σ.aa+4<σ'.aa),?_⟩
  let I:cO:=⟨σ.aa+4,σ.aa+2,σ.aa+3,σ.aa,σ.aa+1,σ.aa+5⟩
  have B:σ'.aa=σ.aa+6:=j;have E:=z;have F:J σ'.aj (σ.aa+5)=H (.aN []):=ac;have a:∀i,i≠σ.aa+4->i≠σ.aa+5->J σ'.aj i=J ((σ.aa+4,.ns g7 [])::(σ.aa+2,.fH p7 [] (H (σ.aa+3)))::(σ.aa+3,.ns ["read"] [(0,.ed jz [("signs",σ.aa)])])::(σ.aa+2,.fH p7 [] B2)::(σ.aa,.ar (H (.aP (σ.aa+1))))::(σ.aa+1,.aN ((dn x).map .str))::(σ.aa,.ar B2)::σ.aj) i:=A;refine h _ I ⟨⟨log,E,t,v,w,y⟩,⟨p7,[],?_⟩,⟨[(0,.ed jz [("signs",σ.aa)])],?_,R⟩,?_,?_,F,?_⟩ ⟨?_,R,λi hi ae=>?_⟩ ?_
  .refine(?_:J σ'.aj (σ.aa+2)=_);refine BK (a _ (bK R) (bK R)) ?_;repeat first|exact bq _ _ _|refine aS (bK R) ?_|refine aS dI ?_|refine aS jh ?_
  .refine(?_:J σ'.aj (σ.aa+3)=_);refine BK (a _ (bK R) (bK R)) ?_;repeat first|exact bq _ _ _|refine aS (bK R) ?_|refine aS dI ?_|refine aS jh ?_
  .refine(?_:J σ'.aj σ.aa=_);refine BK (a _ (dI) (dI)) ?_;repeat first|exact bq _ _ _|refine aS (bK R) ?_|refine aS dI ?_|refine aS jh ?_
  .refine(?_:J σ'.aj (σ.aa+1)=_);refine BK (a _ (bK R) (bK R)) ?_;repeat first|exact bq _ _ _|refine aS (bK R) ?_|refine aS dI ?_|refine aS jh ?_
  .exact⟨(bK R:σ.aa+1≠σ.aa+5),(bK R:σ.aa+4≠σ.aa+3)⟩
  .refine(?_:σ.aa<=σ'.aa);exact a0 [_,_] (ct 0 6) af ak af al (eR B)
  .refine(?_:J σ'.aj i=_);refine BK (a _ (b7 ‹_›) (b7 ‹_›)) ?_;simp only[de];exact BK (if_neg (b7 ‹_›)) (BK (if_neg (b7 ‹_›)) (BK (if_neg (b7 ‹_›)) (BK (if_neg (b7 ‹_›)) (BK (if_neg (BZ ‹_›)) (BK (if_neg (b7 ‹_›)) ((if_neg (BZ ‹_›))))))))
  .intro i hi;replace hi:=mq hi;rcases hi with rfl|rfl|rfl|rfl|rfl|rfl <;> refine(?_:σ.aa<=_) <;> first|exact B4 _ _|exact BJ _
noncomputable def jb(names:List O)(cells:List (O×Nat))(gn:List O)(gv:List Z):List (O×cQ):=
 names.zipIdx.map (λp=>(p.1,.ag p.2))++(cells.map (λp=>(p.1,.ar p.2))++(gn.zip gv).map λp=>(p.1,.Ow p.2))
section
variable{c:Cx}{d:Nat}{ae:bB}{σ:V}{bQ:Ef}{n:Nat}{cl:List (O×Nat)}{names gn:List O}{gv:List Z}
noncomputable abbrev fF(ae:bB)(bQ:Ef)(n:Nat)(cl:List (O×Nat))(names gn:List O)(gv:List Z):bB:=ae.Qp bQ n cl names (jb names cl gn gv)
theorem dQ{c:Bx}{cn:List O}(e:dp (db bQ ae.aM) names cn gn=u)(f:cl.map (·.1)=cn)(d:fs n bQ.names cl=cl)(g:j0 c gn gv)(aL:∀q∈cl,q.2<m):(fF ae bQ n cl names gn gv).Ok c m:=by
 have:=e0 (q:=B0) (a:=0) (cc:=0) e f g aL
 exact⟨this.L,this.OZ,λq b=>by
  have:=this.bN q b;refine(?_:ow c (db bQ ae.aM) names (fs n bQ.names cl) q.1 q.2/\_);exact U d this,λq b=>aL q (by
  have b:q∈fs n bQ.names cl:=b;rw[d]at b;exact b)⟩
theorem cL(h:names[k]?=H x):(x,cQ.ag k)∈(fF ae bQ n cl names gn gv).bN:=
 Ci _ (B7.mpr ⟨(x,k),FG.mpr h,R⟩)
theorem cT(h:(x,i)∈cl):(x,cQ.ar i)∈(fF ae bQ n cl names gn gv).bN:=
 Ce _ (Ci _ (B7.mpr ⟨(x,i),h,R⟩))
theorem md(k:Nat)(h:gn[k]?=H x)(ay:gv[k]?=H v):(x,cQ.Ow v)∈(fF ae bQ n cl names gn gv).bN:=
 Ce _ (Ce _ (B7.mpr ⟨(x,v),by
  refine B5 (i:=k) ?_;rw[F4];exact⟨h,ay⟩,R⟩))
theorem m7(f:Nat->Option aO)(k:Nat):(Ch (k+1)).filterMap f=(Ch k).filterMap f++(f k).toList:=by
 refine U GH (BK Je ?_);cases h:f k <;> simp[h]
noncomputable def cD(a σ:V):Prop:=∃n,a.aa<=n/\ft ⟨n,a.aj,[]⟩ σ
theorem cD.aa{a σ:V}(h:cD a σ):a.aa<=σ.aa:=by obtain⟨n,h1,h2⟩:=h;exact h2.aa▸h1
theorem cD.aj{a σ:V}(h:cD a σ){o:bL}(e:J a.aj i=H o):J σ.aj i=H o:=by obtain⟨n,h1,h2⟩:=h;exact h2.aj i o e
theorem cD.NW{a σ:V}(h:cD a σ)(b:σ.aa<=σ'.aa)(c:∀i o,J σ.aj i=H o->J σ'.aj i=H o):cD a σ':=
 ⟨σ'.aa,BG h.aa b,R,λi o e=>c i o (h.aj e),λd d h=>nomatch h⟩
noncomputable def xu(f:Nat->Option Cj)(k:Nat)(a:V):Y->V->Prop:=λw σ=>(∃v,f k=H v/\w=.ab v)/\cD a σ
structure AM(c:Cx)(d:Nat)(ae:bB)(eB:CQ)(f:Nat->Option Cj)(k:Nat)(σ₀:V)(b:Bool)(σ:V):Prop where
 hr:(b=u->WE c d ae eB σ (xu f k σ₀) cm)
 aP:(b=BQ->f k=B2/\cD σ₀ σ)
theorem gr{eB:CQ}{cV:List CQ}{a:Y}{xs:List Y}{e:V}{i:V->V}{f:Nat->Option Cj}{K:(V->V)->Y->V->Prop}(t:dm c σ a xs e i)(x:(fF ae bQ σ.aa cl names gn gv).Ok c e.aa)(q:∀τ:V,τ.b0 bQ.names=τ)(z:xs.length<=1000)
  (A:∀k y g,xs[k]?=H y->cD e g->∃j,gC (fF ae bQ σ.aa cl names gn gv) target g y j/\i5 c d (fF ae bQ σ.aa cl names gn gv) cV j (AM c d (fF ae bQ σ.aa cl names gn gv) eB f k e))
  (B:∀n,e.aa<=n->K i (.ab (.list ((Ch xs.length).filterMap f))) ⟨n,e.aj,e.ag⟩\/K i (.aP n) (V.N0 ⟨n,e.aj,e.ag⟩ (.aN ((Ch xs.length).filterMap f)))):
  hY c d ae target cV bQ cl hU [] (jA eB) σ a λi e σ' ba=>LQ e σ' ba (K i):=by
 refine⟨xs,e,i,names,jb names cl gn gv,λk g ba=>k<=xs.length/\cD e g/\ba=((Ch k).filterMap f).map .ab,t,U (q ..) x,⟨Cm _,⟨e.aa,BJ _,U (q ..) ⟨R,λm m h=>h,λm m h=>nomatch h⟩⟩,R⟩,λk y g ba r o=>?_,λg ba o=>?_⟩
 .obtain⟨E,C,an⟩:=o;obtain⟨j,ao,eg⟩:=A k y g r C;have p:=(BY.mp r).1
  have D:ba.length<=1000000:=by
   refine U an (a3 (BH ..) ?_);have:=E0 f (Ch k);rw[Ct]at this;exact cI [_,_,_] af dT bV af ak au ak dD al z p this
  refine⟨j,ao,eg.be λb F⟨h1,h2⟩=>⟨λac=>ms D ((h1 ac).be λw G⟨⟨v,hv,l⟩,hi⟩=>⟨p,hi,?_⟩),λac=>⟨p,(h2 ac).2,?_⟩⟩⟩
  .exact U (m7 ..) (U hv (U an (U l (bP Cb R))))
  .refine U (m7 ..) (U ((h2 ac).1) (BK an ?_));simp
 .obtain⟨_,⟨n,s,l⟩,an⟩:=o;refine⟨⟨n,e.aj,e.ag⟩,.inr ⟨l.aa,l.aj⟩,R,s,?_⟩;rcases B n s with h|h
  .exact .inl ⟨_,an,h⟩
  .exact .inr (.inl ⟨_,an,h⟩)
theorem pq{dy eC:CQ}{cV:List CQ}{a:Y}{xs:List Y}{f:V}{i:V->V}{kvs:List (O×Cj)}{K:(V->V)->Y->V->Prop}(I:dm c σ a xs f i)(L:(fF ae bQ σ.aa cl names gn gv).Ok c f.aa)(x:∀τ:V,τ.b0 bQ.names=τ)(N:kvs.length<=1000)(z:kvs.length=xs.length)(P:(kvs.map (·.1)).Nodup)
  (Q:∀(k:Nat)(y:Y)(g:V)(p:O×Cj),xs[k]?=H y->kvs[k]?=H p->cD f g->∃l,gC (fF ae bQ σ.aa cl names gn gv) target g y l/\i5 c d (fF ae bQ σ.aa cl names gn gv) cV l λb A=>b=u/\
   WE c d (fF ae bQ σ.aa cl names gn gv) dy A (λw B=>w=.ab (.str p.1)/\WE c d (fF ae bQ σ.aa cl names gn gv) eC B (λw C=>w=.ab p.2/\cD f C) cm) cm)
  (S:∀n,f.aa<=n->K i (.c5 kvs) ⟨n,f.aj,f.ag⟩):
  hY c d ae target cV bQ cl iz [] (j5 dy eC) σ a λi f σ' ba=>DQ f σ' ba (K i):=by
 refine⟨xs,f,i,names,jb names cl gn gv,λk g ba=>k<=xs.length/\cD f g/\ba=kvs.take k,I,U (x ..) L,⟨Cm _,⟨f.aa,BJ _,U (x ..) ⟨R,λm m h=>h,λm m h=>nomatch h⟩⟩,R⟩,λk y g ba D s=>?_,λg ba s=>?_⟩
 .obtain⟨av,T,an⟩:=s;have E:=(BY.mp D).1;obtain⟨p,ai⟩:∃p,kvs[k]?=H p:=⟨_,BU (by exact aV [_,_,_] au af aC au aC af al (eR z) E)⟩;obtain⟨l,ao,eg⟩:=Q k y g p D ai T;have W:ba.length<=1000000:=by refine U an (a3 CM ?_);exact aV [_,_] af dT ak af ak dD al N (Da _ _)
  refine⟨l,ao,eg.be λb A⟨ac,h1⟩=>⟨λm=>rS W (h1.be λw B⟨o,h2⟩=>⟨p.1,o,?_,h2.be λw C⟨X,hi⟩=>⟨p.2,X,E,hi,?_⟩⟩),λt=>by replace t:=ac.symm.trans t;cases t⟩⟩
  .refine U an ?_;intro ah;obtain⟨q,am,e⟩:=B7.mp ah;obtain⟨j,r⟩:=GM.mp am
   have F:j<k:=by
    have:=(BY.mp r).1;rw[CM]at this;exact aV [_,_,_] aC au au af aC af al this (Dq _ _)
   replace r:=(IM F).symm.trans r;have v:(kvs.map (·.1))[j]?=H q.1:=BK Ck (U r R);have ap:(kvs.map (·.1))[k]?=H p.1:=BK Ck (U ai R);rw[e]at v;have:=(EI (BY.mp v).1 P).mp (v.trans ap.symm);exact nf (aV [_,_] aC af af ak a7 c8 al F (eR this))
  .exact U an (bP CX (U ai R))
 .obtain⟨_,⟨n,G,o⟩,an⟩:=s;refine⟨⟨n,f.aj,f.ag⟩,.inr ⟨o.aa,o.aj⟩,R,G,U an (br z (U Dg ?_))⟩;exact S n G
end
noncomputable def h4:Array Nat:=#[14,10,4,1,1,22,0,31,16,127,0,13,7,22,0,31,16,127,0,1]
noncomputable def ie:Array Nat:=#[14,14,4,1,1,9,4294966783,0,0,2147483648,0,0,0,0,0,13,11,9,4294966783,0,0,2147483648,0,0,0,0,0,1]
noncomputable def oI:O:="Control characters not allowed in headers"
namespace FO
theorem RD:CD (.type "object") "_headers"=CV B2:=by refine BK (Cw ..) (U Cf ?_);kernel_rfl
theorem Q9:CD (.type "object") "_convert_string_type"=CV B2:=by refine BK (Cw ..) (U Cf ?_);kernel_rfl
theorem R2:CD (.type "object") "get_all"=CV B2:=by refine BK (Cw ..) (U Cf ?_);kernel_rfl
theorem Sb:CD (.type "object") "items"=CV B2:=by refine BK (Cw ..) (U Cf ?_);kernel_rfl
theorem Sk:CD (.type "object") "add_header"=CV B2:=by refine BK (Cw ..) (U Cf ?_);kernel_rfl
end FO
structure je(c:Bx)(C N:M)(bC:O->Option Z)(d9 ex bU c7 gT g5 g3 hx g2 hw gL gK:M)(bi:Z):Prop where
 cp:gG c C N bC
 ga:bC "__getattribute__"=B2
 gt:bC "__getattr__"=B2
 sa:bC "__setattr__"=B2
 ih:bC "_headers"=B2
 hO:hd c 19 0 "__init__" "Headers.__init__" bC d9 ex bi .none
 fw:hd c 19 1 "_convert_string_type" "Headers._convert_string_type" bC bU c7 .none .none
 Qd:hd c 19 7 "get_all" "Headers.get_all" bC gT g5 .none .none
 P6:hd c 19 11 "items" "Headers.items" bC g3 hx .none .none
 Qe:hd c 19 16 "add_header" "Headers.add_header" bC g2 hw .none .none
 d0:∃T o n,bi=.ref T/\¬c.N9 T/\c.i.get? T=H o/\o.data=.seq #[.none] n
 RN:mF c gL h4
 RH:mF c gK ie
 Rd:cr c "type" (.type "type")
 Rm:cr c "str" (.type "str")
 Q4:cr c "list" (.type "list")
 SM:cr c "_name_disallowed_re" (.ref gL)
 SB:cr c "_value_disallowed_re" (.ref gK)
 S7:cr c "ValueError" (.type "ValueError")
section
variable{c:Cx}{d:Nat}{σ:V}{C N:M}{bC:O->Option Z}{d9 ex bU c7 gT g5 g3 hx g2 hw gL gK:M}{bi:Z}
noncomputable def zJ(gL gK a cc:M):bB:=eX (dz 19 1).aM ["self","value","name","regex"] [] ["type","str","_name_disallowed_re","_value_disallowed_re","ValueError"] [.type "type",.type "str",.ref gL,.ref gK,.type "ValueError"] "Headers._convert_string_type" a cc
theorem mx(D:je c C N bC d9 ex bU c7 gT g5 g3 hx g2 hw gL gK bi){b r:Bool}(e:fA (if b then h4 else ie) x=H r)
  (h:r=BQ->Q (.ab (.str x)) σ)(f:r=u->X ⟨"ValueError",[oI]⟩ σ):WC c (d+1) bU 2 ["name"] [.bh C j,.ab (.str x),.ab (.bool b)] σ Q X:=by
 obtain⟨g,aJ⟩:=D.fw;refine e3 aJ (zJ gL gK bU c7) (xa λa a a a a a a=>by rfl) R ⟨R,R,R,R,R⟩ (e0 (by decide+kernel) R ⟨D.Rd,D.Rm,D.SM,D.SB,D.S7,trivial⟩ (λa h=>nomatch h)) (.aU (aH.ag (k:=0) (mL R)) (.aU (aH.ag (k:=1) (mL R)) (.aU (aH.ag (k:=2) (mL R)) (.a6 _)))) λL=>?_
 refine aQ (cU (ca (d3 (mG 0 R R) (a1.PA _) (.ag (k:=1) (mL R) R .a6) (w9 (dr (mG 1 R R) (wa ⟨_,R,λa=>?_,λaJ=>nomatch aJ⟩))))));refine aQ (dh (hN (gN (aw (k:=2) (mL R) R (iI ⟨λac=>dr (mG 2 R R) ⟨_,aH.ag (k:=3) (mL R),?_⟩,λac=>dr (mG 3 R R) ⟨_,aH.ag (k:=3) (mL R),?_⟩⟩)))))
 .subst ac;refine aQ (cU (gN (fe (.ag (k:=3) (mL R) R) (cf.Se D.RN) (a1.Oe _) (.ag (k:=1) (mL R) R .a6) (rs D.RN e ?_))));cases r
  .refine rq ⟨λao=>(nomatch ao),λa=>bJ ?_⟩
   try dsimp only
   exact aQ (ej (aw (k:=1) (mL R) R (h R)))
  .exact sV ⟨λa=>aQ (oF (mG 4 R R) (f R)),λao=>nomatch ao⟩
 .subst ac;refine aQ (cU (gN (fe (.ag (k:=3) (mL R) R) (cf.Se D.RH) (a1.Oe _) (.ag (k:=1) (mL R) R .a6) (rs D.RH e ?_))));cases r
  .refine rq ⟨λao=>(nomatch ao),λa=>bJ ?_⟩
   try dsimp only
   exact aQ (ej (aw (k:=1) (mL R) R (h R)))
  .exact sV ⟨λa=>aQ (oF (mG 4 R R) (f R)),λao=>nomatch ao⟩
end
noncomputable abbrev e4(p:O×O):Cj:=.tuple [.str p.1,.str p.2]
structure f3(σ:V)(j i:Nat)(t:List (O×O)):Prop where
 ns:∃log,J σ.aj j=H (.ns ["_headers"] log)/\J log 0=H (.aP i)
 c:J σ.aj i=H (.aN (t.map e4))
noncomputable def dX(t:List (O×O))(nm:O):List O:=(t.filter λp=>CS p.1==CS nm).map (·.2)
theorem g1(xs:List aO)(f:aO->Option b9):(Ch xs.length).filterMap (λk=>xs[k]?.bind f)=xs.filterMap f:=by
 induction xs with
 |nil=>rfl
 |cons x xs a=>
  refine U Cd (U List.range_succ_eq_map (BK D6 (U List.filterMap_map (bP D6 (br a ?_)))))
  rfl
theorem m6{o:bL}(hi:J σ.aj i=H o):ft ⟨n,σ.aj,σ.ag⟩ (V.NX ⟨n,(σ.dropO i).aj,(σ.dropO i).ag⟩ i o):=⟨R,λj a e=>by
 refine BK (de ..) ?_
 by_cases h:j=i
 .refine BK (if_pos h) ?_;rw[h]at e;exact hi.symm.trans e
 .refine BK (if_neg h) ?_;exact BK (kY ..) (BK (if_neg h) e),λb b h=>h⟩
theorem tW{o a:bL}(hi:J σ.aj i=H o)(c:i≠n):ft ⟨n+1,(n,a)::σ.aj,σ.ag⟩ (V.NX (V.N0 ⟨n,(σ.dropO i).aj,(σ.dropO i).ag⟩ a) i o):=⟨R,λj b e=>by
 refine(?_:J ((i,o)::(n,a)::_) j=_);refine BK (de ..) ?_
 by_cases h:j=i
 .refine BK (if_pos h) ?_;rw[h]at e;rw[de,if_neg c]at e;exact hi.symm.trans e
 .refine BK (if_neg h) ?_;have e:=e;rw[de]at e⊢
  by_cases ay:j=n
  .rw[if_pos ay]at e⊢;exact e
  .rw[if_neg ay]at e⊢;exact BK (kY ..) (BK (if_neg h) e),λd d h=>h⟩
theorem qK{o:bL}(h:J σ.aj j=H o)(a:j≠i):J (σ.dropO i).aj j=H o:=by
 exact BK (kY ..) (BK (if_neg a) h)
theorem cY{f:aO->b9}{xs:List aO}{y:b9}(h:(xs.map f)[k]?=H y):∃x,xs[k]?=H x/\y=f x:=by
 replace h:=Ck.symm.trans h
 cases e:xs[k]? with
 |none=>rw[e]at h;cases h
 |some x=>rw[e]at h;exact⟨x,R,(CO h).symm⟩
theorem mo(q:aO->Bool)(f:aO->b9)(xs:List aO):(xs.filterMap λp=>if q p then H (f p)else B2)=(xs.filter q).map f:=by
 induction xs with
 |nil=>rfl
 |cons x xs a=>refine BK D6 (U CW ?_);cases h:q x <;> simp[a]
section
variable{c:Cx}{d:Nat}{σ:V}{C N:M}{bC:O->Option Z}{d9 ex bU c7 gT g5 g3 hx g2 hw gL gK:M}{bi:Z}
theorem cf.N4{names:List O}{ah nm:O}{bi:Z}(aL:gG c C N bC)(d:J σ.aj j=H (.ns names log))(a:hd c i k ah nm bC f cc bi bz)(e:bC "__getattribute__"=B2)(g:bC "__getattr__"=B2)(h:CD (.type "object") ah=CV y)(l:ah∉names):cf c (.bh C j) ah σ (.bT (.ref f)) u:=by
 obtain⟨n,b⟩:=a.OY;refine A3 b λh1 h2 m=>?_;clear b;exact cf.Px aL d a.1 h1 h2 m e g h l
noncomputable def qG(n:Nat)(a cc:M):bB:=eX (dz 19 7).aM ["self"] [("name",n)] [] [] "Headers.get_all" a cc
theorem pc(D:je c C N bC d9 ex bU c7 gT g5 g3 hx g2 hw gL gK bi){t:List (O×O)}{nm:O}(K:f3 σ j i t)(E:nm.length<=1000000)(F:BR (CS nm)=u)(G:fA h4 (CS nm)=H BQ)
  (ao:∀p∈t,p.1.length<=1000000/\BR (CS p.1)=u)(I:t.length<=1000)
  (h:∀n,σ.aa<=n->Q (.ab (.list ((dX t nm).map .str))) ⟨n,σ.aj,σ.ag⟩\/Q (.aP n) ⟨n+1,(n,.aN ((dX t nm).map .str))::σ.aj,σ.ag⟩):WC c (d+2) gT 2 [] [.bh C j,.ab (.str nm)] σ Q X:=by
 obtain⟨an,aJ⟩:=D.Qd;refine WC.N5 λm=>WC.OR<|e3 aJ (qG σ.aa gT g5) (kM λb b b b b b=>by rfl) R ⟨R,R,R,R,R⟩ (e0 (cn:=["name"]) (by decide+kernel) R trivial (λq r=>U (BO.mp r) (B3 _))) (.aU (aH.ag (k:=0) (mL R)) (.aU (aH.ar (mC (.head _)) (bq _ _ _)) (.a6 _))) λL=>?_
 have x:(("name":O),cQ.ar σ.aa)∈(qG σ.aa gT g5).bN:=mC (.head _);obtain⟨log,z,P⟩:=K.ns
 have A:∀{i o}v w,J σ.aj i=H o->J ((σ.aa,bL.ar v)::(σ.aa,bL.ar w)::σ.aj) i=H o:=λv w e=>by
  exact aS (BZ (m _ _ e)) (aS (BZ (m _ _ e)) e)
 have S:=λv w=>A v w z;refine aQ (dh (eb (aw (k:=0) (mL R) R ⟨_,u,cf.N4 D.cp (S _ _) D.fw D.ga D.gt FO.Q9 (by decide+kernel),a1.N4 D.fw.2,aI (fe (.ar x (bq _ _ _)) (cf.Ov Iy Ix) (a1.Oe _) .a6 (rB E F ?_)) ?_⟩)))
 .refine bn (i2 (jE (ce (WK.NW (WC.Of (mx (c:=c.a5 L) D G (λb=>⟨_,aH.ar x (bq _ _ _),?_⟩) (λh=>nomatch h)))))))
  let s:V:=⟨σ.aa+1,(σ.aa,.ar (H (.ab (.str (CS nm)))))::(σ.aa,.ar (H (.ab (.str nm))))::(σ.aa,.ar B2)::σ.aj,[(0,.bh C j)]⟩
  have l:∀{i o},J σ.aj i=H o->J s.aj i=H o:=λe=>by
   exact aS (BZ (m _ _ e)) (A _ _ e)
  have T:=DN (BZ (m _ _ K.c));have W:∀{τ:V},cD (s.dropO i) τ->J τ.aj σ.aa=H (.ar (H (.ab (.str (CS nm))))):=λg=>g.aj (qK (bq _ _ _) T)
  have ae:(Ch ((t.map e4).map Y.ab).length).filterMap (λk=>t[k]?.bind λp=>if CS p.1==CS nm then H (B1 p.2)else B2)=(dX t nm).map .str:=by
   rw[BH,BH,g1,mo (λ(p:O×O)=>CS p.1==CS nm)];unfold dX;exact bP CJ R
  refine aQ (ej (e5 (cl:=[("name",σ.aa)]) (by decide+kernel) R (h9 (aw (k:=0) (mL R) R (iF D.cp (l z) R P D.ga D.ih FO.RD (λb=>nofun) (gr (names:=["kv"]) (gn:=[]) (gv:=[]) (f:=λk=>t[k]?.bind λp=>if CS p.1==CS nm then H (.str p.2)else B2) (dm.aN (l K.c)) (dQ (cn:=["name"]) ?_ R R trivial λq r=>?_) (λb=>R) (a3 (BH ..) (a3 (BH ..) I)) (λk y τ ah g=>?_) λn B=>?_))))))
  .refine(?_:dp (db _ (dz 19 7).aM) _ _ _=u)
   decide+kernel
  .exact U (BO.mp r) (B3 _)
  .obtain⟨ap,am,rfl⟩:=cY ah;obtain⟨p,ai,rfl⟩:=cY am;have g:cD (s.dropO i) τ:=g;obtain⟨cx,di⟩:=ao p (B5 ai);refine⟨_,.v (aH.ag (k:=0) (cL R)),iH (ca (eb (c3 (aw (k:=0) (cL R) R (bI (iN dK.ab R R (by decide) ⟨_,u,cf.Ov Iy Ix,a1.Oe _,bn (ce (rB cx di (bR (cT (.head _)) (W (τ:=τ) g) (hL ⟨_,R,λac=>?_,λac=>?_⟩))))⟩))))))⟩
   .refine c3 (aw (k:=0) (cL R) R (bI (iN dK.ab R R (by decide) ⟨⟨_,?_,R⟩,g.NW (BJ _) λb b e=>e⟩)));simp only[ai,CF,ac,if_true]
   .refine⟨?_,g.NW (BJ _) λb b e=>e⟩;simp only[ai,CF,ac];rfl
  .refine U ae ?_;rcases h n (BG (Cr _) B)with h|h
   .exact .inl ⟨⟨n,σ.aj,σ.ag⟩,⟨R,λa o e=>(m6 (l K.c)).aj a o (l e),λb b e=>e⟩,h⟩
   .refine .inr ⟨⟨n+1,(n,.aN ((dX t nm).map .str))::σ.aj,σ.ag⟩,⟨R,λa o e=>(tW (l K.c) (BZ (BL (m _ _ K.c) (BG (Cr _) B)))).aj a o ?_,λb b e=>e⟩,h⟩;have e:J ((n,_)::σ.aj) a=H o:=e;rw[de]at e⊢
    by_cases q:a=n
    .rw[if_pos q]at e⊢;exact e
    .rw[if_neg q]at e⊢;exact l e
 .intros;rfl
end
set_option tactic.hygienic true in
theorem we{target o:CQ}{k l pos:FH}{Q:bY->V->Prop}(h:WE c d ae o σ (λa σ₁=>a=.c5 []/\Q .aa σ₁) X)(B:(k.endLine==l.line)=u:=by rfl)
  (m:(λenv i=>GC o "items" env i)=(λenv i=>i):=by rfl)
  (p:(λenv x=>Dl (.Call (.Attribute o "items" k) [] [] l) env x)=(λenv x=>CV x):=by rfl):eK c d ae (.For target (.Call (.Attribute o "items" k) [] [] l) bx [] pos) σ Q X:=
 λA g s L Fr t r f C=>by
 have m:=λenv i=>congrFun (congrFun m env) i;have p:=λenv x=>congrFun (congrFun p env) x;refine Iu (wpAny_Call_method (m _ _) R B Nq Im Nh (WT.NZ h t r f C R (λap bg σ₁ ax av E F G aB aE I K=>?_) λN N y=>y)) (p _);obtain⟨rfl,P⟩:=K;obtain⟨_,_,_,rfl,aJ,S,j,T,aL,aO,aR⟩:=I.NV
 rename_i D vs as
 obtain rfl:vs=[]:=by
  cases vs with
  |nil=>rfl
  |cons x xs=>cases T
 have W:(D==Fh)=BQ:=by simpa using S
 refine⟨j.typeIs,j.mapOf.noDict,?_⟩;refine method_meetsIn Im NE R (PySem.evalArgs_none ⟨R,j.typeIs,NO _,_,meets_dict_items (Fq c.PG c.w) D W,⟨[],j⟩,?_⟩);obtain⟨ac,bS,ah,v⟩:=j;refine A6 v λaT aX bc cG dG fS=>?_;clear v;have w:ax.heap.DictAt (Fq c.PG c.w) D [] ah:=⟨ac,bS,aT,aX,bc,cG,dG,fS⟩;have aW:=Ca aT;refine wpAny_pyIter_items ⟨_,B6 _ R,R,R⟩ (w.push _) ?_;refine Kw (λn s'=>s'=_) (λn s' ai=>?_) 0 R;subst ai;refine gh (wpAny_pyNext_items_end t.G (B6 _ R) ((w.push _).push _) R λay am an=>EK ?_)
 have q:=λb o e=>am b o (by
  have ao:=Ca e;exact U (CH ..) (BZ (C3 ao))) (Cp _ (Cp _ e))
 have z:ax.heap.objs.size<=ay.objs.size:=BG (BG (cR _ _) (cR _ _)) an
 let s':BN:={ax with heap:=ay}
 exact⟨.aa,bg,σ₁,E.NT ((aF.N6 ..).Oc q z R),F.Oc q z R R,G.Oc q,.aa,P⟩
variable{cj:Y}
theorem Bm{ah nm:O}{cK:Ep}{aY:Ef}{bi:Z}{cq du:Y}{x1 x2 x3 gU:O}(p:Fh<c.i.objs.size)
  (h:∀b d f i j l m,EA (HV ah nm cK bx aY bi bz b d f (.ref cc) i) ⟨[j,l,m],[]⟩=(do let a ←alloc {cls:=.type "dict",data:=.dict #[]};CV [(x1,j),(x2,l),(x3,m),(gU,.ref a)])):
  hh c σ ah nm cK bx aY bi bz cc 3 [] [cj,cq,du] σ [x1,x2,x3,gU] [cj,cq,du,.c5 []]:=by
 intro b d f i A E Q g s vs v r hv k;obtain⟨_,_,_,rfl,a2,bH,ef⟩:=hv.PR;refine U (h ..)<|wpAny_bind (Kh (BW ?_));have n:=cN s.heap {cls:=.type "dict",data:=.dict #[]};have o:=cR s.heap {cls:=.type "dict",data:=.dict #[]};have q:s.heap.objs.size<(s.heap.push {cls:=.type "dict",data:=.dict #[]}).objs.size:=dk (CH ..) (B3 _)
 let s':BN:={s with heap:=s.heap.push {cls:=.type "dict",data:=.dict #[]}}
 have t:=aA.OA (s':=s') r n o R R (BJ _) q;have st:aF c e6 g σ s (g.aK s.heap.objs.size) σ s':=aF.OA n o R (BJ _);refine k (g.aK s.heap.objs.size) s' _ st t (.aU (st.Ou a2) (.aU (st.Ou bH) (.aU (st.Ou ef) (.aU (.c5 (.inr R) (λe=>?_) (tX s.heap) R .nil (λw h=>nomatch h) R) .a6))));have:=r.bX;rw[e]at this;exact absurd p (BP.mpr this)
theorem xm(g v:O):De g [v]=v:=m4 (by rewrite [mj];exact((CE ..):cb v++[]=_))
theorem Ap(xs:List aO):∀(k a:Nat),((Ch k).map λ(i:Nat)=>((a:Int)+1*(i:Int)).toNat).filterMap (xs[·]?)=(xs.drop a).take k:=by
 intro k
 induction k with
 |zero=>intro a;rfl
 |succ k b=>
  intro a;refine U GH (U Cb (BK Je (U (b ..) (bP CX (U JB ?_)))))
  congr 1
  refine(?_:Kz _ [((a:Int)+1*(k:Int)).toNat]=_);have:((a:Int)+1*(k:Int)).toNat=a+k:=by lia
  refine U this ?_;cases h:xs[a+k]? <;> simp[h]
theorem oc(xs:List aO)(lo hi:Option Int):e7 xs lo hi B2=(xs.drop (lo.elim 0 (He xs.length))).take (hi.elim xs.length (He xs.length)-lo.elim 0 (He xs.length)):=by
 unfold e7;refine U (sliceBounds_plain ..) ?_
 try dsimp only
 generalize lo.elim 0 (He xs.length)=a;generalize hi.elim xs.length (He xs.length)=b;unfold Fi;refine U (if_pos (by decide)) ?_
 have:(if(a:Int)<b then((b:Int)-a+1-1)/1 else 0).toNat=b-a:=by
  split <;> lia
 refine(?_:Kz _ (Jh _ (Ch (Int.toNat (if(a:Int)<b then((b:Int)-a+1-1)/1 else 0))))=_);refine U this<|Ap xs (b-a) a
theorem sy(xs:List aO):e7 xs B2 B2 B2=xs:=by
 refine BK (oc ..) ?_;refine(?_:(xs.drop 0).take (xs.length-0)=xs);exact U Ih (U (I9 ..) (Dg))
theorem ob(xs:List aO)(b:Nat):e7 xs B2 (H (b:Int)) B2=xs.take b:=by
 refine BK (oc ..) ?_;refine(?_:(xs.drop 0).take (He xs.length b-0)=_);exact U (M4 ..) (U Ih (U (I9 ..) (hn List.take_take (U Dg R))))
theorem pY(xs:List aO)(a:Nat):e7 xs (H (a:Int)) B2 B2=xs.drop a:=by
 refine BK (oc ..) ?_;refine(?_:(xs.drop (He xs.length a)).take (xs.length-He xs.length a)=_);refine U (M4 ..) ?_
 by_cases h:a<=xs.length
 .exact U (FJ h) ((D8 (a3 Dh (BJ _))))
 .exact U (Nat.min_eq_right (by exact a0 [_,_] aC af ak af al (GB.mp h))) (U (Fj ..) (BK Ig (bP (IY (by exact a0 [_,_] aC af ak af al (GB.mp h))) R)))
section
variable{c:Cx}{d:Nat}{σ:V}{C N:M}{bC:O->Option Z}{d9 ex bU c7 gT g5 g3 hx g2 hw gL gK:M}{bi:Z}
noncomputable def xd(a cc:M):bB:=eX (dz 19 11).aM ["self"] [] [] [] "Headers.items" a cc
theorem oy(D:je c C N bC d9 ex bU c7 gT g5 g3 hx g2 hw gL gK bi){t:List (O×O)}(K:f3 σ j i t)(f:t.length<=1000)
  (h:Q (.ab (.list (t.map e4))) σ\/Q (.aP σ.aa) ⟨σ.aa+1,(σ.aa,.aN (t.map e4))::σ.aj,σ.ag⟩):WC c (d+1) g3 1 [] [.bh C j] σ Q X:=by
 obtain⟨g,aJ⟩:=D.P6;obtain⟨log,b,e⟩:=K.ns;refine e3 aJ (xd g3 hx) (jS λa a a a a=>by rfl) R ⟨R,R,R,R,R⟩ (e0 (by decide+kernel) R trivial (λa h=>nomatch h)) (.aU (aH.ag (k:=0) (mL R)) (.a6 _)) λL=>?_
 refine aQ (ej (gu (h9 (aw (k:=0) (mL R) R (iF D.cp b R e D.ga D.ih FO.RD (λa=>nofun) (dS (dS (dS (gQ (.bm K.c) .none .none .none nofun (a3 (BH ..) (BG ‹_› (DD R))) (U (sy ..) ?_))))))))));exact h
noncomputable def uG(a cc:M):bB:=eX (dz 19 16).aM ["self","_name","_value","_params","parts","k","v"] [] [] [] "Headers.add_header" a cc
theorem ts(D:je c C N bC d9 ex bU c7 gT g5 g3 hx g2 hw gL gK bi)(A:Fh<c.i.objs.size){t:List (O×O)}(K:f3 σ j i t)(S:t.length<=1000){nm v:O}{rv:Bool}(T:nm.length<=1000)(hv:v.length<=1000/\BR v=u)(h1:fA ie v=H rv)(h2:fA h4 nm=H BQ)
  (h:rv=BQ->∀σ',σ'.aa=σ.aa+1->σ'.ag=σ.ag->f3 σ' j i (t++[(nm,v)])->(∀k,k≠i->k≠σ.aa->J σ'.aj k=J σ.aj k)->Q (.ab .none) σ')(E:rv=u->X ⟨"ValueError",[oI]⟩ ⟨σ.aa+1,(σ.aa,.aN [])::σ.aj,σ.ag⟩):WC c (d+2) g2 3 [] [.bh C j,.ab (.str nm),.ab (.str v)] σ Q X:=by
 obtain⟨W,aJ⟩:=D.Qe;obtain⟨log,l,s⟩:=K.ns;refine WC.N5 λm=>?_;refine e3 aJ (uG g2 hw) (Bm A λf f f f f f f=>by rfl) R ⟨R,R,R,R,R⟩ (e0 (by decide+kernel) R trivial (λf h=>nomatch h)) (.aU (aH.ag (k:=0) (mL R)) (.aU (aH.ag (k:=1) (mL R)) (.aU (aH.ag (k:=2) (mL R)) (.aU (aH.ag (k:=3) (mL R)) (.a6 _))))) λL=>?_
 have n:∀{a o}w,J σ.aj a=H o->J ((σ.aa,w)::σ.aj) a=H o:=λw e=>m.PZ (BJ _) e;refine aQ (dh (ig (bn ⟨[],R,Cm _,_,aH.ag (k:=4) (mL R),aQ (cU (ca (aw (k:=2) (mL R) R (fV (pn ⟨_,R,λf=>?_,λaJ=>nomatch aJ⟩)))))⟩)));refine aQ (dh (eb (aw (k:=0) (mL R) R ⟨_,u,cf.N4 D.cp (n _ l) D.fw D.ga D.gt FO.Q9 (by decide+kernel),a1.N4 D.fw.2,aI (aw (k:=2) (mL R) R (bn (i2 (jE (ce (WK.NW (WC.Of (mx (c:=c.a5 L) D h1 (λp=>⟨_,aH.ag (k:=2) (mL R),?_⟩) (λp=>E p)))))))))⟩)));refine aQ (ez (fe (.ag (k:=4) (mL R) R) (cf.aN (bq _ _ _) CT CY) (a1.Oe _) (.ag (k:=2) (mL R) R .a6) (iD (bq _ _ _) (DD R) (bJ ?_))))
 try dsimp only
 refine aQ (we (aw (k:=3) (mL R) R ⟨R,?_⟩));have q:J ((σ.aa,bL.aN ([]++[B1 v]))::(σ.aa,bL.aN [])::σ.aj) j=H (.ns ["_headers"] log):=by exact aS (BZ (m _ _ l)) (n _ l)
 have z:J ((σ.aa,bL.aN ([]++[B1 v]))::(σ.aa,bL.aN [])::σ.aj) i=H (.aN (t.map e4)):=by exact aS (BZ (m _ _ K.c)) (n _ K.c)
 refine A3 (jB (g:="; ") (B:=1000) (N:=1) (λy F=>by exact U (BO.mp F) hv) (by decide+kernel) (BJ _) (by decide+kernel)) λG I P=>?_
 refine aQ (ez (eb (h9 (aw (k:=0) (v:=.bh C j) (mL R) R (iF (c:=c.a5 L) (k:=0) D.cp q R s D.ga D.ih FO.RD (λf=>nofun) ⟨_,u,cf.aN (ds:=t.map e4) z CT CY,a1.Oe _,aI (gB (aI (eb (aw (k:=0) (v:=.bh C j) (mL R) R ⟨_,u,cf.N4 (c:=c.a5 L) D.cp q D.fw D.ga D.gt FO.Q9 (by decide+kernel),a1.N4 (c:=c.a5 L) D.fw.2,aI (aw (k:=1) (v:=.ab (.str nm)) (mL R) R (bn (i2 (jE (ce (WK.NW (WC.Of (mx (c:=c.a5 L) (b:=u) (r:=BQ) D h2 (λf=>?_) (λh=>nomatch h)))))))))⟩))))⟩)))));refine aI ?_;refine eb ?_;refine b8 (x:="; ")<|⟨_,u,cf.Ov DO D9,a1.Oe _,aI (aw (k:=4) (v:=.aP σ.aa) (mL R) R (bn (ce (li (ys:=[v]) (.bm (bq _ _ _)) G I (BG P ?_) ?_))))⟩
 .decide+kernel
 .refine(bn ⟨[.str nm,.str (De "; " [v])],R,(by refine(?_:2<=1000000);decide),bn (ce (iD (ds:=t.map e4) (x:=.tuple [.str nm,.str (De "; " [v])]) z (by exact a3 (BH ..) (BG ‹_› (DD R))) (bJ ?_)))⟩);refine U (xm ..) ?_
  cases rv with
  |true=>cases p
  |false=>
   refine h R _ R R ⟨⟨log,?_,s⟩,?_⟩ λk h1 h2=>?_
   .exact aS (λe=>by rw[e,K.c]at l;cases l) q
   .exact U Cb (bq _ _ _)
   .exact aS h1 (aS h2 (aS h2 R))
end
section
variable{c:Cx}{d:Nat}{σ:V}{C N:M}{bC:O->Option Z}{d9 ex bU c7 gT g5 g3 hx g2 hw gL gK:M}{bi:Z}
theorem t8{gc:List Y}(i:∃T o n,bi=.ref T/\¬c.N9 T/\c.i.get? T=H o/\o.data=.seq #[.none] n)
  (F:∀{cX b ρ n vs},bA c cX b ρ n as vs->∃a,bA c cX b ρ n gc a/\∀{d e f h T c7 fx fR n},i8 c.NU (EA (HV "__init__" "Headers.__init__" (dz 19 0).l (dz 19 0).h (dz 19 0).aM (.ref T) .none d e f (.ref cc) h) ⟨vs.take m,[].zip (vs.drop m)⟩) [(T,⟨c7,fx,.seq #[.none] n,fR⟩)] ((["self","headers"]:List O).zip a)):
  hh c σ "__init__" "Headers.__init__" (dz 19 0).l (dz 19 0).h (dz 19 0).aM bi .none cc m [] as σ ["self","headers"] gc:=by
 obtain⟨T,⟨c7,fx,_,fR⟩,n,rfl,j,p,rfl⟩:=i;intro d e f h A E Q g s vs t r hv k;obtain⟨a,h1,h2⟩:=F hv;refine i8.O3 (l:=[(T,⟨c7,fx,.seq #[.none] n,fR⟩)]) (k g s _ (.N6 ..) r h1) h2 λx q=>?_;cases BO.mp q;exact r.q _ _ p j
theorem uL(a:∃T o n,bi=.ref T/\¬c.N9 T/\c.i.get? T=H o/\o.data=.seq #[.none] n):
  hh c σ "__init__" "Headers.__init__" (dz 19 0).l (dz 19 0).h (dz 19 0).aM bi .none cc 1 [] [cj] σ ["self","headers"] [cj,.ab .none]:=
 t8 a λhv=>by
  obtain⟨_,rfl,a2⟩:=hv.PT;exact⟨_,.aU a2 (.aU .none .a6),by kernel_rfl,.Qx (by kernel_rfl)⟩
theorem vX{cq:Y}(a:∃T o n,bi=.ref T/\¬c.N9 T/\c.i.get? T=H o/\o.data=.seq #[.none] n):
  hh c σ "__init__" "Headers.__init__" (dz 19 0).l (dz 19 0).h (dz 19 0).aM bi .none cc 2 [] [cj,cq] σ ["self","headers"] [cj,cq]:=
 t8 a λhv=>by
  obtain⟨_,_,rfl,a2,bH⟩:=hv.Qr;exact⟨_,.aU a2 (.aU bH .a6),by kernel_rfl,.Qx (by kernel_rfl)⟩
noncomputable def p5(a cc:M):bB:=eX (dz 19 0).aM ["self","headers","k","v"] [] ["type","list"] [.type "type",.type "list"] "Headers.__init__" a cc
theorem s2(D:je c C N bC d9 ex bU c7 gT g5 g3 hx g2 hw gL gK bi){t:List (O×O)}{hv:Y}{Q:bY->V->Prop}(F:J σ.aj j=H (.ns ["_headers"] []))(hi:J σ.aj i=H (.aN (t.map e4)))(y:J σ.ag 0=H (.bh C j))(h1:J σ.ag 1=H (.aP i))(z:j≠i)
  (ao:∀p∈t,fA h4 p.1=H BQ/\fA ie p.2=H BQ)(S:t.length<=1000)
  (h:∀σ',ft ⟨σ.aa,(j,.ns ["_headers"] [(0,.aP i)])::σ.aj,[]⟩ σ'->Q .aa σ'):WS (c.a5 L) (d+2) (p5 d9 ex) ((dz 19 0).h.drop 1) σ Q X:=by
 refine aQ (cU (ca (d3 (v:=.type "type") (mG 0 R R) (a1.PA _) (.ag (k:=1) (v:=.aP i) (mL R) h1 .a6) (vH (.bm hi) (dr (v:=.type "list") (mG 1 R R) (wT ⟨_,R,λac=>(nomatch ac),λg=>bJ ?_⟩))))))
 try dsimp only
 refine aQ (lV (aw (k:=1) (v:=.aP i) (mL R) h1 (aw (k:=0) (v:=.bh C j) (mL R) y ⟨_,im.Px (c:=c.a5 L) (k:=0) D.cp F R D.sa D.ih FO.RD (DD R),?_⟩)));refine aQ (cU (gN ?_));refine jE ?_;refine iI ⟨λg=>?_,λac=>nomatch ac⟩
 let σ₁:V:=⟨σ.aa,(j,.ns ["_headers"] [(0,.aP i)])::σ.aj,σ.ag⟩
 have A:J σ₁.aj i=H (.aN (t.map e4)):=by exact(aS (DN z) hi:J ((j,_)::σ.aj) i=_)
 have B:J (σ₁.dropO i).aj j=H (.ns ["_headers"] [(0,.aP i)]):=qK (bq _ _ _) z;refine aQ (pM (aw (k:=1) (v:=.aP i) (mL R) h1 ⟨_,σ₁.dropO i,_,λk m=>ft ⟨σ.aa,(σ₁.dropO i).aj,[(0,.bh C j)]⟩ m,dm.aN (ds:=t.map e4) A,?_,λk x m G f=>?_,λm f=>?_⟩))
 .exact⟨R,λg g h=>h,gE λq s=>by exact U (BO.mp s) y⟩
 .obtain⟨T,I,rfl⟩:=cY G;obtain⟨p,ai,rfl⟩:=cY I;obtain⟨K,P⟩:=ao p (B5 ai);refine⟨_,.b2 (xs:=["k","v"]) R dK.ab (.aU (aH.ag (k:=2) (mL R)) (.aU (aH.ag (k:=3) (mL R)) (.a6 _))),?_⟩;have E:∀w:V,w.ag=(3,.ab (.str p.2))::(2,.ab (.str p.1))::m.ag->J w.ag 0=H (.bh C j):=λw e=>by exact U e (f.ag 0 _ R)
  refine aQ (ez (eb (aw (k:=0) (v:=.bh C j) (mL R) (E _ R) ⟨_,u,cf.N4 (c:=c.a5 L) D.cp (f.aj _ _ B) D.fw D.ga D.gt FO.Q9 (by decide+kernel),a1.N4 (c:=c.a5 L) D.fw.2,aI (aw (k:=2) (v:=.ab (.str p.1)) (mL R) R (bn (i2 (jE (ce (WK.NW (WC.Of (mx (c:=c.a5 L) (b:=u) (r:=BQ) D K (λg=>?_) (λh=>nomatch h)))))))))⟩)));refine aQ (ez (eb (aw (k:=0) (v:=.bh C j) (mL R) (E _ R) ⟨_,u,cf.N4 (c:=c.a5 L) D.cp (f.aj _ _ B) D.fw D.ga D.gt FO.Q9 (by decide+kernel),a1.N4 (c:=c.a5 L) D.fw.2,aI (aw (k:=3) (v:=.ab (.str p.2)) (mL R) R (bn (i2 (jE (ce (WK.NW (WC.Of (mx (c:=c.a5 L) (b:=BQ) (r:=BQ) D P (λg=>?_) (λh=>nomatch h)))))))))⟩)));refine bJ ⟨f.aa,f.aj,gE λq s=>?_⟩;exact U (BO.mp s) (f.ag 0 _ R)
 .refine bJ ?_
  try dsimp only
  refine bJ (h _ ⟨f.aa,λa o e=>?_,λg g h=>nomatch h⟩);have l:=(m6 (n:=σ.aa) A).aj a o e;have l:J ((i,bL.aN (t.map e4))::(σ₁.dropO i).aj) a=H o:=l;refine(?_:J ((i,_)::m.aj) a=H o);rw[de]at l⊢
  by_cases q:a=i
  .rw[if_pos q]at l⊢;exact l
  .rw[if_neg q]at l⊢;exact f.aj _ _ l
theorem zd(D:je c C N bC d9 ex bU c7 gT g5 g3 hx g2 hw gL gK bi)(b:J σ.aj j=H (.ns ["_headers"] []))
  (h:Q (.ab .none) ⟨σ.aa+1,(j,.ns ["_headers"] [(0,.aP σ.aa)])::(σ.aa,.aN [])::σ.aj,σ.ag⟩):WC c (d+3) d9 1 [] [.bh C j] σ Q X:=by
 obtain⟨m,aJ⟩:=D.hO;refine WC.N5 λl=>WC.OR ?_;refine e3 (σ':=σ) (σ₁:=⟨σ.aa,σ.aj,[(1,.ab .none),(0,.bh C j)]⟩) aJ (p5 d9 ex) (uL D.d0) R ⟨R,R,R,R,R⟩ (e0 (cn:=[]) (by decide+kernel) R ⟨D.Rd,D.Q4,trivial⟩ (λa h=>nomatch h)) (.aU (aH.ag (k:=0) (mL R)) (.aU (aH.ag (k:=1) (mL R)) (.a6 _))) λL=>?_
 refine aQ (dh (hN (ca (aw (k:=1) (v:=.ab .none) (mL R) R (fV (pn ⟨_,R,λac=>(nomatch ac),λa=>ig (bn ⟨[],R,Cm _,_,aH.ag (k:=1) (mL R),?_⟩)⟩))))));have f:=BZ (l _ _ b);refine s2 D (j:=j) (i:=σ.aa) (t:=[]) (hv:=.ab .none) ?_ (bq _ _ _) R R f (λa h=>nomatch h) (Cm _) λσ' g=>?_
 .exact aS f b
 .exact⟨⟨σ.aa+1,(j,.ns ["_headers"] [(0,.aP σ.aa)])::(σ.aa,.aN [])::σ.aj,σ.ag⟩,⟨g.aa,g.aj,λa a e=>e⟩,h⟩
theorem xb(D:je c C N bC d9 ex bU c7 gT g5 g3 hx g2 hw gL gK bi){t:List (O×O)}(a:J σ.aj j=H (.ns ["_headers"] []))(hi:J σ.aj i=H (.aN (t.map e4)))(ao:∀p∈t,fA h4 p.1=H BQ/\fA ie p.2=H BQ)(g:t.length<=1000)
  (h:Q (.ab .none) ⟨σ.aa,(j,.ns ["_headers"] [(0,.aP i)])::σ.aj,σ.ag⟩):WC c (d+3) d9 2 [] [.bh C j,.aP i] σ Q X:=by
 obtain⟨l,aJ⟩:=D.hO;refine WC.OR ?_;refine e3 (σ':=σ) (σ₁:=⟨σ.aa,σ.aj,[(1,.aP i),(0,.bh C j)]⟩) aJ (p5 d9 ex) (vX D.d0) R ⟨R,R,R,R,R⟩ (e0 (cn:=[]) (by decide+kernel) R ⟨D.Rd,D.Q4,trivial⟩ (λb h=>nomatch h)) (.aU (aH.ag (k:=0) (mL R)) (.aU (aH.ag (k:=1) (mL R)) (.a6 _))) λL=>?_
 refine aQ (dh (hN (ca (aw (k:=1) (v:=.aP i) (mL R) R (fV (pn ⟨_,R,λb=>aw (k:=1) (v:=.aP i) (mL R) R ⟨_,aH.ag (k:=1) (mL R),?_⟩,λac=>nomatch ac⟩))))));refine s2 D (j:=j) (i:=i) (t:=t) (hv:=.ab .none) a hi R R (λe=>by rw[e,hi]at a;cases a) ao g λσ' f=>?_
 exact⟨⟨σ.aa,(j,.ns ["_headers"] [(0,.aP i)])::σ.aj,σ.ag⟩,⟨f.aa,f.aj,λb b e=>e⟩,h⟩
end
noncomputable def kO(a b:O):Bool:=!(Ej a b 0 a.length 1).isEmpty
noncomputable def fG(nm:O):O:="\\"++nm
noncomputable def lh(nm:O)(w:Int):O:="\""++(if w=2/\kO "\"\\" nm=BQ then nm else fG nm)++"\""
noncomputable def qJ(nm:O):O:=if kO "\t \"\\" nm=BQ then nm else fG nm
noncomputable def iM(nm:O)(w:Nat):O:=([fG nm,lh nm w,lh nm w,qJ nm][w]?).getD B0
noncomputable def tD(a cc:M):bB:=eX (az 22).aM ["name","way","bare","quoted"] [] [] [] "_law_spelled" a cc
theorem y9{bu:M}(aJ:fi c bu "_law_spelled" "_law_spelled" (az 22).l (az 22).h (az 22).aM .none .none cc){nm:O}{w:Nat}(i:nm.length<=100)(r:w<4)(h:Q (.ab (.str (iM nm w))) σ):WC c (d+1) bu 2 [] [.ab (.str nm),.ab (.int w)] σ Q X:=by
 refine e3 (σ':=σ) (σ₁:=⟨σ.aa,σ.aj,[(1,.ab (.int w)),(0,.ab (.str nm))]⟩) aJ (tD bu cc) (kM (x1:="name") (x2:="way") λa a a a a a=>by rfl) R ⟨R,R,R,R,R⟩ (e0 (cn:=[]) (by decide+kernel) R trivial (λa h=>nomatch h)) (.aU (aH.ag (k:=0) (mL R)) (.aU (aH.ag (k:=1) (mL R)) (.a6 _))) λL=>?_
 have g:(fG nm).length<=101:=by
  unfold fG;refine a3 (eF ..) (U (gX ..) (a3 BV (br (eF nm) ?_)));refine(?_:1+nm.length<=101);exact a0 [_] ak (nA 100) (aq a7 ak) (nA 101) al i
 refine aQ (dh (b4 (b8 (aw (k:=0) (v:=.ab (.str nm)) (mL R) R (gm (by refine(?_:1+nm.length<=_);exact a0 [_] ak (nA 100) (aq a7 ak) dD al i) ⟨_,aH.ag (k:=2) (mL R),?_⟩)))));refine aQ (dh (b4 (b4 (b8 (hN ?_)))))
 have n:∀y:O,y.length<=101->("\""++y++"\"").length<=103:=λy f=>by
  refine a3 (eF ..) (U (gX ..) (U (gX ..) (a3 BV (U BV (br (eF y) ?_)))));refine(?_:1+y.length+1<=103);exact a0 [_] ak (nA 101) (aq (aq a7 ak) a7) (nA 103) al f
 have l:∀y:O,y.length<=101->(("\""++y:O)).length<=102:=λy f=>by
  refine a3 (eF ..) (U (gX ..) (a3 BV (br (eF y) ?_)));refine(?_:1+y.length<=102);exact a0 [_] ak (nA 101) (aq a7 ak) (nA 102) al f
 have m:∀q:O,q=lh nm w->∀σ₁:V,σ₁=⟨σ.aa,σ.aj,(3,.ab (.str q))::(2,.ab (.str (fG nm)))::[(1,.ab (.int w)),(0,.ab (.str nm))]⟩->WS (c.a5 L) d (tD bu cc) ((az 22).h.drop 2) σ₁ (λp b=>Q p.QB (b.N1 σ)) (λx b=>X x (b.N1 σ)):=λq n σ₁ e=>by
  subst e
  have o:∀y,y=qJ nm->jJ (c.a5 L) d (.ab (.list ([fG nm,q,q,y].map .str))) (.ab (.int w)) ⟨σ.aa,σ.aj,(3,.ab (.str q))::(2,.ab (.str (fG nm)))::[(1,.ab (.int w)),(0,.ab (.str nm))]⟩ (λv b=>Q v (b.N1 σ)) (λx b=>X x (b.N1 σ)):=λy f=>by
   refine gl (ds:=[fG nm,q,q,y].map .str) (j:=w) (x:=.str (iM nm w)) .aK ?_ ?_ (by refine(?_:4<=1000000);decide) h
   .unfold Eg;simp only[BH,Cd,HQ];rcases(by lia:w=0\/w=1\/w=2\/w=3)with rfl|rfl|rfl|rfl <;> rfl
   .unfold iM;refine U n (U f ?_);rcases(by lia:w=0\/w=1\/w=2\/w=3)with rfl|rfl|rfl|rfl <;> rfl
  refine aQ (ej (c3 (ho (aI (aw (k:=2) (v:=.ab (.str (fG nm))) (mL R) R (aI (aw (k:=3) (v:=.ab (.str q)) (mL R) R (aI (aw (k:=3) (v:=.ab (.str q)) (mL R) R (aI (hN (ca (aw (k:=0) (v:=.ab (.str nm)) (mL R) R (b8 (pa ⟨_,R,λac=>?_,λac=>?_⟩)))))))))))))))
  .refine aw (k:=0) (v:=.ab (.str nm)) (mL R) R (bn ⟨[fG nm,q,q,nm].map .str,R,(by refine(?_:4<=1000000);decide),aw (k:=1) (v:=.ab (.int w)) (mL R) R (o nm ?_)⟩);exact(if_pos (by unfold kO;exact U ac R)).symm
  .refine aw (k:=2) (v:=.ab (.str (fG nm))) (mL R) R (bn ⟨[fG nm,q,q,fG nm].map .str,R,(by refine(?_:4<=1000000);decide),aw (k:=1) (v:=.ab (.int w)) (mL R) R (o (fG nm) ?_)⟩);exact(if_neg (by unfold kO;refine U ac ?_;decide)).symm
 refine kW (pos':=⟨0,0,0,0⟩) (ca (aw (k:=1) (v:=.ab (.int w)) (mL R) R (bI (om ⟨_,R,λh2=>kW (pos':=⟨0,0,0,0⟩) (ca (aw (k:=0) (v:=.ab (.str nm)) (mL R) R (b8 (pa ⟨_,R,λac=>rn ⟨λa=>?_,λh=>nomatch h⟩,λac=>⟨λh=>(nomatch h),λa=>?_⟩⟩)))),λh2=>⟨λh=>(nomatch h),λa=>?_⟩⟩))))
 .refine aw (k:=0) (v:=.ab (.str nm)) (mL R) R (gm (by refine(?_:1+nm.length<=_);exact a0 [_] ak (nA 100) (aq a7 ak) dD al i) (b8 (gm ?_ ⟨_,aH.ag (k:=3) (mL R),m _ ?_ _ R⟩)))
  .have:=l nm (by exact Co ‹_›);refine(?_:_+1<=_);exact a0 [_] ak (nA 102) aC dD al this
  .unfold lh;exact U (if_pos ⟨by simpa using h2,by unfold kO;exact U ac R⟩) R
 .refine aw (k:=2) (v:=.ab (.str (fG nm))) (mL R) R (gm (by refine(?_:1+(fG nm).length<=_);exact a0 [_] ak (nA 101) (aq a7 ak) dD al g) (b8 (gm ?_ ⟨_,aH.ag (k:=3) (mL R),m _ ?_ _ R⟩)))
  .have:=l (fG nm) g;refine(?_:_+1<=_);exact a0 [_] ak (nA 102) aC dD al this
  .unfold lh;exact U (if_neg (λq=>by have:=q.2;unfold kO at this;rw[ac]at this;cases this)) R
 .refine aw (k:=2) (v:=.ab (.str (fG nm))) (mL R) R (gm (by refine(?_:1+(fG nm).length<=_);exact a0 [_] ak (nA 101) (aq a7 ak) dD al g) (b8 (gm ?_ ⟨_,aH.ag (k:=3) (mL R),m _ ?_ _ R⟩)))
  .have:=l (fG nm) g;refine(?_:_+1<=_);exact a0 [_] ak (nA 102) aC dD al this
  .unfold lh;exact U (if_neg (λq=>by have:=q.1;rw[this]at h2;cases h2)) R
theorem fi.OM{c:Bx}{nm:O}{cK bx aY bi bz}(h:fi c a nm nm cK bx aY bi bz cc):eE c a nm cK bx aY bi bz cc:=h
noncomputable abbrev gs(c:Bx)(i:Nat)(nm:O)(bi bz:Z)(f:M×M):Prop:=fi c f.1 nm nm (az i).l (az i).h (az i).aM bi bz f.2
structure LA where
 y:Nat->M×M
 QY:Nat->Z×Z
 QD:Nat->M
 Sy:Nat->O->Option Z
noncomputable def LA.O5(x:LA):M×M:=x.y 0
noncomputable def LA.Om(x:LA):M×M:=x.y 1
noncomputable def LA.OS(x:LA):M×M:=x.y 2
noncomputable def LA.OV(x:LA):M×M:=x.y 3
noncomputable def LA.SF(x:LA):M×M:=x.y 4
noncomputable def LA.Ti(x:LA):M×M:=x.y 5
noncomputable def LA.RB(x:LA):M×M:=x.y 6
noncomputable def LA.Qs(x:LA):M×M:=x.y 7
noncomputable def LA.Pz(x:LA):M×M:=x.y 8
noncomputable def LA.Qi(x:LA):M×M:=x.y 9
noncomputable def LA.O9(x:LA):M×M:=x.y 10
noncomputable def LA.Pf(x:LA):M×M:=x.y 11
noncomputable def LA.OW(x:LA):M×M:=x.y 12
noncomputable def LA.Pt(x:LA):M×M:=x.y 13
noncomputable def LA.Pq(x:LA):M×M:=x.y 14
noncomputable def LA.Ps(x:LA):M×M:=x.y 15
noncomputable def LA.ee(x:LA):M×M:=x.y 16
noncomputable def LA.OB(x:LA):M×M:=x.y 17
noncomputable def LA.Sl(x:LA):M×M:=x.y 18
noncomputable def LA.SY(x:LA):M×M:=x.y 19
noncomputable def LA.Sg(x:LA):M×M:=x.y 20
noncomputable def LA.Sp(x:LA):M×M:=x.y 21
noncomputable def LA.SN(x:LA):M×M:=x.y 22
noncomputable def LA.Tj(x:LA):M×M:=x.y 23
noncomputable def LA.SR(x:LA):M×M:=x.y 24
noncomputable def LA.Te(x:LA):M×M:=x.y 25
noncomputable def LA.Pd(x:LA):Z×Z:=x.QY 0
noncomputable def LA.Pe(x:LA):Z×Z:=x.QY 1
noncomputable def LA.PI(x:LA):Z×Z:=x.QY 2
noncomputable def LA.PE(x:LA):Z×Z:=x.QY 3
noncomputable def LA.hd(x:LA):Z:=(x.QY 4).1
noncomputable def LA.nC(x:LA):M:=x.QD 0
noncomputable def LA.T2(x:LA):M:=x.QD 1
noncomputable def LA.OQ(x:LA):M:=x.QD 2
noncomputable def LA.Uu(x:LA):M:=x.QD 3
noncomputable def LA.TD(x:LA):M:=x.QD 4
noncomputable def LA.TB(x:LA):M:=x.QD 5
noncomputable def LA.TM(x:LA):O->Option Z:=x.Sy 0
noncomputable def LA.TG(x:LA):O->Option Z:=x.Sy 1
structure cP(c:Bx)(a:LA):Prop where
 PO:Fh<c.i.objs.size
 O5:gs c 6 "bisect_left" a.Pd.1 a.Pd.2 a.O5
 Om:gs c 4 "bisect_right" a.Pe.1 a.Pe.2 a.Om
 OS:gs c 5 "insort_left" a.PI.1 a.PI.2 a.OS
 OV:gs c 3 "insort_right" a.PE.1 a.PE.2 a.OV
 Pd:d7 c a.Pd.1 a.Pd.2
 Pe:d7 c a.Pe.1 a.Pe.2
 PI:d7 c a.PI.1 a.PI.2
 PE:d7 c a.PE.1 a.PE.2
 Qs:gs c 11 "_pre_parse_validation" .none .none a.Qs
 Pz:gs c 21 "_law_desk" .none .none a.Pz
 Qi:gs c 22 "_law_spelled" .none .none a.Qi
 O9:gs c 23 "_law_label" .none .none a.O9
 Pf:gs c 24 "_law_forth" .none .none a.Pf
 OW:gs c 25 "_law_back" .none .none a.OW
 Pt:gs c 26 "_law_text" .none .none a.Pt
 Pq:gs c 27 "_law_way" .none .none a.Pq
 Ps:gs c 28 "_law_refused" .none .none a.Ps
 ee:gs c 29 "_law_line" .none .none a.ee
 Rk:nl c a.RB.1 a.RB.2 a.Ti.1 a.Ti.2 a.SF.1 a.SF.2
 n:hK c a.nC a.T2 a.TM a.OB.1 a.OB.2 a.Sl.1 a.Sl.2 a.SY.1 a.SY.2 a.Sg.1 a.Sg.2
 bF:je c a.OQ a.Uu a.TG a.Sp.1 a.Sp.2 a.SN.1 a.SN.2 a.Tj.1 a.Tj.2 a.SR.1 a.SR.2 a.Te.1 a.Te.2 a.TD a.TB a.hd
 B:fB c
 PQ:cr c "bisect_left" (.ref a.O5.1)
 P0:cr c "bisect_right" (.ref a.Om.1)
 Rf:cr c "insort_left" (.ref a.OS.1)
 Rh:cr c "insort_right" (.ref a.OV.1)
 RF:cr c "_check_parenthesis" (.ref a.RB.1)
 Ta:cr c "_pre_parse_validation" (.ref a.Qs.1)
 S2:cr c "_law_desk" (.ref a.Pz.1)
 SH:cr c "_law_spelled" (.ref a.Qi.1)
 Rg:cr c "_law_label" (.ref a.O9.1)
 SS:cr c "_law_forth" (.ref a.Pf.1)
 S6:cr c "_law_back" (.ref a.OW.1)
 Sw:cr c "_law_text" (.ref a.Pt.1)
 Tf:cr c "_law_way" (.ref a.Pq.1)
 RG:cr c "_law_refused" (.ref a.Ps.1)
 S5:cr c "_law_line" (.ref a.ee.1)
 S3:cr c "_netrclex" (.ref a.nC)
 SA:cr c "Headers" (.ref a.OQ)
 RL:cr c "sorted" (.builtin "sorted")
 SJ:cr c "min" (.builtin "min")
 S1:cr c "max" (.builtin "max")
 S8:cr c "sum" (.builtin "sum")
 QU:cr c "range" (.type "range")
inductive jV(σ:V):Y->Cj->Prop
 |S {a:Y} {x:Cj}:gq σ a x->jV σ a x
 |Sd {a b:Y} {x y:Cj}:gq σ a x->gq σ b y->jV σ (.b2 [a,b]) (.tuple [x,y])
 |RX {a b e:Y} {x y z:Cj}:gq σ a x->gq σ b y->gq σ e z->jV σ (.b2 [a,b,e]) (.tuple [x,y,z])
theorem jV.NV{a:Y}{d:Cj}(h:jV σ a d)(r:aA c g σ s)(hv:a8 c s.heap g.F g.a σ.aa a v):∃as,E2 s.heap v d as/\d.canLay0=u:=by
 cases h with
 |S h=>exact h.NV r hv
 |Sd h1 h2=>
  obtain⟨_,_,_,_,e,aT,aX,bc,cG⟩:=hv.NV;obtain⟨_,_,b,a2,bH⟩:=cG.Qr;obtain⟨as,f,i⟩:=h1.NV r a2;obtain⟨bs,bU,eo⟩:=h2.NV r bH;refine U e ?_
  exact⟨_,.tuple aT aX bc (by exact U b (.cons f (.cons bU .nil))),CK.mpr ⟨i,CK.mpr ⟨eo,R⟩⟩⟩
 |RX h1 h2 j=>
  obtain⟨_,_,_,_,e,aT,aX,bc,cG⟩:=hv.NV;obtain⟨_,_,_,b,a2,bH,ef⟩:=cG.PR;obtain⟨as,f,i⟩:=h1.NV r a2;obtain⟨bs,bU,eo⟩:=h2.NV r bH;obtain⟨a9,k,l⟩:=j.NV r ef;refine U e ?_;exact⟨_,.tuple aT aX bc (by exact U b (.cons f (.cons bU (.cons k .nil)))),CK.mpr ⟨i,CK.mpr ⟨eo,CK.mpr ⟨l,R⟩⟩⟩⟩
end
section
set_option tactic.hygienic false
theorem he{k n:Nat}(h:k<n):Eg (k:Int) n=H k:=by
 unfold Eg;have h1:=DM.mpr (C5 k);have h2:=El.mpr h;simp[h1,h]
noncomputable def jw(ys:List O)(x:O)(lo hi:Nat):List O:=d5 ys (j9 ys x lo hi) x
noncomputable def jC(ys:List O)(x:O)(lo:Nat):List O:=d5 ys (kG ys x lo ys.length) x
noncomputable def jy(ys:List O)(x:O)(lo:Nat):List O:=d5 ys (j9 ys x lo ys.length) x
noncomputable def kv(ys:List O)(x:O)(lo hi:Nat):List O:=d5 ys (kG ys x lo hi) x
variable{aO:Type}
theorem kd(ds:List aO)(k:Nat)(x:aO):(d5 ds k x).length=ds.length+1:=by
 unfold d5;exact BK BV (U Cd (hn (EG ..) (br BV (U (Fp ..) R))))
theorem kh{b9:Type}(f:aO->b9)(ds:List aO)(k:Nat)(x:aO):d5 (ds.map f) k (f x)=(d5 ds k x).map f:=by
 unfold d5;exact bP Cb (U CR (U EF (U EZ R)))
noncomputable def dB(up:Bool)(l:Nat):O:=⟨#[(if up then 65 else 97)+l]⟩
noncomputable abbrev Ev:=Int×Bool×O
noncomputable abbrev eA(e:Ev):Cj:=.tuple [.int e.1,.str (if e.2.1 then")" else"("),.str e.2.2]
structure FS where
 bo:List O
 bp:Nat
 bO:List O
 a5:List O
 fl:List (O×O)
noncomputable def gS(a:List O)(s:FS)(e:Ev):FS:=
 if e.2.1 then match s.a5 with
  |x::b=>⟨jC s.bo x s.bp,s.bp,s.bO++[x],b,s.fl⟩
  |[]=>s
 else⟨jw s.bo e.2.2 0 s.bp,s.bp+1,s.bO,s.a5++[e.2.2],s.fl++[(dB (a.contains e.2.2) (el s.bo s.bp e.2.2).toNat,e.2.2)]⟩
noncomputable def ps(s:FS)(e:Ev):Prop:=(e.2.1=u->s.a5≠[])/\(e.2.1=BQ->0<=el s.bo s.bp e.2.2/\el s.bo s.bp e.2.2<5)
noncomputable def dR(a:List O)(b:List Ev)(k:Nat):FS:=(b.take k).foldl (gS a) ⟨[],0,[],[],[]⟩
variable{k:Nat}{e:Ev}
theorem nw{a:List O}{b:List Ev}(h:b[k]?=H e):dR a b (k+1)=gS a (dR a b k) e:=by
 unfold dR;exact U CX (U h (DJ))
theorem vy{a:List O}{s:FS}(h:s.bo.length=s.bp+s.bO.length):(gS a s e).bo.length=(gS a s e).bp+(gS a s e).bO.length:=by
 unfold gS;split
 .split
  .refine(?_:(jC _ _ _).length=s.bp+(s.bO++[_]).length);unfold jC;exact BK (kd ..) (U BV (U h R))
  .exact h
 .refine(?_:(jw _ _ _ _).length=s.bp+1+s.bO.length);unfold jw;refine BK (kd ..) (U h ?_);exact Cg (h0 [_,_] (aq (aq ak af) a7) (aq aC af) al) (h0 [_,_] (aq aC af) (aq (aq ak af) a7) al)
set_option tactic.hygienic true in
theorem qL(b:List O)(a:List Ev):∀k,(dR b a k).bo.length=(dR b a k).bp+(dR b a k).bO.length/\(dR b a k).bo.length<=k/\(dR b a k).fl.length<=k/\(dR b a k).a5.length<=k/\∀w∈(dR b a k).a5,∃e∈a,e.2.2=w:=by
 intro k
 induction k with
 |zero=>
  exact⟨R,BJ _,BJ _,BJ _,λm h=>nomatch h⟩
 |succ k i=>
  refine A5 i λh1 h2 j f d=>?_;clear i
  cases g:a[k]? with
  |none=>
   have:dR b a (k+1)=dR b a k:=by unfold dR;exact U CX (U g (U (Option.toList_none ..) (U (CE ..) R)))
   exact U this ⟨h1,Co ‹_›,Co ‹_›,Co ‹_›,d⟩
  |some e=>
   refine U (nw g)<|⟨vy h1,?_⟩;unfold gS;split
   .split
    .rename_i x l ai
     rw[ai]at f d;refine⟨?_,Co j,?_,λw c=>d w (.tail _ c)⟩
     .refine(?_:(jC _ _ _).length<=_);unfold jC;exact a3 (kd ..) (Dk ‹_›)
     .refine(?_:l.length<=_);rw[Cd]at f;exact a0 [_,_] aC af ak b1 al f
    .exact⟨Co ‹_›,Co ‹_›,Co ‹_›,d⟩
   .refine⟨?_,?_,?_,λw c=>?_⟩
    .refine(?_:(jw _ _ _ _).length<=_);unfold jw;exact a3 (kd ..) (Dk ‹_›)
    .refine(?_:(_++[_]).length<=_);rw[BV];show _+1<=_;exact Dk ‹_›
    .refine(?_:(_++[_]).length<=_);refine a3 BV ?_;exact(Dk ‹_›:_+1<=_)
    .rcases CA.mp c with c|c
     .exact d w c
     .exact U (BO.mp c) ⟨e,B5 g,R⟩
structure m1(v:O):Prop where
 cZ:v.length<=1000
 RA:BR v=u
 Rw:fA ie v=H BQ
variable{l:Nat}
theorem rg{up:Bool}(h:l<5):fA h4 (dB up l)=H BQ/\fA h4 (CS (dB up l))=H BQ/\BR (dB up l)=u/\BR (CS (dB up l))=u/\Ki (dB BQ l)=dB u l/\CS (dB up l)=dB BQ l:=by
 refine jW (h) ?_ ?_ ?_ ?_ ?_ <;> cases up <;> decide+kernel
variable{σ:V}
theorem ei.bM{σ':V}{I:cO}{ap:Int}{aE bk:List O}(K:ei σ I ap aE bk)(h:∀i,i∈[I.j,I.x,I.s,I.m,I.e,I.f]->J σ'.aj i=J σ.aj i):ei σ' I ap aE bk:=by
 obtain⟨log,a,b⟩:=K.ns;obtain⟨L,a9,c⟩:=K.P2;obtain⟨d,a2,bH⟩:=K.s;refine⟨⟨log,(h _ ?_).trans a,b⟩,⟨L,a9,(h _ ?_).trans c⟩,⟨d,(h _ ?_).trans a2,bH⟩,(h _ ?_).trans K.m,(h _ ?_).trans K.e,(h _ ?_).trans K.f,K.Po⟩ <;> simp
variable{j i:Nat}
theorem f3.bM{σ':V}{t:List (O×O)}(K:f3 σ j i t)(h1:J σ'.aj j=J σ.aj j)(h2:J σ'.aj i=J σ.aj i):f3 σ' j i t:=by
 obtain⟨log,a,b⟩:=K.ns;exact⟨⟨log,h1.trans a,b⟩,h2.trans K.c⟩
theorem jK(xs:List O)(w:O):((xs.map B1).any λy=>Gm y (.str w))=xs.contains w:=by
 induction xs with
 |nil=>rfl
 |cons x xs a=>
  refine U CR (BK KP (U a (bP List.contains_cons ?_)))
  congr 1
  refine(?_:(x==w)=(w==x));exact GI.mpr ⟨λh=>by rw[beq_iff_eq]at h⊢;exact h.symm,λh=>by rw[beq_iff_eq]at h⊢;exact h.symm⟩
noncomputable def ib(o:Option DZ):List DZ:=o.elim [] λs=>(jP s).2.1
variable{c:Cx}{d:Nat}{a:LA}
inductive q6(Q:Y->V->Prop)(a:Y)(σ:V):Prop
 |mk:∀ds x,dF σ a (ds++[x])->ds.length<=9999->Q (.ab x) σ->q6 Q a σ
variable{X:AX->V->Prop}{d0:CQ}
theorem jt{ae:bB}{p di pos:FH}{Q:Y->V->Prop}(h:WE c d ae d0 σ (q6 Q) X):WE c d ae (.Subscript d0 (.UnaryOp .USub (.Constant (.int 1) k p) di) pos) σ Q X:=
 c3 (h.be λa σ₁⟨ds,x,b,e,f⟩=>lj (bI (kU (gl b (j:=ds.length) (by
  unfold Eg;refine U BV (U Dx ?_);simp;lia) (by simp) (by refine a3 BV (U Dx ?_);exact a0 [_] ak (nA 9999) aC dD al e) f))))
structure hg(I:cO)(aB aW ah:Nat):Prop where
 Oa:∀i∈[I.j,I.x,I.s,I.m,I.e,I.f],i<ah
 Pj:aB<ah
 Pl:aW<ah
 QX:aB∉[I.j,I.x,I.s,I.m,I.e,I.f]
 QF:aW∉[I.j,I.x,I.s,I.m,I.e,I.f]
 By:aB≠aW
theorem hg.RC{I:cO}(h:i∉[I.j,I.x,I.s,I.m,I.e,I.f]):i∉[I.j,I.e,I.f]:=λay=>h (by
 rcases BX.mp ay with rfl|ay
 .exact .head _
 .exact .tail _ (.tail _ (.tail _ (.tail _ ay))))
theorem xe{a b e f g:Nat}(h:i∉[a,b,e,f,g]):i∉[a,b,e]:=λay=>h (Ci [f,g] ay)
theorem se{ah k:Nat}{I:cO}(h:∀i∈[I.j,I.x,I.s,I.m,I.e,I.f],i<ah)(a:ah<=k):k∉[I.j,I.e,I.f]:=λay=>absurd (h k (by
 rcases BX.mp ay with rfl|ay
 .exact .head _
 .exact .tail _ (.tail _ (.tail _ (.tail _ ay))))) (BP.mpr a)
structure j1(a:LA)(I:cO)(ap:Int)(aE:List O)(aB aW:Nat)(great:List O)(ah:Nat)(fn:List (Nat×bL))(ri:Nat)(S:FS)(τ:V):Prop where
 aa:ah+4<=τ.aa
 cl:J τ.aj ah=H (.ar (H (.aP (ah+2))))
 Q:J τ.aj (ah+1)=H (.ar (H (.ab (.int S.bp))))
 bo:J τ.aj (ah+2)=H (.aN (S.bo.map .str))
 bO:J τ.aj (ah+3)=H (.aN (S.bO.map .str))
 cz:ei τ I ap aE S.a5
 bF:f3 τ aB aW S.fl
 d8:J τ.ag 1=H (.bh a.nC I.j)
 z:J τ.ag 2=H (.bh a.OQ aB)
 T:J τ.ag 3=H (.ab (.list (great.map .str)))
 X:J τ.ag 4=H (.aP (ah+3))
 dU:∀i,i<ah->i∉[I.j,I.e,I.f,aW,ri]->J τ.aj i=J fn i
noncomputable def j8(a:LA)(n:Nat)(bu cc:M):bB:=eX (az 24).aM ["row","desk","table","great","gone","place","sign","word","letter"] [("cut",n+1),("line",n)] ["insort_right","_law_label","insort_left"] [.ref a.OV.1,.ref a.O9.1,.ref a.OS.1] "_law_forth" bu cc
variable{Q:bY->V->Prop}
theorem AN{N:V->Prop}{φ:(bY->V->Prop)->Prop}(a:∀σ,N σ->Q .aa σ)(h:∀P:bY->V->Prop,(∀σ,N σ->P .aa σ)->φ P):φ Q:=h Q a
variable{fn:List (Nat×bL)}{L bu cc:M}
theorem vY(D:cP c a){I:cO}{ap:Int}{aE:List O}{aB aW G ah:Nat}{f:List O}{S:FS}(bk:∀s∈aE,s.length=1)(bl:aE.length<=800)(cM:S.bo.length=S.bp+S.bO.length/\S.bo.length<=30/\S.fl.length<=30/\S.a5.length<=30)
  (aZ:ps S e)(an:m1 e.2.2)(cE:f.length<=30)(g:hg I aB aW ah){r:V}(K:j1 a I ap aE aB aW f ah fn G S r):
  ∃a4,fD (j8 a ah bu cc) ["place","sign","word"] r [.ab (.int e.1),.ab (.str (if e.2.1 then")" else"(")),.ab (.str e.2.2)] a4/\
   WS (c.a5 L) (d+4) (j8 a ah bu cc) (ib (az 24).h[1]?) a4 (λbv a9=>match bv with| .aa=>j1 a I ap aE aB aW f ah fn G (gS f S e) a9| .eY=>j1 a I ap aE aB aW f ah fn G (gS f S e) a9| .eQ=>False| .c0 v=>False) cm:=by
 have A:(("cut":O),cQ.ar (ah+1))∈(j8 a ah bu cc).bN:=mC (.head _);have ao:(("line":O),cQ.ar ah)∈(j8 a ah bu cc).bN:=mC (.tail _ (.head _));refine⟨_,.aU (aH.ag (k:=5) (mL R)) (.aU (aH.ag (k:=6) (mL R)) (.aU (aH.ag (k:=7) (mL R)) (.a6 _))),AN (N:=j1 a I ap aE aB aW f ah fn G (gS f S e)) (φ:=λP=>WS _ _ _ _ _ P cm) (λT h=>h) λP W=>?_⟩
 let τ:V:=((r.N2 5 (.ab (.int e.1))).N2 6 (.ab (.str (if e.2.1 then")" else"(")))).N2 7 (.ab (.str e.2.2))
 refine aQ (cU (ca (aw (k:=6) (mL R) R (b8 (hL ⟨_,R,λac=>?_,λac=>?_⟩)))))
 .have B:e.2.1=u:=by
   cases h:e.2.1 with
   |true=>rfl
   |false=>rw[h]at ac;exact absurd ac (by decide+kernel)
  obtain⟨x,bx,av⟩:=List.exists_cons_of_ne_nil (aZ.1 B);have ax:gS f S e=⟨jC S.bo x S.bp,S.bp,S.bO++[x],bx,S.fl⟩:=by unfold gS;exact BK (if_pos B) (U av R)
  rw[ax]at W;have cF:(S.bO.map B1).length<=30:=by refine a3 (BH ..) ?_;exact aV [_,_,_] (aq af ak) au au dE ak dE al (eR cM.1) cM.2.1
  obtain⟨log,bz,_⟩:=K.cz.ns;refine aQ (ez (eb (aw (k:=4) (mL R) K.X ⟨_,u,cf.aN K.bO CT CY,a1.Oe _,aI (fe (.ag (k:=1) (mL R) K.d8) (cf.N4 D.n.cp bz D.n.Pr D.n.ga D.n.gt FO.Q5 (by decide+kernel)) (a1.N4 D.n.Pr.2) .a6 (WK.NW (WC.Of (mA (c:=c.a5 L) (σ:=τ) D.n (K.cz.bM λT T=>R) bk bl (by exact a0 [_] ak dE ak dT al cM.2.2.2) (λp cG C σ' bC ba=>?_) (λC=>absurd C (by refine U av ?_;exact nofun))))))⟩)));replace C:=av.symm.trans C;cases C;have cH:=ba.aa;have n:=ba.aj;have b:=K.aa;have z:∀k,ah<=k->k∉[I.j,I.e,I.f]:=λk bD=>se g.Oa bD;have am:=(n _ ‹_› (z _ (by exact B4 ..))).trans K.bO;refine bn (ce (iD am (by exact BG ‹_› (DD R)) (aQ (ez (dJ (dr (mG 0 R R) ⟨a1.N4 D.OV,aI (bR (v:=.aP (ah+2)) ao ?_ (aI (jt (aw (k:=4) (mL R) K.X ⟨S.bO.map .str,.str x,.bm (bq _ _ _),by exact BG ‹_› (DD R),aI (bR A ?_ (bn (ce (WK.NW (Bb (p:=pR S.bo x) (lo:=S.bp) D.OV.OM D.PE D.Om.OM D.Pe D.B D.P0 (by refine dH (BH ..) ?_;exact a0 [_,_,_] (aq ak au) af ak af al (eR cM.1)) ?_ (by refine a3 (BH ..) ?_;exact a0 [_] ak dE ak dT al cM.2.1) (λay σ Q j y aJ aL=>qc ay σ Q j y aJ aL) ?_)))))⟩))))⟩))))))
  .exact aS (by exact dI) ((n _ (by exact a0 [_,_] gO af aC af al b) (z _ (by exact BJ _))).trans K.cl)
  .refine(?_:J ((ah+3,_)::σ'.aj) (ah+1)=_);exact aS (by exact bK R) ((n _ (by exact a0 [_,_] gO af (aq aC a7) af al b) (z _ (by exact Cr _))).trans K.Q)
  .refine(?_:J ((ah+3,_)::σ'.aj) (ah+2)=_);exact aS (by exact bK R) ((n _ (by exact Cz ‹_›) (z _ (by exact B4 ..))).trans K.bo)
  .refine bJ ?_
   try dsimp only
   have E:∀i,i<r.aa->i∉[I.j,I.e,I.f]->i≠ah+2->i≠ah+3->J ((ah+2,bL.aN (d5 (S.bo.map .str) (dg (pR S.bo x) (S.bo.map B1).length S.bp (S.bo.map B1).length) (.str x)))::(ah+3,bL.aN (S.bO.map .str++[.str x]))::σ'.aj) i=J r.aj i:=λi hi w h2 bH=>by
    exact aS h2 (aS bH (n i hi w))
   refine bJ (W _ ⟨?_,?_,?_,?_,?_,?_,?_,K.d8,K.z,K.T,K.X,λi hi w=>?_⟩)
   .exact(BL ‹_› ‹_›:ah+4<=σ'.aa)
   .exact(E _ (by exact a0 [_,_] gO af aC af al b) (z _ (by exact BJ _)) (by exact dI) (by exact dI)).trans K.cl
   .exact(E _ (by exact a0 [_,_] gO af (aq aC a7) af al b) (z _ (by exact Cr _)) (by exact bK R) (by exact bK R)).trans K.Q
   .refine(bq _ _ _).trans<|U (BH ..) (U (kh ..) R)
   .refine(?_:J ((ah+2,_)::(ah+3,_)::σ'.aj) (ah+3)=_);refine aS (by exact bK R)<|(bq _ _ _).trans<|U Cb R
   .refine bC.bM λi hi=>?_;have:i<ah:=g.Oa i hi;exact aS (by exact b7 ‹_›) (aS (by exact b7 ‹_›) R)
   .have aT:=g.Pj;have aX:=g.Pl;exact K.bF.bM (E _ (by exact aV [_,_,_] (ct 2 4) af aC au aC af al b aT) (hg.RC g.QX) (by exact b7 ‹_›) (by exact b7 ‹_›)) (E _ (by exact aV [_,_,_] (ct 2 4) af aC au aC af al b aX) (hg.RC g.QF) (by exact b7 ‹_›) (by exact b7 ‹_›))
   .exact(E i (by exact aV [_,_,_] (ct 2 4) af aC au aC af al b hi) (xe w) (by exact b7 ‹_›) (by exact b7 ‹_›)).trans (K.dU i hi w)
 .have B:e.2.1=BQ:=by
   cases h:e.2.1 with
   |false=>rfl
   |true=>rw[h]at ac;exact absurd ac (by decide+kernel)
  obtain⟨bQ,bS⟩:=aZ.2 B;obtain⟨l,X⟩:=IZ bQ;have aO:l<5:=(El (m:=5)).mp (FZ (Ja X.symm) bS);refine A6 (rg (up:=f.contains e.2.2) aO) λbU cK bb cS bc cV=>?_
  have ax:gS f S e=⟨jw S.bo e.2.2 0 S.bp,S.bp+1,S.bO,S.a5++[e.2.2],S.fl++[(dB (f.contains e.2.2) l,e.2.2)]⟩:=by
   unfold gS;exact BK (if_neg (by refine U B ?_;decide)) (U X R)
  rw[ax]at W;have bf:(S.bo.map B1).length=S.bo.length:=BH _;refine aQ (dh (c3 (b8 (d3 (mG 1 R R) (a1.N4 D.O9) (.ar ao K.cl (.ar (i:=ah+1) (v:=.ab (.int S.bp)) A K.Q (.ag (k:=7) (v:=.ab (.str e.2.2)) (mL R) R .a6))) (WK.NW (pb (c:=c.a5 L) (d:=d+2) (σ:=τ) D.O9.OM D.O5.OM D.Pd D.Om.OM D.Pe D.B D.PQ D.P0 (ys:=S.bo) K.bo (by exact a0 [_] ak dE ak dT al cM.2.1) (by exact a0 [_,_,_] (aq ak au) af ak af al (eR cM.1)) (jF (ch:=97+l) ?_ ?_ ⟨_,aH.ag (k:=8) (mL R),?_⟩)))))))
  .refine U X<|jW (l:=l) aO ?_ ?_ ?_ ?_ ?_ <;> decide+kernel
  .exact U X (jX (BL aO (by decide)))
  let ae:V:=τ.N2 8 (.ab (.str (dB BQ l)))
  obtain⟨cW,b6,_⟩:=K.bF.ns;have b9:=g.Pj;have cj:=g.Pl;have b:=K.aa;refine aQ (ez (eb (aw (k:=2) (v:=.bh a.OQ aB) (mL R) K.z ⟨_,u,cf.N4 (c:=c.a5 L) D.bF.cp b6 D.bF.Qe D.bF.ga D.bF.gt FO.Sk (by decide+kernel),a1.N4 (c:=c.a5 L) D.bF.Qe.2,aI (WT.be (Q:=λv σ'=>v=.ab (.str (dB (f.contains e.2.2) l))/\σ'=ae) ?_ λv σ' hv=>?_)⟩)))
  .refine hN (ca (aw (k:=7) (v:=.ab (.str e.2.2)) (mL R) R (aw (k:=3) (mL R) K.T (n3 (da:=.str e.2.2) (ds:=f.map .str) .ab .aK (by simp[DW]) ⟨_,R,λac=>?_,λac=>?_⟩))))
   .rw[jK]at ac;refine fe (self:=u) (.ag (k:=8) (v:=.ab (.str (dB BQ l))) (mL R) R) (cf.Ov Nl Nb) (a1.Oe _) .a6 (wi ?_ ?_ ⟨?_,R⟩)
    .refine(?_:1<=1000000);decide
    .refine U bc ?_;rw[ac]at bb;exact bb
    .exact U bc (U ac R)
   .rw[jK]at ac;refine aw (k:=8) (v:=.ab (.str (dB BQ l))) (mL R) R ⟨?_,R⟩;exact U ac R
  obtain⟨rfl,rfl⟩:=hv;refine aI (aw (k:=7) (v:=.ab (.str e.2.2)) (mL R) R (bn (ce (WK.NW (WC.Of (ts (c:=c.a5 L) (d:=d+2) (σ:=ae) (rv:=BQ) D.bF D.PO (K.bF.bM R R) (by exact a0 [_] ak dE ak dT al cM.2.2.1) ?_ ⟨an.cZ,an.RA⟩ an.Rw bU (λT σ' ai T ck t=>?_) (λh=>nomatch h)))))))
  .refine(?_:1<=1000);decide
  have ai:σ'.aa=r.aa+1:=ai;have t:=t;refine aQ (ez (d3 (v:=.ref a.OS.1) (mG 2 R R) (a1.N4 (c:=c.a5 L) D.OS) (.ar (i:=ah) (v:=.aP (ah+2)) ao ((t _ (by exact D0 ‹_›) (by exactλo=>nf (aV [_,_] gO af af ak a7 c8 al b (eR o)))).trans K.cl) (.ag (k:=7) (v:=.ab (.str e.2.2)) (mL R) R (.Oh (i:=0) (.ar (i:=ah+1) (v:=.ab (.int S.bp)) A ((t _ (by exact e1 ‹_›) (by exactλo=>nf (aV [_,_] gO af af aC a7 c8 al b (eR o)))).trans K.Q) .a6)))) (WK.NW (zV (c:=c.a5 L) (d:=d+2) (σ:=σ'.N1 ae) (ds:=S.bo.map .str) (p:=pL S.bo e.2.2) (lo:=0) (hi:=S.bp) D.OS.OM D.PI D.O5.OM D.Pd D.B D.PQ (by exact aV [_,_,_,_] (aq ak au) bG bG af ak af al (eR cM.1) (eR bf)) (Cm _) ((t _ (by exact e1 ‹_›) (by exactλo=>nf (aV [_,_] gO af af (ct 0 2) a7 c8 al b (eR o)))).trans K.bo) (by exact aV [_,_] af dE ak af ak dT al cM.2.1 (eL bf)) (λay σ Q j y aJ aL=>ph ay σ Q j y aJ aL) ?_))))
  have bg:∀i,i<ah->i≠aW->J ((ah+2,bL.aN (d5 (S.bo.map .str) (dg (pL S.bo e.2.2) (S.bo.map B1).length 0 S.bp) (.str e.2.2)))::σ'.aj) i=J r.aj i:=λi hi cq=>by
   exact aS (by exact b7 ‹_›) (t i cq (by exactλo=>nf (cI [_,_,_] gO af bV ak af au a7 c8 al b hi (eR o))))
  let aR:V:=⟨σ'.aa,(ah+2,.aN (d5 (S.bo.map .str) (dg (pL S.bo e.2.2) (S.bo.map B1).length 0 S.bp) (.str e.2.2)))::σ'.aj,ae.ag⟩
  have bi:ei aR I ap aE S.a5:=K.cz.bM λi hi=>bg i (g.Oa i hi) λq=>g.QF (q▸hi);obtain⟨cX,cs,_⟩:=bi.ns;refine aQ (ez (fe (self:=u) (.ag (k:=1) (v:=.bh a.nC I.j) (mL R) K.d8) (cf.N4 (c:=c.a5 L) D.n.cp cs D.n.Qy D.n.ga D.n.gt FO.Sj (by decide+kernel)) (a1.N4 (c:=c.a5 L) D.n.Qy.2) (.ag (k:=7) (v:=.ab (.str e.2.2)) (mL R) R .a6) (WK.NW (WC.Of (r8 (c:=c.a5 L) (d:=d+3) (σ:=aR) D.n bi (by exact a0 [_] ak dE ak dT al cM.2.2.2) (λF cx cA aY=>?_))))));have c1:=g.Oa I.f (.tail _ (.tail _ (.tail _ (.tail _ (.tail _ (.head _))))));have aY:=aY.trans ai;have n:∀i,i<r.aa+1->i≠I.f->J F.aj i=J aR.aj i:=λi hi cB=>cA.aj i (by refine(?_:i<σ'.aa);exact aV [_,_,_] bV af aC bV aC af al (eR ai) hi) λh=>cB (BO.mp h)
  have bj:J F.aj (ah+1)=H (.ar (H (.ab (.int S.bp)))):=by
   refine BK (n _ (by(simp <;> exact a0 [_,_] gO af aC af al b)) (by exact e1 ‹_›)) ?_;refine aS (by exact bK R)<|(t _ (by exact e1 ‹_›) (by exactλo=>nf (aV [_,_] gO af af aC a7 c8 al b (eR o)))).trans K.Q
  refine aQ (ki (pX (i:=ah+1) A bj (bI (i:=1) (nr ⟨_,aH.ar (i:=ah+1) A bj,bJ ?_⟩))))
  try dsimp only
  have cC:∀i,i<ah->i≠aW->i≠I.f->J ((ah+1,bL.ar (H (.ab (.int (S.bp+1)))))::F.aj) i=J r.aj i:=λi hi h1 h2=>by
   exact aS (by exact b7 ‹_›) ((n i (by exact aV [_,_,_] (ct 2 4) af aC au aC b1 al b hi) h2).trans (bg i hi h1))
  refine bJ (W _ ⟨?_,?_,?_,?_,?_,?_,?_,K.d8,K.z,K.T,K.X,λi hi w=>?_⟩)
  .exact dH aY (Co b)
  .refine aS (by exact dI) ((n _ (by exact a0 [_,_] gO af aC b1 al b) (by exact D0 ‹_›)).trans (aS (by exact dI) ?_));exact(t _ (by exact D0 ‹_›) (by exactλo=>nf (aV [_,_] gO af af ak a7 c8 al b (eR o)))).trans K.cl
  .exact bq _ _ _
  .refine(?_:J ((ah+1,_)::F.aj) (ah+2)=_);refine aS (by exact bK R) ((n _ (by exact a0 [_,_] gO af (aq (ct 0 2) a7) b1 al b) (by exact e1 ‹_›)).trans ((bq _ _ _).trans ?_));exact U (BH ..) (U (kh ..) R)
  .refine(?_:J ((ah+1,_)::F.aj) (ah+3)=_);refine aS (by exact bK R) ((n _ (by exact DF _ ‹_›) (by exact e1 ‹_›)).trans ?_);refine aS (by exact bK R)<|(t _ (by exact e1 ‹_›) (by exact BZ ‹_›)).trans K.bO
  .refine cx.bM λi hi=>?_;have:=g.Oa i hi;exact aS (by exact b7 ‹_›) R
  .refine ck.bM ?_ ?_
   .refine aS (by exact b7 ‹_›) ((n _ (by exact aV [_,_,_] aC au (ct 2 4) af aC b1 al b9 b) (λq=>g.QX (q▸(.tail _ (.tail _ (.tail _ (.tail _ (.tail _ (.head _))))))))).trans (aS (by exact b7 ‹_›) R))
   .refine aS (by exact b7 ‹_›) ((n _ (by exact aV [_,_,_] aC au (ct 2 4) af aC b1 al cj b) (λq=>g.QF (q▸(.tail _ (.tail _ (.tail _ (.tail _ (.tail _ (.head _))))))))).trans (aS (by exact b7 ‹_›) R))
  .refine(cC i hi ?_ ?_).trans (K.dU i hi w)
   .exactλq=>w (q▸(.tail _ (.tail _ (.tail _ (.head _)))))
   .exactλq=>w (q▸(.tail _ (.tail _ (.head _))))
theorem jp(h:j≠i):J (σ.dropO i).aj j=J σ.aj j:=by
 exact BK (kY ..) ((if_neg h))
variable{aB aW:Nat}
theorem yz(D:cP c a){I:cO}{ap:Int}{aE:List O}{j:Nat}{b:List Ev}{g:List O}(aL:∀s∈aE,s.length=1)(aO:aE.length<=800)(T:J σ.aj j=H (.aN (b.map eA)))(z:b.length<=30)(aR:∀e∈b,m1 e.2.2)(aY:g.length<=30)
  (aZ:∀k e,b[k]?=H e->ps (dR g b k) e)(F:hg I aB aW σ.aa)(ax:j∉[I.j,I.x,I.s,I.m,I.e,I.f]/\j≠aB/\j≠aW)(K:ei σ I ap aE [])(a4:f3 σ aB aW []){Q:Y->V->Prop}
  (h:∀σ' G,ei σ' I ap aE (dR g b b.length).a5->f3 σ' aB aW (dR g b b.length).fl->hE [I.j,I.e,I.f,aW] σ σ'->σ.aa<=G->G<σ'.aa->J σ'.aj G=H (.aN ((dR g b b.length).bO.map .str))->
   Q (.b2 [.aP G,.ab (.list ((dR g b b.length).bO.map λw=>.int (el (dR g b b.length).bo (dR g b b.length).bp w)))]) σ'):WC c (d+5) a.Pf.1 4 [] [.aP j,.bh a.nC I.j,.bh a.OQ aB,.ab (.list (g.map .str))] σ Q X:=by
 refine WC.N5 λa9=>WC.OR ?_;have ba:=a9 _ _ T
 refine e3 D.Pf (j8 a σ.aa a.Pf.1 a.Pf.2) (sw λm m m m m m m m=>by rfl) R ⟨R,R,R,R,R⟩ (e0 (cn:=["cut","line"]) (by decide+kernel) R ⟨D.Rh,D.Rg,D.Rf,trivial⟩ (λq p=>by
  replace p:=eU p;rcases p with rfl|rfl <;> refine(?_:_<σ.aa+2) <;> first|exact Cs (by decide) _|exact DG (by decide))) (.aU (aH.ag (k:=0) (mL R)) (.aU (aH.ag (k:=1) (mL R)) (.aU (aH.ag (k:=2) (mL R)) (.aU (aH.ag (k:=3) (mL R)) (.a6 _))))) λL=>?_
 have bb:(("cut":O),cQ.ar (σ.aa+1))∈(j8 a σ.aa a.Pf.1 a.Pf.2).bN:=mC (.head _);have bf:(("line":O),cQ.ar σ.aa)∈(j8 a σ.aa a.Pf.1 a.Pf.2).bN:=mC (.tail _ (.head _));refine aQ (jL R (hz (aI (ig (bn ⟨[],R,Cm _,aI (bI (aI (ig (bn ⟨[],R,Cm _,bn ⟨(by refine(?_:3<=1000000);decide),_,_,dK.b2,.aU (aH.ar (v₀:=B2) bf ?_) (.aU (aH.ar (v₀:=B2) bb ?_) (.aU (aH.ag (k:=4) (mL R)) (.a6 _))),?_⟩⟩))))⟩)))))
 .refine(?_:J ((σ.aa+3,_)::(σ.aa+2,_)::(σ.aa+1,_)::(σ.aa,_)::σ.aj) σ.aa=_)
  repeat first|exact bq _ _ _|refine aS (bK R) ?_|refine aS dI ?_|refine aS jh ?_
 .refine(?_:J ((σ.aa,_)::(σ.aa+3,_)::(σ.aa+2,_)::(σ.aa+1,_)::(σ.aa,_)::σ.aj) (σ.aa+1)=_)
  repeat first|exact bq _ _ _|refine aS (bK R) ?_|refine aS dI ?_|refine aS jh ?_
 let N:V:=⟨σ.aa+4,(σ.aa+1,.ar (H (.ab (.int 0))))::(σ.aa,.ar (H (.aP (σ.aa+2))))::(σ.aa+3,.aN [])::(σ.aa+2,.aN [])::(σ.aa+1,.ar B2)::(σ.aa,.ar B2)::σ.aj,[(4,.aP (σ.aa+3)),(3,.ab (.list (g.map .str))),(2,.bh a.OQ aB),(1,.bh a.nC I.j),(0,.aP j)]⟩
 have A:∀i,i<σ.aa->J N.aj i=J σ.aj i:=λi hi=>by
  refine(?_:J ((σ.aa+1,_)::(σ.aa,_)::(σ.aa+3,_)::(σ.aa+2,_)::(σ.aa+1,_)::(σ.aa,_)::σ.aj) i=_);simp only[de];exact BK (if_neg (by exact b7 ‹_›)) (BK (if_neg (by exact BZ ‹_›)) (BK (if_neg (by exact b7 ‹_›)) (BK (if_neg (by exact b7 ‹_›)) (BK (if_neg (by exact b7 ‹_›)) ((if_neg (by exact BZ ‹_›)))))))
 have bg:=(A _ ba).trans T;refine A3 ax λa2 bH ef=>?_;clear ax;have r:∀i,i≠j->J (N.dropO j).aj i=J N.aj i:=λi hi=>jp hi;refine aQ (pM (aw (k:=0) (mL R) R ⟨_,N.dropO j,_,λk τ=>j1 a I ap aE aB aW g σ.aa σ.aj j (dR g b k) τ,dm.aN bg,?_,λk x τ W l=>?_,λτ l=>?_⟩))
 .refine⟨BJ _,(r _ (by exact D0 ‹_›)).trans ?_,(r _ (by exact e1 ‹_›)).trans ?_,(r _ (by exact e1 ‹_›)).trans ?_,(r _ (by exact e1 ‹_›)).trans ?_,K.bM λi hi=>(r i (λe=>a2 (e▸hi))).trans (A i (F.Oa i hi)),a4.bM ((r _ (DN bH)).trans (A _ F.Pj)) ((r _ (DN ef)).trans (A _ F.Pl)),R,R,R,R,λi hi ae=>(r i (λe=>ae (by exact U e (.tail _ (.tail _ (.tail _ (.tail _ (.head _)))))))).trans (A i hi)⟩
  .refine(?_:J ((σ.aa+1,_)::(σ.aa,_)::_) σ.aa=_)
   repeat first|exact bq _ _ _|refine aS (bK R) ?_|refine aS dI ?_|refine aS jh ?_
  .exact bq _ _ _
  .refine(?_:J ((σ.aa+1,_)::(σ.aa,_)::(σ.aa+3,_)::(σ.aa+2,_)::_) (σ.aa+2)=_)
   repeat first|exact bq _ _ _|refine aS (bK R) ?_|refine aS dI ?_|refine aS jh ?_
  .refine(?_:J ((σ.aa+1,_)::(σ.aa,_)::(σ.aa+3,_)::(σ.aa+2,_)::_) (σ.aa+3)=_)
   repeat first|exact bq _ _ _|refine aS (bK R) ?_|refine aS dI ?_|refine aS jh ?_
 .obtain⟨bi,ah,rfl⟩:=cY W;obtain⟨e,B,rfl⟩:=cY ah;refine A5 (qL g b k) λaT aX bc cG dG=>?_;have ai:=(BY.mp B).1;obtain⟨bj,bk,eg⟩:=vY D aL aO ⟨aT,by exact cI [_,_,_] af dE ak au bV af ak dE al z aX ai,by exact cI [_,_,_] af dE ak au bV af ak dE al z bc ai,by exact cI [_,_,_] af dE ak au bV af ak dE al z cG ai⟩ (aZ k e B) (aR e (B5 B)) aY F l;refine⟨bj,.b2 R dK.ab bk,eg.be λbl ay p=>?_⟩
  cases bl with
  |aa=>exact(U (nw B) p:j1 a I ap aE aB aW g σ.aa σ.aj j (dR g b (k+1)) ay)
  |eY=>exact(U (nw B) p:j1 a I ap aE aB aW g σ.aa σ.aj j (dR g b (k+1)) ay)
  |eQ=>exact p.elim
  |c0 v=>exact p.elim
 .rw[BH,BH]at l;generalize cM:dR g b b.length=S at l h;have am:=qL g b b.length;rw[cM]at am;refine A5 am λaT aX bc cG dG=>?_;clear am;have t:=l.aa
  let an:V:=τ.NX j (.aN (b.map eA))
  have C:∀i,i≠j->J an.aj i=J τ.aj i:=λi hi=>by exact(aS hi R:J ((j,_)::τ.aj) i=_)
  have ao:=(C _ (by exact e1 ‹_›)).trans l.bO;have bz:(S.bO.map B1).length<=30:=by refine a3 (BH ..) ?_;exact cI [_,_,_,_] af dE (aq au ak) bG bG af ak dE al z (eR aT) aX
  have bu:(Ch ((S.bO.map B1).map Y.ab).length).filterMap (λk=>S.bO[k]?.bind λw=>H (D2 (el S.bo S.bp w)))=S.bO.map λw=>.int (el S.bo S.bp w):=by
   refine U (BH ..) (U (BH ..) (BK (g1 ..) (congrFun (Ee) S.bO)))
  refine aQ (ej (hz (aI (aw (mL R) l.X (aI (e5 (cl:=[("line",σ.aa),("cut",σ.aa+1)]) (by decide+kernel) (by kernel_rfl) (aw (mL R) l.X (gr (names:=["word"]) (gn:=["_law_label"]) (gv:=[.ref a.O9.1]) (f:=λk=>S.bO[k]?.bind λw=>H (.int (el S.bo S.bp w))) (dm.aN (σ:=an) ao) (dQ (cn:=["line","cut"]) ?_ R R ⟨D.Rg,trivial⟩ λq p=>?_) (λm=>R) (by exact a3 (BH ..) (BG ‹_› (DD R))) (λk y aJ W P=>?_) λn t=>.inl (bn ⟨(by refine(?_:2<=1000000);decide),?_⟩)))))))))
  .refine(?_:dp (db _ (az 24).aM) _ _ _=u)
   decide+kernel
  .refine(?_:q.2<τ.aa);replace p:=eU p;rcases p with rfl|rfl <;> first|exact BL (Cs (by decide) _) t|exact BL (DG (by decide)) t
  .obtain⟨bi,ah,rfl⟩:=cY W;obtain⟨w,bv,rfl⟩:=cY ah;have P:=P;have av:∀{i o},i≠j->i≠σ.aa+3->J τ.aj i=H o->J aJ.aj i=H o:=λh1 h2 bx=>P.aj ((jp h2).trans ((C _ h1).trans bx));refine⟨_,.v (aH.ag (k:=0) (cL R)),eT ⟨λm=>?_,λac=>nomatch ac⟩⟩;refine d3 (v:=.ref a.O9.1) (md 0 R R) (a1.N4 (c:=c.a5 L) D.O9) (.ar (i:=σ.aa) (v:=.aP (σ.aa+2)) (cT (.head _)) (av (by exact D0 ‹_›) (by exact dI) l.cl) (.ar (i:=σ.aa+1) (v:=.ab (.int S.bp)) (cT (.tail _ (.head _))) (av (by exact e1 ‹_›) (by exact bK R) l.Q) (.ag (k:=0) (v:=.ab (.str w)) (cL R) R .a6))) (WK.NW (pb (c:=c.a5 L) (d:=d+2) (σ:=aJ.N2 0 (.ab (.str w))) D.O9.OM D.O5.OM D.Pd D.Om.OM D.Pe D.B D.PQ D.P0 (ys:=S.bo) (av (by exact e1 ‹_›) (by exact bK R) l.bo) (by exact aV [_,_] af dE ak af ak dT al z aX) (by exact a0 [_,_,_] (aq ak au) af ak af al (eR aT)) ⟨⟨_,?_,R⟩,P.NW (BJ _) λm m e=>e⟩));simp only[bv,CF]
  .refine U bu<|⟨⟨n,an.aj,σ.ag⟩,⟨R,λi o e=>(m6 (n:=n) ao).aj i o e,λm m e=>e⟩,?_⟩;have t:τ.aa<=n:=t;refine h _ (σ.aa+3) (l.cz.bM λi hi=>C i λe=>a2 (e▸hi)) (l.bF.bM (C _ (DN bH)) (C _ (DN ef))) ⟨(BG (BG (B4 ..) (by assumption:σ.aa+4<=τ.aa)) t:σ.aa<=n),R,λi hi ae=>?_⟩ (by exact B4 ..) (by exact(BL ‹_› ‹_›:_<n)) ao;refine BK (de ..) ?_
   by_cases e:i=j
   .exact BK (if_pos e) (U e T.symm)
   .refine BK (if_neg e)<|l.dU i hi λE=>?_
    rcases CA.mp (show i∈[I.j,I.e,I.f,aW]++[j]from E)with E|E
    .exact ae E
    .exact e (BO.mp E)
noncomputable abbrev bW(a b:O):Bool:=decide (a.cps.toList<b.cps.toList)
noncomputable def g6(l:Nat):O:=⟨#[(if l%2=0 then 65 else 97)+l]⟩
structure BS where
 b5:List O
 bo:List O
 bp:Nat
 cg:List (O×List O)
 bO:List O
 a5:List O
noncomputable abbrev gp(r:O×List O):Cj:=.tuple [.str r.1,.list (r.2.map .str)]
noncomputable def dY(av:List (O×O))(s:BS):List O:=s.b5.filter λw=>(dX av (g6 (el s.bo s.bp w).toNat)).contains w
noncomputable def ec(av:List (O×O))(s:BS):BS:=
 match (dY av s).getLast? with
 |some w=>⟨s.b5.eraseIdx ((s.b5.findIdx? (·==w)).getD 0),kv s.bo w 0 s.bp,s.bp+1,s.cg++[(w,(s.bo.drop s.bp).filter λa=>bW w a)],s.bO,s.a5++[w]⟩
 |none=>if s.bO.length<s.bp then match s.a5 with
  |x::b=>⟨s.b5,jy s.bo x s.bp,s.bp,s.cg,s.bO++[x],b⟩
  |[]=>s else s
noncomputable def cv(av:List (O×O))(names:List O):Nat->BS
 |0=>⟨names,[],0,[],[],[]⟩
 |k+1=>ec av (cv av names k)
structure lK(names:List O)(s:BS):Prop where
 bo:s.bo.length=s.bp+s.bO.length
 a5:s.a5.length+s.bO.length=s.bp
 bp:s.bp+s.b5.length=names.length
 cg:s.cg.length=s.bp
 Oy:∀w,(w∈s.b5\/w∈s.a5\/w∈s.bo)->w∈names
variable{av:List (O×O)}{w:O}
theorem nd{s:BS}(h:(dY av s).getLast?=H w):w∈s.b5:=by
 have:=Jk h;exact(B8.mp this).1
theorem l0{ys:List O}(h:w∈ys):∃j,ys.findIdx? (·==w)=H j/\j<ys.length:=by
 cases e:ys.findIdx? (·==w)with
 |none=>rw[List.findIdx?_eq_none_iff]at e;have:=e w h;simp at this
 |some j=>exact⟨j,R,(E5.mp e).1⟩
theorem rG{ds:List aO}{x w:aO}(h:w∈d5 ds k x):w=x\/w∈ds:=by
 unfold d5 at h;rcases CA.mp h with h|h
 .exact .inr (Fz h)
 .rcases BX.mp h with h|h
  .exact .inl h
  .exact .inr (GR h)
set_option tactic.hygienic true in
theorem lK.Oq{names:List O}{s:BS}(h:lK names s):lK names (ec av s):=by
 unfold ec;split
 .rename_i w d
  have b:=nd d;obtain⟨j,e,c⟩:=l0 b;refine U e ?_;have f:=List.length_eraseIdx_of_lt c;refine⟨?_,?_,?_,?_,λv hv=>?_⟩
  .refine(?_:(kv _ _ _ _).length=s.bp+1+s.bO.length);unfold kv;refine BK (kd ..) (U h.bo ?_);exact Cg (h0 [_,_] (aq (aq ak af) a7) (aq aC af) al) (h0 [_,_] (aq aC af) (aq (aq ak af) a7) al)
  .refine(?_:(s.a5++[w]).length+s.bO.length=s.bp+1);refine U BV (U Dx ?_);have:=h.a5;exact Cg (a0 [_,_,_] (aq ak af) au (aq aC af) bV al (eL this)) (a0 [_,_,_] ak (aq af au) aC (aq b1 au) al (eR this))
  .refine(?_:s.bp+1+(s.b5.eraseIdx _).length=_);exact U f (ye c h.bp)
  .refine(?_:(s.cg++[_]).length=s.bp+1);exact BK BV (U h.cg R)
  .rcases hv with hv|hv|hv
   .exact h.Oy v (.inl (List.mem_of_mem_eraseIdx hv))
   .rcases CA.mp hv with hv|hv
    .exact h.Oy v (.inr (.inl hv))
    .exact U (BO.mp hv) (h.Oy w (.inl b))
   .rcases rG hv with hv|hv
    .exact U hv (h.Oy w (.inl b))
    .exact h.Oy v (.inr (.inr hv))
 .split
  .split
   .rename_i x g ai
    have a:=h.a5;rw[ai]at a;refine⟨?_,?_,h.bp,h.cg,λv hv=>?_⟩
    .refine(?_:(jy _ _ _).length=s.bp+(s.bO++[x]).length);unfold jy;exact BK (kd ..) (U h.bo (U BV R))
    .refine(?_:g.length+(s.bO++[x]).length=s.bp);refine U BV (U Dx ?_);rw[Cd]at a;exact Cg (a0 [_,_,_] (aq aC af) au (aq ak b1) au al (eL a)) (a0 [_,_,_] ak (aq b1 au) ak (aq af bV) al (eR a))
    .rcases hv with hv|hv|hv
     .exact h.Oy v (.inl hv)
     .exact h.Oy v (.inr (.inl (U ai (.tail _ hv))))
     .rcases rG hv with hv|hv
      .exact U hv (h.Oy x (.inr (.inl (U ai (.head _)))))
      .exact h.Oy v (.inr (.inr hv))
   .exact h
  .exact h
theorem AW(av:List (O×O))(names:List O):∀k,lK names (cv av names k):=by
 intro k
 induction k with
 |zero=>
  exact⟨R,R,Ek _,R,λw h=>by rcases h with h|h|h;exact h;cases h;cases h⟩
 |succ k a=>
  exact(a).Oq
theorem vZ{names:List O}(h:ec av (cv av names k)=cv av names k):∀n,k<=n->cv av names n=cv av names k
 |n,a=>by
  induction n with
  |zero=>exact U (Ly.mp a) R
  |succ n b=>
   rcases JX a with a|rfl
   .refine(?_:ec av (cv av names n)=_);exact U (b (Dw ‹_›)) (h)
   .rfl
theorem vr(h:l<5):(g6 l).length<=1000000/\BR (CS (g6 l))=u/\fA h4 (CS (g6 l))=H BQ/\CS (g6 l)=dB BQ l:=by
 refine jW (h) ?_ ?_ ?_ ?_ ?_ <;> decide+kernel
theorem g0{ae:bB}{x:O}{pos' pos:FH}(i:(λenv:E6=>Hp d0 (H (.Name x pos')) pos.line {env with scope:=ae.aM})=λb=>CV BQ)(h:WE c d ae d0 σ (lz ae x Q) X):eK c d ae (.Assign [.Name x pos'] d0 pos) σ Q X:=
 λA g s L Fr e r f j=>EN (WT.NZ h e r f j R (λa bg σ₁ ax bl k l m n o p q=>by
  obtain⟨t,v,w⟩:=q;exact v.O3 e l m n p o λs' z B C=>⟨.aa,bg,t,k.NT z,B,C,.aa,w⟩) λb b y=>y) (congrFun i (ae.N3 g.a L Fr))
structure hA(a:LA)(I:cO)(ap:Int)(aE:List O)(aB aW:Nat)(av:List (O×O))(ah:Nat)(fn:List (Nat×bL))(S:BS)(τ:V):Prop where
 aa:ah+8<=τ.aa
 Q7:J τ.aj ah=H (.ar (H (.bh a.OQ aB)))
 cl:J τ.aj (ah+1)=H (.ar (H (.aP (ah+5))))
 Q:J τ.aj (ah+2)=H (.ar (H (.ab (.int S.bp))))
 Rt:∃v,J τ.aj (ah+3)=H (.ar v)
 b5:J τ.aj (ah+4)=H (.aN (S.b5.map .str))
 bo:J τ.aj (ah+5)=H (.aN (S.bo.map .str))
 cg:J τ.aj (ah+6)=H (.aN (S.cg.map gp))
 bO:J τ.aj (ah+7)=H (.aN (S.bO.map .str))
 cz:ei τ I ap aE S.a5
 bF:f3 τ aB aW av
 d8:J τ.ag 1=H (.bh a.nC I.j)
 z:J τ.ag 2=H (.aP (ah+4))
 T:J τ.ag 3=H (.aP (ah+6))
 X:J τ.ag 4=H (.aP (ah+7))
 dU:∀i,i<ah->i∉[I.j,I.e,I.f]->J τ.aj i=J fn i
noncomputable def gf(a:LA)(n:Nat)(bu cc:M):bB:=eX (az 25).aM ["names","desk","left","run","gone","step"] [("fits",n+3),("cut",n+2),("line",n+1),("table",n)] ["range","len","insort_right","insort_left"] [.type "range",.builtin "len",.ref a.OV.1,.ref a.OS.1] "_law_back" bu cc
structure TabOk(av:List (O×O)):Prop where
 cZ:av.length<=30
 RV:∀p∈av,p.1.length<=1000000/\BR (CS p.1)=u
variable{S:BS}{τ:V}
theorem AA(D:cP c a){I:cO}{ap:Int}{aE:List O}{aB aW ah:Nat}(r:TabOk av)(cM:S.bo.length=S.bp+S.bO.length/\S.bo.length<=30/\S.b5.length<=30)(G:∀w∈S.b5,0<=el S.bo S.bp w/\el S.bo S.bp w<5)(j:hg I aB aW ah)
  (K:hA a I ap aE aB aW av ah fn S τ)
  (h:∀τ',hA a I ap aE aB aW av ah fn S τ'->J τ'.aj (ah+3)=H (.ar (H (.ab (.list ((dY av S).map .str)))))->WS (c.a5 L) (d+4) (gf a ah bu cc) ((ib (az 25).h[1]?).drop 1) τ' Q X):WS (c.a5 L) (d+4) (gf a ah bu cc) (ib (az 25).h[1]?) τ Q X:=by
 have N:(("fits":O),cQ.ar (ah+3))∈(gf a ah bu cc).bN:=mC (.head _);have C:=K.aa;have aL:∀i,J (τ.dropO (ah+4)).aj i=if i=ah+4 then B2 else J τ.aj i:=λi=>kY _ _ _
 have P:(Ch ((S.b5.map B1).map Y.ab).length).filterMap (λk=>S.b5[k]?.bind λw=>if(dX av (g6 (el S.bo S.bp w).toNat)).contains w then H (B1 w)else B2)=(dY av S).map .str:=by
  rw[BH,BH,g1,mo (λ(w:O)=>(dX av (g6 (el S.bo S.bp w).toNat)).contains w)];rfl
 refine aQ (WT.OR (g0 (by kernel_rfl) (e5 (cl:=[("table",ah),("line",ah+1),("cut",ah+2)]) (by decide+kernel) (by kernel_rfl) (aw (mL R) K.z (gr (names:=["word"]) (gn:=["_law_label"]) (gv:=[.ref a.O9.1]) (f:=λk=>S.b5[k]?.bind λw=>if(dX av (g6 (el S.bo S.bp w).toNat)).contains w then H (B1 w)else B2) (dm.aN K.b5) (dQ (cn:=["table","line","cut"]) ?_ R R ⟨D.Rg,trivial⟩ λq x=>?_) (λs=>R) (by refine a3 (BH ..) (a3 (BH ..) ?_);exact a0 [_] ak dE ak dT al cM.2.2) (λk y t T v=>?_) λn E=>.inl ⟨_,aH.ar (v₀:=K.Rt.choose) N ?_,?_⟩)))))
 .refine(?_:dp (db _ (az 25).aM) _ _ _=u)
  decide+kernel
 .refine(?_:q.2<τ.aa);replace x:=il x;rcases x with rfl|rfl|rfl <;> first|exact BL (Cs (by decide) _) C|exact BL (DG (by decide)) C
 .obtain⟨aO,W,rfl⟩:=cY T;obtain⟨w,z,rfl⟩:=cY W;have v:=v;have g:∀{i o},i≠ah+4->J τ.aj i=H o->J t.aj i=H o:=λh1 ae=>v.aj ((jp h1).trans ae);obtain⟨ai,am⟩:=G w (B5 z);obtain⟨l,p⟩:=IZ ai;have A:l<5:=(El (m:=5)).mp (FZ (Ja p.symm) am);refine A4 (vr A) λan ao ax aR=>?_;obtain⟨aT,B,aX⟩:=K.bF.ns;have aY:=j.Pj;have aZ:=j.Pl;refine⟨_,.v (aH.ag (k:=0) (cL R)),iH (ca (aw (k:=0) (cL R) R (eb (bR (cT (.head _)) (g (dI) K.Q7) ⟨_,u,cf.N4 D.bF.cp (g (b7 ‹_›) B) D.bF.Qd D.bF.ga D.bF.gt FO.R2 (by decide+kernel),a1.N4 D.bF.Qd.2,aI (c3 ?_)⟩))))⟩;refine b8<|d3 (md 0 R R) (a1.N4 D.O9) (.ar (cT (.tail _ (.head _))) (g (bK R) K.cl) (.ar (cT (.tail _ (.tail _ (.head _)))) (g (bK R) K.Q) (.ag (k:=0) (cL R) R .a6))) (WK.NW (pb (c:=c.a5 L) D.O9.OM D.O5.OM D.Pd D.Om.OM D.Pe D.B D.PQ D.P0 (g (bK R) K.bo) (a0 [_] ak dE ak dT al cM.2.1) (a0 [_,_,_] (aq ak au) af ak af al (eR cM.1)) (jF ?_ ?_ (bn (ce (WK.NW (WC.Of (pc (c:=c.a5 L) (σ:=t.N2 0 (.ab (.str w))) D.bF (nm:=g6 l) (K.bF.bM (h1:=?_) (h2:=?_)) an ao ax r.RV (by have:=r.cZ;exact BG ‹_› (DD R)) λn ay=>.inl ?_))))))))
  .refine U p<|jW (l:=l) A ?_ ?_ ?_ ?_ ?_ <;> decide+kernel
  .exact U p (jX (BL A (by decide)))
  .exact(g (b7 ‹_›) B).trans B.symm
  .exact(g (b7 ‹_›) K.bF.c).trans K.bF.c.symm
  have F:cD (τ.dropO (ah+4)) ⟨n,t.aj,(t.N2 0 (.ab (.str w))).ag⟩:=v.NW ay λs s e=>e;refine n3 .ab .aK (by simp[DW]) ⟨_,R,λac=>aw (k:=0) (cL R) R ⟨⟨_,?_,R⟩,F⟩,λac=>⟨?_,F⟩⟩
  .rw[jK]at ac;simp only[z,CF,p,Fl];exact(if_pos ac)
  .rw[jK]at ac;simp only[z,CF,p,Fl];exact(if_neg (by refine U ac ?_;decide))
 .refine(?_:J ((ah+4,_)::(τ.dropO (ah+4)).aj) (ah+3)=_);exact aS (bK R) ((jp (bK R)).trans K.Rt.choose_spec)
 .refine U P ?_;have aJ:=m6 (n:=n) K.b5;refine⟨⟨n,(ah+3,.ar (H (.ab (.list ((dY av S).map .str)))))::τ.aj,τ.ag⟩,⟨R,λi o e=>?_,λs s e=>e⟩,h _ ?_ (bq _ _ _)⟩
  .refine(?_:J ((ah+3,_)::(ah+4,_)::(τ.dropO (ah+4)).aj) i=_);have e:=e;rw[de]at e⊢
   by_cases q:i=ah+3
   .rw[if_pos q]at e⊢;exact e
   .rw[if_neg q]at e⊢;exact aJ.aj i o e
  .have E:=E;have b:∀i,i≠ah+3->J ((ah+3,bL.ar (H (.ab (.list ((dY av S).map .str)))))::τ.aj) i=J τ.aj i:=λi hi=>aS hi R;refine⟨(BL ‹_› ‹_›:ah+8<=n),(b _ (dI)).trans K.Q7,(b _ (bK R)).trans K.cl,(b _ (bK R)).trans K.Q,⟨_,bq _ _ _⟩,(b _ (bK R)).trans K.b5,(b _ (bK R)).trans K.bo,(b _ (bK R)).trans K.cg,(b _ (bK R)).trans K.bO,K.cz.bM λi hi=>b i ?_,K.bF.bM (b _ ?_) (b _ ?_),K.d8,K.z,K.T,K.X,λi hi r=>(b i (b7 ‹_›)).trans (K.dU i hi r)⟩
   .have:=j.Oa i hi;exact b7 ‹_›
   .have:=j.Pj;exact b7 ‹_›
   .have:=j.Pl;exact b7 ‹_›
noncomputable def tC(o:Option DZ):List DZ:=o.elim [] λs=>(jP s).2.1
noncomputable def vD(o:Option DZ):List DZ:=o.elim [] λs=>(jP s).2.2
theorem ve(D:cP c a){I:cO}{ap:Int}{aE:List O}{aB aW ah:Nat}{m:List O}(cM:S.bo.length=S.bp+S.bO.length/\S.bo.length<=30/\S.b5.length<=30/\S.a5.length<=30/\S.cg.length<=30)(aJ:dY av S=m++[w])(o:hg I aB aW ah)
  (K:hA a I ap aE aB aW av ah fn S τ)(p:J τ.aj (ah+3)=H (.ar (H (.ab (.list ((dY av S).map .str))))))
  (h:∀τ',hA a I ap aE aB aW av ah fn (ec av S) τ'->Q .aa τ'):WS (c.a5 L) (d+4) (gf a ah bu cc) (tC (ib (az 25).h[1]?)[1]?) τ Q X:=by
 have B:(("fits":O),cQ.ar (ah+3))∈(gf a ah bu cc).bN:=mC (.head _);have C:(("cut":O),cQ.ar (ah+2))∈(gf a ah bu cc).bN:=mC (.tail _ (.head _));have ay:(("line":O),cQ.ar (ah+1))∈(gf a ah bu cc).bN:=mC (.tail _ (.tail _ (.head _)));have l:=K.aa
 have bD:m.length<=30:=by
  have:(dY av S).length<=S.b5.length:=CI ..;rw[aJ,BV,Dx]at this;exact aV [_,_] af dE aC af ak dE al cM.2.2.1 this
 have aL:(dY av S).getLast?=H w:=by refine U aJ ?_;simp
 have bc:=nd aL;obtain⟨aO,aR,bH⟩:=l0 bc
 have bf:ec av S=⟨S.b5.eraseIdx aO,kv S.bo w 0 S.bp,S.bp+1,S.cg++[(w,(S.bo.drop S.bp).filter λb=>bW w b)],S.bO,S.a5++[w]⟩:=by
  unfold ec;refine U aL ?_;refine(?_:BS.mk _ _ _ _ _ _=_);exact U aR R
 rw[bf]at h;rw[aJ,Cb]at p;have s:(m.map B1).length<=9999:=a3 (BH ..) (BG ‹_› (DD R));have E:(S.bo.map B1).length=S.bo.length:=BH _;have bg:e7 (S.bo.map B1) (H (S.bp:Int)) B2 B2=(S.bo.drop S.bp).map .str:=BK (pY ..) (bP EZ R)
 have aY:(Ch (((S.bo.drop S.bp).map B1).map Y.ab).length).filterMap (λk=>(S.bo.drop S.bp)[k]?.bind λb=>if bW w b then H (B1 b)else B2)=((S.bo.drop S.bp).filter λb=>bW w b).map .str:=by
  rw[BH,BH,g1,mo (λ(b:O)=>bW w b)]
 generalize bQ:((S.bo.drop S.bp).filter λb=>bW w b)=ae at aY h;refine aQ (ez (eb (aw (mL R) K.T ⟨_,u,cf.aN K.cg CT CY,a1.Oe _,aI (gB (aI (jt (bR B p ⟨m.map .str,.str w,.aK,s,aI (e5 (cl:=[("fits",ah+3)]) (by decide+kernel) (by kernel_rfl) (gu (bR ay K.cl (gk (bR C K.Q (dS (dS (gQ (.bm K.bo) (.Oh _) .none .none nofun (aV [_,_] af dE ak af ak dD al cM.2.1 (eL E)) (.inl (U bg ?_))))))))))⟩))))⟩)));refine gr (names:=["one"]) (gn:=[]) (gv:=[]) (f:=λk=>(S.bo.drop S.bp)[k]?.bind λb=>if bW w b then H (B1 b)else B2) (dm.NW et.O1) (dQ (cn:=["fits"]) ?_ R R trivial λq ai=>?_) (λF=>R) (by refine a3 (BH ..) (a3 (BH ..) (a3 Dh ?_));(simp <;> exact a0 [_,_] ak dE ak (aq dT af) al cM.2.1)) (λk y bS bi t=>?_) λn g=>.inl (bn ⟨[.str w,.list (ae.map .str)],?_,(by refine(?_:2<=1000000);decide),bn (ce (iD (x:=gp (w,ae)) K.cg (by refine a3 (BH ..) ?_;exact a0 [_] ak dE ak (nA 999999) al cM.2.2.2.2) ?_))⟩)
 .refine(?_:dp (db _ (az 25).aM) _ _ _=u)
  decide+kernel
 .refine(?_:q.2<τ.aa);refine U (BO.mp ai) ?_;refine(?_:ah+3<_);exact a0 [_,_] ff af (aq (ct 0 3) a7) af al l
 .obtain⟨bU,bj,rfl⟩:=cY bi;obtain⟨b,aZ,rfl⟩:=cY bj;have t:=t;refine⟨_,.v (aH.ag (k:=0) (cL R)),iH (ca (aw (k:=0) (cL R) R (jt (bR (cT (.head _)) (t.aj p) ⟨m.map .str,.str w,.aK,s,oV ⟨_,R,λac=>aw (k:=0) (cL R) R ⟨⟨_,?_,R⟩,t.NW (BJ _) λF F e=>e⟩,λac=>⟨?_,t.NW (BJ _) λF F e=>e⟩⟩⟩))))⟩
  .simp only[aZ,CF];exact(if_pos ac)
  .simp only[aZ,CF];exact(if_neg (by unfold bW;refine U ac ?_;decide))
 .exact U aY R
 have g:=g;have b6:=o.Oa I.f (.tail _ (.tail _ (.tail _ (.tail _ (.tail _ (.head _))))))
 let G:=((ah+6,bL.aN (S.cg.map gp++[gp (w,ae)]))::τ.aj)
 have N:∀i,i≠ah+6->J G i=J τ.aj i:=λi hi=>(aS hi R:J ((ah+6,_)::τ.aj) i=_);refine aQ (ez (eb (aw (mL R) K.z ⟨_,u,cf.aN ((N _ (bK R)).trans K.b5) H4 Nd,a1.Oe _,aI (jt (bR B ((N _ (bK R)).trans p) ⟨m.map .str,.str w,.aK,s,bn (ce (wC ((N _ (bK R)).trans K.b5) aR (a0 [_] ak dE ak (nA 999999) al cM.2.2.1) ?_))⟩))⟩)))
 let am:=((ah+4,bL.aN ((S.b5.eraseIdx aO).map .str))::G)
 have v:∀i,i≠ah+4->i≠ah+6->J am i=J τ.aj i:=λi hi z=>(aS hi (N i z):J ((ah+4,_)::G) i=_);refine aQ (ez (dJ (dr (mG 2 R R) ⟨a1.N4 D.OV,aI (bR ay ((v _ (bK R) (bK R)).trans K.cl) (aI (jt (bR B ((v _ (bK R) (bK R)).trans p) ⟨m.map .str,.str w,.aK,s,aI (bI (aI (bR C ((v _ (bK R) (bK R)).trans K.Q) (bn (ce (WK.NW (xt (c:=c.a5 L) (lo:=0) D.OV.OM D.PE D.Om.OM D.Pe D.B D.P0 (aV [_,_,_,_] (aq ak au) bG bG af ak af al (eR cM.1) (eR E)) (Cm _) ((v _ (bK R) (bK R)).trans K.bo) (aV [_,_] af dE ak af ak dT al cM.2.1 (eL E)) (λbk σ Q j y bl ai=>qc bk σ Q j y bl ai) ?_)))))))⟩))))⟩)))
 let A:=((ah+5,bL.aN (d5 (S.bo.map .str) (dg (pR S.bo w) (S.bo.map B1).length 0 S.bp) (.str w)))::am)
 have P:∀i,i≠ah+4->i≠ah+5->i≠ah+6->J A i=J τ.aj i:=λi an ao z=>(aS ao (v i an z):J ((ah+5,_)::am) i=_)
 have a4:ei ⟨n,A,τ.ag⟩ I ap aE S.a5:=K.cz.bM λi hi=>by
  have:=o.Oa i hi;exact P i (b7 ‹_›) (b7 ‹_›) (b7 ‹_›)
 obtain⟨b9,bv,_⟩:=a4.ns;refine aQ (ez (eb (aw (mL R) K.d8 ⟨_,u,cf.N4 D.n.cp bv D.n.Qy D.n.ga D.n.gt FO.Sj (by decide+kernel),a1.N4 D.n.Qy.2,aI (jt (bR B ((P _ (bK R) (bK R) (bK R)).trans p) ⟨m.map .str,.str w,.aK,s,bn (ce (WK.NW (WC.Of (r8 (c:=c.a5 L) (σ:=⟨n,A,τ.ag⟩) D.n a4 (a0 [_] ak dE ak dT al cM.2.2.2.1) (λT bx bz ax=>?_)))))⟩))⟩)));have ax:T.aa=n:=ax;have a9:∀i,i<n->i≠I.f->J T.aj i=J A i:=λi hi bC=>bz.aj i hi λh=>bC (BO.mp h);have ba:=(a9 _ (by exact aV [_,_,_] ff au au af (aq (ct 0 2) a7) af al l g) (e1 ‹_›)).trans ((P _ (bK R) (bK R) (bK R)).trans K.Q);refine aQ (ki (pX C ba (bI (nr ⟨_,aH.ar C ba,?_⟩))))
 have W:∀i,i<n->i≠I.f->i≠ah+2->J ((ah+2,bL.ar (H (.ab (.int (S.bp+1)))))::T.aj) i=J A i:=λi hi h1 h2=>by
  exact aS h2 (a9 i hi h1)
 have r:=λi hi h1 h2 an ao z=>(W i hi h1 h2).trans (P i an ao z);have aT:=o.Pj;have aX:=o.Pl;refine bJ (h _ ⟨by refine(?_:ah+8<=T.aa);exact cI [_,_,_,_] ff au au bG bG af ff af al l g (eR ax),(r _ (by exact aV [_,_,_] ff au au af aC af al l g) (D0 ‹_›) (dI) (dI) (dI) (dI)).trans K.Q7,(r _ (by exact aV [_,_,_] ff au au af (aq aC a7) af al l g) (e1 ‹_›) (bK R) (bK R) (bK R) (bK R)).trans K.cl,bq _ _ _,⟨_,(r _ (by exact aV [_,_,_] ff au au af (aq (ct 0 3) a7) af al l g) (e1 ‹_›) (bK R) (bK R) (bK R) (bK R)).trans p⟩,(W _ (by exact aV [_,_,_] ff au au af (aq gO a7) af al l g) (e1 ‹_›) (bK R)).trans ?_,(W _ (by exact aV [_,_,_] ff au au af (aq (ct 0 5) a7) af al l g) (e1 ‹_›) (bK R)).trans ?_,(W _ (by exact aV [_,_,_] ff au au af (aq (ct 0 6) a7) af al l g) (e1 ‹_›) (bK R)).trans ?_,(r _ (BL ‹_› ‹_›) (e1 ‹_›) (bK R) (bK R) (bK R) (bK R)).trans K.bO,bx.bM λi hi=>?_,K.bF.bM (r _ (cI [_,_,_,_] (ct 2 8) bG bG af aC au aC af al l g aT) (λq=>o.QX (q▸(.tail _ (.tail _ (.tail _ (.tail _ (.tail _ (.head _)))))))) (b7 ‹_›) (b7 ‹_›) (b7 ‹_›) (b7 ‹_›)) (r _ (cI [_,_,_,_] (ct 2 8) bG bG af aC au aC af al l g aX) (λq=>o.QF (q▸(.tail _ (.tail _ (.tail _ (.tail _ (.tail _ (.head _)))))))) (b7 ‹_›) (b7 ‹_›) (b7 ‹_›) (b7 ‹_›)),K.d8,K.z,K.T,K.X,λi hi bb=>(r i (cI [_,_,_,_] (ct 2 8) bG bG af aC au aC af al l g hi) (λq=>bb (q▸(.tail _ (.tail _ (.head _))))) (b7 ‹_›) (b7 ‹_›) (b7 ‹_›) (b7 ‹_›)).trans (K.dU i hi bb)⟩)
 .refine(?_:J ((ah+5,_)::(ah+4,_)::G) (ah+4)=_);exact aS (bK R) (bq _ _ _)
 .refine(bq _ _ _).trans<|U E (U (kh ..) R)
 .refine(?_:J ((ah+5,_)::(ah+4,_)::(ah+6,_)::τ.aj) (ah+6)=_);refine aS (bK R) (aS (bK R) ((bq _ _ _).trans ?_));exact U Cb R
 .have:=o.Oa i hi;exact aS (b7 ‹_›) R
theorem Al(D:cP c a){I:cO}{ap:Int}{aE:List O}{aB aW ah:Nat}{x:O}{t:List O}(B:∀s∈aE,s.length=1)(C:aE.length<=800)(cM:S.bo.length=S.bp+S.bO.length/\S.bo.length<=30/\S.a5.length<=30/\S.bO.length<=30)(v:S.a5=x::t)(g:hg I aB aW ah)
  (K:hA a I ap aE aB aW av ah fn S τ)
  (h:∀τ',hA a I ap aE aB aW av ah fn ⟨S.b5,jy S.bo x S.bp,S.bp,S.cg,S.bO++[x],t⟩ τ'->Q .aa τ'):WS (c.a5 L) (d+4) (gf a ah bu cc) (tC (vD (ib (az 25).h[1]?)[1]?)[0]?) τ Q X:=by
 have E:(("cut":O),cQ.ar (ah+2))∈(gf a ah bu cc).bN:=mC (.tail _ (.head _));have F:(("line":O),cQ.ar (ah+1))∈(gf a ah bu cc).bN:=mC (.tail _ (.tail _ (.head _)));have b:=K.aa;obtain⟨log,G,_⟩:=K.cz.ns;have o:(S.bo.map B1).length=S.bo.length:=BH _;have w:(S.bO.map B1).length=S.bO.length:=BH _;refine aQ (ez (eb (aw (mL R) K.X ⟨_,u,cf.aN K.bO CT CY,a1.Oe _,aI (fe (.ag (mL R) K.d8) (cf.N4 D.n.cp G D.n.Pr D.n.ga D.n.gt FO.Q5 (by decide+kernel)) (a1.N4 D.n.Pr.2) .a6 (WK.NW (WC.Of (mA (c:=c.a5 L) D.n K.cz B C (a0 [_] ak dE ak dT al cM.2.2.1) (λp am m σ' N z=>?_) (λm=>absurd m (by refine U v ?_;exact nofun))))))⟩)));replace m:=v.symm.trans m;cases m;have an:=z.aa;have A:=z.aj;have e:∀k,ah<=k->k∉[I.j,I.e,I.f]:=λk P=>se g.Oa P;refine bn (ce (iD ((A _ ‹_› (e _ (B4 ..))).trans K.bO) (aV [_,_] af dE ak af ak (nA 999999) al cM.2.2.2 (eL w)) ?_))
 let q:=(ah+7,bL.aN (S.bO.map .str++[.str x]))::σ'.aj
 have n:∀i,i<τ.aa->i∉[I.j,I.e,I.f]->i≠ah+7->J q i=J τ.aj i:=λi hi l r=>(aS r (A i hi l):J ((ah+7,_)::σ'.aj) i=_);refine aQ (ez (dJ (dr (mG 3 R R) ⟨a1.N4 D.OS,aI (bR F ((n _ (by exact a0 [_,_] ff af (aq aC a7) af al b) (e _ (by exact Cr _)) (bK R)).trans K.cl) (aI (jt (aw (mL R) K.X ⟨S.bO.map .str,.str x,.bm (bq _ _ _),aV [_,_] af dE ak af ak (nA 9999) al cM.2.2.2 (eL w),aI (bR E ((n _ (by exact a0 [_,_] ff af (aq (ct 0 2) a7) af al b) (e _ (B4 ..)) (bK R)).trans K.Q) (bn (ce (WK.NW (zv D.OS.OM D.PI D.O5.OM D.Pd D.B D.PQ (aV [_,_,_,_] (aq ak au) bG bG af ak af al (eR cM.1) (eR o)) ((n _ (by exact a0 [_,_] ff af (aq (ct 0 5) a7) af al b) (e _ (B4 ..)) (bK R)).trans K.bo) (aV [_,_] af dE ak af ak dT al cM.2.1 (eL o)) (λT σ Q j y W ac=>ph T σ Q j y W ac) ?_)))))⟩))))⟩)))
 let ae:=(ah+5,bL.aN (d5 (S.bo.map .str) (dg (pL S.bo x) (S.bo.map B1).length S.bp (S.bo.map B1).length) (.str x)))::q
 have f:∀i,i<τ.aa->i∉[I.j,I.e,I.f]->i≠ah+7->i≠ah+5->J ae i=J τ.aj i:=λi hi l r ai=>(aS ai (n i hi l r):J ((ah+5,_)::q) i=_);have aT:=g.Pj;have aX:=g.Pl;refine bJ (h _ ⟨(BL ‹_› ‹_›:ah+8<=σ'.aa),(f _ (by exact a0 [_,_] ff af aC af al b) (e _ (BJ _)) (dI) (dI)).trans K.Q7,(f _ (by exact a0 [_,_] ff af (aq aC a7) af al b) (e _ (by exact Cr _)) (bK R) (bK R)).trans K.cl,(f _ (by exact a0 [_,_] ff af (aq (ct 0 2) a7) af al b) (e _ (B4 ..)) (bK R) (bK R)).trans K.Q,⟨_,(f _ (by exact a0 [_,_] ff af (aq (ct 0 3) a7) af al b) (e _ (B4 ..)) (bK R) (bK R)).trans K.Rt.choose_spec⟩,(f _ (by exact a0 [_,_] ff af (aq gO a7) af al b) (e _ (B4 ..)) (bK R) (bK R)).trans K.b5,?_,(f _ (Cz ‹_›) (e _ (B4 ..)) (bK R) (bK R)).trans K.cg,?_,N.bM λi hi=>?_,K.bF.bM (f _ (aV [_,_,_] (ct 2 8) af aC au aC af al b aT) (hg.RC g.QX) (b7 ‹_›) (b7 ‹_›)) (f _ (aV [_,_,_] (ct 2 8) af aC au aC af al b aX) (hg.RC g.QF) (b7 ‹_›) (b7 ‹_›)),K.d8,K.z,K.T,K.X,λi hi l=>(f i (aV [_,_,_] (ct 2 8) af aC au aC af al b hi) l (b7 ‹_›) (b7 ‹_›)).trans (K.dU i hi l)⟩)
 .refine(bq _ _ _).trans<|U o (U (kh ..) R)
 .refine(?_:J ((ah+5,_)::(ah+7,_)::σ'.aj) (ah+7)=_);refine aS (bK R)<|(bq _ _ _).trans<|U Cb R
 .have:=g.Oa i hi;exact aS (b7 ‹_›) (aS (b7 ‹_›) R)
theorem z5(D:cP c a){I:cO}{ap:Int}{aE:List O}{aB aW ah:Nat}{names:List O}(A:∀s∈aE,s.length=1)(B:aE.length<=800)(C:TabOk av)(i:lK names S)(b:names.length<=10)(l:S.bO.length<=S.bp)(E:∀w∈S.b5,0<=el S.bo S.bp w/\el S.bo S.bp w<5)(m:hg I aB aW ah)
  (K:hA a I ap aE aB aW av ah fn S τ)
  (h:∀τ',hA a I ap aE aB aW av ah fn (ec av S) τ'->Q .aa τ')(F:∀τ',ec av S=S->hA a I ap aE aB aW av ah fn S τ'->Q .eQ τ'):WS (c.a5 L) (d+4) (gf a ah bu cc) (ib (az 25).h[1]?) τ Q X:=by
 have G:(("fits":O),cQ.ar (ah+3))∈(gf a ah bu cc).bN:=mC (.head _);have N:(("cut":O),cQ.ar (ah+2))∈(gf a ah bu cc).bN:=mC (.tail _ (.head _));have j:=i.bo;have g:=i.a5;have f:=i.bp;have P:=i.cg;have n:S.bp<=10:=BG (BG (B4 ..) (eL f)) b;have o:S.bo.length<=30:=a3 j (BG (Df n (BG l n)) (by decide));refine AA D C ⟨j,o,aV [_,_,_] af eO (aq au ak) af ak dE al b (eL f)⟩ E m K λτ' K' v=>?_;have T:(dY av S).length<=S.b5.length:=CI ..;refine aQ (cU (gN (bR G v (oH .aK (by refine a3 (BH ..) ?_;exact cI [_,_,_,_] af eO (aq au bG) af ak bG ak dD al b (eL f) T) ⟨λao=>?_,λaJ=>?_⟩))))
 .have W:dY av S≠[]:=λe=>by rw[e]at ao;cases ao
  obtain⟨y,w,aJ⟩:∃y w,dY av S=y++[w]:=⟨_,_,(List.dropLast_concat_getLast W).symm⟩;refine ve D ⟨j,o,aV [_,_,_] af eO (aq au ak) af ak dE al b (eL f),cI [_,_,_,_,_] af eO (aq ak au) bG (aq bG f7) af ak dE al b (eL g) (eL f),cI [_,_,_,_] af eO (aq au bG) af ak au ak dE al b (eL f) (eL P)⟩ aJ m K' v λac p=>?_;exact bJ (h _ p)
 .have ae:dY av S=[]:=by
   cases e:dY av S with
   |nil=>rfl
   |cons=>rw[e]at aJ;cases aJ
  have z:(dY av S).getLast?=B2:=U ae R;have q:(S.bO.map B1).length=S.bO.length:=BH _;refine aQ (cU (ca (d3 (mG 1 R R) (a1.Oe _) (.ag (mL R) K'.X .a6) (iG (.bm K'.bO) (jq [_,_,_,_,_] af eO au bG (aq bG f7) af ak au ak dD al b l (eL f) (eL q)) (bR N K'.Q (jx ⟨_,R,λao=>?_,λk=>?_⟩))))))
  .rw[q]at ao;have ao:S.bO.length<S.bp:=by simpa using ao
   cases r:S.a5 with
   |nil=>rw[r]at g;simp at g;exact absurd g (BZ ao)
   |cons x ai=>
    have t:ec av S=⟨S.b5,jy S.bo x S.bp,S.bp,S.cg,S.bO++[x],ai⟩:=by
     unfold ec;refine U z ?_;show(if _ then _ else _)=_;exact BK (if_pos ao) (U r R)
    rw[t]at h;refine Al D A B ⟨j,o,cI [_,_,_,_,_] af eO (aq ak au) bG (aq bG f7) af ak dE al b (eL g) (eL f),BG l (BG n (by decide))⟩ r m K' λac p=>?_
    exact bJ (bJ (h _ p))
  .rw[q]at k;have k:¬S.bO.length<S.bp:=by simpa using k
   have t:ec av S=S:=by
    unfold ec;refine U z ?_;show(if _ then _ else _)=_;exact(if_neg k)
   exact aQ (y3 (F _ t K'))
theorem tw(D:cP c a){I:cO}{ap:Int}{aE:List O}{names:List O}(y:∀s∈aE,s.length=1)(z:aE.length<=800)(o:TabOk av)(r:names.length<=10)(A:∀k,∀w∈(cv av names k).b5,0<=el (cv av names k).bo (cv av names k).bp w/\el (cv av names k).bo (cv av names k).bp w<5)
  (g:hg I aB aW σ.aa)(K:ei σ I ap aE [])(B:f3 σ aB aW av){Q:Y->V->Prop}
  (h:∀σ' j l m S,S=cv av names (2*names.length)->ei σ' I ap aE S.a5->f3 σ' aB aW av->hE [I.j,I.e,I.f] σ σ'->(σ.aa<=j/\j<σ'.aa/\J σ'.aj j=H (.aN (S.cg.map gp)))->(σ.aa<=l/\l<σ'.aa/\J σ'.aj l=H (.aN (S.bO.map .str)))->(σ.aa<=m/\m<σ'.aa/\J σ'.aj m=H (.aN (S.b5.map .str)))->
   Q (.b2 [.aP j,.aP l,.aP m]) σ'):WC c (d+5) a.OW.1 3 [] [.ab (.list (names.map .str)),.bh a.nC I.j,.bh a.OQ aB] σ Q X:=by
 refine WC.N5 λan=>?_
 refine e3 D.OW (gf a σ.aa a.OW.1 a.OW.2) (tb λe e e e e e e=>by rfl) R ⟨R,R,R,R,R⟩ (e0 (cn:=["fits","cut","line","table"]) (by decide+kernel) R ⟨D.QU,D.B.cZ,D.Rh,D.Rf,trivial⟩ (λq p=>by
  replace p:=iO p;rcases p with rfl|rfl|rfl|rfl <;> refine(?_:_<σ.aa+4) <;> first|exact Cs (by decide) _|exact DG (by decide))) (.aU (aH.ag (k:=0) (mL R)) (.aU (aH.ag (k:=1) (mL R)) (.aU (aH.ar (v₀:=B2) (mC (.tail _ (.tail _ (.tail _ (.head _))))) ?_) (.a6 _)))) λL=>?_
 .refine(?_:J ((σ.aa+3,_)::(σ.aa+2,_)::(σ.aa+1,_)::(σ.aa,_)::σ.aj) σ.aa=_)
  repeat first|exact bq _ _ _|refine aS (bK R) ?_|refine aS dI ?_|refine aS jh ?_
 have C:(("cut":O),cQ.ar (σ.aa+2))∈(gf a σ.aa a.OW.1 a.OW.2).bN:=mC (.tail _ (.head _));have E:(("line":O),cQ.ar (σ.aa+1))∈(gf a σ.aa a.OW.1 a.OW.2).bN:=mC (.tail _ (.tail _ (.head _)));refine aQ (jL (xs:=["left","line","cut","run","gone"]) R (hz (aI (gu (aw (k:=0) (mL R) R (dS (dS (dS (gQ .aK .none .none .none nofun (U (BH ..) (BG ‹_› (DD R))) (.inr ?_))))))))));refine U (sy ..)<|aI (ig (bn ⟨[],R,Cm _,aI (bI (aI (ig (bn ⟨[],R,Cm _,aI (ig (bn ⟨[],R,Cm _,bn ⟨(by refine(?_:5<=1000000);decide),_,_,dK.b2,.aU (aH.ag (k:=2) (mL R)) (.aU (aH.ar (v₀:=B2) E ?_) (.aU (aH.ar (v₀:=B2) C ?_) (.aU (aH.ag (k:=3) (mL R)) (.aU (aH.ag (k:=4) (mL R)) (.a6 _))))),?_⟩⟩))⟩))))⟩))
 .refine(?_:J ((σ.aa+7,_)::(σ.aa+6,_)::(σ.aa+5,_)::(σ.aa+4,_)::(σ.aa,_)::(σ.aa+3,_)::(σ.aa+2,_)::(σ.aa+1,_)::(σ.aa,_)::σ.aj) (σ.aa+1)=_)
  repeat first|exact bq _ _ _|refine aS (bK R) ?_|refine aS dI ?_|refine aS jh ?_
 .refine(?_:J ((σ.aa+1,_)::(σ.aa+7,_)::(σ.aa+6,_)::(σ.aa+5,_)::(σ.aa+4,_)::(σ.aa,_)::(σ.aa+3,_)::(σ.aa+2,_)::(σ.aa+1,_)::(σ.aa,_)::σ.aj) (σ.aa+2)=_)
  repeat first|exact bq _ _ _|refine aS (bK R) ?_|refine aS dI ?_|refine aS jh ?_
 let F:List (Nat×bL):=(σ.aa+2,.ar (H (.ab (.int 0))))::(σ.aa+1,.ar (H (.aP (σ.aa+5))))::(σ.aa+7,.aN [])::(σ.aa+6,.aN [])::(σ.aa+5,.aN [])::(σ.aa+4,.aN (names.map .str))::(σ.aa,.ar (H (.bh a.OQ aB)))::(σ.aa+3,.ar B2)::(σ.aa+2,.ar B2)::(σ.aa+1,.ar B2)::(σ.aa,.ar B2)::σ.aj
 let f:V:=⟨σ.aa+8,F,[(4,.aP (σ.aa+7)),(3,.aP (σ.aa+6)),(2,.aP (σ.aa+4)),(1,.bh a.nC I.j),(0,.ab (.list (names.map .str)))]⟩
 have n:∀i,i<σ.aa->J f.aj i=J σ.aj i:=λi hi=>by
  refine(?_:J ((σ.aa+2,_)::(σ.aa+1,_)::(σ.aa+7,_)::(σ.aa+6,_)::(σ.aa+5,_)::(σ.aa+4,_)::(σ.aa,_)::(σ.aa+3,_)::(σ.aa+2,_)::(σ.aa+1,_)::(σ.aa,_)::σ.aj) i=_);simp only[de];exact U (if_neg (b7 ‹_›)) (U (if_neg (b7 ‹_›)) (U (if_neg (b7 ‹_›)) (U (if_neg (b7 ‹_›)) (U (if_neg (b7 ‹_›)) (U (if_neg (b7 ‹_›)) (U (if_neg (BZ ‹_›)) (U (if_neg (b7 ‹_›)) (BK (if_neg (b7 ‹_›)) (BK (if_neg (b7 ‹_›)) ((if_neg (BZ ‹_›))))))))))))
 have G:hA a I ap aE aB aW av σ.aa σ.aj (cv av names 0) f:=by
  refine⟨BJ _,?_,?_,?_,⟨B2,?_⟩,?_,?_,?_,?_,K.bM λi hi=>n i (g.Oa i hi),B.bM (n _ g.Pj) (n _ g.Pl),R,R,R,R,λi hi e=>n i hi⟩
  all_goals (refine(?_:J ((σ.aa+2,_)::(σ.aa+1,_)::(σ.aa+7,_)::(σ.aa+6,_)::(σ.aa+5,_)::(σ.aa+4,_)::(σ.aa,_)::(σ.aa+3,_)::(σ.aa+2,_)::(σ.aa+1,_)::(σ.aa,_)::σ.aj) _=_);repeat first|exact bq _ _ _|refine aS (bK R) ?_|refine aS dI ?_|refine aS jh ?_)
 have N:(2:Int)*((names.map B1).length:Int)=((2*names.length:Nat):Int):=U (BH ..) R
 have t:∀τ,hA a I ap aE aB aW av σ.aa σ.aj (cv av names (2*names.length)) τ->WS (c.a5 L) (d+4) (gf a σ.aa a.OW.1 a.OW.2) ((az 25).h.drop 2) τ (λP f=>Q P.QB (f.N1 σ)) (λx f=>X x (f.N1 σ)):=λτ b=>by
  have T:=b.aa;refine aQ (ej (hz (aI (aw (mL R) b.T (aI (aw (mL R) b.X (aI (aw (mL R) b.z (bn ⟨(by refine(?_:3<=1000000);decide),?_⟩)))))))));exact h _ (σ.aa+6) (σ.aa+7) (σ.aa+4) _ R (b.cz.bM λe e=>R) (b.bF.bM R R) ⟨(BG (B4 ..) ‹_›:σ.aa<=τ.aa),R,λi hi o=>b.dU i hi o⟩ ⟨B4 ..,(Cz ‹_›:_<τ.aa),b.cg⟩ ⟨B4 ..,by refine(?_:_<τ.aa);assumption,b.bO⟩ ⟨B4 ..,by refine(?_:_<τ.aa);exact a0 [_,_] ff af (aq gO a7) af al T,b.b5⟩
 refine aQ (nH (dJ (dr (mG 0 R R) ⟨a1.PA _,aI (b4 (bI (d3 (mG 1 R R) (a1.Oe _) (.ag (k:=0) (mL R) R .a6) (iG .aK (a3 (BH ..) (BG ‹_› (DD R))) (sj ?_ ?_)))))⟩)))
 .exact Ha (DD R)
 .refine U N<|bn (ce (kR ⟨_,λk τ=>k<=2*names.length/\hA a I ap aE aB aW av σ.aa σ.aj (cv av names k) τ,et.fv (CP (G7 2 r) (by decide)),⟨Cm _,G⟩,λk x τ W⟨ac,b⟩=>⟨_,.v (aH.ag (k:=5) (mL R)),?_⟩,λτ ae=>?_⟩))
  .have ah:k<2*names.length:=by
    have:=(BY.mp W).1;rw[BH,Ct]at this;exact this
   have v:=AW av names k;have ai:(cv av names k).bO.length<=(cv av names k).bp:=by have:=v.a5;exact a0 [_,_,_] (aq au ak) af ak af al (eL this)
   refine z5 D y z o v r ai (A k) g ⟨b.aa,b.Q7,b.cl,b.Q,b.Rt,b.b5,b.bo,b.cg,b.bO,b.cz.bM λe e=>R,b.bF.bM R R,b.d8,b.z,b.T,b.X,b.dU⟩ (λτ' K'=>⟨ah,K'⟩) (λτ' am K'=>t _ (U (vZ am _ ac) K'))
  .obtain⟨_,b⟩:=ae;rw[BH,Ct]at b;exact t _ b
noncomputable abbrev jQ(g:O)(ys:List O):O:=De g ys
noncomputable def eh(l:Nat):O:=⟨#[(if l%2=0 then 97 else 65)+l]⟩
noncomputable def gM(av:List (O×O))(l:Nat):O:=jQ B0 ((dX av (eh l)).map λn=>"(\\"++n)
noncomputable def fM(av:List (O×O))(a:Nat):List O:=(Ch a).map (gM av)
noncomputable def iU(av:List (O×O))(a:Nat)(b cx c:O):O:=b++jQ ")" (fM av (a-1))++")"++cx++gM av (a-1)++c
theorem zY(n:Nat):He n (-1)=n-1:=by
 cases n with
 |zero=>rfl
 |succ n=>
  refine(?_:(K7 0 (ME (if(-1:Int)<0 then -1+((n+1:Nat):Int)else _) ((n+1:Nat):Int))).toNat=n);have e:-1+((n+1:Nat):Int)=n:=(Jb (-1) _).trans mQ;exact U (if_pos (by decide)) (U e (U (Int.min_eq_left (Hv.mpr (Cr n))) (U (Int.max_eq_right (C5 n)) (Fl n))))
theorem yA(xs:List aO):e7 xs B2 (H (-1)) B2=xs.dropLast:=by
 refine BK (oc ..) (bP List.dropLast_eq_take ?_);refine(?_:(xs.drop 0).take (He xs.length (-1)-0)=_);exact U Ih (U (I9 ..) (U (zY ..) R))
theorem Aa(av:List (O×O))(m:Nat):fM av (m+1)=fM av m++[gM av m]:=by
 unfold fM;exact U GH (Cb)
theorem q4(h:l<5):(eh l).length<=1000000/\BR (CS (eh l))=u/\fA h4 (CS (eh l))=H BQ/\CS (eh l)=dB BQ l:=by
 refine jW (h) ?_ ?_ ?_ ?_ ?_ <;> decide+kernel
structure i7(av:List (O×O)):Prop extends TabOk av where
 QB:∀p∈av,p.2.length<=10/\BR p.2=u
theorem hF(a b:O):(a++b).length=a.length+b.length:=BK (eF ..) (U (gX ..) (BK BV (br (eF ..) (br (eF ..) R))))
theorem ny{a b:O}{m n:Nat}(h:a.length<=m)(k:b.length<=n):(a++b).length<=m+n:=U (hF ..) (Df h k)
theorem l3{a b m n:Nat}(h:a<=m)(k:b<=n)(e:Ic (m+n) 1000000=u):a+b<=1000000:=BG (Df h k) (DD e)
variable{b:O}
theorem jd{a:O}(h1:BR a=u)(h2:BR b=u):BR (a++b)=u:=by
 exact BK (ko ..) (U (gX ..) (BK List.all_append (br (ko ..) (br (ko ..) (U h1 (U h2 R))))))
theorem lZ(h:i7 av)(l:Nat):(∀y∈(dX av (eh l)).map (λn=>("(\\"++n:O)),y.length<=12/\BR y=u)/\((dX av (eh l)).map (λn=>("(\\"++n:O))).length<=30/\(gM av l).length<=360/\BR (gM av l)=u:=by
 have h1:∀y∈(dX av (eh l)).map (λn=>("(\\"++n:O)),y.length<=12/\BR y=u:=λy a=>by
  obtain⟨n,b,rfl⟩:=B7.mp a;obtain⟨p,ai,rfl⟩:=B7.mp b;obtain⟨c,d⟩:=h.QB p (B8.mp ai).1;refine U (hF ..)<|⟨?_,jd (by decide+kernel) d⟩;exact a0 [_] ak eO (aq (nA 2) ak) (nA 12) al c
 have h2:((dX av (eh l)).map (λn=>("(\\"++n:O))).length<=30:=by
  refine a3 (BH ..) ?_;unfold dX;refine a3 (BH ..) ?_;exact BG (CI ..) h.cZ
 refine A3 (jB (g:=B0) h1 (by decide+kernel) h2 (DD R)) λi e f=>?_
 exact⟨h1,h2,BG f (DD R),e⟩
noncomputable def px(n:Nat)(bu cc:M):bB:=eX (az 26).aM ["many","pieces","tail","parts"] [("table",n)] [] [] "_law_text" bu cc
theorem wI(D:cP c a){aB aW ah:Nat}{b:Nat}(w:b=4\/b=5)(s:i7 av)(aL:J τ.aj ah=H (.ar (H (.bh a.OQ aB))))(A:ah<τ.aa)(p:f3 τ aB aW av)(B:J τ.ag 0=H (.ab (.int b)))
  (h:∀n,τ.aa<=n->WS (c.a5 L) (d+4) (px ah bu cc) ((az 26).h.drop 1) ⟨n,τ.aj,(3,.ab (.list ((fM av b).map .str)))::τ.ag⟩ Q X):WS (c.a5 L) (d+4) (px ah bu cc) (az 26).h τ Q X:=by
 have C:lp "aBcDe" B2 (H (b:Int))=⟨((Ch b).map λl=>(if l%2=0 then 97 else 65)+l).toArray⟩:=by
  rcases w with rfl|rfl <;> decide+kernel
 have E:jc (lp "aBcDe" B2 (H (b:Int)))=(Ch b).map λl=>.ab (.str (eh l)):=by
  refine U C ?_;unfold jc;exact CJ
 have F:(Ch ((Ch b).map λl=>Y.ab (.str (eh l))).length).filterMap (λk=>H (B1 (gM av k)))=(fM av b).map .str:=by
  refine U (BH ..) (U Ct ?_);unfold fM;refine bP CJ<|congrFun (Ee) _
 have ay:b<=5:=w.elim (λe=>a3 e (by decide)) λe=>a3 e (by decide)
 refine aQ (WT.OR (kc (cl:=[("table",ah)]) (by decide+kernel) (by kernel_rfl) (by kernel_rfl) (gu ?_)));refine b8<|dS (gk (aw (mL R) B (dS (oO .none (.Oh _) (by decide+kernel) (gr (names:=["letter"]) (gn:=[]) (gv:=[]) (f:=λk=>H (B1 (gM av k))) (dm.NW (xs:=(Ch b).map λl=>.ab (.str (eh l))) ?_) (dQ (cn:=["table"]) ?_ R R trivial λq t=>?_) (λi=>R) (a3 (BH ..) (a3 Ct (BG ‹_› (DD R)))) (λk y aE G o=>?_) λn I=>.inl ⟨_,aH.ag (k:=3) (mL R),?_⟩)))))
 .exact br E et.Ov
 .refine(?_:dp (db _ (az 26).aM) _ _ _=u)
  decide+kernel
 .refine(?_:q.2<τ.aa);exact U (BO.mp t) A
 .obtain⟨m,r,rfl⟩:=cY G
  have K:k<b/\m=k:=by
   have h1:=(BY.mp r).1;rw[Ct]at h1;replace r:=(ES h1).symm.trans r;exact⟨h1,(CO r).symm⟩
  obtain⟨aJ,rfl⟩:=K;have o:=o;refine A4 (q4 (show m<5 by exact BL ‹_› ‹_›)) λN P S i=>?_
  refine A4 (lZ s m) λcx di eS e9=>?_;obtain⟨aO,v,aR⟩:=p.ns;refine⟨_,.v (aH.ag (k:=0) (cL R)),eT ⟨λi=>?_,λac=>nomatch ac⟩⟩;refine eb ?_;refine b8 (x:=B0)<|⟨_,u,cf.Ov DO D9,a1.Oe _,aI (e5 (cl:=[]) (by decide+kernel) (by kernel_rfl) (fe (.ar (cT (.head _)) (o.aj aL)) (cf.N4 D.bF.cp (o.aj v) D.bF.Qd D.bF.ga D.bF.gt FO.R2 (by decide+kernel)) (a1.N4 D.bF.Qd.2) (.ag (k:=0) (cL R) R .a6) (WK.NW (WC.Of (pc (c:=c.a5 L) D.bF (p.bM ((o.aj v).trans v.symm) ((o.aj p.c).trans p.c.symm)) N P S s.RV (by have:=s.cZ;exact BG ‹_› (DD R)) λn T=>.inl ?_)))))⟩
  have aT:(((dX av (eh m)).map B1).map Y.ab).length<=30:=by
   refine a3 (BH ..) (a3 (BH ..) ?_);rw[BH]at di;exact di
  have W:(Ch (((dX av (eh m)).map B1).map Y.ab).length).filterMap (λj=>(dX av (eh m))[j]?.bind λn=>H (B1 ("(\\"++n)))=((dX av (eh m)).map (λn=>("(\\"++n:O))).map .str:=by
   refine U (BH ..) (U (BH ..) (BK (g1 ..) (bP CJ (congrFun (Ee) _))))
  refine gr (names:=["name"]) (gn:=[]) (gv:=[]) (f:=λj=>(dX av (eh m))[j]?.bind λn=>H (B1 ("(\\"++n))) (dm.NW et.O1) (dQ ?_ R R trivial λq t=>nomatch t) (λi=>R) (BG ‹_› (DD R)) (λj y aX ae ai=>?_) λaY am=>.inl ?_
  .refine(?_:dp (db _ (db _ (az 26).aM)) _ _ _=u)
   decide+kernel
  .obtain⟨aZ,an,rfl⟩:=cY ae;obtain⟨nm,z,rfl⟩:=cY an;have:=cx ("(\\"++nm) (B7.mpr ⟨nm,B5 z,R⟩);refine⟨_,.v (aH.ag (k:=0) (cL R)),eT ⟨λi=>b4 ?_,λac=>nomatch ac⟩⟩;refine b8<|aw (k:=0) (cL R) R (gm (by refine br (hF ..) ?_;exact a0 [_] ak (nA 12) ak dD al this.1) ⟨⟨_,?_,R⟩,cD.NW ai (BJ _) λi i e=>e⟩);simp only[z,CF]
  .refine U W<|A3 (jB (g:=B0) cx (by decide+kernel) di (DD R)) λao ap ax=>?_
   refine bn (ce (li .aK ao ap (BG ax (DD R)) ⟨⟨_,R,R⟩,o.NW (BG T am) λi i e=>e⟩))
 .refine U F<|⟨_,⟨R,λi i e=>e,λi i e=>e⟩,h n I⟩
theorem sC(D:cP c a){f:Nat}(t:f=4\/f=5)(w:i7 av)(r:f3 σ aB aW av){p cx s:O}(C:p.length<=10)(E:cx.length<=10)(S:s.length<=10){Q:Y->V->Prop}
  (h:∀n,σ.aa<=n->Q (.ab (.str (iU av f p cx s))) ⟨n,σ.aj,σ.ag⟩):WC c (d+5) a.Pt.1 4 [] [.bh a.OQ aB,.ab (.int f),.ab (.list [.str p,.str cx]),.ab (.str s)] σ Q X:=by
 refine WC.N5 λF=>WC.OR<|e3 D.Pt (px σ.aa a.Pt.1 a.Pt.2) (sw λb b b b b b b b=>by rfl) R ⟨R,R,R,R,R⟩ (e0 (cn:=["table"]) (by decide+kernel) R trivial (λq T=>by exact U (BO.mp T) (B3 _))) (.aU (aH.ar (mC (.head _)) (bq _ _ _)) (.aU (aH.ag (k:=0) (mL R)) (.aU (aH.ag (k:=1) (mL R)) (.aU (aH.ag (k:=2) (mL R)) (.a6 _))))) λL=>?_
 have z:∀{i o},J σ.aj i=H o->J ((σ.aa,bL.ar (H (.bh a.OQ aB)))::(σ.aa,.ar B2)::σ.aj) i=H o:=λe=>by
  exact aS (BZ (F _ _ e)) (aS (BZ (F _ _ e)) e)
 obtain⟨am,G,an⟩:=r.ns;refine wI D t w (bq _ _ _) (B3 _) (r.bM ((z G).trans G.symm) ((z r.c).trans r.c.symm)) R λn W=>?_;obtain⟨m,rfl⟩:∃m,f=m+1:=t.elim (λe=>⟨3,e⟩) λe=>⟨4,e⟩;have A:(fM av m).length=m:=by unfold fM;exact BK (BH ..) (Ct)
 have B:m<=5:=Eo (t.elim (λe=>a3 e (by decide)) λe=>a3 e (by decide):m+1<=5);have I:(fM av (m+1)).map B1=(fM av m).map .str++[.str (gM av m)]:=by exact U (Aa ..) (Cb)
 refine A4 (lZ w m) λb b bc b=>?_
 obtain⟨ac,ae,K⟩:=jB (g:=")") (ys:=fM av m) (N:=5) (λy ah=>by
  obtain⟨l,_,rfl⟩:=B7.mp ah;exact(lZ w l).2.2) (by decide+kernel) (a3 A B) (by decide+kernel)
 have P:(jQ ")" (fM av m)).length<=1805:=BG K (by decide+kernel);have c7:(")":O).length=1:=by decide+kernel
 have bU:=ny C P;have eo:=ny bU (eL c7);have fo:=ny eo E;have ai:=ny fo bc;refine aQ (ej (b4 (b4 (b4 (b4 (b4 (c3 (aw (k:=1) (mL R) R (bI (gl (j:=0) .aK R R (by refine(?_:2<=1000000);decide) ?_))))))))));refine eb ?_;refine b8<|⟨_,u,cf.Ov DO D9,a1.Oe _,aI (gu (aw (k:=3) (mL R) R (dS (gk (lj (bI (kU (dS (gQ .aK .none (.Oh _) .none nofun (by refine U I (U BV (U (BH ..) ?_));exact BG (Kq (a3 A B)) (by decide)) (.inl ?_))))))))))⟩;refine U (yA ..) (U I (U List.dropLast_concat (bn (ce (li .aK ac ae (BG K (by decide+kernel)) (gm (l3 C P R) ?_))))));refine b8<|gm (l3 bU (eL c7) R) ?_;refine c3 (aw (k:=1) (v:=.ab (.list [.str p,.str cx])) (mL R) R (bI (i:=1) (gl (ds:=[.str p,.str cx]) (j:=1) (x:=.str cx) .aK R R (by refine(?_:2<=1000000);decide) ?_)));refine gm (l3 eo E R) ?_;refine jt (aw (k:=3) (v:=.ab (.list ((fM av m).map .str++[.str (gM av m)]))) (mL R) R ⟨(fM av m).map .str,.str (gM av m),.aK,a3 (BH ..) (BG (a3 A B) (by decide)),?_⟩);refine gm (l3 fo bc R) ?_;refine aw (k:=2) (v:=.ab (.str s)) (mL R) R (gm (l3 ai S R) ?_);exact⟨⟨n,σ.aj,σ.ag⟩,⟨R,λi o e=>z e,λb b e=>e⟩,h n (BG (Cr _) W)⟩
noncomputable def gI(a:List O)(b:O):Nat:=(a.findIdx? (·==b)).getD 0
structure mX(gw:List (O×Cj))(order:List O)(k s s':Nat)(w:O)(more:List O):Prop where
 le:s<=s'
 Su:∀one∈more,one∈order/\gI order one+1<=s'
 TT:s'=s\/∃one∈more,s'=gI order one+1
 RK:∀aZ:List O,aZ.Perm ((order.take s').filter λone=>bW w one)->KR aZ=u->aZ=more
 dV:gw.lookup w=H (.int ((((order.take k).filter λone=>bW one w).length+more.length:Nat):Int))
noncomputable def iX(n:Nat)(bu cc:M):bB:=eX (az 27).aM ["labels","run","more","shut","k","lesser"] [("order",n+1),("word",n)] ["range","len","max","sorted"] [.type "range",.builtin "len",.builtin "max",.builtin "sorted"] "_law_way" bu cc
structure lw(gw:List (O×Cj))(cS:List (O×List O))(ri ah oi:Nat)(fn:List (Nat×bL))(s:Nat)(τ:V):Prop where
 aa:ah+2<=τ.aa
 cw:∃v,J τ.aj ah=H (.ar v)
 QE:J τ.aj (ah+1)=H (.ar (H (.aP oi)))
 Qw:J τ.aj oi=H (.aN ((cS.map (·.1)).map .str))
 Rp:ah+1<oi
 Rx:oi<τ.aa
 cg:J τ.aj ri=H (.aN (cS.map gp))
 D:J τ.ag 0=H (.c5 gw)
 d8:J τ.ag 1=H (.aP ri)
 T:J τ.ag 3=H (.ab (.int s))
 dU:∀i,i<ah->J τ.aj i=J fn i
variable{gw:List (O×Cj)}{cS:List (O×List O)}
theorem zQ(D:cP c a){A ah B:Nat}{s s':Nat}{g:List O}(G:cS[k]?=H (w,g))(aL:cS.length<=10)(I:g.length<=10)(eg:mX gw (cS.map (·.1)) k s s' w g)(aO:A<ah)
  (K:lw gw cS A ah B fn s τ)(N:J τ.ag 4=H (.ab (.int k)))
  (h:∀τ',lw gw cS A ah B fn s' τ'->J τ'.ag 4=H (.ab (.int k))->J τ'.ag 2=H (.ab (.list (g.map .str)))->J τ'.aj ah=H (.ar (H (.ab (.str w))))->WS (c.a5 L) (d+1) (iX ah bu cc) ((ib (az 27).h[1]?).drop 2) τ' Q X):WS (c.a5 L) (d+1) (iX ah bu cc) (ib (az 27).h[1]?) τ Q X:=by
 have aR:(("order":O),cQ.ar (ah+1))∈(iX ah bu cc).bN:=mC (.head _);have ai:(("word":O),cQ.ar ah)∈(iX ah bu cc).bN:=mC (.tail _ (.head _));have am:=(BY.mp G).1;have P:=K.Rx;have r:=K.Rp;refine aQ (jL R (c3 (aw (mL R) K.d8 (aw (mL R) N (gl (j:=k) (x:=gp (w,g)) (.bm K.cg) ?_ ?_ (a3 (BH ..) (BG ‹_› (DD R))) ⟨_,_,dK.ab,.aU (aH.ar ai K.cw.choose_spec) (.aU (aH.ag (k:=2) (mL R)) (.a6 _)),?_⟩)))))
 .rw[BH];exact he am
 .exact BK Ck (U G R)
 let C:=(ah,bL.ar (H (.ab (.str w))))::τ.aj
 have o:∀i,i≠ah->J C i=J τ.aj i:=λi hi=>(aS hi R:J ((ah,_)::τ.aj) i=_)
 let S:V:=⟨τ.aa,C,(2,.ab (.list (g.map .str)))::τ.ag⟩
 have an:(g.map B1).length=g.length:=BH _
 have ao:(Ch ((g.map B1).map Y.ab).length).filterMap (λj=>g[j]?.bind λb=>H (D2 ((gI (cS.map (·.1)) b+1:Nat):Int)))=(g.map λb=>((gI (cS.map (·.1)) b+1:Nat):Int)).map .int:=by
  refine U (BH ..) (U (BH ..) (BK (g1 ..) (bP CJ (congrFun (Ee) _))))
 refine aQ (WT.OR (dh (dJ (dr (mG 2 R R) ⟨a1.Oe _,aI (b4 (ho (aI (aw (k:=3) (mL R) K.T (bn ⟨[.int s],R,(by refine(?_:1<=1000000);decide),?_⟩))))) ?_⟩))))
 .refine e5 (cl:=[("order",ah+1)]) (by decide+kernel) (by kernel_rfl) (aw (k:=2) (v:=.ab (.list (g.map .str))) (mL R) R (gr (names:=["one"]) (gn:=[]) (gv:=[]) (f:=λj=>g[j]?.bind λb=>H (D2 ((gI (cS.map (·.1)) b+1:Nat):Int))) (dm.NW (σ:=S) et.O1) (dQ (cn:=["order"]) ?_ R R trivial λq ap=>?_) (λp=>R) (by refine a3 (BH ..) ?_;exact aV [_,_] af eO ak af ak dT al I (eL an)) (λj y aT av t=>?_) λn E=>.inl ?_))
  .refine(?_:dp (db _ (az 27).aM) _ _ _=u)
   decide+kernel
  .refine(?_:q.2<τ.aa);refine U (BO.mp ap) ?_;refine(?_:ah+1<_);exact aV [_,_,_] bV af (aq aC a7) au (aq aC a7) af al P r
  .obtain⟨aW,ax,rfl⟩:=cY av;obtain⟨b,l,rfl⟩:=cY ax;have t:=t;obtain⟨ay,aX⟩:=eg.Su b (B5 l);obtain⟨aB,T,aY⟩:=l0 ay;have aE:gI (cS.map (·.1)) b=aB:=by unfold gI;exact U T R
   refine⟨_,.v (aH.ag (k:=0) (cL R)),eT ⟨λp=>b4 ?_,λac=>nomatch ac⟩⟩;refine fe (.ar (cT (.head _)) (t.aj ((o _ (by exact jh)).trans K.QE))) (cf.aN (t.aj ((o _ (by exactλz=>nf (aV [_,_] (aq aC a7) af af ak a7 c8 al r (eL z)))).trans K.Qw)) Ik Nf) (a1.Oe _) (.ag (k:=0) (cL R) R .a6) (uK (t.aj ((o _ (by exactλz=>nf (aV [_,_] (aq aC a7) af af ak a7 c8 al r (eL z)))).trans K.Qw)) T (a3 (BH ..) (BG ‹_› (DD R))) (bI (iw ⟨⟨_,?_,R⟩,t.NW (BJ _) λp p e=>e⟩)));simp only[l,CF,aE];rfl
  .refine U ao<|oa .aK .aK (by refine U (BH ..) (U (BH ..) ?_);refine(?_:1+_<=_);exact a0 [_] ak eO (aq a7 ak) dD al I) (.inl (bn (ce (xA (ns:=(s:Int)::g.map λb=>((gI (cS.map (·.1)) b+1:Nat):Int)) .aK nofun λm F W=>⟨_,aH.ag (k:=3) (mL R),?_⟩))))
   have aJ:m=(s':Int):=by
    have h1:=W _ (.head _);have h2:=λb l=>W _ (.tail _ (B7.mpr ⟨b,l,R⟩))
    have ae:m<=s':=by
     rcases BX.mp F with rfl|F
     .exact_mod_cast eg.le
     .obtain⟨b,l,rfl⟩:=B7.mp F;exact_mod_cast(eg.Su b l).2
    rcases eg.TT with e|⟨b,l,e⟩
    .rw[←e]at h1;exact KA ae h1
    .have:=h2 b l;rw[←e]at this;exact KA ae this
   subst aJ;have E:=E;refine⟨⟨n,C,(3,.ab (.int s'))::S.ag⟩,⟨R,λp p e=>e,λp p e=>e⟩,h _ ⟨by refine(?_:ah+2<=n);exact cI [_,_,_,_] bV bG (aq aC a7) au bG af (ct 0 2) af al P r E,⟨_,bq _ _ _⟩,(o _ (by exact jh)).trans K.QE,(o _ (by exactλz=>nf (aV [_,_] (aq aC a7) af af ak a7 c8 al r (eL z)))).trans K.Qw,r,(BL ‹_› ‹_›:B<n),(o _ (BZ ‹_›)).trans K.cg,K.D,K.d8,R,λi hi=>(o i (BZ ‹_›)).trans (K.dU i hi)⟩ N R (bq _ _ _)⟩
 .intros;rfl
variable{xs:List Cj}{B:Nat}
theorem qW(h:∀x∈xs,x.depth<=B):HC xs<=B:=by
 induction xs with
 |nil=>simp[HC]
 |cons x xs a=>
  have h1:=h x (.head _);have h2:=a λy b=>h y (.tail _ b);simp only[HC];exact Nat.max_le.mpr ⟨h1,h2⟩
theorem lb(h:∀x∈xs,x.depth<=B):(GK xs).depth<=B+1:=by
 have:=qW h;simp only[DW];exact Dk ‹_›
theorem ml(h:∀x∈xs,x.depth<=B):(PyData.tuple xs).depth<=B+1:=by
 have:=qW h;simp only[DW];exact Dk ‹_›
theorem h8(xs:List O):(GK (xs.map .str)).depth<=2:=lb λx a=>by
 obtain⟨y,_,rfl⟩:=B7.mp a;simp[DW]
theorem yY(xs ys:List O):Ko (xs.map .str) (ys.map .str)=decide (xs=ys):=by
 induction xs generalizing ys with
 |nil=>cases ys with
  |nil=>exact(decide_eq_true R).symm
  |cons _ _=>exact(decide_eq_false nofun).symm
 |cons x xs a=>cases ys with
  |nil=>exact(decide_eq_false nofun).symm
  |cons y ys=>
   refine(?_:(decide (x=y)&&Ko (xs.map .str) (ys.map .str))=_);refine U (a ..) (hn (Bool.decide_and ..) (decide_eq_decide.mpr ⟨λh=>U h.1 (U h.2 R),GL⟩))
theorem tu(xs ys:List O):Gm (.list (xs.map .str)) (.list (ys.map .str))=decide (xs=ys):=by
 rw[Gm,yY]
theorem AR(D:cP c a){A ah B:Nat}{s s':Nat}{o:List O}(r:cS.length<=10)(W:o.length<=10)(eg:mX gw (cS.map (·.1)) k s s' w o)(aT:A<ah)
  (K:lw gw cS A ah B fn s' τ)(ay:J τ.ag 4=H (.ab (.int k)))(h2:J τ.ag 2=H (.ab (.list (o.map .str))))(C:J τ.aj ah=H (.ar (H (.ab (.str w)))))
  (h:∀τ',lw gw cS A ah B fn s' τ'->Q .aa τ'):WS (c.a5 L) (d+1) (iX ah bu cc) ((ib (az 27).h[1]?).drop 2) τ Q X:=by
 have ae:(("order":O),cQ.ar (ah+1))∈(iX ah bu cc).bN:=mC (.head _);have aB:(("word":O),cQ.ar ah)∈(iX ah bu cc).bN:=mC (.tail _ (.head _));have x:=K.Rx;have z:=K.Rp;have am:((cS.map (·.1)).map B1).length=cS.length:=BK (BH ..) ((BH ..));have an:∀b:Nat,e7 ((cS.map (·.1)).map B1) B2 (H (b:Int)) B2=((cS.map (·.1)).take b).map .str:=λb=>BK (ob ..) (bP EF R)
 have ao:∀b:Nat,((((cS.map (·.1)).take b).map B1).map Y.ab).length<=10:=λb=>by
  refine a3 (BH ..) (a3 (BH ..) (a3 CM (U (BH ..) ?_)));exact aV [_,_] af eO ak af ak eO al r (Da _ _)
 have ap:∀(b:Nat)(p:O->Bool),(Ch ((((cS.map (·.1)).take b).map B1).map Y.ab).length).filterMap (λj=>((cS.map (·.1)).take b)[j]?.bind λg=>if p g then H (B1 g)else B2)=(((cS.map (·.1)).take b).filter p).map .str:=λb p=>by
  exact U (BH ..) (U (BH ..) (BK (g1 ..) ((mo ..))))
 generalize E:((cS.map (·.1)).take k).filter (λg=>bW g w)=a4
 have av:a4.length<=10:=by
  refine br E<|Nat.le_trans (CI ..)<|a3 CM (U (BH ..) ?_);exact aV [_,_] af eO ak af ak eO al r (Da _ _)
 refine aQ (WT.OR (kc (cl:=[("word",ah)]) (by decide+kernel) (by kernel_rfl) (by kernel_rfl) (gu (bR ae K.QE (dS (gk (aw (mL R) ay (dS (gQ (.bm K.Qw) .none (.Oh _) .none nofun (aV [_,_] af eO ak af ak dD al r (eL am)) (.inl (U (an ..) ?_)))))))))));refine gr (names:=["one"]) (gn:=[]) (gv:=[]) (f:=λj=>((cS.map (·.1)).take k)[j]?.bind λg=>if bW g w then H (B1 g)else B2) (dm.NW et.O1) (dQ (cn:=["word"]) ?_ R R trivial λq F=>?_) (λi=>R) (by have:=ao k;exact BG ‹_› (DD R)) (λj y aE G l=>?_) λn t=>.inl ⟨_,aH.ag (k:=5) (mL R),?_⟩
 .refine(?_:dp (db _ (az 27).aM) _ _ _=u)
  decide+kernel
 .refine(?_:q.2<τ.aa);refine U (BO.mp F) ?_;refine(?_:ah<_);exact aV [_,_,_] bV af (aq aC a7) au aC af al x z
 .obtain⟨aJ,I,rfl⟩:=cY G;obtain⟨g,v,rfl⟩:=cY I;have l:=l;refine⟨_,.v (aH.ag (k:=0) (cL R)),iH (ca (aw (k:=0) (cL R) R (bR (cT (.head _)) (l.aj C) (nS ⟨_,R,λac=>aw (k:=0) (cL R) R ⟨⟨_,?_,R⟩,l.NW (BJ _) λi i e=>e⟩,λac=>⟨?_,l.NW (BJ _) λi i e=>e⟩⟩))))⟩
  .simp only[v,CF];exact(if_pos ac)
  .simp only[v,CF];exact(if_neg (by unfold bW;refine U ac ?_;decide))
 refine U (ap k λg=>bW g w) (U E ?_);have t:=t
 let ax:V:=⟨n,τ.aj,(5,.ab (.list (a4.map .str)))::τ.ag⟩
 refine⟨ax,⟨R,λi i e=>e,λi i e=>e⟩,?_⟩;have N:(a4.map B1).length=a4.length:=BH _;have P:(o.map B1).length=o.length:=BH _;have aL:∀m,n<=m->Q .aa ⟨m,τ.aj,ax.ag⟩:=λm h1=>h _ ⟨by refine(?_:ah+2<=m);exact jq [_,_,_,_,_] bV bG (aq aC a7) au bG f7 f7 af (ct 0 2) af al x z t h1,K.cw,K.QE,K.Qw,z,by refine(?_:B<m);exact cI [_,_,_,_] aC au au bG bG af aC af al x t h1,K.cg,K.D,K.d8,K.T,K.dU⟩
 refine aQ (cU (hG (pos':=⟨0,0,0,0⟩) (ca (aw (k:=2) (mL R) h2 (dJ (dr (mG 3 R R) ⟨a1.Oe _,aI (e5 (cl:=[("word",ah)]) (by decide+kernel) (by kernel_rfl) (gu (bR ae K.QE (dS (gk (aw (k:=3) (mL R) K.T (dS (gQ (.bm K.Qw) .none (.Oh _) .none nofun (aV [_,_] af eO ak af ak dD al r (eL am)) (.inl (U (an ..) ?_))))))))))⟩))))));refine gr (names:=["one"]) (gn:=[]) (gv:=[]) (f:=λj=>((cS.map (·.1)).take s')[j]?.bind λg=>if bW w g then H (B1 g)else B2) (dm.NW et.O1) (dQ (cn:=["word"]) ?_ R R trivial λq F=>?_) (λi=>R) (by have:=ao s';exact BG ‹_› (DD R)) (λj y aE G l=>?_) λm S=>.inl ?_
 .refine(?_:dp (db _ (az 27).aM) _ _ _=u)
  decide+kernel
 .refine(?_:q.2<n);refine U (BO.mp F) ?_;refine(?_:ah<_);exact cI [_,_,_,_] bV bG (aq aC a7) au bG af aC af al x z t
 .obtain⟨aJ,I,rfl⟩:=cY G;obtain⟨g,v,rfl⟩:=cY I;have l:=l;refine⟨_,.v (aH.ag (k:=0) (cL R)),iH (ca (aw (k:=0) (cL R) R (bR (cT (.head _)) (l.aj C) (oV ⟨_,R,λac=>aw (k:=0) (cL R) R ⟨⟨_,?_,R⟩,l.NW (BJ _) λi i e=>e⟩,λac=>⟨?_,l.NW (BJ _) λi i e=>e⟩⟩))))⟩
  .simp only[v,CF];exact(if_pos ac)
  .simp only[v,CF];exact(if_neg (by unfold bW;refine U ac ?_;decide))
 refine U (ap s' λg=>bW w g) ?_;have S:n<=m:=S
 have aO:(((cS.map (·.1)).take s').filter λg=>bW w g).length<64:=by
  refine CP (CI ..)<|oo CM (U (BH ..) ?_);exact aV [_,_] af eO ak af aC (nA 64) al r (Da _ _)
 refine bn (ce (r3 .aK aO λaZ ai aR=>U (eg.RK aZ ai aR) ?_));refine ze .ab .ab (by have:=h8 o;(simp <;> exact a0 [_] ak (nA 2) ak (nA 800) al this)) ⟨_,R,λac=>?_,λac=>?_⟩
 .refine hG (pos':=⟨0,0,0,0⟩) (ca (c3 (aw (k:=0) (mL R) K.D (bR aB C (g9 eg.dV (dJ (dr (mG 1 R R) ⟨a1.Oe _,aI (b4 (aw (k:=5) (mL R) R (aw (k:=2) (mL R) h2 (oa .aK .aK (jq [_,_,_,_] au eO bG eO ak bG af au (aq ak af) dD al W av (eL N) (eL P)) (.inl (bn (ce (iG .aK (by refine a3 BV ?_;exact jq [_,_,_,_] au eO bG eO ak bG af au (aq ak af) dD al W av (eL N) (eL P)) (qE ⟨_,R,λT=>kQ ⟨λh=>(nomatch h),λi=>?_⟩,λT=>?_⟩)))))))))⟩)))))))
  .refine bJ ?_
   try dsimp only
   exact bJ (aL m S)
  .rw[BV,N,P,E]at T;simp at T
 .rw[tu]at ac;simp at ac
variable{Q:Y->V->Prop}
theorem u5(D:cP c a){l:Nat}(K:J σ.aj l=H (.aN (cS.map gp)))(t:cS.length<=10)(v:Nat->Nat)(ae:v 0=0)(eg:∀k w z,cS[k]?=H (w,z)->z.length<=10/\mX gw (cS.map (·.1)) k (v k) (v (k+1)) w z)
  (h:∀n,σ.aa<=n->Q (.ab (.bool u)) ⟨n,σ.aj,σ.ag⟩):WC c (d+2) a.Pq.1 2 [] [.c5 gw,.aP l] σ Q X:=by
 refine WC.N5 λN=>WC.OR ?_;have A:=N _ _ K
 refine e3 D.Pq (iX σ.aa a.Pq.1 a.Pq.2) (kM λg g g g g g=>by rfl) R ⟨R,R,R,R,R⟩ (e0 (cn:=["order","word"]) (by decide+kernel) R ⟨D.QU,D.B.cZ,D.S1,D.RL,trivial⟩ (λq m=>by
  replace m:=eU m;rcases m with rfl|rfl <;> refine(?_:_<σ.aa+2) <;> first|exact Cs (by decide) _|exact DG (by decide))) (.aU (aH.ag (k:=0) (mL R)) (.aU (aH.ag (k:=1) (mL R)) (.a6 _))) λL=>?_
 have ah:(("order":O),cQ.ar (σ.aa+1))∈(iX σ.aa a.Pq.1 a.Pq.2).bN:=mC (.head _)
 have P:∀i,i<σ.aa->J ((σ.aa+1,bL.ar B2)::(σ.aa,.ar B2)::σ.aj) i=J σ.aj i:=λi hi=>by
  exact aS (b7 ‹_›) (aS (BZ ‹_›) R)
 let p:V:=⟨σ.aa+2,(σ.aa+1,.ar B2)::(σ.aa,.ar B2)::σ.aj,[(1,.aP l),(0,.c5 gw)]⟩
 have E:=(P l A).trans K;have F:(cS.map gp).length=cS.length:=BH _
 have ai:(Ch ((cS.map gp).map Y.ab).length).filterMap (λj=>cS[j]?.bind λq=>H (B1 q.1))=(cS.map (·.1)).map .str:=by
  refine U (BH ..) (U (BH ..) (BK (g1 ..) (bP CJ (congrFun (Ee) _))))
 refine aQ (WT.OR (jL (xs:=["order","shut"]) R (hz (aI (e5 (cl:=[]) (by decide+kernel) (by kernel_rfl) (aw (k:=1) (mL R) R ?_)) ?_))))
 .refine gr (names:=["word","more"]) (gn:=[]) (gv:=[]) (f:=λj=>cS[j]?.bind λq=>H (B1 q.1)) (dm.aN (σ:=p) E) (dQ ?_ R R trivial λq m=>nomatch m) (λg=>R) (by refine a3 (BH ..) ?_;exact aV [_,_] af eO ak af ak dT al t (eL F)) (λj y aO am an=>?_) λn r=>.inr ?_
  .refine(?_:dp (db _ (az 27).aM) _ _ _=u)
   decide+kernel
  .obtain⟨aR,ao,rfl⟩:=cY am;obtain⟨q,m,rfl⟩:=cY ao;refine⟨_,.b2 R dK.ab (.aU (aH.ag (k:=0) (cL R)) (.aU (aH.ag (k:=1) (cL R)) (.a6 _))),eT ⟨λg=>aw (k:=0) (cL R) R ⟨⟨_,?_,R⟩,cD.NW an (BJ _) λg g e=>e⟩,λac=>nomatch ac⟩⟩;simp only[m,CF]
  .refine U ai ?_;have r:=r;refine aI (bI (bn ⟨(by refine(?_:2<=1000000);decide),_,_,dK.b2,.aU (aH.ar (v₀:=B2) ah ?_) (.aU (aH.ag (k:=3) (mL R)) (.a6 _)),?_⟩))
   .refine(?_:J ((l,_)::(n,_)::(p.dropO l).aj) (σ.aa+1)=_);refine aS (e1 ‹_›) (aS (BZ ‹_›) ((jp (e1 ‹_›)).trans (bq _ _ _)))
   have ap:=tW (σ:=p) (n:=n) (a:=.aN ((cS.map (·.1)).map .str)) E (λs=>nf (cI [_,_,_] aC af (ct 1 2) au au ak a7 c8 al A r (eR s)))
   let G:List (Nat×bL):=(σ.aa+1,.ar (H (.aP n)))::(n,.aN ((cS.map (·.1)).map .str))::p.aj
   refine⟨⟨n+1,G,[(3,.ab (.int 0)),(1,.aP l),(0,.c5 gw)]⟩,⟨R,λi o e=>?_,λg g e=>e⟩,?_⟩
   .have e:J ((σ.aa+1,bL.ar (H (.aP n)))::(n,.aN ((cS.map (·.1)).map .str))::p.aj) i=H o:=e;refine(?_:J ((σ.aa+1,_)::(l,_)::(n,_)::(p.dropO l).aj) i=_);rw[de]at e⊢
    by_cases q:i=σ.aa+1
    .rw[if_pos q]at e⊢;exact e
    .rw[if_neg q]at e⊢;exact ap.aj i o e
   have S:lw gw cS l σ.aa n σ.aj (v 0) ⟨n+1,G,[(3,.ab (.int 0)),(1,.aP l),(0,.c5 gw)]⟩:=by
    have I:∀i,i≠σ.aa+1->i≠n->J G i=J p.aj i:=λi h1 h2=>by
     exact aS h1 (aS h2 R)
    refine⟨(DF _ ‹_›:σ.aa+2<=n+1),⟨B2,(I _ (dI) (λs=>nf (aV [_,_] (ct 0 2) af af ak a7 c8 al r (eR s)))).trans ?_⟩,bq _ _ _,?_,by assumption,(BJ _:n<n+1),(I _ (b7 ‹_›) (by exactλs=>nf (cI [_,_,_] aC af (ct 1 2) au au ak a7 c8 al A r (eR s)))).trans E,R,R,by refine U ae ?_;rfl,λi hi=>(I i (b7 ‹_›) (λs=>nf (cI [_,_,_] (ct 0 2) af bV ak af au a7 c8 al r hi (eR s)))).trans (P i hi)⟩
    .exact aS (dI) (bq _ _ _)
    .exact aS (D0 ‹_›) (bq _ _ _)
   refine aQ (nH (dJ (dr (mG 0 R R) ⟨a1.PA _,aI (d3 (mG 1 R R) (a1.Oe _) (.ag (k:=1) (mL R) R .a6) (iG (.bm S.cg) (aV [_,_] af eO ak af ak dD al t (eL F)) (bn (ce (kR ⟨_,λk τ=>lw gw cS l σ.aa n σ.aj (v k) τ,et.fv (by(simp <;> exact a0 [_] ak eO aC (nA 1152921504606846976) al t)),S,λk x τ av b=>?_,λτ b=>?_⟩)))))⟩)))
   .obtain⟨B,C,rfl⟩:=cY av
    have ax:k<cS.length/\B=k:=by
     have h1:=(BY.mp C).1;rw[Ct]at h1;replace C:=(ES h1).symm.trans C;exact⟨aV [_,_,_] au af aC au aC af al (eL F) h1,(CO C).symm⟩
    obtain⟨ay,rfl⟩:=ax;obtain⟨q,m⟩:∃q,cS[B]?=H q:=⟨_,BU ay⟩;obtain⟨w,z⟩:=q;obtain⟨T,W⟩:=eg B w z m;refine⟨_,.v (aH.ag (mL R)),zQ D m t T W A (τ:=τ.N2 4 (.ab (.int B))) ⟨b.aa,b.cw,b.QE,b.Qw,b.Rp,b.Rx,b.cg,b.D,b.d8,b.T,b.dU⟩ R λτ' K' aB h2 aE=>?_⟩;exact AR D t T W A K' aB h2 aE λaT aJ=>aJ
   .refine aQ (ej (jE ?_));have aL:=b.Rx;have aW:=b.Rp;exact⟨⟨τ.aa,σ.aj,σ.ag⟩,⟨R,λi o e=>(b.dU i (N _ _ e)).trans e,λg g e=>e⟩,h _ (aV [_,_,_] (ct 0 2) au bV af ak af al r aL)⟩
 .intros;rfl
noncomputable def m5:O:="lo must be non-negative"
variable{f:M×M}
theorem oU(hi:i=4\/i=6){nm:O}{bi bz:Z}(aJ:gs c i nm bi bz f)(a:d7 c bi bz)(G:fB c){dt dO:Y}{m:Nat}{as:List Y}(b:(m=3/\as=[dt,dO,.ab (.int (-1))])\/(m=4/\as=[dt,dO,.ab (.int (-1)),.ab .none]))(g:X ⟨"ValueError",[m5]⟩ σ):WC c (d+1) f.1 m [] as σ Q X:=by
 have ac:hh c σ nm nm (az i).l (az i).h (az i).aM bi bz f.2 m [] as σ ["a","x","lo","hi","key"] [dt,dO,.ab (.int (-1)),.ab .none,.ab .none]:=by
  rcases b with⟨rfl,rfl⟩|⟨rfl,rfl⟩
  .exact(mu (hi.elim (λe=>.inr (.inl e)) λe=>.inr (.inr (.inr e))) a).Rz
  .exact(mh (hi.elim (λe=>.inr (.inl e)) λe=>.inr (.inr (.inr e))) a).Rz
 rcases hi with rfl|rfl
 all_goals
  refine e3 aJ (ek _ nm f.1 f.2) ac R ⟨R,R,R,R,R⟩ (ly G (by decide)) (lq (by decide)) (λL=>?_) (by rfl) (by rfl);refine aQ (cU (ca (aw (mV 2 R) R (bI (jx ⟨_,R,λh=>?_,λac=>nomatch ac⟩)))));exact aQ (oF (by simp[ek]) g)
theorem tV{g:O}(hi:(i=3/\g="bisect_right"/\j=4)\/(i=5/\g="bisect_left"/\j=6)){nm e:O}{bi bz gx gy:Z}{a:M×M}(aJ:gs c i nm bi bz f)(h:d7 c bi bz)(b:gs c j e gx gy a)(k:d7 c gx gy)(G:fB c)(l:cr c g (.ref a.1)){dt dO:Y}(m:X ⟨"ValueError",[m5]⟩ σ):WC c (d+2) f.1 3 [] [dt,dO,.ab (.int (-1))] σ Q X:=by
 rcases hi with⟨rfl,rfl,rfl⟩|⟨rfl,rfl,rfl⟩
 all_goals
  refine e3 aJ (gZ _ nm _ a.1 f.1 f.2) (mu (by decide) h).Rz R ⟨R,R,R,R,R⟩ (j2 (by simp) l) (kB (by decide)) (λL=>?_) (by rfl) (by rfl);refine aQ (cU (ca (aw (mV 4 R) R (fV (hB ⟨_,R,λn=>?_,λac=>nomatch ac⟩)))));refine aQ (dh (d3 (mV 5 R) (a1.N4 b) (.ag (mV 0 R) R (.ag (mV 1 R) R (.ag (mV 2 R) R (.ag (mV 3 R) R .a6)))) (WK.NW (WC.Of (oU (c:=c.a5 L) (by decide) b k G (.inr ⟨R,R⟩) m)))))
noncomputable def x7(bu cc:M):bB:=eX (az 28).aM ["deed","things","words","fault"] [] ["ValueError","str"] [.type "ValueError",.type "str"] "_law_refused" bu cc
theorem q7(D:cP c a)(m:cr c "str" (.type "str")){f j:Y}{xs:List Y}{msg words:O}(n:∀e:Cx,e.toBx=c.toBx->a1 e f)(o:dK j xs)(p:xs.length<=1000)
  (q:∀(e:Cx)(l:List (Nat×Y)),e.toBx=c.toBx->WK e d f xs [] [] ⟨σ.aa,σ.aj,l⟩ (λb b=>False) (λx σ'=>x=⟨"ValueError",[msg]⟩/\σ'.ag=l/\Q (.ab (.bool (msg==words))) ⟨σ'.aa,σ'.aj,σ.ag⟩)):WC c (d+1) a.Ps.1 3 [] [f,j,.ab (.str words)] σ Q X:=by
 refine vP (msg:=msg) (words:=words) (kf:=3) (kw:=2) R R R R R D.Ps (x7 a.Ps.1 a.Ps.2) (tb λb b b b b b b=>by rfl) R ⟨R,R,R,R,R⟩ (e0 (by decide+kernel) R ⟨D.B.Sm,m,trivial⟩ (λb h=>nomatch h)) (.aU (aH.ag (k:=0) (mL R)) (.aU (aH.ag (k:=1) (mL R)) (.aU (aH.ag (k:=2) (mL R)) (.a6 _)))) (mG 0 R R) (mG 1 R R) (mL R) (mL R) (by decide+kernel) (λenv=>R) (λL=>aQ (ez (zq (aw (k:=0) (mL R) R ⟨n (c.a5 L) R,aw (k:=1) (mL R) R ⟨xs,o,p,?_⟩⟩))));exactλA g s names t v vs kvs w r y z rv B=>CB (q (c.a5 L) _ R A g s names t v vs kvs w r y z rv B) (λb b i=>by obtain⟨_,_,_,_,_,_,_,C⟩:=i;exact C.elim) λb b i=>by obtain⟨x,am,σ',E,F,G,I,K,N,P⟩:=i;exact⟨x,am,σ',E,F,G,I,K,by refine U N ?_;rfl,P⟩
section
variable{n:Nat}{lt:Nat->Nat->Bool}{ii:Nat->Nat->(Bool->BN->Prop)->BN->Prop}{s:BN}
structure oQ(n:Nat)(lt:Nat->Nat->Bool):Prop where
 Rq:∀i j k,i<n->j<n->k<n->lt i j=u->lt j k=u->lt i k=u
 BA:∀i j,i<n->j<n->lt i j=u->lt j i=BQ
 to:∀i j,i<n->j<n->i≠j->lt i j=u\/lt j i=u
noncomputable def gP(p:Array Nat)(i:Nat):Nat:=p.getD i 0
structure gA(n:Nat)(p:Array Nat):Prop where
 bX:p.size=n
 Oa:∀i,i<n->gP p i<n
 A:∀i j,i<n->j<n->gP p i=gP p j->i=j
 Py:p.Perm (FL (Ch n))
noncomputable def SP(lt:Nat->Nat->Bool)(p:Array Nat)(m:Nat):Prop:=∀i j,i<j->j<m->lt (gP p i) (gP p j)=u
noncomputable def DP(lt:Nat->Nat->Bool)(p:Array Nat)(m:Nat):Prop:=∀i j,i<j->j<m->lt (gP p j) (gP p i)=u
theorem pe{p:Array Nat}(h:i<p.size):p[i]?=H (gP p i):=by
 unfold gP;refine BK (Is h) ?_;simp[Array.getD,h]
theorem mW{p q:Array Nat}(h:p[i]?=q[j]?):gP p i=gP q j:=by
 unfold gP;exact BK HU (bP HU (U h R))
theorem gA.NW{p:Array Nat}(h:p.Perm (FL (Ch n))):gA n p:=by
 have a:p.size=n:=by refine BK h.size_eq ?_;simp
 have c:p.toList.Perm (Ch n):=by simpa using H9.mp h
 have f:=c.nodup_iff.mpr List.nodup_range;have b:∀i,i<n->p.toList[i]?=H (gP p i):=λi hi=>BK CN (pe (aV [_,_,_] au af aC au aC af al (eR a) hi));refine⟨a,λi hi=>?_,λi j hi g e=>?_,h⟩
 .have:=c.mem_iff.mp (B5 (b i hi));exact CU.mp this
 .have d:=b i hi;have k:=b j g;rw[e]at d;exact(EI (by refine dk Cq ?_;exact aV [_,_,_] au af aC au aC af al (eR a) hi) f).mp (d.trans k.symm)
variable(df:oQ n lt)(aL:∀i j C,i<n->j<n->C (lt i j) s->ii i j C s)
include df aL
theorem r6{p:Array Nat}(ai:gA n p):∀(f m:Nat){Q:Nat->BN->Prop},1<=m->m+f<=n->SP lt p m->(∀k,m<=k->k<=m+f->SP lt p k->(k=m+f\/lt (gP p k) (gP p (k-1))=u)->Q k s)->(kas_asc p f m).kasWp ii Q s:=by
 intro f
 induction f with
 |zero=>
  intro m Q h1 h2 a b
  exact b m (BJ _) (BJ _) a (.inl R)
 |succ f l=>
  intro m Q h1 h2 a b;refine(?_:ii (gP p m) (gP p (m-1)) _ s);refine aL _ _ _ (ai.Oa _ (a0 [_,_,_] (aq ak bV) af aC af al h2)) (ai.Oa _ (aV [_,_,_,_] (aq au fC) af ak au aC af al h2 (DY _ _))) ?_
  cases ac:lt (gP p m) (gP p (m-1))with
  |true=>exact b m (BJ _) (B4 ..) a (.inr ac)
  |false=>
   have d:lt (gP p (m-1)) (gP p m)=u:=by
    rcases df.to (gP p (m-1)) (gP p m) (ai.Oa _ (aV [_,_,_,_] (aq au fC) af ak au aC af al h2 (DY _ _))) (ai.Oa _ (a0 [_,_,_] (aq ak bV) af aC af al h2)) (λe=>by have:=ai.A _ _ (by exact aV [_,_,_,_] (aq au fC) af ak au aC af al h2 (DY _ _)) (by exact a0 [_,_,_] (aq ak bV) af aC af al h2) e;exact nf (aV [_,_] ak af b1 ak a7 c8 al (eR this) (eL (Cc (h1)))))with h|h
    .exact h
    .replace h:=ac.symm.trans h;cases h
   refine l (m+1) (GD _) (a0 [_,_,_] (aq ak b1) au (aq aC af) au al h2) (λi j c o=>?_) λk k1 k2 k3 q=>b k (Cz ‹_›) (a0 [_,_,_] ak (aq b1 au) ak (aq af bV) al k2) k3 (q.imp (λe=>Cg (a0 [_,_,_] ak (aq b1 au) ak (aq af bV) al (eL e)) (a0 [_,_,_] (aq aC af) au (aq ak b1) au al (eR e))) id)
   by_cases g:j<m
   .exact a i j c g
   .have:j=m:=Cg (a0 [_,_] aC b1 ak af al o) (BP.mp g);subst this
    by_cases hi:i=j-1
    .exact U hi d
    .exact df.Rq _ (gP p (j-1)) _ (ai.Oa _ (aV [_,_,_,_] aC au (aq au fC) af aC af al c h2)) (ai.Oa _ (aV [_,_,_,_] (aq au fC) af ak au aC af al h2 (DY _ _))) (ai.Oa _ (a0 [_,_,_] (aq ak bV) af aC af al h2)) (a i (j-1) (Do (GW c) hi) ((eL (Cc (h1))))) d
theorem AP{p:Array Nat}(ai:gA n p):∀(f m:Nat){Q:Array Nat×Nat×Nat->BN->Prop},1<=m->m+f<=n->DP lt p m->(∀k,m<=k->k<=m+f->DP lt p k->Q (p,k,0) s)->(kas_desc f p m 0).kasWp ii Q s:=by
 intro f
 induction f with
 |zero=>
  intro m Q h1 h2 a b
  exact b m (BJ _) (BJ _) a
 |succ f g=>
  intro m Q h1 h2 a b;refine(?_:ii (gP p m) (gP p (m-1)) _ s);refine aL _ _ _ (ai.Oa _ (a0 [_,_,_] (aq ak bV) af aC af al h2)) (ai.Oa _ (aV [_,_,_,_] (aq au fC) af ak au aC af al h2 (DY _ _))) ?_
  cases ac:lt (gP p m) (gP p (m-1))with
  |true=>
   refine g (m+1) (GD _) (a0 [_,_,_] (aq ak b1) au (aq aC af) au al h2) (λi j c l=>?_) λk k1 k2 k3=>b k (Cz ‹_›) (a0 [_,_,_] ak (aq b1 au) ak (aq af bV) al k2) k3
   by_cases d:j<m
   .exact a i j c d
   .have:j=m:=Cg (a0 [_,_] aC b1 ak af al l) (BP.mp d);subst this
    by_cases hi:i=j-1
    .exact U hi ac
    .exact df.Rq _ (gP p (j-1)) _ (ai.Oa _ (a0 [_,_,_] (aq ak bV) af aC af al h2)) (ai.Oa _ (aV [_,_,_,_] (aq au fC) af ak au aC af al h2 (DY _ _))) (ai.Oa _ (aV [_,_,_,_] aC au (aq au fC) af aC af al c h2)) ac (a i (j-1) (Do (GW c) hi) ((eL (Cc (h1)))))
  |false=>
   have o:lt (gP p (m-1)) (gP p m)=u:=by
    rcases df.to (gP p (m-1)) (gP p m) (ai.Oa _ (aV [_,_,_,_] (aq au fC) af ak au aC af al h2 (DY _ _))) (ai.Oa _ (a0 [_,_,_] (aq ak bV) af aC af al h2)) (λe=>by have:=ai.A _ _ (by exact aV [_,_,_,_] (aq au fC) af ak au aC af al h2 (DY _ _)) (by exact a0 [_,_,_] (aq ak bV) af aC af al h2) e;exact nf (aV [_,_] ak af b1 ak a7 c8 al (eR this) (eL (Cc (h1)))))with h|h
    .exact h
    .replace h:=ac.symm.trans h;cases h
   refine aL _ _ _ (ai.Oa _ (aV [_,_,_,_] (aq au fC) af ak au aC af al h2 (DY _ _))) (ai.Oa _ (a0 [_,_,_] (aq ak bV) af aC af al h2))<|U o<|b m (BJ _) (B4 ..) a
theorem z4{p:Array Nat}(ai:gA n p){m:Nat}{Q:Nat×Array Nat->BN->Prop}(h1:1<=m)(h2:m<=n)(f:DP lt p m)(g:∀k a,1<=k->k<=n->gA n a->SP lt a k->Q (k,a) s):(kas_tail3 m n p).kasWp ii Q s:=by
 unfold kas_tail3;refine U (FE ..) ?_;have d:gA n (kas_rev p 0 m):=.NW ((mirror_perm _ _ _ _).trans ai.Py)
 have e:∀k,k<m->gP (kas_rev p 0 m) k=gP p (m-1-k):=λk h=>mW (by
  have:=getElem?_mirror_all (i:=0) (by refine U ai.bX ?_;assumption) k;rw[if_pos ⟨Cm _,h⟩]at this;rw[Ek]at this;exact this)
 refine r6 df aL d (n-m) m h1 (a0 [_,_,_] (aq af ak) au (aq ak af) au al (eL (Cc (h2)))) (λi j b c=>?_) λk k1 k2 k3 l=>g k _ (BL ‹_› ‹_›) (aV [_,_,_,_] ak (aq au bG) (aq bG au) af ak af al k2 (eL (Cc (h2)))) d k3
 refine U (e i (GE b c)) (U (e j c) (f _ _ (Nat.sub_lt_sub_left (BL b (GW c)) b) (CP (DY _ _) (Mh h1 Lw))))
theorem z3{p:Array Nat}(ai:gA n p)(a:1<=n){Q:Nat×Array Nat->BN->Prop}(g:∀k h,1<=k->k<=n->gA n h->SP lt h k->Q (k,h) s):(kas_count n p).kasWp ii Q s:=by
 unfold kas_count;refine U (FE ..)<|r6 df aL ai (n-1) 1 (BJ _) (a0 [_,_] aC af (aq a7 ak) af al (eL (Cc (a)))) (λi j c d=>absurd (BL c (Dw d)) (H2 _)) λk k1 k2 k3 m=>?_
 by_cases b:k=n
 .refine U (if_pos (by simp[b]))<|g k p k1 ((eL b)) ai k3
 .refine U (if_neg (by simp[b])) ?_
  by_cases f:k>1
  .refine U (if_pos f) ?_;refine aL _ _ _ (ai.Oa _ ‹_›) (ai.Oa _ (cI [_,_,_,_] au (aq a7 bG) fC af aC au aC af al k2 (eL (Cc (a))) (eL (Cc (k1)))))<|U (k3 0 (k-1) (aV [_,_] (aq a7 a7) af af aC (aq c8 a7) ak al f (sA _ _)) ((eL (Cc (k1)))))<|g k p k1 (aV [_,_,_] ak (aq a7 au) bV af ak af al k2 (eL (Cc (a)))) ai k3
  .refine U (if_neg f) ?_;have o:k=1:=Cg (BP.mp f) k1;subst o
   have q:lt (gP p 1) (gP p 0)=u:=by
    rcases m with e|e
    .exact absurd (e.trans (EY a)) b
    .exact e
   have l:2<=n:=Do a b;unfold kas_descPart;refine U (FE ..)<|AP df aL ai (n-2) 2 (by decide) (a0 [_,_] (ct 0 2) af (aq (nA 2) ak) af al (eL (Cc (l)))) (λi j c d=>?_) λk k1 k2 k3=>?_
   .have:i=0/\j=1:=⟨Cg (aV [_,_] aC af b1 (nA 2) ak c8 al c d) (h0 [_] c8 ak al),Cg (a0 [_] aC (nA 2) ak a7 al d) (a0 [_,_] b1 ak a7 ak al c)⟩;exact U this.1 (U this.2 q)
   .exact z4 df aL ai (show 1<=k by exact Cz ‹_›) (show k<=n from BG k2 (eL (EY l))) k3 g
theorem uy{p:Array Nat}(ai:gA n p)(b:k<n)(t:SP lt p k):∀(f l r:Nat){Q:Nat->BN->Prop},l<=r->r<=k->r-l<=f->(∀i,i<l->lt (gP p i) (gP p k)=u)->(∀i,r<=i->i<k->lt (gP p k) (gP p i)=u)->
  (∀L,L<=k->(∀i,i<L->lt (gP p i) (gP p k)=u)->(∀i,L<=i->i<k->lt (gP p k) (gP p i)=u)->Q L s)->(kas_place p k f l r).kasWp ii Q s:=by
 intro f
 induction f with
 |zero=>
  intro l r Q h1 h2 d g j c
  exact c l (BG ‹_› ‹_›) g λi hi=>j i (cI [_,_,_,_] au c8 bG af ak (aq au bG) ak af al d hi (sA _ _))
 |succ f v=>
  intro l r Q h1 h2 d g j c;unfold kas_place
  by_cases o:l>=r
  .exact U (if_pos o) (c l (BG ‹_› ‹_›) g λi hi=>j i (BG ‹_› ‹_›))
  .refine U (if_neg o) ?_;have a:(l+r)/2<r/\l<=(l+r)/2:=⟨lE (GB.mp o),lv (GB.mp o)⟩;generalize (l+r)/2=m at a;refine(?_:ii (gP p k) (gP p m) _ s);refine aL _ _ _ (ai.Oa _ b) (ai.Oa _ (cI [_,_,_,_] bV af bG au aC bG aC af al b h2 a.1)) ?_
   cases ac:lt (gP p k) (gP p m)with
   |true=>
    refine v l m a.2 (aV [_,_,_] au af aC au ak af al h2 a.1) (by(simp <;> exact cI [_,_,_,_,_] bG b1 aC f7 f7 (aq bG au) ak (aq af au) al d a.1 (sA _ _))) g (λi hi w=>?_) c
    by_cases e:i=m
    .exact U e ac
    .exact df.Rq _ (gP p m) _ (ai.Oa _ b) (ai.Oa _ (cI [_,_,_,_] bV af bG au aC bG aC af al b h2 a.1)) (ai.Oa _ (aV [_,_,_] bV af aC au aC af al b w)) ac (t m i (Do hi λq=>e q.symm) w)
   |false=>
    have x:lt (gP p m) (gP p k)=u:=by
     rcases df.to (gP p m) (gP p k) (ai.Oa _ (cI [_,_,_,_] bV af bG au aC bG aC af al b h2 a.1)) (ai.Oa _ b) (λe=>by have:=ai.A _ _ (by exact cI [_,_,_,_] bV af bG au aC bG aC af al b h2 a.1) b e;exact nf (cI [_,_,_] ak af bV ak af au a7 c8 al h2 a.1 (eR this)))with h|h
     .exact h
     .replace h:=ac.symm.trans h;cases h
    refine v (m+1) r (a.1) h2 (by(simp <;> exact cI [_,_,_,_,_] bG b1 f7 au ak (aq bG f7) ak (aq af bV) al d a.2 (sA _ _))) (λi hi=>?_) j c
    by_cases e:i=m
    .exact U e x
    .exact df.Rq _ (gP p m) _ (ai.Oa _ (jq [_,_,_,_,_] bV af bG au (ct 4 1) bG aC (ct 4 1) aC af al b h2 a.1 hi)) (ai.Oa _ (cI [_,_,_,_] bV af bG au aC bG aC af al b h2 a.1)) (ai.Oa _ b) (t i m (Do (Dw hi) e) (aV [_,_,_] au af aC au aC af al h2 a.1)) x
theorem yJ:∀(f:Nat){p:Array Nat}(ai:gA n p)(k:Nat){Q:Array Nat->BN->Prop},k+f=n->SP lt p k->(∀m,gA n m->SP lt m n->Q m s)->(kas_bin f p k).kasWp ii Q s:=by
 intro f
 induction f with
 |zero=>
  intro p ai k Q h1 d o
  exact o p ai (br h1 d)
 |succ f y=>
  intro p ai k Q h1 d o;unfold kas_bin;refine U (FE ..)<|uy df aL ai (by exact a0 [_,_,_] (aq ak bV) af aC af al (eL h1)) d k 0 k (Cm _) (BJ _) (BJ _) (λi hi=>absurd hi (H2 _)) (λi hi z=>absurd z (BP.mpr hi)) λL v A B=>?_
  have C:gA n (bubble p k (k-L)):=.NW ((bubble_perm _ _ _).trans ai.Py)
  have w:∀i,gP (bubble p k (k-L)) i=if i=L then gP p k else if L<i/\i<=k then gP p (i-1)else gP p i:=λi=>by
   have:=getElem?_bubble (src:=k) (by refine dk ai.bX ?_;exact a0 [_,_,_] (aq ak bV) af aC af al (eL h1)) (k-L) (DY ..) i;rw[show k-(k-L)=L from Kr v]at this
   by_cases e:i=L
   .rw[if_pos e]at this⊢;exact mW this
   .rw[if_neg e]at this⊢
    by_cases b:L<i/\i<=k
    .rw[if_pos b]at this⊢;exact mW this
    .rw[if_neg b]at this⊢;exact mW this
  refine y C (k+1) (Cg (a0 [_,_,_] (aq ak b1) au (aq aC af) au al (eL h1)) (a0 [_,_,_] ak (aq af bV) ak (aq b1 au) al (eR h1))) (λi j a c=>?_) o;refine U (w i) (U (w j) ?_)
  by_cases g:i=L
  .refine U (if_pos g) (U (if_neg (by exactλr=>nf (cI [_,_,_] aC af au ak af au a7 c8 al a (eR g) (eL r)))) (U (if_pos (⟨aV [_,_,_] bV af ak au aC af al a (eR g),a0 [_,_] aC b1 ak af al c⟩)) (B (j-1) (cI [_,_,_,_] bV bG ak au bG b1 ak af al a (eR g) (sA _ _)) (aV [_,_,_] bV b1 aC au aC af al c (eL (Cc (a0 [_,_] b1 ak a7 ak al a)))))))
  .refine U (if_neg g) ?_
   by_cases b:L<i/\i<=k
   .refine U (if_pos b) (U (if_neg (by exactλr=>nf (cI [_,_,_] aC af bV ak af au a7 c8 al a b.1 (eL r)))) (U (if_pos (⟨aV [_,_,_] bV af aC au aC af al a b.1,a0 [_,_] aC b1 ak af al c⟩)) (d _ _ (cI [_,_,_,_] bV bG aC au bG b1 aC af al a (eL (Cc (a0 [_,_] b1 ak a7 ak al b.1))) (sA _ _)) (aV [_,_,_] bV b1 aC au aC af al c (eL (Cc (a0 [_,_] b1 ak a7 ak al a)))))))
   .refine U (if_neg b) ?_;have x:i<L:=(FR i L).resolve_right λh=>b ⟨Do h λq=>g q.symm,Dw (GE a c)⟩
    by_cases t:j=L
    .exact U (if_pos t) (A i x)
    .refine U (if_neg t) ?_
     by_cases l:L<j/\j<=k
     .exact U (if_pos l) (d _ _ (cI [_,_,_,_] aC au bV bG bG b1 aC af al x l.1 (sA _ _)) (aV [_,_,_] bV b1 aC au aC af al c (eL (Cc (a0 [_,_] b1 ak a7 ak al l.1)))))
     .exact U (if_neg l) (d _ _ a ((FR j L).elim (λh=>BL h v) λh=>absurd ⟨Do h λq=>t q.symm,Dw c⟩ l))
theorem v9(d:1<=n){Q:Array Nat->BN->Prop}(b:∀a,gA n a->SP lt a n->Q a s):(kas_sort n).kasWp ii Q s:=by
 unfold kas_sort;refine U (FE ..)<|z3 df aL (.NW (Mt _)) d λk a k1 k2 ai c=>?_
 dsimp only
 by_cases h:k<n
 .refine U (if_pos h) ?_;have:K7 k 1=k:=Ky ‹_›;refine U this<|yJ df aL (n-k) ai k (EY (Cz h)) c b
 .refine U (if_neg h) ?_;have:k=n:=Cg k2 (BP.mp h);subst this;exact b _ ai c
end
structure n5(s s':BN):Prop where
 NY:∀b o,s.heap.get? b=H o->s'.heap.get? b=H o
 bX:s.heap.objs.size<=s'.heap.objs.size
 Ot:s'.gens=s.gens
 C:s'.os=s.os
variable{s:BN}{w:HX}{prog:Fa}{A:DX}{E:Z->BN->Prop}
variable{vs:List Z}
theorem AT{l:M}{n:Nat}{lt:Nat->Nat->Bool}{F:L8}{Q:Z->BN->Prop}(T:s.heap.IsList l vs.toArray)(c:vs.length=n)(h2:2<=n)(G:n<64)(df:oQ n lt)
  (W:∀s',n5 s s'->∀(Q:L8->BN->Prop)(E:Z->BN->Prop),Q F s'->B9 (DA prog w) A.in1.in1 (keyKind' vs.toArray) Q E s')
  (X:∀s',n5 s s'->∀i j C,i<n->j<n->C (lt i j) s'->Mv prog w A.in1.in1 F vs i j C s')
  (h:∀p s' D e,gA n p->SP lt p n->n5 s s'->s.heap.objs.size<=D->s'.heap.get? D=H (HE "list" (FL (p.toList.map λi=>vs.getD i DV)) e)->Q (.ref D) s'):
  B9 (DA prog w) A (call (.builtin "sorted") [.ref l]) Q E s:=by
 have d:vs.length<=Hf:=by refine dH MK ?_;exact aV [_,_] ak af b1 (nA 64) ak (nA 16777216) al (eL c) G
 refine Iq kind_sorted plain_sorted entry_sorted (args_sorted1 _) ?_;unfold Builtin.«sorted»;refine BM (BW (BM (collect_list T ?_ d)))
 let h1:CG:=(s.heap.push (HE "list" #[] 0)).update s.heap.objs.size (Hi (·++vs.toArray))
 have t:h1.objs.size=s.heap.objs.size+1:=(BK (Ka ..) ((size_push' ..)):Ll _=_)
 have k1:∀b o,s.heap.get? b=H o->h1.get? b=H o:=λb o q=>by
  have ac:=Ca q;refine(?_:J4 _ b=_);exact BK (Dj _ _ _ _ (BZ ac)) (BK (J1 _ _ _ (BZ ac)) q)
 let D:=h1.objs.size
 let v:CG:=h1.push (HE "list" vs.toArray 0)
 have k:v.get? D=H (HE "list" vs.toArray 0):=B6 _ R;refine BM (Ml ?_ d);refine(?_:B9 _ _ _ _ _ {s with heap:=v});refine BM (C2 (Eh slot_list_sort ⟨_,k,R⟩ entry_list_sort ?_ (args_list_sort _)));refine U (list_sort_plain ..)<|wpAny_bind (listItems_at k R (BM (Mo k R ?_ (a3 Fc d) (Cm _))))
 let I:CG:=v.update D (Hi λf=>(#[]:Array Z))
 obtain⟨x,K⟩:∃x,I.get? D=H (HE "list" #[] x):=⟨_,Lr k λf=>#[]⟩;refine BM (ML K R (BM (wpAny_newTuple ?_ ((d:vs.length<=_)))));refine BM (Ml ?_ (Cm _));refine C2 ?_
 let a:CG:=(I.push (HE "tuple" vs.toArray 0)).push (HE "list" #[] 0)
 let g:BN:={s with heap:=a}
 refine(?_:B9 (DA prog w) _ _ _ E g);dsimp only;have L:¬vs.toArray.size<2:=by refine U Fc ?_;exactλae=>nf (cI [_,_] ak af (nA 2) ak b1 (nA 2) a7 c8 al (eR c) h2 ae)
 refine U (if_neg L) (U (if_neg L) ?_);have m:a.get? D=H (HE "list" #[] x):=Cp _ (Cp _ K)
 have N:s.heap.objs.size+1<a.objs.size:=by
  exact t▸Ca m
 have P:∀b,b<s.heap.objs.size->b≠D:=λb ac=>BZ (BL ac ((dH t (Cr _):_<=h1.objs.size)))
 have ah:∀b o,b≠D->h1.get? b=H o->a.get? b=H o:=λb o ac q=>by
  refine Cp _ (Cp _ ?_);refine BK (Dj _ _ _ _ ac) ?_;exact Cp _ q
 have y:n5 s g:=⟨λb o q=>ah b o (P b (Ca q)) (k1 b o q),by refine(?_:_<=a.objs.size);exact a0 [_,_] (aq aC a7) af ak af al N,R,R⟩;refine BM (W g y _ _ ?_)
 have cS:=kat_run (E:=E) (Q:=λr s'=>∃p:Array Nat,arrOf r=p.map (kas_item (vs.toArray.zip vs.toArray))/\failedOf r=B2/\(gA n p/\SP lt p n/\s'=g))
  R (Ea ‹_›) (aV [_,_] ak af b1 (nA 64) aC (nA 64) al (eL c) G) (λp r s' cj cq du fp=>⟨p,cq,du,fp⟩) (by
   refine U c<|v9 df (X g y) (Cz ‹_›) λav ai z=>⟨ai,z,R⟩)
 refine BM (CB cS ?_ λf f e=>e);rintro⟨⟨⟩,r⟩ s' ⟨p,am,aJ,ai,z,rfl⟩;dsimp only;have an:=kat_snds R am;have ao:(FL (p.toList.map λi=>vs.getD i DV)).size=vs.length:=BK Fc (BK (BH ..) (BK Cq (BK ai.bX (bP c R))));refine U an<|wpAny_bind (ML m R (BM (Mo m R ?_ (Cm _) (BG (CL ao) (Co d)))));refine U aJ ?_;simp only[bne_self_eq_false,Ex,if_false]
 let S:CG:=a.update D (Hi λf=>FL (p.toList.map λi=>vs.getD i DV))
 obtain⟨B,ap⟩:∃B,S.get? D=H (HE "list" (FL (p.toList.map λi=>vs.getD i DV)) B):=⟨_,Lr m λf=>_⟩;refine BW ⟨_,R,BW ⟨_,R,h p {s with heap:=S} D B ai z ⟨λb o q=>?_,?_,R,R⟩ ((dH t (Cr _):_<=h1.objs.size)) ap⟩⟩
 .refine(?_:J4 (a.update D _) b=_);refine BK (Dj _ _ _ _ (P b (Ca q))) ?_;exact y.NY b o q
 .refine(?_:_<=Ll (HJ a D _).objs);refine dH (Ka ..) ?_;exact a0 [_,_] (aq aC a7) af ak af al N
noncomputable abbrev T4:=Int×Int×O×O
noncomputable abbrev dM(t:T4):Cj:=.tuple [.int t.1,.int t.2.1,.str t.2.2.1,.str t.2.2.2]
noncomputable def d6(p q:T4):Bool:=if p.1=q.1 then(if p.2.1=q.2.1 then(if p.2.2.1=q.2.2.1 then(if p.2.2.2=q.2.2.2 then BQ else bW p.2.2.2 q.2.2.2)else bW p.2.2.1 q.2.2.1)else decide (p.2.1<q.2.1))else decide (p.1<q.1)
noncomputable def dL(p q:Int×Int):Bool:=if p.1=q.1 then(if p.2=q.2 then BQ else decide (p.2<q.2))else decide (p.1<q.1)
theorem kp(a:O):bW a a=BQ:=decide_eq_false (List.lt_irrefl _)
variable{a:O}
theorem jH{c:O}(h1:bW a b=u)(h2:bW b c=u):bW a c=u:=decide_eq_true (List.lt_trans (of_decide_eq_true h1) (of_decide_eq_true h2))
theorem js(h:bW a b=u):bW b a=BQ:=by
 cases e:bW b a with
 |false=>rfl
 |true=>have:=jH h e;rw[kp]at this;cases this
theorem iW(h:a≠b):bW a b=u\/bW b a=u:=by
 cases e:bW a b with
 |true=>exact .inl R
 |false=>
  right
  cases c:bW b a with
  |true=>rfl
  |false=>
   exfalso
   have h1:=of_decide_eq_false e;have h2:=of_decide_eq_false c;exact h (m4 (List.le_antisymm (Li.mp h2) (Li.mp h1)))
section
variable{aO:Type}[DecidableEq aO]{lt:aO->aO->Bool}{a b e:aO}{a2 bH ef:Bool}
theorem lm(d:∀x,lt x x=BQ)(f:∀{x y z},lt x y=u->lt y z=u->lt x z=u)(g:a2=u->bH=u->ef=u)(h1:(if a=b then a2 else lt a b)=u)(h2:(if b=e then bH else lt b e)=u):(if a=e then ef else lt a e)=u:=by
 by_cases p:a=b
 .subst p;replace h1:=(if_pos R).symm.trans h1
  by_cases q:a=e
  .rw[if_pos q]at h2⊢;exact g h1 h2
  .rw[if_neg q]at h2⊢;exact h2
 .replace h1:=(if_neg p).symm.trans h1
  by_cases q:b=e
  .subst q;exact BK (if_neg p) h1
  .replace h2:=(if_neg q).symm.trans h2;have c:=f h1 h2;exact BK (if_neg λw=>by rw[w,d]at c;cases c) c
theorem nz(c:∀{x y},x≠y->lt x y=u\/lt y x=u)(d:a=b->a2=u\/bH=u):(if a=b then a2 else lt a b)=u\/(if b=a then bH else lt b a)=u:=by
 by_cases p:a=b
 .exact U (if_pos p) (U (if_pos p.symm) (d p))
 .exact U (if_neg p) (U (if_neg (DN p)) (c p))
end
theorem n7(x:Int):decide (x<x)=BQ:=decide_eq_false (IN x)
theorem n0{x y z:Int}(h1:decide (x<y)=u)(h2:decide (y<z)=u):decide (x<z)=u:=decide_eq_true (Lk (of_decide_eq_true h1) (of_decide_eq_true h2))
theorem ru{x y:Int}(h:x≠y):decide (x<y)=u\/decide (y<x)=u:=(Int.lt_or_gt_of_ne h).imp decide_eq_true decide_eq_true
theorem mb(p:T4):d6 p p=BQ:=(if_pos R).trans ((if_pos R).trans ((if_pos R).trans (if_pos R)))
theorem oN{p q r:T4}(h1:d6 p q=u)(h2:d6 q r=u):d6 p r=u:=
 lm (lt:=λx y=>decide (x<y)) n7 n0 (lm (lt:=λx y=>decide (x<y)) n7 n0 (lm kp jH (lm kp jH λh a=>h))) h1 h2
variable{p q:Int×Int}
theorem k8{r:Int×Int}(h1:dL p q=u)(h2:dL q r=u):dL p r=u:=
 lm (lt:=λx y=>decide (x<y)) n7 n0 (lm (lt:=λx y=>decide (x<y)) n7 n0 λh a=>h) h1 h2
theorem kP(x:Int×Int):dL x x=BQ:=(if_pos R).trans (if_pos R)
theorem vf{p q:T4}(h:p≠q):d6 p q=u\/d6 q p=u:=
 nz ru λa=>nz ru λb=>nz iW λc=>nz iW λd=>absurd (Kt a (Kt b (Kt c d))) h
theorem sY{p q:T4}(h:d6 p q=u):d6 q p=BQ:=by
 cases e:d6 q p with
 |false=>rfl
 |true=>have:=oN h e;rw[mb]at this;cases this
theorem sr{a:Array aO}{l:List aO}(h:a.toList=l):a=⟨l⟩:=congrArg Mj h
inductive I4(h:CG)(v:Z)(t:T4):Prop
 |mk:∀a o n k1 k2 k3 k4,v=.ref a->h.get? a=H o->o.cls=.type "tuple"->o.data=.seq #[.int t.1 k1,.int t.2.1 k2,.str t.2.2.1 k3,.str t.2.2.2 k4] n->I4 h v t
variable{as:List M}{v:Z}
theorem ou{h:CG}{t:T4}(r:E2 h v (dM t) as):I4 h v t:=by
 obtain⟨a,o,vs,n,e,h1,h2,i,b⟩:=nI r;obtain⟨_,_,_,_,c,_,a2,b⟩:=f8 b;obtain⟨_,_,_,_,d,_,bH,b⟩:=f8 b;obtain⟨_,_,_,_,f,_,ef,b⟩:=f8 b;obtain⟨_,_,_,_,g,_,j,b⟩:=f8 b;obtain⟨k1,aT,_⟩:=E8 a2;obtain⟨k2,aX,_⟩:=E8 bH;obtain⟨k3,bc,_⟩:=EL ef;obtain⟨k,cG,_⟩:=EL j;rw[(C4 b).1,cG]at g;rw[g,bc]at f;rw[f,aX]at d;rw[d,aT]at c;exact⟨a,o,n,k1,k2,k3,k,e,h1,h2,i.trans (U (sr c) R)⟩
theorem qp.Si{h ay:CG}(k:∀b o,h.get? b=H o->ay.get? b=H o){d:Cj}(r:E2 h v d as):E2 ay v d as:=
 (dc.RS ⟨λa o e c=>k a o e,λa o c e=>k a o e,λc h=>h⟩ r λc c=>trivial)
theorem uF{p q:T4}{bs:List M}{C:Bool->BN->Prop}(a:E2 s.heap (vs.getD i DV) (dM p) as)(b:E2 s.heap (vs.getD j DV) (dM q) bs)(h:C (d6 p q) s):Mv prog w A (tuples' u) vs i j C s:=by
 obtain⟨x,r,t,x1,x2,x3,gU,c,d,v,e⟩:=ou a;obtain⟨y,z,B,f,g,k,l,m,n,D,o⟩:=ou b;unfold Mv;refine U c (U m (kat_lt d e n o ?_));refine(?_:KatLex prog w A u BQ C [(.int p.1 x1,.int q.1 f),(.int p.2.1 x2,.int q.2.1 g),(.str p.2.2.1 x3,.str q.2.2.1 k),(.str p.2.2.2 gU,.str q.2.2.2 l)] 0 s);unfold d6 at h;refine Ke (GO ?_)
 by_cases cj:p.1=q.1
 .rw[if_pos cj]at h;refine U (show(p.1==q.1)=u from beq_iff_eq.mpr cj)<|kat_yes (Ke (GO ?_))
  by_cases cq:p.2.1=q.2.1
  .rw[if_pos cq]at h;refine U (show(p.2.1==q.2.1)=u from beq_iff_eq.mpr cq)<|kat_yes (Ke (M1 ?_))
   by_cases du:p.2.2.1=q.2.2.1
   .rw[if_pos du]at h;refine U (show(p.2.2.1==q.2.2.1)=u from beq_iff_eq.mpr du)<|kat_yes (Ke (M1 ?_))
    by_cases fp:p.2.2.2=q.2.2.2
    .rw[if_pos fp]at h;refine U (show(p.2.2.2==q.2.2.2)=u from beq_iff_eq.mpr fp)<|kat_yes (kat_nil h)
    .rw[if_neg fp]at h;refine U (show(p.2.2.2==q.2.2.2)=BQ from beq_eq_false_iff_ne.mpr fp)<|kat_no (Mu _ _ (Gq h))
   .rw[if_neg du]at h;refine U (show(p.2.2.1==q.2.2.1)=BQ from beq_eq_false_iff_ne.mpr du)<|kat_no (Mu _ _ (Gq h))
  .rw[if_neg cq]at h;refine U (show(p.2.1==q.2.1)=BQ from beq_eq_false_iff_ne.mpr cq)<|kat_no (Mu _ _ (JL h))
 .rw[if_neg cj]at h;refine U (show(p.1==q.1)=BQ from beq_eq_false_iff_ne.mpr cj)<|kat_no (oneLt_int h)
variable{bf:List T4}
theorem yo(r:C7 s.heap vs (bf.map dM) as)(c:bf≠[]){Q:L8->BN->Prop}(h:Q (tuples' u) s):B9 (DA prog w) A (keyKind' vs.toArray) Q E s:=by
 have d:∀{vs:List Z}{bf:List T4}{as:List M},C7 s.heap vs (bf.map dM) as->∃cF,KatTups s.heap vs cF/\cF.length=bf.length/\∀v∈cF,∃i t,v=Lt i t:=by
  intro vs bf
  induction bf generalizing vs with
  |nil=>intro as r;exact U ((C4 r).1) ⟨[],.nil,R,λe h=>nomatch h⟩
  |cons t bf f=>
   intro as r;obtain⟨_,_,_,_,rfl,_,a2,bH⟩:=f8 r
   .obtain⟨cF,b⟩:=f bH;refine A3 b λk1 k2 k3=>?_;clear b;obtain⟨a,o,n,aT,aX,bc,cG,rfl,g,aL,j⟩:=ou a2;refine⟨.int t.1 aT::cF,.cons g aL j R k1,congrArg (·+1) k2,λv hv=>?_⟩;rcases BX.mp hv with rfl|hv
    .exact⟨_,_,R⟩
    .exact k3 v hv
 obtain⟨cF,b⟩:=d r;refine A3 b λk1 k2 k3=>?_;clear b;refine kat_kind (T:=.type "int") k1 (dk k2 (G2.mpr c)) (λv hv A Q E s e k=>?_) R h;obtain⟨i,t,rfl⟩:=k3 v hv;exact BW k
theorem zK{h:CG}{F:M->Prop}{ρ:Nat->M}(r:C7 h vs (bf.map dM) as)(l:∀a∈as,F a)(aL:Cy (bf.map dM)=u)(z:T4):∀dj:List Nat,(∀i∈dj,i<bf.length)->bA c h F ρ k ((dj.map λi=>dM ((bf[i]?).getD z)).map .ab) (dj.map λi=>vs.getD i DV):=by
 intro dj
 induction dj with
 |nil=>
  intro _
  exact .a6
 |cons i dj e=>
  intro hi;have d:=hi i (.head _);have f:(bf.map dM)[i]?=H (dM (bf[i]'d)):=BK Ck (U (BU d) R);obtain⟨v,bs,g⟩:=iP.R7 r f;refine A3 g λaT aX bc=>?_;clear g;have m:(bf[i]?).getD z=bf[i]'d:=U (BU d) R;have n:vs.getD i DV=v:=BK FW (U aT R);refine(?_:bA c h F ρ k (.ab (dM ((bf[i]?).getD z))::_) (vs.getD i DV::_));refine U m (U n (.aU (.ab aX (λa an=>l a (bc a an)) ?_) (e λj o=>hi j (.tail _ o))))
  have p:∀xs:List Cj,Cy xs=u->∀x∈xs,x.canLay0=u:=λxs=>by
   induction xs with
   |nil=>intro _ x b;cases b
   |cons y ys e=>
    intro h x b;simp only[Cy,Cv]at h;rcases BX.mp b with rfl|b
    .exact h.1
    .exact e h.2 x b
  exact p _ aL _ (B5 f)
theorem yT{a:Y}(an:dF σ a (bf.map dM))(P:bf.Nodup)(h2:2<=bf.length)(S:bf.length<64)(h:∀aZ:List T4,aZ.Perm bf->aZ.Pairwise (λp q=>d6 p q=u)->Q (.ab (.list (aZ.map dM))) σ):WK c d (.bT (.builtin "sorted")) [a] [] [] σ Q X:=WK.Pn λA g s names L b aR r f a2=>by
 obtain⟨l,vs,as,_,rfl,h1,t,T,W,_⟩:=an.NV r a2;have ac:vs.toList.length=bf.length:=BK (iP.QO t) ((BH ..))
 let z:T4:=(0,0,B0,B0)
 let m:Nat->T4:=λi=>(bf[i]?).getD z
 have ae:∀i j,i<bf.length->j<bf.length->i≠j->m i≠m j:=λi j hi n x e=>x (by
  have w:bf[i]?=H (m i):=by show _=H ((bf[i]?).getD z);rw[BU hi];rfl
  have y:bf[j]?=H (m j):=by show _=H ((bf[j]?).getD z);rw[BU n];rfl
  rw[e]at w;exact(EI hi P).mp (w.trans y.symm))
 have df:oQ bf.length λi j=>d6 (m i) (m j):=⟨λi j k b b b h1 h2=>oN h1 h2,λi j b b h=>sY h,λi j hi n x=>vf (ae i j hi n x)⟩
 have B:∀i,i<bf.length->∃bs,E2 s.heap (vs.toList.getD i DV) (dM (m i)) bs:=λi hi=>by
  have ah:(bf.map dM)[i]?=H (dM (m i)):=by
   refine BK Ck (U (BU hi) ?_);refine(?_:H _=H (dM ((bf[i]?).getD z)));exact U (BU hi) R
  obtain⟨v,bs,F⟩:=iP.R7 t ah;refine A3 F λaT aX b=>?_;clear F;exact⟨bs,U FW (U aT aX)⟩
 refine AT (U Array.toArray_toList h1) ac h2 S df (λs' K Q E am=>yo (dc.QN ⟨λa o e b=>K.NY a o e,λa o b e=>K.NY a o e,λb h=>h⟩ t λb b=>trivial) (λe=>by rw[e]at h2;cases h2) am)
  (λs' K i j C hi n ao=>?_) λp s' D e ai ap K av ax=>?_
 .obtain⟨bs,ay⟩:=B i hi;obtain⟨bS,aB⟩:=B j n;exact uF (qp.Si K.NY ay) (qp.Si K.NY aB) ao
 .have G:p.toList.Perm (Ch bf.length):=by simpa using H9.mp ai.Py
  have aE:∀i∈p.toList,i<bf.length:=λi hi=>CU.mp (G.mem_iff.mp hi)
  have aJ:(Ch bf.length).map m=bf:=by
   apply List.ext_getElem?;intro i
   by_cases hi:i<bf.length
   .refine BK Ck (U (ES hi) ?_);refine(?_:H ((bf[i]?).getD z)=_);exact U (BU hi) R
   .exact BK (Jd (a3 (BH ..) (a3 Ct (Ea ‹_›)))) (bP (Jd (Ea ‹_›)) R)
  have aL:=zK (c:=c) (ρ:=g.a) (k:=σ.aa) t T W z p.toList aE;refine mN r f K.NY K.bX K.Ot K.C av ax ⟨R,R,R⟩ R ?_ (.inl (h (p.toList.map m) ?_ ?_))
  .have:=aL.be ⟨λa o e b=>K.NY a o e,λa o b e=>K.NY a o e,λb h=>h⟩ (λb b=>R) (BJ _);rw[CJ,CJ]at*;exact this
  .have:=G.map m;rw[aJ]at this;exact this
  .rw[F7,Ds];intro i j hi n I;have aO:=ai.bX;have N:j<bf.length:=by refine br aO ?_;simpa using n
   have aW:i<bf.length:=aV [_,_,_] aC au bV af aC af al I N;have h1:=ap i j I N
   have w:p.toList[i]=gP p i:=by
    have:=pe (i:=i) ‹_›;rw[←CN,BU hi]at this;exact CO this
   have y:p.toList[j]=gP p j:=by
    have:=pe ‹_›;rw[←CN,BU n]at this;exact CO this
   exact U w (U y h1)
noncomputable abbrev iS(p:Int×Int):Cj:=.tuple [.int p.1,.int p.2]
theorem xD{x y:M}{b a:Ge}{d e:Nat}{k1 k2 k3 f:Jg}{P:PySem.Fin->BN->Prop}(g:s.heap.get? x=H b)(i:b.data=.seq #[.int p.1 k1,.int p.2 k2] d)(c:s.heap.get? y=H a)(j:a.cls=.type "tuple")(k:a.data=.seq #[.int q.1 k3,.int q.2 f] e)(h:P (.done (.ret (.bool (dL p q)))) s):
  B9 (DA prog w) A (Builtin.«tuple.__lt__» ⟨[.ref x,.ref y],[]⟩) P E s:=by
 refine(?_:B9 _ _ (KL (.ref y) (.type "tuple")>>=_) _ _ s);refine BM (Iw ⟨a,c,j⟩ isSubtype_tuple_tuple ?_);simp only[IH,Ex,if_false];refine BM (KM g i (BM (KM c k ?_)));unfold dL at h;refine BM ?_;refine U (EE ..)<|wpAny_bind (BM (GO ?_))
 by_cases cj:p.1=q.1
 .rw[if_pos cj]at h;refine U (show(p.1==q.1)=u from beq_iff_eq.mpr cj) ?_;simp only[IH,Ex,if_false];refine BW ?_;dsimp only;refine U (EE ..)<|wpAny_bind (BM (GO ?_))
  by_cases cq:p.2=q.2
  .rw[if_pos cq]at h;refine U (show(p.2==q.2)=u from beq_iff_eq.mpr cq) ?_;simp only[IH,Ex,if_false];refine BW ?_;dsimp only;refine U Fb<|wpAny_pure (BW h)
  .rw[if_neg cq]at h;refine U (show(p.2==q.2)=BQ from beq_eq_false_iff_ne.mpr cq) ?_;simp only[KC,if_true];refine BM (Gj (BM (JL (BM (BW (BW (BW (BW h))))))))
 .rw[if_neg cj]at h;refine U (show(p.1==q.1)=BQ from beq_eq_false_iff_ne.mpr cj) ?_;simp only[KC,if_true];refine BM (Gj (BM (JL (BM (BW (BW (BW (BW h))))))))
inductive I2(h:CG)(v:Z)(p:Int×Int):Prop
 |mk:∀a o n k1 k2,v=.ref a->h.get? a=H o->o.cls=.type "tuple"->o.data=.seq #[.int p.1 k1,.int p.2 k2] n->I2 h v p
theorem tH{h:CG}(r:E2 h v (iS p) as):I2 h v p:=by
 obtain⟨a,o,vs,n,e,h1,h2,f,b⟩:=nI r;obtain⟨_,_,_,_,c,_,a2,b⟩:=f8 b;obtain⟨_,_,_,_,d,_,bH,b⟩:=f8 b;obtain⟨k1,aT,_⟩:=E8 a2;obtain⟨k2,aX,_⟩:=E8 bH;rw[(C4 b).1,aX]at d;rw[d,aT]at c;exact⟨a,o,n,k1,k2,e,h1,h2,f.trans (U (sr c) R)⟩
theorem sI(h:Q (.ab (.bool (dL p q))) σ):co rV c d (CC .Lt) (.ab (iS p)) (.ab (iS q)) σ Q X:=λA g s names L bl v m r f a b=>by
 obtain⟨_,a,_,_⟩:=a.NV;obtain⟨_,b,_,_⟩:=b.NV;obtain⟨x,w,z,k1,k2,rfl,i,j,n⟩:=tH a;obtain⟨y,B,C,k3,D,rfl,k,l,o⟩:=tH b;have t:=m.QZ
 exact wpAny_richCompare_same_room (op:=.Lt) ⟨_,i,j⟩ ⟨_,k,l⟩ IJ
  (Eh IJ ⟨_,i,j⟩ Nv (xD i n k l o ⟨_,R,(λe=>nomatch e),bZ.Oi r f (.Oz _) h⟩) (NF _ _)) (by refine(?_:A.units<9900);exact a0 [_,_] (aq (aq ak (fz 100 af)) a7) (nA 9000) aC (nA 9900) al t)
end
section
set_option tactic.hygienic false
variable{c:Cx}{d:Nat}{σ:V}{X:AX->V->Prop}{Q:Y->V->Prop}
theorem hq{a:Nat}(k:Nat)(b:0<k/\k<1073741824)(h:Q (.ab (.int ((a/k:Nat):Int))) σ):co rV c d (EU .FloorDiv) (.ab (.int (a:Int))) (.ab (.int (k:Int))) σ Q X:=
 qw (by lia) (by(simp <;> exact b.2)) (by
  have e:Int.fdiv (a:Int) (k:Int)=((a/k:Nat):Int):=by
   exact(IC _ (C5 k))
  exact U e h)
theorem gd{a:Nat}(k:Nat)(b:0<k)(h:Q (.ab (.int ((a%k:Nat):Int))) σ):co rV c d (EU .Mod) (.ab (.int (a:Int))) (.ab (.int (k:Int))) σ Q X:=
 qV (by lia) (by
  have e:Int.fmod (a:Int) (k:Int)=((a%k:Nat):Int):=by
   exact(Int.fmod_eq_emod_of_nonneg _ (C5 k))
  exact U e h)
structure LI(ah:Nat)(a9 a4:List (Nat×Y))(τ:V):Prop where
 aa:ah+15<=τ.aa
 QT:∀i v,J a9 i=H v->i<15/\J τ.aj (ah+i)=H (.ar (H v))
 I:∀i,i<15->∃v,J τ.aj (ah+i)=H (.ar v)
 ag:∀k v,J a4 k=H v->J τ.ag k=H v
section
variable{ah:Nat}{a9 a4:List (Nat×Y)}{τ τ':V}
theorem LI.ar(K:LI ah a9 a4 τ)(i:Nat){v:Y}(h:J a9 i=H v):J τ.aj (ah+i)=H (.ar (H v)):=(K.QT i v h).2
theorem LI.N2(K:LI ah a9 a4 τ)(k:Nat)(v:Y):LI ah a9 ((k,v)::a4) (τ.N2 k v):=
 ⟨K.aa,K.QT,K.I,λj w h=>by
  refine(?_:J ((k,v)::τ.ag) j=_);rw[de]at h⊢
  by_cases e:j=k
  .rw[if_pos e]at h⊢;exact h
  .rw[if_neg e]at h⊢;exact K.ag j w h⟩
theorem LI.OU(K:LI ah a9 a4 τ)(i:Nat)(v:Y)(hi:i<15):LI ah ((i,v)::a9) a4 (τ.NX (ah+i) (.ar (H v))):=
 ⟨K.aa,λj w h=>by
  refine(?_:_/\J ((ah+i,_)::τ.aj) (ah+j)=_);rw[de]at h⊢
  by_cases e:j=i
  .rw[if_pos e]at h;cases h;exact U (if_pos (by exact Cg (a0 [_,_,_] af au (aq ak af) (aq ak au) al (eL e)) (a0 [_,_,_] af au (aq ak af) (aq ak au) al (eR e)))) ⟨aV [_,_] b1 (nA 15) ak af aC (nA 15) al hi (eL e),R⟩
  .rw[if_neg e]at h;exact U (if_neg (by lia)) (K.QT j w h),λj a=>by
  show ∃v,J ((ah+i,_)::τ.aj) (ah+j)=_;refine U (de ..) ?_
  by_cases e:ah+j=ah+i
  .exact U (if_pos e) ⟨_,R⟩
  .exact U (if_neg e) (K.I j a),K.ag⟩
theorem LI.be(K:LI ah a9 a4 τ)(c:τ.aa<=τ'.aa)(d:τ'.ag=τ.ag)(a:∀i,ah<=i->i<ah+15->J τ'.aj i=J τ.aj i):LI ah a9 a4 τ':=
 ⟨BG K.aa c,λi v h=>by
  obtain⟨b,h1⟩:=K.QT i v h;exact U (a _ (B4 ..) (by exact a0 [_,_] b1 (nA 15) (aq (aq ak af) a7) (ct 0 15) al b)) ⟨b,h1⟩,λi hi=>U (a _ (B4 ..) (by exact a0 [_,_] b1 (nA 15) (aq (aq ak af) a7) (ct 0 15) al hi)) (K.I i hi),λk v h=>U d (K.ag k v h)⟩
theorem LI.OL(K:LI ah a9 a4 τ){n:Nat}(b:τ.aa<=n):LI ah a9 a4 ⟨n,τ.aj,τ.ag⟩:=K.be b R λa a a=>R
theorem LI.P7(K:LI ah a9 a4 τ){i:Nat}(hi:ah+15<=i)(o:bL):LI ah a9 a4 (τ.NX i o):=K.be (BJ _) R λj a b=>by
 exact aS (nK ‹_› ‹_›) R
theorem LI.Q1(K:LI ah a9 a4 τ){T:List Nat}(h:hE T τ τ')(a:∀i∈T,ah+15<=i):LI ah a9 a4 τ':=K.be h.aa h.ag λi h1 h2=>h.aj i (by have:=K.aa;exact BL ‹_› ‹_›) λb=>by have:=a i b;exact nf (aV [_,_] aC (ct 1 15) (ct 1 15) ak a7 c8 al h2 this)
theorem LI.bp(K:LI ah a9 a4 τ){a:List (Nat×Y)}(h:∀k v,J a k=H v->J a4 k=H v):LI ah a9 a τ:=⟨K.aa,K.QT,K.I,λk v e=>K.ag k v (h k v e)⟩
end
noncomputable def oR:List O:=["turn","side","word","text","row","words","due","order","laid","told","pieces","tail","first","handed","kept","other","closes","run","gone","left","low","taken"]
noncomputable def t0:List (O×Nat):=[("drawn",14),("label",13),("ahead",12),("last",11),("when",10),("table",9),("desk",8),("great",7),("number",6),("sense",5),("come",4),("long",3),("names",2),("many",1),("sums",0)]
noncomputable def ua(n:Nat):List (O×Nat):=t0.map λp=>(p.1,n+p.2)
noncomputable def xB:List O:=["drawn","label","ahead","last","when","table","desk","great","number","sense","come","long","names","many","sums"]
noncomputable def oB:List O:=["list","insort_left","insort_right","range","_law_desk","Headers","sorted","_law_forth","_law_refused","_law_text","_pre_parse_validation","_law_back","min","_law_way","bisect_left","bisect_right","_check_parenthesis","len"]
noncomputable def s3(a:LA):List Z:=[.type "list",.ref a.OS.1,.ref a.OV.1,.type "range",.ref a.Pz.1,.ref a.OQ,.builtin "sorted",.ref a.Pf.1,.ref a.Ps.1,.ref a.Pt.1,.ref a.Qs.1,.ref a.OW.1,.builtin "min",.ref a.Pq.1,.ref a.O5.1,.ref a.Om.1,.ref a.RB.1,.builtin "len"]
noncomputable def iE(a:LA)(n:Nat):bB:=eX (az 29).aM oR (ua n) oB (s3 a) "_law_line" a.ee.1 a.ee.2
theorem yc:dp (az 29).aM oR xB oB=u:=by decide+kernel
variable{a:LA}{n:Nat}
theorem za{c:Bx}(D:cP c a)(b:cr c "list" (.type "list")):(iE a n).Ok c (n+15):=
 e0 yc R ⟨b,D.Rf,D.Rh,D.QU,D.S2,D.SA,D.RL,D.SS,D.RG,D.Sw,D.Ta,D.S6,D.SJ,D.Tf,D.PQ,D.P0,D.RF,D.B.cZ,trivial⟩ λq d=>zx t0 R d
variable{x:O}
theorem nL(k:Nat)(h:oR[k]?=H x):(x,cQ.ag k)∈(iE a n).bN:=mL h
theorem nC(i:Nat)(h:(ua n)[14-i]?=H (x,n+i)):(x,cQ.ar (n+i))∈(iE a n).bN:=mC (B5 h)
theorem nG{v:Z}(k:Nat)(h:oB[k]?=H x)(ay:(s3 a)[k]?=H v):(x,cQ.Ow v)∈(iE a n).bN:=mG k h ay
noncomputable def bw(i:Nat):DZ:=((az 29).h[i]?).getD (.Pass ⟨0,0,0,0⟩)
structure Rn(c:Cx)(d:Nat)(a:LA)(ah:Nat)(B:List DZ)(τ:V)(Q:bY->V->Prop)(X:AX->V->Prop):Prop where
 o:WS c d (iE a ah) B τ Q X
variable{B:List DZ}{τ:V}
theorem Rn.Oq{ah:Nat}{b:DZ}{Q:bY->V->Prop}(h:eK c d (iE a ah) b τ (ky c d (iE a ah) B Q X) X):Rn c d a ah (b::B) τ Q X:=⟨aQ h⟩
section
variable{c:Cx}{d:Nat}{ae:bB}{σ:V}{bQ:Ef}{n:Nat}{cl:List (O×Nat)}{w:O}{names gn:List O}{gv:List Z}
noncomputable abbrev g8(ae:bB)(bQ:Ef)(n:Nat)(cl:List (O×Nat))(w:O)(names gn:List O)(gv:List Z):bB:=ae.Qp bQ n cl names (jb names ((w,n)::cl) gn gv)
theorem pW{c:Bx}{cn:List O}{m:Nat}(f:dp (db bQ ae.aM) names (w::cn) gn=u)(g:cl.map (·.1)=cn)(d:fs n bQ.names cl=(w,n)::cl)(h:j0 c gn gv)(aL:∀q∈cl,q.2<m)(e:n<m):(g8 ae bQ n cl w names gn gv).Ok c m:=by
 have:=e0 (q:=B0) (a:=0) (cc:=0) (cells:=(w,n)::cl) f (BK CR (U g R)) h (λq b=>by
  rcases BX.mp b with rfl|b
  .exact e
  .exact aL q b)
 exact⟨this.L,this.OZ,λq b=>by
  have:=this.bN q b;refine(?_:ow c (db bQ ae.aM) names (fs n bQ.names cl) q.1 q.2/\_);exact U d this,λq b=>by
  have b:q∈fs n bQ.names cl:=b;rw[d]at b;rcases BX.mp b with rfl|b
  .exact e
  .exact aL q b⟩
theorem kz:(w,cQ.ar n)∈(g8 ae bQ n cl w names gn gv).bN:=
 Ce _ (Ci _ (B7.mpr ⟨(w,n),.head _,R⟩))
theorem nq{i:Nat}(h:(x,i)∈cl):(x,cQ.ar i)∈(g8 ae bQ n cl w names gn gv).bN:=
 Ce _ (Ci _ (B7.mpr ⟨(x,i),.tail _ h,R⟩))
theorem pB(k:Nat){v:Z}(h:gn[k]?=H x)(ay:gv[k]?=H v):(x,cQ.Ow v)∈(g8 ae bQ n cl w names gn gv).bN:=
 Ce _ (Ce _ (B7.mpr ⟨(x,v),by
  refine B5 (i:=k) ?_;rw[F4];exact⟨h,ay⟩,R⟩))
structure hm(σ₀ σ:V):Prop where
 aa:σ₀.aa+1<=σ.aa
 ar:∃v,J σ.aj σ₀.aa=H (.ar v)
 aj:∀i o,i≠σ₀.aa->J σ₀.aj i=H o->J σ.aj i=H o
theorem hm.NW{a σ σ':V}(h:hm a σ)(c:σ.aa<=σ'.aa)(b:∀i o,J σ.aj i=H o->J σ'.aj i=H o):hm a σ':=
 ⟨BG h.aa c,by obtain⟨v,e⟩:=h.ar;exact⟨v,b _ _ e⟩,λi o hi e=>b i o (h.aj i o hi e)⟩
theorem hm.NX{a σ:V}(h:hm a σ)(v:Y):hm a (σ.NX a.aa (.ar (H v))):=
 ⟨h.aa,⟨_,bq _ _ _⟩,λi o hi e=>by
  exact aS hi (h.aj i o hi e)⟩
theorem va{eB target:CQ}{cV:List CQ}{a:Y}{xs:List Y}{g:V}{j:V->V}{f:Nat->Option Cj}{K:(V->V)->Y->V->Prop}(x:dm c σ a xs g j)(z:(g8 ae bQ σ.aa cl w names gn gv).Ok c (g.aa+1))(r:∀τ:V,τ.b0 bQ.names=τ.N0 (.ar B2))(A:xs.length<=1000)(B:g.PC)
  (C:∀k y h,xs[k]?=H y->hm g h->∃m,gC (g8 ae bQ σ.aa cl w names gn gv) target h y m/\i5 c d (g8 ae bQ σ.aa cl w names gn gv) cV m λb p=>
   (b=u->WE c d (g8 ae bQ σ.aa cl w names gn gv) eB p (λw s=>(∃v,f k=H v/\w=.ab v)/\hm g s) cm)/\(b=BQ->f k=B2/\hm g p))
  (D:∀n,g.aa<=n->K j (.ab (.list ((Ch xs.length).filterMap f))) ⟨n,g.aj,g.ag⟩):
  hY c d ae target cV bQ cl hU [] (jA eB) σ a λj g σ' ba=>LQ g σ' ba (K j):=by
 refine⟨xs,g,j,names,jb names ((w,σ.aa)::cl) gn gv,λk h ba=>k<=xs.length/\hm g h/\ba=((Ch k).filterMap f).map .ab,x,U (r ..) z,⟨Cm _,by
  refine U (r ..)<|⟨BJ _,⟨_,bq _ _ _⟩,λi o hi e=>by
   exact aS hi e⟩,R⟩,λk y h ba t⟨G,l,an⟩=>?_,λh ba⟨_,l,an⟩=>?_⟩
 .obtain⟨m,ao,eg⟩:=C k y h t l;have q:=(BY.mp t).1
  have E:ba.length<=1000000:=by
   refine U an (a3 (BH ..) ?_);have:=E0 f (Ch k);rw[Ct]at this;exact cI [_,_,_] af dT bV af ak au ak dD al A q this
  refine⟨m,ao,eg.be λb p⟨h1,h2⟩=>⟨λac=>ms E ((h1 ac).be λw s⟨⟨v,hv,F⟩,hi⟩=>⟨q,hi,?_⟩),λac=>⟨q,(h2 ac).2,?_⟩⟩⟩
  .exact U (m7 ..) (U hv (U an (U F (bP Cb R))))
  .refine U (m7 ..) (U ((h2 ac).1) (BK an ?_));simp
 .exact⟨⟨h.aa,g.aj,g.ag⟩,.inr ⟨R,λi o e=>l.aj i o (BZ (B i o e)) e⟩,R,BG (Cr _) l.aa,.inl ⟨_,an,D _ (BG (Cr _) l.aa)⟩⟩
theorem rh{dy eC target:CQ}{cV:List CQ}{a:Y}{xs:List Y}{f:V}{h:V->V}{kvs:List (O×Cj)}{K:(V->V)->Y->V->Prop}(G:dm c σ a xs f h)(I:(g8 ae bQ σ.aa cl w names gn gv).Ok c (f.aa+1))(v:∀τ:V,τ.b0 bQ.names=τ.N0 (.ar B2))(L:kvs.length<=1000)(x:kvs.length=xs.length)(N:(kvs.map (·.1)).Nodup)(P:f.PC)
  (Q:∀(k:Nat)(y:Y)(g:V)(p:O×Cj),xs[k]?=H y->kvs[k]?=H p->hm f g->∃m,gC (g8 ae bQ σ.aa cl w names gn gv) target g y m/\i5 c d (g8 ae bQ σ.aa cl w names gn gv) cV m λb z=>b=u/\
   WE c d (g8 ae bQ σ.aa cl w names gn gv) dy z (λr A=>r=.ab (.str p.1)/\WE c d (g8 ae bQ σ.aa cl w names gn gv) eC A (λr B=>r=.ab p.2/\hm f B) cm) cm)
  (S:∀n,f.aa<=n->K h (.c5 kvs) ⟨n,f.aj,f.ag⟩):
  hY c d ae target cV bQ cl iz [] (j5 dy eC) σ a λh f σ' ba=>DQ f σ' ba (K h):=by
 refine⟨xs,f,h,names,jb names ((w,σ.aa)::cl) gn gv,λk g ba=>k<=xs.length/\hm f g/\ba=kvs.take k,G,U (v ..) I,⟨Cm _,by
  refine U (v ..)<|⟨BJ _,⟨_,bq _ _ _⟩,λi o hi e=>by
   exact aS hi e⟩,R⟩,λk y g ba C⟨av,l,an⟩=>?_,λg ba⟨_,l,an⟩=>?_⟩
 .have D:=(BY.mp C).1;obtain⟨p,ai⟩:∃p,kvs[k]?=H p:=⟨_,BU (by exact aV [_,_,_] au af aC au aC af al (eR x) D)⟩;obtain⟨m,ao,eg⟩:=Q k y g p C ai l;have T:ba.length<=1000000:=by refine U an (a3 CM ?_);exact aV [_,_] af dT ak af ak dD al L (Da _ _)
  refine⟨m,ao,eg.be λb z⟨ac,h1⟩=>⟨λax=>rS T (h1.be λw A⟨W,h2⟩=>⟨p.1,W,?_,h2.be λw B⟨X,hi⟩=>⟨p.2,X,D,hi,?_⟩⟩),λE=>by rw[ac]at E;cases E⟩⟩
  .refine U an ?_;intro ah;obtain⟨q,am,e⟩:=B7.mp ah;obtain⟨j,s⟩:=GM.mp am
   have F:j<k:=by
    have:=(BY.mp s).1;rw[CM]at this;exact aV [_,_,_] aC au au af aC af al this (Dq _ _)
   rw[IM F]at s;have t:(kvs.map (·.1))[j]?=H q.1:=BK Ck (U s R);have ap:(kvs.map (·.1))[k]?=H p.1:=BK Ck (U ai R);rw[e]at t;have:=(EI (BY.mp t).1 N).mp (t.trans ap.symm);exact nf (aV [_,_] aC af af ak a7 c8 al F (eR this))
  .exact U an (bP CX (U ai R))
 .refine⟨⟨g.aa,f.aj,f.ag⟩,.inr ⟨R,λi o e=>l.aj i o (BZ (P i o e)) e⟩,R,BG (Cr _) l.aa,U an (br x (U Dg ?_))⟩;exact S _ (BG (Cr _) l.aa)
end
noncomputable def rA:O:="\t \"#()\\a"
noncomputable def gH:List O:=dn rA
noncomputable def tj(a w:Nat):List O:=(gH.drop w).take a
noncomputable def mn(names:List O)(a:Nat)(b:Bool):List O:=
 if b then(names.drop a++names.take a).reverse else names.drop a++names.take a
structure aD where
 d:Nat
 N:List Nat
structure aD.Ok(p:aD):Prop where
 d:p.d=4\/p.d=5
 cZ:p.N.length=6
 Bw:∀s∈p.N,s<=400000
noncomputable def aD.Og(p:aD)(k:Nat):Nat:=p.N.getD k 0
noncomputable def aD.aG(p:aD):List O:=tj p.d (p.Og 5/10%(9-p.d))
noncomputable def aD.O0(p:aD):Nat:=p.Og 5/50%p.d
noncomputable def aD.OE(p:aD):Nat:=1+p.Og 5%5
noncomputable def aD.RQ(p:aD):Bool:=p.Og 5/250%2 !=0
noncomputable def aD.Od(p:aD):List O:=mn p.aG p.O0 p.RQ
noncomputable def aD.Oo(p:aD):Bool:=p.Og 5/5%2 !=0
noncomputable def aD.O2(p:aD):Int:=if p.Oo then -1 else 1
noncomputable def aD.O8(p:aD)(w:O):Nat:=p.Og (p.aG.idxOf w)
structure n1(v:O):Prop where
 O7:v.length=1
 RA:BR v=u
 Rw:fA ie v=H BQ
variable{v:O}
theorem n1.RM(h:n1 v):m1 v:=⟨by have:=h.O7;exact a0 [_] ak a7 ak dT al (eL this),h.RA,h.Rw⟩
noncomputable def tJ(v:O):Bool:=v.length==1&&BR v&&(fA ie v==H BQ)
theorem zO:gH.all tJ=u:=by decide+kernel
theorem uV:gH.Nodup:=by decide+kernel
theorem rQ:gH.length=8:=by decide+kernel
theorem pj(h:v∈gH):n1 v:=by
 have:=Cn.mp zO v h;simp only[tJ,Cv,beq_iff_eq]at this;exact⟨this.1.1,this.1.2,this.2⟩
section
variable{p:aD}(h:p.Ok)
include h
theorem aD.Um:p.Og 5/10%(9-p.d)+p.d<9:=by
 rcases h.d with e|e <;> rw[e] <;> lia
theorem aD.Ox:p.aG.length=p.d:=by
 unfold aD.aG tj;refine BK CM (U Dh (U rQ (FJ (Nat.le_sub_of_add_le (D1 p.d _▸Dw (p.Um h))))))
omit h in
theorem aD.Qv(hv:v∈p.aG):v∈gH:=GR (Fz hv)
omit h in
theorem aD.Ra(hv:v∈p.aG):n1 v:=pj (aD.Qv hv)
omit h in
theorem aD.O4:p.aG.Nodup:=(uV.sublist (Hr _ _)).sublist (EH _ _)
theorem aD.Oj:4<=p.d/\p.d<=5:=by rcases h.d with e|e <;> lia
theorem aD.T9:p.O0<p.d:=CZ _ (by have:=p.Oj h;exact a0 [_] (nA 4) ak (aq c8 a7) ak al this.1)
omit h in
theorem uC(names:List O)(t:Nat)(r:Bool):(mn names t r).Perm names:=by
 unfold mn
 have h1:(names.drop t++names.take t).Perm names:=by
  have:=Jc (l₁:=names.drop t) (l₂:=names.take t);rwa [Fp]at this
 split
 .exact(List.reverse_perm _).trans h1
 .exact h1
omit h in
theorem aD.PD:p.Od.Perm p.aG:=uC _ _ _
theorem aD.Pw:p.Od.length=p.d:=BK aD.PD.length_eq ((p.Ox h))
omit h in
theorem aD.Rr:p.Od.Nodup:=aD.PD.nodup_iff.mpr aD.O4
omit h in
theorem aD.O6:v∈p.Od↔v∈p.aG:=aD.PD.mem_iff
theorem aD.R8{k:Nat}(a:k<6):p.N[k]?=H (p.Og k):=by
 unfold aD.Og;exact U FW (U (BU (dk h.cZ a)) R)
end
variable{aO:Type}{dj:List Nat}
theorem qa{xs:List aO}{lo hi st:Option Int}(h:Fi (Dd lo hi st xs.length).1 (Dd lo hi st xs.length).2.1 (Dd lo hi st xs.length).2.2=dj):e7 xs lo hi st=dj.filterMap (xs[·]?):=by
 unfold e7;exact U h R
theorem rf(xs:List aO):(Ch xs.length).filterMap (xs[·]?)=xs:=by simpa using g1 xs H
theorem x4{xs:List aO}(h:xs.length=4\/xs.length=5):e7 xs B2 B2 (H 1)=xs:=by
 rcases h with h|h <;> exact(qa (by refine U h ?_;decide+kernel)).trans (rf xs)
theorem vK{xs:List aO}(h:xs.length=4\/xs.length=5):e7 xs B2 B2 (H (-1))=xs.reverse:=by
 rcases h with h|h <;> exact(qa (by refine U h ?_;decide+kernel)).trans (BK List.filterMap_reverse (U (rf xs) R))
noncomputable abbrev fE(a:List Nat):List Cj:=a.map λ(s:Nat)=>.int (s:Int)
variable{k:Nat}
variable{ae:bB}
variable{i:Nat}{p:aD}{cx di eS:FH}
theorem i3(ai:p.Ok)(b:(("sums":O),cQ.ar i)∈ae.bN)(hi:J σ.aj i=H (.ar (H (.ab (.list (fE p.N))))))(k:Nat)(a:k<6){e:Nat}(h:Q (.ab (.int (p.Og k:Nat))) σ):WE c d ae (.Subscript (.Name "sums" cx) (.Constant (.int (k:Nat)) e di) eS) σ Q X:=
 c3 (bR b hi (bI (gl .aK (he (dk (BH ..) (dk ai.cZ a))) (BK Ck (U (p.R8 ai a) R)) (by refine a3 (BH ..) (a3 ai.cZ ?_);decide) h)))
section
variable{c:Cx}{d:Nat}{τ:V}{a:LA}{ah:Nat}{X:AX->V->Prop}{Q:bY->V->Prop}
theorem Ar(D:cP c a)(ai:p.Ok)(K:LI ah [(1,.ab (.int (p.d:Nat))),(0,.ab (.list (fE p.N)))] [] τ)
  (k:∀τ',LI ah [(2,.ab (.list (p.aG.map .str))),(1,.ab (.int (p.d:Nat))),(0,.ab (.list (fE p.N)))] [] τ'->Rn c d a ah B τ' Q X):Rn c d a ah (bw 0::B) τ Q X:=by
 constructor;have b:=p.Oj ai;obtain⟨f,h2⟩:=K.I 2 (DD R);have e:(9:Int)-(p.d:Int)=((9-p.d:Nat):Int):=by lia
 have g:((p.Og 5/10%(9-p.d):Nat):Int)=((p.Og 5/10%(9-p.d):Nat):Int):=R;have ac:((dn rA).map B1).length=8:=BK (BH ..) rQ;refine aQ (dh (gu (gu (d3 (nG 0 R R) (a1.PA _) (.Ov .a6) (qv (by decide+kernel) (.inl (gk (b4 (b4 (i3 ai (nC 0 R) (K.ar 0 R) 5 (DD R) (bI (hq 10 (by decide) (b4 (bI (bR (nC 1 R) (K.ar 1 R) (kE (U e ?_)))))))))))))))));refine gd _ (aV [_,_] af f2 (nA 9) (aq ak af) (aq c8 a7) ak al b.2 (sA _ _)) (dS (dS (gQ .aK (.Oh _) .none .none nofun (DD R) (.inl (U (pY ..) ?_)))));refine dS (gk (bR (nC 1 R) (K.ar 1 R) (dS (gQ .aK .none (.Oh _) .none nofun (by refine a3 Dh ?_;exact aV [_,_] af (nA 8) ak af ak dD al (eL ac) (DY _ _)) (.inl ?_)))));refine U (ob ..) (br EZ (br EF (⟨_,aH.ar (nC 2 R) h2,(k _ (K.OU 2 _ (DD R))).o⟩)))
end
theorem oL{a b:Nat}(h:Q (.ab (.int ((a+b:Nat):Int))) σ):co rV c d (EU .Add) (.ab (.int (a:Nat))) (.ab (.int (b:Nat))) σ Q X:=iw (br (H3 ..) h)
theorem pu{Q:Bool->V->Prop}(h:Q (n !=0) σ):e2 hX c d Hc (.ab (.int (n:Nat))) σ Q X:=yO (by
 have e:(((n:Nat):Int)!=0)=(n !=0):=by
  cases n with
  |zero=>rfl
  |succ n=>rw[show((n+1)!=0)=u from R,bne_iff_ne];(simp <;> lia)
 exact U e h)
noncomputable def fh(a:LA)(b:Bool):Y:=.bT (.ref (if b then a.OS.1 else a.OV.1))
noncomputable abbrev l8(p:aD):List (Nat×Y):=[(5,.ab (.int p.O2)),(4,.ab (.list (p.Od.map .str))),(3,.ab (.int (p.OE:Nat))),(2,.ab (.list (p.aG.map .str))),(1,.ab (.int (p.d:Nat))),(0,.ab (.list (fE p.N)))]
section
variable{c:Cx}{d:Nat}{τ:V}{a:LA}{ah:Nat}{X:AX->V->Prop}{Q:bY->V->Prop}
theorem wM(D:cP c a)(ai:p.Ok)(K:LI ah [(2,.ab (.list (p.aG.map .str))),(1,.ab (.int (p.d:Nat))),(0,.ab (.list (fE p.N)))] [] τ)
  (k:∀τ',LI ah [(3,.ab (.int (p.OE:Nat))),(2,.ab (.list (p.aG.map .str))),(1,.ab (.int (p.d:Nat))),(0,.ab (.list (fE p.N)))] [(0,.ab (.int (p.O0:Nat)))] τ'->Rn c d a ah B τ' Q X):Rn c d a ah (bw 1::B) τ Q X:=by
 constructor;have b:=p.Oj ai;obtain⟨f,e⟩:=K.I 3 (by decide);refine aQ (jL (xs:=["turn","long"]) R (hz (aI (b4 (b4 (i3 ai (nC 0 R) (K.ar 0 R) 5 (by decide) (bI (hq 50 (by decide) (bR (nC 1 R) (K.ar 1 R) (gd _ (a0 [_] (nA 4) ak (aq c8 a7) ak al b.1) ?_))))))))));refine aI (b4 (bI (b4 (i3 ai (nC 0 R) (K.ar 0 R) 5 (by decide) (bI (gd 5 (DD R) (oL (bn ⟨by refine(?_:2<=1000000);decide,_,_,dK.b2,.aU (aH.ag (nL 0 R)) (.aU (aH.ar (nC 3 R) e) (.a6 _)),(k _ ((K.N2 0 (.ab (.int (p.O0:Nat)))).OU 3 (.ab (.int (p.OE:Nat))) (by decide))).o⟩))))))))
theorem A8(D:cP c a)(ai:p.Ok)(K:LI ah [(3,.ab (.int (p.OE:Nat))),(2,.ab (.list (p.aG.map .str))),(1,.ab (.int (p.d:Nat))),(0,.ab (.list (fE p.N)))] [(0,.ab (.int (p.O0:Nat)))] τ)
  (k:∀τ',LI ah [(4,.ab (.list (p.Od.map .str))),(3,.ab (.int (p.OE:Nat))),(2,.ab (.list (p.aG.map .str))),(1,.ab (.int (p.d:Nat))),(0,.ab (.list (fE p.N)))] [] τ'->Rn c d a ah B τ' Q X):Rn c d a ah (bw 2::B) τ Q X:=by
 constructor;have e:=p.Oj ai;have m:=p.Ox ai;have ao:=p.T9 ai;obtain⟨n,i⟩:=K.I 4 (DD R);have j:(p.aG.map B1).length=p.d:=BK (BH ..) (m);refine aQ (dh (gu (b4 (gu (bR (nC 2 R) (K.ar 2 R) (gk (aw (nL 0 R) (K.ag 0 _ R) (dS (dS (gQ .aK (.Oh _) .none .none nofun (aV [_,_] af f2 ak af ak dD al e.2 (eL j)) (.inl (U (pY ..) ?_))))))))))));refine gu (bR (nC 2 R) (K.ar 2 R) (dS (gk (aw (nL 0 R) (K.ag 0 _ R) (dS (gQ .aK .none (.Oh _) .none nofun (aV [_,_] af f2 ak af ak dD al e.2 (eL j)) (.inl (U (ob ..) ?_))))))));have l:((p.aG.map B1).drop p.O0).length+((p.aG.map B1).take p.O0).length=p.d:=by refine U Dh (U CM ?_);lia
 have b:((p.aG.map B1).drop p.O0++(p.aG.map B1).take p.O0).length=4\/((p.aG.map B1).drop p.O0++(p.aG.map B1).take p.O0).length=5:=by
  exact U BV (U l ai.d)
 refine oa .aK .aK (aV [_,_,_] au f2 (aq ak af) au (aq ak af) dD al e.2 (eL l)) (.inl (dS (dS (gk (hN (gN (b4 (b4 (i3 ai (nC 0 R) (K.ar 0 R) 5 (DD R) (bI (hq 250 (by decide) (bI (gd 2 (DD R) (pu ⟨λac=>?_,λac=>?_⟩))))))))))))))
 .have f:p.RQ=u:=ac;have aL:p.Od=(p.aG.drop p.O0++p.aG.take p.O0).reverse:=by unfold aD.Od mn;exact(if_pos f)
  refine lj (bI (kU (gQ .aK .none .none (.Oh _) (by decide) (b.elim (λh=>a3 h (by decide)) λh=>a3 h (by decide)) (.inl (U (vK b) (br EZ (br EF (br Cb (br List.map_reverse (br aL ?_))))))))));exact⟨_,aH.ar (nC 4 R) i,(k _ ((K.OU 4 _ (by decide)).bp λg g h=>nomatch h)).o⟩
 .have f:p.RQ=BQ:=ac;have aL:p.Od=(p.aG.drop p.O0++p.aG.take p.O0):=by unfold aD.Od mn;exact(if_neg (by refine U f ?_;decide))
  refine bI (gQ .aK .none .none (.Oh _) (by decide) (b.elim (λh=>a3 h (by decide)) λh=>a3 h (by decide)) (.inl (U (x4 b) (br EZ (br EF (br Cb (br aL ?_)))))));exact⟨_,aH.ar (nC 4 R) i,(k _ ((K.OU 4 _ (by decide)).bp λg g h=>nomatch h)).o⟩
theorem zP(D:cP c a)(ai:p.Ok)(K:LI ah [(4,.ab (.list (p.Od.map .str))),(3,.ab (.int (p.OE:Nat))),(2,.ab (.list (p.aG.map .str))),(1,.ab (.int (p.d:Nat))),(0,.ab (.list (fE p.N)))] [] τ)
  (k:∀τ',LI ah (l8 p) [(1,fh a p.Oo)] τ'->Rn c d a ah B τ' Q X):Rn c d a ah (bw 3::B) τ Q X:=by
 constructor;obtain⟨f,e⟩:=K.I 5 (by decide);refine aQ (jL (xs:=["side","sense"]) R (hN (gN (b4 (b4 (i3 ai (nC 0 R) (K.ar 0 R) 5 (DD R) (bI (hq 5 (by decide) (bI (gd 2 (DD R) (pu ⟨λac=>?_,λac=>?_⟩)))))))))))
 .have b:p.Oo=u:=ac;refine hz (aI (dr (nG 1 R R) (aI (lj (bI (kU (bn ⟨by refine(?_:2<=1000000);decide,_,_,dK.b2,.aU (aH.ag (nL 1 R)) (.aU (aH.ar (nC 5 R) e) (.a6 _)),(k _ ?_).o⟩)))))));have:=(K.N2 1 (fh a u)).OU 5 (.ab (.int (-1))) (DD R);unfold l8 aD.O2;refine U b<|this
 .have b:p.Oo=BQ:=ac;refine hz (aI (dr (nG 2 R R) (aI (bI (bn ⟨by refine(?_:2<=1000000);decide,_,_,dK.b2,.aU (aH.ag (nL 1 R)) (.aU (aH.ar (nC 5 R) e) (.a6 _)),(k _ ?_).o⟩)))));have:=(K.N2 1 (fh a BQ)).OU 5 (.ab (.int 1)) (DD R);unfold l8 aD.O2;refine U b<|this
end
theorem tQ{xs:List O}(a:xs.Nodup):∀{k:Nat}{w:O},xs[k]?=H w->xs.idxOf w=k:=by
 induction xs with
 |nil=>intro k w h;cases h
 |cons x xs b=>
  intro k w h;rw[FC]at a;refine BK List.idxOf_cons ?_
  cases k with
  |zero=>cases h;simp
  |succ k=>
   rw[List.getElem?_cons_succ]at h
   have:(x==w)=BQ:=by
    rw[beq_eq_false_iff_ne];intro e;exact a.1 (e▸B5 h)
   refine U this ?_;refine(?_:xs.idxOf w+1=k+1);exact U (b a.2 h) R
variable{aR:List O}{g:O->Cj}
theorem lT:(aR.map λw=>(w,g w)).map (·.1)=aR:=by
 refine BK CJ<|List.map_id'' (λa=>R) aR
variable{w:O}
theorem hj(h:w∈aR):(aR.map λw=>(w,g w)).lookup w=H (g w):=by
 induction aR with
 |nil=>cases h
 |cons x aR a=>
  refine U CR (BK Fs ?_)
  by_cases e:w=x
  .subst e;simp
  .refine U (show(w==x)=BQ from beq_eq_false_iff_ne.mpr e) ?_;rcases BX.mp h with h|h
   .exact absurd h e
   .exact a h
theorem hJ{b9:Type}(g:aO->b9)(xs:List aO):xs.filterMap (λx=>H (g x))=xs.map g:=congrFun (Ee) xs
section
variable{c:Cx}{d:Nat}{ae:bB}{σ:V}{bQ:Ef}{n:Nat}{cl:List (O×Nat)}{names gn:List O}{gv:List Z}
theorem ik{tp:FH}{eB:CQ}{cV:List CQ}{f:O->Option Cj}{out:List Cj}{K:(V->V)->Y->V->Prop}(j:names[0]?=H x)(l:(fF ae bQ σ.aa cl names gn gv).Ok c σ.aa)(m:∀τ:V,τ.b0 bQ.names=τ)(o:aR.length<=1000)(p:aR.filterMap f=out)
  (q:∀w a,w∈aR->cD σ a->i5 c d (fF ae bQ σ.aa cl names gn gv) cV (a.N2 0 (.ab (.str w))) λb e=>
   (b=u->WE c d (fF ae bQ σ.aa cl names gn gv) eB e (λv i=>(∃bb,f w=H bb/\v=.ab bb)/\cD σ i) cm)/\(b=BQ->f w=B2/\cD σ e))
  (r:∀n,σ.aa<=n->K (λσ=>σ) (.ab (.list out)) ⟨n,σ.aj,σ.ag⟩\/K (λσ=>σ) (.aP n) (V.N0 ⟨n,σ.aj,σ.ag⟩ (.aN out))):
  hY c d ae (.Name x tp) cV bQ cl hU [] (jA eB) σ (.ab (.list (aR.map .str))) λs t σ' ba=>LQ t σ' ba (K s):=by
 refine gr (f:=λk=>aR[k]?.bind f) (dm.NW et.O1) l m (a3 (BH ..) (a3 (BH ..) o)) (λk y a z A=>?_) λn B=>?_
 .obtain⟨E,C,rfl⟩:=cY z;obtain⟨w,g,rfl⟩:=cY C;refine⟨_,.v (aH.ag (cL j)),(q w a (B5 g) A).be λb e h=>by obtain⟨h1,h2⟩:=h;exact⟨λac=>(h1 ac).be λv i h=>by obtain⟨⟨bb,D,hv⟩,hi⟩:=h;exact⟨⟨bb,by simp only[g,CF];exact D,hv⟩,hi⟩,λac=>⟨by simp only[g,CF];exact(h2 ac).1,(h2 ac).2⟩⟩⟩
 .exact U (BH ..) (U (BH ..) (U (g1 ..) (U p (r n B))))
theorem ra{tp:FH}{eC:CQ}{K:(V->V)->Y->V->Prop}(b:names[0]?=H x)(h:(fF ae bQ σ.aa cl names gn gv).Ok c σ.aa)(i:∀τ:V,τ.b0 bQ.names=τ)(j:aR.length<=1000)(l:aR.Nodup)
  (m:∀w a,w∈aR->cD σ a->WE c d (fF ae bQ σ.aa cl names gn gv) eC (a.N2 0 (.ab (.str w))) (λv o=>v=.ab (g w)/\cD σ o) cm)
  (p:∀n,σ.aa<=n->K (λσ=>σ) (.c5 (aR.map λw=>(w,g w))) ⟨n,σ.aj,σ.ag⟩):
  hY c d ae (.Name x tp) [] bQ cl iz [] (j5 (.Name x cx) eC) σ (.ab (.list (aR.map .str))) λr s σ' ba=>DQ s σ' ba (K r):=by
 refine pq (dm.NW et.O1) h i (a3 (BH ..) j) (BK (BH ..) (bP (BH ..) (bP (BH ..) R))) (U lT l) (λk y a q t e z=>?_) p;obtain⟨C,A,rfl⟩:=cY t;obtain⟨w,f,rfl⟩:=cY A
 have B:q=(w,g w):=by
  rw[Ck,f]at e;cases e;rfl
 subst B;exact⟨_,.v (aH.ag (cL b)),eT ⟨R,aw (cL b) (bq _ _ _) ⟨R,m w a (B5 f) z⟩⟩⟩
end
noncomputable abbrev mT(p:aD):List (O×Cj):=p.aG.map λw=>(w,.int (p.O8 w:Nat))
noncomputable def aD.RE(p:aD)(w:O):Bool:=p.O8 w/44%2 !=0
noncomputable def aD.OF(p:aD):List O:=p.aG.filter p.RE
noncomputable abbrev pE(p:aD):List (Nat×Y):=(6,.c5 (mT p))::l8 p
noncomputable abbrev jv(p:aD):List (Nat×Y):=(7,.ab (.list (p.OF.map .str)))::pE p
theorem m3{b9:Type}(q:aO->Bool)(f:aO->b9)(xs:List aO):(xs.filterMap λp=>if q p then H (f p)else B2)=(xs.filter q).map f:=mo q f xs
theorem aD.Tv(h:p.aG[k]?=H w):p.O8 w=p.Og k:=by unfold aD.O8;exact U (tQ aD.O4 h) R
theorem lC{kl:Nat}(a:(("number":O),cQ.ar i)∈ae.bN)(hi:J σ.aj i=H (.ar (H (.c5 (mT p)))))(b:w∈p.aG)(e:(x,cQ.ag kl)∈ae.bN)(f:J σ.ag kl=H (.ab (.str w)))(h:Q (.ab (.int (p.O8 w:Nat))) σ):WE c d ae (.Subscript (.Name "number" cx) (.Name x di) eS) σ Q X:=
 c3 (bR a hi (aw e f (g9 (hj b) h)))
section
variable{c:Cx}{d:Nat}{τ:V}{a:LA}{ah:Nat}{X:AX->V->Prop}{Q:bY->V->Prop}
theorem Bn(D:cP c a)(ai:p.Ok)(K:LI ah (l8 p) [(1,fh a p.Oo)] τ)
  (k:∀τ',LI ah (pE p) [(1,fh a p.Oo)] τ'->Rn c d a ah B τ' Q X):Rn c d a ah (bw 4::B) τ Q X:=by
 constructor;have f:=p.Oj ai;have h:=p.Ox ai;have A:=K.aa;obtain⟨C,s⟩:=K.I 6 (by decide);have m:(mT p).length=p.d:=BK (BH ..) (h);refine aQ (g0 (by kernel_rfl) (lg (cl:=[("sums",ah+0),("names",ah+2)]) D.PO (by decide+kernel) (by kernel_rfl) (d3 (nG 3 R R) (a1.PA _) (.ar (nC 1 R) (K.ar 1 R) .a6) (kR ?_))));refine pq (names:=["k"]) (gn:=[]) (gv:=[]) (dm.NW (et.fv (CP f.2 (by decide)))) (dQ (cn:=["sums","names"]) ?_ R R trivial λq b=>?_) (λo=>R) (aV [_,_] af f2 ak af ak dT al f.2 (eL m)) (BK m (bP (BH ..) (bP Ct R))) (U lT aD.O4) (λk y E q t b g=>?_) λn v=>?_
 .refine(?_:dp (db _ (az 29).aM) _ _ _=u)
  decide+kernel
 .replace b:=eU b;rcases b with rfl|rfl <;> refine(?_:_<τ.aa) <;> lia
 .obtain⟨r,j,rfl⟩:=cY t
  have x:k<p.d/\r=k:=by
   have h1:=(BY.mp j).1;rw[Ct]at h1;rw[ES h1]at j;exact⟨h1,(CO j).symm⟩
  obtain⟨i,rfl⟩:=x;obtain⟨w,l⟩:∃w,p.aG[r]?=H w:=⟨_,BU (aV [_,_,_] au af aC au aC af al (eR h) i)⟩;have z:q=(w,.int (p.O8 w:Nat)):=by rw[Ck,l]at b;cases b;rfl
  subst z;have g:=g;refine⟨_,.v (aH.ag (k:=0) (cL R)),eT ⟨R,c3 (bR (cT (.tail _ (.head _))) (g.aj (K.ar 2 R)) (aw (k:=0) (cL R) R (gl .aK (he (by refine dk (BH ..) ?_;exact aV [_,_,_] au af aC au aC af al (eR h) i)) (BK Ck (U l R)) (by refine a3 (BH ..) ?_;exact aV [_,_] af f2 ak af ak dD al f.2 (eL h)) ⟨R,?_⟩)))⟩⟩;refine c3 (bR (cT (.head _)) (g.aj (K.ar 0 R)) (aw (k:=0) (cL R) R (gl .aK (he (by refine dk (BH ..) (dk ai.cZ ?_);exact aV [_,_] af f2 aC af aC (nA 6) al f.2 i)) (BK Ck (U (p.R8 ai (by exact aV [_,_] af f2 aC af aC (nA 6) al f.2 i)) (U (aD.Tv l) R))) (by refine a3 (BH ..) (a3 ai.cZ ?_);decide) ⟨R,cD.NW g (BJ _) λo o e=>e⟩)))
 .exact⟨_,aH.ar (nC 6 R) s,(k _ ((K.OL v).OU 6 (.c5 (mT p)) (by decide))).o⟩
theorem zT(D:cP c a)(ai:p.Ok)(K:LI ah (pE p) [(1,fh a p.Oo)] τ)
  (k:∀τ',LI ah (jv p) [(1,fh a p.Oo)] τ'->Rn c d a ah B τ' Q X):Rn c d a ah (bw 5::B) τ Q X:=by
 constructor;have h:=p.Oj ai;have i:=p.Ox ai;have o:=K.aa;obtain⟨r,j⟩:=K.I 7 (by decide);refine aQ (g0 (by kernel_rfl) (e5 (cl:=[("number",ah+6)]) (by decide+kernel) (by kernel_rfl) (bR (nC 2 R) (K.ar 2 R) ?_)));refine ik (names:=["word"]) (gn:=[]) (gv:=[]) R (dQ (cn:=["number"]) ?_ R R trivial λq f=>?_) (λb=>R) (aV [_,_] af f2 ak af ak dT al h.2 (eL i)) (m3 p.RE B1 p.aG) (λw s l g=>?_) λn m=>.inl ?_
 .refine(?_:dp (db _ (az 29).aM) _ _ _=u)
  decide+kernel
 .refine U (BO.mp f) ?_;refine(?_:_<τ.aa);lia
 .refine iH (gN (b4 (b4 (lC (kl:=0) (cT (.head _)) (g.aj (K.ar 6 R)) l (cL R) R (bI (hq 44 (by decide) (bI (gd 2 (DD R) (pu ?_)))))))));have f:(p.O8 w/44%2 !=0)=p.RE w:=R;refine U f<|(⟨λac=>aw (k:=0) (cL R) R ⟨⟨.str w,by refine U ac ?_;rfl,R⟩,cD.NW g (BJ _) λb b e=>e⟩,λac=>⟨by refine U ac ?_;rfl,cD.NW g (BJ _) λb b e=>e⟩⟩)
 .exact⟨_,aH.ar (nC 7 R) j,(k _ ((K.OL m).OU 7 (.ab (.list (p.OF.map .str))) (by decide))).o⟩
end
noncomputable def oE:List O:=[" ","\n","\t\n","\r"]
noncomputable def kV(k:Nat):O:=(oE[k]?).getD B0
noncomputable def k4(w:O)(n:Nat):O:=iM w (n/11%4)++kV (n/44%4)
noncomputable def oC:List O:=["z","z\\","\"z","z \n"]
noncomputable def hk(k:Nat):O:=(oC[k]?).getD B0
noncomputable def aD.PU(p:aD)(w:O):O:=k4 w (p.O8 w)
noncomputable def aD.Qk(p:aD):O:=jQ B0 (p.Od.map p.PU)
noncomputable def aD.N7(p:aD):O:=p.Qk++hk (p.Og 0/880%4)
noncomputable def jY(n:Nat)(x:O):Bool:=decide (x.length<=n)&&BR x
theorem x9:(gH.all λv=>(Ch 4).all λw=>jY 4 (iM v w))=u:=by decide+kernel
theorem yf:((Ch 4).all λk=>jY 2 (kV k))=u:=by decide+kernel
theorem AV:((Ch 4).all λk=>jY 3 (hk k))=u:=by decide+kernel
theorem lI(h:jY n x=u):x.length<=n/\BR x=u:=by
 unfold jY at h;rw[Cv,decide_eq_true_eq]at h;exact h
theorem qD(hv:v∈gH){w:Nat}(a:w<4):(iM v w).length<=4/\BR (iM v w)=u:=
 lI (Cn.mp (Cn.mp x9 v hv) w (CU.mpr a))
theorem sW(a:k<4):(kV k).length<=2/\BR (kV k)=u:=lI (Cn.mp yf k (CU.mpr a))
theorem sT(a:k<4):(hk k).length<=3/\BR (hk k)=u:=lI (Cn.mp AV k (CU.mpr a))
theorem yi(hv:v∈gH)(n:Nat):(k4 v n).length<=6/\BR (k4 v n)=u:=by
 obtain⟨h1,h2⟩:=qD hv (show n/11%4<4 from CZ _ (by decide));obtain⟨a,b⟩:=sW (show n/44%4<4 from CZ _ (by decide));refine⟨?_,jd h2 b⟩;unfold k4;refine a3 (hF ..) ?_;exact aV [_,_] ak (nA 4) af (nA 2) (aq ak af) (nA 6) al h1 a
theorem lU{xs:List aO}(h:k<xs.length)(z:aO):xs[k]?=H ((xs[k]?).getD z):=by
 exact U (BU h) R
theorem aD.RU(ai:p.Ok):Ir ((p.Od.map p.PU).toArray.foldl (·+·.length+B0.length) 0)=BQ/\BR p.Qk=u/\p.Qk.length<=30:=by
 obtain⟨a,b,c⟩:=jB (g:=B0) (ys:=p.Od.map p.PU) (λy d=>by
  obtain⟨w,e,rfl⟩:=B7.mp d;exact yi (aD.Qv (aD.O6.mp e)) _) (by decide+kernel) (a3 (BH ..) (a3 (aD.Pw ai) ((p.Oj ai).2))) (by decide+kernel)
 exact⟨a,b,BG c (by decide+kernel)⟩
theorem aD.Qo(ai:p.Ok):p.N7.length<=33/\BR p.N7=u:=by
 refine A3 (p.RU ai) λd h2 a=>?_;obtain⟨b,c⟩:=sT (show p.Og 0/880%4<4 from CZ _ (by decide));refine⟨?_,jd h2 c⟩;unfold aD.N7;refine a3 (hF ..) ?_;exact aV [_,_] ak dE af (nA 3) (aq ak af) (nA 33) al a b
section
variable{c:Cx}{d:Nat}{τ:V}{a:LA}{ah:Nat}{X:AX->V->Prop}{Q:bY->V->Prop}
theorem w8(D:cP c a)(ai:p.Ok)(K:LI ah (jv p) [(1,fh a p.Oo)] τ)
  (k:∀τ',LI ah (jv p) [(3,.ab (.str p.Qk)),(1,fh a p.Oo)] τ'->Rn c (d+1) a ah B τ' Q X):Rn c (d+1) a ah (bw 6::B) τ Q X:=by
 have l:=p.Oj ai;have m:=aD.Pw ai;have C:=K.aa;refine A3 (p.RU ai) λo r s=>?_
 with_reducible refine Rn.Oq ?_
 refine(?_:eK _ _ _ (.Assign [.Name _ _] (.Call _ _ _ _) _) _ _ _)
 with_reducible refine g0 ?_ ?_
 .kernel_rfl
 refine eb ?_;refine b8 (x:=B0)<|⟨_,u,cf.Ov DO D9,a1.Oe _,aI (e5 (cl:=[("number",ah+6)]) (by decide+kernel) (by kernel_rfl) (bR (nC 4 R) (K.ar 4 R) ?_))⟩;refine ik (names:=["word"]) (gn:=["_law_spelled"]) (gv:=[.ref a.Qi.1]) R (dQ (cn:=["number"]) ?_ R R ⟨D.SH,trivial⟩ λq t=>?_) (λb=>R) (aV [_,_] af f2 ak af ak dT al l.2 (eL m)) (hJ (λw=>B1 (p.PU w)) p.Od) (λw v y f=>eT ⟨λb=>?_,λac=>nomatch ac⟩) λn z=>.inl ?_
 .refine(?_:dp (db _ (az 29).aM) _ _ _=u)
  decide+kernel
 .refine U (BO.mp t) ?_;refine(?_:_<τ.aa);lia
 .have g:=aD.O6.mp y;have i:=aD.Qv g;have j:p.O8 w/11%4<4:=CZ _ (by decide);have h:p.O8 w/44%4<4:=CZ _ (by decide);obtain⟨aT,aX⟩:=qD i j;obtain⟨bc,cG⟩:=sW h;have A:=(pj i).O7;refine b4 (dJ (dr (md 0 R R) ⟨a1.N4 D.Qi,aI (aw (k:=0) (cL R) R (aI (b4 (b4 (lC (kl:=0) (cT (.head _)) (f.aj (K.ar 6 R)) g (cL R) R (bI (hq 11 (by decide) (bI (gd 4 (by decide) (bn (ce (WK.NW (WC.Of (y9 D.Qi (a0 [_] ak a7 ak (nA 100) al (eL A)) j (c3 (ho ?_))))))))))))))))⟩));refine aI (b8 (aI (b8 ?_)));refine aI (b8 (aI (b8 ?_)));refine bn ⟨oE.map .str,R,(by decide),b4 (b4 (lC (σ:=v.N2 0 (.ab (.str w))) (kl:=0) (cT (.head _)) (f.aj (K.ar 6 R)) g (cL R) R (bI (hq 44 (by decide) (bI (gd 4 (by decide) (gl .aK (he (show _<4 from h)) (BK Ck (U (lU (show p.O8 w/44%4<oE.length from h) B0) R)) (by decide) (gm (aV [_,_] ak (nA 4) af (nA 2) (aq ak af) dD al aT bc) ⟨⟨_,R,R⟩,cD.NW f (BJ _) λb b e=>e⟩))))))))⟩
 .refine bn (ce (li (U CJ .aK) o r (BG s (DD R)) (⟨_,aH.ag (nL 3 R),(k _ ((K.OL z).N2 3 (.ab (.str p.Qk)))).o⟩)))
theorem yj(D:cP c a)(ai:p.Ok)(K:LI ah (jv p) [(3,.ab (.str p.Qk)),(1,fh a p.Oo)] τ)
  (k:∀τ',LI ah (jv p) [(3,.ab (.str p.N7)),(1,fh a p.Oo)] τ'->Rn c d a ah B τ' Q X):Rn c d a ah (bw 7::B) τ Q X:=by
 constructor;have b:p.Og 0/880%4<4:=CZ _ (by decide);refine A3 (p.RU ai) λg i f=>?_;obtain⟨bc,cG⟩:=sT b;refine aQ (ki (ll (nL 3 R) (K.ag 3 _ R) (c3 (ho ?_))));refine aI (b8 (aI (b8 ?_)));refine aI (b8 (aI (b8 ?_)));refine bn ⟨oC.map .str,R,(by decide),b4 (b4 (i3 ai (nC 0 R) (K.ar 0 R) 0 (DD R) (bI (hq 880 (by decide) (bI (gd 4 (DD R) (gl .aK (he (show _<4 from b)) (BK Ck (U (lU (show p.Og 0/880%4<oC.length from b) B0) R)) (by decide) (p0 (aV [_,_] ak dE af (nA 3) (aq ak af) dD al f bc) ?_))))))))⟩
 exact⟨_,aH.ag (nL 3 R),(k _ ((K.N2 3 (.ab (.str p.N7))).bp λk v h=>by
  rw[de]at h⊢
  by_cases e:k=3
  .rw[if_pos e]at h⊢;exact h
  .rw[if_neg e]at h⊢;exact aS e h)).o⟩
end
noncomputable def jr:O:="_law_line"++".<locals>."++"<lambda>"
structure kC(c:Bx)(a:LA):Prop where
 Pz:∃P,(a.Pz.2,P,i6)∈c.k/\∀p∈c.k,p.2.1=P->p.2.2=i6
 ee:∃P,(a.ee.2,P,jr)∈c.k/\∀p∈c.k,p.2.1=P->p.2.2=jr
structure LW(ah:Nat)(a9 a4:List (Nat×Y))(I:cO)(ap:Int)(aE bk:List O)(aB aW:Nat)(av:List (O×O))(τ:V):Prop where
 c:LI ah a9 a4 τ
 cz:ei τ I ap aE bk
 bF:f3 τ aB aW av
 K:∀i∈[I.j,I.x,I.s,I.m,I.e,I.f,aB,aW],ah+15<=i
 PF:aW≠I.e/\aW≠I.f
section
variable{aO:Type _}{x j t r c s b bb v:aO}
theorem sH(h:x∈[j,s,b]):x∈[j,t,r,c,s,b]:=by
 rcases il h with rfl|rfl|rfl
 .exact .head _
 .exact .tail _ (.tail _ (.tail _ (.tail _ (.head _))))
 .exact .tail _ (.tail _ (.tail _ (.tail _ (.tail _ (.head _)))))
theorem mM(h:x∈[j,s,b]):x∈[j,t,r,c,s,b,bb,v]:=Ci [bb,v] (sH h)
theorem ry(h:x∈[j,s,b]):x∈[j,s,b,v]:=Ci [v] h
theorem wQ(h:x∈[j,s,b,v]):x∈[j,t,r,c,s,b,bb,v]:=(CA).mp h|>.elim mM λh=>Ce [j,t,r,c,s,b,bb] h
end
section
variable{ah:Nat}{a9 a4:List (Nat×Y)}{I:cO}{ap:Int}{aE bk:List O}{aB aW:Nat}{av:List (O×O)}{τ τ':V}
theorem LW.Qt(W:LW ah a9 a4 I ap aE bk aB aW av τ)(b:τ.PC):hg I aB aW τ.aa/\aB∉[I.j,I.x,I.s,I.m,I.e,I.f]/\aB≠aW:=by
 obtain⟨log,d,_⟩:=W.cz.ns;obtain⟨L,cl,f⟩:=W.cz.P2;obtain⟨n,a2,_⟩:=W.cz.s;have g:=W.cz.m;have h:=W.cz.e;have j:=W.cz.f;obtain⟨lt,h1,_⟩:=W.bF.ns;have a:=W.bF.c
 have k:aB∉[I.j,I.x,I.s,I.m,I.e,I.f]:=λc=>by
  replace c:=mq c;rcases c with rfl|rfl|rfl|rfl|rfl|rfl
  .rw[d]at h1;injection h1 with h1;injection h1 with h1;exact absurd h1 (by decide+kernel)
  .rw[f]at h1;cases h1
  .rw[a2]at h1;injection h1 with h1;injection h1 with h1;exact absurd h1 (by decide+kernel)
  .rw[g]at h1;cases h1
  .rw[h]at h1;cases h1
  .rw[j]at h1;cases h1
 have m:aW∉[I.j,I.x,I.s,I.m,I.e,I.f]:=λc=>by
  replace c:=mq c;rcases c with rfl|rfl|rfl|rfl|rfl|rfl
  .rw[d]at a;cases a
  .rw[f]at a;cases a
  .rw[a2]at a;cases a
  .rw[g]at a;cases a
  .exact W.PF.1 R
  .exact W.PF.2 R
 have l:aB≠aW:=λe=>by rw[e,a]at h1;cases h1
 refine⟨⟨λi hi=>?_,b _ _ h1,b _ _ a,k,m,l⟩,k,l⟩;replace hi:=mq hi;rcases hi with rfl|rfl|rfl|rfl|rfl|rfl
 .exact b _ _ d
 .exact b _ _ f
 .exact b _ _ a2
 .exact b _ _ g
 .exact b _ _ h
 .exact b _ _ j
theorem LW.N2(W:LW ah a9 a4 I ap aE bk aB aW av τ)(k:Nat)(v:Y):LW ah a9 ((k,v)::a4) I ap aE bk aB aW av (τ.N2 k v):=⟨W.c.N2 k v,W.cz.bM λa a=>R,W.bF.bM R R,W.K,W.PF⟩
theorem LW.bp(W:LW ah a9 a4 I ap aE bk aB aW av τ){a:List (Nat×Y)}(h:∀k v,J a k=H v->J a4 k=H v):LW ah a9 a I ap aE bk aB aW av τ:=⟨W.c.bp h,W.cz,W.bF,W.K,W.PF⟩
theorem LW.be(W:LW ah a9 a4 I ap aE bk aB aW av τ)(c:τ.PC)(d:τ.aa<=τ'.aa)(e:τ'.ag=τ.ag)(a:∀i,ah<=i\/i∈[I.j,I.x,I.s,I.m,I.e,I.f,aB,aW]->i<τ.aa->J τ'.aj i=J τ.aj i):LW ah a9 a4 I ap aE bk aB aW av τ':=by
 have b:=(W.Qt c).1;refine⟨W.c.be d e λi h1 h2=>a i (.inl h1) (BL h2 W.c.aa),W.cz.bM λi hi=>a i (.inr ?_) (b.Oa i hi),W.bF.bM (a _ (.inr ?_) b.Pj) (a _ (.inr ?_) b.Pl),W.K,W.PF⟩
 .exact Ci [aB,aW] hi
 .exact Ce [I.j,I.x,I.s,I.m,I.e,I.f] (.head _)
 .exact Ce [I.j,I.x,I.s,I.m,I.e,I.f] (.tail _ (.head _))
theorem LW.OU(W:LW ah a9 a4 I ap aE bk aB aW av τ)(i:Nat)(v:Y)(hi:i<15):LW ah ((i,v)::a9) a4 I ap aE bk aB aW av (τ.NX (ah+i) (.ar (H v))):=by
 have a:∀j∈[I.j,I.x,I.s,I.m,I.e,I.f,aB,aW],J (τ.NX (ah+i) (.ar (H v))).aj j=J τ.aj j:=λj b=>by
  have:=W.K j b;exact aS (λc=>nf (cI [_,_,_] aC (nA 15) (ct 1 15) au au (aq af ak) a7 c8 al hi this (eL c))) R
 refine⟨W.c.OU i v hi,W.cz.bM λj b=>a j (Ci [aB,aW] b),W.bF.bM (a _ ?_) (a _ ?_),W.K,W.PF⟩
 .exact Ce [I.j,I.x,I.s,I.m,I.e,I.f] (.head _)
 .exact Ce [I.j,I.x,I.s,I.m,I.e,I.f] (.tail _ (.head _))
theorem LW.OL(W:LW ah a9 a4 I ap aE bk aB aW av τ)(a:τ.aa<=n):LW ah a9 a4 I ap aE bk aB aW av ⟨n,τ.aj,τ.ag⟩:=⟨W.c.OL a,W.cz.bM λb b=>R,W.bF.bM R R,W.K,W.PF⟩
theorem LW.N0(W:LW ah a9 a4 I ap aE bk aB aW av τ)(a:τ.PC)(b:τ.aa<=n)(o:bL):LW ah a9 a4 I ap aE bk aB aW av (V.N0 ⟨n,τ.aj,τ.ag⟩ o):=W.be a (BG b (Cr _)) R λi c hi=>by
 exact aS (nK ‹_› ‹_›) R
end
noncomputable abbrev h5(p:aD)(a:LA)(I:cO)(aB:Nat):List (Nat×Y):=(9,.bh a.OQ aB)::(8,.bh a.nC I.j)::jv p
theorem Rn.N5{ah:Nat}{Q:bY->V->Prop}(h:τ.PC->Rn c d a ah B τ Q X):Rn c d a ah B τ Q X:=⟨WT.N5 λb=>(h b).o⟩
section
variable{c:Cx}{d:Nat}{τ:V}{a:LA}{ah:Nat}{X:AX->V->Prop}{Q:bY->V->Prop}
theorem Bj(D:cP c a)(T:kC c a)(ai:p.Ok)(K:LI ah (jv p) [(3,.ab (.str p.N7)),(1,fh a p.Oo)] τ)
  (k:∀τ' I aB aW e,LW ah (h5 p a I aB) [(4,.aP e),(3,.ab (.str p.N7)),(1,fh a p.Oo)] I 1 (dn p.N7) [] aB aW [] τ'->ah+15<=e->J τ'.aj e=H (.aN [])->e∉[I.j,I.x,I.s,I.m,I.e,I.f]/\e≠aB/\e≠aW->Rn c (d+10) a ah B τ' Q X):Rn c (d+10) a ah (bw 8::B) τ Q X:=by
 have j:=K.aa;obtain⟨P,t,v⟩:=T.Pz;obtain⟨x1,x2⟩:=p.Qo ai;refine Rn.N5 λS=>?_;constructor;refine aQ (jL (xs:=["desk","row","table"]) R (hz (aI (d3 (nG 4 R R) (a1.N4 D.Pz) (.ag (nL 3 R) (K.ag 3 _ R) .a6) (WK.NW (WC.Of (xi D.n D.Pz t v D.bF.Q4 D.S3 (BG ‹_› (DD R)) λσ' I b n w=>?_)))))));refine(?_:WA c (d+10) (iE a ah) _ _ _ _ _);refine WT.N5 λf=>?_;obtain⟨x,W⟩:=D.bF.hO;obtain⟨ae,o⟩:=D.bF.hO.OY;refine A3 o λh1 h2 y=>?_;clear o;have l:=n.aa
 let q:V:=⟨σ'.aa+3,(σ'.aa+1,.ns ["_headers"] [(0,.aP (σ'.aa+2))])::(σ'.aa+2,.aN [])::(σ'.aa+1,.ns ["_headers"] [])::(σ'.aa,.aN [])::σ'.aj,τ.ag⟩
 have ac:∀i,i<σ'.aa->J q.aj i=J σ'.aj i:=λi hi=>by
  refine(?_:J ((σ'.aa+1,_)::(σ'.aa+2,_)::(σ'.aa+1,_)::(σ'.aa,_)::σ'.aj) i=_);simp only[de];exact BK (if_neg (b7 ‹_›)) (BK (if_neg (b7 ‹_›)) (BK (if_neg (b7 ‹_›)) ((if_neg (BZ ‹_›)))))
 have z:=λi hi=>(ac i (BL ‹_› ‹_›)).trans (n.aj i hi (λh=>nomatch h))
 obtain⟨log,A,_⟩:=b.ns;obtain⟨L,cl,C⟩:=b.P2;obtain⟨am,a2,_⟩:=b.s
 have g:∀i∈[I.j,I.x,I.s,I.m,I.e,I.f],i<σ'.aa:=λi hi=>by
  replace hi:=mq hi;rcases hi with rfl|rfl|rfl|rfl|rfl|rfl
  .exact f _ _ A
  .exact f _ _ C
  .exact f _ _ a2
  .exact f _ _ b.m
  .exact f _ _ b.e
  .exact f _ _ b.f
 have r:LW ah (jv p) [(3,.ab (.str p.N7)),(1,fh a p.Oo)] I 1 (dn p.N7) [] (σ'.aa+1) (σ'.aa+2) [] q:=by
  refine⟨K.be (by refine(?_:τ.aa<=σ'.aa+3);exact a0 [_,_] ak af ak (ct 1 3) al l) R λi h1 h2=>z i (BL ‹_› ‹_›),b.bM λi hi=>ac i (g i hi),⟨⟨_,bq _ _ _,R⟩,?_⟩,λi hi=>?_,?_,?_⟩
  .refine(?_:J ((σ'.aa+1,_)::(σ'.aa+2,_)::_) (σ'.aa+2)=_);exact aS (bK R) (bq _ _ _)
  .rcases CA.mp (show i∈[I.j,I.x,I.s,I.m,I.e,I.f]++[σ'.aa+1,σ'.aa+2]from hi)with hi|hi
   .exact BG j (w i hi)
   .replace hi:=eU hi;rcases hi with rfl|rfl <;> lia
  .have:=g I.e (.tail _ (.tail _ (.tail _ (.tail _ (.head _)))));exact e1 ‹_›
  .have:=g I.f (.tail _ (.tail _ (.tail _ (.tail _ (.tail _ (.head _))))));exact e1 ‹_›
 refine aI (ig (bn ⟨[],R,Cm _,aI (d3 (nG 5 R R) (a1.cp D.bF.cp) .a6 (p1 HM D.bF.cp x h1 h2 y ["_headers"] (by decide+kernel) (WC.Of (zd D.bF (bq _ _ _) ?_))))⟩));obtain⟨an,E⟩:=r.c.I 8 (DD R);have s:=(r.OU 8 (.bh a.nC I.j) (DD R)).N2 4 (.aP σ'.aa);obtain⟨ao,F⟩:=s.c.I 9 (DD R);have G:=s.OU 9 (.bh a.OQ (σ'.aa+1)) (DD R);refine⟨R,(Cr _:σ'.aa+1<σ'.aa+1+1+1),bn ⟨by refine(?_:3<=1000000);decide,_,_,dK.b2,.aU (aH.ar (nC 8 R) E) (.aU (aH.ag (nL 4 R)) (.aU (aH.ar (nC 9 R) F) (.a6 _))),(k _ _ _ _ σ'.aa G (BL ‹_› ‹_›) ?_ ?_).o⟩⟩
 .refine(?_:J ((ah+9,_)::(ah+8,_)::(σ'.aa+1,_)::(σ'.aa+2,_)::(σ'.aa+1,_)::(σ'.aa,_)::σ'.aj) σ'.aa=_);simp only[de];exact BK (if_neg (by exactλm=>nf (cI [_,_,_] (ct 0 15) af af au au (ct 0 9) a7 c8 al j l (eL m)))) (BK (if_neg (by exactλm=>nf (cI [_,_,_] (ct 0 15) af af au au ff a7 c8 al j l (eL m)))) (BK (if_neg (by exact dI)) (BK (if_neg (by exact dI)) (BK (if_neg (by exact dI)) (if_pos trivial)))))
 .exact⟨λN=>absurd (g _ N) (Gl _),dI,dI⟩
end
theorem nM(stop:O->Bool):∀(n:Nat)(aE:List O)(a:O)(ap:Int),aE.length<=n->(dv stop aE a ap).2.1<:+aE:=by
 intro n
 induction n with
 |zero=>
  intro aE a ap h
  match aE,h with
  |[],_=>exact Gn _
 |succ n b=>
  intro aE a ap h
  match aE,h with
  |[],_=>exact Gn _
  |[ch],_=>
   rw[n4];split
   .exact Ks
   .split <;> exact Ks
  |ch::e::r,h=>
   rw[l9];split
   .exact DB _ _
   .split
    .exact(b r _ _ (by simp at h;exact Cz ‹_›)).trans ((DB _ _).trans (DB _ _))
    .exact(b (e::r) _ _ (by simp at h⊢;assumption)).trans (DB _ _)
theorem rE:∀(aE:List O)(ap:Int),(dC aE ap).2.1<:+aE:=by
 intro r
 induction r with
 |nil=>
  intro ap
  exact Gn _
 |cons ch r a=>
  intro ap;rw[mv];split
  .exact(a _).trans (DB _ _)
  .split
   .exact(nM _ _ r _ _ (BJ _)).trans (DB _ _)
   .split
    .split
     .exact(nM _ _ [] _ _ (BJ _)).trans (DB _ _)
     .exact(nM _ _ _ _ _ (BJ _)).trans ((DB _ _).trans (DB _ _))
    .exact(nM _ _ r _ _ (BJ _)).trans (DB _ _)
structure TS where
 Pp:List O
 dU:List O
 ee:Int
noncomputable def TS.Oq(t:TS):TS:=⟨t.Pp++[(dC t.dU t.ee).1],(dC t.dU t.ee).2.1,(dC t.dU t.ee).2.2⟩
noncomputable def dw(x:O):Nat->TS
 |0=>⟨[],dn x,1⟩
 |k+1=>(dw x k).Oq
theorem po(x:O):∀k,(dw x k).dU<:+dn x:=by
 intro k
 induction k with
 |zero=>
  exact Gn _
 |succ k a=>
  exact(rE _ _).trans (a)
theorem pv:∀s∈dn x,s.length=1:=λs a=>by
 obtain⟨ch,_,rfl⟩:=B7.mp a
 rfl
theorem rN(x:O):(dn x).length=x.length:=by
 unfold dn;exact BK (BH ..) Cq
theorem t6(x:O)(k:Nat):(∀s∈(dw x k).dU,s.length=1)/\(dw x k).dU.length<=x.length:=
 ⟨λs a=>pv s ((po x k).subset a),br (rN ..) ((po x k).length_le)⟩
section
variable{c:Cx}{d:Nat}{τ:V}{a:LA}{ah:Nat}{X:AX->V->Prop}{Q:bY->V->Prop}
theorem xL(D:cP c a)(ai:p.Ok){I:cO}{aB aW g:Nat}(W:LW ah (h5 p a I aB) [(4,.aP g),(3,.ab (.str p.N7)),(1,fh a p.Oo)] I 1 (dn p.N7) [] aB aW [] τ)(aO:ah+15<=g)(t:J τ.aj g=H (.aN []))(K:g∉[I.j,I.x,I.s,I.m,I.e,I.f]/\g≠aB/\g≠aW)
  (k:∀τ',LW ah (h5 p a I aB) [(5,.ab (.list ((dw p.N7 p.d).Pp.map .str))),(4,.aP g),(3,.ab (.str p.N7)),(1,fh a p.Oo)] I (dw p.N7 p.d).ee (dw p.N7 p.d).dU [] aB aW [] τ'->J τ'.aj g=H (.aN [])->Rn c (d+10) a ah B τ' Q X):Rn c (d+10) a ah (bw 9::B) τ Q X:=by
 have v:=W.c.aa;have f:=p.Oj ai;obtain⟨x1,x2⟩:=p.Qo ai;have x:=aD.Pw ai;refine Rn.N5 λz=>?_;have m:=(W.Qt z).1;constructor;refine aQ (kc (cl:=[("desk",ah+8)]) (by decide+kernel) (by kernel_rfl) (by kernel_rfl) (bR (nC 4 R) (W.c.ar 4 R) ?_));refine⟨(p.Od.map B1).map .ab,τ,λσ=>σ,["word"],jb ["word"] [("desk",ah+8)] [] [],λj e ba=>j<=p.d/\τ.aa<=e.aa/\ei e I (dw p.N7 j).ee (dw p.N7 j).dU []/\(∀i,i<τ.aa->i∉[I.j,I.e,I.f]->J e.aj i=J τ.aj i)/\ba=((dw p.N7 j).Pp.map B1).map .ab,dm.NW et.O1,dQ (cn:=["desk"]) ?_ R R trivial λq L=>?_,⟨Cm _,BJ _,W.cz.bM λb b=>R,λb b b=>R,R⟩,λj y e ba A N=>?_,λe ba r=>?_⟩
 .refine(?_:dp (db _ (az 29).aM) _ _ _=u)
  decide+kernel
 .refine U (BO.mp L) ?_;refine(?_:ah+8<τ.aa);exact a0 [_,_] (ct 0 15) af (aq ff a7) af al v
 .obtain⟨aR,s,n,l,an⟩:=N
  have C:j<p.d:=by
   have:=(BY.mp A).1;rw[BH,BH,x]at this;exact this
  obtain⟨aT,P,rfl⟩:=cY A;obtain⟨w,aX,rfl⟩:=cY P;obtain⟨S,ae⟩:=t6 p.N7 j
  have am:=(l _ (by exact a0 [_,_] (ct 0 15) af (aq ff a7) af al v) (λf=>by
   have:=W.K (ah+8) (mM f);exact nf (a0 [_] (ct 0 15) ff a7 c8 al this))).trans (W.c.ar 8 R)
  have ao:ba.length<=1000000:=by
   refine U an (a3 (BH ..) (a3 (BH ..) ?_))
   have:∀k,(dw p.N7 k).Pp.length=k:=λk=>by
    induction k with
    |zero=>rfl
    |succ k ap=>show((dw p.N7 k).Pp++[_]).length=k+1;rw[BV,ap];rfl
   refine a3 (this ..) ?_;exact aV [_,_] af f2 aC af ak dD al f.2 C
  refine⟨_,.v (aH.ag (k:=0) (cL R)),eT ⟨λb=>ms ao ?_,λac=>nomatch ac⟩⟩;obtain⟨log,av,_⟩:=n.ns;refine fe (.ar (cT (.head _)) am) (cf.N4 D.n.cp av D.n.Pr D.n.ga D.n.gt FO.Q5 (by decide+kernel)) (a1.N4 D.n.Pr.2) .a6 (WK.NW (WC.Of (mA D.n (n.bM λb b=>R) S (aV [_,_] af (nA 33) ak af ak (nA 800) al x1 ae) (Cm _) (λaY aZ ax=>nomatch ax) (λb T c6 cC ay σ' aE E=>?_))))
  have F:dw p.N7 (j+1)=⟨(dw p.N7 j).Pp++[T],c6,cC⟩:=by
   refine(?_:TS.Oq _=_);unfold TS.Oq;exact U ay R
  have a4:e.aa<=σ'.aa:=E.aa;have aJ:∀i,i<e.aa->i∉[I.j,I.e,I.f]->J σ'.aj i=J e.aj i:=E.aj;refine⟨C,(BG ‹_› ‹_›:τ.aa<=σ'.aa),?_,λi hi G=>?_,?_⟩
  .exact U F (aE.bM λb b=>R)
  .exact(aJ i (BL ‹_› ‹_›) G).trans (l i hi G)
  .exact U F (U an (U Cb (bP Cb R)))
 .rw[BH,BH,x]at r;refine A5 r λb s n l an=>?_;clear r
  have o:∀i,i∈[I.j,I.e,I.f]->ah+15<=i/\i∈[I.j,I.x,I.s,I.m,I.e,I.f]:=λi hi=>by
   exact⟨W.K i (mM hi),sH hi⟩
  have aL:LW ah (h5 p a I aB) [(4,.aP g),(3,.ab (.str p.N7)),(1,fh a p.Oo)] I (dw p.N7 p.d).ee (dw p.N7 p.d).dU [] aB aW [] ⟨e.aa,e.aj,τ.ag⟩:=
   ⟨W.c.be s R λi h1 h2=>l i (BL ‹_› ‹_›) λf=>by have:=(o i f).1;exact nf (aV [_,_] aC (ct 1 15) (ct 1 15) ak a7 c8 al h2 this),n.bM λb b=>R,W.bF.bM (l _ m.Pj λf=>m.QX (o _ f).2) (l _ m.Pl λf=>m.QF (o _ f).2),W.K,W.PF⟩
  refine⟨⟨e.aa,e.aj,τ.ag⟩,.inr ⟨R,λb b h=>h⟩,R,s,.inl ⟨_,an,_,aH.ag (nL 5 R),(k _ (aL.N2 5 _) ?_).o⟩⟩;exact(l g (z _ _ t) λf=>K.1 (o _ f).2).trans t
end
noncomputable def z7(o:Option DZ):fO:=o.elim (na jr (.Name B0 ⟨0,0,0,0⟩)) λs=>(mJ (jP s).1).2.head?.elim (na jr (.Name B0 ⟨0,0,0,0⟩)) λk=>na jr k.value
noncomputable def lk(i:Nat):fO:=z7 (ib (H (bw 10)))[i]?
noncomputable def rM(i:Nat)(a:M)(b:Z):bB:=
 {aM:=(lk i).aM,aG:=["one"],bN:=[("one",.ag 0)],b0:=[],fu:=(lk i).P4++".<locals>.",gb:=H a,fk:=b}
theorem sS(hi:i=0\/i=1){e:Ev}(h:Q (.ab (.int e.1)) σ):WK c (d+1) (.ed (lk i) []) [.ab (eA e)] [] [] σ Q X:=by
 rcases hi with rfl|rfl
 all_goals
  refine qX (σ₁:=⟨σ.aa,σ.aj,[(0,.ab (eA e))]⟩) (rM _) (λcl b g k l vs hv=>?_) (λa b=>⟨R,R,R,R,R⟩) (λa b=>?_) (λa b=>.aU (aH.ag (mV 0 R)) (.a6 _)) (λL a b=>?_) R R
  .obtain⟨v,rfl⟩:=Gz.mp hv;rfl
  .refine⟨R,by refine(?_:Gx (["one"]:List O));decide+kernel,λq f=>?_,λq f=>nomatch f⟩;simp only[rM,BX,EO,or_false]at f;subst f;exact⟨⟨by refine(?_:(lk _).aM.names.lookup ("one":O)=_);decide+kernel,R⟩,by decide+kernel,by decide+kernel⟩
  .refine c3 (aw (mV 0 R) R (bI (iN (j:=0) dK.ab R R (by decide) ⟨R,h⟩)))
noncomputable def ma(a:List Ev)(x:Int)(j:Nat):Bool:=match a[j]? with|some e=>decide (e.1<x)|none=>BQ
noncomputable def l5(a:List Ev)(x:Int)(j:Nat):Bool:=match a[j]? with|some e=>!decide (x<e.1)|none=>BQ
noncomputable def hZ(b:Bool)(a:List Ev)(e:Ev):List Ev:=
 d5 a (dg (if b then ma a e.1 else l5 a e.1) a.length 0 a.length) e
noncomputable def aD.Ol(p:aD)(w:O):Int:=((p.O8 w%11:Nat):Int)-5
noncomputable def gD(p:aD)(k:Nat):List Ev:=
 (p.Od.take k).foldl (λa w=>hZ p.Oo (hZ p.Oo a (p.Ol w,BQ,w)) (p.Ol w+(p.OE:Nat),u,w)) []
theorem ov(h:p.Od[k]?=H w):gD p (k+1)=hZ p.Oo (hZ p.Oo (gD p k) (p.Ol w,BQ,w)) (p.Ol w+(p.OE:Nat),u,w):=by
 unfold gD;exact U CX (U h (DJ))
theorem pN(l:Bool)(a:List Ev)(e:Ev):(hZ l a e).length=a.length+1:=kd _ _ _
theorem Bl:∀k,k<=p.Od.length->(gD p k).length=2*k:=by
 intro k
 induction k with
 |zero=>
  intro _
  exact R
 |succ k a=>
  intro h;obtain⟨w,b⟩:∃w,p.Od[k]?=H w:=⟨_,BU ‹_›⟩;exact U (ov b) (BK (pN ..) (U (pN ..) (U (a (Cz ‹_›)) R)))
section
variable{ah:Nat}{a9 a4:List (Nat×Y)}{I:cO}{ap:Int}{aE bk:List O}{aB aW:Nat}{av:List (O×O)}{τ:V}
theorem LW.P7(W:LW ah a9 a4 I ap aE bk aB aW av τ)(h1:ah+15<=i)(h2:i∉[I.j,I.x,I.s,I.m,I.e,I.f]/\i≠aB/\i≠aW)(o:bL):LW ah a9 a4 I ap aE bk aB aW av (τ.NX i o):=by
 have a:∀j,j≠i->J (τ.NX i o).aj j=J τ.aj j:=λj b=>by
  exact aS b R
 exact⟨W.c.P7 h1 o,W.cz.bM λj b=>a j λe=>h2.1 (e▸b),W.bF.bM (a _ (DN h2.2.1)) (a _ (DN h2.2.2)),W.K,W.PF⟩
end
section
variable{c:Cx}{d:Nat}{τ:V}{a:LA}{ah:Nat}{X:AX->V->Prop}{Q:bY->V->Prop}
theorem qI(D:cP c a){b:Bool}{o:Nat}{g:List Ev}{e:Ev}(hi:i=0\/i=1)(r:J τ.aj o=H (.aN (g.map eA)))(s:g.length<=900){Q:Y->V->Prop}{X:AX->V->Prop}
  (h:Q (.ab .none) (τ.NX o (.aN ((hZ b g e).map eA)))):WK c (d+3) (fh a b) [.aP o,.ab (eA e)] ["key"] [.ed (lk i) []] τ Q X:=by
 have m:(g.map eA).length=g.length:=BH _
 have t:∀(d:Nat)(k:Cx),k.toBx=c.toBx->∀(σ:V)(Q:Y->V->Prop)(X:AX->V->Prop)(y:Cj),(y=eA e\/y∈g.map eA)->Q (.ab ((λy:Cj=>match y with| .tuple (z::_)=>z|z=>z) y)) σ->WK k (d+1) (.ed (lk i) []) [.ab y] [] [] σ Q X:=λd k v σ Q X y l f=>by
  rcases l with rfl|l
  .exact sS hi f
  .obtain⟨n,_,rfl⟩:=B7.mp l;exact sS hi f
 cases b with
 |true=>
  refine WK.NW (yk (p:=ma g e.1) D.OS.OM D.PI D.O5.OM D.Pd D.B D.PQ R (λk v=>a1.ed) t r (aV [_,_] af (nA 900) ak af ak dT al s (eL m)) (λk σ Q j y l f=>?_) ?_)
  .obtain⟨n,q,rfl⟩:=cY l;refine jx ?_;unfold ma at f;rw[q]at f;exact f
  .rw[m,kh eA];exact h
 |false=>
  refine WK.NW (vq (p:=l5 g e.1) D.OV.OM D.PE D.Om.OM D.Pe D.B D.P0 R (λk v=>a1.ed) t r (aV [_,_] af (nA 900) ak af ak dT al s (eL m)) (λk σ Q j y l f=>?_) ?_)
  .obtain⟨n,q,rfl⟩:=cY l;refine jx ?_;unfold l5 at f;rw[q]at f;have w:(!!decide (e.1<n.1))=decide (e.1<n.1):=IT _;exact br w f
  .rw[m,kh eA];exact h
end
section
variable{c:Cx}{d:Nat}{τ:V}{a:LA}{ah:Nat}{X:AX->V->Prop}{Q:bY->V->Prop}
theorem a1.Oo(D:cP c a){b:Bool}:a1 c (fh a b):=by
 cases b with
 |true=>exact a1.N4 D.OS
 |false=>exact a1.N4 D.OV
theorem yC(D:cP c a)(T:kC c a)(ai:p.Ok){I:cO}{aB aW b:Nat}{bf:List O}{ap:Int}{aE:List O}(W:LW ah (h5 p a I aB) [(5,.ab (.list (bf.map .str))),(4,.aP b),(3,.ab (.str p.N7)),(1,fh a p.Oo)] I ap aE [] aB aW [] τ)(s:ah+15<=b)(G:J τ.aj b=H (.aN []))(t:b∉[I.j,I.x,I.s,I.m,I.e,I.f]/\b≠aB/\b≠aW)
  (k:∀τ',LW ah (h5 p a I aB) [(5,.ab (.list (bf.map .str))),(4,.aP b),(3,.ab (.str p.N7))] I ap aE [] aB aW [] τ'->J τ'.aj b=H (.aN ((gD p p.d).map eA))->Rn c (d+10) a ah B τ' Q X):Rn c (d+10) a ah (bw 10::B) τ Q X:=by
 have ao:=p.Oj ai;have K:=aD.Pw ai;obtain⟨P,y,z⟩:=T.ee;constructor
 have L:∀(w:O)(f:List Ev)(σ:V),w∈p.Od->f.length<=20->LW ah (h5 p a I aB) [(5,.ab (.list (bf.map .str))),(4,.aP b),(3,.ab (.str p.N7)),(1,fh a p.Oo)] I ap aE [] aB aW [] σ->J σ.ag 2=H (.ab (.str w))->J σ.aj b=H (.aN (f.map eA))->
   WS c (d+10) (iE a ah) (ib (H (bw 10))) σ (λA o=>A=.aa/\LW ah (h5 p a I aB) [(5,.ab (.list (bf.map .str))),(4,.aP b),(3,.ab (.str p.N7)),(1,fh a p.Oo)] I ap aE [] aB aW [] o/\J o.aj b=H (.aN ((hZ p.Oo (hZ p.Oo f (p.Ol w,BQ,w)) (p.Ol w+(p.OE:Nat),u,w)).map eA))) cm:=by
  intro w f σ g N W l S;have C:=aD.O6.mp g;refine aQ (ez (dJ (aw (nL 1 R) (W.c.ag 1 _ R) ⟨a1.Oo D,aI (aw (nL 4 R) (W.c.ag 4 _ R) (aI (gB (aI (b4 (b4 (lC (nC 6 R) (W.c.ar 6 R) C (nL 2 R) l (bI (gd 11 (DD R) (bI (kE ?_)))))))))))⟩)));refine aI (b8 (aI (aw (nL 2 R) l (bn ⟨[.int (p.Ol w),.str "(",.str w],R,by refine(?_:3<=1000000);decide,bn (i2 (pK y z R R R (by intros;rfl) (ce (qI (e:=(p.Ol w,BQ,w)) D (.inl R) S (BG ‹_› (DD R)) ?_))))⟩))));have i:=W.P7 s t (.aN ((hZ p.Oo f (p.Ol w,BQ,w)).map eA));refine aQ (ez (dJ (aw (nL 1 R) (i.c.ag 1 _ R) ⟨a1.Oo D,aI (aw (nL 4 R) (i.c.ag 4 _ R) (aI (gB (aI (b4 (b4 (b4 (lC (nC 6 R) (i.c.ar 6 R) C (nL 2 R) l (bI (gd 11 (DD R) (bI (kE (bR (nC 3 R) (i.c.ar 3 R) (iw (aI (b8 ?_))))))))))))))))⟩)));refine aI (aw (nL 2 R) l (bn ⟨[.int (p.Ol w+(p.OE:Nat)),.str ")",.str w],R,by refine(?_:3<=1000000);decide,bn (i2 (pK y z R R R (by intros;rfl) (ce (qI (e:=(p.Ol w+(p.OE:Nat),u,w)) D (.inr R) (bq _ _ _) (by refine a3 (pN ..) ?_;exact a0 [_] ak (nA 20) aC (nA 900) al N) ?_))))⟩));exact bJ ⟨R,i.P7 s t _,bq _ _ _⟩
 refine aQ (nH (bR (nC 4 R) (W.c.ar 4 R) ⟨(p.Od.map B1).map .ab,λj τ'=>LW ah (h5 p a I aB) [(5,.ab (.list (bf.map .str))),(4,.aP b),(3,.ab (.str p.N7)),(1,fh a p.Oo)] I ap aE [] aB aW [] τ'/\J τ'.aj b=H (.aN ((gD p j).map eA)),et.O1,⟨W,G⟩,λj x τ' ac q=>?_,λτ' q=>?_⟩))
 .obtain⟨r,m⟩:=q;obtain⟨av,ae,rfl⟩:=cY ac;obtain⟨w,g,rfl⟩:=cY ae;have ax:=(BY.mp g).1;refine⟨_,.v (aH.ag (nL 2 R)),(L w (gD p j) _ (B5 g) (by refine a3 (Bl j (Cz ‹_›)) ?_;lia) ((r.N2 2 (.ab (.str w))).bp ?_) (bq _ _ _) m).be λA o⟨am,an,n⟩=>?_⟩
  .intro k v h
   by_cases e:k=2
   .subst e;exact absurd h (by exact nofun)
   .exact aS e h
  .subst am;exact⟨an,U (ov g) n⟩
 .obtain⟨r,m⟩:=q;rw[BH,BH,K]at m;refine(k _ (r.bp ?_) m).o;intro k v h
  by_cases E:k=5
  .subst E;exact h
  .by_cases F:k=4
   .subst F;exact h
   .by_cases n:k=3
    .subst n;exact h
    .rw[de,if_neg E,de,if_neg F,de,if_neg n]at h;cases h
end
noncomputable def aD.OK(p:aD)(w:O):Int:=p.O2*((p.Od.idxOf w:Nat):Int)
noncomputable def aD.Os(p:aD)(w:O):Int×Int:=(p.Ol w,p.OK w)
noncomputable def aD.OT(p:aD)(w:O):Int×Int:=(p.Ol w+(p.OE:Nat),p.OK w)
noncomputable abbrev kn(p:aD):List (O×Cj):=p.Od.map λw=>(w,iS (p.Os w))
noncomputable abbrev kX(p:aD):List (O×Cj):=p.aG.map λw=>(w,iS (p.OT w))
noncomputable abbrev oY(p:aD)(a:LA)(I:cO)(aB:Nat):List (Nat×Y):=(10,.c5 (kn p))::h5 p a I aB
noncomputable abbrev ic(p:aD)(a:LA)(I:cO)(aB:Nat):List (Nat×Y):=(11,.c5 (kX p))::oY p a I aB
theorem x6(p:aD)(b:Int):IntMulOk p.O2 b:=by
 unfold aD.O2;split
 .exact Ha (DD R)
 .exact Ha (DD R)
variable{m:Nat}
theorem o9{y:Y}(h:((Ch m).map λ(i:Nat)=>Y.ab (.int (i:Int)))[k]?=H y):k<m/\y=.ab (.int (k:Int)):=by
 obtain⟨b,a,rfl⟩:=cY h;have h1:=(BY.mp a).1;rw[Ct]at h1;rw[ES h1]at a;exact⟨h1,U (CO a) R⟩
theorem o8(h:aR[k]?=H w):(aR.map B1)[k]?=H (.str w):=BK Ck (U h R)
theorem k6{g:O->Int×Int}{kl:Nat}{y:O}(a:(y,cQ.ar i)∈ae.bN)(hi:J σ.aj i=H (.ar (H (.c5 (aR.map λw=>(w,iS (g w)))))))(b:w∈aR)(e:(x,cQ.ag kl)∈ae.bN)(f:J σ.ag kl=H (.ab (.str w)))(h:Q (.ab (iS (g w))) σ):WE c d ae (.Subscript (.Name y cx) (.Name x di) eS) σ Q X:=
 c3 (bR a hi (aw e f (g9 (hj b) h)))
section
variable{c:Cx}{d:Nat}{τ:V}{a:LA}{ah:Nat}{X:AX->V->Prop}{Q:bY->V->Prop}{a4:List (Nat×Y)}{I:cO}{aB aW:Nat}{ap:Int}{aE:List O}{av:List (O×O)}
theorem Bq(D:cP c a)(ai:p.Ok)(W:LW ah (h5 p a I aB) a4 I ap aE [] aB aW av τ)
  (k:∀n,τ.aa<=n->LW ah (oY p a I aB) a4 I ap aE [] aB aW av (V.NX ⟨n,τ.aj,τ.ag⟩ (ah+10) (.ar (H (.c5 (kn p)))))->Rn c d a ah B (V.NX ⟨n,τ.aj,τ.ag⟩ (ah+10) (.ar (H (.c5 (kn p))))) Q X):Rn c d a ah (bw 11::B) τ Q X:=by
 have x:=W.c.aa;have i:=aD.Pw ai;obtain⟨F,j⟩:=p.Oj ai;obtain⟨v,hv⟩:=W.c.I 10 (DD R);refine Rn.Oq<|g0 (by kernel_rfl)<|lg (cl:=[("sense",ah+5),("number",ah+6),("come",ah+4)]) D.PO (by decide+kernel) (by kernel_rfl) (d3 (nG 3 R R) (a1.PA _) (.ar (nC 1 R) (W.c.ar 1 R) .a6) (kR ?_));have l:(kn p).length=p.d:=BK (BH ..) (i);refine pq (names:=["k"]) (gn:=[]) (gv:=[]) (dm.NW (et.fv (CP j (DD R)))) (dQ (cn:=["sense","number","come"]) ?_ R R trivial λq f=>?_) (λm=>R) (a3 l (BG j (DD R))) (BK l (bP (BH ..) (bP Ct R))) (U lT aD.Rr) (λk y G q z f b=>?_) λn o=>?_
 .refine(?_:dp (db _ (az 29).aM) _ _ _=u)
  decide+kernel
 .replace f:=il f;rcases f with rfl|rfl|rfl <;> exact BL (Cs (DD R) ah) x
 .obtain⟨r,rfl⟩:=o9 z;obtain⟨w,g⟩:∃w,p.Od[k]?=H w:=⟨_,BU (dk i r)⟩;have A:q=(w,iS (p.Os w)):=by rw[Ck,g]at f;cases f;rfl
  subst A;have b:=b;have C:=tQ aD.Rr g;have s:(p.Od.map B1).length=p.d:=BK (BH ..) (i);have E:=aD.O6.mp (B5 g)
  have t:∀{Q:Y->V->Prop}{σ:V},Q (.ab (.str w)) σ->jJ c d (.ab (.list (p.Od.map .str))) (.ab (.int (k:Int))) σ Q cm:=λh=>
   gl .aK (he (dk s r)) (o8 g) (a3 s (BG j (DD R))) h
  refine⟨_,.v (aH.ag (k:=0) (cL R)),eT ⟨R,c3 (bR (cT (.tail _ (.tail _ (.head _)))) (b.aj (W.c.ar 4 R)) (aw (k:=0) (cL R) R (t ⟨R,gB (aI (b4 (b4 (c3 (bR (cT (.tail _ (.head _))) (b.aj (W.c.ar 6 R)) (c3 (bR (cT (.tail _ (.tail _ (.head _)))) (b.aj (W.c.ar 4 R)) (aw (k:=0) (cL R) R (t (g9 (hj E) (bI (gd 11 (DD R) (bI (kE ?_))))))))))))))⟩)))⟩⟩;refine aI (b4 (bR (cT (.head _)) (b.aj (W.c.ar 5 R)) (aw (k:=0) (cL R) R (sj (x6 p _) (bn ⟨[.int (p.Ol w),.int (p.O2*(k:Int))],R,show 2<=1000000 by decide,?_,cD.NW b (BJ _) λm m e=>e⟩)))));unfold aD.Os aD.OK;exact U C R
 .exact⟨_,aH.ar (nC 10 R) hv,(k _ o ((W.OL o).OU 10 (.c5 (kn p)) (DD R))).o⟩
theorem xk(D:cP c a)(ai:p.Ok)(W:LW ah (oY p a I aB) a4 I ap aE [] aB aW av τ)
  (k:∀n,τ.aa<=n->LW ah (ic p a I aB) a4 I ap aE [] aB aW av (V.NX ⟨n,τ.aj,τ.ag⟩ (ah+11) (.ar (H (.c5 (kX p)))))->Rn c d a ah B (V.NX ⟨n,τ.aj,τ.ag⟩ (ah+11) (.ar (H (.c5 (kX p))))) Q X):Rn c d a ah (bw 12::B) τ Q X:=by
 have m:=W.c.aa;have o:=p.Ox ai;obtain⟨t,r⟩:=p.Oj ai;obtain⟨v,hv⟩:=W.c.I 11 (DD R);refine Rn.Oq<|g0 (by kernel_rfl)<|lg (cl:=[("when",ah+10),("long",ah+3)]) D.PO (by decide+kernel) (by kernel_rfl) (bR (nC 2 R) (W.c.ar 2 R) (ra (names:=["word"]) (gn:=[]) (gv:=[]) (g:=λw=>iS (p.OT w)) R (dQ (cn:=["when","long"]) ?_ R R trivial λq f=>?_) (λh=>R) (a3 o (BG r (DD R))) aD.O4 (λw x s b=>?_) λn i=>?_))
 .refine(?_:dp (db _ (az 29).aM) _ _ _=u)
  decide+kernel
 .replace f:=eU f;rcases f with rfl|rfl <;> exact BL (Cs (DD R) ah) m
 .have l:=aD.O6.mpr s;refine gB (aI (b4 (c3 (k6 (kl:=0) (cT (.head _)) (b.aj (W.c.ar 10 R)) l (cL R) R (bI (iN (xs:=[.ab (.int (p.Ol w)),.ab (.int (p.OK w))]) (j:=0) dK.ab R R (by decide) (bR (cT (.tail _ (.head _))) (b.aj (W.c.ar 3 R)) (iw (aI (c3 (k6 (kl:=0) (cT (.head _)) (b.aj (W.c.ar 10 R)) l (cL R) R (bI (iN (xs:=[.ab (.int (p.Ol w)),.ab (.int (p.OK w))]) (j:=1) dK.ab R R (by decide) ?_)))))))))))));exact bn ⟨[.int (p.Ol w+(p.OE:Nat)),.int (p.OK w)],R,show 2<=1000000 by decide,R,cD.NW b (BJ _) λh h e=>e⟩
 .exact⟨_,aH.ar (nC 11 R) hv,(k _ i ((W.OL i).OU 11 (.c5 (kX p)) (DD R))).o⟩
end
noncomputable def aD.Pc(p:aD):List T4:=p.aG.map λw=>(p.Ol w,p.OK w,"(",w)
noncomputable def aD.Pb(p:aD):List T4:=p.aG.map λw=>(p.Ol w+(p.OE:Nat),p.OK w,")",w)
noncomputable def cd(aZ:List T4):List O:=(aZ.filter λt=>t.2.2.1==("(":O)).map (·.2.2.2)
noncomputable abbrev j4(t:T4):Cj:=.tuple [.int t.1,.str t.2.2.1,.str t.2.2.2]
theorem Bt:(("(":O)==")")=BQ:=by decide+kernel
theorem aD.TV:(p.Pc++p.Pb).Nodup:=by
 have a:∀{f:O->T4},(∀w,(f w).2.2.2=w)->(p.aG.map f).Nodup:=λ{f}aJ=>by
  refine F7.mpr (Ln (λ{x y}b e=>b ?_) aD.O4);exact hn (aJ x) (br (aJ y) (U e R))
 refine Fd.mpr ⟨a λc=>R,a λc=>R,λx d y g e=>?_⟩;obtain⟨w,_,rfl⟩:=B7.mp d;obtain⟨v,_,rfl⟩:=B7.mp g;have h:("(":O)=")":=congrArg (λt:T4=>t.2.2.1) e;have:=Bt;rw[h]at this;simp at this
theorem aD.R6(ai:p.Ok):(p.Pc++p.Pb).length=2*p.d:=by
 rw[BV,aD.Pc,aD.Pb,BH,BH,p.Ox ai,Gc]
variable{x:Cj}
theorem ja{a b:Y}(an:jV σ a x)(ac:jV σ b x)(i:x.depth<=700)(h:Q (.ab (.bool BQ)) σ):co rV c d (CC .NotEq) a b σ Q X:=λA g s names L bl n j r f k l=>by
 obtain⟨as,a2,e⟩:=an.NV r k;obtain⟨bs,bH,m⟩:=ac.NV r l;refine IU a2 bH e m ?_ (bZ.Oi r f (.Oz _) ?_)
 .refine U (Lg ..) ?_;have:=j.QC;exact aV [_,_,_] af (nA 700) (aq (ct 0 800) a7) au (aq (aq ak af) a7) au al i this
 .exact U (Km x e) h
section
variable{c:Cx}{d:Nat}{τ:V}{a:LA}{ah:Nat}{X:AX->V->Prop}{Q:bY->V->Prop}{a4:List (Nat×Y)}{I:cO}{aB aW:Nat}{ap:Int}{aE:List O}{av:List (O×O)}
theorem vW(D:cP c a)(ai:p.Ok)(W:LW ah (ic p a I aB) a4 I ap aE [] aB aW av τ)
  (k:∀(n:Nat)(aZ:List T4),τ.aa<=n->aZ.Perm (p.Pc++p.Pb)->aZ.Pairwise (λx y=>d6 x y=u)->LW ah (ic p a I aB) ((6,.ab (.list (aZ.map dM)))::a4) I ap aE [] aB aW av (V.N2 ⟨n,τ.aj,τ.ag⟩ 6 (.ab (.list (aZ.map dM))))->Rn c d a ah B (V.N2 ⟨n,τ.aj,τ.ag⟩ 6 (.ab (.list (aZ.map dM)))) Q X):Rn c d a ah (bw 13::B) τ Q X:=by
 have m:=W.c.aa;have o:=p.Ox ai;obtain⟨t,f⟩:=p.Oj ai
 have v:∀q∈[(("when":O),ah+10)],q.2<τ.aa:=λq i=>by
  exact U (BO.mp i) (BL (Cs (DD R) ah) m)
 have z:∀n,τ.aa<=n->∀q∈[(("last":O),ah+11)],q.2<n:=λn g q i=>by
  exact U (BO.mp i) (BL (Cs (DD R) ah) (BG m g))
 refine Rn.Oq<|g0 (by kernel_rfl)<|dJ (dr (nG 6 R R) ⟨a1.Oe _,aI (b4 (e5 (cl:=[("when",ah+10)]) (by decide+kernel) (by kernel_rfl) (bR (nC 2 R) (W.c.ar 2 R) ?_)))⟩);refine ik (names:=["word"]) (gn:=[]) (gv:=[]) R (dQ (cn:=["when"]) ?_ R R trivial v) (λb=>R) (a3 o (BG f (DD R))) (hJ (λw=>dM (p.Ol w,p.OK w,"(",w)) p.aG) (λw A j h=>eT ⟨λb=>?_,λac=>nomatch ac⟩) λn g=>.inl ?_
 .refine(?_:dp (db _ (az 29).aM) _ _ _=u)
  decide+kernel
 .refine b4 (k6 (kl:=0) (cT (.head _)) (h.aj (W.c.ar 10 R)) (aD.O6.mpr j) (cL R) R (gB ?_));refine aI (b8 (aI (aw (k:=0) (cL R) R (bn ⟨[.str "(",.str w],R,show 2<=1000000 by decide,t5 (ds:=[.int (p.Ol w),.int (p.OK w)]) nofun nofun (show 4<=1000000 by decide) ⟨⟨_,R,R⟩,cD.NW h (BJ _) λb b e=>e⟩⟩))))
 refine e5 (by decide+kernel) (by kernel_rfl) (bR (nC 2 R) (W.c.ar 2 R) (ik (names:=["word"]) (gn:=[]) (gv:=[]) R (dQ (cn:=["last"]) ?_ R R trivial (z n g)) (λb=>R) (a3 o (BG f (DD R))) (hJ (λw=>dM (p.Ol w+(p.OE:Nat),p.OK w,")",w)) p.aG) (λw A j h=>eT ⟨λb=>?_,λac=>nomatch ac⟩) λeI r=>.inl ?_))
 .refine(?_:dp (db _ (az 29).aM) _ _ _=u)
  decide+kernel
 .refine b4 (k6 (kl:=0) (cT (.head _)) (h.aj (W.c.ar 11 R)) j (cL R) R (gB ?_));refine aI (b8 (aI (aw (k:=0) (cL R) R (bn ⟨[.str ")",.str w],R,show 2<=1000000 by decide,t5 (ds:=[.int (p.Ol w+(p.OE:Nat)),.int (p.OK w)]) nofun nofun (show 4<=1000000 by decide) ⟨⟨_,R,R⟩,cD.NW h (BJ _) λb b e=>e⟩⟩))))
 have l:=p.R6 ai
 have s:(p.aG.map λw=>dM (p.Ol w,p.OK w,"(",w))++(p.aG.map λw=>dM (p.Ol w+(p.OE:Nat),p.OK w,")",w))=(p.Pc++p.Pb).map dM:=by
  rw[Cb,aD.Pc,aD.Pb,CJ,CJ];rfl
 refine oa .aK .aK ?_ (.inl ?_)
 .refine br BV (U s (a3 (BH ..) (a3 l ?_)));exact aV [_] ak f2 ak f2 (fz 2 ak) dD al f f
 .refine U s<|bn (ce (yT .aK aD.TV (by refine dH l ?_;exact a0 [_] (nA 4) ak (nA 2) (fz 2 ak) al t) (by refine oo l ?_;exact aV [_] ak f2 ak f2 (aq (fz 2 ak) a7) (nA 64) al f f) λaZ C E=>?_));exact⟨_,aH.ag (nL 6 R),(k _ aZ (BG g r) C E ((W.OL (BG g r)).N2 6 (.ab (.list (aZ.map dM))))).o⟩
theorem vh{aZ:List T4}(i:aZ.length<=10)(W:LW ah (ic p a I aB) a4 I ap aE [] aB aW av τ)(l:J a4 6=H (.ab (.list (aZ.map dM))))
  (k:∀n,τ.aa<=n->LW ah (ic p a I aB) ((7,.ab (.list ((cd aZ).map .str)))::a4) I ap aE [] aB aW av (V.N2 ⟨n,τ.aj,τ.ag⟩ 7 (.ab (.list ((cd aZ).map .str))))->Rn c d a ah B (V.N2 ⟨n,τ.aj,τ.ag⟩ 7 (.ab (.list ((cd aZ).map .str)))) Q X):Rn c d a ah (bw 14::B) τ Q X:=by
 have v:=W.c.aa;refine Rn.Oq<|kc (cl:=[]) (by decide+kernel) (by kernel_rfl) (by kernel_rfl)<|aw (nL 6 R) (W.c.ag 6 _ l) ?_
 have m:(Ch ((aZ.map dM).map Y.ab).length).filterMap (λj=>aZ[j]?.bind λt=>if t.2.2.1==("(":O)then H (B1 t.2.2.2)else B2)=(cd aZ).map .str:=by
  rw[BH,BH,g1,m3 (λt:T4=>t.2.2.1==("(":O)) (λt=>B1 t.2.2.2),cd,CJ];rfl
 refine gr (names:=["one"]) (gn:=[]) (gv:=[]) (f:=λj=>aZ[j]?.bind λt=>if t.2.2.1==("(":O)then H (B1 t.2.2.2)else B2) (dm.NW et.O1) (dQ ?_ R R trivial λq o=>nomatch o) (λb=>R) (a3 (BH ..) (a3 (BH ..) (BG i (DD R)))) (λj y w r g=>?_) λn h=>.inl ?_
 .refine(?_:dp (db _ (az 29).aM) _ _ _=u)
  decide+kernel
 .obtain⟨x,s,rfl⟩:=cY r;obtain⟨t,ao,rfl⟩:=cY s;have g:=g
  let xs:List Y:=[.ab (.int t.1),.ab (.int t.2.1),.ab (.str t.2.2.1),.ab (.str t.2.2.2)]
  refine⟨_,.v (aH.ag (k:=0) (cL R)),iH (ca (c3 (aw (k:=0) (cL R) R (bI (iN (xs:=xs) (j:=2) dK.ab R R (by decide) (b8 (hL ⟨_,R,λac=>?_,λac=>?_⟩)))))))⟩
  .exact c3 (aw (k:=0) (cL R) R (bI (iN (xs:=xs) (j:=3) dK.ab R R (by decide) ⟨⟨.str t.2.2.2,by simp only[ao,CF,ac,if_true],R⟩,cD.NW g (BJ _) λb b e=>e⟩)))
  .exact⟨by simp only[ao,CF,ac];rfl,cD.NW g (BJ _) λb b e=>e⟩
 .refine U m<|⟨_,aH.ag (nL 7 R),(k _ h ((W.OL h).N2 7 (.ab (.list ((cd aZ).map .str))))).o⟩
theorem At(ai:p.Ok){aZ:List T4}(v:aZ.length<=10){o:Nat}(W:LW ah (ic p a I aB) a4 I ap aE [] aB aW av τ)(w:J a4 6=H (.ab (.list (aZ.map dM))))(z:J a4 5=H (.ab (.list (p.Od.map .str))))(A:J a4 4=H (.aP o))(C:J τ.aj o=H (.aN (aZ.map j4)))
  (k:∀n,τ.aa<=n->LW ah (ic p a I aB) a4 I ap aE [] aB aW av ⟨n,τ.aj,τ.ag⟩->Rn c d a ah B ⟨n,τ.aj,τ.ag⟩ Q X):Rn c d a ah (bw 15::B) τ Q X:=by
 have K:=W.c.aa;refine Rn.Oq<|cU (hG (pos':=⟨0,0,0,0⟩) (ca (aw (nL 5 R) (W.c.ag 5 _ z) (bR (nC 4 R) (W.c.ar 4 R) (ja (.S .ab) (.S .ab) (BG (h8 _) (DD R)) ⟨BQ,R,λg=>?_,λac=>nomatch ac⟩)))));refine hG (pos':=⟨0,0,0,0⟩) (ca (aw (nL 4 R) (W.c.ag 4 _ A) (e5 (cl:=[]) (by decide+kernel) (by kernel_rfl) (aw (nL 6 R) (W.c.ag 6 _ w) ?_))))
 have D:(Ch ((aZ.map dM).map Y.ab).length).filterMap (λj=>aZ[j]?.bind λt=>H (j4 t))=aZ.map j4:=by
  exact U (BH ..) (U (BH ..) (BK (g1 ..) ((hJ ..))))
 refine gr (names:=["one"]) (gn:=[]) (gv:=[]) (f:=λj=>aZ[j]?.bind λt=>H (j4 t)) (dm.NW et.O1) (dQ (cn:=[]) ?_ R R trivial λq E=>nomatch E) (λg=>R) (a3 (BH ..) (a3 (BH ..) (BG v (DD R)))) (λj y r F l=>?_) λn s=>.inl ?_
 .refine(?_:dp (db _ (az 29).aM) _ _ _=u)
  decide+kernel
 .obtain⟨L,G,rfl⟩:=cY F;obtain⟨t,ao,rfl⟩:=cY G;have l:=l
  let xs:List Y:=[.ab (.int t.1),.ab (.int t.2.1),.ab (.str t.2.2.1),.ab (.str t.2.2.2)]
  have m:∀{i:Nat}{x:Y}{Q:Y->V->Prop}(hi:Eg (i:Int) 4=H i)(b:xs[i]?=H x),Q x (r.N2 0 (.ab (dM t)))->jJ c d (.ab (dM t)) (.ab (.int (i:Int))) (r.N2 0 (.ab (dM t))) Q cm:=λ{i x Q}hi b h=>iN (xs:=xs) dK.ab hi b (by have:=(BY.mp b).1;exact jX (BL (show i<4 from this) (by decide))) h
  refine⟨_,.v (aH.ag (k:=0) (cL R)),eT ⟨λg=>?_,λac=>nomatch ac⟩⟩;refine gB (aI (c3 (aw (k:=0) (cL R) R (bI (m R R (aI (c3 (aw (k:=0) (cL R) R (bI (m R R (aI (c3 (aw (k:=0) (cL R) R (bI (m R R (bn ⟨[.int t.1,.str t.2.2.1,.str t.2.2.2],R,show 3<=1000000 by decide,⟨j4 t,by simp only[ao,CF],R⟩,cD.NW l (BJ _) λg g e=>e⟩))))))))))))))))
 .refine U D<|ja (.S (.bm C)) (.S .ab) (BG (lb (B:=2) λx b=>?_) (DD R)) ⟨BQ,R,λg=>?_,λac=>nomatch ac⟩
  rotate_left
  .exact kQ ⟨λac=>(nomatch ac),λg=>bJ (k _ s (W.OL s)).o⟩
  obtain⟨t,_,rfl⟩:=B7.mp b
  exact ml λx b=>by
   replace b:=il b;rcases b with rfl|rfl|rfl <;> simp[DW]
end
section
variable{ah:Nat}{a9 a4:List (Nat×Y)}{I:cO}{ap cC:Int}{aE mB bk mE:List O}{aB aW:Nat}{av uq:List (O×O)}{τ τ':V}
theorem LW.Q1(W:LW ah a9 a4 I ap aE bk aB aW av τ)(T:hE [I.j,I.e,I.f,aW] τ τ')(a:ei τ' I cC mB mE)(H':f3 τ' aB aW uq):LW ah a9 a4 I cC mB mE aB aW uq τ':=
 ⟨W.c.Q1 T λi hi=>W.K i (wQ hi),a,H',W.K,W.PF⟩
end
structure pG(p:aD)(row:List Ev)(ord:List O)(tabL:List (O×O)):Prop where
 Tw:∀k e,row[k]?=H e->ps (dR p.OF row k) e
 bO:(dR p.OF row row.length).bO=ord
 a5:(dR p.OF row row.length).a5=[]
 fl:(dR p.OF row row.length).fl=tabL
 dV:∀w∈ord,el (dR p.OF row row.length).bo (dR p.OF row row.length).bp w=(p.d:Int)-1
 RM:∀e∈row,m1 e.2.2
 cZ:row.length<=10
 Tl:ord.length<=10
theorem wN(ai:p.Ok):p.OF.length<=5:=BG (CI _ _) (a3 (p.Ox ai) ((p.Oj ai).2))
theorem xX(xs:List Int):(GK (xs.map .int)).depth<=2:=lb λx a=>by
 obtain⟨i,_,rfl⟩:=B7.mp a;simp[DW]
section
variable{c:Cx}{d:Nat}{τ:V}{a:LA}{ah:Nat}{X:AX->V->Prop}{Q:bY->V->Prop}{a4:List (Nat×Y)}{I:cO}{aB aW:Nat}{ap:Int}{aE:List O}{av:List (O×O)}
theorem z0(D:cP c a)(ai:p.Ok){f:List Ev}{g:List O}{l:List (O×O)}(F:pG p f g l){h:Nat}(W:LW ah (ic p a I aB) a4 I ap aE [] aB aW [] τ)(z:∀s∈aE,s.length=1)(A:aE.length<=800)(m:J a4 7=H (.ab (.list (g.map .str))))(C:J a4 4=H (.aP h))(E:J τ.aj h=H (.aN (f.map eA)))(G:h∉[I.j,I.x,I.s,I.m,I.e,I.f]/\h≠aB/\h≠aW)
  (k:∀τ',LW ah (ic p a I aB) a4 I ap aE [] aB aW l τ'->Rn c (d+10) a ah B τ' Q X):Rn c (d+10) a ah (bw 16::B) τ Q X:=by
 have an:=W.c.aa;have K:=wN ai;have L:=F.cZ;have N:=F.Tl;refine Rn.N5 λP=>?_;refine Rn.Oq<|cU (ca (d3 (nG 7 R R) (a1.N4 D.Pf) (.ag (nL 4 R) (W.c.ag 4 _ C) (.ar (nC 8 R) (W.c.ar 8 R) (.ar (nC 9 R) (W.c.ar 9 R) (.ar (nC 7 R) (W.c.ar 7 R) .a6)))) (WK.NW (WC.Of (yz D z A E (BG L (DD R)) F.RM (BG K (DD R)) F.Tw (W.Qt P).1 G W.cz W.bF λσ' ao o r T av ax t=>?_)))));rw[F.a5]at o;rw[F.fl]at r;rw[F.bO]at t⊢;have S:(g.map λw=>D2 (el (dR p.OF f f.length).bo (dR p.OF f f.length).bp w))=g.map λb=>D2 ((p.d:Int)-1):=Jt λw v=>U (F.dV w v) R;refine U S ?_;have i:=W.Q1 (τ':=σ'.N1 τ) ⟨T.aa,R,T.aj⟩ (o.bM λb b=>R) (r.bM R R);refine hz (aI (aw (nL 7 R) (i.c.ag 7 _ m) (aI (e5 (cl:=[("many",ah+1)]) (by decide+kernel) (by kernel_rfl) (aw (nL 7 R) (i.c.ag 7 _ m) ?_)))));refine ik (names:=["word"]) (gn:=[]) (gv:=[]) R (dQ (cn:=["many"]) ?_ R R trivial λq ae=>?_) (λb=>R) (BG N (DD R)) (hJ (λw=>D2 ((p.d:Int)-1)) g) (λw ay v y=>eT ⟨λb=>?_,λac=>nomatch ac⟩) λn am=>.inl ?_
 .refine(?_:dp (db _ (az 29).aM) _ _ _=u)
  decide+kernel
 .exact U (BO.mp ae) (BL (Cs (DD R) ah) i.c.aa)
 .exact b4 (bR (cT (.head _)) (y.aj (i.c.ar 1 R)) (bI (kE ⟨⟨_,R,R⟩,cD.NW y (BJ _) λb b e=>e⟩)))
 .refine bn ⟨show 2<=1000000 by decide,ja (.Sd (.bm t) .ab) (.Sd .ab .ab) ?_ ⟨BQ,R,λac=>(nomatch ac),λb=>bJ (k _ (i.OL am)).o⟩⟩;refine BG (ml (B:=2) λx j=>?_) (DD R);replace j:=eU j;rcases j with rfl|rfl
  .exact h8 _
  .have:=xX (g.map λb=>(p.d:Int)-1);rwa [CJ]at this
end
noncomputable def aD.OJ(p:aD)(w:O):List O:=p.aG.filter λa=>bW w a&&dL (p.OT a) (p.Os w)
noncomputable def aD.Pv(p:aD)(w:O):List O:=p.aG.filter λa=>bW a w&&dL (p.Os a) (p.Os w)
noncomputable def aD.dV(p:aD)(w:O):Nat:=(p.OJ w).length+(p.Pv w).length
noncomputable abbrev py(p:aD):List (O×Cj):=p.aG.map λw=>(w,.list ((p.OJ w).map .str))
noncomputable abbrev pV(p:aD):List (O×Cj):=p.aG.map λw=>(w,.int (p.dV w:Nat))
noncomputable abbrev ol(p:aD)(a:LA)(I:cO)(aB:Nat):List (Nat×Y):=(12,.c5 (py p))::ic p a I aB
noncomputable abbrev eG(p:aD)(a:LA)(I:cO)(aB:Nat):List (Nat×Y):=(13,.c5 (pV p))::ol p a I aB
theorem zR(ai:p.Ok)(w:O):(p.OJ w).length<=5:=BG (CI _ _) (a3 (p.Ox ai) ((p.Oj ai).2))
theorem vz(ai:p.Ok)(w:O):(p.Pv w).length<=5:=BG (CI _ _) (a3 (p.Ox ai) ((p.Oj ai).2))
section
variable{c:Cx}{d:Nat}{τ:V}{a:LA}{ah:Nat}{X:AX->V->Prop}{Q:bY->V->Prop}{a4:List (Nat×Y)}{I:cO}{aB aW:Nat}{ap:Int}{aE bk:List O}{av:List (O×O)}
theorem sx{bQ:Ef}{cl:List (O×Nat)}{j k:CQ}{i m tp:FH}{f g:O->Bool}{K:(V->V)->Y->V->Prop}(o:(fF ae bQ σ.aa cl ["one"] [] []).Ok c σ.aa)(p:∀τ:V,τ.b0 bQ.names=τ)(q:aR.length<=1000)
  (r:∀w a(Q:Bool->V->Prop),w∈aR->cD σ a->J a.ag 0=H (.ab (.str w))->Q (f w) a->WB c d (fF ae bQ σ.aa cl ["one"] [] []) j a Q cm)
  (s:∀w a(Q:Bool->V->Prop),w∈aR->cD σ a->J a.ag 0=H (.ab (.str w))->Q (g w) a->WB c d (fF ae bQ σ.aa cl ["one"] [] []) k a Q cm)
  (t:∀n,σ.aa<=n->K (λσ=>σ) (.ab (.list ((aR.filter λw=>f w&&g w).map .str))) ⟨n,σ.aj,σ.ag⟩):
  hY c d ae (.Name "one" tp) [.BoolOp .And [j,k] i] bQ cl hU [] (jA (.Name "one" m)) σ (.ab (.list (aR.map .str))) λv x σ' ba=>LQ x σ' ba (K v):=by
 refine ik R o p q (m3 (λw=>f w&&g w) B1 aR) (λw y l z=>?_) λn A=>.inl (t n A);have b:cD σ (y.N2 0 (.ab (.str w))):=cD.NW z (BJ _) λh h e=>e;refine iH (kW (pos':=i) (r w _ _ l b (bq _ _ _) ⟨λh1=>kW (pos':=i) (s w _ _ l b (bq _ _ _) ⟨λh2=>rn ⟨λh=>aw (cL R) (bq _ _ _) ⟨⟨.str w,by refine U h1 (U h2 ?_);rfl,R⟩,b⟩,λac=>(nomatch ac)⟩,λh2=>⟨λac=>(nomatch ac),λh=>⟨by refine U h2 (U (Bool.and_false ..) ?_);rfl,b⟩⟩⟩),λh1=>⟨λac=>(nomatch ac),λh=>⟨by refine U h1 ?_;rfl,b⟩⟩⟩))
theorem uQ(D:cP c a)(ai:p.Ok)(W:LW ah (ic p a I aB) a4 I ap aE bk aB aW av τ)
  (k:∀τ',LW ah (ol p a I aB) a4 I ap aE bk aB aW av τ'->Rn c d a ah B τ' Q X):Rn c d a ah (bw 17::B) τ Q X:=by
 have P:=W.c.aa;have C:=p.Ox ai;obtain⟨ax,E⟩:=p.Oj ai;have l:∀{i m},i<15->τ.aa<=m->ah+i<m:=λhi S=>BL (Cs hi ah) (BG P S);refine Rn.N5 λT=>Rn.Oq<|g0 (by kernel_rfl)<|lg (cl:=[("when",ah+10),("names",ah+2),("last",ah+11)]) D.PO (by decide+kernel) (by kernel_rfl) (bR (nC 2 R) (W.c.ar 2 R) (rh (names:=[]) (gn:=[]) (gv:=[]) (kvs:=py p) (dm.NW et.O1) (pW (cn:=["when","names","last"]) ?_ R R trivial (λq b=>?_) (B3 _)) (λt=>R) (a3 (BH ..) (a3 C (BG E (by decide)))) (BK (BH ..) (bP (BH ..) (bP (BH ..) R))) (U lT aD.O4) T (λk y F q ac b G=>?_) λn x=>?_))
 .refine(?_:dp (db _ (az 29).aM) _ _ _=u)
  decide+kernel
 .replace b:=il b;rcases b with rfl|rfl|rfl <;> exact l (by decide) (Cr _)
 .obtain⟨ay,ae,rfl⟩:=cY ac;obtain⟨w,K,rfl⟩:=cY ae;have am:q=(w,.list ((p.OJ w).map .str)):=by rw[Ck,K]at b;cases b;rfl
  subst am;have an:=B5 K;obtain⟨aJ,ao⟩:=G.ar;have j:=G.NX (.ab (.str w));have z:J (F.NX τ.aa (.ar (H (.ab (.str w))))).aj τ.aa=H (.ar (H (.ab (.str w)))):=bq _ _ _;have L:∀{i:Nat}{o:bL}{s:V},i<15->cD (F.NX τ.aa (.ar (H (.ab (.str w))))) s->J τ.aj (ah+i)=H o->J s.aj (ah+i)=H o:=λhi h e=>h.aj (j.aj _ _ (BZ (l hi (BJ _))) e);refine⟨_,.v (aH.ar kz ao),eT ⟨R,bR kz z ⟨R,e5 (cl:=[("word",τ.aa),("when",ah+10),("last",ah+11)]) (by decide+kernel) (by kernel_rfl) (bR (nq (.tail _ (.head _))) (j.aj _ _ (BZ (l (by decide) (BJ _))) (W.c.ar 2 R)) ?_)⟩⟩⟩;refine sx (f:=λr=>bW w r) (g:=λr=>dL (p.OT r) (p.Os w)) (dQ (cn:=["word","when","last"]) ?_ R R trivial λq b=>?_) (λt=>R) (a3 C (BG E (by decide))) (λr s Q N hi A b=>?_) (λr s Q N hi A b=>?_) λn x=>?_
  .refine(?_:dp (db _ (db _ (az 29).aM)) _ _ _=u)
   decide+kernel
  .replace b:=il b;rcases b with rfl|rfl|rfl
   .exact j.aa
   .exact l (by decide) (BG (Cr _) j.aa)
   .exact l (by decide) (BG (Cr _) j.aa)
  .exact ca (aw (cL R) A (bR (cT (.head _)) (hi.aj z) (oV ⟨_,R,b⟩)))
  .exact ca (k6 (cT (.tail _ (.tail _ (.head _)))) (L (by decide) hi (W.c.ar 11 R)) N (cL R) A (c3 (bR (cT (.tail _ (.head _))) (L (by decide) hi (W.c.ar 10 R)) (bR (cT (.head _)) (hi.aj z) (g9 (hj (aD.O6.mpr an)) (sI ⟨_,R,b⟩))))))
  .exact⟨R,j.NW x λt t e=>e⟩
 .obtain⟨v,hv⟩:=W.c.I 12 (DD R);exact⟨_,aH.ar (nC 12 R) hv,(k _ ((W.OL x).OU 12 (.c5 (py p)) (DD R))).o⟩
theorem v5(D:cP c a)(ai:p.Ok)(W:LW ah (ol p a I aB) a4 I ap aE bk aB aW av τ)
  (k:∀τ',LW ah (eG p a I aB) a4 I ap aE bk aB aW av τ'->Rn c d a ah B τ' Q X):Rn c d a ah (bw 18::B) τ Q X:=by
 have ae:=W.c.aa;have E:=p.Ox ai;obtain⟨aL,F⟩:=p.Oj ai;have r:∀{i m},i<15->τ.aa<=m->ah+i<m:=λhi am=>BL (Cs hi ah) (BG ae am);refine Rn.N5 λan=>Rn.Oq<|g0 (by kernel_rfl)<|lg (cl:=[("when",ah+10),("names",ah+2),("ahead",ah+12)]) D.PO (by decide+kernel) (by kernel_rfl) (bR (nC 2 R) (W.c.ar 2 R) (rh (names:=[]) (gn:=["len"]) (gv:=[.builtin "len"]) (kvs:=pV p) (dm.NW et.O1) (pW (cn:=["when","names","ahead"]) ?_ R R ⟨D.B.cZ,trivial⟩ (λq b=>?_) (B3 _)) (λx=>R) (a3 (BH ..) (a3 E (BG F (by decide)))) (BK (BH ..) (bP (BH ..) (bP (BH ..) R))) (U lT aD.O4) an (λk y z q ao b G=>?_) λn A=>?_))
 .refine(?_:dp (db _ (az 29).aM) _ _ _=u)
  decide+kernel
 .replace b:=il b;rcases b with rfl|rfl|rfl <;> exact r (by decide) (Cr _)
 .obtain⟨aO,ax,rfl⟩:=cY ao;obtain⟨w,K,rfl⟩:=cY ax;have ay:q=(w,.int (p.dV w:Nat)):=by rw[Ck,K]at b;cases b;rfl
  subst ay;have L:=B5 K;obtain⟨aR,aJ⟩:=G.ar;have j:=G.NX (.ab (.str w));have s:J (z.NX τ.aa (.ar (H (.ab (.str w))))).aj τ.aa=H (.ar (H (.ab (.str w)))):=bq _ _ _;have N:∀{i:Nat}{o:bL}{t:V},i<15->cD (z.NX τ.aa (.ar (H (.ab (.str w))))) t->J τ.aj (ah+i)=H o->J t.aj (ah+i)=H o:=λhi h e=>h.aj (j.aj _ _ (BZ (r hi (BJ _))) e);have P:∀{i:Nat}{o:bL},i<15->J τ.aj (ah+i)=H o->J (z.NX τ.aa (.ar (H (.ab (.str w))))).aj (ah+i)=H o:=λhi e=>j.aj _ _ (BZ (r hi (BJ _))) e;have S:((p.OJ w).map B1).length=(p.OJ w).length:=BH _;have T:((p.Pv w).map B1).length=(p.Pv w).length:=BH _;refine⟨_,.v (aH.ar kz aJ),eT ⟨R,bR kz s ⟨R,b4 (dJ (dr (pB 0 R R) ⟨a1.Oe _,aI (c3 (bR (nq (.tail _ (.tail _ (.head _)))) (P (by decide) (W.c.ar 12 R)) (bR kz s (g9 (hj L) (bn (ce (iG .aK (a3 S (BG (zR ai w) (by decide))) ?_)))))))⟩))⟩⟩⟩;refine dJ (dr (pB 0 R R) ⟨a1.Oe _,aI (e5 (cl:=[("word",τ.aa),("when",ah+10)]) (by decide+kernel) (by kernel_rfl) (bR (nq (.tail _ (.head _))) (P (by decide) (W.c.ar 2 R)) ?_))⟩);refine sx (f:=λl=>bW l w) (g:=λl=>dL (p.Os l) (p.Os w)) (dQ (cn:=["word","when"]) ?_ R R trivial λq b=>?_) (λx=>R) (a3 E (BG F (by decide))) (λl t Q ac hi C b=>?_) (λl t Q ac hi C b=>?_) λn A=>?_
  .refine(?_:dp (db _ (db _ (az 29).aM)) _ _ _=u)
   decide+kernel
  .replace b:=eU b;rcases b with rfl|rfl
   .exact j.aa
   .exact r (by decide) (BG (Cr _) j.aa)
  .exact ca (aw (cL R) C (bR (cT (.head _)) (hi.aj s) (nS ⟨_,R,b⟩)))
  .exact ca (k6 (cT (.tail _ (.head _))) (N (by decide) hi (W.c.ar 10 R)) (aD.O6.mpr ac) (cL R) C (c3 (bR (cT (.tail _ (.head _))) (N (by decide) hi (W.c.ar 10 R)) (bR (cT (.head _)) (hi.aj s) (g9 (hj (aD.O6.mpr L)) (sI ⟨_,R,b⟩))))))
  .refine bn (ce (iG (ds:=(p.Pv w).map .str) .aK (a3 T (BG (vz ai w) (by decide))) (U S (U T ?_))));exact oL ⟨R,j.NW A λx x e=>e⟩
 .obtain⟨v,hv⟩:=W.c.I 13 (DD R);exact⟨_,aH.ar (nC 13 R) hv,(k _ ((W.OL A).OU 13 (.c5 (pV p)) (DD R))).o⟩
end
noncomputable def eV(p:aD)(a:List O):List (O×O):=a.map λw=>(dB (p.OF.contains w) (p.dV w),w)
theorem rc{l:Nat}(h:l<5):((Eg (l:Int) ("abcde":O).length).bind (("abcde":O).cps[·]?)=H (97+l))/\((Eg (l:Int) ("ABCDE":O).length).bind (("ABCDE":O).cps[·]?)=H (65+l)):=by
 refine jW (h) ?_ ?_ ?_ ?_ ?_ <;> decide+kernel
noncomputable def j7:O:="\n"
theorem xq:(gH.all λv=>(v++j7).length==2&&BR (v++j7)&&(fA ie (v++j7)==H u))=u:=by decide+kernel
theorem AO(h:v∈gH):(v++j7).length=2/\BR (v++j7)=u/\fA ie (v++j7)=H u:=by
 have:=Cn.mp xq v h;simp only[Cv,beq_iff_eq]at this;exact⟨this.1.1,this.1.2,this.2⟩
theorem s1(t:List (O×O)):(GK (t.map e4)).depth<=3:=lb λx a=>by
 obtain⟨q,_,rfl⟩:=B7.mp a
 exact ml λx a=>by
  replace a:=eU a;rcases a with rfl|rfl <;> simp[DW]
section
variable{c:Cx}{d:Nat}{τ:V}{a:LA}{ah:Nat}{X:AX->V->Prop}{Q:bY->V->Prop}{a4:List (Nat×Y)}{I:cO}{aB aW:Nat}{ap:Int}{aE bk:List O}{av:List (O×O)}
theorem ww{b:List O}(ai:p.Ok)(o:b.length<=10)(r:∀w∈b,w∈p.aG/\p.dV w<5)(W:LW ah (eG p a I aB) a4 I ap aE bk aB aW av τ)(s:J a4 7=H (.ab (.list (b.map .str))))
  (k:∀τ',LW ah (eG p a I aB) ((8,.ab (.list ((eV p b).map e4)))::a4) I ap aE bk aB aW av τ'->Rn c d a ah B τ' Q X):Rn c d a ah (bw 19::B) τ Q X:=by
 have t:=W.c.aa;refine Rn.Oq<|kc (cl:=[("label",ah+13),("great",ah+7)]) (by decide+kernel) (by kernel_rfl) (by kernel_rfl)<|aw (nL 7 R) (W.c.ag 7 _ s)<|ik (names:=["word"]) (gn:=[]) (gv:=[]) (f:=λw=>H (e4 (dB (p.OF.contains w) (p.dV w),w))) R (dQ (cn:=["label","great"]) ?_ R R trivial λq i=>?_) (λg=>R) (BG o (DD R)) (out:=(eV p b).map e4) ?_ (λw A v h=>eT ⟨λg=>?_,λac=>nomatch ac⟩) λn x=>.inl ?_
 .refine(?_:dp (db _ (az 29).aM) _ _ _=u)
  decide+kernel
 .replace i:=eU i;rcases i with rfl|rfl <;> exact BL (Cs (DD R) ah) t
 .rw[hJ,eV,CJ];rfl
 .obtain⟨j,l⟩:=r w v;obtain⟨y,z⟩:=rc l;have m:(-(2^63):Int)<=(p.dV w:Nat)/\((p.dV w:Nat):Int)<2^63:=jX (BL l (by decide));refine gB (aI (c3 (hN (ca (aw (k:=0) (cL R) R (bR (cT (.tail _ (.head _))) (h.aj (W.c.ar 7 R)) (n3 .ab .aK (by simp[DW]) ⟨_,R,λac=>?_,λac=>?_⟩)))))))
  .rw[jK]at ac;refine b8<|c3 (bR (cT (.head _)) (h.aj (W.c.ar 13 R)) (aw (k:=0) (cL R) R (g9 (hj j) (jF z m (aI (aw (k:=0) (cL R) R (bn ⟨[.str ⟨#[65+p.dV w]⟩,.str w],R,show 2<=1000000 by decide,⟨_,R,?_⟩,cD.NW h (BJ _) λg g e=>e⟩)))))));exact U ac R
  .rw[jK]at ac;refine b8<|c3 (bR (cT (.head _)) (h.aj (W.c.ar 13 R)) (aw (k:=0) (cL R) R (g9 (hj j) (jF y m (aI (aw (k:=0) (cL R) R (bn ⟨[.str ⟨#[97+p.dV w]⟩,.str w],R,show 2<=1000000 by decide,⟨_,R,?_⟩,cD.NW h (BJ _) λg g e=>e⟩)))))));exact U ac R
 .exact⟨_,aH.ag (nL 8 R),(k _ ((W.OL x).N2 8 (.ab (.list ((eV p b).map e4))))).o⟩
theorem vb(D:cP c a){b:List O}(ai:p.Ok)(q:b.length<=10)(W:LW ah (eG p a I aB) a4 I ap aE bk aB aW (eV p b) τ)(r:J a4 8=H (.ab (.list ((eV p b).map e4))))
  (k:∀τ',LW ah (eG p a I aB) a4 I ap aE bk aB aW (eV p b) τ'->Rn c (d+10) a ah B τ' Q X):Rn c (d+10) a ah (bw 20::B) τ Q X:=by
 have F:=W.c.aa;have g:=p.Ox ai;obtain⟨j,s⟩:=p.Oj ai;have m:(eV p b).length<=1000:=by rw[eV,BH];exact BG q (DD R)
 obtain⟨w,n⟩:∃w,p.aG[0]?=H w:=⟨_,BU (dk g (BL (DD R) j))⟩;have t:=aD.Qv (B5 n);refine A3 (AO t) λo v x=>?_;obtain⟨log,y,_⟩:=W.bF.ns;refine Rn.N5 λz=>Rn.Oq<|cU (hG (pos':=⟨0,0,0,0⟩) (pO (gN (dJ (dr (nG 8 R R) ⟨a1.N4 D.Ps,aI (h9 (bR (nC 9 R) (W.c.ar 9 R) (sc D.bF.cp y D.bF.Qe.1 D.bF.Qe.OY D.bF.ga D.bF.gt FO.Sk (by decide+kernel) (by decide+kernel) (aI (gB (aI (b8 ?_)))))))⟩)))))
 refine aI (b4 (c3 (bR (nC 2 R) (W.c.ar 2 R) (bI (gl .aK (he (dk (BH ..) (dk g (BL (DD R) j)))) (o8 n) (a3 (BH ..) (a3 g (BG s (DD R)))) (b8 ?_))))));refine gm (by refine br (hF ..) (a3 o ?_);decide) (bn ⟨[.str "a",.str (w++j7)],R,show 2<=1000000 by decide,aI ?_⟩);refine b8<|bn (ce (WK.NW (WC.Of (q7 D D.bF.Rm (λA f=>a1.dN (f▸D.bF.Qe.2)) dK.ab (show 2<=1000 by decide) λA l f=>o4 (ts (σ:=⟨τ.aa,τ.aj,l⟩) (f▸D.bF) (f▸D.PO) (W.bF.bM R R) m (by decide+kernel) ⟨by refine a3 o ?_;decide,v⟩ x (by decide+kernel) (λh=>nomatch h) λi=>⟨R,R,?_⟩)))));have C:(oI==("Control characters not allowed in headers":O))=u:=beq_self_eq_true _;refine U C<|iI ⟨λi=>?_,λac=>nomatch ac⟩;have e:=W.N0 z (BJ _) (.aN []);obtain⟨G,E,_⟩:=e.bF.ns;refine hG (pos':=⟨0,0,0,0⟩) (ca (fe (.ar (nC 9 R) (e.c.ar 9 R)) (cf.N4 D.bF.cp E D.bF.P6 D.bF.ga D.bF.gt FO.Sb (by decide+kernel)) (a1.N4 D.bF.P6.2) .a6 (WK.NW (WC.Of (oy D.bF e.bF m (.inl (aw (nL 8 R) (e.c.ag 8 _ r) (ja (.S .ab) (.S .ab) (BG (s1 _) (DD R)) ⟨BQ,R,λi=>?_,λac=>nomatch ac⟩))))))));exact kQ ⟨λac=>(nomatch ac),λi=>bJ (k _ e).o⟩
end
variable{s:BN}{as:List Y}
theorem sv{g:Gh}{s':BN}{names:List O}{L:M}{a:M}{o:Ge}{vs:Array Z}(r:aA c g σ s)(f:bd c names L g σ s)(k:∀b o,s.heap.get? b=H o->s'.heap.get? b=H o)(d:s.heap.objs.size<=s'.heap.objs.size)(e:s'.gens=s.gens)(i:s'.os=s.os)
  (an:s.heap.objs.size<=a)(j:s'.heap.get? a=H o)(ai:iA o)(l:o.data=.seq vs n)(hv:bA c s'.heap g.F g.a σ.aa as vs.toList)(h:Q (.aP σ.aa) (σ.N0 (.ev as))):bZ rV ⟨c,names,L⟩ g σ s Q (.ref a) s':=by
 refine⟨_,_,_,aF.N0 r k d e an,r.N0 (o:=.ev as) k d e i an ⟨_,_,n,j,ai,l,hv.be (.N6 _ _) (eu g.a σ.aa a) (Cr _)⟩,f.N0 r k an,?_,h⟩;have:=a8.aP (c:=c) (h:=s'.heap) (F:=g.F) (ρ:=cu g.a σ.aa a) (B3 σ.aa);rw[fc]at this;exact this
structure wv(Q:Y->V->Prop)(as:List Y)(σ:V):Prop where
 hr:as.length<=1000000
 aP:Q (.aP σ.aa) (σ.N0 (.ev as))
variable{pos:FH}
theorem wp{eH:List CQ}(h:WA c d ae eH pos σ (wv Q) X):WE c d ae (.List eH pos) σ Q X:=λA g s L Fr e r f i=>by
 refine BM (C6 (BM (WT.NZ h e r f i R (λas bg σ₁ ax vs j k l n o a b=>?_) λm m y=>y)));refine lr (br (bA.length a) b.1) (bZ.NT j (sv k l (cN _ _) (cR _ _) R R (BJ _) (B6 _ R) ⟨R,R,R⟩ R ?_ b.2));exact((aF.N6 c (cy L) bg σ₁ ax).Oc (s'':={ax with heap:=ax.heap.push {cls:=.type "list",data:=.seq vs.toArray}}) (cN _ _) (cR _ _) R).OH a
theorem pg{g:Gh}(r:aA c g σ s)(hi:σ.NY i=H (.ev as)):∃vs k,s.heap.get? (g.a i)=H {cls:=.type "list",data:=.seq vs k}/\bA c s.heap g.F g.a σ.aa as vs.toList:=by
 obtain⟨o,vs,k,h1,⟨cx,di,eS⟩,a,b⟩:=r.bh i _ hi;obtain⟨c7,d,e,f⟩:=o;simp only at cx di eS a;subst cx di eS a;exact⟨vs,k,h1,b⟩
theorem Bh{j:Nat}{bs:List Y}(an:σ.NY i=H (.ev as))(ac:σ.NY j=H (.ev bs))(e:as.length+bs.length<=1000000)(h:Q (.aP σ.aa) (σ.N0 (.ev (as++bs)))):co rV c d (EU .Add) (.aP i) (.aP j) σ Q X:=λA g s names L bl q t r f k l=>by
 obtain⟨rfl,_⟩:=k.NV;obtain⟨rfl,_⟩:=l.NV;obtain⟨vs,n,a,a2⟩:=pg r an;obtain⟨aR,m,b,bH⟩:=pg r ac;have o:vs.size=as.length:=bP a2.length Cq.symm;have p:aR.size=bs.length:=bP bH.length Cq.symm;refine JR ⟨_,a,R⟩ ⟨_,b,R⟩ Lq Mw IK Iz (Io _ _) (list_addW _ _ vs aR n m B2 B2 #[] #[] (U o (U p (hH e)))) ⟨a,b,sv r f (cN _ _) (cR _ _) R R (BJ _) (B6 _ R) ⟨R,R,R⟩ R ?_ h⟩;refine U EQ<|((aF.N6 c (cy L) g σ s).Oc (s'':={s with heap:=s.heap.push {cls:=.type "list",data:=.seq (vs++aR)}}) (cN _ _) (cR _ _) R).OH (a2.Qc bH)
theorem u1:∀{dj:List Nat}{k:Nat},(∀i∈dj,i<k)->Y.PN k (dj.map .aP)=u:=by
 intro dj
 induction dj with
 |nil=>
  intro _ _
  exact R
 |cons i dj a=>
  intro k h;rw[CR,Y.PN,a λj b=>h j (.tail _ b)];refine(?_:(decide (i<k)&&u)=u);exact U (decide_eq_true (h i (.head _))) R
noncomputable def iQ(lo:Nat)(dj:List Nat)(σ:V):Prop:=∀i∈dj,lo<=i/\i<σ.aa/\∃ds,J σ.aj i=H (.aN ds)/\ds.length<=1000
theorem iQ.P7{lo:Nat}(h:iQ lo dj σ)(i:Nat):iQ lo dj (σ.NX i (.aN [])):=λj a=>by
 obtain⟨h1,h2,ds,b,c⟩:=h j a;refine⟨h1,h2,?_⟩;show ∃ds,J ((i,_)::σ.aj) j=_/\_;refine U (de ..) ?_
 by_cases e:j=i
 .exact U (if_pos e) ⟨[],R,Cm _⟩
 .exact U (if_neg e) ⟨ds,b,c⟩
theorem iQ.be{lo:Nat}{σ':V}(h:iQ lo dj σ)(a:σ.aa<=σ'.aa)(b:∀i,i<σ.aa->J σ'.aj i=J σ.aj i):iQ lo dj σ':=λj c=>by
 obtain⟨h1,h2,ds,d,e⟩:=h j c;exact⟨h1,BL h2 a,ds,(b j h2).trans d,e⟩
theorem Bc:jc "aBcDe"=(Ch 5).map λl=>.ab (.str (eh l)):=by
 have:(("aBcDe":O).cps.toList.map λch=>(⟨#[ch]⟩:O))=(Ch 5).map eh:=by decide+kernel
 have h2:=congrArg (Jh λx=>Y.ab (.str x)) this;rw[CJ,CJ]at h2;exact h2
section
variable{c:Cx}{d:Nat}{τ:V}{a:LA}{ah:Nat}{X:AX->V->Prop}{Q:bY->V->Prop}{a4:List (Nat×Y)}{I:cO}{aB aW:Nat}{ap:Int}{aE bk:List O}{av:List (O×O)}
theorem zI(D:cP c a)(ax:TabOk av)(W:LW ah (eG p a I aB) a4 I ap aE bk aB aW av τ)(aZ:J a4 9=B2)
  (k:∀τ',LW ah (eG p a I aB) a4 I ap aE bk aB aW av τ'->Rn c (d+10) a ah B τ' Q X):Rn c (d+10) a ah (bw 21::B) τ Q X:=by
 have S:=W.c.aa;have G:av.length<=1000:=BG ax.cZ (DD R)
 have a9:∀x,((dX av x).map B1).length<=1000:=λx=>by
  rw[BH,dX,BH];exact BG (CI _ _) G
 refine Rn.N5 λK=>Rn.Oq ?_;obtain⟨log,bb,_⟩:=W.bF.ns;have A:=(W.Qt K).1;refine pM (b4 (wp (aI (fe (.ar (nC 9 R) (W.c.ar 9 R)) (cf.N4 D.bF.cp bb D.bF.P6 D.bF.ga D.bF.gt FO.Sb (by decide+kernel)) (a1.N4 D.bF.P6.2) .a6 (WK.NW (WC.Of (oy D.bF W.bF G (.inr (bn ⟨show 1<=1000000 by decide,?_⟩)))))))))
 let g:V:=⟨τ.aa+2,(τ.aa+1,.ev [.aP τ.aa])::(τ.aa,.aN (av.map e4))::τ.aj,τ.ag⟩
 have L:∀i,i<τ.aa->J g.aj i=J τ.aj i:=λi hi=>by
  exact aS (BZ (C3 hi)) (aS (BZ hi) R)
 have bf:LW ah (eG p a I aB) a4 I ap aE bk aB aW av g:=W.be K (B4 _ 2) R λi f hi=>L i hi
 have bg:J g.aj τ.aa=H (.aN (av.map e4)):=by
  exact aS (BZ (B3 _)) (bq _ _ _)
 refine e5 (by decide+kernel) (by kernel_rfl)<|b8<|⟨(Ch 5).map λl=>.ab (.str (eh l)),g,λσ=>σ,["letter"],jb ["letter"] [("table",ah+9)] [] [],λj b ba=>g.aa<=b.aa/\(∀i,i<g.aa->J b.aj i=J g.aj i)/\∃dj:List Nat,ba=dj.map .aP/\dj.length=j/\iQ g.aa dj b,dm.NW (br Bc et.Ov),dQ (cn:=["table"]) ?_ R R trivial λq bi=>?_,⟨BJ _,λf f=>R,[],R,R,λf h=>nomatch h⟩,λj y b ba T r=>?_,λb ba r=>?_⟩
 .refine(?_:dp (db _ (az 29).aM) _ _ _=u)
  decide+kernel
 .exact U (BO.mp bi) (BL (Cs (DD R) ah) bf.c.aa)
 .obtain⟨t,s,dj,an,C,N⟩:=r;obtain⟨l,E,rfl⟩:=cY T;have bj:=CU.mp (B5 E)
  have bl:j<5:=by
   have:=(BY.mp E).1;rw[Ct]at this;exact this
  refine A4 (q4 bj) λaT aX bc f=>?_;have bu:ba.length<=1000000:=U an (a3 (BH ..) (a3 C (BG (Cz bl) (DD R))));have ac:=λi hi=>(s i (DF 2 hi)).trans (L i hi);have ay:f3 (b.N2 0 (.ab (.str (eh l)))) aB aW av:=W.bF.bM (ac _ A.Pj) (ac _ A.Pl);obtain⟨bS,bv,_⟩:=ay.ns;have bx:=(ac _ (BL (Cs (DD R) ah) S)).trans (W.c.ar 9 R);refine⟨_,.v (aH.ag (k:=0) (cL R)),eT ⟨λf=>ms bu ?_,λac=>nomatch ac⟩⟩;refine fe (.ar (cT (.head _)) bx) (cf.N4 D.bF.cp bv D.bF.Qd D.bF.ga D.bF.gt FO.R2 (by decide+kernel)) (a1.N4 D.bF.Qd.2) (.ag (k:=0) (cL R) R .a6) (WK.NW (WC.Of (pc D.bF ay aT aX bc ax.RV G λn w=>.inr ?_)));have w:=w;have aJ:∀i,i<b.aa->J ((n,bL.aN ((dX av (eh l)).map .str))::b.aj) i=J b.aj i:=λi hi=>aS (BZ (BL hi w)) R;refine⟨BG t (Co w),λi hi=>(aJ i (BL hi t)).trans (s i hi),dj++[n],by refine U an (bP Cb ?_);rfl,by refine BK BV (U C ?_);rfl,λi hi=>?_⟩;rcases CA.mp hi with hi|hi
  .exact(N.be (σ':=⟨n+1,(n,.aN ((dX av (eh l)).map .str))::b.aj,b.ag⟩) (Co w) aJ) i hi
  .refine U (BO.mp hi)<|⟨BG t w,B3 _,_,bq _ _ _,a9 _⟩
 .obtain⟨t,s,dj,an,C,N⟩:=r;rw[BH,Ct]at C;have aL:=λi hi=>(N i hi).2.1;have bz:=(s _ (B3 _)).trans (bq _ _ _)
  let z:V:=⟨b.aa+2,(b.aa+1,.ev (Y.aP τ.aa::dj.map .aP))::(b.aa,.ev (dj.map .aP))::b.aj,τ.ag⟩
  have ae:∀i,i<b.aa->J z.aj i=J b.aj i:=λi hi=>by
   exact aS (BZ (C3 hi)) (aS (BZ hi) R)
  have m:=t;have bU:LW ah (eG p a I aB) a4 I ap aE bk aB aW av z:=W.be K (BG (BG (B4 _ 2) m) (B4 _ 2)) R λi f hi=>(ae i (BL (DF 2 hi) m)).trans ((s i (DF 2 hi)).trans (L i hi))
  have bC:iQ τ.aa (τ.aa::dj) (z.dropO (b.aa+1)):=λi hi=>by
   have F:i<b.aa:=by
    rcases BX.mp hi with rfl|hi
    .exact BL (DG (DD R)) m
    .exact aL i hi
   have E:J (z.dropO (b.aa+1)).aj i=J b.aj i:=(jp (BZ (C3 F))).trans (ae i F);rcases BX.mp hi with rfl|hi
   .exact⟨BJ _,DF 2 F,_,E.trans ((s _ (DG (DD R))).trans bg),a3 (BH ..) G⟩
   .obtain⟨o,aO,ds,P,ai⟩:=N i hi;exact⟨BG (B4 _ 2) o,DF 2 aO,ds,E.trans P,ai⟩
  refine⟨⟨b.aa,b.aj,τ.ag⟩,.inr ⟨R,λf f h=>h⟩,R,t,.inr (.inr ⟨U an (u1 aL),U an ?_⟩)⟩;refine Bh (as:=[.aP τ.aa]) ?_ (bq _ _ _) (U (BH ..) (U C (show 1+5<=1000000 by decide))) ?_
  .refine(?_:J ((b.aa,_)::b.aj) (τ.aa+1)=_);exact aS (BZ (BL (B3 _) m)) bz
  .have bD:=BG S (BG (B4 _ 2) (Co m));have aR:τ.aa<=b.aa+1:=BG (B4 _ 2) (Co m);have aY:∀{i},τ.aa<=i->i∉[I.j,I.x,I.s,I.m,I.e,I.f]/\i≠aB/\i≠aW:=λo=>⟨λbH=>absurd (A.Oa _ bH) (BP.mpr o),λe=>absurd A.Pj (BP.mpr (e▸o)),λe=>absurd A.Pl (BP.mpr (e▸o))⟩
   have bQ:=W.be (τ':=z.dropO (b.aa+1)) K (BG (BG (B4 _ 2) m) (B4 _ 2)) R λi f hi=>
    (jp (BZ (BL hi aR))).trans ((ae i (BL (DF 2 hi) m)).trans ((s i (DF 2 hi)).trans (L i hi)))
   refine⟨Y.aP τ.aa::dj.map .aP,z.dropO (b.aa+1),_,λj τ'=>LW ah (eG p a I aB) a4 I ap aE bk aB aW av τ'/\iQ τ.aa (τ.aa::dj) τ',dm.ev (bq _ _ _),⟨bQ,bC⟩,λj x τ' T r=>?_,λτ' r=>?_⟩
   .obtain⟨am,ao⟩:=r
    have F:∃i∈τ.aa::dj,x=.aP i:=by
     have:=B5 T;rcases BX.mp this with rfl|h
     .exact⟨_,.head _,R⟩
     .obtain⟨i,hi,rfl⟩:=B7.mp h;exact⟨i,.tail _ hi,R⟩
    obtain⟨i,hi,rfl⟩:=F;obtain⟨o,aO,ds,P,ai⟩:=ao i hi;refine⟨_,.v (aH.ag (nL 9 R)),aQ (ez (fe (.ag (nL 9 R) (bq _ _ _)) (cf.aN P Il Ng) (a1.Oe _) .a6 (u8 P (BG ai (DD R)) (bJ ⟨((am.N2 9 (.aP i)).bp λk v e=>?_).P7 (BG S o) (aY o) _,ao.P7 i⟩))))⟩;exact aS (λh=>by rw[h,aZ]at e;cases e) e
   .obtain⟨am,ao⟩:=r;exact(k _ (am.P7 bD (aY aR) _)).o
end
noncomputable def oA:List O:=["","\")\"","\"(\"","\\)","\"\\\")\"","\"\""]
noncomputable def ip(k:Nat):O:=(oA[k]?).getD B0
noncomputable def pl:List O:=[")",")\\","\")"]
noncomputable def km(k:Nat):O:=(pl[k]?).getD B0
noncomputable def ne(k:Nat):O:=if k=0 then"(" else")"
theorem AQ:((Ch 6).all λk=>jY 5 (ip k))=u:=by decide+kernel
theorem x5:((Ch 3).all λk=>jY 2 (km k))=u:=by decide+kernel
theorem PB(h:k<6):(ip k).length<=5/\BR (ip k)=u:=lI (Cn.mp AQ k (CU.mpr h))
theorem QG(h:k<3):(km k).length<=2/\BR (km k)=u:=lI (Cn.mp x5 k (CU.mpr h))
noncomputable def aD.OX(p:aD)(k:Nat):O:=ip (p.Og k/880%6)
noncomputable def aD.P5(p:aD):O:=km (p.Og 1/880%3)
noncomputable def aD.Om(p:aD):O:=ne (p.Og 5/500%2)
theorem aD.PB(p:aD)(k:Nat):(p.OX k).length<=5/\BR (p.OX k)=u:=Tactic.PB (CZ _ (DD R))
theorem aD.QG(p:aD):p.P5.length<=2/\BR p.P5=u:=Tactic.QG (CZ _ (DD R))
theorem aD.R3(p:aD):p.Om.length<=1/\BR p.Om=u:=by
 unfold aD.Om ne;split <;> decide+kernel
noncomputable def aD.PS(p:aD)(av:List (O×O)):O:=iU av p.d (p.OX 3) (p.OX 2) p.P5
section
variable{c:Cx}{d:Nat}{τ:V}{a:LA}{ah:Nat}{X:AX->V->Prop}{Q:bY->V->Prop}{a4:List (Nat×Y)}{I:cO}{aB aW:Nat}{ap:Int}{aE bk:List O}{av:List (O×O)}
theorem xG(ai:p.Ok)(W:LW ah (eG p a I aB) a4 I ap aE bk aB aW av τ)
  (k:∀τ',LW ah (eG p a I aB) ((10,.ab (.list [.str (p.OX 3),.str (p.OX 2)]))::a4) I ap aE bk aB aW av τ'->Rn c d a ah B τ' Q X):Rn c d a ah (bw 22::B) τ Q X:=by
 have m:=W.c.aa;refine Rn.Oq<|kc (cl:=[("sums",ah+0)]) (by decide+kernel) (by kernel_rfl) (by kernel_rfl)<|gB (aI (bI (aI (bI (bn ⟨[.int (3:Nat),.int (2:Nat)],R,show 2<=1000000 by decide,gr (names:=["k"]) (gn:=[]) (gv:=[]) (f:=λj=>([3,2]:List Nat)[j]?.bind λk=>H (B1 (p.OX k))) (dm.NW et.TL) (dQ (cn:=["sums"]) ?_ R R trivial λq o=>?_) (λh=>R) (show 2<=1000 by decide) (λj y v b g=>?_) λn r=>.inl ?_⟩)))))
 .refine(?_:dp (db _ (az 29).aM) _ _ _=u)
  decide+kernel
 .exact U (BO.mp o) (BL (Cs (DD R) ah) m)
 .have s:∃k,([3,2]:List Nat)[j]?=H k/\k<6/\y=.ab (.int (k:Nat)):=by
   match j,b with
   |0,b=>cases b;exact⟨3,R,by decide,R⟩
   |1,b=>cases b;exact⟨2,R,by decide,R⟩
   |j+2,b=>cases b
  obtain⟨k,t,i,rfl⟩:=s;have g:=g;have l:p.Og k/880%6<6:=CZ _ (by decide);refine⟨_,.v (aH.ag (k:=0) (cL R)),eT ⟨λh=>?_,λac=>nomatch ac⟩⟩;refine c3 (ho (aI (b8 ?_)));refine aI (b8 (aI (b8 ?_)));refine aI (b8 (aI (b8 ?_)));refine aI (b8 (bn ⟨oA.map .str,R,(by decide),b4 (b4 (c3 (bR (cT (.head _)) (g.aj (W.c.ar 0 R)) (aw (k:=0) (cL R) R (gl .aK (he (dk (BH ..) (dk ai.cZ i))) (BK Ck (U (p.R8 ai i) R)) (by refine a3 (BH ..) (a3 ai.cZ ?_);decide) (bI (hq 880 (by decide) (bI (gd 6 (by decide) ?_)))))))))⟩));exact gl (x:=.str (p.OX k)) .aK (he (show _<6 from l)) (BK Ck (U (lU (show p.Og k/880%6<oA.length from l) B0) R)) (by decide) ⟨⟨_,by simp only[t,CF],R⟩,cD.NW g (BJ _) λh h e=>e⟩
 .exact⟨_,aH.ag (nL 10 R),(k _ ((W.OL r).N2 10 (.ab (.list [.str (p.OX 3),.str (p.OX 2)])))).o⟩
theorem xP(ai:p.Ok)(W:LW ah (eG p a I aB) a4 I ap aE bk aB aW av τ)
  (k:∀τ',LW ah (eG p a I aB) ((11,.ab (.str p.P5))::a4) I ap aE bk aB aW av τ'->Rn c d a ah B τ' Q X):Rn c d a ah (bw 23::B) τ Q X:=by
 have b:p.Og 1/880%3<3:=CZ _ (by decide);refine Rn.Oq<|dh<|c3 (ho (aI (b8 ?_)));refine aI (b8 (aI (b8 ?_)));refine bn ⟨pl.map .str,R,(by decide),b4 (b4 (i3 ai (nC 0 R) (W.c.ar 0 R) 1 (DD R) (bI (hq 880 (by decide) (bI (gd 3 (by decide) (gl .aK (he (show _<3 from b)) (BK Ck (U (lU (show p.Og 1/880%3<pl.length from b) B0) R)) (by decide) ⟨_,aH.ag (nL 11 R),(k _ (W.N2 11 (.ab (.str p.P5)))).o⟩)))))))⟩
theorem uI(D:cP c a)(ai:p.Ok)(b:i7 av)(W:LW ah (eG p a I aB) a4 I ap aE bk aB aW av τ)(e:J a4 10=H (.ab (.list [.str (p.OX 3),.str (p.OX 2)])))(f:J a4 11=H (.ab (.str p.P5)))
  (k:∀τ',LW ah (eG p a I aB) ((12,.ab (.str (p.PS av)))::a4) I ap aE bk aB aW av τ'->Rn c (d+10) a ah B τ' Q X):Rn c (d+10) a ah (bw 24::B) τ Q X:=by
 refine Rn.Oq<|dh (d3 (nG 9 R R) (a1.N4 D.Pt) (.ar (nC 9 R) (W.c.ar 9 R) (.ar (nC 1 R) (W.c.ar 1 R) (.ag (nL 10 R) (W.c.ag 10 _ e) (.ag (nL 11 R) (W.c.ag 11 _ f) .a6)))) (WK.NW (WC.Of (sC D ai.d b W.bF (BG (p.PB 3).1 (DD R)) (BG (p.PB 2).1 (DD R)) (BG p.QG.1 (DD R)) λn g=>⟨_,aH.ag (nL 12 R),(k _ ((W.OL g).N2 12 (.ab (.str (p.PS av))))).o⟩))))
end
theorem tL(h:k<2):((Eg (k:Int) ("()":O).length).bind (("()":O).cps[·]?)=H (40+k))/\(⟨#[40+k]⟩:O)=ne k:=by
 rcases(by lia:k=0\/k=1)with rfl|rfl <;> decide+kernel
noncomputable def j3:O:="('', '')"
structure qj(p:aD)(av:List (O×O))(ord:List O):Prop where
 dV:∀k,∀w∈(cv av p.aG k).b5,0<=el (cv av p.aG k).bo (cv av p.aG k).bp w/\el (cv av p.aG k).bo (cv av p.aG k).bp w<5
 cg:(cv av p.aG (2*p.aG.length)).cg=ord.map λw=>(w,p.OJ w)
 bO:(cv av p.aG (2*p.aG.length)).bO=ord
 b5:(cv av p.aG (2*p.aG.length)).b5=[]
 a5:(cv av p.aG (2*p.aG.length)).a5=[]
theorem wE{b:List (O×List O)}:(GK (b.map gp)).depth<=4:=lb λx a=>by
 obtain⟨q,_,rfl⟩:=B7.mp a
 exact ml λx a=>by
  replace a:=eU a;rcases a with rfl|rfl
  .simp[DW]
  .exact h8 _
theorem tc{τ':V}{T T':List Nat}(h:hE T τ τ')(a:∀i∈T,i∈T'):hE T' (τ) (τ'.N1 τ):=⟨h.aa,R,λi hi b=>h.aj i hi λq=>b (a i q)⟩
section
variable{c:Cx}{d:Nat}{τ:V}{a:LA}{ah:Nat}{X:AX->V->Prop}{Q:bY->V->Prop}{a4:List (Nat×Y)}{I:cO}{aB aW:Nat}{ap:Int}{aE bk:List O}{av:List (O×O)}
theorem AS(ai:p.Ok){b:O}(aJ:b.length<=299)(W:LW ah (eG p a I aB) a4 I ap aE bk aB aW av τ)(e:J a4 12=H (.ab (.str b)))
  (k:∀τ',LW ah (eG p a I aB) ((13,.ab (.list [.str b,.str (p.Om++b)]))::a4) I ap aE bk aB aW av τ'->Rn c d a ah B τ' Q X):Rn c d a ah (bw 25::B) τ Q X:=by
 have h2:p.Og 5/500%2<2:=CZ _ (by decide);obtain⟨f,g⟩:=tL h2;have ac:=p.R3.1;refine Rn.Oq<|dh (ho (aI (aw (nL 12 R) (W.c.ag 12 _ e) (aI (b4 (c3 (b8 ?_)))))));refine b4 (b4 (i3 ai (nC 0 R) (W.c.ar 0 R) 5 (DD R) (bI (hq 500 (by decide) (bI (gd 2 (DD R) (jF f (jX (BL h2 (by decide))) (U g ?_))))))));refine aw (nL 12 R) (W.c.ag 12 _ e) (gm (a:=p.Om) (aV [_,_] af (nA 299) ak a7 (aq ak af) dD al aJ ac) (bn ⟨[.str b,.str (p.Om++b)],R,show 2<=1000000 by decide,⟨_,aH.ag (nL 13 R),(k _ (W.N2 13 (.ab (.list [.str b,.str (p.Om++b)])))).o⟩⟩))
theorem xR(D:cP c a){b:O}(aJ:b.length<=299/\BR b=u)(hv:fj b=b/\fj (p.Om++b)=j3)(W:LW ah (eG p a I aB) a4 I ap aE bk aB aW av τ)(e:J a4 13=H (.ab (.list [.str b,.str (p.Om++b)])))
  (k:∀τ' m,LW ah (eG p a I aB) ((14,.aP m)::a4) I ap aE bk aB aW av τ'->J τ'.aj m=H (.aN [.str b,.str j3])->Rn c (d+10) a ah B τ' Q X):Rn c (d+10) a ah (bw 26::B) τ Q X:=by
 have ac:=p.R3;refine Rn.N5 λf=>Rn.Oq<|dh (d3 (nG 10 R R) (a1.N4 D.Qs) (.ag (nL 13 R) (W.c.ag 13 _ e) .a6) (WK.NW (WC.Of (Ba D.Qs D.Rk D.RF (vs:=[b,p.Om++b]) (λv hv=>?_) (show 2<=100 by decide) λm n h1 h2=>?_))))
 .replace hv:=eU hv;rcases hv with rfl|rfl
  .exact⟨BG aJ.1 (DD R),aJ.2⟩
  .exact⟨by refine a3 (hF ..) ?_;exact aV [_,_] af (nA 299) ak a7 (aq ak af) (nA 300) al aJ.1 ac.1,jd ac.2 aJ.2⟩
 .have eg:LW ah (eG p a I aB) a4 I ap aE bk aB aW av ⟨n,(m,.aN (([b,p.Om++b].map fj).map .str))::τ.aj,τ.ag⟩:=W.be f (BG h1 (Cz h2)) R λi g hi=>aS (BZ (BL hi h1)) R;refine⟨_,aH.ag (nL 14 R),(k _ m (eg.N2 14 (.aP m)) ?_).o⟩;refine(bq _ _ _).trans ?_;refine(?_:H (bL.aN [.str (fj b),.str (fj (p.Om++b))])=_);exact U hv.1 (U hv.2 R)
theorem Ay(D:cP c a)(ai:p.Ok){b:O}(aJ:b.length<=299){t:List (O×O)}(g:t.length<=1000)(W:LW ah (eG p a I aB) a4 I ap aE bk aB aW t τ)(h:J a4 8=H (.ab (.list (t.map e4))))(e:J a4 12=H (.ab (.str b)))(i:J a4 13=H (.ab (.list [.str b,.str (p.Om++b)])))(j:J a4 14=H (.aP m))(l:J τ.aj m=H (.aN [.str b,.str j3]))
  (k:∀τ',LW ah (eG p a I aB) a4 I ap aE bk aB aW t τ'->Rn c (d+10) a ah B τ' Q X):Rn c (d+10) a ah (bw 27::B) τ Q X:=by
 have h2:p.Og 5/500%2<2:=CZ _ (by decide);obtain⟨n,o⟩:=tL h2;have ac:=p.R3.1;obtain⟨log,q,_⟩:=W.bF.ns;refine Rn.Oq<|cU (hG (pos':=⟨0,0,0,0⟩) (ca (fe (.ar (nC 9 R) (W.c.ar 9 R)) (cf.N4 D.bF.cp q D.bF.P6 D.bF.ga D.bF.gt FO.Sb (by decide+kernel)) (a1.N4 D.bF.P6.2) .a6 (WK.NW (WC.Of (oy D.bF W.bF g (.inl (aw (nL 8 R) (W.c.ag 8 _ h) (ja (.S .ab) (.S .ab) (BG (s1 _) (DD R)) ⟨BQ,R,λf=>?_,λac=>nomatch ac⟩)))))))));refine hG (pos':=⟨0,0,0,0⟩) (ca (aw (nL 14 R) (W.c.ag 14 _ j) (ho (aI (aw (nL 12 R) (W.c.ag 12 _ e) (aI (b8 (x:=j3) ?_)))))));refine bn ⟨[.str b,.str j3],R,show 2<=1000000 by decide,ja (.S (.bm l)) (.S .ab) (BG (h8 [b,j3]) (by decide)) ⟨BQ,R,λf=>?_,λac=>nomatch ac⟩⟩;refine hG (pos':=⟨0,0,0,0⟩) (ca (aw (nL 13 R) (W.c.ag 13 _ i) (ho (aI (aw (nL 12 R) (W.c.ag 12 _ e) (aI (b4 (c3 (b8 ?_)))))))));refine b4 (b4 (i3 ai (nC 0 R) (W.c.ar 0 R) 5 (DD R) (bI (hq 500 (by decide) (bI (gd 2 (by decide) (jF n (jX (BL h2 (by decide))) (U o ?_))))))));refine aw (nL 12 R) (W.c.ag 12 _ e) (gm (a:=p.Om) (aV [_,_] af (nA 299) ak a7 (aq ak af) dD al aJ ac) (bn ⟨[.str b,.str (p.Om++b)],R,show 2<=1000000 by decide,ja (.S .ab) (.S .ab) (BG (h8 [b,p.Om++b]) (by decide)) ⟨BQ,R,λf=>?_,λac=>nomatch ac⟩⟩));exact kQ ⟨λac=>(nomatch ac),λf=>bJ (k _ W).o⟩
theorem yP(D:cP c a)(ai:p.Ok){f:List O}(v:f.length<=10)(y:∀w∈f,w∈p.aG)(z:TabOk av)(F:qj p av f)(A:∀s∈aE,s.length=1)(C:aE.length<=800)(W:LW ah (eG p a I aB) a4 I ap aE [] aB aW av τ)(j:J a4 7=H (.ab (.list (f.map .str))))
  (k:∀τ',LW ah (eG p a I aB) a4 I ap aE [] aB aW av τ'->Rn c (d+10) a ah B τ' Q X):Rn c (d+10) a ah (bw 28::B) τ Q X:=by
 have E:p.aG.length<=10:=U (p.Ox ai) (BG (p.Oj ai).2 (by decide));refine Rn.N5 λG=>Rn.Oq<|cU (ca (d3 (nG 11 R R) (a1.N4 D.OW) (.ar (nC 2 R) (W.c.ar 2 R) (.ar (nC 8 R) (W.c.ar 8 R) (.ar (nC 9 R) (W.c.ar 9 R) .a6))) (WK.NW (WC.Of (tw D A C z E F.dV (W.Qt G).1 W.cz W.bF λσ' ae am an S cM l K T m o r=>?_)))))
 subst cM;rw[F.a5]at l;rw[F.cg]at m;rw[F.bO]at o;rw[F.b5]at r;have g:=W.Q1 (tc T λi hi=>ry hi) (l.bM λb b=>R) (K.bM R R);refine hz (aI (e5 (cl:=[("ahead",ah+12)]) (by decide+kernel) (by kernel_rfl) (aw (nL 7 R) (g.c.ag 7 _ j) ?_)));refine ik (names:=["word"]) (gn:=[]) (gv:=[]) (out:=(f.map λw=>(w,p.OJ w)).map gp) R (dQ (cn:=["ahead"]) ?_ R R trivial λq L=>?_) (λb=>R) (BG v (by decide)) (U (hJ ..) (U CJ R)) (λw ao N t=>eT ⟨λb=>?_,λac=>nomatch ac⟩) λn P=>.inl ?_
 .refine(?_:dp (db _ (az 29).aM) _ _ _=u)
  decide+kernel
 .exact U (BO.mp L) (BL (Cs (by decide) ah) g.c.aa)
 .exact gB (aI (aw (k:=0) (cL R) R (aI (c3 (bR (cT (.head _)) (t.aj (g.c.ar 12 R)) (aw (k:=0) (cL R) R (g9 (hj (y w N)) (bn ⟨[.str w,.list ((p.OJ w).map .str)],R,show 2<=1000000 by decide,⟨_,R,R⟩,cD.NW t (BJ _) λb b e=>e⟩))))))))
 .refine aI (aw (nL 7 R) (g.c.ag 7 _ j) (aI (ho (bn ⟨[],R,Cm _,bn ⟨show 3<=1000000 by decide,ja (.RX (.bm m.2.2) (.bm o.2.2) (.bm r.2.2)) (.RX .ab .ab .ab) ?_ ⟨BQ,R,λac=>(nomatch ac),λb=>bJ (k _ (g.OL P)).o⟩⟩⟩))));refine BG (ml (B:=4) λx h=>?_) (by decide);replace h:=il h;rcases h with rfl|rfl|rfl
  .exact wE
  .exact BG (h8 _) (by decide)
  .exact BG (h8 []) (by decide)
end
noncomputable def aD.OI(p:aD)(w:O):Nat:=p.O8 w/176%p.d
noncomputable abbrev qh(p:aD):List (O×Cj):=p.aG.map λw=>(w,.int (p.OI w:Nat))
noncomputable abbrev gF(p:aD)(a:LA)(I:cO)(aB:Nat):List (Nat×Y):=(14,.c5 (qh p))::eG p a I aB
noncomputable def ep(p:aD):List (O×O):=p.Od.map λw=>(dB (!p.OF.contains w) (p.OI w),w)
theorem nX(ai:p.Ok)(w:O):p.OI w<p.d:=CZ _ (BL (by decide) (p.Oj ai).1)
section
variable{c:Cx}{d:Nat}{τ:V}{a:LA}{ah:Nat}{X:AX->V->Prop}{Q:bY->V->Prop}{a4:List (Nat×Y)}{I:cO}{aB aW d1:Nat}{ap:Int}{aE bk:List O}{av:List (O×O)}
theorem wo(D:cP c a)(ai:p.Ok)(W:LW ah (eG p a I d1) a4 I ap aE bk aB aW av τ)
  (k:∀τ',LW ah (gF p a I d1) a4 I ap aE bk aB aW av τ'->Rn c d a ah B τ' Q X):Rn c d a ah (bw 29::B) τ Q X:=by
 have i:=W.c.aa;have j:=p.Ox ai;obtain⟨l,m⟩:=p.Oj ai;obtain⟨v,hv⟩:=W.c.I 14 (by decide);refine Rn.Oq<|g0 (by kernel_rfl)<|lg (cl:=[("number",ah+6),("many",ah+1)]) D.PO (by decide+kernel) (by kernel_rfl) (bR (nC 2 R) (W.c.ar 2 R) (ra (names:=["word"]) (gn:=[]) (gv:=[]) (g:=λw=>.int (p.OI w:Nat)) R (dQ (cn:=["number","many"]) ?_ R R trivial λq b=>?_) (λh=>R) (U j (BG m (by decide))) aD.O4 (λw s o f=>?_) λn r=>?_))
 .refine(?_:dp (db _ (az 29).aM) _ _ _=u)
  decide+kernel
 .replace b:=eU b;rcases b with rfl|rfl <;> exact BL (Cs (by decide) ah) i
 .exact b4 (b4 (lC (kl:=0) (cT (.head _)) (f.aj (W.c.ar 6 R)) o (cL R) R (bI (hq 176 (by decide) (bR (cT (.tail _ (.head _))) (f.aj (W.c.ar 1 R)) (gd p.d (BL (by decide) l) ⟨R,cD.NW f (BJ _) λh h e=>e⟩))))))
 .exact⟨_,aH.ar (nC 14 R) hv,(k _ ((W.OL r).OU 14 (.c5 (qh p)) (by decide))).o⟩
theorem Bg(ai:p.Ok):∀q∈ep p,fA h4 q.1=H BQ/\fA ie q.2=H BQ:=λq a=>by
 obtain⟨w,b,rfl⟩:=B7.mp a;exact⟨(rg (BL (nX ai w) (p.Oj ai).2)).1,(aD.Ra (aD.O6.mp b)).Rw⟩
theorem uX(D:cP c a)(ai:p.Ok)(W:LW ah (gF p a I d1) a4 I ap aE bk aB aW av τ)
  (k:∀τ' s F,LW ah (gF p a I d1) ((15,.bh a.OQ s)::a4) I ap aE bk s F (ep p) τ'->Rn c (d+10) a ah B τ' Q X):Rn c (d+10) a ah (bw 30::B) τ Q X:=by
 have l:=W.c.aa;have t:=aD.Pw ai;obtain⟨an,m⟩:=p.Oj ai;refine Rn.N5 λv=>Rn.Oq<|g0 (by kernel_rfl)<|dJ (dr (nG 5 R R) ⟨a1.cp D.bF.cp,aI (e5 (cl:=[("great",ah+7),("drawn",ah+14)]) (by decide+kernel) (by kernel_rfl) (bR (nC 4 R) (W.c.ar 4 R) ?_))⟩)
 refine ik (names:=["word"]) (gn:=[]) (gv:=[]) (f:=λw=>H (e4 (dB (!p.OF.contains w) (p.OI w),w))) (out:=(ep p).map e4) R (dQ (cn:=["great","drawn"]) ?_ R R trivial λq o=>?_) (λg=>R) (U t (BG m (by decide))) (by rw[hJ,ep,CJ];rfl) (λw ao G h=>eT ⟨λg=>?_,λac=>nomatch ac⟩) λn b=>.inr ?_
 .refine(?_:dp (db _ (az 29).aM) _ _ _=u)
  decide+kernel
 .replace o:=eU o;rcases o with rfl|rfl <;> exact BL (Cs (by decide) ah) l
 .have x:=aD.O6.mp G;have y:=BL (nX ai w) m;obtain⟨K,L⟩:=rc y;have z:(-(2^63):Int)<=(p.OI w:Nat)/\((p.OI w:Nat):Int)<2^63:=jX (BL y (by decide));refine gB (aI (c3 (hN (ca (aw (k:=0) (cL R) R (bR (cT (.head _)) (h.aj (W.c.ar 7 R)) (n3 .ab .aK (by simp[DW]) ⟨_,R,λac=>?_,λac=>?_⟩)))))))
  .rw[jK]at ac;refine b8<|c3 (bR (cT (.tail _ (.head _))) (h.aj (W.c.ar 14 R)) (aw (k:=0) (cL R) R (g9 (hj x) (jF K z (aI (aw (k:=0) (cL R) R (bn ⟨[.str ⟨#[97+p.OI w]⟩,.str w],R,show 2<=1000000 by decide,⟨_,R,?_⟩,cD.NW h (BJ _) λg g e=>e⟩)))))));exact U ac R
  .rw[jK]at ac;refine b8<|c3 (bR (cT (.tail _ (.head _))) (h.aj (W.c.ar 14 R)) (aw (k:=0) (cL R) R (g9 (hj x) (jF L z (aI (aw (k:=0) (cL R) R (bn ⟨[.str ⟨#[65+p.OI w]⟩,.str w],R,show 2<=1000000 by decide,⟨_,R,?_⟩,cD.NW h (BJ _) λg g e=>e⟩)))))));exact U ac R
 .have b:=b;have N:=(W.Qt v).1;obtain⟨P,ax⟩:=D.bF.hO;obtain⟨ay,A⟩:=D.bF.hO.OY;refine A3 A λh1 h2 S=>?_;clear A;have T:(ep p).length<=1000:=by rw[ep,BH,t];exact BG m (by decide)
  refine bn (ce (p1 HM D.bF.cp P h1 h2 S ["_headers"] (by decide+kernel) (WC.Of (xb D.bF (j:=n+1) (bq _ _ _) ?_ (Bg ai) T ⟨R,B3 _,?_⟩))))
  .exact aS (BZ (B3 _)) (bq _ _ _)
  .let τ':V:=⟨n+2,(n+1,.ns ["_headers"] [(0,.aP n)])::(n+1,.ns ["_headers"] [])::(n,.aN ((ep p).map e4))::τ.aj,τ.ag⟩
   have ae:∀i,i<τ.aa->J τ'.aj i=J τ.aj i:=λi hi=>by
    have r:=BL hi b;exact aS (BZ (C3 r)) (aS (BZ (C3 r)) (aS (BZ r) R))
   have C:=W.be (τ':=τ') v (BG b (B4 _ 2)) R λi g hi=>ae i hi;have E:=λi hi=>BL (N.Oa i hi) b
   have am:LW ah (gF p a I d1) a4 I ap aE bk (n+1) n (ep p) τ':=by
    refine⟨C.c,C.cz,⟨⟨_,bq _ _ _,R⟩,?_⟩,λi hi=>?_,λe=>?_,λe=>?_⟩
    .exact aS (BZ (B3 _)) (aS (BZ (B3 _)) (bq _ _ _))
    .rcases CA.mp (show i∈[I.j,I.x,I.s,I.m,I.e,I.f]++[n+1,n]from hi)with hi|hi
     .exact W.K i (Ci [aB,aW] hi)
     .replace hi:=eU hi;rcases hi with rfl|rfl
      .exact BG l (Co b)
      .exact BG l b
    .exact absurd (E I.e (.tail _ (.tail _ (.tail _ (.tail _ (.head _)))))) (br e (Gl _))
    .exact absurd (E I.f (.tail _ (.tail _ (.tail _ (.tail _ (.tail _ (.head _))))))) (br e (Gl _))
   exact⟨_,aH.ag (nL 15 R),(k _ (n+1) n (am.N2 15 (.bh a.OQ (n+1)))).o⟩
end
noncomputable def aD.Qj(p:aD)(k:Nat):Nat:=(p.aG.filter λw=>decide (p.OI w<=k)).length
noncomputable def aD.OG(p:aD):Bool:=(Ch p.d).all λk=>decide (k<p.Qj k)
noncomputable def aD.QK(p:aD):List Int:=(Ch p.d).map λk=>(p.Qj k:Int)-(k:Nat)
theorem Aw{m:Int}(b:m∈p.QK)(c:∀x∈p.QK,m<=x):decide (0<m)=p.OG:=by
 unfold aD.OG
 cases aL:(Ch p.d).all λk=>decide (k<p.Qj k)with
 |true=>
  obtain⟨k,a,rfl⟩:=B7.mp b;have:=of_decide_eq_true (Cn.mp aL k a)
  exact decide_eq_true (by lia)
 |false=>
  rw[List.all_eq_false]at aL;obtain⟨k,a,d⟩:=aL;have h1:=λh=>d (decide_eq_true h);have:=c _ (B7.mpr ⟨k,a,R⟩);exact decide_eq_false (by lia)
structure qq(p:aD)(av:List (O×O)):Prop where
 dV:∀k,∀w∈(cv av p.aG k).b5,0<=el (cv av p.aG k).bo (cv av p.aG k).bp w/\el (cv av p.aG k).bo (cv av p.aG k).bp w<5
 a5:(cv av p.aG (2*p.aG.length)).a5=[]
noncomputable def em(p:aD):BS:=cv (ep p) p.aG (2*p.aG.length)
section
variable{c:Cx}{d:Nat}{τ:V}{a:LA}{ah:Nat}{X:AX->V->Prop}{Q:bY->V->Prop}{a4:List (Nat×Y)}{I:cO}{aB aW d1:Nat}{ap:Int}{aE bk:List O}{av:List (O×O)}
theorem xh(D:cP c a)(ai:p.Ok)(W:LW ah (gF p a I d1) a4 I ap aE bk aB aW av τ)
  (k:∀τ',LW ah (gF p a I d1) ((16,.ab (.bool p.OG))::a4) I ap aE bk aB aW av τ'->Rn c d a ah B τ' Q X):Rn c d a ah (bw 31::B) τ Q X:=by
 have K:=W.c.aa;have x:=p.Ox ai;obtain⟨z,h⟩:=p.Oj ai;have l:∀{i m},i<15->τ.aa<=m->ah+i<m:=λhi r=>BL (Cs hi ah) (BG K r);refine Rn.N5 λL=>Rn.Oq<|g0 (by kernel_rfl)<|ks (dJ (dr (nG 12 R R) ⟨a1.Oe _,aI (e5 (cl:=[("names",ah+2),("drawn",ah+14)]) (by decide+kernel) (by kernel_rfl) (d3 (nG 3 R R) (a1.PA _) (.ar (nC 1 R) (W.c.ar 1 R) .a6) (kR ?_)))⟩))
 have N:(Ch ((Ch p.d).map λ(i:Nat)=>Y.ab (.int (i:Int))).length).filterMap (λk=>H (D2 ((p.Qj k:Int)-(k:Nat))))=p.QK.map .int:=by
  rw[BH,Ct,hJ,aD.QK,CJ];rfl
 refine va (names:=[]) (gn:=["len"]) (gv:=[.builtin "len"]) (f:=λk=>H (D2 ((p.Qj k:Int)-(k:Nat)))) (dm.NW (et.fv (CP h (by decide)))) (pW (cn:=["names","drawn"]) ?_ R R ⟨D.B.cZ,trivial⟩ (λq b=>?_) (B3 _)) (λg=>R) (U (BH ..) (U Ct (BG h (by decide)))) L (λk y s P A=>?_) λn t=>?_
 .refine(?_:dp (db _ (az 29).aM) _ _ _=u)
  decide+kernel
 .replace b:=eU b;rcases b with rfl|rfl <;> exact l (by decide) (Cr _)
 .obtain⟨ay,rfl⟩:=o9 P;obtain⟨aJ,S⟩:=A.ar;have j:=A.NX (.ab (.int (k:Nat)));have C:J (s.NX τ.aa (.ar (H (.ab (.int (k:Nat)))))).aj τ.aa=H (.ar (H (.ab (.int (k:Nat))))):=bq _ _ _;have E:∀{i:Nat}{o:bL},i<15->J τ.aj (ah+i)=H o->J (s.NX τ.aa (.ar (H (.ab (.int (k:Nat)))))).aj (ah+i)=H o:=λhi e=>j.aj _ _ (BZ (l hi (BJ _))) e;refine⟨_,.v (aH.ar kz S),eT ⟨λg=>?_,λac=>nomatch ac⟩⟩;refine b4 (dJ (dr (pB 0 R R) ⟨a1.Oe _,aI (e5 (cl:=[("k",τ.aa),("drawn",ah+14)]) (by decide+kernel) (by kernel_rfl) (bR (nq (.head _)) (E (by decide) (W.c.ar 2 R)) ?_))⟩));refine ik (names:=["word"]) (gn:=[]) (gv:=[]) R (dQ (cn:=["k","drawn"]) ?_ R R trivial λq b=>?_) (λg=>R) (U x (BG h (by decide))) (m3 (λw=>decide (p.OI w<=k)) B1 p.aG) (λw T ae v=>?_) λn t=>.inl ?_
  .refine(?_:dp (db _ (db _ (az 29).aM)) _ _ _=u)
   decide+kernel
  .replace b:=eU b;rcases b with rfl|rfl
   .exact j.aa
   .exact l (by decide) (BG (Cr _) j.aa)
  .have F:cD (s.NX τ.aa (.ar (H (.ab (.int (k:Nat)))))) (T.N2 0 (.ab (.str w))):=cD.NW v (BJ _) λg g e=>e;refine iH (ca (c3 (bR (cT (.tail _ (.head _))) (v.aj (E (by decide) (W.c.ar 14 R))) (aw (k:=0) (cL R) R (g9 (hj ae) (bR (cT (.head _)) (v.aj C) (y8 ?_)))))));have am:decide (((p.OI w:Nat):Int)<=((k:Nat):Int))=decide (p.OI w<=k):=decide_eq_decide.mpr Hv;refine U am<|⟨_,R,λac=>aw (k:=0) (cL R) R ⟨⟨.str w,by refine U ac ?_;rfl,R⟩,F⟩,λac=>⟨by refine U ac ?_;rfl,F⟩⟩
  .have G:((p.aG.filter λw=>decide (p.OI w<=k)).map B1).length=p.Qj k:=BH _;refine bn (ce (iG .aK (U G (BG (CI _ _) (U x (BG h (by decide))))) (U G ?_)));exact bR kz (C) (kE ⟨⟨_,R,R⟩,j.NW t λg g e=>e⟩)
 .refine U N ?_
  have an:p.QK≠[]:=λe=>by
   have:=congrArg E3 e;rw[aD.QK,BH,Ct]at this;have ao:=this;rw[ao]at z;exact absurd z (by decide)
  refine bn (ce (w6 .aK an λm r ax=>bI (sh ?_)));refine U (Aw r ax)<|⟨_,aH.ag (nL 16 R),(k _ ((W.OL t).N2 16 (.ab (.bool p.OG)))).o⟩
theorem xV(D:cP c a)(ai:p.Ok)(n:TabOk (ep p))(F:qq p (ep p))(o:∀s∈aE,s.length=1)(q:aE.length<=800)(W:LW ah (gF p a I d1) a4 I ap aE [] aB aW (ep p) τ)(r:J a4 15=H (.bh a.OQ aB))
  (k:∀τ' b f g,LW ah (gF p a I d1) ((19,.aP g)::(18,.aP f)::(17,.aP b)::a4) I ap aE [] aB aW (ep p) τ'->J τ'.aj b=H (.aN ((em p).cg.map gp))->J τ'.aj f=H (.aN ((em p).bO.map .str))->J τ'.aj g=H (.aN ((em p).b5.map .str))->ah+15<=b/\b∉[I.j,I.x,I.s,I.m,I.e,I.f]/\b≠aB/\b≠aW->Rn c (d+10) a ah B τ' Q X):Rn c (d+10) a ah (bw 32::B) τ Q X:=by
 have t:p.aG.length<=10:=U (p.Ox ai) (BG (p.Oj ai).2 (by decide));refine Rn.N5 λv=>Rn.Oq ?_;have h:=(W.Qt v).1;refine jL (xs:=["run","gone","left"]) R ?_
 .refine d3 (nG 11 R R) (a1.N4 D.OW) (.ar (nC 2 R) (W.c.ar 2 R) (.ar (nC 8 R) (W.c.ar 8 R) (.ag (nL 15 R) (W.c.ag 15 _ r) .a6))) (WK.NW (WC.Of (tw D o q n t F.dV h W.cz W.bF λσ' b f g S cM l w T m x y=>?_)));have z:S=em p:=cM;subst z;rw[show(em p).a5=[]from F.a5]at l;have A:=W.Q1 (tc T λi hi=>ry hi) (l.bM λC C=>R) (w.bM R R);have j:=m.1;exact⟨_,_,dK.b2,.aU (aH.ag (nL 17 R)) (.aU (aH.ag (nL 18 R)) (.aU (aH.ag (nL 19 R)) (.a6 _))),(k _ b f g (((A.N2 17 (.aP b)).N2 18 (.aP f)).N2 19 (.aP g)) m.2.2 x.2.2 y.2.2 ⟨BG W.c.aa j,λE=>absurd (h.Oa b E) (BP.mpr j),λe=>absurd h.Pj (BP.mpr (e▸j)),λe=>absurd h.Pl (BP.mpr (e▸j))⟩).o⟩
end
structure oX(p:aD):Prop where
 b5:decide ((em p).b5=[])=p.OG
 bO:(em p).bO=(em p).cg.map (·.1)
 TP:(em p).cg.length<=10
 T1:p.OG=u->∃sh:Nat->Nat,sh 0=0/\∀k w more,(em p).cg[k]?=H (w,more)->more.length<=10/\mX (qh p) ((em p).cg.map (·.1)) k (sh k) (sh (k+1)) w more
structure xx(c:Cx)(d:Nat)(ae:bB)(e2:CQ)(c6:List CQ)(pos:FH)(a:Y)(Q:Y->V->Prop)(X:AX->V->Prop)(b:Bool)(σ:V):Prop where
 hr:(b=u->WE c d ae (.BoolOp .And (e2::c6) pos) σ Q X)
 aP:(b=BQ->Q a σ)
noncomputable def v7(c:Cx)(d:Nat)(ae:bB)(b:CQ)(c6:List CQ)(pos:FH)(Q:Y->V->Prop)(X:AX->V->Prop):Y->V->Prop:=λa σ=>e2 hX c d Hc a σ (xx c d ae b c6 pos a Q X) X
theorem oZ{m n:CQ}{c6:List CQ}(h:WE c d ae m σ (v7 c d ae n c6 pos Q X) X):WE c d ae (.BoolOp .And (m::n::c6) pos) σ Q X:=λA g s L Fr l r f x=>
 BoolOp_and (WT.NZ h l r f x R (λa bg σ₁ ax bl k z B o C p D=>e2.NZ D l z B p (λb E F T q e t v i w=>by
  have i:b=q:=i;subst i
  cases b with
  |false=>exact⟨a,E,F,k.NT e,t,v,e.Ou p,w.2 R⟩
  |true=>exact WT.NZ (w.1 R) l t v (o.be e.aa) ((o.Pi e.r _ _).trans C) (λb G I W q K N P ac ah i S=>⟨b,G,I,(k.NT e).NT K,N,P,i,S⟩) λj j y=>PX.NT (k.NT e) y) λj j y=>PX.NT k y) λj j y=>y)
theorem wB{a:CQ}(h:WE c d ae a σ Q X):WE c d ae (.BoolOp .And [a] pos) σ Q X:=λA g s L Fr b r f e=>BoolOp_one (h A g s L Fr b r f e)
theorem zh(an:σ.NY i=H (.ev as))(m:as.length<=1000000)(h:Q (.ab (.int as.length)) σ):WK c d (.bT (.builtin "len")) [.aP i] [] [] σ Q X:=λA g s names L o vs kvs p r f a b j=>by
 obtain rfl:=a.NV;obtain rfl:=j.OB;obtain⟨_,rfl,k⟩:=b.PT;obtain⟨rfl,_⟩:=k.NV
 .obtain⟨vs,n,l,a2⟩:=pg r an;have e:vs.size=as.length:=U a2.length Cq.symm;refine HN ⟨_,l,R,n,R⟩ (by refine U e ?_;lia) ?_;exact U e (fr r f (.Oh _ _) h)
theorem Ag{o:bL}(hi:J σ.aj i=H o)(j:Nat):J (V.NX ⟨n,(σ.dropO i).aj,σ.ag⟩ i o).aj j=J σ.aj j:=by
 refine(?_:J ((i,o)::(σ.dropO i).aj) j=_);refine U (de ..) ?_
 by_cases e:j=i
 .exact U (if_pos e) (U e (U hi R))
 .exact U (if_neg e) (U (jp e) R)
section
variable{c:Cx}{d:Nat}{τ:V}{a:LA}{ah:Nat}{X:AX->V->Prop}{Q:bY->V->Prop}{a4:List (Nat×Y)}{I:cO}{aB aW d1:Nat}{ap:Int}{aE bk:List O}{av:List (O×O)}
theorem w3(D:cP c a)(ai:p.Ok)(F:oX p){g l w:Nat}(W:LW ah (gF p a I d1) a4 I ap aE bk aB aW av τ)(x:J a4 16=H (.ab (.bool p.OG)))(z:J a4 17=H (.aP g))(C:J a4 18=H (.aP l))(E:J a4 19=H (.aP w))(o:J τ.aj g=H (.aN ((em p).cg.map gp)))(G:J τ.aj l=H (.aN ((em p).bO.map .str)))(K:J τ.aj w=H (.aN ((em p).b5.map .str)))
  (k:∀τ',LW ah (gF p a I d1) a4 I ap aE bk aB aW av τ'->Rn c (d+10) a ah B τ' Q X):Rn c (d+10) a ah (bw 33::B) τ Q X:=by
 have A:=F.TP;have L:((em p).cg.map gp).length=(em p).cg.length:=BH _;refine Rn.N5 λN=>Rn.Oq<|cU (hG (pos':=⟨0,0,0,0⟩) (ca (ks (aw (nL 19 R) (W.c.ag 19 _ E) (ho (bn ⟨[],R,Cm _,vi (.bm K) .ab (BG (Dq _ _) (BG (h8 _) (by decide))) ?_⟩))))))
 have P:=(tu _ []).trans F.b5;refine U P<|aw (nL 16 R) (W.c.ag 16 _ x) (w2 (U (show(p.OG !=p.OG)=BQ by simp) ?_));refine⟨_,R,λb=>?_,λac=>nomatch ac⟩;refine hG (pos':=⟨0,0,0,0⟩) (ca (aw (nL 18 R) (W.c.ag 18 _ C) ?_))
 have S:(Ch (((em p).cg.map gp).map Y.ab).length).filterMap (λj=>(em p).cg[j]?.bind λq=>H (B1 q.1))=(em p).bO.map .str:=by
  exact U (BH ..) (U (BH ..) (U (g1 ..) (U (hJ ..) (U F.bO (U CJ R)))))
 refine e5 (cl:=[]) (by decide+kernel) (by kernel_rfl) (aw (nL 17 R) (W.c.ag 17 _ z) (gr (names:=["word","more"]) (gn:=[]) (gv:=[]) (f:=λj=>(em p).cg[j]?.bind λq=>H (B1 q.1)) (dm.aN o) (dQ ?_ R R trivial λq r=>nomatch r) (λb=>R) (U (BH ..) (U L (BG A (by decide)))) (λj y aJ T ae=>?_) λn s=>.inl ?_))
 .refine(?_:dp (db _ (az 29).aM) _ _ _=u)
  decide+kernel
 .obtain⟨aO,am,rfl⟩:=cY T;obtain⟨q,r,rfl⟩:=cY am;exact⟨_,.b2 R dK.ab (.aU (aH.ag (k:=0) (cL R)) (.aU (aH.ag (k:=1) (cL R)) (.a6 _))),eT ⟨λb=>aw (k:=0) (cL R) R ⟨⟨_,by simp only[r,CF],R⟩,cD.NW ae (BJ _) λb b e=>e⟩,λac=>nomatch ac⟩⟩
 .refine U S ?_;have s:=s
  let t:V:=V.NX ⟨n,(τ.dropO g).aj,τ.ag⟩ g (.aN ((em p).cg.map gp))
  have v:∀j,J t.aj j=J τ.aj j:=Ag o;have h:LW ah (gF p a I d1) a4 I ap aE bk aB aW av t:=W.be N s R λi b b=>v i;refine ja (.S (.bm ((v l).trans G))) (.S .ab) (BG (h8 _) (by decide)) ⟨BQ,R,λb=>?_,λac=>nomatch ac⟩;refine hG (pos':=⟨0,0,0,0⟩) (kW (pos':=⟨0,0,0,0⟩) (gN (aw (nL 16 R) (h.c.ag 16 _ x) (iI ⟨λaL=>?_,λaL=>?_⟩))))
  .obtain⟨an,ao,ax⟩:=F.T1 aL;refine kW (pos':=⟨0,0,0,0⟩) (pO (gN (d3 (nG 13 R R) (a1.N4 D.Pq) (.ar (nC 14 R) (h.c.ar 14 R) (.ag (nL 17 R) (h.c.ag 17 _ z) .a6)) (WK.NW (WC.Of (u5 (σ:=t) D ((v g).trans o) A an ao ax λm ay=>iI ⟨λac=>(nomatch ac),λb=>⟨λb=>kQ ⟨λac=>(nomatch ac),λb=>bJ (k _ (h.OL ay)).o⟩,λac=>(nomatch ac)⟩⟩))))))
  .exact⟨λb=>kQ ⟨λac=>(nomatch ac),λb=>bJ (k _ h).o⟩,λac=>(nomatch ac)⟩
end
noncomputable def jo(a:LA):List Y:=[.bT (.ref a.O5.1),.bT (.ref a.Om.1),.bT (.ref a.OS.1),.bT (.ref a.OV.1)]
theorem xJ(a:LA)(k:Nat):Y.PN k (jo a)=u:=R
section
variable{c:Cx}{d:Nat}{τ:V}{a:LA}{ah:Nat}{X:AX->V->Prop}{Q:bY->V->Prop}{a4:List (Nat×Y)}{I:cO}{aB aW d1:Nat}{ap:Int}{aE bk:List O}{av:List (O×O)}
theorem wJ(D:cP c a){e dt dO:Y}(aJ:e∈jo a){Q:Y->V->Prop}{X:AX->V->Prop}(b:X ⟨"ValueError",[m5]⟩ σ):WK c (d+2) e [dt,dO,.ab (.int (-1))] [] [] σ Q X:=by
 replace aJ:=iO aJ;rcases aJ with rfl|rfl|rfl|rfl
 .exact WK.NW (WC.Of (oU (.inr R) D.O5 D.Pd D.B (.inl ⟨R,R⟩) b))
 .exact WK.NW (WC.Of (oU (.inl R) D.Om D.Pe D.B (.inl ⟨R,R⟩) b))
 .exact WK.NW (WC.Of (tV (.inr ⟨R,R,R⟩) D.OS D.PI D.O5 D.Pd D.B D.PQ b))
 .exact WK.NW (WC.Of (tV (.inl ⟨R,R,R⟩) D.OV D.PE D.Om D.Pe D.B D.P0 b))
theorem vJ(D:cP c a){b:Y}(aJ:b∈jo a):a1 c b:=by
 replace aJ:=iO aJ;rcases aJ with rfl|rfl|rfl|rfl
 .exact a1.N4 D.O5
 .exact a1.N4 D.Om
 .exact a1.N4 D.OS
 .exact a1.N4 D.OV
theorem yR(D:cP c a)(ai:p.Ok)(W:LW ah (gF p a I d1) a4 I ap aE bk aB aW av τ)
  (k:∀τ' m,LW ah (gF p a I d1) ((20,.aP m)::a4) I ap aE bk aB aW av τ'->J τ'.aj m=H (.ev (jo a))->Rn c (d+10) a ah B τ' Q X):Rn c (d+10) a ah (bw 34::B) τ Q X:=by
 have E:=W.c.aa;have f:=aD.Pw ai;obtain⟨v,F⟩:=p.Oj ai;obtain⟨G,K⟩:∃w,p.Od[0]?=H w:=⟨_,BU (U f (BL (by decide) v))⟩;refine Rn.N5 λL=>Rn.Oq<|kc (by decide+kernel) (by kernel_rfl) (by kernel_rfl)<|hz (aI (dr (nG 14 R R) (aI (dr (nG 15 R R) (aI (dr (nG 1 R R) (aI (dr (nG 2 R R) (bn ⟨show 4<=1000000 by decide,⟨jo a,τ,λσ=>σ,["deed"],jb ["deed"] [("names",ah+2),("come",ah+4)] ["_law_refused"] [.ref a.Ps.1],λj g ba=>j<=4/\cD τ g/\ba=(jo a).take j,dm.NW et.b2,dQ (cn:=["names","come"]) ?_ R R ⟨D.RG,trivial⟩ λq i=>?_,⟨Cm _,⟨τ.aa,BJ _,R,λb b h=>h,λb b h=>nomatch h⟩,R⟩,λj y g ba o r=>?_,λg ba r=>?_⟩⟩)))))))))
 .refine(?_:dp (db _ (az 29).aM) _ _ _=u)
  decide+kernel
 .replace i:=eU i;rcases i with rfl|rfl <;> exact BL (Cs (by decide) ah) E
 .obtain⟨T,s,an⟩:=r;have x:j<4:=(BY.mp o).1;have z:=B5 o;have N:ba.length<=1000000:=U an (U CM (BG (Dq _ _) (BG (Cz x) (by decide))));refine⟨_,.v (aH.ag (k:=0) (cL R)),iH (gN (dJ (dr (md 0 R R) ⟨a1.N4 D.Ps,aI (aw (k:=0) (cL R) R (aI (gB (aI (bR (cT (.head _)) (s.aj (W.c.ar 2 R)) (aI (c3 (bR (cT (.tail _ (.head _))) (s.aj (W.c.ar 4 R)) (bI (gl .aK (he (k:=0) (U (BH ..) (U f (BL (by decide) v)))) (o8 K) (U (BH ..) (U f (BG F (by decide)))) (aI (lj (bI (kU (bn ⟨[.list (p.aG.map .str),.str G,.int (-1)],R,show 3<=1000000 by decide,aI (b8 ?_)⟩)))))))))))))))⟩)))⟩;refine bn (ce (WK.NW (WC.Of (q7 D D.bF.Rm (λP t=>vJ (t▸D) z) dK.ab (show 3<=1000 by decide) λP l t=>wJ (t▸D) z ⟨R,R,?_⟩))));have S:(m5==("lo must be non-negative":O))=u:=beq_self_eq_true _;refine U S<|iI ⟨λb=>ms N (aw (cL R) (bq _ _ _) ⟨x,cD.NW s (BJ _) λb b e=>e,?_⟩),λac=>nomatch ac⟩;exact U an (U CX (U o R))
 .obtain⟨_,⟨n,A,C⟩,an⟩:=r;refine⟨⟨n,τ.aj,τ.ag⟩,.inr ⟨C.aa,C.aj⟩,R,A,.inr (.inr ⟨?_,?_⟩)⟩
  .exact U an (xJ a _)
  .refine U an<|⟨_,aH.ag (nL 20 R),(k _ n ((W.N0 L A (.ev (jo a))).N2 20 (.aP n)) (bq _ _ _)).o⟩
end
noncomputable def aD.PL(p:aD):O:=iU (ep p) p.d (p.OX 2) (p.OX 3) p.P5
structure pF(p:aD)(aE:List O)(ap:Int)(a2 bH:List O)(l1 l2:Int):Prop where
 Uq:dC aE ap=(("z":O),a2,l1)
 Us:dC a2 l1=(B0,bH,l2)
 To:l2=1+(IS p.N7 "\n":Int)
 O7:(∀s∈aE,s.length=1)/\∀s∈a2,s.length=1
 cZ:aE.length<=800/\a2.length<=800
 RK:∀aZ:List O,aZ.Perm p.Od->KR aZ=u->p.aG=aZ
theorem qu{a b:Y}(an:gq σ a x)(ac:gq σ b x)(i:x.depth<=700)(h:Q (.ab (.bool u)) σ):co rV c d (CC .Eq) a b σ Q X:=λA g s names L bl n j r f k l=>by
 obtain⟨as,a2,e⟩:=an.NV r k;obtain⟨bs,bH,m⟩:=ac.NV r l;refine IV a2 bH e m ?_ (bZ.Oi r f (.Oz _) ?_)
 .refine U (Lg ..) ?_;have:=j.QC;exact aV [_,_,_] af (nA 700) (aq (ct 0 800) a7) au (aq (aq ak af) a7) au al i this
 .exact U (Km x e) h
section
variable{c:Cx}{d:Nat}{τ:V}{a:LA}{ah:Nat}{X:AX->V->Prop}{Q:bY->V->Prop}{a4:List (Nat×Y)}{I:cO}{aB aW d1:Nat}{ap:Int}{aE bk:List O}{av:List (O×O)}
theorem xj(D:cP c a)(ai:p.Ok)(e:i7 (ep p))(b:p.PL.length<=300/\BR p.PL=u)(aL:iq p.PL=p.OG)(W:LW ah (gF p a I d1) a4 I ap aE bk aB aW (ep p) τ)(f:J a4 15=H (.bh a.OQ aB))(g:J a4 10=H (.ab (.list [.str (p.OX 3),.str (p.OX 2)])))(h:J a4 11=H (.ab (.str p.P5)))
  (k:∀τ',(∀i,J τ'.aj i=J τ.aj i)->LW ah (gF p a I d1) ((21,.ab (.bool p.OG))::a4) I ap aE bk aB aW (ep p) τ'->Rn c (d+10) a ah B τ' Q X):Rn c (d+10) a ah (bw 35::B) τ Q X:=by
 refine Rn.Oq<|g0 (by kernel_rfl)<|dJ (dr (nG 16 R R) ⟨a1.N4 D.Rk.y,aI (dJ (dr (nG 9 R R) ⟨a1.N4 D.Pt,aI (aw (nL 15 R) (W.c.ag 15 _ f) (aI (bR (nC 1 R) (W.c.ar 1 R) (aI (gu (aw (nL 10 R) (W.c.ag 10 _ g) (dS (dS (gk (lj (bI (kU (gQ .aK .none .none (.Oh _) (by decide) (show 2<=1000000 by decide) (.inl ?_))))))))))))))⟩))⟩);refine U (qa (show Fi (Dd B2 B2 (H (-1)) 2).1 (Dd B2 B2 (H (-1)) 2).2.1 (Dd B2 B2 (H (-1)) 2).2.2=[1,0] by decide+kernel))<|aI (aw (nL 11 R) (W.c.ag 11 _ h) (bn (ce (WK.NW (WC.Of (sC D ai.d e W.bF (BG (p.PB 2).1 (by decide)) (BG (p.PB 3).1 (by decide)) (BG p.QG.1 (by decide)) λn j=>bn (ce (WK.NW (WC.Of (r1 D.Rk b.1 b.2 λeI l=>?_))))))))));refine U aL<|⟨_,aH.ag (nL 21 R),(k (V.N2 ⟨eI,τ.aj,τ.ag⟩ 21 (.ab (.bool p.OG))) (λm=>R) ((W.OL (BG j l)).N2 21 (.ab (.bool p.OG)))).o⟩
theorem vo(D:cP c a)(ai:p.Ok){a2 bH:List O}{w o:Int}(F:pF p aE ap a2 bH w o)(W:LW ah (gF p a I d1) a4 I ap aE [] aB aW av τ)(y:J a4 3=H (.ab (.str p.N7)))(z:J a4 16=H (.ab (.bool p.OG)))(A:J a4 21=H (.ab (.bool p.OG)))(C:J a4 20=H (.aP m))(f:J τ.aj m=H (.ev (jo a)))
  (k:∀τ',Q (.c0 (.ab (.bool u))) τ'):Rn c (d+10) a ah [bw 36] τ Q X:=by
 have E:=aD.Pw ai;obtain⟨aJ,G⟩:=p.Oj ai;refine Rn.Oq<|ej (oZ (ks (aw (nL 21 R) (W.c.ag 21 _ A) (aw (nL 16 R) (W.c.ag 16 _ z) (xr (U (show(p.OG==p.OG)=u by simp) ?_))))));refine iI ⟨λb=>?_,λac=>nomatch ac⟩;refine oZ (ks (d3 (nG 17 R R) (a1.Oe _) (.ag (nL 20 R) (W.c.ag 20 _ C) .a6) (zh f (show 4<=1000000 by decide) (bI (om (iI ⟨λb=>?_,λac=>nomatch ac⟩))))));refine oZ (ks (bR (nC 2 R) (W.c.ar 2 R) (d3 (nG 6 R R) (a1.Oe _) (.ar (nC 4 R) (W.c.ar 4 R) .a6) (r3 .aK (U E (CP G (by decide))) λaZ K L=>br (F.RK aZ K L) ?_))));refine qu .ab .ab (BG (h8 _) (by decide)) (iI ⟨λb=>?_,λac=>nomatch ac⟩);obtain⟨log,N,_⟩:=W.cz.ns;refine wB (ks (ho (aI (fe (.ar (nC 8 R) (W.c.ar 8 R)) (cf.N4 D.n.cp N D.n.Pr D.n.ga D.n.gt FO.Q5 (by decide+kernel)) (a1.N4 D.n.Pr.2) .a6 (WK.NW (WC.Of (mA D.n W.cz F.O7.1 F.cZ.1 (Cm _) (λP S g=>nomatch g) (λb T c6 cC q σ' r e=>?_))))))));rw[F.Uq]at q;cases q
 have ac:∀{σ':V}{l:List (Nat×Y)},hE [I.j,I.e,I.f] τ σ'->J (⟨σ'.aa,σ'.aj,l⟩:V).aj (ah+8)=H (.ar (H (.bh a.nC I.j))):=λh=>(h.aj _ (BL (Cs (by decide) ah) W.c.aa) (λf=>by
  have:=W.K (ah+8) (mM f);exact nf (a0 [_] (ct 0 15) ff a7 c8 al this))).trans (W.c.ar 8 R)
 obtain⟨aL,ae,_⟩:=r.ns;refine aI (fe (.ar (nC 8 R) (ac e)) (cf.N4 D.n.cp ae D.n.Pr D.n.ga D.n.gt FO.Q5 (by decide+kernel)) (a1.N4 D.n.Pr.2) .a6 (WK.NW (WC.Of (mA D.n (r.bM λb b=>R) F.O7.2 F.cZ.2 (Cm _) (λP S g=>nomatch g) (λb aO aR aT s am an j=>?_)))));rw[F.Us]at s;cases s;have ao:hE [I.j,I.e,I.f] τ am:=⟨BG e.aa j.aa,j.ag,λi hi t=>(j.aj i (BL hi e.aa) t).trans (e.aj i hi t)⟩;obtain⟨aX,v⟩:=an.ns;refine A3 v λax ay b=>?_;clear v;refine aI (h9 (bR (nC 8 R) (ac ao) (iF D.n.cp ax R ay D.n.ga D.n.ih FO.Rl (λb=>nofun) (bn ⟨[.str "z",.str B0,.int o],R,show 3<=1000000 by decide,ho ?_⟩))));refine aI (b8 (aI (b8 (x:=B0) ?_)));refine aI (b4 (bI (eb (aw (nL 3 R) ((W.c.ag 3 _ y:J τ.ag 3=_)) ⟨_,u,cf.Ov Nm Nc,a1.Oe _,aI ?_⟩))));refine b8<|bn (ce (AB (iw (bn ⟨[.str "z",.str B0,.int (1+(IS p.N7 "\n":Int))],R,show 3<=1000000 by decide,br F.To ?_⟩))));refine qu .ab .ab (BG (lb (B:=1) λx n=>?_) (by decide)) (k _);replace n:=il n;rcases n with rfl|rfl|rfl <;> simp[DW]
end
structure qo(p:aD)(aZ:List T4):Prop where
 R0:(gD p p.d).map eA=aZ.map j4
 SE:pG p (gD p p.d) (cd aZ) (eV p (cd aZ))
 Sx:∀w∈cd aZ,w∈p.aG/\p.dV w<5
 N1:qj p (eV p (cd aZ)) (cd aZ)
 fl:i7 (eV p (cd aZ))
 cZ:(p.PS (eV p (cd aZ))).length<=299/\BR (p.PS (eV p (cd aZ)))=u
 Uh:fj (p.PS (eV p (cd aZ)))=p.PS (eV p (cd aZ))/\fj (p.Om++p.PS (eV p (cd aZ)))=j3
structure kr(p:aD):Prop where
 Pp:(dw p.N7 p.d).Pp=p.Od
 Un:∀aZ:List T4,aZ.Perm (p.Pc++p.Pb)->aZ.Pairwise (λx y=>d6 x y=u)->qo p aZ
 fl:i7 (ep p)
 Uf:qq p (ep p)
 em:oX p
 PL:(p.PL.length<=300/\BR p.PL=u)/\iq p.PL=p.OG
 OT:∃a2 bH l1 l2,pF p (dw p.N7 p.d).dU (dw p.N7 p.d).ee a2 bH l1 l2
theorem yu:(az 29).h=[bw 0,bw 1,bw 2,bw 3,bw 4,bw 5,bw 6,bw 7,bw 8,bw 9,bw 10,bw 11,bw 12,bw 13,bw 14,bw 15,bw 16,bw 17,bw 18,bw 19,bw 20,bw 21,bw 22,bw 23,bw 24,bw 25,bw 26,bw 27,bw 28,bw 29,bw 30,bw 31,bw 32,bw 33,bw 34,bw 35,bw 36]:=by kernel_rfl
section
variable{c:Cx}{d:Nat}{τ:V}{a:LA}{ah:Nat}{X:AX->V->Prop}{Q:bY->V->Prop}
theorem uP(D:cP c a)(T:kC c a)(ai:p.Ok)(F:kr p)(K:LI ah [(1,.ab (.int (p.d:Nat))),(0,.ab (.list (fE p.N)))] [] τ)(h:∀τ',Q (.c0 (.ab (.bool u))) τ'):
  Rn c (d+10) a ah [bw 0,bw 1,bw 2,bw 3,bw 4,bw 5,bw 6,bw 7,bw 8,bw 9,bw 10,bw 11,bw 12,bw 13,bw 14,bw 15,bw 16,bw 17,bw 18,bw 19,bw 20,bw 21,bw 22,bw 23,bw 24,bw 25,bw 26,bw 27,bw 28,bw 29,bw 30,bw 31,bw 32,bw 33,bw 34,bw 35,bw 36] τ Q X:=by
 obtain⟨ax,t⟩:=p.Oj ai;have ao:=(p.Qo ai).1;obtain⟨l,N⟩:=t6 p.N7 p.d;have n:(dw p.N7 p.d).dU.length<=800:=aV [_,_] af (nA 33) ak af ak (nA 800) al ao N;refine Ar D ai K λay K=>?_;refine wM D ai K λaE K=>?_;refine A8 D ai K λaJ K=>?_;refine zP D ai K λaL K=>?_;refine Bn D ai K λaO K=>?_;refine zT D ai K λaR K=>?_;refine w8 D ai K λaT K=>?_;refine yj D ai K λaX K=>?_;refine Bj D T ai K λaY I aB aW e W f b o=>?_;refine xL D ai W f b o λa4 W b=>?_;rw[F.Pp]at W;refine yC D T ai W f b o λg W b=>?_;refine Bq D ai W λv a9 W=>?_
 have x:J (V.NX ⟨v,g.aj,g.ag⟩ (ah+10) (.ar (H (.c5 (kn p))))).aj e=H (.aN ((gD p p.d).map eA)):=by
  exact aS (λq=>nf (aV [_,_] (ct 0 15) af af (ct 0 10) a7 c8 al f (eL q))) b
 generalize V.NX ⟨v,g.aj,g.ag⟩ (ah+10) (.ar (H (.c5 (kn p))))=i at W x;refine xk D ai W λy ba W=>?_
 have z:J (V.NX ⟨y,i.aj,i.ag⟩ (ah+11) (.ar (H (.c5 (kX p))))).aj e=H (.aN ((gD p p.d).map eA)):=by
  exact aS (λq=>nf (aV [_,_] (ct 0 15) af af (ct 0 11) a7 c8 al f (eL q))) x
 generalize V.NX ⟨y,i.aj,i.ag⟩ (ah+11) (.ar (H (.c5 (kX p))))=j at W z;refine vW D ai W λA aZ bb B P W=>?_;have bD:=F.Un aZ B P;have C:aZ.length<=10:=by refine U B.length_eq (U (p.R6 ai) ?_);exact aV [_] ak f2 ak f2 (fz 2 ak) eO al t t
 have E:J (V.N2 ⟨A,j.aj,j.ag⟩ 6 (.ab (.list (aZ.map dM)))).aj e=H (.aN ((gD p p.d).map eA)):=z;generalize V.N2 ⟨A,j.aj,j.ag⟩ 6 (.ab (.list (aZ.map dM)))=k at W E;refine vh C W R λG bc W=>?_;have r:J (V.N2 ⟨G,k.aj,k.ag⟩ 7 (.ab (.list ((cd aZ).map .str)))).aj e=H (.aN ((gD p p.d).map eA)):=E;generalize V.N2 ⟨G,k.aj,k.ag⟩ 7 (.ab (.list ((cd aZ).map .str)))=bf at W r;refine At ai C W R R R (U r (U bD.R0 R)) λbg bi W=>?_;have s:=bD.SE.Tl;refine z0 D ai bD.SE W l n R R r o λbj W=>?_;refine uQ D ai W λbk W=>?_;refine v5 D ai W λbl W=>?_;refine ww ai s bD.Sx W R λbu W=>?_;refine vb D ai s W R λbv W=>?_;refine zI D bD.fl.toTabOk W R λbx W=>?_;refine xG ai W λbz W=>?_;refine xP ai W λbC W=>?_;refine uI D ai bD.fl W R R λbQ W=>?_;refine AS ai bD.cZ.1 W R λbS W=>?_;refine xR D bD.cZ bD.Uh W R λbU m W S=>?_;refine Ay D ai bD.cZ.1 (by rw[eV,BH];exact BG ‹_› (by decide)) W R R R R S λb6 W=>?_
 refine yP D ai s (λw ac=>(bD.Sx w ac).1) bD.fl.toTabOk bD.N1 l n W R λb9 W=>?_;refine wo D ai W λcj W=>?_;refine uX D ai W λck cq cs W=>?_;refine xh D ai W λcx W=>?_;refine xV D ai F.fl.toTabOk F.Uf l n W R λcA cB cC cE W b ae am cF=>?_;refine w3 D ai F.em W R R R R b ae am λcG W=>?_;refine yR D ai W λcH an W ap=>?_;refine xj D ai F.fl F.PL.1 F.PL.2 W R R R λcK av W=>?_;obtain⟨a2,bH,cM,cS,L⟩:=F.OT;exact vo D ai L W R R R R ((av an).trans ap) h
end
theorem rI(D:cP c a)(T:kC c a)(ai:p.Ok)(F:kr p)(h:∀σ',Q (.ab (.bool u)) σ'):WC c (d+11) a.ee.1 2 [] [.ab (.list (fE p.N)),.ab (.int (p.d:Nat))] σ Q X:=by
 have aL:σ.Ob.b0 (az 29).aM.names=⟨σ.aa+15,pI σ.aa σ.aj 15,[]⟩:=by kernel_rfl
 refine e3 D.ee (iE a σ.aa) (kM λb b b b b b=>by rfl) R ⟨R,R,R,R,R⟩ (za D D.bF.Q4) (.aU (aH.ar (v₀:=B2) (nC 0 R) ?_) (.aU (aH.ar (v₀:=B2) (nC 1 R) ?_) (.a6 _))) λL=>?_
 .exact U aL (oS (by decide))
 .exact U aL (aS (bK R) (oS (by decide)))
 .refine U yu<|(uP (c:=c.a5 L) D T ai F ?_ λτ'=>h _).o;refine U aL<|⟨BJ _,λi v e=>?_,λi hi=>?_,λk v e=>nomatch e⟩
  .rw[de,de]at e
   by_cases f:i=1
   .subst f;cases e;exact⟨by decide,bq _ _ _⟩
   .rw[if_neg f]at e
    by_cases g:i=0
    .subst g;cases e;refine⟨by decide,?_⟩;exact aS (bK R) (bq _ _ _)
    .rw[if_neg g]at e;cases e
  .show ∃v,J ((σ.aa+1,_)::(σ.aa+0,_)::_) (σ.aa+i)=_
   by_cases f:i=1
   .exact U f ⟨_,bq _ _ _⟩
   .by_cases g:i=0
    .exact U g ⟨_,aS (bK R) (bq _ _ _)⟩
    .exact⟨_,aS (λe=>f (D7 e)) (aS (λe=>g (D7 e)) (oS hi))⟩
noncomputable def jf:List Nat:=[952,1972,3624,1364,2718,327]
noncomputable def fq(ns:List Int):List Nat:=(ns.take 60).map λi=>(i.fmod 5040).toNat
noncomputable def iv(a:List Nat)(k:Nat):List Nat:=e7 a (H (k:Int)) B2 (H 6)
noncomputable def iR(ns:List Int):aD:=⟨if 3<(fq ns).length then 5 else 4,(Ch 6).map λk=>(jf[k]?).getD 0+(iv (fq ns) k).sum⟩
theorem q2{ns:List Int}:∀r∈fq ns,r<=5039:=λr a=>by
 obtain⟨i,_,rfl⟩:=B7.mp a;have:=Int.fmod_lt_of_pos i (show(0:Int)<5040 by decide)
 (simp <;> lia)
theorem oD(ns:List Int):(fq ns).length<=60:=by
 rw[fq,BH,CM];exact Dq _ _
theorem rz{xs:List aO}:∀x∈dj.filterMap (xs[·]?),x∈xs:=λx a=>by
 obtain⟨i,_,hi⟩:=Jz.mp a;exact B5 hi
theorem Bf(n k:Nat):Dd (H (k:Int)) B2 (H 6) n=(K7 0 (ME (k:Int) n),(n:Int),6):=by
 refine(?_:((if(6:Int)>0 then K7 0 (ME (if(k:Int)<0 then k+(n:Int)else k) (n:Int))else _,(n:Int),(6:Int)):Int×Int×Int)=_);exact U (if_pos (by decide)) (U (if_neg (DM.mpr (C5 k))) R)
theorem z9{s:Int}(h:0<=s)(a:n<=60):(Fi s n 6).length<=60:=by
 unfold Fi;refine U (BH ..) (U Ct (U (if_pos (by decide)) ?_));split <;> lia
theorem t4(a:List Nat)(k:Nat)(h:a.length<=60):(iv a k).length<=60:=by
 unfold iv e7;exact BG (E0 _ _) (U (Bf ..) (z9 (Int.le_max_left ..) h))
theorem uM{ns:List Int}(k:Nat):(iv (fq ns) k).sum<=302340:=by
 have h1:=t4 (fq ns) k (oD ns);have h2:∀r∈iv (fq ns) k,r<=5039:=λr a=>q2 r (rz r a)
 have:∀xs:List Nat,(∀r∈xs,r<=5039)->xs.sum<=5039*xs.length:=λxs=>by
  induction xs with
  |nil=>intro _;exact BJ _
  |cons x xs b=>
   intro h;refine U G6 (U Cd ?_);have:=b λr a=>h r (.tail _ a);have:=h x (.head _);lia
 have:=this _ h2;lia
theorem rk(ns:List Int):(iR ns).Ok:=by
 refine⟨?_,(U (BH ..) (U Ct R):((Ch 6).map _).length=6),λs b=>?_⟩
 .refine(?_:(if 3<(fq ns).length then 5 else 4)=4\/_=5)
  by_cases h:3<(fq ns).length
  .exact .inr (if_pos h)
  .exact .inl (if_neg h)
 .obtain⟨k,a,rfl⟩:=B7.mp b;have h1:=uM (ns:=ns) k;have a:=CU.mp a
  have h2:(jf[k]?).getD 0<=3624:=by
   rcases(by lia:k=0\/k=1\/k=2\/k=3\/k=4\/k=5)with rfl|rfl|rfl|rfl|rfl|rfl <;> decide
  exact aV [_,_] af (nA 302340) ak (nA 3624) (aq ak af) (nA 400000) al h1 h2
theorem Bo(xs:List Nat):(xs.map λ(x:Nat)=>(x:Int)).sum=((xs.sum:Nat):Int):=by
 induction xs with
 |nil=>rfl
 |cons x xs a=>exact U CR (U G6 (U G6 (U a (U (H3 ..) R))))
noncomputable def np(a:LA)(n:Nat)(bu cc:M):bB:=eX (az 30).aM ["script"] [("rests",n)] ["_law_line","range","len"] [.ref a.ee.1,.type "range",.builtin "len"] "law" bu cc
theorem vu(D:cP c a)(T:kC c a){bu cc:M}(aJ:fi c bu "law" "law" (az 30).l (az 30).h (az 30).aM .none .none cc){ns:List Int}(E:ns.length<=63)(F:kr (iR ns))(h:∀σ',Q (.ab (.bool u)) σ'):WC c (d+12) bu 1 [] [.ab (.list (ns.map .int))] σ Q X:=by
 have ai:=rk ns;refine e3 aJ (np a σ.aa bu cc) (jS λl l l l l=>by rfl) R ⟨R,R,R,R,R⟩ (e0 (cn:=["rests"]) (by decide+kernel) R ⟨D.S5,D.QU,D.B.cZ,trivial⟩ (λq p=>by exact U (BO.mp p) (B3 _))) (.aU (aH.ag (k:=0) (mL R)) (.a6 _)) λL=>?_
 have w:(("rests":O),cQ.ar σ.aa)∈(np a σ.aa bu cc).bN:=mC (.head _)
 let τ:V:=⟨σ.aa+1,(σ.aa,.ar B2)::σ.aj,[(0,.ab (.list (ns.map .int)))]⟩
 have G:(ns.map D2).length<=63:=by exact U (BH ..) E
 refine aQ (g0 (by kernel_rfl) (e5 (cl:=[]) (by decide+kernel) (by kernel_rfl) (gu (aw (k:=0) (mL R) R (dS (gk (bI (dS (gQ (hi:=H ((60:Nat):Int)) (st:=B2) .aK .none (.Oh _) .none nofun (BG G (by decide)) (.inl ?_))))))))));refine U (ob ..) (br EF ?_)
 have I:(Ch (((ns.take 60).map D2).map Y.ab).length).filterMap (λj=>(ns.take 60)[j]?.bind λi=>H (D2 ((i.fmod 5040).toNat:Nat)))=fE (fq ns):=by
  rw[BH,BH,g1,hJ,fq,fE,CJ];rfl
 refine gr (names:=["number"]) (gn:=[]) (gv:=[]) (f:=λj=>(ns.take 60)[j]?.bind λi=>H (D2 ((i.fmod 5040).toNat:Nat))) (dm.NW et.O1) (dQ (cn:=[]) ?_ R R trivial λq p=>nomatch p) (λl=>R) (by exact U (BH ..) (U (BH ..) (U CM (BG (Dq _ _) (by decide))))) (λj y z K m=>?_) λn s=>.inl ?_
 .refine(?_:dp (db _ (az 30).aM) _ _ _=u)
  decide+kernel
 .obtain⟨ao,N,rfl⟩:=cY K;obtain⟨i,hi,rfl⟩:=cY N;refine⟨_,.v (aH.ag (k:=0) (cL R)),eT ⟨λl=>b4 (aw (k:=0) (v:=.ab (.int i)) (cL R) R (bI (qV (b:=5040) (by decide) ⟨⟨.int ((i.fmod 5040).toNat:Nat),by simp only[hi,CF],?_⟩,cD.NW m (BJ _) λl l e=>e⟩))),λac=>nomatch ac⟩⟩;have P:=Int.fmod_nonneg_of_pos i (show(0:Int)<5040 by decide);exact U (Int.toNat_of_nonneg P) R
 .refine U I ?_;have s:σ.aa+1<=n:=s;refine⟨_,aH.ar (i:=σ.aa) (v₀:=B2) w (bq _ _ _),?_⟩
  let g:V:=⟨n,(σ.aa,.ar (H (.ab (.list (fE (fq ns))))))::(σ.aa,.ar B2)::σ.aj,[(0,.ab (.list (ns.map .int)))]⟩
  have A:J g.aj σ.aa=H (.ar (H (.ab (.list (fE (fq ns)))))):=bq _ _ _;have B:(fE (fq ns)).length<=60:=by exact U (BH ..) (oD ns)
  refine aQ (ej (dJ (dr (v:=.ref a.ee.1) (mG 0 R R) ⟨a1.N4 (c:=c.a5 L) D.ee,aI (e5 (cl:=[("rests",σ.aa)]) (by decide+kernel) (by kernel_rfl) (d3 (v:=.type "range") (mG 1 R R) (a1.PA _) (.Oh .a6) (kR (n:=6) ?_)))⟩)))
  have S:(Ch ((Ch 6).map λ(i:Nat)=>Y.ab (.int (i:Int))).length).filterMap (λk=>H (D2 (((jf[k]?).getD 0+(iv (fq ns) k).sum:Nat):Int)))=fE (iR ns).N:=by
   rw[BH,Ct,hJ,iR,fE,CJ];rfl
  refine gr (names:=["k"]) (gn:=["sum"]) (gv:=[.builtin "sum"]) (f:=λk=>H (D2 (((jf[k]?).getD 0+(iv (fq ns) k).sum:Nat):Int))) (dm.NW (et.fv (by decide))) (dQ (cn:=["rests"]) ?_ R R ⟨D.S8,trivial⟩ λq p=>?_) (λl=>R) (by refine U (BH ..) (U Ct ?_);decide) (λk y z W m=>?_) λo ap=>.inl ?_
  .refine(?_:dp (db _ (az 30).aM) _ _ _=u)
   decide+kernel
  .exact U (BO.mp p) s
  .obtain⟨C,rfl⟩:=o9 W;have m:cD g z:=m;refine⟨_,.v (aH.ag (k:=0) (cL R)),eT ⟨λl=>?_,λac=>nomatch ac⟩⟩
   have ae:(jf.map λ(b:Nat)=>Y.ab (.int (b:Int)))[k]?=H (.ab (.int (((jf[k]?).getD 0:Nat):Int))):=by
    exact U Ck (U (lU (show k<jf.length from C) 0) R)
   refine b4 (c3 (gB (aI (bI (aI (bI (aI (bI (aI (bI (aI (bI (aI (bI (bn ⟨jf.map λ(b:Nat)=>.int (b:Int),R,show 6<=1000000 by decide,aw (k:=0) (v:=.ab (.int (k:Nat))) (cL R) R (iN (xs:=jf.map λ(b:Nat)=>Y.ab (.int (b:Int))) (j:=k) dK.ab (he (show k<6 from C)) ae (by constructor <;> lia) (dJ (dr (v:=.builtin "sum") (md 0 R R) ⟨a1.Oe _,aI (gu (bR (i:=σ.aa) (cT (.head _)) (m.aj A) (gk (aw (k:=0) (v:=.ab (.int (k:Nat))) (cL R) R (dS (gk (bI (gQ (ds:=fE (fq ns)) (lo:=H (k:Int)) (hi:=B2) (st:=H 6) .aK (.Oh _) .none (.Oh _) (by decide) (BG B (by decide)) (.inl ?_)))))))))⟩)))⟩)))))))))))))))
   have ah:e7 (fE (fq ns)) (H (k:Int)) B2 (H 6)=((iv (fq ns) k).map λ(x:Nat)=>(x:Int)).map .int:=by
    rw[fE,ud,iv,CJ];rfl
   refine U ah<|bn (ce (vG (ns:=(iv (fq ns) k).map λ(x:Nat)=>(x:Int)) .aK (λx am=>?_) (by exact U (BH ..) (BG (t4 _ k (oD ns)) (by decide))) ?_))
   .obtain⟨r,an,rfl⟩:=B7.mp am;have:=q2 r (rz r an);constructor <;> lia
   .refine U (Bo ..)<|oL ⟨⟨_,R,R⟩,cD.NW m (BJ _) λl l e=>e⟩
  .refine U S ?_;have av:∀{Q:Y->V->Prop}{σ:V},(3<(fq ns).length->True)->True:=λl=>trivial;refine aI (hN (ca (d3 (v:=.builtin "len") (mG 2 R R) (a1.Oe _) (.ar (i:=σ.aa) w A .a6) (iG .aK (BG B (by decide)) (bI (sh ⟨_,R,λac=>?_,λac=>?_⟩))))))
   .have t:(iR ns).d=5:=if_pos (by
     have:=of_decide_eq_true ac;rw[BH]at this;lia)
    refine bI (bn (ce (WK.NW (WC.Of ?_))));have:=rI (c:=c.a5 L) (d:=d) (σ:=⟨o,g.aj,g.ag⟩) D T ai F (Q:=gg (oP (ky (c.a5 L) (d+11) (np a σ.aa bu cc) [] (oW Q σ) (gg X σ))) ⟨o,g.aj,g.ag⟩) (X:=gg (gg X σ) ⟨o,g.aj,g.ag⟩) λσ'=>h _;rw[t]at this;exact this
   .have t:(iR ns).d=4:=if_neg (by
     have:=of_decide_eq_false ac;rw[BH]at this;lia)
    refine bI (bn (ce (WK.NW (WC.Of ?_))));have:=rI (c:=c.a5 L) (d:=d) (σ:=⟨o,g.aj,g.ag⟩) D T ai F (Q:=gg (oP (ky (c.a5 L) (d+11) (np a σ.aa bu cc) [] (oW Q σ) (gg X σ))) ⟨o,g.aj,g.ag⟩) (X:=gg (gg X σ) ⟨o,g.aj,g.ag⟩) λσ'=>h _;rw[t]at this;exact this
variable{vs:List Z}{as:List M}
theorem vv{h:CG}{ns:List Int}(r:C7 h vs (ns.map .int) as):as=[]:=by
 induction ns generalizing vs as with
 |nil=>exact(C4 r).2
 |cons n ns a=>
  obtain⟨_,_,_,_,_,e,a2,bH⟩:=f8 r;exact U e (U (a bH) (U ((E8 a2).choose_spec.2) R))
theorem yh:∀ns:List Int,Cy (ns.map .int)=u:=by
 intro ns
 induction ns with
 |nil=>
  exact R
 |cons n ns a=>
  rw[CR,Cy,a];rfl
noncomputable def ox(s:BN)(r:KJ)(s':BN):Prop:=r=.ok (.ret (.bool u))/\OldK s.heap s'.heap/\s'.os=s.os/\JK s'.gens
theorem zX(D:cP c a)(T:kC c a){bu cc:M}(aJ:fi c bu "law" "law" (az 30).l (az 30).h (az 30).aM .none .none cc)(i:c.i=s.heap)(q:c.SZ=s.os)(t:c.bE=[])(C:s.gens=#[])(w:c.toBx.Ok)(j:∀p∈c.k,s.heap.get? p.2.1=H (JE #[]))
  {l:M}{ns:List Int}(E:s.heap.IsList l vs.toArray)(x:C7 s.heap vs (ns.map .int) as)(G:ns.length<=63)(F:kr (iR ns)):E9 c.NU KV (.call (.ref bu) ⟨[.ref l],[]⟩) (ox s) s:=by
 obtain⟨o,m,aL,n,I⟩:=E
 have K:¬c.N9 l:=λf=>by
  obtain⟨p,ai,e⟩:=f;have:=j p ai;rw[e,m]at this;cases this;cases aL
 let g:Gh:=⟨λd=>0,λb=>b=l⟩
 let σ:V:=⟨0,[],[]⟩
 have r:aA c g σ s:=by
  refine⟨λa o e d=>br i e,U i (BJ _),λb f=>?_,λp ai=>⟨#[],j p ai,trivial,λpos W e=>(nomatch e)⟩,λd d e=>(nomatch e),λd d e=>(nomatch e),λd d d d e=>(nomatch e),λb e=>?_,?_,q.symm,w,λb ac=>?_⟩
  .obtain⟨p,ai,e⟩:=f;exact U i (br e (Ca (j p ai)))
  .have e:b=l:=e;subst e;exact⟨Ca m,K⟩
  .exact U C (.of_eq R)
  .rw[t]at ac;cases ac
 have L:dq c KV 12:=⟨R,⟨[],R,λd h=>(nomatch h)⟩,by decide,by decide⟩
 have hv:bA c s.heap g.F g.a σ.aa [.ab (.list (ns.map .int))] [.ref l]:=by
  refine .aU (.ab (.list m aL I (by simpa using x)) (λb ac=>?_) (by rw[DH];exact yh ns)) .a6;rw[vv x]at ac;exact BO.mp ac
 refine JT (vu D T aJ G F (Q:=λb d=>b=.ab (.bool u)) (X:=λd d=>False) (λd=>R) KV g s [.ref l] L r hv) λN s' h=>?_
 have P:∀v,PH rV c g σ s (λb d=>b=.ab (.bool u)) v s'->ox s (.ok (.ret v)) s':=λv f=>by
  obtain⟨b,am,σ',st,k,S,ac⟩:=f;subst ac;have hv:=a8.Qn S;subst hv;have y:=λb o e ao=>st.bM b o e (λf=>by obtain⟨_,_,h,_⟩:=f;exact nomatch h) (λh=>h) ao (U t (λh=>nomatch h))
  refine⟨R,⟨λb o e=>?_,λb o e=>?_⟩,k.C.trans q,k.Ob⟩
  .by_cases ao:c.N9 b
   .obtain⟨p,ai,rfl⟩:=ao;have z:=j p ai;rw[e]at z;cases z;obtain⟨A,h1,_⟩:=k.k p ai;have B:=(w.RW p ai).1;rw[i]at B;exact .inr (.inl ⟨(B.tab e).isCodeTable,R,#[],A,R,U Array.empty_append h1⟩)
   .exact .inl (y b o e ao)
  .by_cases ao:c.N9 b
   .obtain⟨p,ai,rfl⟩:=ao;obtain⟨A,h1,_⟩:=k.k p ai;exact⟨_,h1⟩
   .exact⟨o,y b o e ao⟩
 match N,h with
 | .ok (.ret v),h=>exact P v h
 | .ok .next,h=>exact h.elim
 | .ok .brk,h=>exact h.elim
 | .ok .cont,h=>exact h.elim
 | .error e,⟨_,_,_,_,_,_,h⟩=>exact h.elim
end
section
set_option tactic.hygienic false
theorem wq{k S W n:Nat}(e:k+1=S+W)(q:k<=n+S):n+S-k+W=1↔n=0:=by
 rw[←Gv q,EG,←e,←EG,JY,Hl];exact⟨If,λh=>h▸R⟩
variable{c:Nat}
set_option tactic.hygienic true in
theorem wk(p:Nat->Bool):∀(f lo hi:Nat),hi<=lo+f->lo<=c->c<=hi->(∀i,lo<=i->i<c->p i=u)->(∀i,c<=i->i<hi->p i=BQ)->dg p f lo hi=c:=by
 intro f
 induction f with
 |zero=>
  intro lo hi h1 h2 a _ _;refine(?_:lo=c)
  exact Cg h2 (aV [_,_,_] au (ct 1 0) ak au ak af al h1 a)
 |succ f g=>
  intro lo hi h1 h2 a b d;rw[pD];split
  .rename_i h
   by_cases j:(lo+hi)/2<c
   .refine U (b _ (lv h) j)<|g _ _ (oJ h h1).2.1 j a (λi e=>b i (BG (lv h) (Eo e))) d
   .refine U (d _ (Ea ‹_›) (lE h))<|g _ _ (oJ h h1).2.2 h2 (Ea ‹_›) b (λi e k=>d i e (GE k (lE h)))
  .exact Cg h2 (aV [_,_,_] ak au au af ak af al a (BP.mp ‹¬lo<hi›))
variable{aO:Type}
theorem kZ{q:aO->Bool}:∀{xs:List aO},xs.Pairwise (λa b=>q b=u->q a=u)->xs.take (xs.filter q).length=xs.filter q/\xs.drop (xs.filter q).length=xs.filter λy=>!q y:=by
 intro xs
 induction xs with
 |nil=>
  intro _
  exact⟨R,R⟩
 |cons x xs g=>
  intro h;obtain⟨h1,h2⟩:=Dz.mp h;obtain⟨i,j⟩:=g h2
  cases c:q x with
  |true=>
   refine U (List.filter_cons_of_pos c) (U (IP (by refine U c ?_;decide)) ?_)
   exact⟨U Cd (BK Js (U i R)),U Cd (BK List.drop_succ_cons (j))⟩
  |false=>
   have e:=DL.mpr λy d f=>by replace c:=(h1 y d f).symm.trans c;cases c
   refine U (IP (by refine U c ?_;decide)) (U e ?_);refine⟨R,?_⟩;refine(?_:x::xs=_);rw[ET.mpr];intro y d;rcases BX.mp d with rfl|d
   .exact U c R
   .cases f:q y with
    |false=>rfl
    |true=>replace c:=(h1 y d f).symm.trans c;cases c
variable{i:Nat}
theorem sO{q:aO->Bool}{xs:List aO}(h:xs.Pairwise (λa b=>q b=u->q a=u))(hi:i<xs.length):q xs[i]=decide (i<(xs.filter q).length):=by
 obtain⟨h1,h2⟩:=kZ h
 by_cases aL:i<(xs.filter q).length
 .refine U (decide_eq_true aL) ?_;have:xs[i]∈xs.take (xs.filter q).length:=Dt.mpr ⟨i,by lia,R⟩;rw[h1]at this;exact(B8.mp this).2
 .refine U (decide_eq_false aL) ?_;have:xs[i]∈xs.drop (xs.filter q).length:=List.mem_drop_iff_getElem.mpr ⟨i-(xs.filter q).length,aV [_,_,_,_] fC au (aq ak af) bG (aq (aq ak af) a7) au al hi (eL (Cc ((BP.mp aL)))),by congr 1;exact Cg (a0 [_,_,_] (aq af ak) au (aq ak af) au al (eL (Cc ((BP.mp aL))))) (a0 [_,_,_] ak (aq au af) ak (aq af au) al (sA _ _))⟩;rw[h2]at this;simpa using(B8.mp this).2
theorem mc{q:aO->Bool}{a b c:List aO}{p:Nat->Bool}{f:Nat}(ai:∀i(hi:i<b.length),p (a.length+i)=q b[i])(h:b.Pairwise (λx y=>q y=u->q x=u))(aJ:b.length<=f):dg p f a.length (a.length+b.length)=a.length+(b.filter q).length:=by
 have d:=CI q b;refine wk p f _ _ (a0 [_,_,_] af au (aq ak af) (aq ak au) al aJ) (B4 ..) (a0 [_,_,_] af au (aq ak af) (aq ak au) al d) (λi h1 h2=>?_) λi h1 h2=>?_
 .have:=ai (i-a.length) (IL h1 (BL h2 (C8 d _)));rw[sO h,decide_eq_true (by exact aV [_,_,_,_] bV (aq bG af) (aq ak bG) au aC af al h2 (eL (Cc (h1)))),show a.length+(i-a.length)=i by exact Cg (a0 [_,_,_] (aq af ak) au (aq ak af) au al (eL (Cc (h1)))) (a0 [_,_,_] ak (aq au af) ak (aq af au) al (sA _ _))]at this;exact this
 .have:=ai (i-a.length) (IL (BG (B4 ..) h1) h2);rw[sO h,decide_eq_false (by exactλe=>nf (cI [_,_,_,_] (aq ak af) au fC af au (aq bG ak) a7 c8 al h1 e (sA _ _))),show a.length+(i-a.length)=i from EY (BG (B4 ..) h1)]at this;exact this
noncomputable abbrev dP(xs:List O):Prop:=xs.Pairwise λa b=>bW a b=u
variable{a b:O}
theorem tM:bW a b=u->bW b a=u->False:=λh1 h2=>by replace h2:=(js h1).symm.trans h2;cases h2
theorem uW{c:O}(h1:bW a b=u)(h2:bW c b=BQ):bW a c=u:=by
 by_cases e:b=c
 .subst e;exact h1
 .rcases iW e with h|h
  .exact jH h1 h
  .replace h2:=h.symm.trans h2;cases h2
variable{xs:List O}
theorem dP.low(h:dP xs)(x:O):xs.Pairwise λa b=>bW b x=u->bW a x=u:=h.imp λh1 h2=>jH h1 h2
set_option tactic.hygienic true in
theorem dP.Qz(h:dP xs)(x:O):xs.Pairwise λa b=>(!bW x b)=u->(!bW x a)=u:=h.imp λh1 h2=>by
 rename_i a b
 cases e:bW x a with
 |false=>rfl
 |true=>rw[jH e h1]at h2;cases h2
theorem dP.OZ(h:dP xs):xs.Nodup:=h.imp λh e=>by subst e;rw[kp]at h;cases h
variable{ys:List O}
theorem dP.eq(h1:dP xs)(h2:dP ys)(p:xs.Perm ys):xs=ys:=p.eq_of_pairwise (λa b c c d e=>(tM d e).elim) h1 h2
theorem dP.Qh(h:dP xs)(q:O->Bool):dP (xs.filter q):=h.sublist Di
theorem oM(q:aO->Bool)(xs:List aO):(xs.filter q++xs.filter λy=>!q y).Perm xs:=List.filter_append_perm q xs
variable{q:O->Bool}
theorem dP.Rc(h:dP xs){x:O}(g:x∉xs)(b:∀y∈xs,q y=bW y x):dP (xs.filter q++x::xs.filter λy=>!q y)/\(xs.filter q++x::xs.filter λy=>!q y).Perm (x::xs):=by
 refine⟨DC.mpr ⟨h.Qh q,Dz.mpr ⟨λy c=>?_,h.Qh _⟩,λy c z d=>?_⟩,?_⟩
 .obtain⟨h1,h2⟩:=B8.mp c;rw[b y h1]at h2;rcases iW (λe:x=y=>g (e▸h1))with a|a
  .exact a
  .rw[a]at h2;cases h2
 .obtain⟨h1,h2⟩:=B8.mp c;replace h2:=(b y h1).symm.trans h2;rcases BX.mp d with rfl|d
  .exact h2
  .obtain⟨a,f⟩:=B8.mp d;rw[b z a]at f;exact uW h2 (by simpa using f)
 .exact HD.trans ((oM q xs).cons x)
theorem q3{a b:List O}(hi:i<b.length):(a++b)[a.length+i]?=H b[i]:=by
 exact BK (Ed (B4 ..)) (U (Nat.add_sub_cancel_left ..) ((BU hi)))
theorem ti{a b:List O}(hi:i<a.length):(a++b)[i]?=H a[i]:=by
 exact BK (F5 hi) ((BU hi))
section
variable{a b:List O}(an:dP a)(ac:dP b)(x:O)
include an in
theorem sk:j9 (a++b) x 0 a.length=(a.filter λy=>bW y x).length:=by
 have:=mc (a:=[]) (c:=b) (p:=pL (a++b) x) (f:=(a++b).length) (λi hi=>by
  refine U (Ek ..) ?_;unfold pL;exact U (ti hi) R) (an.low x) (dH BV (B4 ..))
 simpa[j9]using this
include an in
theorem uS:kG (a++b) x 0 a.length=(a.filter λy=>!bW x y).length:=by
 have:=mc (a:=[]) (c:=b) (p:=pR (a++b) x) (f:=(a++b).length) (λi hi=>by
  refine U (Ek ..) ?_;unfold pR;exact U (ti hi) R) (an.Qz x) (dH BV (B4 ..))
 simpa[kG]using this
include ac in
theorem wP:j9 (a++b) x a.length (a++b).length=a.length+(b.filter λy=>bW y x).length:=by
 unfold j9;refine U BV<|mc (c:=[]) (λi hi=>by unfold pL;exact U (q3 hi) R) (ac.low x) (by(simp <;> lia))
include ac in
theorem rl:kG (a++b) x a.length (a++b).length=a.length+(b.filter λy=>!bW x y).length:=by
 unfold kG;refine U BV<|mc (c:=[]) (λi hi=>by unfold pR;exact U (q3 hi) R) (ac.Qz x) (h0 [_,_] ak (aq af ak) al)
theorem u3(q:O->Bool)(xs:List O):(xs.filter q).length+(xs.filter λy=>!q y).length=xs.length:=by
 exact hn BV (((oM q xs).length_eq))
include an ac in
theorem yG:el (a++b) a.length x=(((a.filter λy=>bW y x).length+(b.filter λy=>bW x y).length:Nat):Int):=by
 unfold el;rw[sk an,rl ac,BV];have:=u3 (λy=>bW x y) b;lia
theorem s8{k:Nat}(h:(a.take k,a.drop k)=(a.filter q,a.filter λy=>!q y))(c:k<=a.length):d5 (a++b) k x=(a.filter q++x::a.filter λy=>!q y)++b:=by
 obtain⟨h1,h2⟩:=Kx h;unfold d5;exact U (Et c) (U (FA c) (U h1 (U h2 (bP (Cu ..) (U J9 R)))))
theorem qH{k:Nat}(h:(b.take k,b.drop k)=(b.filter q,b.filter λy=>!q y)):d5 (a++b) (a.length+k) x=a++(b.filter q++x::b.filter λy=>!q y):=by
 obtain⟨h1,h2⟩:=Kx h;unfold d5;exact U (FM ..) (U (List.drop_length_add_append ..) (U h1 (U h2 ((Cu ..)))))
end
structure gz(jT:List O)(fQ:Nat)(A B:List O):Prop where
 Qq:∃a b,jT=a++b/\a.length=fQ/\dP a/\dP b/\a.Perm A/\b.Perm B
noncomputable def eM(xs:List O)(x:O):Nat:=(xs.filter λy=>bW y x).length
noncomputable def ea(xs:List O)(x:O):Nat:=(xs.filter λy=>bW x y).length
section
variable{jT:List O}{fQ:Nat}{A B:List O}(h:gz jT fQ A B)(x:O)
include h
theorem gz.PM:el jT fQ x=((eM A x+ea B x:Nat):Int):=by
 obtain⟨a,b,rfl,rfl,c⟩:=h.Qq;refine A4 c λh1 h2 d e=>?_;clear c;rw[yG h1 h2,eM,ea,(d.filter _).length_eq,(e.filter _).length_eq]
variable{x}
theorem gz.low(f:x∉A):gz (jw jT x 0 fQ) (fQ+1) (A++[x]) B:=by
 obtain⟨a,b,rfl,rfl,c⟩:=h.Qq;refine A4 c λh1 h2 d g=>?_;clear c;have i:=λe=>f (d.mem_iff.mp e);obtain⟨s,t⟩:=h1.Rc i λj j=>R;obtain⟨cx,di⟩:=kZ (h1.low x);refine⟨_,b,?_,?_,s,h2,t.trans ((d.cons x).trans (EM x A).symm),g⟩
 .unfold jw;rw[sk h1];exact s8 x (U cx (U di R)) (CI _ _)
 .exact t.length_eq
theorem gz.TW(g:x∉A):gz (kv jT x 0 fQ) (fQ+1) (A++[x]) B:=by
 obtain⟨a,b,rfl,rfl,c⟩:=h.Qq;refine A4 c λh1 h2 d i=>?_;clear c;have f:x∉a:=λe=>g (d.mem_iff.mp e)
 obtain⟨s,t⟩:=h1.Rc f (q:=λy=>!bW x y) λy j=>by
  rcases iW (λe:x=y=>f (e▸j))with h|h
  .exact U h (bP (js h) R)
  .exact bP h (U (js h) R)
 obtain⟨cx,di⟩:=kZ (h1.Qz x);refine⟨_,b,?_,?_,s,h2,t.trans ((d.cons x).trans (EM x A).symm),i⟩
 .unfold kv;rw[uS h1];exact s8 x (U cx (U di R)) (CI _ _)
 .exact t.length_eq
theorem gz.Qz(f:x∉B):gz (jy jT x fQ) fQ A (B++[x]):=by
 obtain⟨a,b,rfl,rfl,c⟩:=h.Qq;refine A4 c λh1 h2 g d=>?_;clear c;have i:=λe=>f (d.mem_iff.mp e);obtain⟨s,t⟩:=h2.Rc i λj j=>R;obtain⟨cx,di⟩:=kZ (h2.low x);refine⟨a,_,?_,R,h1,s,g,t.trans ((d.cons x).trans (EM x B).symm)⟩;unfold jy;rw[wP h2];exact qH x (U cx (U di R))
theorem gz.Tn(g:x∉B):gz (jC jT x fQ) fQ A (B++[x]):=by
 obtain⟨a,b,rfl,rfl,c⟩:=h.Qq;refine A4 c λh1 h2 i d=>?_;clear c;have f:x∉b:=λe=>g (d.mem_iff.mp e)
 obtain⟨s,t⟩:=h2.Rc f (q:=λy=>!bW x y) λy j=>by
  rcases iW (λe:x=y=>f (e▸j))with h|h
  .exact U h (bP (js h) R)
  .exact bP h (U (js h) R)
 obtain⟨cx,di⟩:=kZ (h2.Qz x);refine⟨a,_,?_,R,h1,s,i,t.trans ((d.cons x).trans (EM x B).symm)⟩;unfold jC;rw[rl h2];exact qH x (U cx (U di R))
end
theorem gz.a6:gz [] 0 [] []:=⟨[],[],R,R,.nil,.nil,.nil,.nil⟩
variable{x y:T4}
theorem od(h:x.2.1≠y.2.1):d6 x y=dL (x.1,x.2.1) (y.1,y.2.1):=by
 unfold d6 dL
 by_cases e:x.1=y.1
 .simp[e,h]
 .simp[e]
theorem q5{x y r s d:Int}:dL (x+d,r) (y+d,s)=dL (x,r) (y,s):=by
 unfold dL
 by_cases e:x=y
 .simp[e]
 .have:x+d≠y+d:=by lia
  simp[e,this]
theorem ue{x y:Int×Int}(h1:dL x y=u)(h2:dL y x=u):False:=by
 have:=k8 h1 h2;rw[kP]at this;cases this
noncomputable abbrev aD.OC(p:aD)(w:O):T4:=(p.Ol w,p.OK w,"(",w)
noncomputable abbrev aD.ON(p:aD)(w:O):T4:=(p.Ol w+(p.OE:Nat),p.OK w,")",w)
noncomputable def hT(t:T4):Bool:=t.2.2.1==("(":O)
theorem iY(p:aD)(w:O):hT (p.OC w)=u:=by refine(?_:(("(":O)==("(":O))=u);decide+kernel
theorem ix(p:aD)(w:O):hT (p.ON w)=BQ:=by refine(?_:((")":O)==("(":O))=BQ);decide+kernel
noncomputable def es(aZ:List T4):List O:=(aZ.filter λt=>!hT t).map (·.2.2.2)
theorem lF(aZ:List T4):cd aZ=(aZ.filter hT).map (·.2.2.2):=R
theorem kb(xs ys:List T4):cd (xs++ys)=cd xs++cd ys:=BK (lF ..) (U (Ec ..) (Cb))
theorem mf(xs ys:List T4):es (xs++ys)=es xs++es ys:=by unfold es;exact U (Ec ..) (Cb)
section
variable{p:aD}(ai:p.Ok)
omit ai in
theorem aD.Rs(p:aD):1<=p.OE:=B4 _ _
omit ai in
theorem aD.T3(p:aD):p.O2=1\/p.O2=-1:=by unfold aD.O2;split <;> simp
omit ai in
theorem nh(an:a∈p.aG)(ac:b∈p.aG)(h:p.OK a=p.OK b):a=b:=by
 have h1:=JA (H5 (aD.O6.mpr an));have h2:=JA (H5 (aD.O6.mpr ac))
 have c:p.Od.idxOf a=p.Od.idxOf b:=by
  unfold aD.OK at h;rcases p.T3 with e|e <;> rw[e]at h <;> lia
 refine hn h1 (br h2 ?_)
 congr 1
omit ai in
theorem mm(p:aD):dP p.aG:=by
 have:dP gH:=by
  have h:gH.Pairwise (λa b=>decide (a.cps.toList<b.cps.toList)=u):=by decide+kernel
  exact h
 exact(this.sublist (Hr _ _)).sublist (EH _ _)
structure eZ(p:aD)(aZ:List T4):Prop where
 Py:aZ.Perm (p.Pc++p.Pb)
 Rb:aZ.Pairwise λx y=>d6 x y=u
omit ai in
section
variable{aZ:List T4}(bD:eZ p aZ)
include bD
theorem eZ.Oy{t:T4}:t∈aZ↔∃w∈p.aG,t=p.OC w\/t=p.ON w:=by
 rw[bD.Py.mem_iff,CA];unfold aD.Pc aD.Pb;rw[B7,B7];constructor
 .rintro(⟨w,h,rfl⟩|⟨w,h,rfl⟩)
  .exact⟨w,h,.inl R⟩
  .exact⟨w,h,.inr R⟩
 .rintro⟨w,h,rfl|rfl⟩
  .exact .inl ⟨w,h,R⟩
  .exact .inr ⟨w,h,R⟩
theorem eZ.OP:(cd aZ).Perm p.aG:=by
 have h1:=(bD.Py.filter hT).map (·.2.2.2);rw[Ec]at h1;have h2:p.Pc.filter hT=p.Pc:=ET.mpr λt ao=>by obtain⟨w,_,rfl⟩:=B7.mp ao;exact iY p w
 have a:p.Pb.filter hT=[]:=DL.mpr λt ao=>by obtain⟨w,_,rfl⟩:=B7.mp ao;refine U (ix p w) ?_;decide
 rw[h2,a,CE]at h1;have b:p.Pc.map (λt:T4=>t.2.2.2)=p.aG:=by unfold aD.Pc;exact BK CJ (HI _)
 rw[b]at h1;exact h1
theorem eZ.T7:(es aZ).Perm p.aG:=by
 have h1:=(bD.Py.filter λt=>!hT t).map (·.2.2.2);rw[Ec]at h1;have h2:(p.Pc.filter λt=>!hT t)=[]:=DL.mpr λt ao=>by obtain⟨w,_,rfl⟩:=B7.mp ao;refine U (iY p w) ?_;decide
 have a:(p.Pb.filter λt=>!hT t)=p.Pb:=ET.mpr λt ao=>by obtain⟨w,_,rfl⟩:=B7.mp ao;exact U (ix p w) R
 rw[h2,a,ED]at h1;have b:p.Pb.map (λt:T4=>t.2.2.2)=p.aG:=by unfold aD.Pb;exact BK CJ (HI _)
 rw[b]at h1;exact h1
theorem eZ.OZ:(cd aZ).Nodup:=bD.OP.nodup_iff.mpr aD.O4
theorem eZ.Ro:(cd aZ).Pairwise λa b=>dL (p.Os a) (p.Os b)=u:=by
 rw[lF,F7];refine(bD.Rb.sublist Di).imp_of_mem λ{x y}c d h=>?_;obtain⟨c,f⟩:=B8.mp c;obtain⟨d,g⟩:=B8.mp d;obtain⟨a,an,rfl|rfl⟩:=bD.Oy.mp c
 .obtain⟨b,ac,rfl|rfl⟩:=bD.Oy.mp d
  .by_cases e:a=b
   .subst e;rw[mb]at h;cases h
   .replace h:=(od (λq=>e (nh an ac q))).symm.trans h;exact h
  .rw[ix]at g;cases g
 .rw[ix]at f;cases f
theorem eZ.Ue:(es aZ).Pairwise λa b=>dL (p.Os a) (p.Os b)=u:=by
 unfold es;rw[F7];refine(bD.Rb.sublist Di).imp_of_mem λ{x y}c d h=>?_;obtain⟨c,f⟩:=B8.mp c;obtain⟨d,g⟩:=B8.mp d;obtain⟨a,an,rfl|rfl⟩:=bD.Oy.mp c
 .rw[iY]at f;cases f
 .obtain⟨b,ac,rfl|rfl⟩:=bD.Oy.mp d
  .rw[iY]at g;cases g
  .by_cases e:a=b
   .subst e;rw[mb]at h;cases h
   .replace h:=(od (λq=>e (nh an ac q))).symm.trans h;exact q5.symm.trans h
theorem eZ.QM:es aZ=cd aZ:=(bD.T7.trans bD.OP.symm).eq_of_pairwise (λa b c c h1 h2=>(ue h1 h2).elim) bD.Ue bD.Ro
end
end
theorem qT(h1:d6 x y=u)(h2:d6 y x=u):False:=by replace h2:=(sY h1).symm.trans h2;cases h2
noncomputable def fL(t:T4):Ev:=(t.1,!hT t,t.2.2.2)
noncomputable def gY(l:Bool)(x y:T4):Bool:=if l then decide (y.1<x.1)else !decide (x.1<y.1)
theorem vV{a b:T4}(h:d6 a b=u):a.1<=b.1:=by
 unfold d6 at h;split at h
 .lia
 .exact GG (of_decide_eq_true h)
noncomputable abbrev l4(r:List T4):Prop:=r.Pairwise λx y=>d6 x y=u
variable{r:List T4}{l:Bool}
theorem rD(h:l4 r):r.Pairwise λa b=>gY l x b=u->gY l x a=u:=h.imp λ{a b}h1 h2=>by
 have:=vV h1;unfold gY at h2⊢;cases l <;> simp at h2⊢<;> lia
theorem tN(h:l4 r):hZ l (r.map fL) (fL x)=(r.filter (gY l x)++x::r.filter λy=>!gY l x y).map fL:=by
 obtain⟨cx,di⟩:=kZ (rD (l:=l) (x:=x) h)
 have ac:=mc (a:=[]) (c:=[]) (q:=gY l x) (p:=if l then ma (r.map fL) x.1 else l5 (r.map fL) x.1) (λi hi=>by
  refine U (Ek ..) ?_;unfold ma l5 gY;cases l <;> simp[BU hi,fL]) (rD h) (BJ _)
 unfold hZ;refine U (BH ..) ?_;have ac:=(by simpa using ac:dg (if l then ma (r.map fL) x.1 else l5 (r.map fL) x.1) r.length 0 r.length=_);refine U ac (BK (kh ..) ?_);unfold d5;exact U cx (U di R)
theorem rR(h:y.1=x.1->if l=u then x.2.1<y.2.1 else y.2.1<x.2.1):if gY l x y=u then d6 y x=u else d6 x y=u:=by
 unfold gY d6;rcases Int.lt_trichotomy y.1 x.1 with g|g|g
 .have h1:¬x.1<y.1:=DM.mpr (GG g);have h2:y.1≠x.1:=Hw g;cases l <;> simp[g,h1,h2]
 .have h:=h g;cases l
  .have h:y.2.1<x.2.1:=by simpa using h
   have h2:y.2.1≠x.2.1:=Hw h;simp[g,h,h2]
  .have h:x.2.1<y.2.1:=by simpa using h
   have h2:x.2.1≠y.2.1:=Hw h;simp[g,h,h2]
 .have h1:¬y.1<x.1:=DM.mpr (GG g);have h2:x.1≠y.1:=Hw g;cases l <;> simp[g,h1,h2]
theorem sZ(h:l4 r)(h1:∀y∈r,y.1=x.1->if l=u then x.2.1<y.2.1 else y.2.1<x.2.1):l4 (r.filter (gY l x)++x::r.filter λy=>!gY l x y)/\(r.filter (gY l x)++x::r.filter λy=>!gY l x y).Perm (x::r):=by
 have lo:=λy c=>by
  obtain⟨a,b⟩:=B8.mp c;have:=rR (h1 y a);rwa [if_pos b]at this
 have hi:∀y∈r.filter λy=>!gY l x y,d6 x y=u:=λy c=>by
  obtain⟨a,b⟩:=B8.mp c;have:=rR (h1 y a);rwa [if_neg (by simpa using b)]at this
 refine⟨DC.mpr ⟨h.sublist Di,Dz.mpr ⟨hi,h.sublist Di⟩,λy c z d=>?_⟩,HD.trans ((oM _ r).cons x)⟩;rcases BX.mp d with rfl|d
 .exact lo y c
 .exact oN (lo y c) (hi z d)
structure wA(p:aD)(k:Nat)(r:List T4):Prop where
 Qq:gD p k=r.map fL
 Rb:l4 r
 Py:r.Perm ((p.Od.take k).flatMap λw=>[p.OC w,p.ON w])
theorem nV(p:aD)(w:O):fL (p.OC w)=(p.Ol w,BQ,w):=by unfold fL;exact U (iY ..) R
theorem n8(p:aD)(w:O):fL (p.ON w)=(p.Ol w+(p.OE:Nat),u,w):=by unfold fL;exact U (ix ..) R
theorem zu(p:aD):∀k,k<=p.Od.length->∃r,wA p k r:=by
 intro k
 induction k with
 |zero=>
  intro _
  exact⟨[],R,.nil,.nil⟩
 |succ k t=>
  intro g;obtain⟨r,e,s,q⟩:=t (Cz ‹_›);have f:=BU g
  have h:∀j(d:j<p.Od.length),p.OK p.Od[j]=p.O2*(j:Int):=λj d=>by
   unfold aD.OK;exact U (p.Rr.idxOf_getElem j d) R
  have i:∀y∈r,∃j,j<k/\y.2.1=p.O2*(j:Int):=λy c=>by
   obtain⟨w,f,c⟩:=Go.mp (q.mem_iff.mp c);obtain⟨j,d,rfl⟩:=Dt.mp f;refine⟨j,aV [_,_,_] aC au au af aC af al d (Dq _ _),br (h j (aV [_,_,_] aC au au af aC af al d (Da _ _))) ?_⟩;replace c:=eU c;rcases c with rfl|rfl <;> rfl
  have m:∀{a b:Int}{j:Nat},j<k->a=p.O2*(j:Int)->b=p.O2*(k:Int)->if p.Oo=u then b<a else a<b:=λ{a b j}d an ac=>by
   subst an ac;unfold aD.O2;split <;> lia
  obtain⟨n,aT⟩:=sZ (x:=p.OC p.Od[k]) s λy c z=>by
   obtain⟨j,d,e⟩:=i y c;exact m d e (h k g)
  obtain⟨v,aX⟩:=sZ (l:=p.Oo) (x:=p.ON p.Od[k]) n λy c o=>by
   rcases BX.mp (aT.mem_iff.mp c)with rfl|c
   .have:=p.Rs;have o:=o;lia
   .obtain⟨j,d,e⟩:=i y c;exact m d e (h k g)
  refine⟨_,?_,v,?_⟩
  .exact BK (ov f) (U e (br (nV ..) (br (n8 ..) (U (tN s) ((tN n))))))
  .refine U CX (U f (U G4 (aX.trans ((aT.trans (q.cons _)).cons _|>.trans ?_))));refine MD ?_ Jc;exact .swap _ _ _
theorem wG{b9:Type}(f g:aO->b9):∀xs:List aO,(xs.flatMap λw=>[f w,g w]).Perm (xs.map f++xs.map g):=by
 intro xs
 induction xs with
 |nil=>
  exact .nil
 |cons x xs a=>
  refine U F8 (U CR (U CR ((((a).cons _).trans HD.symm).cons _)))
variable{p:aD}{aZ:List T4}
theorem eZ.R0(ai:p.Ok)(bD:eZ p aZ):gD p p.d=aZ.map fL:=by
 have aL:=aD.Pw ai;obtain⟨r,e,s,q⟩:=zu p p.d (dH aL (BJ _));rw[D8 (a3 aL (BJ _))]at q;have q:=q.trans (wG p.OC p.ON p.Od);have aX:=(q.trans ((p.PD.map _).append (p.PD.map _))).trans bD.Py.symm;exact BK e (U (aX.eq_of_pairwise (λa b c c d f=>(qT d f).elim) s bD.Rb) R)
theorem eZ.eA(bD:eZ p aZ):(aZ.map fL).map Tactic.eA=aZ.map j4:=by
 refine BK CJ<|List.map_congr_left λt ao=>?_
 obtain⟨w,_,rfl|rfl⟩:=bD.Oy.mp ao
 .exact(U (nV ..) R:Tactic.eA (fL (p.OC w))=_)
 .exact(U (n8 ..) R:Tactic.eA (fL (p.ON w))=_)
theorem pw:∀(xs:List O)(x:O),eM xs x+ea xs x+(xs.filter (·==x)).length=xs.length:=by
 intro xs
 induction xs with
 |nil=>
  intro _
  exact R
 |cons y xs a=>
  intro x;have a:=a x;unfold eM ea at a⊢;refine bP Cd (U CW (U CW (U CW ?_)))
  by_cases e:y=x
  .subst e;refine U (kp ..) (U (if_neg (by decide)) (U (if_neg (by decide)) (U (if_pos (by simp)) (U Cd ?_))));exact Cg (a0 [_,_,_,_] (aq (aq ak af) au) bG (aq (aq ak af) bV) fC al (eL a)) (a0 [_,_,_,_] ak (aq (aq af au) bG) aC (aq (aq af au) fC) al (eR a))
  .refine U (if_neg (by simpa using e) (c:=(y==x)=u)) ?_;rcases iW e with h|h
   .refine U h (U (js h) (U (if_pos R) (U (if_neg (by decide)) (U Cd ?_))));exact Cg (a0 [_,_,_,_] (aq (aq ak af) au) bG (aq (aq aC af) au) fC al (eL a)) (a0 [_,_,_,_] ak (aq (aq af au) bG) aC (aq (aq b1 au) bG) al (eR a))
   .refine U h (U (js h) (U (if_pos R) (U (if_neg (by decide)) (U Cd ?_))));exact Cg (a0 [_,_,_,_] (aq (aq ak af) au) bG (aq (aq ak b1) au) fC al (eL a)) (a0 [_,_,_,_] ak (aq (aq af au) bG) aC (aq (aq af bV) bG) al (eR a))
variable{x:O}
theorem yK(h:xs.Nodup)(a:x∈xs):eM xs x+ea xs x+1=xs.length:=by
 have:=pw xs x;rw[←H6,h.count,if_pos a]at this;exact this
theorem pU(a:x∉xs):eM xs x+ea xs x=xs.length:=by
 have:=pw xs x;rw[←H6,List.count_eq_zero.mpr a]at this;exact this
variable{r:O->Bool}
theorem s6(h:xs.Nodup)(b:∀x∈xs,q x=u->x∈ys/\r x=u):(xs.filter q).length<=(ys.filter r).length:=
 (h.sublist Di).length_le_of_subset λx a=>B8.mpr (b x (B8.mp a).1 (B8.mp a).2)
variable{w:O}
theorem r4(h:xs.Nodup)(b:∀x∈xs,q x=u->x∈ys/\r x=u)(c:w∈ys)(d:r w=u)(e:¬(w∈xs/\q w=u)):(xs.filter q).length<(ys.filter r).length:=by
 have:(w::xs.filter q).Nodup:=FC.mpr ⟨λh=>e (B8.mp h),h.sublist Di⟩
 exact this.length_le_of_subset λx a=>by
  rcases BX.mp a with rfl|a
  .exact B8.mpr ⟨c,d⟩
  .exact B8.mpr (b x (B8.mp a).1 (B8.mp a).2)
theorem lW(h:xs.Nodup)(ay:ys.Nodup)(a:∀x,(x∈xs/\q x=u)↔(x∈ys/\r x=u)):(xs.filter q).Perm (ys.filter r):=
 (Ip (h.sublist Di) (ay.sublist Di)).mpr λx=>by
  rw[B8,B8];exact a x
section
variable{p:aD}{aZ:List T4}(bD:eZ p aZ)
theorem s7{xs:List T4}(h:∀t∈xs,∃w∈p.aG,t=p.OC w\/t=p.ON w):w∈cd xs↔p.OC w∈xs:=by
 rw[lF,B7];constructor
 .rintro⟨t,ao,rfl⟩;obtain⟨h1,h2⟩:=B8.mp ao;obtain⟨w,_,rfl|rfl⟩:=h t h1
  .exact h1
  .rw[ix]at h2;cases h2
 .exactλao=>⟨_,B8.mpr ⟨ao,iY p w⟩,R⟩
theorem yW{xs:List T4}(h:∀t∈xs,∃w∈p.aG,t=p.OC w\/t=p.ON w):w∈es xs↔p.ON w∈xs:=by
 unfold es;rw[B7];constructor
 .rintro⟨t,ao,rfl⟩;obtain⟨h1,h2⟩:=B8.mp ao;obtain⟨w,_,rfl|rfl⟩:=h t h1
  .rw[iY]at h2;cases h2
  .exact h1
 .exactλao=>⟨_,B8.mpr ⟨ao,U (ix ..) R⟩,R⟩
include bD
theorem eZ.Qu{a b:List T4}{t:T4}(e:aZ=a++t::b){x:T4}(c:x∈aZ):x∈a↔d6 x t=u:=by
 have s:=bD.Rb;rw[e]at s c;refine A3 (DC.mp s) λg d f=>?_;refine⟨λh=>f x h t (.head _),λh=>?_⟩;rcases CA.mp c with c|c
 .exact c
 .rcases BX.mp c with rfl|c
  .rw[mb]at h;cases h
  .exact(qT h ((Dz.mp d).1 x c)).elim
theorem eZ.R9{a b:List T4}(e:aZ=a++b):∀t∈a,∃w∈p.aG,t=p.OC w\/t=p.ON w:=λt ao=>bD.Oy.mp (U e (Ci _ ao))
theorem eZ.R1{a b:List T4}(g:w∈p.aG)(e:aZ=a++p.OC w::b):x∈cd a↔x∈p.aG/\dL (p.Os x) (p.Os w)=u:=by
 rw[s7 (bD.R9 e)]
 have d:x∈p.aG->d6 (p.OC x) (p.OC w)=dL (p.Os x) (p.Os w):=λc=>by
  by_cases q:x=w
  .subst q;exact BK (mb ..) (bP (kP ..) R)
  .exact od λh=>q (nh c g h)
 constructor
 .intro h;have f:p.OC x∈aZ:=U e (Ci _ h);obtain⟨v,hv,h1|h1⟩:=bD.Oy.mp f
  .have:x=v:=congrArg (λt:T4=>t.2.2.2) h1;subst this;exact⟨hv,d hv▸(bD.Qu e f).mp h⟩
  .have:x=v:=congrArg (λt:T4=>t.2.2.2) h1;subst this;exact⟨hv,d hv▸(bD.Qu e f).mp h⟩
 .rintro⟨c,h⟩;exact(bD.Qu e (bD.Oy.mpr ⟨x,c,.inl R⟩)).mpr (BK (d c) h)
theorem eZ.Tr{a b:List T4}(g:w∈p.aG)(e:aZ=a++p.OC w::b):x∈es a↔x∈p.aG/\dL (p.OT x) (p.Os w)=u:=by
 rw[yW (bD.R9 e)]
 have d:x∈p.aG->d6 (p.ON x) (p.OC w)=dL (p.OT x) (p.Os w):=λc=>by
  by_cases q:x=w
  .subst q;have:=p.Rs;unfold d6 dL aD.OT aD.Os;have h1:¬p.Ol x+(p.OE:Int)=p.Ol x:=by lia
   simp[h1]
  .exact od λh=>q (nh c g h)
 constructor
 .intro h;have f:p.ON x∈aZ:=U e (Ci _ h);obtain⟨v,hv,h1|h1⟩:=bD.Oy.mp f
  .have:x=v:=congrArg (λt:T4=>t.2.2.2) h1;subst this;exact⟨hv,d hv▸(bD.Qu e f).mp h⟩
  .have:x=v:=congrArg (λt:T4=>t.2.2.2) h1;subst this;exact⟨hv,d hv▸(bD.Qu e f).mp h⟩
 .rintro⟨c,h⟩;exact(bD.Qu e (bD.Oy.mpr ⟨x,c,.inr R⟩)).mpr (BK (d c) h)
theorem eZ.Sv{a b:List T4}(e:aZ=a++b):(cd a).Nodup/\(es a).Nodup:=by
 have h1:=bD.OZ;have h2:=bD.QM▸bD.OZ;rw[e]at h1 h2;rw[kb]at h1;rw[mf]at h2;exact⟨(Fd.mp h1).1,(Fd.mp h2).1⟩
theorem eZ.PM{a b:List T4}(f:w∈p.aG)(e:aZ=a++p.OC w::b):eM (cd a) w+ea (es a) w=p.dV w:=by
 obtain⟨g,h⟩:=bD.Sv e
 have h1:eM (cd a) w=(p.Pv w).length:=(lW g aD.O4 λx=>by
  rw[bD.R1 f e,Cv];exact⟨λd=>by obtain⟨⟨a,b⟩,c⟩:=d;exact⟨a,c,b⟩,λd=>by obtain⟨a,c,b⟩:=d;exact⟨⟨a,b⟩,c⟩⟩).length_eq
 have h2:ea (es a) w=(p.OJ w).length:=(lW h aD.O4 λx=>by
  rw[bD.Tr f e,Cv];exact⟨λd=>by obtain⟨⟨a,b⟩,c⟩:=d;exact⟨a,c,b⟩,λd=>by obtain⟨a,c,b⟩:=d;exact⟨⟨a,b⟩,c⟩⟩).length_eq
 rw[h1,h2,aD.dV,D1]
structure FI(p:aD)(a:List T4)(S:FS):Prop where
 bo:gz S.bo S.bp (cd a) (es a)
 bO:S.bO=es a
 a5:cd a=es a++S.a5
 fl:S.fl=eV p (cd a)
theorem eZ.TZ(ai:p.Ok){a b:List T4}(d:w∈p.aG)(e:aZ=a++p.OC w::b){q:List O}(f:cd a=es a++q):p.dV w<=(cd a).length/\(cd a).length<p.d:=by
 have g:w∉cd a:=λh=>by
  obtain⟨_,h⟩:=(bD.R1 d e).mp h;rw[kP]at h;cases h
 have h1:=pU g;have h2:=bD.PM d e
 have i:ea (es a) w<=ea (cd a) w:=by
  refine U f ?_;unfold ea;exact U (Ec ..) (dH BV (B4 _ _))
 refine⟨cI [_,_,_,_,_] (aq au bG) af ak (aq au f7) f7 bG ak af al (eL h1) (eR h2) i,?_⟩;have c:=bD.OP.length_eq;rw[e,kb,BV,p.Ox ai]at c
 have j:cd (p.OC w::b)=w::cd b:=by
  exact BK (lF ..) (U CW (U (iY ..) (U (if_pos R) (CR))))
 rw[j,Cd]at c;exact a0 [_,_,_] (aq ak bV) af aC af al (eL c)
theorem eZ.Tz(ai:p.Ok):∀(n:Nat)(a b:List T4),a.length=n->aZ=a++b->FI p a (dR p.OF (aZ.map fL) a.length):=by
 intro n
 induction n with
 |zero=>
  intro a b d e;cases Eu d
  exact⟨gz.a6,R,R,R⟩
 |succ n m=>
  intro a b d e
  obtain⟨a,t,rfl⟩:∃hy t,a=hy++[t]:=by
   rcases List.eq_nil_or_concat a with rfl|⟨hy,t,h⟩
   .cases d
   .exact⟨hy,t,by simpa using h⟩
  have e:aZ=a++t::b:=BK e ((Cu ..));have I:=m a _ (by simpa using d) e;have o:(aZ.map fL)[a.length]?=H (fL t):=U e (U Cb (BK (Ed (by simp)) (U (BH ..) (U (Fj ..) R))));refine U BV (U Dx (U (nw o) ?_));obtain⟨w,k,rfl|rfl⟩:=bD.Oy.mp (show t∈aZ by exact U e (Ce _ (.head _)))
  .have f:cd (a++[p.OC w])=cd a++[w]:=by
    refine BK (kb ..) ?_;congr 1
   have c:es (a++[p.OC w])=es a:=by
    refine BK (mf ..) ?_;unfold es;exact U CW (U (iY ..) (U (if_neg (by decide)) (CE _)))
   have g:w∉cd a:=λh=>by
    obtain⟨_,h⟩:=(bD.R1 k e).mp h;rw[kP]at h;cases h
   refine U (nV ..)<|⟨?_,?_,?_,?_⟩
   .exact U f (U c (I.bo.low g))
   .exact bP c I.bO
   .exact BK f (U c (U I.a5 ((Cu ..))))
   .rw[f,eV,Cb];refine(?_:_++[(dB (p.OF.contains w) (el _ _ w).toNat,w)]=_);exact U I.fl (U (I.bo.PM ..) (U (bD.PM k e) R))
  .have f:cd (a++[p.ON w])=cd a:=by
    exact BK (kb ..) (U (lF [_]) (U CW (U (ix ..) (U (if_neg (by decide)) (CE _)))))
   have c:es (a++[p.ON w])=es a++[w]:=by
    refine BK (mf ..) ?_;congr 1
   have d:=(bD.Sv (show aZ=(a++[p.ON w])++b by exact BK e (bP (Cu ..) R))).2;rw[c]at d;have g:=λh=>(Fd.mp d).2.2 w h w (.head _) R
   have l:=(s7 (bD.R9 e)).mpr ((bD.Qu e (bD.Oy.mpr ⟨w,k,.inl R⟩)).mpr (by
    have:=p.Rs;unfold d6;have h1:¬p.Ol w=p.Ol w+(p.OE:Int):=by lia
    simp[h1];lia))
   have i:=bD.QM;rw[e,kb,mf,I.a5,Cu,List.append_cancel_left_eq]at i
   have q:es (p.ON w::b)=w::es b:=by
    unfold es;exact U CW (U (ix ..) (U (if_pos (by decide)) (CR)))
   rw[q]at i;rw[I.a5]at l
   cases j:(dR p.OF (aZ.map fL) a.length).a5 with
   |nil=>rw[j,CE]at l;exact(g l).elim
   |cons x r=>
    rw[j]at i;obtain⟨rfl,_⟩:=GL i;refine U (n8 ..) ?_;unfold gS;refine U (if_pos R) (U j (⟨?_,?_,?_,?_⟩))
    .exact U f (U c (I.bo.Tn g))
    .exact bP c (br I.bO R)
    .exact BK f (U c (BK I.a5 (U j (bP (Cu ..) R))))
    .exact U f I.fl
end
structure BI(N:List O)(s:BS)(A:List O)(e:Nat):Prop where
 bo:gz s.bo s.bp A (A.take e)
 bp:s.bp=A.length
 bO:s.bO=A.take e
 a5:s.a5=A.drop e
 b5:s.b5=N.filter λw=>!A.contains w
 le:e<=A.length
 E:A.Nodup
 N8:∀w∈A,w∈N
 cg:s.cg.map (·.1)=A
theorem Br(h:xs.Nodup)(a:w∈xs):xs.eraseIdx ((xs.findIdx? (·==w)).getD 0)=xs.filter (·!=w):=by
 refine br (h.erase_eq_filter ..) (U (List.erase_eq_eraseIdx ..) ?_);unfold List.idxOf?;obtain⟨j,b,_⟩:=l0 a;exact U b R
variable{s:BS}{av:List (O×O)}
theorem uT(h:(dY av s).getLast?=H w):ec av s=⟨s.b5.eraseIdx ((s.b5.findIdx? (·==w)).getD 0),kv s.bo w 0 s.bp,s.bp+1,s.cg++[(w,(s.bo.drop s.bp).filter λa=>bW w a)],s.bO,s.a5++[w]⟩:=by unfold ec;exact U h R
theorem yQ{a:List O}(h:dY av s=[])(b:s.bO.length<s.bp)(ai:s.a5=x::a):ec av s=⟨s.b5,jy s.bo x s.bp,s.bp,s.cg,s.bO++[x],a⟩:=by
 unfold ec;refine U h ?_;show(if _ then _ else _)=_;exact BK (if_pos b) (U ai R)
theorem AL(h:dY av s=[])(a:¬s.bO.length<s.bp):ec av s=s:=by
 unfold ec;refine U h ?_;show(if _ then _ else _)=_;exact(if_neg a)
section
variable{N:List O}{s:BS}{A:List O}{e:Nat}{av:List (O×O)}(I:BI N s A e)
include I
theorem BI.OD(a:w∈s.b5):w∈N/\w∉A:=by
 rw[I.b5]at a;obtain⟨h1,h2⟩:=B8.mp a;exact⟨h1,by simpa using h2⟩
theorem BI.Tc:s.bO.length=e:=U I.bO (BK CM (FJ I.le))
theorem BI.RT(i:dP N)(d:(dY av s).getLast?=H w):∃m,dP m/\m.Perm ((A.take e).filter (bW w))/\(ec av s).cg=s.cg++[(w,m)]/\BI N (ec av s) (A++[w]) e:=by
 obtain⟨j,f⟩:=I.OD (nd d);obtain⟨a,b,g⟩:=I.bo.Qq;refine A6 g λk l r n t o=>?_;clear g;have p:s.bo.drop s.bp=b:=U k (br l (List.drop_left));refine U (uT d) (U p ?_);have ao:(A++[w]).take e=A.take e:=Et I.le;refine⟨_,n.Qh _,o.filter _,R,?_,?_,?_,?_,?_,?_,?_,?_,?_⟩
 .exact U ao (I.bo.TW f)
 .show s.bp+1=_;rw[I.bp,BV];rfl
 .exact bP ao I.bO
 .show s.a5++[w]=_;rw[I.a5,FA I.le]
 .refine(?_:s.b5.eraseIdx _=_);refine BK (Br (by exact U I.b5 ((i.Qh _).OZ)) (nd d)) (U I.b5 (BK List.filter_filter (Fe λx v=>?_)));rw[GI];simp[and_comm]
 .exact dH BV (BG I.le (B4 _ _))
 .refine Fd.mpr ⟨I.E,Gs _ _,λx c y q=>U (BO.mp q) (λh=>f (h▸c))⟩
 .intro x c;rcases CA.mp c with c|c
  .exact I.N8 x c
  .exact U (BO.mp c) j
 .show(s.cg++_).map _=_;rw[Cb,I.cg];rfl
theorem BI.QJ(ac:dY av s=[])(a:e<A.length):(ec av s).cg=s.cg/\BI N (ec av s) A (e+1):=by
 have ai:s.a5=A[e]::A.drop (e+1):=BK I.a5 ((DS a));have ao:A.take (e+1)=A.take e++[A[e]]:=BK CX (U (BU a) R)
 have c:A[e]∉A.take e:=λh=>by
  obtain⟨j,b,q⟩:=Dt.mp h;have:=Ds.mp I.E j e (aV [_,_,_] aC au au af aC af al b (Da _ _)) a (aV [_,_,_] aC au au af aC af al b (Dq _ _));exact this q
 refine U (yQ ac (oo I.Tc (dk I.bp a)) ai)<|⟨R,?_,I.bp,?_,R,I.b5,a,I.E,I.N8,I.cg⟩
 .exact U ao (I.bo.Qz c)
 .show s.bO++_=_;rw[ao,I.bO]
theorem BI.Sz(ac:dY av s=[])(a:¬e<A.length):ec av s=s:=AL ac (U I.Tc (U I.bp a))
theorem BI.Oa(h:w∈N)(b:w∉A):A.length<N.length:=
 (FC.mpr ⟨b,I.E⟩:(w::A).Nodup).length_le_of_subset λx a=>by
  rcases BX.mp a with rfl|a
  .exact h
  .exact I.N8 x a
theorem BI.dV(a:N.length<=5)(b:w∈s.b5):eM A w+ea (A.take e) w<5:=by
 obtain⟨h1,h2⟩:=I.OD b;have:=I.Oa h1 h2;have:=pU h2;have:ea (A.take e) w<=ea A w:=((EH e A).filter _).length_le;exact CP (C8 this _) (CP (CL (by assumption:eM A w+ea A w=A.length)) (BL (by assumption:A.length<N.length) a))
end
theorem BI.RO(N:List O):BI N ⟨N,[],0,[],[],[]⟩ [] 0:=⟨gz.a6,R,R,R,(ET.mpr λa a=>R).symm,BJ _,.nil,(λa h=>nomatch h),R⟩
variable{N:List O}
theorem As(d:dP N)(av:List (O×O)):∀k,∃A e,BI N (cv av N k) A e:=by
 intro k
 induction k with
 |zero=>
  exact⟨[],0,BI.RO N⟩
 |succ k f=>
  obtain⟨A,e,I⟩:=f;show ∃A e,BI N (ec av _) A e
  cases h:(dY av (cv av N k)).getLast? with
  |some w=>
   obtain⟨_,a⟩:=I.RT d h;refine A4 a λb b b g=>?_;clear a
   exact⟨_,_,g⟩
  |none=>
   have ac:=F3.mp h
   by_cases c:e<A.length
   .exact⟨_,_,(I.QJ ac c).2⟩
   .exact U (I.Sz ac c) ⟨A,e,I⟩
theorem tF(a:dP N)(b:N.length<=5)(av:List (O×O))(k:Nat):∀w∈(cv av N k).b5,0<=el (cv av N k).bo (cv av N k).bp w/\el (cv av N k).bo (cv av N k).bp w<5:=λw c=>by
 obtain⟨A,e,I⟩:=As a av k;have:=I.dV b c;refine U (I.bo.PM ..) ?_;exact⟨C5 _,(El (m:=5)).mpr this⟩
theorem xY:((Ch 5).all λl=>(Ch 5).all λL=>[u,BQ].all λbb=>((CS (dB bb l)==CS (g6 L))==decide (L=l))&&((CS (dB bb l)==CS (eh L))==decide (L=l)))=u:=by decide+kernel
theorem qO{l L:Nat}(a:l<5)(b:L<5)(bb:Bool):(CS (dB bb l)==CS (g6 L))=decide (L=l)/\(CS (dB bb l)==CS (eh L))=decide (L=l):=by
 have:=Cn.mp (Cn.mp (Cn.mp xY l (CU.mpr a)) L (CU.mpr b)) bb (by cases bb <;> simp);rw[Cv,beq_iff_eq,beq_iff_eq]at this;exact this
variable{f:O->Nat}{aR:List O}{g:O->Bool}
theorem tA(h:∀w∈aR,f w<5){L:Nat}(b:L<5):dX (aR.map λw=>(dB (g w) (f w),w)) (g6 L)=aR.filter (λw=>decide (L=f w))/\dX (aR.map λw=>(dB (g w) (f w),w)) (eh L)=aR.filter λw=>decide (L=f w):=by
 unfold dX;constructor <;> refine U List.filter_map (BK CJ (U (show(Mr∘λw=>(dB (g w) (f w),w))=id from R) (BK (HI ..) ?_)))
 .exact Fe λw a=>(qO (h w a) b (g w)).1
 .exact Fe λw a=>(qO (h w a) b (g w)).2
noncomputable abbrev Tb(N:List O)(f:O->Nat)(av:List (O×O)):Prop:=∀w∈N,∀L,L<5->(dX av (g6 L)).contains w=decide (L=f w)
theorem rO(ai:aR.Perm N)(h:∀w∈N,f w<5):Tb N f (aR.map λw=>(dB (g w) (f w),w)):=λw a L b=>by
 rw[(tA (λw a=>h w (ai.mem_iff.mp a)) b).1,GI,List.contains_iff_mem,B8];exact⟨λh=>h.2,λh=>⟨ai.mem_iff.mpr a,h⟩⟩
variable{A:List O}
theorem p9{e:Nat}(I:BI N s A e)(b:N.length<=5)(T:Tb N f av):dY av s=s.b5.filter λw=>decide (eM A w+ea (A.take e) w=f w):=
 Fe λw a=>by
  refine U (I.bo.PM ..)<|T w (I.OD a).1 _ (I.dV b a)
theorem yX(h:dP xs)(a:w∈xs)(hv:∀v∈xs,v=w\/bW v w=u):xs.getLast?=H w:=by
 cases e:xs.getLast? with
 |none=>rw[F3.mp e]at a;cases a
 |some z=>
  obtain⟨ys,rfl⟩:=IB.mp e;rcases hv z (Ce _ (.head _))with rfl|h1
  .rfl
  .rcases CA.mp a with h2|h2
   .exact(tM h1 ((DC.mp h).2.2 w h2 z (.head _))).elim
   .exact U (BO.mp h2) R
theorem yV(h:dP xs)(a:xs.getLast?=H w){v:O}(hv:v∈xs):bW w v=BQ:=by
 obtain⟨ys,rfl⟩:=IB.mp a;rcases CA.mp hv with h2|h2
 .exact js ((DC.mp h).2.2 v h2 w (.head _))
 .exact U (BO.mp h2) ((kp ..))
theorem qB(a:dP N){e:Nat}(I:BI N s A e):dP (dY av s):=by
 have:dP s.b5:=U I.b5 (a.Qh _);exact this.Qh _
theorem uO(p:aD)(w:O):dL (p.Os w) (p.OT w)=u:=by
 have:=p.Rs;unfold dL aD.Os aD.OT;have h:¬p.Ol w=p.Ol w+(p.OE:Int):=by lia
 simp[h];lia
section
variable{p:aD}{aZ:List T4}(bD:eZ p aZ)
include bD
theorem eZ.Ub{B:List O}(e:cd aZ=A++w::B):x∈A↔x∈p.aG/\dL (p.Os x) (p.Os w)=u:=by
 have s:=bD.Ro;rw[e]at s;refine A3 (DC.mp s) λd a b=>?_;refine⟨λh=>⟨bD.OP.mem_iff.mp (U e (Ci _ h)),b x h w (.head _)⟩,λc=>?_⟩;obtain⟨h1,h2⟩:=c;have h1:=bD.OP.mem_iff.mpr h1;rw[e]at h1;rcases CA.mp h1 with h|h
 .exact h
 .rcases BX.mp h with rfl|h
  .rw[kP]at h2;cases h2
  .exact(ue h2 ((Dz.mp a).1 x h)).elim
theorem uB(ai:p.Ok)(T:Tb p.aG p.dV av):∀k,k<=2*p.aG.length->∃A B e,cd aZ=A++B/\A.length+e=k/\BI p.aG (cv av p.aG k) A e/\(∀x∈A.take e,∀v∈B,dL (p.OT x) (p.Os v)=u)/\(cv av p.aG k).cg=A.map λw=>(w,p.OJ w):=by
 intro k
 induction k with
 |zero=>
  intro _
  exact⟨[],cd aZ,0,R,R,BI.RO _,(λC h=>nomatch h),R⟩
 |succ k an=>
  intro ao;obtain⟨A,B,e,g⟩:=an (Cz ‹_›);refine A5 g λh1 h2 I D E=>?_;clear g
  have ap:p.aG.length<=5:=a3 (p.Ox ai) ((p.Oj ai).2);have F:=mm p;show ∃A B e,_/\_/\BI p.aG (ec av _) A e/\_/\(ec av _).cg=_;have r:=p9 I ap T;have a9:=bD.OZ;have hu:=bD.OP.length_eq
  have G:∀v∈(cv av p.aG k).b5,v∈B:=λv hv=>by
   obtain⟨a,b⟩:=I.OD hv;have:=bD.OP.mem_iff.mpr a;rw[h1]at this;exact(CA.mp this).resolve_left b
  cases B with
  |nil=>
   have ac:dY av (cv av p.aG k)=[]:=by
    rw[r,DL];exactλv hv=>nomatch G v hv
   rw[h1,CE]at hu;have j:e<A.length:=jq [_,_,_,_] bV (fz 2 bG) (aq af ak) au bG af bG af aC af al ao (eL h2) (eR hu) (eR hu);obtain⟨aT,aX⟩:=I.QJ ac j
   exact⟨A,[],e+1,h1,Cg (a0 [_,_,_] (aq ak af) au (aq ak b1) bV al (eL h2)) (a0 [_,_,_] ak (aq af au) aC (aq af bV) al (eR h2)),aX,(λC C C h=>nomatch h),aT.trans E⟩
  |cons w B=>
   have jj:=λx=>bD.Ub h1 (x:=x);have P:=bD.OP.mem_iff.mp (U h1 (Ce _ (.head _)));have Q:w∉A:=λh=>by have:=((jj w).mp h).2;rw[kP]at this;cases this
   have t:=λv hv=>by
    have s:=bD.Ro;rw[h1]at s;exact(Dz.mp (DC.mp s).2.1).1 v hv
   have ax:w∈(cv av p.aG k).b5:=U I.b5 (B8.mpr ⟨P,by simpa using Q⟩);have K:(A.take e).Nodup:=I.E.sublist (EH _ _);have L:∀v,v∈w::B->∀x∈A.take e,bW v x=u->x∈p.aG/\(bW v x&&dL (p.OT x) (p.Os v))=u:=λv hv x d l=>⟨I.N8 x (Fz d),U l (U (D x d v hv) R)⟩
   have S:∀v,v∈w::B->∀x∈A,bW x v=u->x∈p.aG/\(bW x v&&dL (p.Os x) (p.Os v))=u:=λv hv x d l=>by
    obtain⟨a,b⟩:=(jj x).mp d;refine⟨a,U l ?_⟩;rcases BX.mp hv with rfl|hv
    .exact b
    .exact k8 b (t v hv)
   have W:∀v∈(cv av p.aG k).b5,eM A v+ea (A.take e) v=p.dV v->v=w\/bW v w=u:=λv hv aJ=>by
    by_cases q:v=w
    .exact .inl q
    .rcases iW q with h|h
     .exact .inr h
     .have f:=G v hv;have a:=r4 I.E (S v f) P (U h (U (t v ((BX.mp f).resolve_left q)) R)) λh=>Q h.1;have b:=s6 K (L v f);have c:p.dV v=(p.OJ v).length+(p.Pv v).length:=R;have a:eM A v<(p.Pv v).length:=a;have b:ea (A.take e) v<=(p.OJ v).length:=b;exact absurd (aJ.trans (c.trans (D1 ..))) (BZ (IA a b))
   by_cases X:∃bb∈p.aG,(bW w bb&&dL (p.OT bb) (p.Os w))=u/\bb∉A.take e
   .obtain⟨bb,g⟩:=X;refine A3 g λae n N=>?_;clear g;rw[Cv]at n;obtain⟨n,o⟩:=n
    have ac:dY av (cv av p.aG k)=[]:=by
     rw[r,DL];intro v hv aJ;have aJ:=of_decide_eq_true aJ;have f:=G v hv
     have ay:(bW v bb&&dL (p.OT bb) (p.Os v))=u:=by
      rcases W v hv aJ with rfl|h
      .exact U n (U o R)
      .rcases BX.mp f with rfl|f
       .rw[kp]at h;cases h
       .exact U (jH h n) (U (k8 o (t v f)) R)
     have a:=s6 I.E (S v f);have b:=r4 K (L v f) ae ay λh=>N h.1;have c:p.dV v=(p.OJ v).length+(p.Pv v).length:=R;have a:eM A v<=(p.Pv v).length:=a;have b:ea (A.take e) v<(p.OJ v).length:=b;exact absurd (aJ.trans (c.trans (D1 ..))) (BZ (Nat.add_lt_add_of_le_of_lt a b))
    have aB:=(jj bb).mpr ⟨ae,k8 (uO p bb) o⟩
    have j:e<A.length:=by
     refine Nat.lt_of_not_le λh=>N ?_;rwa [D8 h]
    have d:dL (p.OT A[e]) (p.Os w)=u:=by
     have z:bb∈A.drop e:=by
      have:=aB;rw[←Fp e A]at this;exact(CA.mp this).resolve_left N
     rw[DS j]at z;rcases BX.mp z with rfl|z
     .exact o
     .have s:=bD.Ro;rw[h1]at s;have s:=(DC.mp s).1.sublist (Hr e A);rw[DS j]at s;have:=(Dz.mp s).1 bb z;exact k8 (q5.trans this) o
    obtain⟨aT,aX⟩:=I.QJ ac j;refine⟨A,w::B,e+1,h1,Cg (a0 [_,_,_] (aq ak af) au (aq ak b1) bV al (eL h2)) (a0 [_,_,_] ak (aq af au) aC (aq af bV) al (eR h2)),aX,λx ah v hv=>?_,aT.trans E⟩;rw[CX,BU j]at ah;rcases CA.mp ah with h|h
    .exact D x h v hv
    .refine U (BO.mp h) ?_;rcases BX.mp hv with rfl|hv
     .exact d
     .exact k8 d (t v hv)
   .have aE:∀x,(x∈A.take e/\bW w x=u)↔(x∈p.aG/\(bW w x&&dL (p.OT x) (p.Os w))=u):=λx=>⟨λi=>by obtain⟨a,b⟩:=i;exact L w (.head _) x a b,λi=>by obtain⟨a,b⟩:=i;exact⟨Dp λh=>X ⟨x,a,b,h⟩,(Cv _ _▸b).1⟩⟩
    have am:=lW K aD.O4 aE
    have pA:=lW (q:=λy=>bW y w) I.E aD.O4 λx=>by
     rw[jj x,Cv];exact⟨λi=>by obtain⟨⟨a,b⟩,c⟩:=i;exact⟨a,c,b⟩,λi=>by obtain⟨a,c,b⟩:=i;exact⟨⟨a,b⟩,c⟩⟩
    have aL:eM A w+ea (A.take e) w=p.dV w:=by
     have a:eM A w=(p.Pv w).length:=pA.length_eq;have b:ea (A.take e) w=(p.OJ w).length:=am.length_eq;rw[a,b,aD.dV,D1]
    have l:=yX (qB F I) (U r (B8.mpr ⟨ax,decide_eq_true aL⟩)) λv hv=>by
     rw[r]at hv;obtain⟨a,b⟩:=B8.mp hv;exact W v a (of_decide_eq_true b)
    obtain⟨m,g⟩:=I.RT F l;refine A4 g λaO aR aW aY=>?_;clear g;have a4:m=p.OJ w:=aO.eq (F.Qh _) (aR.trans am);refine⟨A++[w],B,e,by refine BK h1 (bP (Cu ..) ?_);rfl,by refine U BV (U Dx ?_);lia,aY,λx d v hv=>?_,?_⟩
    .rw[Et I.le]at d;exact D x d v (.tail _ hv)
    .exact BK aW (U E (U a4 (bP Cb R)))
end
structure BD(f:O->Nat)(A:List O)(e:Nat)(cS:List (O×List O))(G:Nat->Nat):Prop where
 be:∀i j,i<=j->j<A.length->G i<=G j
 le:∀i,i<A.length->G i<=e/\G i<=i
 Q0:∀i w m,cS[i]?=H (w,m)->A[i]?=H w/\dP m/\m.Perm ((A.take (G i)).filter (bW w))/\f w=eM (A.take i) w+m.length
theorem yr(A:List O)(w v:O):eM (A++[w]) v=eM A v+if bW w v=u then 1 else 0:=by
 unfold eM;refine U (Ec ..) (BK BV ?_)
 by_cases h:bW w v=u <;> simp[h]
theorem v8(A:List O)(w v:O):ea (A++[w]) v<=ea A v+1:=by
 unfold ea;refine U (Ec ..) (a3 BV (C8 (CI _ _) _))
theorem z8(B:dP N)(Q:N.length<=5)(T:Tb N f av):∀k,∃A e G,BI N (cv av N k) A e/\BD f A e (cv av N k).cg G/\(∀v∈N,v∉A->eM A v+ea (A.take e) v<=f v)/\(A.length+e=k\/(e=A.length/\dY av (cv av N k)=[])):=by
 intro k
 induction k with
 |zero=>
  exact⟨[],0,λl=>0,BI.RO N,⟨λl l l h=>(nomatch h),λl h=>(nomatch h),λl l l h=>(nomatch h)⟩,λl l l=>Cm _,.inl R⟩
 |succ k S=>
  obtain⟨A,e,G,p⟩:=S;refine A4 p λI D t C=>?_;clear p;have x:=p9 I Q T;have E:∀v,v∈N->v∉A->v∈(cv av N k).b5:=λv a b=>U I.b5 (B8.mpr ⟨a,by simpa using b⟩)
  show ∃A e G,BI N (ec av _) A e/\BD f A e (ec av _).cg G/\_/\(_\/_/\dY av (ec av _)=[])
  cases o:(dY av (cv av N k)).getLast? with
  |some w=>
   obtain⟨m,p⟩:=I.RT B o;refine A4 p λW F X ae=>?_;clear p;have K:=Jk o;rw[x]at K;have ah:=of_decide_eq_true (B8.mp K).2;have y:(cv av N k).cg.length=A.length:=br I.cg (bP (BH ..) R);have ao:∀i,i<=A.length->(A++[w]).take i=A.take i:=λi h=>Et h;have z:(A++[w]).length=A.length+1:=BV;refine⟨A++[w],e,λi=>if i<A.length then G i else e,ae,⟨λi j L ai=>?_,λi hi=>?_,λi v n g=>?_⟩,λv hv r=>?_,?_⟩
   .rw[z]at ai;show(if _ then _ else _)<=if _ then _ else _
    by_cases h:j<A.length
    .exact dH (if_pos h) (a3 (if_pos (CP L h)) (D.be i j L h))
    .refine dH (if_neg h) ?_;split
     .exact(D.le i ‹_›).1
     .exact BJ _
   .rw[z]at hi;show(if _ then _ else _)<=_/\(if _ then _ else _)<=_
    by_cases h:i<A.length
    .exact U (if_pos h) (D.le i h)
    .refine U (if_neg h) ?_;have:=I.le;exact⟨h0 [_] ak ak al,aV [_,_,_] au af ak au ak af al (BP.mp h) this⟩
   .rw[X]at g;show _/\_/\n.Perm (((A++[w]).take (if _ then _ else _)).filter _)/\_
    by_cases h:i<A.length
    .replace g:=(F5 (dk y h)).symm.trans g;refine A4 (D.Q0 i v n g) λa b c d=>?_;refine U (if_pos h) (U (ao _ (by have:=D.le i h;exact aV [_,_,_] bV af ak au ak af al h this.2)) (U (ao _ (Cz h)) (U (F5 h) ?_)));exact⟨a,b,c,d⟩
    .rw[Ed (a3 y (Ea ‹_›)),y]at g
     have:i-A.length=0:=by
      cases e:i-A.length with
      |zero=>rfl
      |succ j=>rw[e]at g;cases g
     rw[this]at g;cases g;have hi:i=A.length:=Cg (aV [_,_,_] au c8 ak (aq au af) ak af al (eL this) (sA _ _)) (BP.mp h);subst hi;refine U (if_neg h) (U (ao _ I.le) (U (ao _ (BJ _)) (U Dg (U (Ed (BJ _)) (U (Fj ..) ?_)))));exact⟨R,W,F,hn ah (U F.length_eq R)⟩
   .have P:v∉A:=λh=>r (Ci _ h);have am:v≠w:=λh=>r (Ce _ (U h (.head _)));have:=t v hv P;refine U (ao _ I.le) (U (yr ..) ?_)
    by_cases h:bW w v=u
    .refine U (if_pos h) ?_
     have:eM A v+ea (A.take e) v≠f v:=λq=>by
      have:bW w v=BQ:=yV (qB B I) o (U x (B8.mpr ⟨E v hv P,decide_eq_true q⟩));replace this:=h.symm.trans this;cases this
     exact BG (CL (JY ..)) (Do ‹_› this)
    .exact U (if_neg h) this
   .rcases C with h|⟨_,h⟩
    .exact .inl (by refine U z ?_;exact Cg (a0 [_,_,_] (aq ak af) au (aq aC af) bV al (eL h)) (a0 [_,_,_] ak (aq af au) aC (aq b1 au) al (eR h)))
    .rw[h]at o;cases o
  |none=>
   have ac:=F3.mp o
   by_cases s:e<A.length
   .obtain⟨aT,aX⟩:=I.QJ ac s;refine⟨A,e+1,G,aX,⟨D.be,λi hi=>⟨Co (D.le i hi).1,(D.le i hi).2⟩,λi w m g=>D.Q0 i w m (br aT g)⟩,λv hv r=>?_,?_⟩
    .have:=t v hv r
     have n:eM A v+ea (A.take e) v≠f v:=λq=>by
      have:v∈dY av (cv av N k):=U x (B8.mpr ⟨E v hv r,decide_eq_true q⟩);rw[ac]at this;cases this
     have:=v8 (A.take e) A[e] v;refine U CX (U (BU s) ?_);refine(?_:eM A v+ea (A.take e++[A[e]]) v<=_);exact BG (C8 this _) (Do ‹_› n)
    .rcases C with h|⟨h,_⟩
     .exact .inl (Cg (a0 [_,_,_] (aq ak af) au (aq ak b1) bV al (eL h)) (a0 [_,_,_] ak (aq af au) aC (aq af bV) al (eR h)))
     .lia
   .refine U (I.Sz ac s)<|⟨A,e,G,I,D,t,.inr ⟨by have:=I.le;exact Cg this (BP.mp s),ac⟩⟩
theorem rb(a:A.Perm N)(c:A.Nodup)(h:∀i w,A[i]?=H w->f w<=i)(k:Nat)(g:k<N.length):k<(N.filter λw=>decide (f w<=k)).length:=by
 have d:(A.take (k+1)).length=k+1:=by refine BK CM (U a.length_eq ?_);lia
 have:=(c.sublist (EH (k+1) A)).length_le_of_subset (l₂:=N.filter λw=>decide (f w<=k)) λx e=>by
  obtain⟨j,b,rfl⟩:=Dt.mp e;refine B8.mpr ⟨a.mem_iff.mp (Ft _),decide_eq_true ?_⟩;have:=h j _ (BU (by exact aV [_,_,_] aC au au af aC af al b (Da _ _)));exact cI [_,_,_,_] bV bG ak au bG b1 ak af al b this (Dq _ _)
 exact aV [_,_,_] aC au au af aC af al (eR d) this
theorem sK:∀(xs:List Nat)(a:Nat),a<=xs.foldl K7 a/\(∀x∈xs,x<=xs.foldl K7 a)/\(xs.foldl K7 a=a\/xs.foldl K7 a∈xs):=by
 intro xs
 induction xs with
 |nil=>
  intro a
  exact⟨BJ _,(λe h=>nomatch h),.inl R⟩
 |cons x xs c=>
  intro a;refine A3 (c (K7 a x)) λh1 h2 d=>?_;refine U FD<|⟨BG (Nat.le_max_left ..) h1,λy b=>?_,?_⟩
  .rcases BX.mp b with rfl|b
   .exact BG (Nat.le_max_right ..) h1
   .exact h2 y b
  .rcases d with h|h
   .refine U h ?_;rcases Lh a x with q|q
    .exact .inr (U (Nat.max_eq_right q) (.head _))
    .exact .inl (Ky q)
   .exact .inr (.tail _ h)
theorem zy:∀(r:List O)(p:O),risingS p r=u->(p::r).Nodup->dP (p::r):=by
 intro r
 induction r with
 |nil=>
  intro p _ _
  exact Gs _ _
 |cons x r c=>
  intro p h n;unfold risingS at h;rw[Cv]at h;obtain⟨d,f⟩:=FC.mp n;have s:=c x h.2 f
  have b:bW p x=u:=by
   rcases iW (λe:p=x=>d (e▸ .head _))with q|q
   .exact q
   .have h1:=h.1;rw[ltCps_eq]at h1;have q:decide (x.cps.toList<p.cps.toList)=u:=q;rw[q]at h1;cases h1
  refine Dz.mpr ⟨λy a=>?_,s⟩;rcases BX.mp a with rfl|a
  .exact b
  .exact jH b ((Dz.mp s).1 y a)
theorem tv{aZ:List O}(h:KR aZ=u)(n:aZ.Nodup):dP aZ:=by
 cases aZ with
 |nil=>exact .nil
 |cons x r=>exact zy r x h n
theorem sX(a:A.Nodup)(hi:i<A.length):gI A A[i]=i:=by
 obtain⟨j,b,c⟩:=l0 (Ft hi);unfold gI;refine U b ?_;obtain⟨h,h1,_⟩:=E5.mp b;have h1:=La h1;refine(?_:j=i);rcases Hy i j with q|q|q
 .exact(Ds.mp a i j hi c q h1.symm).elim
 .exact q.symm
 .exact(Ds.mp a j i c hi q h1).elim
theorem kD(b:A.Nodup){g:Nat}:x∈A.take g↔x∈A/\gI A x<g:=by
 constructor
 .intro h;obtain⟨j,a,rfl⟩:=Dt.mp h;exact⟨Ft _,by rw[sX b];exact aV [_,_,_] aC au au af aC af al a (Dq _ _)⟩
 .rintro⟨h,h2⟩;obtain⟨j,a,rfl⟩:=G3 h;rw[sX b a]at h2;exact Dt.mpr ⟨j,by lia,R⟩
theorem q9(ai:p.Ok):Tb p.aG p.OI (ep p):=rO p.PD λw a=>BL (nX ai w) (p.Oj ai).2
theorem mr(ai:p.Ok):p.aG.length<=5:=a3 (p.Ox ai) ((p.Oj ai).2)
theorem x0(ai:p.Ok):∃A G,BI p.aG (em p) A A.length/\BD p.OI A A.length (em p).cg G/\((em p).b5=[]->A.Perm p.aG/\p.OG=u)/\(p.OG=u->(em p).b5=[]):=by
 obtain⟨A,e,G,j⟩:=z8 (mm p) (mr ai) (q9 ai) (2*p.aG.length);refine A4 j λI D r l=>?_;clear j;have m:=I.E.length_le_of_subset I.N8
 have s:e=A.length:=by
  have:=I.le;rcases l with h|⟨h,_⟩
  .exact Cg this (cI [_,_,_] ak au ak au (fz 2 au) (aq ak af) ak af al m m (eR h))
  .exact h
 subst s
 have t:∀i w,A[i]?=H w->p.OI w<=i:=λi w h=>by
  obtain⟨hi,rfl⟩:=BY.mp h;have y:i<(cv (ep p) p.aG (2*p.aG.length)).cg.length:=br (BH (f:=(·.1))) (U I.cg hi);refine A4 (D.Q0 i _ _ (BU y)) λa N b c=>?_;rw[h]at a;have a:=CO a;rw[←a]at b c;refine a3 c (U b.length_eq ?_);have h1:=pw (A.take i) A[i];have h2:((A.take (G i)).filter (bW A[i])).length<=ea (A.take i) A[i]:=((List.take_sublist_take_left (D.le i hi).2).filter _).length_le;rw[CM]at h1;exact cI [_,_,_,_,_,_] (aq (aq ak bG) f7) (vA 5) af bG (vA 5) au (aq ak af) au al (eL h1) h2 (Dq _ _)
 refine⟨A,G,I,D,λd=>?_,λaL=>?_⟩
 .have d:(cv (ep p) p.aG (2*p.aG.length)).b5=[]:=d
  have z:=λw B=>Dp λh=>by
   have:w∈(cv (ep p) p.aG (2*p.aG.length)).b5:=U I.b5 (B8.mpr ⟨B,by simpa using h⟩);rw[d]at this;cases this
  have n:=(Ip I.E aD.O4).mpr λw=>⟨I.N8 w,z w⟩;refine⟨n,Cn.mpr λk C=>decide_eq_true (rb n I.E t k (dk (p.Ox ai) (CU.mp C)))⟩
 .refine(?_:(cv (ep p) p.aG (2*p.aG.length)).b5=[]);refine Dp λd=>?_;obtain⟨v,hv⟩:=List.exists_mem_of_ne_nil _ d;obtain⟨E,F⟩:=I.OD hv;have o:=I.Oa E F
  have ac:dY (ep p) (cv (ep p) p.aG (2*p.aG.length))=[]:=by
   rcases l with h|⟨_,h⟩
   .lia
   .exact h
  rw[p.Ox ai]at o;have:=of_decide_eq_true (Cn.mp aL A.length (CU.mpr o))
  have:p.Qj A.length<=A.length:=(aD.O4.sublist Di).length_le_of_subset λx K=>by
   obtain⟨x1,x2⟩:=B8.mp K;refine Dp λg=>?_;have h1:=r x x1 g;have h2:x∉dY (ep p) (cv (ep p) p.aG (2*p.aG.length)):=U ac (λh=>nomatch h);rw[p9 I (mr ai) (q9 ai)]at h2;have L:eM A x+ea (A.take A.length) x≠p.OI x:=λq=>h2 (B8.mpr ⟨U I.b5 (B8.mpr ⟨x1,by simpa using g⟩),decide_eq_true q⟩)
   have P:=pU g;have x2:=of_decide_eq_true x2;rw[Dg]at h1 L;lia
  lia
theorem ym(ai:p.Ok):oX p/\(em p).a5=[]:=by
 obtain⟨A,G,n⟩:=x0 ai;refine A4 n λI D h1 h2=>?_;clear n;have B:(em p).cg.length=A.length:=br I.cg (bP (BH ..) R);have o:=I.E.length_le_of_subset I.N8;have s:=mr ai;refine⟨⟨?_,?_,cI [_,_,_] ak af af au au f2 ak eO al (eL B) o s,λaL=>?_⟩,BK I.a5 (Gp)⟩
 .cases aL:p.OG with
  |true=>exact decide_eq_true (h2 aL)
  |false=>exact decide_eq_false λh=>by replace aL:=((h1 h).2).symm.trans aL;cases aL
 .exact BK I.bO (bP I.cg (Dg))
 .refine U I.cg ?_
  let a9:Nat->List Nat:=λk=>((em p).cg.take k).flatMap λr=>r.2.map λi=>gI A i+1
  refine⟨λk=>(a9 k).foldl K7 0,R,λk w m t=>A4 (D.Q0 k w m t) λa b c d=>?_⟩;have C:=(BY.mp a).1
  have E:a9 (k+1)=a9 k++m.map λi=>gI A i+1:=by
   refine(?_:(List.take (k+1) _).flatMap _=_);refine U CX (U t (BK G4 ?_));refine(?_:_++(m.map _++[])=_);exact U (CE ..) R
  have F:∀x∈m,x∈A/\gI A x<G k:=λx f=>(kD I.E).mp (B8.mp (c.mem_iff.mp f)).1
  have K:(a9 (k+1)).foldl K7 0<=G k:=by
   rcases(sK (a9 (k+1)) 0).2.2 with q|q
   .exact a3 q (Cm _)
   .obtain⟨r,L,N⟩:=Go.mp q;obtain⟨j,v,rfl⟩:=Dt.mp L;obtain⟨x,f,e⟩:=B7.mp N;refine A4 (D.Q0 j _ _ (BU (by exact aV [_,_,_] aC au au af aC af al v (Da _ _)))) λy y P y=>?_
    have:=((kD I.E).mp (B8.mp (P.mem_iff.mp f)).1).2;have:=D.be j k (aV [_,_,_] aC au au b1 ak af al v (Dq _ _)) C;exact BG (CL e.symm) (BG (by assumption:gI A x<G j) this)
  have Q:(a9 (k+1)).foldl K7 0=(m.map λi=>gI A i+1).foldl K7 ((a9 k).foldl K7 0):=U E (DJ);refine A3 (sK (m.map λi=>gI A i+1) ((a9 k).foldl K7 0)) λbU eo fo=>?_;rw[←Q]at bU eo fo
  have S:m.length<=A.length:=by
   refine a3 c.length_eq<|Nat.le_trans (CI _ _) (a3 CM (Da _ _))
  have z:∀g,(A.take g).Nodup:=λg=>I.E.sublist (EH _ _);refine⟨cI [_,_,_] af au au f2 ak af ak eO al o s S,bU,λx f=>⟨(F x f).1,eo _ (B7.mpr ⟨x,f,R⟩)⟩,?_,λaZ aT aX=>?_,?_⟩
  .rcases fo with q|q
   .exact .inl q
   .obtain⟨x,f,e⟩:=B7.mp q;exact .inr ⟨x,f,e.symm⟩
  .have bc:=(lW (z _) (z _) λx=>⟨λl=>by obtain⟨a,b⟩:=l;exact⟨(kD I.E).mpr ⟨((kD I.E).mp a).1,BL ((kD I.E).mp a).2 K⟩,b⟩,λl=>by obtain⟨a,g4⟩:=l;exact⟨(kD I.E).mpr ⟨((kD I.E).mp a).1,eo _ (B7.mpr ⟨x,c.mem_iff.mpr (B8.mpr ⟨a,g4⟩),R⟩)⟩,g4⟩⟩).trans c.symm;have cG:=aT.trans bc;exact(tv aX (cG.nodup_iff.mpr b.OZ)).eq b cG
  .exact BK (hj (I.N8 w (B5 a))) (U d R)
noncomputable abbrev Tk:=List Nat
noncomputable def ir(t:Tk):Prop:=(∃c,c≠92/\t=[c])\/∃c,t=[92,c]
noncomputable def kF(t:Tk):O:=⟨t.toArray⟩
noncomputable def wf:List Tk->Prop
 |[]=>True
 |t::bf=>(ir t\/(t=[92]/\bf=[]))/\wf bf
noncomputable def jO:List Tk->Nat->List (Nat×O)
 |[],_=>[]
 |t::bf,i=>(i+t.length-1,kF t)::jO bf (i+t.length)
theorem s5:∀(bf:List Tk)(i:Nat),wf bf->ey bf.flatten i BQ=jO bf i:=by
 intro bf
 induction bf with
 |nil=>
  intro i _
  exact R
 |cons t bf a=>
  rintro i ⟨h,b⟩;refine U DK ?_;rcases h with(⟨c,aL,rfl⟩|⟨c,rfl⟩)|⟨rfl,rfl⟩
  .refine(?_:(if(⟨#[c]⟩:O)="\\" then _ else _)=_);refine BK (if_neg λh=>aL (by have:=congrArg cb h;injection this))<|congrArg _ (a (i+1) b)
  .refine(?_:(if(⟨#[92]⟩:O)="\\" then ey (c::bf.flatten) (i+1) u else _)=_);refine BK (if_pos (show(⟨#[92]⟩:O)="\\" from R))<|congrArg _ (a (i+2) b)
  .rfl
theorem iu:∀{a b:List Tk},(∀t∈a,ir t)->wf b->wf (a++b):=by
 intro a
 induction a with
 |nil=>
  intro _ _ h
  exact h
 |cons t a c=>
  intro b h ac;exact⟨.inl (h t (.head _)),c (λt ao=>h t (.tail _ ao)) ac⟩
noncomputable abbrev KS:=List Tk×Option (List Tk)
noncomputable def eN(s:KS)(t:Tk):KS:=if t=[34]then(match s.2 with|none=>(s.1,H [t])|some _=>(s.1,B2))else(match s.2 with|none=>(s.1++[t],B2)|some bb=>(s.1,H (bb++[t])))
noncomputable def h7(s:KS):List Tk:=s.1++s.2.getD []
noncomputable def ge(xs:List Nat)(a b:Nat):List Nat:=(xs.drop a).take (b-a)
theorem Ah{a b c:List Nat}{j:Nat}(h:i<=a.length)(d:j=a.length+b.length):ge (a++b++c) i j=ge (a++b++c) i a.length++b:=by
 subst d;unfold ge;refine U (Cu ..) (U (FA h) (U (show a.length+b.length-i=(a.drop i).length+b.length from(Gv h).trans (congrArg (·+b.length) Dh.symm)) (U (FM ..) (U (show a.length-i=(a.drop i).length+0 by refine U Dh ?_;rfl) (U (FM ..) (U Ig (U (CE ..) ?_)))))))
 congr 1
 exact List.take_left
theorem nQ(xs:List Nat)(i:Nat):ge xs i i=[]:=by unfold ge;exact U (Fj ..) R
noncomputable def f4(a:List O):List Nat:=(a.map cb).flatten
theorem um(a b:List O):f4 (a++b)=f4 a++f4 b:=by unfold f4;exact U Cb (Dv)
theorem qC(x:O)(a b:Nat):cb (f5 x a b)=ge (cb x) a b:=R
structure SI(xs:List Nat)(i:Nat)(f:QS)(s:KS):Prop where
 le:f.1<=i
 no:f.2.1=B2->s.2=B2/\s.1.flatten=f4 f.2.2++ge xs f.1 i
 op:∀o,f.2.1=H o->f.1<=o/\o<=i/\s.1.flatten=f4 f.2.2++ge xs f.1 o/\∃bb,s.2=H bb/\bb.flatten=ge xs o i
set_option tactic.hygienic true in
theorem xw(x:O):∀(bf a:List Tk)(f:QS)(s:KS),cb x=a.flatten++bf.flatten->SI (cb x) a.flatten.length f s->SI (cb x) (cb x).length ((jO bf a.flatten.length).foldl (ia x) f) (bf.foldl eN s):=by
 intro bf
 induction bf with
 |nil=>
  intro a f s e h;rw[List.flatten_nil,CE]at e;rw[←e]at h
  exact h
 |cons t bf w=>
  intro a f s e h;rw[DK,←Cu]at e;have m:(a++[t]).flatten.length=a.flatten.length+t.length:=by refine U Dv (BK BV ?_);simp
  have:=w (a++[t]) (ia x f (a.flatten.length+t.length-1,kF t)) (eN s t) (by refine BK e (U Dv ?_);simp) ?_
  .rw[m]at this;exact this
  refine U m ?_;have c:∀i,i<=a.flatten.length->ge (cb x) i (a.flatten.length+t.length)=ge (cb x) i a.flatten.length++t:=λi hi=>U e (Ah hi R);have n:(kF t="\"")↔t=[34]:=⟨λh=>congrArg cb h,λh=>U h R⟩;unfold ia eN
  by_cases ao:t=[34]
  .refine U (if_pos (n.mpr ao)) (U (if_pos ao) ?_);have h1:a.flatten.length+t.length-1=a.flatten.length:=U ao R
   cases b:f.2.1 with
   |none=>
    obtain⟨d,g⟩:=h.no b;refine U d ?_;refine(?_:SI _ _ (f.1,H (a.flatten.length+t.length-1),f.2.2) (s.1,H [t]));refine U h1<|⟨BG h.le (B4 _ _),(λh=>nomatch h),λo b=>?_⟩;cases b
    exact⟨h.le,B4 _ _,g,_,R,by refine bP (c _ (BJ _)) (U (nQ ..) ?_);simp⟩
   |some o=>
    obtain⟨p,j,k,bb,l,r⟩:=h.op o b;refine U l ?_;refine(?_:SI _ _ (a.flatten.length+t.length-1+1,B2,if f.1=o then f.2.2 else f.2.2++[f5 x f.1 o]) (s.1,B2));have y:a.flatten.length+t.length-1+1=a.flatten.length+t.length:=U ao R;refine U y<|⟨BJ _,λv=>⟨R,?_⟩,λv h=>nomatch h⟩;show s.1.flatten=f4 (if _ then _ else _)++ge _ _ _;refine U (nQ ..) (bP (CE ..) (BK k ?_));split
    .rename_i q;exact U q (U (nQ ..) ((CE ..)))
    .refine bP (um ..) ?_;unfold f4;simp[qC]
  .refine U (if_neg λh=>ao (n.mp h)) (U (if_neg ao) ?_)
   cases b:f.2.1 with
   |none=>
    obtain⟨d,g⟩:=h.no b;refine U d<|⟨BG h.le (B4 _ _),λv=>⟨R,?_⟩,λo q=>by replace q:=b.symm.trans q;cases q⟩
    refine U (c _ h.le) (BK Dv (U g (BK (Cu ..) ?_)));simp
   |some o=>
    obtain⟨p,j,k,bb,l,r⟩:=h.op o b;refine U l<|⟨BG h.le (B4 _ _),(λq=>by replace q:=b.symm.trans q;cases q),λz q=>?_⟩;replace q:=b.symm.trans q;cases q;exact⟨p,BG j (B4 _ _),k,_,R,by refine bP (c _ j) (BK Dv (U r ?_));simp⟩
theorem uu{xs:List Nat}{a b:Nat}(h1:a<=b)(h2:b<=c):ge xs a b++ge xs b c=ge xs a c:=by
 unfold ge;rw[←Nat.sub_add_sub_cancel h2 h1,D1 (c-b),List.take_add,Ii,EY h1]
theorem mU:∀(bf a:List Tk),(∀t∈bf,t≠[34])->bf.foldl eN (a,B2)=(a++bf,B2):=by
 intro bf
 induction bf with
 |nil=>
  intro a _
  exact U (CE ..) R
 |cons t bf b=>
  intro a h;refine BK FD ?_;have:eN (a,B2) t=(a++[t],B2):=by unfold eN;exact(if_neg (h t (.head _)))
  exact U this (BK (b _ λt ao=>h t (.tail _ ao)) (U (Cu ..) R))
theorem p4(ys:List O):cb (jQ B0 ys)=f4 ys:=by
 refine BK (mj ..) ?_
 cases ys with
 |nil=>rfl
 |cons y r=>
  refine(?_:cb y++(((r.map cb).map ([]++·)).flatten)=_);unfold f4;exact U CR (bP DK (U (show(λx:List Nat=>[]++x)=id from R) (U (HI ..) R)))
variable{bf:List Tk}
theorem zk(a:cb x=bf.flatten)(d:wf bf):cb (iC x)=(h7 (bf.foldl eN ([],B2))).flatten:=by
 unfold iC;refine U (show("\"":O)=⟨#[34]⟩from R) (U (empty_one ..) ?_)
 by_cases b:34∈cb x
 .refine U (decide_eq_true b) (U (if_neg (by decide)) ?_)
  have g:er x=jO bf 0:=by
   unfold er;refine U (show x.cps.toList=bf.flatten from a)<|s5 bf 0 d
  have S:=xw x bf [] (0,B2,[]) ([],B2) a ⟨BJ _,λi=>⟨R,R⟩,λi h=>nomatch h⟩;have j:c9 x (er x).length=(jO bf 0).foldl (ia x) (0,B2,[]):=by unfold c9;exact U Dg (U g R)
  refine(?_:cb (De _ (if(c9 x (er x).length).1<_ then _ else _))=_);refine U j ?_;have S:SI (cb x) (cb x).length ((jO bf 0).foldl (ia x) (0,B2,[])) (bf.foldl eN ([],B2)):=S;generalize (jO bf 0).foldl (ia x) (0,B2,[])=f at S⊢;generalize bf.foldl eN ([],B2)=s at S⊢
  have k:f4 f.2.2++ge (cb x) f.1 (cb x).length=(h7 s).flatten:=by
   unfold h7;refine bP Dv ?_
   cases c:f.2.1 with
   |none=>
    obtain⟨l,m⟩:=S.no c
    refine U l (U m ?_);simp
   |some o=>
    obtain⟨n,p,q,bb,r,v⟩:=S.op o c;refine U r (U q (bP (Cu ..) ?_));exact U v (U (uu n p) R)
  rw[←k,eF,show ∀ys,cb (De B0 ys)=f4 ys from p4];split
  .refine BK (um ..) ?_;unfold f4;simp[qC]
  .have:=S.le;exact U (show f.1=(cb x).length by exact Cg this (BP.mp ‹¬f.fst<(cb x).length›)) (U (nQ ..) (bP (CE ..) R))
 .refine U (decide_eq_false b) (U (if_pos (by decide)) (BK a (U (mU bf [] λt ao e=>b (U a (J7.mpr ⟨t,ao,U e (.head _)⟩))) ?_)));refine(?_:_=([]++bf++[]).flatten);exact U (CE ..) R
noncomputable def fZ:List Tk->Nat->Bool
 |[],n=>n==0
 |t::r,n=>if t=[40]then fZ r (n+1)else if t=[41]then(match n with|0=>BQ|m+1=>fZ r m)else fZ r n
theorem zb:∀(bf:List Tk)(i n:Nat),hV (jO bf i) n=fZ bf n:=by
 intro bf
 induction bf with
 |nil=>
  intro _ _
  exact R
 |cons t bf c=>
  intro i n;have h1:(kF t="(")↔t=[40]:=⟨λh=>congrArg cb h,λh=>U h R⟩;have h2:(kF t=")")↔t=[41]:=⟨λh=>congrArg cb h,λh=>U h R⟩;refine(?_:(if kF t="(" then _ else if kF t=")" then _ else _)=if t=[40]then _ else if t=[41]then _ else _)
  by_cases a:t=[40]
  .exact bP (if_pos a) (BK (if_pos (h1.mpr a)) (c _ _))
  .refine bP (if_neg a) (BK (if_neg λh=>a (h1.mp h)) ?_)
   by_cases b:t=[41]
   .refine bP (if_pos b) (BK (if_pos (h2.mpr b)) ?_)
    cases n with
    |zero=>rfl
    |succ n=>exact c _ _
   .exact bP (if_neg b) (BK (if_neg λh=>b (h2.mp h)) (c _ _))
theorem yE(a:cb x=bf.flatten)(b:wf bf)(c:wf (h7 (bf.foldl eN ([],B2)))):iq x=fZ (h7 (bf.foldl eN ([],B2))) 0:=by
 unfold iq er;exact U (show(iC x).cps.toList=_ from zk a b) (U (s5 _ 0 c) ((zb ..)))
theorem un(h:w∈gH):∃c,cb w=[c]:=by
 have:=(pj h).O7;rw[eF]at this
 match a:cb w,this with
 |[c],_=>exact⟨c,R⟩
noncomputable def eD(aR:List O):List Tk:=aR.flatMap λw=>[[40],92::cb w]
theorem so(aR:List O):(eD aR).flatten=f4 (aR.map λn=>"(\\"++n):=by
 induction aR with
 |nil=>rfl
 |cons w aR a=>
  have e:eD (w::aR)=[40]::(92::cb w)::eD aR:=R;refine U e (BK DK (U DK (U a (U CR ?_))));unfold f4;exact U CR (bP DK (U (gX ..) R))
theorem p6(av:List (O×O))(l:Nat):cb (gM av l)=(eD (dX av (eh l))).flatten:=by
 unfold gM;exact BK (p4 ..) (bP (so ..) R)
theorem y6(g:List Nat):∀(r:List (List Nat))(y:List Nat),kN g (y::r)++g=((y::r).map (·++g)).flatten:=by
 intro r
 induction r with
 |nil=>
  intro y
  exact(U (CE ..) (bP (CE ..) R):y++[]++g=y++g++[])
 |cons z r a=>
  intro y;have a:=a z
  have e:kN g (y::z::r)=y++g++kN g (z::r):=by
   refine(?_:y++((g++z)++(r.map (g++·)).flatten)=y++g++(z++_));simp only[Cu]
  exact U e (BK (Cu ..) (U a R))
noncomputable def pT:Nat->List Tk
 |0=>[]
 |1=>[[34],[41],[34]]
 |2=>[[34],[40],[34]]
 |3=>[[92,41]]
 |4=>[[34],[92,34],[41],[34]]
 |_=>[[34],[34]]
noncomputable def kT(k:Nat):List Tk:=if k=3 then[[92,41]]else[]
noncomputable def tT:Nat->List Tk
 |0=>[[41]]
 |1=>[[41],[92]]
 |_=>[[34],[41]]
theorem iV(h:c≠92):ir [c]:=.inl ⟨c,h,R⟩
theorem o1(c:Nat):ir [92,c]:=.inr ⟨c,R⟩
noncomputable def tI(t:Tk):Bool:=t.length==if t.head?=H 92 then 2 else 1
theorem AD(h:bf.all tI=u):∀t∈bf,ir t:=λt ao=>by
 have e:=La (Cn.mp h t ao)
 cases t with
 |nil=>exact absurd e (by decide)
 |cons a t=>
  by_cases an:a=92
  .obtain⟨b,rfl⟩:=Gz.mp (If (e.trans (if_pos (congrArg H an))));subst an;exact o1 b
  .cases Eu (If (e.trans (if_neg λq=>an (CO q))));exact iV an
theorem uZ(p:List Tk)(s:KS)(t:Tk):eN (p++s.1,s.2) t=(p++(eN s t).1,(eN s t).2):=by
 obtain⟨a,o⟩:=s;unfold eN
 by_cases h:t=[34]
 .refine BK (if_pos h) (U (if_pos h) ?_);cases o <;> rfl
 .refine BK (if_neg h) (U (if_neg h) ?_);cases o with
  |none=>exact congrArg (·,B2) (Cu ..)
  |some bb=>rfl
theorem wu(p bf:List Tk)(s:KS):bf.foldl eN (p++s.1,s.2)=(p++(bf.foldl eN s).1,(bf.foldl eN s).2):=by
 induction bf generalizing s with
 |nil=>rfl
 |cons t bf a=>exact U FD (U (uZ ..) (a _))
theorem wW:∀k,k<6->cb (ip k)=(pT k).flatten/\(pT k).all tI=u/\(pT k).foldl eN ([],B2)=(kT k,B2):=by decide+kernel
theorem tZ{k:Nat}(h:k<6):cb (ip k)=(pT k).flatten/\(∀t∈pT k,ir t)/\∀a,(pT k).foldl eN (a,B2)=(a++kT k,B2):=by
 refine A3 (wW k h) λh1 h2 b=>?_;refine⟨h1,AD h2,λa=>?_⟩;have:=wu a (pT k) ([],B2);rw[b,CE]at this;exact this
theorem tf{k:Nat}(h:k<3):cb (km k)=(tT k).flatten/\wf (tT k)/\(∀a,h7 ((tT k).foldl eN (a,B2))=a++tT k)/\∀n,fZ (tT k) n=decide (n=1):=by
 have d:∀n:Nat,(match n with|0=>BQ|m+1=>m==0)=decide (n=1):=λn=>by
  cases n with
  |zero=>rfl
  |succ n=>cases n <;> simp
 rcases(by lia:k=0\/k=1\/k=2)with rfl|rfl|rfl
 .exact⟨by decide+kernel,⟨.inl (iV (by decide)),trivial⟩,λa=>by simp[tT,eN,h7],d⟩
 .exact⟨by decide+kernel,⟨.inl (iV (by decide)),.inr ⟨R,R⟩,trivial⟩,λa=>by simp[tT,eN,h7],d⟩
 .exact⟨by decide+kernel,⟨.inl (iV (by decide)),.inl (iV (by decide)),trivial⟩,λa=>by simp[tT,eN,h7],d⟩
theorem oe(k:Nat)(r:List Tk)(n:Nat):fZ (kT k++r) n=fZ r n:=by
 unfold kT;split <;> rfl
theorem pk:∀(aR:List O),(∀w∈aR,∃c,cb w=[c])->∀(r:List Tk)(n:Nat),fZ (eD aR++r) n=fZ r (n+aR.length):=by
 intro aR
 induction aR with
 |nil=>
  intro _ _ _
  exact R
 |cons w aR a=>
  intro h r n;obtain⟨c,aL⟩:=h w (.head _);have e:eD (w::aR)++r=[40]::(92::cb w)::(eD aR++r):=R;have b:fZ ([40]::(92::cb w)::(eD aR++r)) n=fZ (eD aR++r) (n+1):=U aL R;rw[e,b,a (λv hv=>h v (.tail _ hv)),Cd,EG,D1 1]
noncomputable abbrev FF(W:Nat->List O)(m:Nat):List Tk:=(Ch m).flatMap λl=>eD (W l)++[[41]]
theorem ro(W:Nat->List O)(m:Nat)(r:List Tk):FF W (m+1)++r=FF W m++(eD (W m)++[41]::r):=by
 unfold FF;refine U GH (U G4 (BK (Cu ..) ?_))
 congr 1
 refine(?_:(eD (W m)++[[41]]++[])++r=_);exact U (CE ..) ((Cu ..))
section
variable{W:Nat->List O}{S:Nat->Nat}(cM:∀l,S (l+1)=S l+(W l).length)(eg:∀l,∀w∈W l,∃c,cb w=[c])
include cM eg
theorem sz:∀(m:Nat)(r:List Tk)(n:Nat),(∀l,l<m->l<n+S (l+1))->m<=n+S m/\fZ (FF W m++r) (n+S 0)=fZ r (n+S m-m):=by
 intro m
 induction m with
 |zero=>
  intro r n _
  exact⟨Cm _,R⟩
 |succ m a=>
  intro r n h;obtain⟨h1,h2⟩:=a (eD (W m)++[41]::r) n λl b=>h l (C3 b);have c:=h m (B3 _);rw[ro,h2,pk _ (eg m)];have:=cM m;refine⟨by assumption,br (Gv h1) (U (EG ..) (br this (br (IW (Hx c)) R)))⟩
theorem y7(r:List Tk)(n:Nat):∀(m:Nat),(∃l,l<m/\¬l<n+S (l+1))->∀r,fZ (FF W m++r) (n+S 0)=BQ:=by
 intro m
 induction m with
 |zero=>
  rintro⟨l,h,_⟩ _
  exact nomatch h
 |succ m c=>
  rintro⟨l,h,ac⟩ r;refine U (ro ..) ?_
  by_cases a:∃l,l<m/\¬l<n+S (l+1)
  .exact c a _
  .have b:=λl d=>Dp λh=>a ⟨l,d,h⟩;obtain⟨h1,h2⟩:=sz cM eg m (eD (W m)++[41]::r) n b
   have:l=m:=by
    by_cases q:l<m
    .exact(ac (b l q)).elim
    .exact Cg (a0 [_,_] aC b1 ak af al h) (BP.mp q)
   subst this;have:=cM l;rw[h2,pk _ (eg l),←Gv h1,EG,←this,Nat.sub_eq_zero_of_le (BP.mp ac)];rfl
end
theorem xv(N:List O)(f:O->Nat)(l:Nat):(N.filter λw=>decide (f w<l+1)).length=(N.filter λw=>decide (f w<l)).length+(N.filter λw=>decide (l=f w)).length:=by
 induction N with
 |nil=>rfl
 |cons x N a=>
  refine U CW (U CW (U CW ?_));rcases Hy (f x) l with h|h|h
  .refine U (if_pos (decide_eq_true (DF _ ‹_›))) (U (if_pos (decide_eq_true h)) (U (if_neg (by simp;exact D0 ‹_›)) (BK Cd (U Cd (U a ?_)))));exact Cg (h0 [_,_] (aq (aq ak af) a7) (aq aC af) al) (h0 [_,_] (aq aC af) (aq (aq ak af) a7) al)
  .exact U (if_pos (decide_eq_true (by exact a0 [_,_] ak af aC b1 al (eL h)))) (U (if_neg (by simp;exact(eR h))) (U (if_pos (decide_eq_true h.symm)) (BK Cd (U Cd (U a R)))))
  .exact U (if_neg (by simp;assumption)) (U (if_neg (by simp;exact Cz ‹_›)) (U (if_neg (by simp;exact BZ ‹_›)) (a)))
section
variable{p:aD}(ai:p.Ok){aR:List O}(jU:aR.Perm p.aG){g:O->Bool}{f:O->Nat}(aJ:∀w∈p.aG,f w<p.d)
noncomputable def WW(aR:List O)(f:O->Nat)(l:Nat):List O:=aR.filter λw=>decide (l=f w)
include ai jU aJ
theorem sb{k0 k1 kt:Nat}(v:k0<6)(h1:k1<6)(ao:kt<3){B:O}{b:List Tk}(x:cb B=b.flatten)(ac:∀t∈b,ir t/\t≠[34]):
  iq (B++iU (aR.map λw=>(dB (g w) (f w),w)) p.d (ip k0) (ip k1) (km kt))=fZ (b++(kT k0++(FF (WW aR f) (p.d-1)++(kT k1++(eD (WW aR f (p.d-1))++tT kt))))) 0:=by
 obtain⟨z,n⟩:=p.Oj ai;refine A3 (tZ v) λcj cq du=>?_;refine A3 (tZ h1) λA C D=>?_;refine A4 (tf ao) λc7 fx fR L=>?_;have o:∀l,l<p.d->dX (aR.map λw=>(dB (g w) (f w),w)) (eh l)=WW aR f l:=λl j=>(tA (λw d=>BL (aJ w (jU.mem_iff.mp d)) n) (BL j n)).2;have nm:∀l,∀w∈WW aR f l,∃c,cb w=[c]:=λl w d=>un (aD.Qv (jU.mem_iff.mp (B8.mp d).1))
 have i:∀l,∀t∈eD (WW aR f l),ir t/\t≠[34]:=λl t h=>by
  obtain⟨w,d,h⟩:=Go.mp h;obtain⟨c,aL⟩:=nm l w d;simp only[BX,EO,or_false,aL]at h;rcases h with rfl|rfl
  .exact⟨iV (by decide),by decide⟩
  .exact⟨o1 c,λh=>by injection h with _ h;cases h⟩
 have m:∀t∈FF (WW aR f) (p.d-1),ir t/\t≠[34]:=λt h=>by
  obtain⟨l,_,h⟩:=Go.mp h;rcases CA.mp h with h|h
  .exact i l t h
  .exact U (BO.mp h) ⟨iV (by decide),by decide⟩
 have E:cb (B++iU (aR.map λw=>(dB (g w) (f w),w)) p.d (ip k0) (ip k1) (km kt))=(b++(pT k0++(FF (WW aR f) (p.d-1)++(pT k1++(eD (WW aR f (p.d-1))++tT kt))))).flatten:=by
  have F:cb (jQ ")" (fM (aR.map λw=>(dB (g w) (f w),w)) (p.d-1)))++cb ")"=(FF (WW aR f) (p.d-1)).flatten:=by
   refine U (mj ..) ?_;unfold fM;refine U CJ ?_
   have e:(Ch (p.d-1)).map (cb∘gM (aR.map λw=>(dB (g w) (f w),w)))=(Ch (p.d-1)).map λl=>(eD (WW aR f l)).flatten:=Jt λl j=>by
    have:=CU.mp j;refine(?_:cb (gM _ l)=_);exact BK (p6 ..) (U (o l (aV [_,_,_] aC au au af aC af al this (DY _ _))) R)
   refine U e ?_
   have:∀a4:List Nat,((a4.map λl=>(eD (WW aR f l)).flatten).map (·++[41])).flatten=(a4.flatMap λl=>eD (WW aR f l)++[[41]]).flatten:=λa4=>by
    induction a4 with
    |nil=>rfl
    |cons l a4 G=>
     rw[CR,CR,DK,G,F8,Dv,Dv];rfl
   refine br (this ..) ?_
   cases I:(Ch (p.d-1)).map λl=>(eD (WW aR f l)).flatten with
   |nil=>
    have:=congrArg E3 I;rw[BH,Ct]at this;have:p.d-1=0:=this
    lia
   |cons y r=>exact y6 _ r y
  unfold iU;simp only[gX,Dv,Cu,x,cj,A,c7,p6,o (p.d-1) ((eL (Cc (a0 [_] (nA 4) ak a7 ak al z))))];exact br F (U (Cu ..) R)
 have q:∀T,(∀a,h7 ((tT kt).foldl eN (a,B2))=a++T)->h7 ((b++(pT k0++(FF (WW aR f) (p.d-1)++(pT k1++(eD (WW aR f (p.d-1))++tT kt))))).foldl eN ([],B2))=b++(kT k0++(FF (WW aR f) (p.d-1)++(kT k1++(eD (WW aR f (p.d-1))++T)))):=λT K=>by
  refine U DJ (U (mU b [] λt h=>(ac t h).2) (U DJ (U (du ..) (U DJ (U (mU _ _ λt h=>(m t h).2) (U DJ (U (D ..) (U DJ (U (mU _ _ λt h=>(i _ t h).2) (BK (K ..) ?_))))))))));simp only[Cu,ED]
 have s:∀k,∀t∈kT k,ir t:=λk t h=>by
  unfold kT at h;split at h
  .exact U (BO.mp h) (o1 _)
  .cases h
 rw[yE E (iu (λt h=>(ac t h).1) (iu cq (iu (λt h=>(m t h).1) (iu C (iu (λt h=>(i _ t h).1) fx))))),q _ fR];refine U (q _ fR)<|iu (λt h=>(ac t h).1) (iu (s _) (iu (λt h=>(m t h).1) (iu (s _) (iu (λt h=>(i _ t h).1) fx))))
theorem qZ{k1 kt:Nat}(ao:kt<3)(n:Nat):((∀k,k<p.d->k<n+(p.aG.filter λw=>decide (f w<=k)).length)->fZ (FF (WW aR f) (p.d-1)++(kT k1++(eD (WW aR f (p.d-1))++tT kt))) n=decide (n=0))/\(n=0->(∃k,k<p.d/\¬k<(p.aG.filter λw=>decide (f w<=k)).length)->fZ (FF (WW aR f) (p.d-1)++(kT k1++(eD (WW aR f (p.d-1))++tT kt))) n=BQ):=by
 obtain⟨g,s⟩:=p.Oj ai
 have cM:∀l,(p.aG.filter λw=>decide (f w<l+1)).length=(p.aG.filter λw=>decide (f w<l)).length+(WW aR f l).length:=λl=>by
  rw[xv,WW,(jU.filter _).length_eq]
 have nm:∀l,∀w∈WW aR f l,∃c,cb w=[c]:=λl w a=>un (aD.Qv (jU.mem_iff.mp (B8.mp a).1));have i:(p.aG.filter λw=>decide (f w<0)).length=0:=U (DL.mpr λw m=>by simp) R
 have b:∀l,(p.aG.filter λw=>decide (f w<=l)).length=(p.aG.filter λw=>decide (f w<l+1)).length:=λl=>by
  congr 1
  exact Fe λw m=>decide_eq_decide.mpr Nat.lt_succ_iff.symm
 have j:(p.aG.filter λw=>decide (f w<p.d)).length=p.d:=by
  exact U (ET.mpr λw a=>decide_eq_true (aJ w a)) ((p.Ox ai))
 refine⟨λh=>?_,λo q=>?_⟩
 .obtain⟨aT,aX⟩:=sz (S:=λl=>(p.aG.filter λw=>decide (f w<l)).length) cM nm (p.d-1) (kT k1++(eD (WW aR f (p.d-1))++tT kt)) n λl r=>by
   have:=h l (aV [_,_,_] aC au au af aC af al r (DY _ _));rw[b]at this;exact this
  simp only[i,GF]at aX;rw[aX,oe,pk _ (nm _),(tf ao).2.2.2];have e:=cM (p.d-1);rw[show p.d-1+1=p.d by exact Cg (eL (Cc (a0 [_] (nA 4) ak a7 ak al g))) (sA _ _),j]at e;have aT:=aT;exact decide_eq_decide.mpr (wq ((Cc (BG (by decide) g)).trans e) aT)
 .obtain⟨k,d,ac⟩:=q;subst o
  have:=y7 (S:=λl=>(p.aG.filter λw=>decide (f w<l)).length) cM nm [] 0 (p.d-1) ⟨k,by
   refine Do (aV [_,_,_] aC au au b1 ak af al d (sA _ _)) λe=>?_;rw[b,show k+1=p.d by exact Cg d (aV [_,_,_] au af ak bV ak b1 al (eR e) (sA _ _)),j]at ac;exact ac d,by rw[b]at ac;exact U (Ek ..) ac⟩ (kT k1++(eD (WW aR f (p.d-1))++tT kt))
  simp only[i,GF]at this;exact this
end
noncomputable def gi(xs:List O):Int:=(((xs.filter (·==("\n":O))).length:Nat):Int)
theorem mi(ch:O)(xs:List O)(ap:Int):c4 ch ap+gi xs=ap+gi (ch::xs):=by
 unfold c4 gi;refine U CW ?_
 by_cases h:ch="\n"
 .exact U (if_pos h) (U (if_pos (beq_iff_eq.mpr h)) (U Cd ((Int.add_assoc ap 1 _).trans (congrArg (ap+·) (Jb 1 _)))))
 .exact U (if_neg h) (U (if_neg λq=>h (beq_iff_eq.mp q)) R)
theorem m0(stop:O->Bool)(n:Nat)(xs:List O)(a:O)(ap:Int)(_:xs.length<=n):(dv stop xs a ap).2.2+gi (dv stop xs a ap).2.1=ap+gi xs:=by
 refine oT (φ:=λxs=>∀a ap,(dv stop xs a ap).2.2+gi (dv stop xs a ap).2.1=ap+gi xs) xs (λb b=>R) (λch a ap=>?_) (λch e r c d a ap=>?_) a ap
 .have:=mi ch [] ap;rw[n4];split
  .exact this
  .split <;> exact this
 .have h1:=mi ch (e::r) ap;rw[l9];split
  .exact h1
  .split
   .exact BK (c ..) (BK (mi e r (c4 ch ap)) (h1))
   .exact BK (d ..) (h1)
set_option tactic.hygienic true in
theorem o6:∀(xs:List O)(ap:Int),(dC xs ap).2.2+gi (dC xs ap).2.1=ap+gi xs:=by
 intro r
 induction r with
 |nil=>
  intro ap
  exact R
 |cons ch r a=>
  intro ap;have h1:=mi ch r ap;rw[mv];split
  .exact BK (a ..) (h1)
  .split
   .exact BK (m0 _ _ r _ _ (BJ _)) (h1)
   .split
    .split
     .exact BK (m0 _ _ [] _ _ (BJ _)) (h1)
     .rename_i e b
      exact BK (m0 _ _ b _ _ (BJ _)) (BK (mi ..) (h1))
    .exact BK (m0 _ _ r _ _ (BJ _)) (h1)
noncomputable def gW(stop:O->Bool):List O->O->Option (O×List O)
 |[],_=>B2
 |[ch],a=>if stop ch then H (a,[])else B2
 |ch::e::r,a=>if stop ch then H (a,e::r)else if ch="\\" then gW stop r (a++e)else gW stop (e::r) (a++ch)
theorem zp{stop:O->Bool}{ch a:O}:gW stop [ch] a=if stop ch then H (a,[])else B2:=R
theorem vc{stop:O->Bool}{ch e a:O}{r:List O}:gW stop (ch::e::r) a=if stop ch then H (a,e::r)else if ch="\\" then gW stop r (a++e)else gW stop (e::r) (a++ch):=R
noncomputable def jZ:List O->Option (O×List O)
 |[]=>B2
 |ch::r=>if fN ch then jZ r else if ch="\"" then gW lL r B0 else if ch="\\" then(match r with
   |[]=>B2
   |e::a=>gW fN a (B0++e))else gW fN r (B0++ch)
theorem uR{ch:O}{r:List O}:jZ (ch::r)=if fN ch then jZ r else if ch="\"" then gW lL r B0 else if ch="\\" then(match r with
   |[]=>B2
   |e::a=>gW fN a (B0++e))else gW fN r (B0++ch):=R
set_option tactic.hygienic true in
theorem ot{stop:O->Bool}(n:Nat){bb:List O}{a t:O}{r:List O}(_:bb.length<=n)(h:gW stop bb a=H (t,r))(cw:List O)(ap:Int):∃cC,dv stop (bb++cw) a ap=(t,r++cw,cC):=by
 refine oT (φ:=λbb=>∀a ap,gW stop bb a=H (t,r)->∃cC,dv stop (bb++cw) a ap=(t,r++cw,cC)) bb (λb b h=>nomatch h) (λch a ap h=>?_) (λch e bb c d a ap h=>?_) a ap h
 .rw[zp]at h
  by_cases h1:stop ch=u
  .replace h:=(if_pos h1).symm.trans h;cases h;exact⟨_,p2 h1⟩
  .replace h:=(if_neg h1).symm.trans h;cases h
 .rw[vc]at h
  by_cases h1:stop ch=u
  .replace h:=(if_pos h1).symm.trans h;cases h;exact⟨_,p2 h1⟩
  .replace h:=(if_neg h1).symm.trans h;show ∃cC,dv stop (ch::e::(bb++cw)) a ap=_;rw[l9];refine U (if_neg h1) ?_;split at h
   .rename_i h2
    refine U (if_pos h2)<|c _ _ h
   .rename_i h2
    refine U (if_neg h2)<|d _ _ h
theorem zF:∀{bb:List O}{t:O}{r:List O},jZ bb=H (t,r)->∀(cw:List O)(ap:Int),∃cC,dC (bb++cw) ap=(t,r++cw,cC):=by
 intro bb
 induction bb with
 |nil=>
  intro _ _ h _ _
  exact nomatch h
 |cons ch bb a=>
  intro t r h cw ap;rw[uR]at h;show ∃cC,dC (ch::(bb++cw)) ap=_;rw[mv];split at h
  .exact U (if_pos ‹_›) (a h cw _)
  .refine U (if_neg ‹_›) ?_;split at h
   .exact U (if_pos ‹_›) (ot _ (BJ _) h cw _)
   .refine U (if_neg ‹_›) ?_;split at h
    .refine U (if_pos ‹_›) ?_;split at h
     .cases h
     .exact ot _ (BJ _) h cw _
    .exact U (if_neg ‹_›) (ot _ (BJ _) h cw _)
theorem sE:∀(v:List O),v.all fN=u->∀(cw:List O)(ap:Int),∃cC,dC (v++cw) ap=dC cw cC:=by
 intro v
 induction v with
 |nil=>
  intro _ cw ap
  exact⟨ap,R⟩
 |cons ch v a=>
  intro h cw ap;rw[List.all_cons,Cv]at h;obtain⟨cC,q⟩:=a h.2 cw (c4 ch ap);refine⟨cC,BK ?_ q⟩;refine(?_:(if fN ch=u then _ else _)=_);exact(if_pos h.1)
theorem u2:(gH.all λv=>(Ch 4).all λa=>(Ch 4).all λb=>match jZ (dn (iM v a++kV b))with|some (t,r)=>t==v&&r.all fN|none=>BQ)=u:=by decide+kernel
theorem xp{v:O}(h:v∈gH)(n:Nat):∃r,jZ (dn (k4 v n))=H (v,r)/\r.all fN=u:=by
 have:=Cn.mp (Cn.mp (Cn.mp u2 v h) (n/11%4) (CU.mpr (CZ _ (by decide)))) (n/44%4) (CU.mpr (CZ _ (by decide)));unfold k4
 revert this
 cases jZ (dn (iM v (n/11%4)++kV (n/44%4)))with
 |none=>exactλh=>nomatch h
 |some q=>
  intro this;have this:=this;rw[Cv,beq_iff_eq]at this;exact⟨q.2,br this.1 R,this.2⟩
theorem Ak:((Ch 4).all λk=>(dC (dn (hk k)) 0).1==("z":O)&&(dC (dC (dn (hk k)) 0).2.1 0).1==B0&&(dC (dC (dn (hk k)) 0).2.1 0).2.1==[])=u:=by decide+kernel
theorem nR(stop:O->Bool)(n:Nat)(xs:List O)(a:O)(ap cC:Int)(_:xs.length<=n):(dv stop xs a ap).1=(dv stop xs a cC).1/\(dv stop xs a ap).2.1=(dv stop xs a cC).2.1:=by
 refine oT (φ:=λxs=>∀a ap cC,(dv stop xs a ap).1=(dv stop xs a cC).1/\(dv stop xs a ap).2.1=(dv stop xs a cC).2.1) xs (λb b b=>⟨R,R⟩) (λch a ap cC=>?_) (λch e r c d a ap cC=>?_) a ap cC
 .rw[n4,n4];split
  .exact⟨R,R⟩
  .split <;> exact⟨R,R⟩
 .rw[l9,l9];split
  .exact⟨R,R⟩
  .split
   .exact c _ _ _
   .exact d _ _ _
theorem rL:∀(xs:List O)(ap cC:Int),(dC xs ap).1=(dC xs cC).1/\(dC xs ap).2.1=(dC xs cC).2.1:=by
 intro r
 induction r with
 |nil=>
  intro _ _
  exact⟨R,R⟩
 |cons ch r a=>
  intro ap cC;rw[mv,mv];split
  .exact a _ _
  .split
   .exact nR _ _ r _ _ _ (BJ _)
   .split
    .split
     .exact nR _ _ [] _ _ _ (BJ _)
     .exact nR _ _ _ _ _ _ (BJ _)
    .exact nR _ _ r _ _ _ (BJ _)
theorem mp(x:O):dn x=(cb x).map λc=>⟨#[c]⟩:=R
theorem zt(a b:O):dn (a++b)=dn a++dn b:=BK (mp ..) (U (mp ..) (U (mp ..) (U (gX ..) (Cb))))
theorem xC:∀ys:List O,dn (jQ B0 ys)=ys.flatMap dn:=λys=>by
 refine BK (mp ..) (U (p4 ..) ?_);unfold f4
 induction ys with
 |nil=>rfl
 |cons y ys a=>exact U CR (U DK (BK Cb (U a (bP F8 R))))
theorem vg(x:O):gi (dn x)=IS x "\n":=by
 refine U (show("\n":O)=⟨#[10]⟩from R) (bP (count_cnt ..) (U (mp ..) ?_));refine(?_:_=cnt 10 (cb x))
 induction cb x with
 |nil=>rfl
 |cons c r a=>
  refine bP (cnt_cons ..) (br a (U CR ?_));unfold gi;refine U CW ?_
  by_cases h:c=10
  .subst h;refine U (if_pos R) (U (if_pos (by decide+kernel)) (U Cd ?_));lia
  .refine U (if_neg h) (U (if_neg λq=>h (by have:=congrArg cb (beq_iff_eq.mp q);injection this)) ?_);(simp <;> lia)
theorem yB(x:O):∀k,(dw x k).ee+gi (dw x k).dU=1+gi (dn x):=by
 intro k
 induction k with
 |zero=>
  exact R
 |succ k a=>
  exact(o6 _ _).trans (a)
theorem vl(p:aD):∀k,k<=p.Od.length->(dw p.N7 k).Pp=p.Od.take k/\∃v,v.all fN=u/\(dw p.N7 k).dU=v++((p.Od.drop k).flatMap (λw=>dn (p.PU w))++dn (hk (p.Og 0/880%4))):=by
 intro k
 induction k with
 |zero=>
  intro _;exact⟨R,[],R,by
  refine(?_:dn p.N7=_);unfold aD.N7 aD.Qk
  exact BK (zt ..) (U (xC ..) (U (List.flatMap_map ..) R))⟩
 |succ k c=>
  intro a;obtain⟨h1,v,h2,b⟩:=c (Cz ‹_›);obtain⟨r,a2,bH⟩:=xp (aD.Qv (aD.O6.mp (Ft a))) (p.O8 p.Od[k]);rw[DS a,F8,Cu]at b;obtain⟨d,aT⟩:=sE v h2 (dn (p.PU p.Od[k])++((p.Od.drop (k+1)).flatMap (λw=>dn (p.PU w))++dn (hk (p.Og 0/880%4)))) (dw p.N7 k).ee;obtain⟨e,aX⟩:=zF a2 ((p.Od.drop (k+1)).flatMap (λw=>dn (p.PU w))++dn (hk (p.Og 0/880%4))) d;have q:dC (dw p.N7 k).dU (dw p.N7 k).ee=(p.Od[k],r++((p.Od.drop (k+1)).flatMap (λw=>dn (p.PU w))++dn (hk (p.Og 0/880%4))),e):=U b (BK aT aX);show(dw p.N7 k).Pp++[(dC _ _).1]=_/\∃v,_/\(dC (dw p.N7 k).dU (dw p.N7 k).ee).2.1=_;refine U q (U h1 (U CX (U (BU a) ?_)));exact⟨R,r,bH,R⟩
theorem uJ(ai:p.Ok):(dw p.N7 p.d).Pp=p.Od/\∃a2 bH a d,pF p (dw p.N7 p.d).dU (dw p.N7 p.d).ee a2 bH a d:=by
 have aL:=aD.Pw ai;obtain⟨h1,v,h2,l⟩:=vl p p.d (dH aL (BJ _));rw[←aL,Dg,aL]at h1;refine⟨h1,?_⟩;rw[←aL,Gp,aL,List.flatMap_nil,ED]at l;have m:=Cn.mp Ak (p.Og 0/880%4) (CU.mpr (CZ _ (by decide)));rw[Cv,Cv,beq_iff_eq,beq_iff_eq,beq_iff_eq]at m;obtain⟨⟨x,g⟩,h⟩:=m;obtain⟨y,q⟩:=sE v h2 (dn (hk (p.Og 0/880%4))) (dw p.N7 p.d).ee;rw[←l]at q;obtain⟨cj,cq⟩:=rL (dn (hk (p.Og 0/880%4))) y 0;rw[←q,x]at cj;rw[←q]at cq;have e:=o6 (dw p.N7 p.d).dU (dw p.N7 p.d).ee;have i:=rE (dw p.N7 p.d).dU (dw p.N7 p.d).ee
 cases n:dC (dw p.N7 p.d).dU (dw p.N7 p.d).ee with
 |mk t q=>
  obtain⟨a2,a⟩:=q;rw[n]at cj cq e i;have cj:=cj;have cq:a2=_:=cq;subst cj;obtain⟨b,c⟩:=rL a2 a 0;have g:=(congrArg (λr=>(dC r 0).1) cq).trans g;have h:=(congrArg (λr=>(dC r 0).2.1) cq).trans h;have b:=b.trans g;have c:=c.trans h;have f:=o6 a2 a
  cases o:dC a2 a with
  |mk D z=>
   obtain⟨bH,d⟩:=z;rw[o]at b c f;have b:=b;have c:bH=[]:=c;subst b c;have A:=yB p.N7 p.d;have j:=po p.N7 p.d;have B:=BG j.length_le (a3 (rN ..) ((p.Qo ai).1));refine⟨a2,[],a,d,n,o,?_,⟨λs k=>pv s (j.mem k),λs k=>pv s (j.mem (i.mem k))⟩,⟨BG ‹_› (DD R),?_⟩,λaZ w C=>?_⟩
   .refine br (vg ..) ?_;have e:a+gi a2=_:=e;have f:d+gi []=a+gi a2:=f;have:gi []=0:=R;exact(Int.add_zero d).symm.trans (f.trans (e.trans A))
   .have:a2.length<=_:=i.length_le;exact aV [_,_] af (nA 33) ak af ak (nA 800) al B this
   .exact(mm p).eq (tv C (w.nodup_iff.mpr p.Rr)) ((w.trans p.PD).symm)
end
section
set_option tactic.hygienic false
noncomputable def FT:List (M×M×O):=[(298,294,i6),(344,342,jr)]
theorem fX{c:Bx}(h:c.k=FT){a:M}(e:(a==294||a==342)=BQ):¬c.N9 a:=λt=>by
 obtain⟨p,ai,q⟩:=t;rw[h]at ai;rcases eU ai with rfl|rfl <;> rw[←q]at e <;> cases e
noncomputable def fg(K:KI)(a:M):Ge:=(K.lookup a).getD JJ
noncomputable def qt(K:KI)(a:M):Z:=match (fg K a).data with| .func fd=>fd.pyModule|_=>.none
noncomputable def kL(K:KI)(a:M):Array Z:=match (fg K a).data with| .fields vs=>vs|_=>#[]
noncomputable def hC(K:KI)(a:M):Array Lc×Nat:=match (fg K a).data with| .dict bS n=>(bS,n)|_=>(#[],0)
noncomputable def kq(v:Z):O×Jg:=match v with| .str x t=>(x,t)|_=>(B0,0)
noncomputable def i4(K:KI)(a:M)(x:O):Option Z:=((hC K a).1.toList.find? (·.key.isStr x)).map (·.val)
section
variable{K:KI}{c:Bx}{a cc:M}
theorem zC(X:K.In c.i)(e:K.lookup a=H ⟨(fg K a).cls,(fg K a).dict,.dict (hC K a).1 (hC K a).2,(fg K a).slots⟩)(h:(hC K a).1.toList.map (·.key)=(hC K a).1.toList.map λe=>.str (kq e.key).1 (kq e.key).2):c.i.Ns a (i4 K a):=
 ⟨_,(hC K a).1,_,X _ _ e,R,λx b=>⟨_,_,List.map_inj_left.mp h x (Array.mem_toList_iff.mpr b)⟩,λbj=>by unfold i4 nsFind findBy;rw[Array.find?_toList]⟩
theorem fU(X:K.In c.i)(ao:c.k=FT){ah nm:O}{d:Ep}{b:List DZ}{s:Ef}{bi bz:Z}(f:(a==294||a==342)=BQ)(g:(cc==294||cc==342)=BQ)
  (e:K.lookup a=H ⟨.type "function",(fg K a).dict,.func (HV ah nm d b s bi bz .none (qt K a) B2 (.ref cc) .none),(fg K a).slots⟩)
  (h:(K.lookup cc,(kL K cc)[1]?)=(H ⟨(fg K cc).cls,(fg K cc).dict,.fields (kL K cc),(fg K cc).slots⟩,H (.str nm (kq ((kL K cc)[1]?.getD .none)).2))):fi c a ah nm d b s bi bz cc:=
 ⟨fX ao f,fX ao g,⟨_,_,_,_,_,X _ _ e,R,R⟩,_,_,_,X _ _ (congrArg Ms h),R,congrArg Mr h⟩
noncomputable def rj(K:KI)(a:M):Lc:=(hC K a).1.getD 0 JJ
theorem nU(X:K.In c.i)(ao:c.k=FT){d k:M}{n t}(a:K.lookup d=H ⟨.type "tuple",B2,.seq #[.int 0 t,.none] n,#[]⟩)(b:K.lookup k=H ⟨(fg K k).cls,(fg K k).dict,.dict #[⟨(rj K k).hash,.str "key" (kq (rj K k).key).2,.none⟩] (hC K k).2,(fg K k).slots⟩)
  (e:(d==294||d==342)=BQ)(f:(k==294||k==342)=BQ):d7 c (.ref d) (.ref k):=
 ⟨.mk d ⟨.type "tuple",B2,.seq #[.int 0 t,.none] n,#[]⟩ t n (fX ao e) (X _ _ a),.mk k (fg K k) _ _ _ (fX ao f) (X _ _ b)⟩
end
noncomputable def pi(P:L3):LA:=⟨λn=>[(74,73),(56,55),(65,64),(47,46),(81,80),(88,87),(95,94),(102,101),(299,298),(306,305),(313,312),(318,317),(323,322),(328,327),(333,332),(340,339),(345,344),(116,115),(123,122),(130,129),(137,136),(182,181),(189,188),(227,226),(252,251),(285,284)].getD n (0,0),λn=>[(.ref 66,.ref 67),(.ref 48,.ref 49),(.ref 57,.ref 58),(.ref 39,.ref 40),(.ref 175,.none)].getD n (.none,.none),λn=>[140,139,288,287,154,159].getD n 0,λn=>if n=0 then i4 (dA P) 139 else i4 (dA P) 287⟩
section
variable{c:Bx}{dW fK:O->Option Z}
theorem fy(X:(dA c.w.params).In c.i)(ao:c.k=FT)(G:c.i.Ns C1 dW)(B:c.i.Ns Dy fK){x:O}{v:Z}(e:nsIn (dA c.w.params) C1 x=H (H v)):cr c x v:=
 ⟨dW,fK,⟨G,B,fX ao R,fX ao R⟩,.inl (mg_of X G e)⟩
theorem gV(X:(dA c.w.params).In c.i)(ao:c.k=FT)(G:c.i.Ns C1 dW)(B:c.i.Ns Dy fK)(ac:∀x:O,x≠"__name__"->fK x=H0 x){x:O}{v:Z}
  (e:nsIn (dA c.w.params) C1 x=H B2)(a:x≠"__name__")(hv:H0 x=H v):cr c x v:=
 ⟨dW,fK,⟨G,B,fX ao R,fX ao R⟩,.inr ⟨mg_none_of X G e,(ac x a).trans hv⟩⟩
theorem i0{i j N:Nat}{ah nm:O}{bi bz:Z}{f cc:M}(X:(dA c.w.params).In c.i)(ao:c.k=FT)(a:i4 (dA c.w.params) N ah=H (.ref f))(b:(f==294||f==342)=BQ)(d:(cc==294||cc==342)=BQ)
  (e:(dA c.w.params).lookup f=H ⟨.type "function",(fg (dA c.w.params) f).dict,.func (HV ah nm (dz i j).l (dz i j).h (dz i j).aM bi bz .none (qt (dA c.w.params) f) B2 (.ref cc) .none),(fg (dA c.w.params) f).slots⟩)
  (h:((dA c.w.params).lookup cc,(kL (dA c.w.params) cc)[1]?)=(H ⟨(fg (dA c.w.params) cc).cls,(fg (dA c.w.params) cc).dict,.fields (kL (dA c.w.params) cc),(fg (dA c.w.params) cc).slots⟩,H (.str nm (kq ((kL (dA c.w.params) cc)[1]?.getD .none)).2))):hd c i j ah nm (i4 (dA c.w.params) N) f cc bi bz:=⟨a,fU X ao b d e h⟩
theorem qx{C N:M}{nm q:O}{bs:List Z}{sn sub col dd k0 k1 k2 k3 k5}(X:(dA c.w.params).In c.i)(ao:c.k=FT)(e:(dA c.w.params).lookup C=H (IF nm q C N bs [.type "object"] u sn sub BQ col dd k0 k1 k2 k3 k5 "object.__new__"))
  (a:(C==294||C==342)=BQ)(b:(N==294||N==342)=BQ)(d:(dA c.w.params).lookup N=H ⟨(fg (dA c.w.params) N).cls,(fg (dA c.w.params) N).dict,.dict (hC (dA c.w.params) N).1 (hC (dA c.w.params) N).2,(fg (dA c.w.params) N).slots⟩)(h:(hC (dA c.w.params) N).1.toList.map (·.key)=(hC (dA c.w.params) N).1.toList.map λe=>.str (kq e.key).1 (kq e.key).2):gG c C N (i4 (dA c.w.params) N):=⟨fX ao a,fX ao b,⟨nm,q,bs,sn,sub,col,dd,k0,k1,k2,k3,k5,X _ _ e⟩,zC X d h⟩
variable(X:(dA c.w.params).In c.i)(ao:c.k=FT)(G:c.i.Ns C1 dW)(B:c.i.Ns Dy fK)(ac:∀x:O,x≠"__name__"->fK x=H0 x)
include X ao G B ac
theorem vk:nl c 95 94 88 87 81 80 where
 y:=fU X ao R R (by kernel_rfl) (by kernel_rfl)
 Og:=fU X ao R R (by kernel_rfl) (by kernel_rfl)
 QL:=fU X ao R R (by kernel_rfl) (by kernel_rfl)
 en:=gV X ao G B ac (by kernel_rfl) (by decide+kernel) (by kernel_rfl)
 Sq:=fy X ao G B (by kernel_rfl)
 Sa:=fy X ao G B (by kernel_rfl)
 cZ:=gV X ao G B ac (by kernel_rfl) (by decide+kernel) (by kernel_rfl)
theorem Bk:hK c 140 139 (i4 (dA c.w.params) 139) 116 115 123 122 130 129 137 136 where
 cp:=qx X ao (nm:="_netrclex") (q:="_netrclex") (bs:=[.type "object"]) (sn:=[]) (sub:=[]) (col:=B2) (dd:=B2) (k0:=B2) (k1:=B2) (k2:=H (.str "_netrclex" 390)) (k3:=H (.str "_netrclex" 398)) (k5:=H (.bool u)) (by kernel_rfl) R R (by kernel_rfl) (by kernel_rfl)
 ga:=by kernel_rfl
 gt:=by kernel_rfl
 sa:=by kernel_rfl
 ih:=by kernel_rfl
 R4:=by kernel_rfl
 a2:=by kernel_rfl
 Q8:=by kernel_rfl
 hO:=i0 X ao (by kernel_rfl) R R (by kernel_rfl) (by kernel_rfl)
 fw:=i0 X ao (by kernel_rfl) R R (by kernel_rfl) (by kernel_rfl)
 Pr:=i0 X ao (by kernel_rfl) R R (by kernel_rfl) (by kernel_rfl)
 Qy:=i0 X ao (by kernel_rfl) R R (by kernel_rfl) (by kernel_rfl)
 SD:=gV X ao G B ac (by kernel_rfl) (by decide+kernel) (by kernel_rfl)
theorem Ae:je c 288 287 (i4 (dA c.w.params) 287) 182 181 189 188 227 226 252 251 285 284 154 159 (.ref 175) where
 cp:=qx X ao (nm:="Headers") (q:="Headers") (bs:=[.type "object"]) (sn:=[]) (sub:=[]) (col:=B2) (dd:=B2) (k0:=B2) (k1:=B2) (k2:=H (.str "Headers" 554)) (k3:=H (.str "Headers" 562)) (k5:=H (.bool u)) (by kernel_rfl) R R (by kernel_rfl) (by kernel_rfl)
 ga:=by kernel_rfl
 gt:=by kernel_rfl
 sa:=by kernel_rfl
 ih:=by kernel_rfl
 hO:=i0 X ao (by kernel_rfl) R R (by kernel_rfl) (by kernel_rfl)
 fw:=i0 X ao (by kernel_rfl) R R (by kernel_rfl) (by kernel_rfl)
 Qd:=i0 X ao (by kernel_rfl) R R (by kernel_rfl) (by kernel_rfl)
 P6:=i0 X ao (by kernel_rfl) R R (by kernel_rfl) (by kernel_rfl)
 Qe:=i0 X ao (by kernel_rfl) R R (by kernel_rfl) (by kernel_rfl)
 d0:=⟨175,⟨.type "tuple",B2,.seq #[.none] 0,#[]⟩,0,R,fX ao R,X _ _ (by kernel_rfl),R⟩
 RN:=⟨⟨.type "re.Pattern",B2,.fields #[.str "[\\x00-\\x1F\\x7F]" 485,.int 32 508,.int 0 0,.none,.none,.ref 153,.int 0 0],#[]⟩,153,_,_,_,_,fX ao R,fX ao R,X _ _ (by kernel_rfl),R,R,R,R,by kernel_rfl,by kernel_rfl,X 153 ⟨.type "tuple",B2,.seq #[.int 14 0,.int 10 0,.int 4 0,.int 1 0,.int 1 0,.int 22 0,.int 0 0,.int 31 0,.int 16 0,.int 127 0,.int 0 0,.int 13 0,.int 7 0,.int 22 0,.int 0 0,.int 31 0,.int 16 0,.int 127 0,.int 0 0,.int 1 0] 0,#[]⟩ (by kernel_rfl),R,by kernel_rfl⟩
 RH:=⟨⟨.type "re.Pattern",B2,.fields #[.str "[\\x00-\\x08\\x0A-\\x1F\\x7F]" 511,.int 32 542,.int 0 0,.none,.none,.ref 158,.int 0 0],#[]⟩,158,_,_,_,_,fX ao R,fX ao R,X _ _ (by kernel_rfl),R,R,R,R,by kernel_rfl,by kernel_rfl,X 158 ⟨.type "tuple",B2,.seq #[.int 14 0,.int 14 0,.int 4 0,.int 1 0,.int 1 0,.int 9 0,.int 4294966783 0,.int 0 0,.int 0 0,.int 2147483648 0,.int 0 0,.int 0 0,.int 0 0,.int 0 0,.int 0 0,.int 13 0,.int 11 0,.int 9 0,.int 4294966783 0,.int 0 0,.int 0 0,.int 2147483648 0,.int 0 0,.int 0 0,.int 0 0,.int 0 0,.int 0 0,.int 1 0] 0,#[]⟩ (by kernel_rfl),R,by kernel_rfl⟩
 Rd:=gV X ao G B ac (by kernel_rfl) (by decide+kernel) (by kernel_rfl)
 Rm:=gV X ao G B ac (by kernel_rfl) (by decide+kernel) (by kernel_rfl)
 Q4:=gV X ao G B ac (by kernel_rfl) (by decide+kernel) (by kernel_rfl)
 SM:=fy X ao G B (by kernel_rfl)
 SB:=fy X ao G B (by kernel_rfl)
 S7:=gV X ao G B ac (by kernel_rfl) (by decide+kernel) (by kernel_rfl)
end
section
variable{c:Bx}{dW fK:O->Option Z}
theorem y1(X:(dA c.w.params).In c.i)(ao:c.k=FT)(G:c.i.Ns C1 dW)(B:c.i.Ns Dy fK)(ac:∀x:O,x≠"__name__"->fK x=H0 x)(a:Fh<c.i.objs.size):cP c (pi c.w.params) where
 PO:=a
 O5:=fU X ao R R (by kernel_rfl) (by kernel_rfl)
 Om:=fU X ao R R (by kernel_rfl) (by kernel_rfl)
 OS:=fU X ao R R (by kernel_rfl) (by kernel_rfl)
 OV:=fU X ao R R (by kernel_rfl) (by kernel_rfl)
 Pd:=nU (n:=0) (t:=331) X ao (by kernel_rfl) (by kernel_rfl) R R
 Pe:=nU (n:=0) (t:=304) X ao (by kernel_rfl) (by kernel_rfl) R R
 PI:=nU (n:=0) (t:=318) X ao (by kernel_rfl) (by kernel_rfl) R R
 PE:=nU (n:=0) (t:=291) X ao (by kernel_rfl) (by kernel_rfl) R R
 Qs:=fU X ao R R (by kernel_rfl) (by kernel_rfl)
 Pz:=fU X ao R R (by kernel_rfl) (by kernel_rfl)
 Qi:=fU X ao R R (by kernel_rfl) (by kernel_rfl)
 O9:=fU X ao R R (by kernel_rfl) (by kernel_rfl)
 Pf:=fU X ao R R (by kernel_rfl) (by kernel_rfl)
 OW:=fU X ao R R (by kernel_rfl) (by kernel_rfl)
 Pt:=fU X ao R R (by kernel_rfl) (by kernel_rfl)
 Pq:=fU X ao R R (by kernel_rfl) (by kernel_rfl)
 Ps:=fU X ao R R (by kernel_rfl) (by kernel_rfl)
 ee:=fU X ao R R (by kernel_rfl) (by kernel_rfl)
 Rk:=vk X ao G B ac
 n:=Bk X ao G B ac
 bF:=Ae X ao G B ac
 B:=⟨gV X ao G B ac (by kernel_rfl) (by decide+kernel) (by kernel_rfl),gV X ao G B ac (by kernel_rfl) (by decide+kernel) (by kernel_rfl)⟩
 PQ:=fy X ao G B (by kernel_rfl)
 P0:=fy X ao G B (by kernel_rfl)
 Rf:=fy X ao G B (by kernel_rfl)
 Rh:=fy X ao G B (by kernel_rfl)
 RF:=fy X ao G B (by kernel_rfl)
 Ta:=fy X ao G B (by kernel_rfl)
 S2:=fy X ao G B (by kernel_rfl)
 SH:=fy X ao G B (by kernel_rfl)
 Rg:=fy X ao G B (by kernel_rfl)
 SS:=fy X ao G B (by kernel_rfl)
 S6:=fy X ao G B (by kernel_rfl)
 Sw:=fy X ao G B (by kernel_rfl)
 Tf:=fy X ao G B (by kernel_rfl)
 RG:=fy X ao G B (by kernel_rfl)
 S5:=fy X ao G B (by kernel_rfl)
 S3:=fy X ao G B (by kernel_rfl)
 SA:=fy X ao G B (by kernel_rfl)
 RL:=gV X ao G B ac (by kernel_rfl) (by decide+kernel) (by kernel_rfl)
 SJ:=gV X ao G B ac (by kernel_rfl) (by decide+kernel) (by kernel_rfl)
 S1:=gV X ao G B ac (by kernel_rfl) (by decide+kernel) (by kernel_rfl)
 S8:=gV X ao G B ac (by kernel_rfl) (by decide+kernel) (by kernel_rfl)
 QU:=gV X ao G B ac (by kernel_rfl) (by decide+kernel) (by kernel_rfl)
theorem oh(ao:c.k=FT):∀p∈c.k,p=(298,294,i6)\/p=(344,342,jr):=λp ai=>eU (show p∈[(298,294,i6),(344,342,jr)]from(show p∈FT from ao▸ai))
theorem zc{P:L3}(ao:c.k=FT):kC c (pi P):=
 ⟨⟨294,by rw[ao];exact .head _,λp ai e=>(oh ao p ai).elim (λq=>congrArg (·.2.2) q) λq=>absurd ((congrArg (·.2.1) q).symm.trans e) (by decide)⟩,⟨342,by rw[ao];exact .tail _ (.head _),λp ai e=>(oh ao p ai).elim (λq=>absurd ((congrArg (·.2.1) q).symm.trans e) (by decide)) λq=>congrArg (·.2.2) q⟩⟩
end
theorem sm{c:Bx}(h:c.k=FT){P:M}(e:c.N9 P):P∈[294,342]:=by
 obtain⟨p,ai,rfl⟩:=e;rcases oh h p ai with q|q
 .rw[q];exact .head _
 .rw[q];exact .tail _ (.head _)
theorem zs{c:Bx}{dW fK:O->Option Z}{p:Fa}{b:List O}{d:ExcName->Option Z}(X:(dA c.w.params).In c.i)(f:∀P∈[294,342],c.i.get? P=H (JE #[]))(ao:c.k=FT)(T:Top p b d dW fK c.i):c.Ok where
 P9:=T.nolimit
 Sr:=fX ao R
 RW:=λq g=>(oh ao q g).elim (λe=>by rw[e];exact⟨MN X (by kernel_rfl),fX ao R⟩) λe=>by rw[e];exact⟨MN X (by kernel_rfl),fX ao R⟩
 Ow:=by
  refine⟨dW,T.g,λP h=>?_⟩;obtain⟨i,j,cj,cq,du,fp,iK,a⟩:=T.bmain;refine⟨i,j,cj,cq,λe=>?_,λe=>?_,du,fp,iK,a⟩
  .obtain⟨o,bS,k,h1,h2,_⟩:=T.g;rw[←e,du]at h1;cases h1;rw[a]at h2;cases h2
  .have h1:=f P (sm ao h);rw[←e,du]at h1;cases h1;cases fp
 gT:=fX ao R
theorem Af{dW fK:O->Option Z}{p:Fa}{d:List O}{e:ExcName->Option Z}{w:HX}{s:BN}(X:(dA w.params).In s.heap)(b:∀P∈[294,342],s.heap.get? P=H (JE #[]))(T:Top p d e dW fK s.heap)(f:s.gens=#[])
  {l:M}{vs:List Z}{as:List M}{ns:List Int}(g:s.heap.IsList l vs.toArray)(h:C7 s.heap vs (ns.map .int) as)(i:ns.length<=63)(F:kr (iR ns)):E9 (DA PP w) KV (.call (.ref 350) ⟨[.ref l],[]⟩) (ox s) s:=by
 let c:Cx:=⟨⟨PP,w,s.heap,s.os,FT⟩,[]⟩
 have ao:c.k=FT:=R;refine zX (c:=c) (a:=pi w.params) (y1 X ao T.g T.b T.builtins ?_) (zc ao) (cc:=349) (fU X ao R R (by kernel_rfl) (by kernel_rfl)) R R R f (zs X b ao T) (λq j=>?_) g h i F
 .exact GE (by decide:sysModules<294) (Ca (b 294 (.head _)))
 .exact b _ (sm ao ⟨q,j,R⟩)
set_option tactic.hygienic true in
theorem xM(F:∀ns:List Int,kr (iR ns)):DT.Holds:=by
 refine hdd ?_;intro w cA ax dW fK G fa bu o y z A bi bz C hdd E I b c c2 K as d e f g i;have a:=km_in_of fa;have j:=km_tabs_of fa;refine Ground.open G ?_;intro T B D L N;have k:=mg_of (n:="law") (v:=.ref 350) a T.g (by kernel_rfl);cases b.symm.trans k
 wrow_args d e f g i
 rename_i ns P Q S W X ac ae l vs gc m p ah ai am an q ao
 refine enter_call (JT (Af a j T c m p (Hv.mp (DM.mp q)) (F ns)) λr s' h=>?_);obtain⟨rfl,s,t,x⟩:=h;refine⟨.inl ⟨_,.bool u,[],R,raisesW_false (by wrow_none_raised),.bool u,by wrow_post,λ_=>⟨.nil,λ_ h=>nomatch h⟩⟩,s,t,x⟩
theorem wz{l:Nat}(h:l<5)(bb:Bool):(dB bb l).length<=1000000/\BR (CS (dB bb l))=u:=by
 refine jW h ?_ ?_ ?_ ?_ ?_ <;> cases bb <;> decide+kernel
theorem ri{p:aD}(ai:p.Ok){aR:List O}(jU:aR.Perm p.aG){g:O->Bool}{f:O->Nat}(aJ:∀w∈p.aG,f w<p.d):i7 (aR.map λw=>(dB (g w) (f w),w)):=by
 obtain⟨d,c⟩:=p.Oj ai;refine⟨⟨by rw[BH,jU.length_eq,p.Ox ai];exact BG c (by decide),λq a=>?_⟩,λq a=>?_⟩
 .obtain⟨w,b,rfl⟩:=B7.mp a;exact wz (BL (aJ w (jU.mem_iff.mp b)) c) _
 .obtain⟨w,b,rfl⟩:=B7.mp a;have:=aD.Ra (jU.mem_iff.mp b);exact⟨by rw[show(dB (g w) (f w),w).2=w from R,this.O7];decide,this.RA⟩
theorem Qo{p:aD}(ai:p.Ok){av:List (O×O)}(T:i7 av)(j:av.length<=5)(h1:∀q∈av,q.2.length=1)(a cx b:O)(d:a.length<=5/\BR a=u)(h2:cx.length<=5/\BR cx=u)(f:b.length<=2/\BR b=u):(iU av p.d a cx b).length<=299/\BR (iU av p.d a cx b)=u:=by
 obtain⟨B,k⟩:=p.Oj ai
 have i:∀l,(gM av l).length<=15:=λl=>by
  rw[eF,p6,so]
  have m:∀w∈dX av (eh l),w.length=1:=λw o=>by
   obtain⟨q,r,rfl⟩:=B7.mp o;exact h1 q (B8.mp r).1
  have s:(dX av (eh l)).length<=5:=by
   unfold dX;rw[BH];exact BG (CI _ _) j
  have:∀aR:List O,(∀w∈aR,w.length=1)->(f4 (aR.map λn=>"(\\"++n)).length=3*aR.length:=λaR=>by
   induction aR with
   |nil=>intro _;rfl
   |cons w aR t=>
    intro h;have e:=h w (.head _);rw[eF]at e;show((cb ("(\\"++w))++f4 (aR.map λn=>"(\\"++n)).length=_;rw[BV,t λv hv=>h v (.tail _ hv),gX,BV,e,Cd];show 2+1+_=_;exact D1 3 (3*aR.length)
  rw[this _ m];exact G7 3 s
 obtain⟨C,x,c⟩:=jB (g:=")") (ys:=fM av (p.d-1)) (N:=4) (λy z=>by
  obtain⟨l,_,rfl⟩:=B7.mp z;exact⟨i l,(lZ T l).2.2.2⟩) (by decide+kernel) (by unfold fM;rw[BH,Ct];exact Nat.sub_le_sub_right k 1) (by decide+kernel)
 have A:(")":O).length=1:=by decide+kernel
 refine⟨?_,?_⟩
 .unfold iU;rw[hF,hF,hF,hF,hF];have:=i (p.d-1);rw[A]at c⊢;have c:(jQ ")" (fM av (p.d-1))).length<=4*(15+1):=c;exact BG (Df (Df (Df (Df (Df d.1 c) (BJ 1)) h2.1) this) f.1) (by decide)
 .exact jd (jd (jd (jd (jd d.2 x) (by decide+kernel)) h2.2) (lZ T _).2.2.2) f.2
theorem Am{A e N:Nat}(b:A+e=2*N)(h:A<=N)(k:e<=A):e=A/\A=N:=by
 have q:=Cg h (Nat.le_of_mul_le_mul_left (BG (CL b.symm) (BG (C8 k A) (CL (Gc A).symm))) (by decide:0<2));exact⟨D7 (b.trans ((congrArg (2*·) q.symm).trans (Gc A))),q⟩
theorem vn{p:aD}(ai:p.Ok){aZ:List T4}(bD:eZ p aZ):qo p aZ:=by
 obtain⟨aO,j⟩:=p.Oj ai;have C:=bD.R0 ai;have F:=λ(a b:List T4)e=>bD.Tz ai a.length a b R e;have D:=bD.OP.length_eq.trans (p.Ox ai)
 have E:∀w∈p.aG,∃a b,aZ=a++p.OC w::b/\p.dV w<=(cd a).length/\p.dV w<p.d/\cd aZ=cd a++w::cd b:=λw c=>by
  obtain⟨a,b,e⟩:=List.append_of_mem (bD.Oy.mpr ⟨w,c,.inl R⟩);obtain⟨G,W⟩:=bD.TZ ai c e (F a _ e).a5;exact⟨a,b,e,G,CP G W,by rw[e,kb];congr 1⟩
 have d:∀w∈p.aG,p.dV w<p.d:=λw c=>by
  obtain⟨_,_,_,_,h,_⟩:=E w c;exact h
 have f:(aZ.map fL).length=aZ.length:=BH _;have s:=F aZ [] (CE _).symm;have T:=ri ai bD.OP (g:=λw=>p.OF.contains w) d
 have X:pG p (gD p p.d) (cd aZ) (eV p (cd aZ)):=by
  rw[C];refine⟨λk e l=>?_,?_,?_,?_,λw c=>?_,λe l=>?_,?_,a3 D (BG j (by decide))⟩
  .obtain⟨o,rfl⟩:=BY.mp l;have K:k<aZ.length:=by rw[←f];exact o
   have v:aZ=aZ.take k++aZ[k]::aZ.drop (k+1):=by rw[←DS K,Fp]
   have I:=F _ _ v;rw[CM,FJ (Cz K)]at I;rw[J8];generalize y:aZ[k]=t at v;obtain⟨w,c,rfl|rfl⟩:=bD.Oy.mp (show t∈aZ by rw[←y];exact Ft _)
   .rw[nV];refine⟨(λh=>nomatch h),λ_=>?_⟩;rw[I.bo.PM];show 0<=(((eM _ w+ea _ w:Nat)):Int)/\(((eM _ w+ea _ w:Nat)):Int)<5;rw[bD.PM c v];have:=d w c;exact⟨C5 _,(El (m:=5)).mpr (BL this j)⟩
   .rw[n8];refine⟨λ_ h=>?_,λh=>nomatch h⟩;have ae:=F (aZ.take k++[p.ON w]) (aZ.drop (k+1)) (by rw[Cu];exact v)
    have ah:cd (aZ.take k++[p.ON w])=cd (aZ.take k):=by
     rw[kb,lF [_],CW,ix,if_neg (by decide)];exact CE _
    have am:es (aZ.take k++[p.ON w])=es (aZ.take k)++[w]:=by
     rw[mf];congr 1
    have a:=I.a5;have b:=ae.a5;rw[h,CE]at a;rw[ah,am,a,Cu]at b;have:=congrArg E3 b;rw[BV,BV]at this;simp at this
  .rw[f,s.bO];exact bD.QM
  .have:=s.a5;rw[bD.QM]at this;rw[f];have h:=congrArg E3 this;rw[BV]at h;exact Eu (D7 (h.symm.trans (GF _).symm))
  .rw[f,s.fl]
  .rw[f,s.bo.PM,bD.QM];have:=yK bD.OZ c;rw[D]at this;exact mQ.symm.trans (congrArg (λx:Nat=>(x:Int)-1) this)
  .obtain⟨t,ao,rfl⟩:=B7.mp l;obtain⟨w,c,rfl|rfl⟩:=bD.Oy.mp ao <;> exact(aD.Ra c).RM
  .rw[f,bD.Py.length_eq,p.R6 ai];exact G7 2 j
 have an:=mr ai;obtain⟨A,B,e,r,ap,I,_,av⟩:=uB bD ai (rO bD.OP λw c=>BL (d w c) j) (2*p.aG.length) (BJ _);have ax:=I.E.length_le_of_subset I.N8;have l:e=A.length/\A.length=p.aG.length:=Am ap ax I.le;obtain⟨rfl,ay⟩:=l
 have z:B=[]:=by
  have:=congrArg E3 r;rw[BV,bD.OP.length_eq]at this;exact Eu (D7 (this.symm.trans (ay.symm.trans (GF _).symm)))
 subst z;rw[CE]at r
 have aB:qj p (eV p (cd aZ)) (cd aZ):=by
  refine⟨tF (mm p) an _,?_,?_,?_,?_⟩
  .exact av.trans (by rw[r])
  .exact I.bO.trans (Dg.trans r.symm)
  .exact I.b5.trans (DL.mpr λw c=>by
    have:w∈A:=by rw[←r];exact bD.OP.mem_iff.mpr c
    simpa using this)
  .exact I.a5.trans Gp
 have aE:∀q∈eV p (cd aZ),q.2.length=1:=λq y=>by
  obtain⟨w,c,rfl⟩:=B7.mp y;exact(aD.Ra (bD.OP.mem_iff.mp c)).O7
 have aJ:∀k,k<p.d->k<(p.aG.filter λw=>decide (p.dV w<=k)).length:=λk o=>by
  refine rb bD.OP bD.OZ (λi w hi=>?_) k (by rw[p.Ox ai];exact o);have c:=bD.OP.mem_iff.mp (B5 hi);obtain⟨a,b,_,h1,_,h2⟩:=E w c
  have:i=(cd a).length:=by
   have aR:(cd a).length<(cd aZ).length:=by rw[h2,BV,Cd];lia
   have aL:(cd aZ)[(cd a).length]?=H w:=by rw[h2,Ed (BJ _),Fj];rfl
   obtain⟨L,N⟩:=BY.mp hi;obtain⟨P,Q⟩:=BY.mp aL;rcases Hy i (cd a).length with q|q|q
   .exact(Ds.mp bD.OZ i _ L P q (N.trans Q.symm)).elim
   .exact q
   .exact(Ds.mp bD.OZ _ i P L q (Q.trans N.symm)).elim
  lia
 have d1:=λ{B:O}{b:List Tk}z ac=>sb ai bD.OP (g:=λw=>p.OF.contains w) d (k0:=p.Og 3/880%6) (k1:=p.Og 2/880%6) (kt:=p.Og 1/880%3) (CZ _ (by decide)) (CZ _ (by decide)) (CZ _ (by decide)) (B:=B) (b:=b) z ac
 have S:=λn=>(qZ ai bD.OP d (k1:=p.Og 2/880%6) (kt:=p.Og 1/880%3) (CZ _ (by decide)) n).1 λk o=>BL (aJ k o) (FK _ _)
 have c7:iq (p.PS (eV p (cd aZ)))=u:=by
  have:=d1 (B:=B0) (b:=[]) R λ_ h=>nomatch h
  have e:∀x:O,B0++x=x:=λx=>m4 (by rw[gX];rfl)
  rw[e,ED,oe,S 0]at this;exact this
 have fx:iq (p.Om++p.PS (eV p (cd aZ)))=BQ:=by
  unfold aD.Om ne;split
  .have:=d1 (B:="(") (b:=[[40]]) (by decide+kernel) λt h=>by rw[BO.mp h];exact⟨iV (by decide),by decide⟩
   refine this.trans<|(oe _ _ 1).trans (S 1)
  .exact(d1 (b:=[[41]]) (by decide+kernel) λt h=>by rw[BO.mp h];exact⟨iV (by decide),by decide⟩).trans R
 refine⟨?_,X,λw c=>?_,aB,T,?_,?_,?_⟩
 .rw[C];exact bD.eA
 .have:=bD.OP.mem_iff.mp c;exact⟨this,BL (d w this) j⟩
 .exact Qo ai T (by show(Jh _ _).length<=5;rw[BH];lia) aE _ _ _ (p.PB 3) (p.PB 2) p.QG
 .unfold fj;rw[if_pos c7]
 .unfold fj;rw[if_neg (by rw[fx];decide)];rfl
theorem zN{p:aD}(ai:p.Ok):kr p:=by
 obtain⟨y,f⟩:=p.Oj ai;obtain⟨i,j⟩:=uJ ai;obtain⟨l,m⟩:=ym ai;have d:∀w∈p.aG,p.OI w<p.d:=λw _=>nX ai w;have T:=ri ai p.PD (g:=λw=>!p.OF.contains w) d
 have n:∀q∈ep p,q.2.length=1:=λq o=>by
  obtain⟨w,r,rfl⟩:=B7.mp o;exact(aD.Ra (aD.O6.mp r)).O7
 refine⟨i,λaZ h1 h2=>vn ai ⟨h1,h2⟩,T,⟨tF (mm p) (mr ai) _,m⟩,l,⟨?_,?_⟩,j⟩
 .obtain⟨a,b⟩:=Qo ai T (by show(Jh _ _).length<=5;rw[BH,p.Pw ai];exact f) n _ _ _ (p.PB 2) (p.PB 3) p.QG;exact⟨Co a,b⟩
 .have d1:=sb ai p.PD (g:=λw=>!p.OF.contains w) d (k0:=p.Og 2/880%6) (k1:=p.Og 3/880%6) (kt:=p.Og 1/880%3) (CZ _ (by decide)) (CZ _ (by decide)) (CZ _ (by decide)) (B:=B0) (b:=[]) R λ_ h=>nomatch h
  have e:∀x:O,B0++x=x:=λx=>m4 (by rw[gX];rfl)
  rw[e,ED,oe]at d1;refine d1.trans ?_;obtain⟨s,t⟩:=qZ ai p.PD d (CZ _ (by decide)) 0
  by_cases aL:∀k,k<p.d->k<(p.aG.filter λw=>decide (p.OI w<=k)).length
  .rw[s λk c=>by rw[Ek];exact aL k c];exact(Cn.mpr λk c=>decide_eq_true (aL k (CU.mp c))).symm
  .have aL:∃k,k<p.d/\¬k<(p.aG.filter λw=>decide (p.OI w<=k)).length:=Dp λh=>aL λk c=>Dp λq=>h ⟨k,c,q⟩;rw[t R aL];obtain⟨k,c,v⟩:=aL
   cases q:p.OG with
   |false=>rfl
   |true=>exact(v (of_decide_eq_true (Cn.mp q k (CU.mpr c)))).elim
theorem Bz:DT.Holds:=xM λns=>zN (rk ns)
end
end Mine.Tactic
theorem PySem.Challenge.cw_tc0077_01_holds : PySem.Challenge.rw_tc0077_01.Holds :=
  Mine.Tactic.Bz
