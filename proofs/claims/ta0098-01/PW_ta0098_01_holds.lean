import PyProof.Rows.All
import Wide.All
import OpenK.AllK
import Wide.FinOn
import Lean
import PySem.Challenge.RW_ta0098_01
set_option Elab.async false
open PySem PySem.W PyProof.Rows PySem.SeqAt
set_option maxRecDepth 100000
set_option genSizeOf false
set_option linter.all false
set_option tactic.hygienic false
set_option genInjectivity false
set_option bootstrap.genMatcherCode false
namespace Mine.Internal
open _root_.And renaming intro->HB,imp_right->KJ
open _root_.Array renaming length_toList->Bp,getElem?_eq_getElem->BO,eq_empty_of_size_eq_zero->Fg,size_extract->FT,getElem?_eq_none->GL,getElem?_toList->G3,getElem?_setIfInBounds_self_of_lt->G9,toList->Ic,getElem?_setIfInBounds_ne->Iv,toList_append->LM,getElem?_push->LP,toList_map->NE,size_push->Op,map_map->PY
open _root_.Bool renaming true->Y,false->Ak,false_ne_true->AR,or_eq_true->AT,not_eq_true'->A4,and_eq_true->Bg,eq_iff_iff->EC,and_true->Gq,or_eq_false_iff->Hk,not_not->Iu,not_eq_true->IZ,and_false->JW,false_or->QY,rec->k9
open _root_.Char renaming toNat->JV
open _root_.Classical renaming propDecidable->Gb,byContradiction->I3
open _root_.Eq renaming trans->Sa
open _root_.Except renaming ok->MY
open _root_.ForIn renaming forIn->OZ
open _root_.ForInStep renaming yield->Gr
open _root_.Function renaming comp_def->Lu
open _root_.Iff renaming rfl->zx
open _root_.Inhabited renaming default->Gg
open _root_.Int renaming natCast_nonneg->AW,le_antisymm->A5,le_of_eq->Bc,natAbs_natCast->BK,eq_ofNat_of_zero_le->BL,le_of_lt->BR,fmod_nonneg_of_pos->B3,natCast_add->B8,zero_add->Cq,le_trans->Cr,toNat_natCast->Cz,mul_fdiv_add_fmod->CA,fmod_lt_of_pos->CG,fdiv_eq_ediv_of_nonneg->CQ,natCast_mul->CT,add_right_comm->Dk,fmod_eq_emod_of_nonneg->Dm,ne_of_gt->Dw,add_assoc->DC,one_mul->DL,le_natAbs->DU,mul_one->Ec,natAbs_lt_natAbs_of_nonneg_of_lt->Ey,neg_one_mul->EE,natCast_pow->EF,add_zero->E0,add_comm->E1,natAbs_neg->E9,ofNat->Fj,mul_le_mul_of_nonneg_left->Fx,mul_zero->FP,add_mul_fmod_self_left->F9,neg_mul->Gn,zero_mul->GW,mul_comm->GX,mul_add->Hs,sub_nonpos_of_le->Hw,toNat_of_nonneg->HQ,sub_eq_add_neg->Ih,neg_pos_of_neg->Im,lt_trans->IH,natAbs_add_le->IJ,add_mul->Jx,add_nonneg->Kd,natAbs_mul->Ke,lt_of_mul_lt_mul_left->Kx,mul_assoc->KG,dvd_trans->KH,mul_neg->Mn,le_refl->Mp,pow_pos->Mv,mul_pos->Mw,sub_add_cancel->NC,dvd_mul_right->Om,mul_left_comm->OB,zero_lt_one->P0,neg_le_neg->QS,one_nonneg->Q0,ofNat_sub->Sj,lt_asymm->UV,pow_zero->UW,dvd_add->WZ,neg_neg->W4
open _root_.Int.ofNat renaming inj->M1
open _root_.LE renaming le->R6
open _root_.LT renaming lt->O2
open _root_.LawfulBEq renaming eq_of_beq->AA
open _root_.LawfulMonad renaming pure_bind->MX
open _root_.List renaming size_toArray->AD,rec->A0,getElem?_eq_getElem->A8,flatten_cons->Bb,length_append->Bm,range->Br,casesOn->BF,length_map->BS,mem_of_getElem?->BZ,append_nil->B7,length_cons->Cb,lookup_cons->Cc,getElem?_toArray->Cd,getD_eq_getElem?_getD->Cj,take_of_length_le->Cp,drop_eq_getElem_cons->Cu,append_assoc->Cv,drop_of_length_le->CM,length_reverse->CP,length_drop->C0,drop_zero->C7,eq_nil_of_length_eq_zero->C8,getElem?_eq_none->Dl,mem_append_left->Dv,map_cons->DA,replicate->DF,map_map->DN,map_append->DR,mem_append_right->DV,mem_append->ED,toArray->ET,getElem?_map->EU,singleton_append->Ff,not_mem_nil->Fh,mem_cons->Fk,forIn_cons->FA,length->Gh,reverse_cons->Gi,nil_append->G1,reverse_reverse->Hl,replicate_succ->HH,map_congr_left->HI,take_nil->HO,getElem?_drop->H0,drop_length->I1,length_take->I2,lookup->Ji,drop_drop->JX,nodup_nil->JY,length_filterMap_le->Ks,filterMap_cons_some->Ku,range_succ_eq_map->KV,getElem?_of_mem->LN,append_toArray->Mz,push_toArray->NG,length_range->NL,any_toArray->On,cons_append->Os,getElem_mem->Ov,map_reverse->Oz,nodup_cons->Pd,of_mem_zip->Pe,length_set->Ph,drop_nil->QR,sum_cons->QT,all_map->Se,isEmpty->Sl,zipWith->Sq
open _root_.List.cons renaming inj->G5
open _root_.Min renaming min->M3
open _root_.Nat renaming le_of_eq->Al,le_trans->Am,beq->As,sub_add_cancel->Az,eq_of_beq_eq_true->AB,lt_of_lt_of_le->AE,lt_of_le_of_lt->AG,le_refl->AI,ble_eq_true_of_le->AL,lt_irrefl->AN,le_antisymm->AP,le_add_right->AQ,pow_le_pow_right->AV,ble->A3,zero_le->Be,blt->Bf,ne_of_lt->Bn,le_of_succ_le->Bo,le_add_left->Bw,succ_le_succ->BB,not_le_of_lt->BH,le_of_not_lt->BI,le_succ_of_le->BJ,mul_le_mul_left->BN,add_le_add_right->BP,mul_comm->B2,beq_refl->Cs,lt_succ_self->Ct,add_le_add_left->Cw,le_of_lt->CN,lt_trans->CO,pow_add->CR,lt_of_le_of_ne->C2,not_lt_of_le->Dg,mod_lt->Dj,ne_of_gt->Dx,mul_zero->Dy,sub_le->DB,le_succ->DM,mul_add->Ed,mul_one->Ee,add_le_add->Ef,not_succ_le_zero->Eg,div_lt_of_lt_mul->Eh,pow_lt_pow_right->Ei,add_comm->El,succ_pos->Em,div_mul_le_self->Ew,div_add_mod->EG,add_sub_cancel_left->EL,zero_add->E2,lt_or_ge->E6,pow_zero->E7,pow_succ->E8,lt_of_not_le->Fl,add_assoc->Fs,succ->Fw,min_eq_left->FE,min_le_left->FF,two_pow_pos->FI,add_zero->FR,min_eq_right->GJ,mod_eq_of_lt->GK,sub_zero->GY,toDigits->GZ,ne_of_beq_eq_false->G2,not_lt_zero->G4,sub_eq_zero_of_le->Hh,log2_lt->Ht,add_mul->Hu,mul_le_mul->Hv,sub_le_sub_right->Hx,mul_le_mul_right->Hy,add_right_comm->Ik,sub_self->II,le_of_lt_succ->IL,max_eq_right->Jk,succ_lt_succ->Jl,min_le_right->Jn,div_eq_of_lt->Jp,one_mul->Jy,max_eq_left->JL,strongRecOn->JN,rec->JU,mul_assoc->KM,succ_add_eq_add_succ->KO,lt_add_of_pos_right->KW,succ_pred_eq_of_pos->KX,testBit_mul_two_pow->KY,testBit_div_two_pow->KZ,le_total->Lk,zero_min->Ll,lt_of_succ_lt_succ->Lp,le_of_succ_le_succ->Lr,div_div_eq_div_mul->Lv,le_div_iff_mul_le->LQ,div_lt_iff_lt_mul->LR,cast->Mm,le_sub_one_of_lt->MA,eq_of_testBit_eq->MD,add_lt_add_left->M2,lt_of_lt_of_eq->ND,lt_div_mul_add->NK,lt_succ_of_le->Oo,sub_pos_of_lt->Oq,lt_of_succ_le->Ot,add_sub_of_le->Oy,toList_repr->PT,mul_div_le->QZ,min_self->UN,zero_mul->UQ,mul_succ->UX,casesOn->W0,sub_sub->W2,div_one->W3,mul_two->W5,repr->zi
open _root_.Nat.succ renaming inj->HG
open _root_.Ne renaming symm->IY
open _root_.Option renaming some->V,none->Ao,rec->Sc
open _root_.Option.some renaming inj->CK
open _root_.Or renaming inl->R9,inr->kZ
open _root_.Prod renaming snd->GD,fst->GE
open _root_.Pure renaming pure->BU
open _root_.PyProof renaming noPylong_of_log2->JO,noPylong_small->Kh
open _root_.PyProof.Rows renaming K->Aa,rshift_int->Ds,sub_int->EK,floordiv_int->Fu,lshift_int->FN,len_list->Ge,getMethod_int_bit_length->GA,call_int_bit_length->G7,intBits_le->IM,Subscript_->Jh,mod_int'->Jq,and_int->Jz,methDefD->JK,wpAny_operate'->Lm,List_->O0,tail_any->O5,callWith_builtin_kwB->Pc,Top->Pi,markedEach_of_false->PU,Tuple_->QM,recsOf->QN,bitAnd_m1->W6,chr_of_range->W7,invert_int->W9,bitAnd_m3->Xa,xor_int->Xb,ClsAt->Xf,IfExp_->aI
open _root_.PySem renaming Value->Ag,Shared->Ah,wpAny_bind->Ai,Addr->An,wpAny->Ap,model->Aq,wpAny_pure->Ar,Str->Av,wpAny_execs_cons->Aw,NameKind->AC,wpAny_mono->AM,wpAny_standAt->AU,wpAny_Call_NameR->AX,wpAny_holding->AZ,Around->A1,wpAny_Assign_Name->A2,Comprehension->A7,Heap->A9,Program->Bh,wpAny_newObj_type->Bi,eval->Bj,builtinLookup_eq_fast->Bk,wpAny_truthy_bool->Bq,Stmt->Bx,wpAny_execs_nil->Bz,FuncData->BA,wpAny_Call_method_lateS->BC,wpAny_BinOp->BE,wpAny_Constant_int->BQ,typeLookup_type->BW,rawInt->BX,Operator->BY,foldedSetIterable->B1,cellsFrom->B5,Pos->B9,World->Ca,GenState->Cg,wpAny_isTrue_Compare1->Ch,sizeLine_eq->CC,wpAny_Return_some->CD,seg_execs_nil->CS,starEach->CV,seg_execs_cons->CW,strValues->CX,eval->C1,execs->C4,sizeLine->C5,seg_bind_wrap->C9,typeLookup->Dc,letOwnedTupleGo->Dd,assignInOrder->Do,bindArgs->Du,callWith_type->DE,wpAny_Constant_bool->DO,call->DP,recursionLimit->DQ,Env->DS,interactive->DT,wpAny_Expr->DX,wpAny_isTrue_value->DY,storeName->D6,pushCells->D7,CmpOp->Ep,backTo->Er,mainGlobals->Es,wpAny_bindName->Et,constantsAlone->Eu,Tok->Ez,exec->EB,wpAny_Constant_none->EH,wpAny_If->EN,foldedForSure->EO,Keyword->ES,Flow->EW,sysModules->EY,assignEach->EZ,Arguments->Fb,wpAny_of_eq->Fc,wpAny_callSpecial?_slot->Fd,wpAny_Assign_Subscript->Fm,Obj->Fo,wpAny_storeName_local->FB,wpAny_call_entry->FG,codeAny->FL,methodCallPos->FM,wpAny_loadName_local->FS,wpAny_specialOf->FZ,pushCells_keeps->F8,bindL->Gc,wpAny_loadName_free->Gd,cLine->Gv,methodCallForm->Gw,wpAny_getItem_list->Gx,callEnv->GO,wpAny_field->GP,binaryOp->Hc,codeAmong->He,wpAny_list_append_plain->Hg,wpAny_rule->Hq,wpAny_call->Hr,theTreesLotGoes->HE,BoolOp->H8,pyNext->H9,keywordEach->Ib,wpAny_newTuple->Ie,firstArgMember->Ig,wpAny_letTemporaryGo->Ii,Model->IX,assign->Jd,wpAny_Name->Je,builtinsNs->Jf,typeIs_str->Jg,wpAny_Constant_str->Jm,standAt->JI,setItem->JJ,wpAny_pyIter_list->JM,callWith_function_kw->JP,Sem->JZ,TriplesOk->J9,noteFrame->Kb,swapsWith->Kc,noFill_tuple_add->Kf,entryFor_of_tree->Kg,wpAny_evalAll_cons->Kj,wpAny_evalAll_nil->Kt,wpAny_listItems->KN,pyIter->Lg,backToKw->Li,closureFor->Lj,wpAny_listPart->Lo,seq_tuple_add->Mq,arm_eval_Call->Mr,eval_ListComp->Ms,swappedStores->Mt,wpAny_getItem_list_slice->MB,arm_evalThenUse_ListComp->MC,MethodOnS->MW,wpAny_getItem_str_slice->MZ,evalArgs_kw->M0,Seg->M4,DefRec->Nw,getItem->Nx,spliced->Ny,ExcName->Nz,concat_meets->NA,wpAny_callSpecial?_own->NM,exec_Assign_Name_used->Ou,bindC->O1,evalArgs->O4,evalEach->O6,Protocol->O7,wpAny_Slice->O9,strIterType->Pa,wpAny_newFunctionEnv->Pf,wpAny_loadName_cell->PS,codeAny_forLoop_any->PV,builtinType_eq_fast->PW,wpAny_functionCodeX->PZ,Result->QL,methodCall->QP,qualnameIn->QQ,wpAny_pyIter_tuple->QU,wpAny_unpack_tuple->QV,arm_eval_Attribute->QW,assign->QX,UnaryOp->R7,holding->R8,wpAny_truthy_list->Sf,wpAny_loadPart_at->Sk,wpAny_isNot_other->Sm,wpAny_builtinsFor->Sn,slot_list_setitem->Sp,compareOp->UM,wpAny_isInstance->UT,codeAny_call_def->UU,wpAny_updateSeq->W1,Const->Xe,JoinOk->aH,revObj->aJ,typeOf->aK,argsOk->aL,GenEnd->aM,bindName->aO,compTurn->aP,callWith->aQ,callEnvC->aR,entryFor->aS,annTrees->aT,call_sum_walkG->dp,newFunctionEnv->dq,isSubtype_type->dt,wpAny_seqItems->du,wpAny_fieldsOf->dw,isSubtype_stop->dz,method1_meets->la,comprehension->lb,attributeBase->lc,wpAny_release->lf,signature?_of->lh,plainId_quiet->lj,wpAny_is_self->ll,wpAny_attempt->lq,slot_gen_next->lr,evalPart_none->lt,Code->lD,classAt->lE,relabel->lF,allTrue->lG,MethRec->lH,bootBuiltins->zj,name_of_addr->zk,compareChain->zl,call_type_of->zm,wpAny_mkText->zn,wpAny_typeOf->zo,Frame->zt,field->zu,unpackItems->zv,wpAny_alloc->zw,builtinType->zy,wpAny_letGo->zz,wpAny_nsGet->zA,sequenceKey->zB,isCodeTable->zC
open _root_.PySem.AutoIntOps renaming iadd_0->HS,isub_0->HT,imul_0->HU
open _root_.PySem.AutoListH renaming list_reverse_list_0->Q3
open _root_.PySem.AutoSeq1 renaming list_extend_list_list_0->Sr
open _root_.PySem.BindsTo renaming of_defaults->K0
open _root_.PySem.Builtin renaming bitNot->FH,bitAnd->Jo,bitXor->NH,bitOr->Ox
open _root_.PySem.Builtin.Generator renaming genWake->Hm
open _root_.PySem.Builtin.Int renaming intBits->AJ
open _root_.PySem.Builtin.List renaming listTooLong->D2,listSubscript?->HV,listAllItems->Io,listSameRef->Iw,listFitsIndex->Xc,listItems->Xd
open _root_.PySem.Builtin.Range renaming rangeSize->CY,small->Gz,rangeFitsLong->UZ
open _root_.PySem.Builtin.Re renaming reTurnSteps->Ci,reRunToEnd->EI,reDrive->Ft,reWholeTarget->FO,reRawOf->G6,reLiteralCannotBeTurned->G8,reNoCollectionInside->Hz,reRawItems->JR,ReTarget->Kk,reTarget->Kl,reTextOf->Km,reNamed->Kv,reSlice->Kw,reAnswer->lz,reNextFound->lA,reSubstitute->lB
open _root_.PySem.Builtin.SmallTypes renaming nextOf->Hi
open _root_.PySem.Builtin.Str renaming strKind->Dr,tooLong->DZ
open _root_.PySem.Calls renaming spliced_cons->Ax,spliced_nil->AF,callWith_function->Ba,Name_function_global->Bl,callWith_builtin->B0,evalArgs_plain->CI,loadGlobal_global->CJ,loadGlobal_builtin->Ex
open _root_.PySem.Challenge renaming pw_ta0098_01->Q1,rw_ta0098_01->Q2
open _root_.PySem.CmpOp renaming Eq->dA
open _root_.PySem.Code renaming builtin->KU
open _root_.PySem.Data.func renaming inj->zs
open _root_.PySem.Env renaming kindOf->Ia
open _root_.PySem.Expr renaming ListComp->HP
open _root_.PySem.F renaming args_tuple_add_2->Ga,entry_tuple_add->Gj,plainAttrs_list->Gk,slot_tuple_add->Gy,slot_str_ascii_iterator_next->Hj,slot_enumerate_next->I5,slot_list_reverse->JB,slot_list_extend->JQ,slot_str_split->Ki,slot_int_rmul->So
open _root_.PySem.FuncBody renaming stmts->zM
open _root_.PySem.Heap renaming get?_push_of_some->Au,get?_push_size->Ay,lt_size->AY,size_push->B6,SameBut->C3,ExtBut->DI,get?_update_self->DW
open _root_.PySem.Heap.IsSliceOf renaming new->JA
open _root_.PySem.Heap.SameBut renaming update->Dp,refl->W8
open _root_.PySem.IntMulOk renaming of_left->LU
open _root_.PySem.IsRange renaming new->KI
open _root_.PySem.Manifest renaming sig_re_Pattern->zK
open _root_.PySem.NameKind renaming cell->Ej,free->FY,«local»->zL
open _root_.PySem.NumText renaming AllDigits->UY
open _root_.PySem.Obj renaming cls->D1,mapSeq->Eb,data->Ml
open _root_.PySem.Operator renaming Add->Ow
open _root_.PySem.P renaming add_int->DJ,mul_int->IK,truthy_int->Lq,str_of_int->Ls,eq_int->NJ
open _root_.PySem.SB renaming join->NF,add->zD,mul->zE,contains->zF,notContains->zG,getItem->zH,upper->zI,lower->zJ
open _root_.PySem.Sem renaming bind_eq_wrap->Pg
open _root_.PySem.SeqAt renaming EqAt->lC
open _root_.PySem.SeqAt.EqAt renaming same->dm
open _root_.PySem.Sre renaming forSearch->Cm,M->Df,Seen->EX,inSet->FX,accepts->Gp,Frame->HD,itemWidth->KL
open _root_.PySem.Sre.M renaming admitted->Hf,attemptFrom->Ij,stick->Ln,step->UR,exec->US
open _root_.PySem.Stmt renaming casesOn->Sb
open _root_.PySem.Str renaming ofString->FQ,mk->aN
open _root_.PySem.StrLaws renaming joinTotal->HR,subAt_one->LO
open _root_.PySem.Txt renaming join->Ka,charAt->NB,split->O8,contains->UO,item->zh
open _root_.PySem.Value renaming ref->Cy,type->CF,int->Db,str->IG,none->Mu
open _root_.PySem.Value.bool renaming inj->lw
open _root_.PySem.Value.int renaming inj->zr
open _root_.PySem.Value.ref renaming inj->Jj
open _root_.PySem.Value.str renaming inj->zq
open _root_.PySem.Value.type renaming inj->lu
open _root_.PySem.W renaming looseW->Ea,tabObj->Hp,sub->Ix,CodeHd->Lh,same->P3
open _root_.PySem.W.KIN renaming call_text->dB,call_num->dC
open _root_.PySem.W.OpenLaw renaming wellSaid->My
open _root_.PySem.W.Z renaming ltB_iff->zp
open _root_.PySem.Walks renaming tuple->Sh,list->UP
theorem D8{n m:Nat}(h:A3 n m=Y):n<=m:=Nat.le_of_ble_eq_true h
theorem jO{m n:Nat}(h:m<=n):(m:Int)<=(n:Int):=Int.ofNat_le.mpr h
theorem jC{z:Type _}{a b:z}{l:List z}(h:a∈b::l):a=b\/a∈l:=List.mem_cons.mp h
theorem jR{m n:Nat}(h:m<n):m∈Br n:=List.mem_range.mpr h
theorem jE{z:Type _}{l:List z}(h:l.isEmpty=Y):l=[]:=List.isEmpty_iff.mp h
theorem D9{z:Type _}{p:z->Bool}{l:List z}(h:l.all p=Y):∀x∈l,p x=Y:=List.all_eq_true.mp h
noncomputable def qA:Bh:={Q1 with main:={PySem.Challenge.pw_ta0098_01.main with body:=[0,1,4,5,6,7,8,9,10,11,12,13,14,15,16,17,18,23,24,25,26,27,28,29,30,31,32].filterMap λi=>PySem.Challenge.pw_ta0098_01.main.body[i]?}}
noncomputable def looseA:List Av:=["_twin_re_1","_twin_re_2","tspecials","_name_disallowed_re","_value_disallowed_re","_formatparam"]
noncomputable def M5:Array Nat:=#[14,10,4,1,1,22,0,31,16,127,0,13,7,22,0,31,16,127,0,1]
noncomputable def Lw:Array Nat:=#[14,14,4,1,1,9,4294966783,0,0,2147483648,0,0,0,0,0,13,11,9,4294966783,0,0,2147483648,0,0,0,0,0,1]
noncomputable def Fi:Array Nat:=#[14,9,4,1,2,16,10,16,13,0,7,7,16,13,16,10,15,18,5,16,10,15,13,11,16,13,5,5,0,16,10,1,15,2,0,1]
noncomputable def H1:Array Nat:=#[14,4,0,1,1,6,1,16,46,1]
noncomputable def Ss(n:Av)(t:Nat)(h:Int)(u:Nat)(m:An):Fo:={cls:=.type "re.Pattern",data:=.fields #[.str n t,.int h u,.int 0 0,.none,.none,.ref m,.int 0 0]}
noncomputable def Su(code:Array Nat):Fo:={cls:=.type "tuple",data:=.seq (code.map λ(n:Nat)=>BX (n:Int)) 0}
noncomputable def reYfA(s:Ah):List (Option An×Option Fo×Option Fo):=([("_twin_re_1",36,35),("_twin_re_2",41,40),("_name_disallowed_re",121,120),("_value_disallowed_re",126,125)]:List (Av×An×An)).map λ(p:Av×An×An)=>(lE s.heap p.1,s.heap.get? p.2.1,s.heap.get? p.2.2)
noncomputable def reYaA(_:Ca):List (Option An×Option Fo×Option Fo):=[(V 36,V (Ss ⟨#[40,63,109,41,94,92,46]⟩ 285 40 298 35),V (Su H1)),(V 41,V (Ss ⟨#[40,63,58,92,114,92,110,124,92,110,124,92,114,40,63,33,92,110,41,41]⟩ 301 32 340 40),V (Su Fi)),
 (V 121,V (Ss ⟨#[91,92,120,48,48,45,92,120,49,70,92,120,55,70,93]⟩ 504 32 527 120),V (Su M5)),(V 126,V (Ss ⟨#[91,92,120,48,48,45,92,120,48,56,92,120,48,65,45,92,120,49,70,92,120,55,70,93]⟩ 530 32 561 125),V (Su Lw))]
noncomputable def obsA(s:Ah):List (Option An×Option Fo×Option Fo)×Bool×Option An:=(reYfA s,(s.heap.get? EY).isSome,lE s.heap "Headers")
noncomputable def valA(w:Ca):List (Option An×Option Fo×Option Fo)×Bool×Option An:=(reYaA w,Y,V 255)
set_option maxHeartbeats 4000000 in
set_option maxRecDepth 100000 in
theorem saidA:My Q2=Y:=by
 unfold My OpenRow.wellSaid OpenRow.partSaid looksOpen
 repeat' (with_reducible refine look_both ?_ ?_)
 all_goals decide+kernel
set_option maxHeartbeats 4000000 in
set_option maxRecDepth 100000 in
theorem leftA:LeftO PySem.Challenge.rw_ta0098_01.row.toRowW.prog qA looseA (λs=>xlAt qA [] s&&recOk (RowW.records (PySem.Challenge.rw_ta0098_01.row.toRowW)) s) obsA valA 3678:=λw=>by kernel_rfl
set_option genCtorIdx false in
inductive LA where
 |v (i:Nat)|k (n:Nat)|a (x y:LA)|m (n:Nat) (x:LA)|l (x:LA) (n:Nat)
set_option genCtorIdx false in
inductive LZ where
 |v (i:Nat)|k (n:Int)|a (x y:LZ)|s (x y:LZ)|g (x:LZ)|m (n:Int) (x:LZ)|l (x:LZ) (n:Int)|u (x:LA)
noncomputable def LA.d(c:List Nat):LA->Nat
 | .v i=>c.getD i 0
 | .k n=>n
 | .a x y=>x.d c+y.d c
 | .m n x=>n*x.d c
 | .l x n=>x.d c*n
noncomputable def LZ.d(c:List Int)(e:List Nat):LZ->Int
 | .v i=>c.getD i 0
 | .k n=>n
 | .a x y=>x.d c e+y.d c e
 | .s x y=>x.d c e-y.d c e
 | .g x=> -x.d c e
 | .m n x=>n*x.d c e
 | .l x n=>x.d c e*n
 | .u x=>((x.d e:Nat):Int)
noncomputable def LA.addV(n:Int):Nat->List Int->List Int
 |0,[]=>[n]
 |0,x::r=>(x+n)::r
 |i+1,[]=>0::addV n i []
 |i+1,x::r=>x::addV n i r
structure LS where
 z:List Int
 t:List Int
 k:Int
noncomputable def LA.add(n:Int):LA->LS->LS
 | .v i,p=>⟨p.z,addV n i p.t,p.k⟩
 | .k c,p=>⟨p.z,p.t,p.k+n*c⟩
 | .a x y,p=>x.add n (y.add n p)
 | .m c x,p=>x.add (n*c) p
 | .l x c,p=>x.add (n*c) p
noncomputable def LZ.add(n:Int):LZ->LS->LS
 | .v i,p=>⟨LA.addV n i p.z,p.t,p.k⟩
 | .k c,p=>⟨p.z,p.t,p.k+n*c⟩
 | .a x y,p=>x.add n (y.add n p)
 | .s x y,p=>x.add n (y.add (-n) p)
 | .g x,p=>x.add (-n) p
 | .m c x,p=>x.add (n*c) p
 | .l x c,p=>x.add (n*c) p
 | .u x,p=>x.add n p
noncomputable def LA.dot:List Int->List Int->Int
 |[],_=>0
 |_::_,[]=>0
 |x::r,y::c=>x*y+dot r c
noncomputable def LA.nat:List Nat->List Int
 |[]=>[]
 |x::r=>(x:Int)::nat r
noncomputable def LS.e(c:List Int)(e:List Nat)(p:LS):Int:=LA.dot p.z c+LA.dot p.t (LA.nat e)+p.k
theorem LA.dot_addV(n:Int):∀i r c,dot (addV n i r) c=dot r c+n*c.getD i 0
 |0,[],[]=>(FP n).symm.trans (Cq _).symm
 |0,[],y::c=>(E0 _).trans (Cq _).symm
 |0,x::r,[]=>(FP n).symm.trans (Cq _).symm
 |0,x::r,y::c=>(congrArg (· +dot r c) (Jx x n y)).trans (Dk _ _ _)
 |i+1,[],[]=>(FP n).symm.trans (Cq _).symm
 |i+1,[],y::c=>(congrArg (· +_) (GW y)).trans ((Cq _).trans (dot_addV n i [] c))
 |i+1,x::r,[]=>(FP n).symm.trans (Cq _).symm
 |i+1,x::r,y::c=>(congrArg (x*y+ ·) (dot_addV n i r c)).trans (DC _ _ _).symm
theorem LA.nat_get:∀(e:List Nat) i,(nat e).getD i 0=((e.getD i 0:Nat):Int)
 |[],_=>rfl
 |_::_,0=>rfl
 |_::r,i+1=>nat_get r i
theorem LA.sum2{p u v n x y:Int}(h:p=u+n*y):p+n*x=u+n*(x+y):=
 (congrArg (· +n*x) h).trans ((Dk _ _ _).trans ((DC _ _ _).trans (congrArg (u+ ·) (Hs n x y).symm)))
theorem LA.mulR{u n q x:Int}:u+n*q*x=u+n*(x*q):=congrArg (u+ ·) ((KG n q x).trans (congrArg (n* ·) (GX q x)))
theorem LA.mulL{u n q x:Int}:u+n*q*x=u+n*(q*x):=congrArg (u+ ·) (KG n q x)
theorem LA.e_add(c:List Int)(e:List Nat)(t:LA):∀(n:Int) (p:LS),(t.add n p).e c e=p.e c e+n*((t.d e:Nat):Int):=by
 induction t with
 |v i=>exact λn p=>(congrArg (λz=>dot p.z c+z+p.k) (dot_addV n i p.t (nat e))).trans ((congrArg (λz=>dot p.z c+(dot p.t (nat e)+n*z)+p.k) (nat_get e i)).trans ((congrArg (· +p.k) (DC _ _ _).symm).trans (Dk _ _ _)))
 |k q=>exact λn p=>(DC _ _ _).symm
 |a x y L A=>exact λn p=>(L n _).trans (LA.sum2 (v:=0) (A n p))
 |m q x L=>exact λn p=>(L _ p).trans LA.mulL
 |l x q L=>exact λn p=>(L _ p).trans LA.mulR
theorem LZ.e_add(c:List Int)(e:List Nat)(t:LZ):∀(n:Int) (p:LS),(t.add n p).e c e=p.e c e+n*t.d c e:=by
 induction t with
 |v i=>exact λn p=>(congrArg (· +LA.dot p.t (LA.nat e)+p.k) (LA.dot_addV n i p.z c)).trans ((congrArg (· +p.k) (Dk _ _ _)).trans (Dk _ _ _))
 |k q=>exact λn p=>(DC _ _ _).symm
 |a x y L A=>exact λn p=>(L n _).trans (LA.sum2 (v:=0) (A n p))
 |s x y L A=>exact λn p=>(L n _).trans ((LA.sum2 (v:=0) ((A (-n) p).trans (congrArg (p.e c e+ ·) ((Gn n _).trans (Mn n _).symm)))).trans (congrArg (p.e c e+n* ·) (Ih).symm))
 |g x L=>exact λn p=>(L _ p).trans (congrArg (p.e c e+ ·) ((Gn n _).trans (Mn n _).symm))
 |m q x L=>exact λn p=>(L _ p).trans LA.mulL
 |l x q L=>exact λn p=>(L _ p).trans LA.mulR
 |u x=>exact LA.e_add c e x
noncomputable def LA.z0:List Int->Bool
 |[]=>Y
 |x::r=>decide (x=0)&&z0 r
noncomputable def LA.p0:List Int->Bool
 |[]=>Y
 |x::r=>decide (0<=x)&&p0 r
theorem LA.z0_dot:∀(c r:List Int),z0 r=Y->dot r c=0
 |_,[],_=>rfl
 |[],_::_,_=>rfl
 |y::c,x::r,h=>
  have h:=(Bg _ _).mp h
  (congrArg (· *y+dot r c) (of_decide_eq_true h.1)).trans ((congrArg (· +dot r c) (GW y)).trans ((Cq _).trans (z0_dot c r h.2)))
theorem LA.p0_dot:∀(c:List Nat) (r:List Int),p0 r=Y->0<=dot r (nat c)
 |_,[],_=>Mp 0
 |[],_::_,_=>Mp 0
 |y::c,x::r,h=>
  have h:=(Bg _ _).mp h
  Kd (Int.mul_nonneg (of_decide_eq_true h.1) (AW y)) (p0_dot c r h.2)
noncomputable def LS.no(p:LS):Bool:=LA.z0 p.z&&(LA.p0 p.t&&decide (0<p.k))
theorem LS.no_e(c:List Int)(e:List Nat)(p:LS)(h:p.no=Y):0<p.e c e:=
 have h:=(Bg _ _).mp h;have h':=(Bg _ _).mp h.2
 Int.add_pos_of_nonneg_of_pos (Kd (Bc (LA.z0_dot c _ h.1).symm) (LA.p0_dot e _ h'.1)) (of_decide_eq_true h'.2)
theorem LS.one{q a d:Int}{n:Nat}{x y:Int}(M:q=a+(-(n:Int))*y)(hd:d=q+n*x)(i:a<=0)(h:x<=y):d<=0:=
 have U:(n:Int)*x<=n*y:=Fx h (AW n);have j:q=a-n*y:=M.trans ((congrArg (a+ ·) (Gn _ _)).trans Int.sub_eq_add_neg.symm)
 Cr (Bc (hd.trans (congrArg (· +_) j))) (Cr (Int.add_le_add_left U _) (Cr (Bc (NC a _)) i))
noncomputable def LZ.ok:List (Nat×LZ×LZ)->LS->Bool
 |[],p=>p.no
 |(n,x,y)::r,p=>ok r (x.add n (y.add (-(n:Int)) p))
def LZ.D(c:List Int)(e:List Nat)(g:Prop):List (Nat×LZ×LZ)->Prop
 |[]=>g
 |(_,x,y)::r=>x.d c e<=y.d c e->D c e g r
noncomputable def LA.ok:List (Nat×LA×LA)->LS->Bool
 |[],p=>p.no
 |(n,x,y)::r,p=>ok r (x.add n (y.add (-(n:Int)) p))
def LA.D(c:List Nat)(g:Prop):List (Nat×LA×LA)->Prop
 |[]=>g
 |(_,x,y)::r=>x.d c<=y.d c->D c g r
theorem LZ.ok_D(c:List Int)(e:List Nat)(g:Prop):∀l p,ok l p=Y->(¬g->p.e c e<=0)->D c e g l
 |[],p,h,i=>I3 λM=>Int.not_lt.mpr (i M) (p.no_e c e h)
 |(n,x,y)::r,p,h,i=>λU=>ok_D c e g r _ h λM=>LS.one (y.e_add c e _ p) (x.e_add c e _ _) (i M) U
theorem LA.ok_D(e:List Nat)(g:Prop):∀l p,ok l p=Y->(¬g->p.e [] e<=0)->D e g l
 |[],p,h,i=>I3 λM=>Int.not_lt.mpr (i M) (p.no_e [] e h)
 |(n,x,y)::r,p,h,i=>λU=>ok_D e g r _ h λM=>LS.one (y.e_add [] e _ p) (x.e_add [] e _ _) (i M) (jO U)
noncomputable def LZ.G(x y:LZ)(l:List (Nat×LZ×LZ)):Bool:=ok l (y.add 1 (x.add (-1) ⟨[],[],1⟩))
noncomputable def LA.G(x y:LA)(l:List (Nat×LA×LA)):Bool:=ok l (y.add 1 (x.add (-1) ⟨[],[],1⟩))
theorem LS.start{c e}{q d x y:Int}(M:q=LS.e c e ⟨[],[],1⟩ + -1*x)(hd:d=q+1*y)(h:y<x):d<=0:=by
 subst hd M;show(0+0+1)+ -1*x+1*y<=0;rw[DL,EE,Dk,E1 _ y];exact Hw h
theorem li(c:List Int)(e:List Nat)(x y:LZ)(l:List (Nat×LZ×LZ))(h:LZ.G x y l=Y):LZ.D c e (x.d c e<=y.d c e) l:=
 LZ.ok_D c e _ l _ h λM=>LS.start (x.e_add c e _ _) (y.e_add c e _ _) (Int.not_le.mp M)
theorem ln(e:List Nat)(x y:LA)(l:List (Nat×LA×LA))(h:LA.G x y l=Y):LA.D e (x.d e<=y.d e) l:=
 LA.ok_D e _ l _ h λM=>LS.start (x.e_add [] e _ _) (y.e_add [] e _ _) (Int.ofNat_lt.mpr (Fl M))
theorem lg(g:Nat)(e:List Nat)(x y:LA)(l:List (Nat×LA×LA))(h:LA.ok l (y.add (g+1) (x.add (-(g+1)) ⟨[],[],g+1⟩))=Y):LA.D e (x.d e<=y.d e) l:=
 LA.ok_D e _ l _ h λM=>by
  have U:(g+1:Int)*((y.d e:Nat)+1)<=(g+1)*(x.d e:Nat):=Fx (jO (Fl M)) (AW (g+1));rw[LA.e_add,LA.e_add];rw[Hs,Ec]at U;show(0+0+(g+1:Int))+ -(g+1)*(x.d e:Nat)+(g+1)*(y.d e:Nat)<=0;rw[Gn,Dk,Cq,Cq,E1 _ ((g+1:Int)*(y.d e:Nat))];exact Hw U
theorem EJ{a:Nat}(x y l)(h:LA.G x y l=Y):LA.D [a] (x.d [a]<=y.d [a]) l:=ln _ x y l h
theorem En{a b:Nat}(x y l)(h:LA.G x y l=Y):LA.D [a,b] (x.d [a,b]<=y.d [a,b]) l:=ln _ x y l h
theorem EV{a b c:Nat}(x y l)(h:LA.G x y l=Y):LA.D [a,b,c] (x.d [a,b,c]<=y.d [a,b,c]) l:=ln _ x y l h
theorem Ip{a b c d:Nat}(x y l)(h:LA.G x y l=Y):LA.D [a,b,c,d] (x.d [a,b,c,d]<=y.d [a,b,c,d]) l:=ln _ x y l h
theorem Kn{a b c d e:Nat}(x y l)(h:LA.G x y l=Y):LA.D [a,b,c,d,e] (x.d [a,b,c,d,e]<=y.d [a,b,c,d,e]) l:=ln _ x y l h
theorem lI{a b c d e f:Nat}(x y l)(h:LA.G x y l=Y):LA.D [a,b,c,d,e,f] (x.d [a,b,c,d,e,f]<=y.d [a,b,c,d,e,f]) l:=ln _ x y l h
theorem Q4{a b c d e f g:Nat}(x y l)(h:LA.G x y l=Y):LA.D [a,b,c,d,e,f,g] (x.d [a,b,c,d,e,f,g]<=y.d [a,b,c,d,e,f,g]) l:=ln _ x y l h
theorem Fy{a b:Nat}:a<=a-b+b:=Nat.le_add_of_sub_le (AI _)
theorem U0{a:Int}{n:Nat}(U:a<=n)(G: -a<=n):a.natAbs<=n:=match a with
 | .ofNat _=>Int.ofNat_le.mp U
 | .negSucc _=>Int.ofNat_le.mp G
theorem T0{a:Int}{n:Nat}(U:a<n)(G: -a<n):a.natAbs<n:=match a with
 | .ofNat _=>Int.ofNat_lt.mp U
 | .negSucc _=>Int.ofNat_lt.mp G
theorem P5{a:Int}: -a<=(a.natAbs:Int):=E9 a▸DU
noncomputable def ps(n i:Nat):B9:=⟨n/2^(36*i+26)%1024,n/2^(36*i+18)%256,n/2^(36*i+8)%1024,n/2^(36*i)%256⟩
noncomputable def Ha(i:Nat):B9:=ps 1205434554205479432185123386259472762090114205232322930362113386444751004289305444770118408764319103363985239365916320575185995108293589740162359336463779565893946024358464289545079551610882568112554434422202899273249848295108240895927302187677855000589867263827153817103 i
noncomputable def Iy(i:Nat):B9:=ps 11916580326024507334071024035890558348469600687292625725916981788459390155308845353760268936545504863322428047965035729955131974931470500691987772959503983920650093887328455604483334584748819433695025600527 i
noncomputable def EP(i:Nat):B9:=ps 2169590761825788897904019988648585149123711916810310169928629828015130615490098487651117374967142545605555044395719272521198287658742028536830782340944156341161026524449108064254159886384985922406255519514698320237083770072702189589150804436501313649069360323574322839155137813501017251768841804365608705100971457316246832471452115746593812405726143432889582096899305635607852881271907064896756142997847342242271377929712476096949064810335212839593942821344794170893 i
noncomputable def Lx(i:Nat):B9:=ps 16090389487432459858247625559901105059025826478176710729576653413457656217882357748058738832868541784131349 i
noncomputable def D3(i:Nat):B9:=ps 62952050415132716817666672357267374426123799995490873767995493900882474453762756573708689570451524293282480674935622938195822403695281882257789963941214667926544709786606358696998448532939355829350718122974499548165164252677610198092925036051154984971245192052332433063904765675447092585189898086455179599853442699811707262691377133661052434606274910893002946607443171278516946751107423620740111583033647188270908633581021029314903793739295635359402508636756539006044920108295 i
noncomputable def GQ(i:Nat):B9:=ps 1988660735302953499869927911032047195814635128390623370441708738311061308927121577306911349669933870928542105652464743085643427008715458303399240097054065487561608329360995316138189355620336130758732959655536386041259094545408065383025235270227589208826332384647721674162992039987855011882252 i
noncomputable def Fp(i:Nat):B9:=ps 3351334575214788290566949396566789528610187510122788858257909453168908196004022043357948758313870215749626887014440310772343515858872964164758400572732810597252102653337485853661295562773746247049221472746857697323274259116100111751000011624321965876912091745939550591369495600114625350098557235504682919490957287200867472512893016233052582282230235018468706067508444275714688517193238666387520580221913490180853347916030890486290058902466330587693161377381013817820714523369093300441071905775821546820290793869242765283232180689897545017356 i
noncomputable def LV(i:Nat):B9:=ps 9458980301352316620238802264497989414748105503943061121958494089244991559248350779750467830560782394403758382355856183 i
noncomputable def GM(i:Nat):B9:=ps 78642636593755042474788897472393639915991931105437312614814294917282533261911426755848918916657242518553438974608301078472618914149601890319716949171132598855000515436338841285422126707850307707841076673684969730270419707217263208832787817183079572557494876278225123104542392742953565185249627700454626290765003988598091802803059851453436231440383738303149620542788100618405122240611628812 i
noncomputable def HW(i:Nat):B9:=ps 4172389700938073008816134615284017255299635554074148213753371803820835095938873621349320364944902031860860338438990959750611463314283867271072381185189162671654325642551911529569519259082050509576868113525008620072556740833076905042289424 i
noncomputable def P6(i:Nat):B9:=ps 1187546621127476059987795123164362975718351598204891606821577498304979183372 i
noncomputable def Gm(i:Nat):B9:=ps 12367805358305596013808825776336212733195312092063322842505531621158193277563511978608361009749496810427576860774164171278771941912082809250304856320334761956004077159671296617667268305414418008932542479913314168540610897082403527394272962097661977184936517668772027144959103822264510967647689880331749376225555629011391794115421220147651885977102 i
noncomputable def Sv(i:Nat):B9:=ps 290383945557761318044948117386414217481755195822883347 i
noncomputable def U1{k:Type}(z:k)(st:Bx)(Q:List Expr->Expr->k)(W:Expr->BY->Expr->k)(d:Expr->k)(X:Expr->List Bx->List Bx->k)(x:Expr->Expr->List Bx->List Bx->k)(fr:Option Expr->k)(fd:Fb->Scope->k):k:=
 Sb (motive_2:=λy=>k) st (λy a y y y y s y y y=>fd a s) (λy y y y y y y y y y=>z) (λy y y y y y y y y y y=>z) (λv y=>fr v) (λy y=>z) (λt v y=>Q t v) (λy y y y y y y=>z) (λt o v y=>W t o v) (λy y y y y=>z) (λt i b e y=>x t i b e) (λy y y y y=>z)
  (λy y y y=>z) (λc a b y=>X c a b) (λy y y=>z) (λy y y=>z) (λy y y=>z) (λy y y=>z) (λy y y y y=>z) (λy y y y y=>z) (λy y y=>z) (λy y=>z) (λy y y y=>z) (λy y=>z) (λy y=>z) (λv y=>d v) (λy=>z) (λy=>z) (λy=>z)
noncomputable def aU(st:Bx):List Bx:=U1 [] st (λz z=>[]) (λz z z=>[]) (λz=>[]) (λz b z=>b) (λz z b z=>b) (λz=>[]) (λz z=>[])
noncomputable def aW(l:List Bx)(i:Nat):List Bx:=match l[i]? with
 |some s=>aU s
 |none=>[]
noncomputable def dD(o:Option Bx):Option (Fb×Scope):=o.bind λst=>U1 Ao st (λz z=>Ao) (λz z z=>Ao) (λz=>Ao) (λz z z=>Ao) (λz z z z=>Ao) (λz=>Ao) (λa s=>V (a,s))
theorem nS{z:Type}{a:z}{P:Prop}(h:(Ao:Option z)=V a):P:=nomatch h
theorem bF{P:Prop}(h:Ak=Y):P:=nomatch h
theorem bT{P:Prop}(h:Y=Ak):P:=nomatch h
theorem sI{z:Type}{a b:z}(h:V a=V b):a=b:=CK h
theorem AH{a b:Bool}(h:(a&&b)=Y):a=Y/\b=Y:=(Bg _ _).mp h
inductive FC{α:Sort _}(p q:α->Prop):Prop
 |mk (x:α) (h:p x) (k:q x)
inductive LW{α β:Sort _}(p q:α->β->Prop):Prop
 |mk (x:α) (y:β) (h:p x y) (k:q x y)
inductive Q5{α β:Sort _}(p q r:α->β->Prop):Prop
 |mk (x:α) (y:β) (h:p x y) (k:q x y) (l:r x y)
inductive Pj{α β γ:Sort _}(p q:α->β->γ->Prop):Prop
 |mk (x:α) (y:β) (z:γ) (h:p x y z) (k:q x y z)
inductive NN{α β γ δ:Sort _}(p q:α->β->γ->δ->Prop):Prop
 |mk (x:α) (y:β) (z:γ) (u:δ) (h:p x y z u) (k:q x y z u)
noncomputable def BG{z Q:Type}(o:Option z)(f:z->Option Q):Option Q:=Sc Ao f o
theorem Cn{z Q:Type}{o:Option z}{f:z->Option Q}{d:Q}(h:BG o f=V d):FC (λx=>o=V x) λx=>f x=V d:=by
 cases o with
 |none=>exact nS h
 |some x=>exact⟨x,rfl,h⟩
theorem H2{z Q:Type}{o:Option z}{f:z->Option Q}{x:z}(h:o=V x):BG o f=f x:=by rw[h];rfl
noncomputable def CB{z:Type}(b:Bool)(o:Option z):Option z:=k9 Ao o b
theorem De{z:Type}{b:Bool}{o:Option z}{d:z}(h:CB b o=V d):b=Y/\o=V d:=by
 cases b with
 |false=>exact nS h
 |true=>exact⟨rfl,h⟩
theorem M6{z Q:Type}{o:Option z}{f:z->Q}{d:Q}(h:o.map f=V d):FC (λx=>o=V x) λx=>f x=d:=by
 cases o with
 |none=>exact nS h
 |some x=>exact⟨x,rfl,sI h⟩
theorem P7{a b:Nat}(h:¬a=b):As a b=Ak:=by
 cases q:As a b with
 |false=>rfl
 |true=>exact absurd (AB q) h
noncomputable def bI{z:Type}(b:Bool)(x y:z):z:=k9 y x b
noncomputable def oE{x Q:Type}(o:Option x)(z:Q)(f:x->Q):Q:=Sc z f o
theorem M7{z:Type}{b:Bool}{x y:z}(h:b=Y):bI b x y=x:=by rw[h];rfl
theorem OC{z:Type}{b:Bool}{x y:z}(h:b=Ak):bI b x y=y:=by rw[h];rfl
theorem Sw{a b:Bool}(h:bI a b Ak=Y):a=Y/\b=Y:=by
 cases a with
 |true=>exact⟨rfl,h⟩
 |false=>exact bF h
theorem aX{a b:Nat}(h:b<a):A3 a b=Ak:=Bool.eq_false_iff.mpr λq=>BH h (D8 q)
noncomputable def F1{z:Type}(_:z):Bool:=Ak
noncomputable def F2{z Q:Type}(_:z)(_:Q):Bool:=Ak
noncomputable def F3{z Q a:Type}(_:z)(_:Q)(_:a):Bool:=Ak
noncomputable def F4{z Q a e:Type}(_:z)(_:Q)(_:a)(_:e):Bool:=Ak
theorem b3{x c:Sort _}{Q:x->c->Prop}{P:Prop}:∀a b,Q a b->Ak=Y->P:=λz z z h=>bF h
theorem b4{x d e:Sort _}{Q:x->d->e->Prop}{P:Prop}:∀a b c,Q a b c->Ak=Y->P:=λz z z z h=>bF h
theorem b5{x f g e:Sort _}{Q:x->f->g->e->Prop}{P:Prop}:∀a b c d,Q a b c d->Ak=Y->P:=λz z z z z h=>bF h
theorem b6{x f g i T:Sort _}{Q:x->f->g->i->T->Prop}{P:Prop}:∀a b c d e,Q a b c d e->Ak=Y->P:=λz z z z z z h=>bF h
theorem iL{z:Type}[BEq z][LawfulBEq z]{l:List z}{x:z}(h:l.contains x=Y):x∈l:=List.contains_iff_mem.mp h
theorem Di{z:Type}{P:z->Prop}{a:z}{l:List z}(h:P a)(k:∀x∈l,P x):∀x∈a::l,P x:=λx L=>(jC L).elim (λe=>e▸h) (k x)
theorem Ky{y:Type}{P:y->Prop}:∀x∈([]:List y),P x:=λz L=>(Fh L).elim
theorem NO{z Q:Type}[BEq z][BEq Q][LawfulBEq Q]{sc:List (z×Q)}{b:Q}{l:List z}(h:(l.all λy=>sc.lookup y==V b)=Y):∀y∈l,sc.lookup y=V b:=λy A=>AA (D9 h y A)
theorem aY{P:Nat->Prop}{r:Nat}(h:r<1)(a:P 0):P r:=by rw[Nat.lt_one_iff.mp h];exact a
theorem T1{P:Nat->Prop}{n r:Nat}(h:r<n+1)(a:P 0)(k:∀m,m<n->P (m+1)):P r:=by
 cases r with
 |zero=>exact a
 |succ m=>exact k m (Lp h)
theorem aZ{P:Nat->Prop}{r:Nat}(h:r<3)(a:P 0)(U:P 1)(G:P 2):P r:=
 T1 h a λz h=>T1 (P:=λm=>P (m+1)) h U λz h=>aY (P:=λm=>P (m+2)) h G
theorem AO{z:Sort u}{P:z->Prop}{a b:z}(h:a=b)(x:P b):P a:=by cases h;exact x
theorem CE{z:Sort u}{P:z->Prop}{a b:z}(h:a=b)(x:P a):P b:=by cases h;exact x
theorem Dz{z:Sort u}{Q:Sort v}{P:z->Q->Prop}{a b:z}{c d:Q}(h:a=b)(k:c=d)(x:P b d):P a c:=by cases h;cases k;exact x
theorem M8{z:Sort u}{Q:Sort v}{g:Sort t}{P:z->Q->g->Prop}{a b:z}{c d:Q}{e f:g}(h:a=b)(k:c=d)(l:e=f)(x:P b d f):P a c e:=by cases h;cases k;cases l;exact x
structure Sg where
 v:Nat->Int
 t:Nat->List Nat
 tp:∀n,((t n).all λc=>A3 32 c&&Bf c 127)=Y/\(t n).length<1000000
 prog:Bh
 w:Ca
inductive PX where
 |k (i:Int)
 |v (n:Nat)
 |add (a b:PX)
 |mul (a b:PX)
noncomputable def PX.ev(J:Sg):PX->Int
 | .k i=>i
 | .v n=>J.v n
 | .add a b=>a.ev J+b.ev J
 | .mul a b=>a.ev J*b.ev J
noncomputable def Sx{y:Type}(a:PX)(f:Int->y)(z:y):y:=PX.casesOn a f (λx=>z) (λx x=>z) λx x=>z
noncomputable def Sy(a b:PX):PX:=Sx a (λi=>Sx b (λj=>.k (i+j)) (.add a b)) (.add a b)
noncomputable def Xg(a b:PX):PX:=Sx a (λi=>Sx b (λj=>.k (i*j)) (.mul a b)) (.mul a b)
noncomputable def U7(a:PX):PX:=Sx a (λi=>.k (-i)) (.mul (.k (-1)) a)
theorem Sz(J:Sg)(a b:PX):(Sy a b).ev J=a.ev J+b.ev J:=by
 induction a with
 |k i=>induction b<;>rfl
 |_=>rfl
theorem dE(J:Sg)(a b:PX):(Xg a b).ev J=a.ev J*b.ev J:=by
 induction a with
 |k i=>induction b<;>rfl
 |_=>rfl
theorem Xh(J:Sg)(a:PX):(U7 a).ev J= -a.ev J:=by
 induction a with
 |k i=>rfl
 |_=>exact EE _
noncomputable def T2(c:Int)(a b:Option Int):Option Int:=BG a λx=>BG b λy=>V ((x+y).fmod c)
noncomputable def T3(c:Int)(a b:Option Int):Option Int:=match a with
 |some x=>(match b with
  |some y=>V ((x*y).fmod c)
  |none=>CB (x==0) (V 0))
 |none=>BG b λy=>CB (y==0) (V 0)
noncomputable def LX(c:Int):PX->Option Int
 | .k i=>V (i.fmod c)
 | .v _=>Ao
 | .add a b=>T2 c (LX c a) (LX c b)
 | .mul a b=>T3 c (LX c a) (LX c b)
theorem U8(a c:Int):c ∣ a-a.fmod c:=⟨a.fdiv c,by have:=CA a c;exact(A5 (li [_,_,_] [] (.s (.v 2) (.v 1)) (.v 0) [(1,.v 2,.a (.v 0) (.v 1))] rfl (Bc this.symm)) (li [_,_,_] [] (.v 0) (.s (.v 2) (.v 1)) [(1,.a (.v 0) (.v 1),.v 2)] rfl (Bc this)))⟩
theorem dF{a b c:Int}(h:c ∣ a-b):a.fmod c=b.fmod c:=by
 obtain⟨q,M⟩:=h;have e:a=b+c*q:=(A5 (li [_,_,_] [] (.v 0) (.a (.v 1) (.v 2)) [(1,.s (.v 0) (.v 1),.v 2)] rfl (Bc M)) (li [_,_,_] [] (.a (.v 1) (.v 2)) (.v 0) [(1,.v 2,.s (.v 0) (.v 1))] rfl (Bc M.symm)))
 apply AO e;rw[F9]
theorem lJ{c A Ac x y:Int}(k:A.fmod c=x)(H:Ac.fmod c=y):(A+Ac).fmod c=(x+y).fmod c:=by
 refine dF ?_
 have this:=WZ (U8 A c) (U8 Ac c);rw[k,H]at this
 apply AO (show A+Ac-(x+y)=(A-x)+(Ac-y)from(A5 (li [_,_,_,_] [] (.s (.a (.v 0) (.v 1)) (.a (.v 2) (.v 3))) (.a (.s (.v 0) (.v 2)) (.s (.v 1) (.v 3))) [] rfl) (li [_,_,_,_] [] (.a (.s (.v 0) (.v 2)) (.s (.v 1) (.v 3))) (.s (.a (.v 0) (.v 1)) (.a (.v 2) (.v 3))) [] rfl)))
 exact this
theorem dG{c A Ac:Int}(k:A.fmod c=0):(A*Ac).fmod c=0:=Int.fmod_eq_zero_of_dvd (KH (Int.dvd_of_fmod_eq_zero k) (Om A Ac))
theorem lK{c A Ac x y:Int}(k:A.fmod c=x)(H:Ac.fmod c=y):(A*Ac).fmod c=(x*y).fmod c:=by
 refine dF ?_
 have g:=U8 A c;have F:=U8 Ac c;rw[k]at g;rw[H]at F;have e:A*Ac-x*y=(A-x)*Ac+x*(Ac-y):=by
  rw[Int.sub_mul,Int.mul_sub];exact(A5 (li [_,_,_] [] (.s (.v 0) (.v 1)) (.a (.s (.v 0) (.v 2)) (.s (.v 2) (.v 1))) [] rfl) (li [_,_,_] [] (.a (.s (.v 0) (.v 2)) (.s (.v 2) (.v 1))) (.s (.v 0) (.v 1)) [] rfl))
 apply AO e
 exact WZ (KH g (Om _ _)) (KH F (Int.dvd_mul_left _ _))
theorem dH(J:Sg)(c:Int)(p:PX):∀r:Int,LX c p=V r->(p.ev J).fmod c=r:=by
 induction p with
 |k i=>exact λr h=>sI h
 |v _=>exact λr h=>nS h
 |add a b Q ib=>
  intro r h;obtain⟨x,g,h⟩:=Cn (show T2 c (LX c a) (LX c b)=V r from h);obtain⟨y,F,h⟩:=Cn h
  apply CE (sI h)
  exact lJ (Q x g) (ib y F)
 |mul a b Q ib=>
  intro r;show T3 c (LX c a) (LX c b)=V r->(a.ev J*b.ev J).fmod c=r
  revert Q ib
  generalize LX c a=u
  generalize LX c b=v
  intro Q ib h
  induction u with
  |some x=>
   induction v with
   |some y=>exact sI h▸lK (Q x rfl) (ib y rfl)
   |none=>
    obtain⟨d,h⟩:=De (show CB (x==0) (V 0)=V r from h);exact sI h▸dG (AA d▸Q x rfl)
  |none=>
   obtain⟨y,A,h⟩:=Cn (show BG v _=V r from h);obtain⟨d,h⟩:=De h;exact sI h▸GX _ _▸dG (AA d▸ib y A)
noncomputable def Xi(c:Int):PX->Option PX
 | .k i=>V (.k (i.fdiv c))
 | .add (.mul (.k m) q) (.k r)=>CB (m.fmod c==0) (V (.add (.mul (.k (m.fdiv c)) q) (.k (r.fdiv c))))
 |_=>Ao
theorem lL{c m u r:Int}(E:c≠0)(h:m.fmod c=0):(m*u+r).fdiv c=m.fdiv c*u+r.fdiv c:=by
 have hm:=CA m c;rw[h,E0]at hm;have e:m*u+r=r+c*(m.fdiv c*u):=by rw[<-KG,hm];exact E1 _ _
 rw[e,Int.add_mul_fdiv_left _ _ E];exact E1 _ _
theorem dI(J:Sg)(c:Int)(E:c≠0)(p q:PX)(h:Xi c p=V q):(p.ev J).fdiv c=q.ev J:=by
 cases p with
 |k i=>exact sI h▸rfl
 |add a b=>
  cases a with
  |mul u v=>
   induction u with
   |k m=>
    induction b with
    |k r=>
     obtain⟨d,h⟩:=De (show CB (m.fmod c==0) (V (.add (.mul (.k (m.fdiv c)) v) (.k (r.fdiv c))))=V q from h);exact sI h▸lL E (AA d)
    |_=>exact nS h
   |_=>exact nS h
  |_=>exact nS h
 |_=>exact nS h
noncomputable def P8(Ac:Nat):PX->Nat
 | .k i=>i.natAbs
 | .v _=>Ac
 | .add a b=>P8 Ac a+P8 Ac b
 | .mul a b=>P8 Ac a*P8 Ac b
theorem dJ(J:Sg)(Ac:Nat)(h:∀n,(J.v n).natAbs<=Ac)(p:PX):(p.ev J).natAbs<=P8 Ac p:=by
 induction p with
 |k _=>exact AI _
 |v n=>exact h n
 |add a b g F=>exact Am (IJ _ _) (Ef g F)
 |mul a b g F=>
  show(a.ev J*b.ev J).natAbs<=_;rw[Ke];exact Hv g F
set_option genInjectivity true in
inductive D where
 |none
 |bool (b:Bool)
 |int (p:PX)
 |str (s:List Nat)
 |tup (O:List D)
 |lst (O:List D)
 |hdr (O:List D)
 |sym (n:Nat)
set_option genCtorIdx false in
mutual
inductive M where
 |c (d:D)
 |n (x:Nat)
 |lst (es:List M)
 |tup (es:List M)
 |bin (o:BY) (a b:M)
 |neg (a:M)
 |cmp (a:M) (os:List (Ep×M))
 |bop (o:H8) (es:List M)
 |ite (t a b:M)
 |idx (a i:M)
 |sl (a:M) (lo hi:Option M)
 |call (f:Nat) (as:List M)
 |bi (b:Nat) (as:List M)
 |me (m:Nat) (o:M) (as:List M)
 |comp (e:M) (cs:List Cl)
 |bor (a:M)
inductive Cl where
 |mk (t:List Nat) (CZ:Bool) (k:Nat) (it:List M) (ifs:List M)
end
noncomputable def Xj(m:M):Nat:=M.casesOn (motive_1:=λz=>Nat) m (λz=>0) (λz=>1) (λz=>2) (λz=>3) (λz z z=>4) (λz=>5) (λz z=>6) (λz z=>7) (λz z z=>8) (λz z=>9) (λz z z=>10) (λz z=>11) (λz z=>12) (λz z z=>13) (λz z=>14) (λz=>15)
noncomputable def dK{x:Type}(d:D)(f:Bool->Option x):Option x:=D.casesOn (motive_1:=λz=>Option x) d Ao f (λz=>Ao) (λz=>Ao) (λz=>Ao) (λz=>Ao) (λz=>Ao) (λz=>Ao)
noncomputable def I6{x:Type}(d:D)(f:PX->Option x):Option x:=D.casesOn (motive_1:=λz=>Option x) d Ao (λz=>Ao) f (λz=>Ao) (λz=>Ao) (λz=>Ao) (λz=>Ao) (λz=>Ao)
noncomputable def H3{x:Type}(d:D)(f:List Nat->Option x):Option x:=D.casesOn (motive_1:=λz=>Option x) d Ao (λz=>Ao) (λz=>Ao) f (λz=>Ao) (λz=>Ao) (λz=>Ao) (λz=>Ao)
noncomputable def OD{x:Type}(d:D)(f:List D->Option x):Option x:=D.casesOn (motive_1:=λz=>Option x) d Ao (λz=>Ao) (λz=>Ao) (λz=>Ao) f (λz=>Ao) (λz=>Ao) (λz=>Ao)
noncomputable def Ly{x:Type}(d:D)(f:List D->Option x):Option x:=D.casesOn (motive_1:=λz=>Option x) d Ao (λz=>Ao) (λz=>Ao) (λz=>Ao) (λz=>Ao) f (λz=>Ao) (λz=>Ao)
noncomputable def U9{x:Type}(d:D)(f:Nat->Option x):Option x:=D.casesOn (motive_1:=λz=>Option x) d Ao (λz=>Ao) (λz=>Ao) (λz=>Ao) (λz=>Ao) (λz=>Ao) (λz=>Ao) f
noncomputable def SA{x:Type}(p:PX)(f:Int->Option x):Option x:=PX.casesOn p f (λz=>Ao) (λz z=>Ao) (λz z=>Ao)
noncomputable def H4{z:Type}(d:D)(f:Int->Option z):Option z:=I6 d λp=>SA p f
noncomputable def P9{x:Type}(i:Int)(f:Nat->Option x):Option x:=Int.casesOn i f λz=>Ao
section
variable {α:Type} {d:D} {r:α}
noncomputable def Yf:=@D.casesOn
theorem T4{f:Bool->Option α}(h:dK d f=V r):FC (λp=>d= .bool p) λp=>f p=V r:=by induction d using Yf<;>first|exact nS h|exact⟨_,rfl,h⟩
theorem IN{f:PX->Option α}(h:I6 d f=V r):FC (λp=>d= .int p) λp=>f p=V r:=by induction d using Yf<;>first|exact nS h|exact⟨_,rfl,h⟩
theorem HJ{f:List Nat->Option α}(h:H3 d f=V r):FC (λp=>d= .str p) λp=>f p=V r:=by induction d using Yf<;>first|exact nS h|exact⟨_,rfl,h⟩
theorem Pm{f:List D->Option α}(h:OD d f=V r):FC (λp=>d= .tup p) λp=>f p=V r:=by induction d using Yf<;>first|exact nS h|exact⟨_,rfl,h⟩
theorem LY{f:List D->Option α}(h:Ly d f=V r):FC (λp=>d= .lst p) λp=>f p=V r:=by induction d using Yf<;>first|exact nS h|exact⟨_,rfl,h⟩
theorem Xk{f:Nat->Option α}(h:U9 d f=V r):FC (λp=>d= .sym p) λp=>f p=V r:=by induction d using Yf<;>first|exact nS h|exact⟨_,rfl,h⟩
theorem Vb{p:PX}{f:Int->Option α}(h:SA p f=V r):FC (λi=>p= .k i) λi=>f i=V r:=by induction p<;>first|exact nS h|exact⟨_,rfl,h⟩
theorem H5{f:Int->Option α}(h:H4 d f=V r):FC (λi=>d= .int (.k i)) λi=>f i=V r:=by
 obtain⟨p,U,h⟩:=IN h;obtain⟨i,G,h⟩:=Vb h;exact⟨i,by rw[U];apply AO G;rfl,h⟩
theorem Q6{i:Int}{f:Nat->Option α}(h:P9 i f=V r):FC (λn:Nat=>i=n) λn=>f n=V r:=by induction i<;>first|exact nS h|exact⟨_,rfl,h⟩
end
noncomputable def Gs{x Q:Type}(f:x->Option Q)(l:List x):Option (List Q):=A0 (V []) (λa z i=>BG (f a) λb=>BG i λbs=>V (b::bs)) l
theorem SB{x Q:Type}{f:x->Option Q}{a:x}{l:List x}{O:List Q}(h:Gs f (a::l)=V O):Q5 (λy z=>f a=V y) (λz ys=>Gs f l=V ys) λy ys=>O=y::ys:=by
 obtain⟨y,U,h⟩:=Cn h;obtain⟨ys,G,h⟩:=Cn h;exact⟨y,ys,U,G,(sI h).symm⟩
theorem Pn{x Q:Type}{f:x->Option Q}{a:x}{O:List Q}(h:Gs f [a]=V O):FC (λy=>f a=V y) λy=>O=[y]:=by
 obtain⟨y,ys,U,G,z⟩:=SB h;exact⟨y,U,by apply AO z;apply CE (sI G);rfl⟩
theorem Xl{k Q:Type}{f:k->Option Q}{a b:k}{O:List Q}(h:Gs f [a,b]=V O):Q5 (λy x=>f a=V y) (λx z=>f b=V z) λy z=>O=[y,z]:=by
 obtain⟨y,ys,U,G,c⟩:=SB h;obtain⟨z,l,D⟩:=Pn G;exact⟨y,z,U,l,by rw[c];apply AO D;rfl⟩
noncomputable def NP{x Q:Type}(f:x->Option (List Q))(l:List x):Option (List Q):=A0 (V []) (λa z i=>BG (f a) λb=>BG i λbs=>V (b++bs)) l
noncomputable def SD{x:Type}(l:List x):Bool:=A0 Y (λz z z=>Ak) l
noncomputable def Fq(l:List Nat):List Nat->Bool:=A0 SD (λa z i s=>BF s Ak λb s=>bI (As a b) (i s) Ak) l
theorem Qa{a:List Nat}:∀{b:List Nat},Fq a b=Y↔a=b:=by
 induction a with
 |nil=>intro b;induction b with
  |nil=>exact⟨λz=>rfl,λz=>rfl⟩
  |cons _ _=>exact⟨λh=>bF h,λh=>nomatch h⟩
 |cons x r ih=>intro b;induction b with
  |nil=>exact⟨λh=>bF h,λh=>nomatch h⟩
  |cons y s=>exact⟨λh=>AB (Sw h).1▸ih.mp (Sw h).2▸rfl,λh=>by injection h with U G;exact(M7 (U▸Cs _)).trans (ih.mpr G)⟩
noncomputable def J0(i j:Int):Bool:=match i with
 | .ofNat a=>(match j with| .ofNat b=>As a b|_=>Ak)
 | .negSucc a=>(match j with| .negSucc b=>As a b|_=>Ak)
theorem NQ{a b:Int}:J0 a b=Y↔a=b:=by
 constructor
 ·intro h;induction a<;>induction b<;>first|exact bF h|exact congrArg _ (AB h)
 ·rintro rfl;induction a<;>exact Cs _
noncomputable def K1:PX->PX->Bool
 | .k i,b=>(match b with| .k j=>J0 i j|_=>Ak)
 | .v m,b=>(match b with| .v n=>As m n|_=>Ak)
 | .add x y,b=>(match b with| .add u v=>K1 x u&&K1 y v|_=>Ak)
 | .mul x y,b=>(match b with| .mul u v=>K1 x u&&K1 y v|_=>Ak)
theorem OE{a:PX}:∀{b:PX},K1 a b=Y->a=b:=by
 induction a with
 |k i=>intro b h;induction b<;>first|exact bF h|exact congrArg _ (NQ.mp h)
 |v m=>intro b h;induction b<;>first|exact bF h|exact congrArg _ (AB h)
 |add x y U G=>intro b h;cases b<;>first|exact bF h|exact U (AH h).1▸G (AH h).2▸rfl
 |mul x y U G=>intro b h;cases b<;>first|exact bF h|exact U (AH h).1▸G (AH h).2▸rfl
noncomputable def Q7(a b:PX):Option Bool:=match K1 a b with
 |true=>V Y
 |false=>SA a λi=>SA b λj=>V (J0 i j)
theorem lM{i j:Int}:J0 i j=decide (i=j):=by
 rw[EC,NQ,decide_eq_true_iff]
theorem dL(J:Sg){a b:PX}{r:Bool}(h:Q7 a b=V r):r=decide (a.ev J=b.ev J):=by
 unfold Q7 at h;cases q:K1 a b with
 |true=>rw[q]at h;apply CE (sI h);apply AO (OE q);rw[decide_eq_true rfl]
 |false=>
  rw[q]at h;obtain⟨i,g,h⟩:=Vb h;obtain⟨j,F,h⟩:=Vb h
  apply Dz g F
  exact(sI h).symm.trans lM
noncomputable def Vc(f:D->D->Option Bool)(l:List D):List D->Option Bool:=A0 (λb=>BF b (V Y) λz z=>Ao) (λa z i b=>BF b Ao λc s=>BG (f a c) λx=>BG (i s) λy=>V (x&&y)) l
noncomputable def dM:D->Option Bool
 | .none=>V Y
 | .lst _=>V Ak
 | .tup _=>V Ak
 | .int _=>V Ak
 |_=>Ao
noncomputable def Ve(d:D)(o:Option Bool):Option Bool:=match d with
 | .none=>V Ak
 |_=>o
noncomputable def Xm(f:D->D->Option Bool)(a b:D):Option Bool:=match a with
 | .none=>dM b
 | .bool x=>dK b λy=>V (x==y)
 | .int p=>Ve b (I6 b λq=>Q7 p q)
 | .str x=>H3 b λy=>V (Fq x y)
 | .sym x=>U9 b λy=>CB (As x y) (V Y)
 | .tup x=>Ve b (OD b λy=>Vc f x y)
 | .lst x=>Ve b (Ly b λy=>match As x.length y.length with
  |true=>Vc f x y
  |false=>V Ak)
 |_=>Ao
noncomputable def Vf:Nat->D->D->Option Bool
 |0=>λz z=>Ao
 |n+1=>Xm (Vf n)
theorem Q8{d:D}{o:Option Bool}{r:Bool}(h:Ve d o=V r):(d= .none/\r=Ak)\/o=V r:=by
 induction d using Yf<;>first|exact .inr h|exact .inl ⟨rfl,(sI h).symm⟩
theorem dN{d:D}{r:Bool}(h:dM d=V r):(d= .none/\r=Y)\/(r=Ak/\((∃p,d= .int p)\/(∃l,d= .tup l)\/∃l,d= .lst l)):=by
 induction d using Yf with
 |none=>exact .inl ⟨rfl,(sI h).symm⟩
 |int p=>exact .inr ⟨(sI h).symm,.inl ⟨_,rfl⟩⟩
 |tup p=>exact .inr ⟨(sI h).symm,.inr (.inl ⟨_,rfl⟩)⟩
 |lst p=>exact .inr ⟨(sI h).symm,.inr (.inr ⟨_,rfl⟩)⟩
 |_=>exact nS h
noncomputable def M9(a b:D):Option Bool:=Vf 9 a b
noncomputable def lim:Nat:=1000000
noncomputable def AS{z:Type}(l:List z):Bool:=A3 l.length lim
noncomputable def Vg{z:Type}:List z->Bool
 |[]=>Ak
 |_::_=>Y
noncomputable def OF:D->Option Bool
 | .none=>V Ak
 | .bool b=>V b
 | .int p=>SA p λi=>V (!J0 i 0)
 | .str s=>CB (AS s) (V (Vg s))
 | .lst O=>CB (AS O) (V (Vg O))
 |_=>Ao
noncomputable def scalar:D->Bool
 | .tup _=>Ak
 | .lst _=>Ak
 | .hdr _=>Ak
 |_=>Y
noncomputable def lk{y:Type}(x:Nat)(l:List (Nat×y)):Option y:=A0 Ao (λp z i=>bI (As x p.1) (V p.2) i) l
noncomputable def Q9(i:Int)(n:Nat):Option Nat:=match i with
 | .ofNat a=>CB (Bf a n&&A3 n 1000000) (V a)
 | .negSucc a=>CB (Bf a n&&A3 n 1000000) (V (n-(a+1)))
noncomputable def K2{x:Type}(l:List x):Nat->Option x:=A0 (λz=>Ao) (λa z i n=>W0 n (V a) i) l
theorem SE{x:Type}(l:List x):∀n:Nat,K2 l n=l[n]?:=by
 induction l with
 |nil=>exact λz=>rfl
 |cons a r ih=>exact λn=>match n with|0=>rfl|n+1=>ih n
noncomputable def SF{x:Type}(l:List x)(n:Nat):List x:=JU [] (λz i=>l++i) n
noncomputable def fits(p:PX):Bool:=Bf (P8 (2^1000) p) (2^60000)
noncomputable def Xn(c:Int):Bool:=match c with
 | .ofNat n=>Bf 0 n&&Bf n 1000001
 |_=>Ak
noncomputable def ba(x:List Nat)(b:D):Option D:=H3 b λy=>CB (AS x&&AS y) (V (.str (x++y)))
noncomputable def bg(x:List D)(b:D):Option D:=Ly b λy=>CB (AS x&&AS y) (V (.lst (x++y)))
noncomputable def bh(x:List D)(b:D):Option D:=OD b λy=>CB (AS x&&AS y) (V (.tup (x++y)))
noncomputable def bk(p:PX)(b:D):Option D:=I6 b λq=>V (.int (Sy p q))
noncomputable def NR(_:D):Option D:=Ao
noncomputable def lN(_ _:D):Option D:=Ao
noncomputable def Xo(a:D):D->Option D:=D.casesOn (motive_1:=λz=>D->Option D) a NR (λz=>NR) bk ba bh bg (λz=>NR) (λz=>NR)
noncomputable def bn(p:PX)(b:D):Option D:=I6 b λq=>CB (fits p&&fits q) (V (.int (Xg p q)))
noncomputable def bo(x:List Nat)(b:D):Option D:=H4 b λn=>CB (A3 n.natAbs 1000&&A3 x.length 1000) (V (.str (SF x n.toNat)))
noncomputable def T5(a:D):D->Option D:=D.casesOn (motive_1:=λz=>D->Option D) a NR (λz=>NR) bn bo (λz=>NR) (λz=>NR) (λz=>NR) (λz=>NR)
noncomputable def bq(a b:D):Option D:=I6 a λp=>I6 b λq=>V (.int (Sy p (U7 q)))
noncomputable def bt(a b:D):Option D:=I6 a λp=>H4 b λc=>CB (Xn c) (BG (Xi c p) λq=>V (.int q))
noncomputable def bv(a b:D):Option D:=I6 a λp=>H4 b λc=>CB (Xn c) (BG (LX c p) λr=>V (.int (.k r)))
noncomputable def bw(a b:D):Option D:=I6 a λp=>H4 b λc=>P9 c λn=>BG (Xi ((2^n:Nat):Int) p) λq=>V (.int q)
noncomputable def bx(a b:D):Option D:=I6 a λp=>H4 b λc=>CB (J0 c 1) (BG (LX 2 p) λr=>V (.int (.k r)))
noncomputable def Ra(o:BY):D->D->Option D:=match o with
 | .Add=>Xo
 | .Sub=>bq
 | .Mult=>T5
 | .FloorDiv=>bt
 | .Mod=>bv
 | .RShift=>bw
 | .BitAnd=>bx
 |_=>lN
noncomputable def I7:Int->Int->Bool
 | .ofNat a,.ofNat b=>Bf a b
 | .ofNat _,.negSucc _=>Ak
 | .negSucc _,.ofNat _=>Y
 | .negSucc a,.negSucc b=>Bf b a
theorem Rb{a b:Int}:I7 a b=Y↔a<b:=zp a b
noncomputable def Qb:D->Option (Option Bool)
 | .none=>V Ao
 | .bool b=>V (V b)
 |_=>Ao
noncomputable def Vh(a b:D):Option Bool:=match Qb a with
 |some x=>(match Qb b with
  |some y=>V (x==y)
  |none=>V Ak)
 |none=>BG (Qb b) λz=>V Ak
mutual
noncomputable def gr:D->Bool
 | .none=>Y
 | .bool _=>Y
 | .int p=>(match p with| .k _=>Y|_=>Ak)
 | .str _=>Y
 | .tup O=>K3 O
 | .lst O=>K3 O
 |_=>Ak
noncomputable def K3:List D->Bool
 |[]=>Y
 |d::r=>gr d&&K3 r
end
noncomputable def Vi(a:D)(l:List D):Option Bool:=A0 (V Ak) (λb z i=>BG (M9 b a) λx=>BG i λy=>V (x||y)) l
noncomputable def O3(d:D):Bool:=match d with
 | .tup _=>Y
 | .lst _=>Y
 | .int _=>Y
 |_=>Ak
noncomputable def dO(l:List D):Bool:=A0 Y (λd z i=>O3 d&&i) l
noncomputable def Xp(a:D)(O:List D):Option Bool:=match K3 O with
 |true=>Vi a O
 |false=>(match a with
  | .none=>CB (dO O) (V Ak)
  |_=>Ao)
noncomputable def OG(c:Nat)(l:List Nat):Bool:=A0 Ak (λx z i=>As x c||i) l
noncomputable def bz(a:D)(s:List Nat):Option Bool:=H3 a λx=>match x with
 |[c]=>V (OG c s)
 |_=>Ao
noncomputable def Xq(a b:D):Option Bool:=match b with
 | .lst O=>Xp a O
 | .str s=>bz a s
 |_=>Ao
noncomputable def SG(f:Int->Int->Bool)(a b:D):Option Bool:=H4 a λi=>H4 b λj=>V (f i j)
noncomputable def lO:D->D->Option Bool:=SG I7
noncomputable def lP:D->D->Option Bool:=SG λi j=>!I7 j i
noncomputable def lQ:D->D->Option Bool:=SG λi j=>I7 j i
noncomputable def lR:D->D->Option Bool:=SG λi j=>!I7 i j
noncomputable def Rc(f:D->D->Option Bool)(a b:D):Option Bool:=(f a b).map (!·)
noncomputable def Vj(o:Ep):D->D->Option Bool:=match o with
 | .Lt=>lO
 | .LtE=>lP
 | .Gt=>lQ
 | .GtE=>lR
 | .Eq=>M9
 | .NotEq=>Rc M9
 | .Is=>Vh
 | .IsNot=>Rc Vh
 | .In=>Xq
 | .NotIn=>Rc Xq
noncomputable def NS(a i:D):Option D:=H4 i λk=>match a with
 | .lst O=>BG (Q9 k O.length) λn=>K2 O n
 | .tup O=>BG (Q9 k O.length) λn=>K2 O n
 | .str s=>BG (Q9 k s.length) λn=>BG (K2 s n) λc=>V (.str [c])
 |_=>Ao
noncomputable def SH(o:Option D)(d:Nat):Option Nat:=match o with
 |none=>V d
 |some x=>H4 x λi=>P9 i λn=>V n
noncomputable def Lz{z:Type}(l:List z)(lo T:Nat):List z:=(l.drop lo).take (T-lo)
noncomputable def Re(a:D)(lo T:Option D):Option D:=BG (SH lo 0) λx=>match a with
 | .lst O=>BG (SH T O.length) λy=>CB (AS O) (V (.lst (Lz O x y)))
 | .str s=>(match T with
  |none=>CB (AS s&&A3 x s.length) (V (.str (s.drop x)))
  |some h=>H4 h λi=>P9 i λy=>CB (AS s&&(A3 x y&&A3 y s.length)) (V (.str (Lz s x y))))
 |_=>Ao
noncomputable def LB(i:Int):D:=.int (.k i)
noncomputable def OH(lo st:Int)(n:Nat):List D:=JU (motive:=λz=>Int->List D) (λz=>[]) (λz i lo=>LB lo::i (lo+st)) n lo
noncomputable def lS(l:List D):Option (Int×Int×Nat):=match l with
 |[]=>Ao
 |a::r=>H4 a λi=>match r with
  |[]=>CB (Bf i.natAbs 1000000) (V (0,1,i.toNat))
  |b::r=>H4 b λj=>CB (Bf j.natAbs 1000000) (match r with
   |[]=>V (i,1,(j-i).toNat)
   |c::r=>H4 c λk=>CB (J0 k (-1)) (match r with
    |[]=>V (i, -1,(i-j).toNat)
    |_=>Ao))
noncomputable def Po(l:List D):List D->List D:=A0 (λz=>[]) (λa z i l=>BF l [] λb s=>.tup [a,b]::i s) l
noncomputable def T6(d:D):Option (List D):=match d with
 | .lst l=>CB (AS l) (V l)
 | .tup l=>CB (AS l) (V l)
 | .str s=>CB (AS s) (V (s.map λc=>.str [c]))
 |_=>Ao
noncomputable def K4(O:List D):Option D:=match O with
 |[]=>Ao
 |d::r=>(match r with
  |[]=>V d
  |_=>Ao)
theorem Xr{O:List D}{d:D}(h:K4 O=V d):O=[d]:=by
 cases O with
 |nil=>exact nS h
 |cons a r=>induction r with
  |nil=>apply AO (sI h);rfl
  |cons _ _=>exact nS h
noncomputable def Qc(k:Nat)(O:List D):Option (List D):=match k with
 |0=>BG (K4 O) T6
 |1=>BG (lS O) λr=>CB (A3 r.2.2 1000&&Bf r.1.natAbs 1000000) (V (OH r.1 r.2.1 r.2.2))
 |_=>Ao
noncomputable def FW(t:List Nat):List D->List (Nat×D)->Option (List (Nat×D)):=A0 (λO ρ=>BF O (V ρ) λz z=>Ao) (λx z i O ρ=>BF O Ao λd O=>i O ((x,d)::ρ)) t
noncomputable def L0(t:List Nat)(CZ:Bool)(d:D)(ρ:List (Nat×D)):Option (List (Nat×D)):=match CZ with
 |true=>(match t with|[x]=>V ((x,d)::ρ)|_=>Ao)
 |false=>(match d with
  | .tup O=>FW t O ρ
  | .lst O=>FW t O ρ
  |_=>Ao)
noncomputable def L3(n:Nat)(f:Nat):List Nat:=JU (motive:=λz=>Nat->List Nat) (λz=>[]) (λz i n=>bI (Bf n 10) [n+48] (i (n/10)++[n%10+48])) f n
noncomputable def ME(i:Int):List Nat:=match i with
 | .ofNat n=>L3 n 30
 | .negSucc n=>45::L3 (n+1) 30
noncomputable def SJ(acc:D)(l:List D):Option D:=A0 (motive:=λz=>D->Option D) V (λd z i acc=>BG (Xo acc d) i) l acc
noncomputable def Rf(l:List D):Option (List (List Nat)):=A0 (V []) (λd z i=>H3 d λs=>BG i λl=>V (s::l)) l
noncomputable def K5(w:List Nat)(l:List (List Nat)):List Nat:=A0 [] (λx r i=>BF r x λz z=>x++(w++i)) l
noncomputable def T7(l:List Nat):Nat->Option Nat:=A0 V (λc z i a=>CB (A3 48 c&&A3 c 57) (i (a*10+(c-48)))) l
noncomputable def dP(c:Nat):Nat:=if A3 97 c&&A3 c 122 then c-32 else c
noncomputable def DG(c:Nat):Nat:=if A3 65 c&&A3 c 90 then c+32 else c
noncomputable def IP(s:List Nat):Bool:=s.all λc=>Bf c 128
noncomputable def Iz(p:List Nat):List Nat->Option (List Nat):=A0 V (λa z i s=>BF s Ao λb s=>CB (As a b) (i s)) p
noncomputable def Pp(w:List Nat)(f:Nat):List Nat->List Nat->List (List Nat):=JU (λz acc=>[acc.reverse]) (λz i s acc=>BF s [acc.reverse] λc s=>oE (Iz w (c::s)) (i s (c::acc)) λr=>acc.reverse::i r []) f
noncomputable def T8(d:D):Option D:=match d with
 | .lst l=>CB (AS l) (V (LB l.length))
 | .tup l=>CB (AS l) (V (LB l.length))
 | .str l=>CB (AS l) (V (LB l.length))
 |_=>Ao
noncomputable def T9(d:D):Option D:=match d with
 | .lst l=>CB (AS l) (SJ (LB 0) l)
 | .tup l=>CB (AS l) (SJ (LB 0) l)
 |_=>Ao
noncomputable def bA(s:List Nat):Option D:=match s with
 |[]=>Ao
 |c::s=>CB (A3 s.length 20) ((T7 (c::s) 0).map λ(n:Nat)=>LB n)
noncomputable def lT(l:List D):Option D:=match l with
 |[]=>Ao
 |a::r=>H4 a λi=>BG (K4 r) λb=>H4 b λj=>CB (!J0 j 0&&Bf j.natAbs (2^8000)) (V (.tup [.int (.k (i.fdiv j)),.int (.k (i.fmod j))]))
noncomputable def lU(as:List D):Option D:=BG (K4 as) T8
noncomputable def lV(as:List D):Option D:=BG (K4 as) T9
noncomputable def lW(as:List D):Option D:=BG (K4 as) λd=>H4 d λi=>CB (Bf i.natAbs 10000000000) (V (.str (ME i)))
noncomputable def lX(as:List D):Option D:=BG (K4 as) λd=>H3 d bA
noncomputable def lY(as:List D):Option D:=BG (K4 as) λd=>H4 d λi=>P9 i λn=>CB (Bf n 55296) (V (.str [n]))
noncomputable def SK(b:Nat):List D->Option D:=match b with
 |0=>lU
 |1=>lV
 |2=>lW
 |3=>lX
 |4=>lY
 |8=>lT
 |_=>λz=>Ao
noncomputable def lZ(w:List Nat)(l:List D):Option D:=BG (Rf l) λls=>CB (AS l&&(AS w&&A3 (K5 w ls).length lim)) (V (.str (K5 w ls)))
noncomputable def l7(s w:List Nat):Option D:=match w with
 |[]=>Ao
 |a::w=>CB (AS s&&(AS w&&IP (a::w))) (V (.lst ((Pp (a::w) (s.length+1) s []).map .str)))
noncomputable def SL(m:Nat)(o:D)(as:List D):Option D:=match m with
 |0=>H3 o λw=>BG (K4 as) λd=>Ly d (lZ w)
 |1=>H3 o λs=>BG (K4 as) λd=>H3 d (l7 s)
 |2=>H3 o λs=>(match as with|[]=>CB (IP s&&AS s) (V (.str (s.map dP)))|_=>Ao)
 |3=>H3 o λs=>(match as with|[]=>CB (IP s&&AS s) (V (.str (s.map DG)))|_=>Ao)
 |_=>Ao
noncomputable def Xs{z Q:Type}(f:z->Option Q):Option z->Option (Option Q)
 |none=>V Ao
 |some a=>(f a).map V
noncomputable def dQ(f:M->Option D)(l:List M):Option Bool:=A0 (V Y) (λm z i=>BG (f m) λd=>BG (OF d) λb=>bI b i (V Ak)) l
noncomputable def Xu(f:M->Option D)(Vk:Bool)(l:List M):Option D:=A0 Ao (λm r i=>BF r (f m) λz z=>BG (f m) λd=>BG (OF d) λt=>bI (t==Vk) i (V d)) l
noncomputable def Ua(f:M->Option D)(a:D)(l:List (Ep×M)):Option D:=A0 (motive:=λz=>D->Option D) (λz=>Ao) (λom r i a=>BG (f om.2) λb=>BG (Vj om.1 a b) λt=>BF r (V (.bool t)) λz z=>bI t (i b) (V (.bool Ak))) l a
noncomputable def Cl.tg(c:Cl):List Nat:=match c with
 | .mk t _ _ _ _=>t
noncomputable def IQ(l:List Cl):List Nat:=A0 [] (λc z i=>c.tg++i) l
noncomputable def NT(x:Nat)(l:List Nat):Bool:=A0 Ak (λy z i=>bI (As x y) Y i) l
noncomputable def Dn(ts:List Nat)(l:List (Nat×D)):List (Nat×D):=A0 [] (λe z i=>bI (NT e.1 ts) i (e::i)) l
noncomputable def MF(f:List (Nat×D)->M->Option D)(k:List (Nat×D)->Option (List D))(t:List Nat)(CZ:Bool)(C:List M)(ρ:List (Nat×D))(d:D):Option (List D):=
 BG (L0 t CZ d ρ) λA6=>BG (dQ (f A6) C) λb=>bI b (k A6) (V [])
noncomputable def l8(f:List (Nat×D)->M->Option D)(c:Cl)(i:List (Nat×D)->Option (List D))(ρ:List (Nat×D)):Option (List D):=match c with
 | .mk t CZ k it C=>BG (Gs (f ρ) it) λO=>BG (Qc k O) λitems=>NP (MF f i t CZ C ρ) items
noncomputable def MG(f:List (Nat×D)->M->Option D)(e:M)(l:List Cl):List (Nat×D)->Option (List D):=A0 (λρ=>(f ρ e).map λd=>[d]) (λc z i=>l8 f c i) l
noncomputable def l9(C:Nat->List D->Option D)(k:Nat)(x:D)(O:List D):Option D:=match x with
 | .hdr es=>C (1000+k) (.hdr es::O)
 |x=>SL k x O
noncomputable abbrev Ev:=List (Nat×D)->List (Nat×D)->M->Option D
section
variable (C:Nat->List D->Option D) (e:M->Option D)
noncomputable def bB(es:List M):Option D:=(Gs e es).map .lst
noncomputable def bC(es:List M):Option D:=(Gs e es).map .tup
noncomputable def bD(o:BY)(a b:M):Option D:=BG (e a) λx=>BG (e b) λy=>Ra o x y
noncomputable def bE(a:M):Option D:=BG (e a) λx=>I6 x λp=>V (.int (U7 p))
noncomputable def bG(a:M)(os:List (Ep×M)):Option D:=BG (e a) λx=>Ua e x os
noncomputable def bH(o:H8)(es:List M):Option D:=Xu e (match o with| .And=>Y| .Or=>Ak) es
noncomputable def bJ(t a b:M):Option D:=BG (e t) λx=>BG (OF x) λb'=>bI b' (e a) (e b)
noncomputable def bK(a i:M):Option D:=BG (e a) λx=>BG (e i) λy=>NS x y
noncomputable def md(a:M)(lo T:Option M):Option D:=BG (e a) λx=>BG (Xs e lo) λl=>BG (Xs e T) λh=>Re x l h
noncomputable def mf(f:Nat)(as:List M):Option D:=BG (Gs e as) λO=>C f O
noncomputable def mh(b:Nat)(as:List M):Option D:=BG (Gs e as) λO=>SK b O
noncomputable def mj(k:Nat)(o:M)(as:List M):Option D:=BG (e o) λx=>BG (Gs e as) λO=>l9 C k x O
noncomputable def bL(E:Ev)(ρ Bt:List (Nat×D))(e:M)(r:List Cl)(c:Cl):Option D:=match c with
 | .mk t CZ k it C=>BG (Gs (E ρ Bt) it) λO=>BG (Qc k O) λitems=>
  BG (NP (MF (λA6=>E A6 (Dn (t++IQ r) Bt)) (MG (λA6=>E A6 (Dn (t++IQ r) Bt)) e r) t CZ C (Dn (t++IQ r) ρ)) items) λO=>CB (AS O) (V (.lst O))
noncomputable def ml(E:Ev)(ρ Bt:List (Nat×D))(e:M)(X:List Cl):Option D:=BF X Ao λc r=>bL E ρ Bt e r c
noncomputable def bM(E:Ev)(ρ Bt:List (Nat×D))(a:M):Option D:=BG (E (ρ++Bt) [] a) λd=>CB (scalar d) (V d)
noncomputable def mm(E:Ev)(ρ Bt:List (Nat×D))(m:M):Option D:=
 M.casesOn (motive_1:=λz=>Option D) m V (λx=>lk x ρ) (bB (E ρ Bt)) (bC (E ρ Bt)) (bD (E ρ Bt)) (bE (E ρ Bt)) (bG (E ρ Bt)) (bH (E ρ Bt)) (bJ (E ρ Bt)) (bK (E ρ Bt)) (md (E ρ Bt)) (mf C (E ρ Bt)) (mh (E ρ Bt)) (mj C (E ρ Bt)) (ml E ρ Bt) (bM E ρ Bt)
end
noncomputable def ev(C:Nat->List D->Option D)(n:Nat):Ev:=JU (λz z z=>Ao) (λz E=>mm C E) n
noncomputable abbrev HA(its:Array Ag)(n:Nat):Fo:={cls:=.type "tuple",data:=.seq its n}
noncomputable abbrev Gf(its:Array Ag)(n:Nat):Fo:={cls:=.type "list",data:=.seq its n}
noncomputable def dR:Data->Bool
 | .fields _=>Y
 |_=>Ak
noncomputable def mn:Ag->Bool
 | .none=>Y
 |_=>Ak
noncomputable def Hn(o:Fo):Bool:=mn o.cls&&dR o.data
theorem JC{o:Fo}(h:dR o.data=Ak):Hn o=Ak:=by
 rw[Hn,h,JW]
theorem Vl{o:Fo}{fd:BA}(h:o.data= .func fd):Hn o=Ak:=JC (by rw[h];rfl)
structure Na(C:An)(o od:Fo)(x dx b:An):Prop where
 cls:o.cls= .ref C
 data:∀c,o.data≠.cls c
 dict:o.dict=V dx
 apart:dx≠x
 dcls:od.cls= .type "dict"
 ddict:od.dict=Ao
 names:∃es ep,od.data= .dict es ep/\StrKeys es/\UniqKeys es/\∀name,nsFind es name=if name=("_headers":Av)then V (.ref b)else Ao
theorem Na.tab{C:An}{o i:Fo}{x dx b:An}(h:Na C o i x dx b):Hn o=Ak/\Hn i=Ak:=by
 unfold Hn;rw[h.cls,h.dcls];exact⟨rfl,rfl⟩
mutual
inductive Rd(J:Sg)(N:An->Prop)(h:A9):Ag->D->Prop
 |sym {x:Av} {t:Ez} {n:Nat}:x.cps.toList=J.t n->Rd J N h (.str x t) (.sym n)
 |none:Rd J N h .none .none
 |bool (b:Bool):Rd J N h (.bool b) (.bool b)
 |int {i:Int} {t:Ez} {p:PX}:p.ev J=i->Rd J N h (.int i t) (.int p)
 |str {x:Av} {t:Ez} {s:List Nat}:x.cps.toList=s->Rd J N h (.str x t) (.str s)
 |tup {a:An} {I:List Ag} {n:Nat} {O:List D}:¬N a->h.get? a=V (HA I.toArray n)->BV J N h I O->Rd J N h (.ref a) (.tup O)
 |lst {a:An} {I:List Ag} {n:Nat} {O:List D}:¬N a->h.get? a=V (Gf I.toArray n)->BV J N h I O->Rd J N h (.ref a) (.lst O)
 |hdr {x dx b:An} {o od:Fo} {I:List Ag} {n:Nat} {O:List D}:¬N x->¬N dx->¬N b->h.get? x=V o->h.get? dx=V od->Na (J.v 999).toNat o od x dx b->h.get? b=V (Gf I.toArray n)->BV J N h I O->Rd J N h (.ref x) (.hdr O)
inductive BV(J:Sg)(N:An->Prop)(h:A9):List Ag->List D->Prop
 |nil:BV J N h [] []
 |cons {v:Ag} {d:D} {I:List Ag} {O:List D}:Rd J N h v d->BV J N h I O->BV J N h (v::I) (d::O)
end
variable {J:Sg} {N N':An->Prop} {h h':A9}
def FU(N N':An->Prop)(h h':A9):Prop:=∀a o,¬N a->h.get? a=V o->Hn o=Ak->¬N' a/\h'.get? a=V o
theorem Rd.mono(k:FU N N' h h'){v:Ag}{d:D}(r:Rd J N h v d):Rd J N' h' v d:=
 Rd.rec (motive_1:=λv d z=>Rd J N' h' v d) (motive_2:=λI O z=>BV J N' h' I O) .sym .none .bool .int .str (λn e z r=>.tup (k _ _ n e rfl).1 (k _ _ n e rfl).2 r) (λn e z r=>.lst (k _ _ n e rfl).1 (k _ _ n e rfl).2 r)
  (λn1 n2 F e1 e2 C X z r=>.hdr (k _ _ n1 e1 C.tab.1).1 (k _ _ n2 e2 C.tab.2).1 (k _ _ F X rfl).1 (k _ _ n1 e1 C.tab.1).2 (k _ _ n2 e2 C.tab.2).2 C (k _ _ F X rfl).2 r) .nil (λz z x r=>.cons x r) r
theorem BV.ind{P:List Ag->List D->Prop}(M:P [] [])(E:∀v d I O,Rd J N h v d->BV J N h I O->P I O->P (v::I) (d::O)){I:List Ag}{O:List D}(r:BV J N h I O):P I O:=
 BV.rec (motive_1:=λz z z=>True) (motive_2:=λI O z=>P I O) (λz=>trivial) trivial (λz=>trivial) (λz=>trivial) (λz=>trivial) (λz z z z=>trivial) (λz z z z=>trivial) (λz z z z z z z z z=>trivial) M (λx r z p=>E _ _ _ _ x r p) r
theorem BV.mono(k:FU N N' h h'){I:List Ag}{O:List D}(r:BV J N h I O):BV J N' h' I O:=r.ind .nil λz z z z x z q=>.cons (x.mono k) q
inductive Ub(v:Ag)(s:List Nat):Prop
 |mk (x:Av) (t:Ez) (hv:v= .str x t) (e:x.cps.toList=s)
inductive Uc(J:Sg)(N:An->Prop)(h:A9)(v:Ag)(O:List D)(mk:Array Ag->Nat->Fo):Prop
 |mk (a:An) (I:List Ag) (n:Nat) (hv:v= .ref a) (hn:¬N a) (g:h.get? a=V (mk I.toArray n)) (rs:BV J N h I O)
inductive bN(J:Sg)(N:An->Prop)(h:A9)(v:Ag)(O:List D):Prop
 |mk (x dx b:An) (o od:Fo) (I:List Ag) (n:Nat) (hv:v= .ref x) (n1:¬N x) (n2:¬N dx) (n3:¬N b) (e1:h.get? x=V o) (e2:h.get? dx=V od) (ho:Na (J.v 999).toNat o od x dx b) (e3:h.get? b=V (Gf I.toArray n)) (rs:BV J N h I O)
def Xv(J:Sg)(N:An->Prop)(h:A9)(v:Ag):D->Prop
 | .sym n=>Ub v (J.t n)
 | .none=>v= .none
 | .bool b=>v= .bool b
 | .int p=>∃t,v= .int (p.ev J) t
 | .str s=>Ub v s
 | .tup O=>Uc J N h v O HA
 | .lst O=>Uc J N h v O Gf
 | .hdr O=>bN J N h v O
theorem Rd.inv{v:Ag}{d:D}(r:Rd J N h v d):Xv J N h v d:=
 Rd.rec (motive_1:=λv d z=>Xv J N h v d) (motive_2:=λz z z=>True) (λe=>⟨_,_,rfl,e⟩) rfl (λz=>rfl) (λ{z t z} e=>e▸⟨t,rfl⟩) (λe=>⟨_,_,rfl,e⟩) (λn e r z=>⟨_,_,_,rfl,n,e,r⟩) (λn e r z=>⟨_,_,_,rfl,n,e,r⟩)
  (λn1 n2 F e1 e2 C X r z=>⟨_,_,_,_,_,_,_,rfl,n1,n2,F,e1,e2,C,X,r⟩) trivial (λz z z z=>trivial) r
noncomputable def vk:Ag->Nat
 | .none=>0
 | .bool _=>1
 | .int _ _=>2
 | .str _ _=>3
 | .ref _=>4
 |_=>5
noncomputable def dk:D->Nat
 | .none=>0
 | .bool _=>1
 | .int _=>2
 | .str _=>3
 | .sym _=>3
 |_=>4
theorem Rd.kind{v:Ag}{d:D}(r:Rd J N h v d):vk v=dk d:=
 Rd.rec (motive_1:=λv d z=>vk v=dk d) (motive_2:=λz z z=>True) (λz=>rfl) rfl (λz=>rfl) (λz=>rfl) (λz=>rfl) (λz z z z=>rfl) (λz z z z=>rfl) (λz z z z z z z z z=>rfl)
  trivial (λz z z z=>trivial) r
theorem SM{P:Prop}{a b:Nat}(h:a=b)(M:As a b=Ak):P:=absurd h (G2 M)
theorem Rd.inv'{v:Ag}{d M:D}(r:Rd J N h v d)(e:d=M):Xv J N h v M:=e▸r.inv
theorem Rd.intE{v:Ag}{p:PX}(r:Rd J N h v (.int p)):LW (λi t=>v= .int i t) λi z=>p.ev J=i:=by
 obtain⟨t,e⟩:=r.inv;exact⟨_,t,e,rfl⟩
def Ud(J:Sg)(N:An->Prop)(h:A9)(I:List Ag):List D->Prop
 |[]=>I=[]
 |d::O=>Q5 (λv ws=>I=v::ws) (λv z=>Rd J N h v d) λz ws=>BV J N h ws O
theorem BV.inv{I:List Ag}{O:List D}(r:BV J N h I O):Ud J N h I O:=r.ind (P:=Ud J N h) rfl λz z z z x r z=>⟨_,_,rfl,x,r⟩
theorem BV.two{I:List Ag}{a b:D}(r:BV J N h I [a,b]):Q5 (λv w=>I=[v,w]) (λv z=>Rd J N h v a) λz w=>Rd J N h w b:=by
 obtain⟨v,ws,e,U,r⟩:=r.inv;obtain⟨w,q,i,j,r⟩:=r.inv;exact⟨v,w,by apply AO e;rw[i,show q=[]from r.inv],U,j⟩
theorem BV.one{I:List Ag}{a:D}(r:BV J N h I [a]):FC (λv=>I=[v]) λv=>Rd J N h v a:=by
 obtain⟨v,ws,e,U,r⟩:=r.inv;exact⟨v,by rw[e];apply AO (show ws=[]from r.inv);rfl,U⟩
theorem BV.length{I:List Ag}{O:List D}(r:BV J N h I O):I.length=O.length:=r.ind (P:=λI O=>I.length=O.length) rfl λz z z z z z e=>congrArg Fw e
theorem BV.append{I ws:List Ag}{O es:List D}(r:BV J N h I O)(s:BV J N h ws es):BV J N h (I++ws) (O++es):=r.ind (P:=λI O=>BV J N h (I++ws) (O++es)) s λz z z z x z q=>.cons x q
theorem BV.get{I:List Ag}{O:List D}{i:Nat}{d:D}(r:BV J N h I O):O[i]?=V d->FC (λv=>I[i]?=V v) λv=>Rd J N h v d:=
 r.ind (P:=λI O=>∀i:Nat,O[i]?=V d->FC (λv=>I[i]?=V v) λv=>Rd J N h v d) (λz e=>nS e) (λv z I z x z ih i=>match i with
  |0=>λe=>⟨v,rfl,sI e▸x⟩
  |i+1=>λe=>ih i e) i
theorem BV.getV{I:List Ag}{O:List D}{i:Nat}{v:Ag}(r:BV J N h I O):I[i]?=V v->FC (λd=>O[i]?=V d) λd=>Rd J N h v d:=
 r.ind (P:=λI O=>∀i:Nat,I[i]?=V v->FC (λd=>O[i]?=V d) λd=>Rd J N h v d) (λz e=>nS e) (λz d z z x z ih i=>match i with
  |0=>λe=>⟨d,rfl,sI e▸x⟩
  |i+1=>λe=>ih i e) i
theorem BV.drop(n:Nat){I:List Ag}{O:List D}(r:BV J N h I O):BV J N h (I.drop n) (O.drop n):=
 r.ind (P:=λI O=>∀n,BV J N h (I.drop n) (O.drop n)) (λn=>by apply Dz QR QR;exact .nil) (λz z z z x r ih n=>match n with
  |0=>.cons x r
  |n+1=>ih n) n
theorem BV.take(n:Nat){I:List Ag}{O:List D}(r:BV J N h I O):BV J N h (I.take n) (O.take n):=
 r.ind (P:=λI O=>∀n,BV J N h (I.take n) (O.take n)) (λn=>by apply Dz HO HO;exact .nil) (λz z z z x z ih n=>match n with
  |0=>.nil
  |n+1=>.cons x (ih n)) n
theorem Rd.scalar{v:Ag}{d:D}(r:Rd J N h v d):Internal.scalar d=Y->Rd J N' h' v d:=
 Rd.rec (motive_1:=λv d z=>Internal.scalar d=Y->Rd J N' h' v d) (motive_2:=λz z z=>True) (λe z=>.sym e) (λz=>.none) (λb z=>.bool b) (λe z=>.int e) (λe z=>.str e) (λz z z z=>bF) (λz z z z=>bF) (λz z z z z z z z z=>bF)
  trivial (λz z z z=>trivial) r
noncomputable def Xw:Ag->Bool
 | .type s=>s=="code"
 |_=>Ak
noncomputable def mo:Ag->Bool
 | .str _ _=>Y
 |_=>Ak
noncomputable def dS:Data->Bool
 | .fields I=>oE (I[1]?:Option Ag) Ak mo
 |_=>Ak
noncomputable def NU(o:Fo):Bool:=dS o.data&&Xw o.cls
theorem Nb{o:Fo}(h:dS o.data=Ak):NU o=Ak:=by rw[NU,h];rfl
theorem Xx{o:Fo}{I:Array Ag}{q:Av}{t:Ez}(d:o.data= .fields I)(a:Xw o.cls=Y)(v:I[1]?=V (.str q t)):NU o=Y:=by
 rw[NU,d,a,Gq];show oE _ _ _=_;rw[v];rfl
def NV(h:A9)(s:Ag)(q:Av):Prop:=∃c o I t,s= .ref c/\h.get? c=V o/\Xw o.cls=Y/\o.data= .fields I/\I[1]?=V (.str q t)
theorem NV.rec'{h:A9}{i:Ag}{q:Av}(x:NV h i q):h.CodeRec i q:=by
 obtain⟨c,o,I,t,a,b,_,r⟩:=x;exact⟨c,o,I,t,a,b,r⟩
def IA(h:A9)(a:An):Prop:=∀o,h.get? a=V o->NU o=Ak
theorem IA.of{h:A9}{a:An}{o:Fo}(e:h.get? a=V o)(c:NU o=Ak):IA h a:=λP i=>by rw[e]at i;cases i;exact c
theorem IA.absurd{h:A9}{a:An}{o:Fo}{p:Prop}(n:IA h a)(c:NU o=Y)(e:h.get? a=V o):p:=by rw[n o e]at c;cases c
theorem IA.ns{h:A9}{a:An}{m:Av->Option Ag}(x:h.Ns a m):IA h a:=by
 obtain⟨o,es,ep,e,d,_⟩:=x;exact .of e (Nb (by rw[d];rfl))
theorem IA.cell{h:A9}{a:An}{v:Option Ag}(x:h.IsCell a v):IA h a:=by
 obtain⟨o,e,d⟩:=x;exact .of e (Nb (by rw[d];rfl))
theorem IA.lst{h:A9}{a:An}{I:Array Ag}(x:h.PlainList a I):IA h a:=by
 obtain⟨n,e⟩:=x;exact .of e rfl
noncomputable def SN(n:Nat):Av:=if n=36 then "_int2digits.<locals>.inner" else if n=39 then "_int2digits.<locals>.inner" else if n=51 then "_digits2int.<locals>.inner" else if n=54 then "_digits2int.<locals>.inner" else "?"
def K6(h:A9)(b:An):Prop:=∃ps:Array Ag,h.get? b=V (Hp ps)/\J9 ps.toList/\∀pos p,He pos ps.toList=V p->NV h p (SN pos.line)
theorem K6.keep{h h':A9}{b:An}(x:K6 h b)(j:∀c o,NU o=Y->h.get? c=V o->h'.get? c=V o)(y:∀o,h.get? b=V o->h'.get? b=V o):K6 h' b:=by
 obtain⟨ps,e,r,q⟩:=x;refine⟨ps,y _ e,r,λpos p E=>?_⟩
 obtain⟨c,o,I,t,e1,e2,i,d,v⟩:=q pos p E;exact⟨c,o,I,t,e1,j c o (Xx d i v) e2,i,d,v⟩
structure NW(P:Array Cg->Prop):Prop where
 keep:∀G G':Array Cg,P G->(∀(i:Nat) (st:Cg),G[i]?=V st->G'[i]?=V st)->(∀(i:Nat) (st:Cg),G.size<=i->G'[i]?=V st->st.bare=Y)->P G'
theorem NW.bare:NW AllBare:=⟨λG G' h k b y A=>by
 obtain⟨i,p,e⟩:=Array.mem_iff_getElem.mp A;have j:G'[i]?=V y:=by rw[BO p,e]
 by_cases q:i<G.size
 ·have:=k i G[i] (BO q);have this:=j▸this;cases this;exact h _ (Array.getElem_mem q)
 ·exact b i y (BI q) j⟩
theorem NW.at{i:Nat}{st:Cg}:NW (λG=>G[i]?=V st):=⟨λz z h k z=>k _ _ h⟩
structure BM(T:An->Prop)(s S:Ah):Prop where
 keep:∀b o,¬T b->s.heap.get? b=V o->S.heap.get? b=V o
 keep2:∀b o,s.heap.get? b=V o->Hn o=Ak->S.heap.get? b=V o
 tab:∀b,T b->K6 s.heap b->K6 S.heap b
 gens:∀{P:Array Cg->Prop},NW P->P s.gens->P S.gens
 os:S.os=s.os
variable {T:An->Prop} {s S DK:Ah}
theorem BM.refl:BM T s s:=⟨λz z z e=>e,λz z e z=>e,λz z e=>e,λz e=>e,rfl⟩
theorem BM.trans(x:BM T s S)(y:BM T S DK):BM T s DK:=
 ⟨λb o n e=>y.keep b o n (x.keep b o n e),λb o e n=>y.keep2 b o (x.keep2 b o e n) n,λb t e=>y.tab b t (x.tab b t e),λi e=>y.gens i (x.gens i e),y.os.trans x.os⟩
theorem BM.of_keeps{h':A9}{tk:Nat}(k:∀b o,s.heap.get? b=V o->h'.get? b=V o):BM T s {s with heap:=h',toks:=tk}:=
 ⟨λb o z e=>k b o e,λb o e z=>k b o e,λb z t=>t.keep (λc o z e=>k c o e) (λo e=>k _ o e),λz e=>e,rfl⟩
theorem BM.toks{tk:Nat}:BM T s {s with toks:=tk}:=.of_keeps (λz z e=>e)
theorem BM.push{o:Fo}{tk:Nat}:BM T s {s with heap:=s.heap.push o,toks:=tk}:=
 .of_keeps (λz z e=>Au o e)
def Da(h:A9)(a:An):Prop:=∃o,h.get? a=V o/\Hn o=Ak
theorem Da.ext{a:An}(x:BM T s S)(n:Da s.heap a):Da S.heap a:=by
 obtain⟨o,e,t⟩:=n;exact⟨o,x.keep2 a o e t,t⟩
theorem Da.lt{h:A9}{a:An}(n:Da h a):a<h.objs.size:=by
 obtain⟨_,e,_⟩:=n;exact AY e
theorem Iq{o:Fo}(h:∃T,o.cls= .type T):Hn o=Ak:=by
 obtain⟨T,e⟩:=h;rw[Hn,e];rfl
theorem BM.fits{N:An->Prop}(x:BM T s S):FU N N s.heap S.heap:=λa o n e c=>⟨n,x.keep2 a o e c⟩
theorem BM.ns{a:An}{m:Av->Option Ag}(x:BM T s S)(n:s.heap.Ns a m):S.heap.Ns a m:=by
 obtain⟨o,es,ep,e,d,r⟩:=n;exact⟨o,es,ep,x.keep2 a o e (JC (by rw[d];rfl)),d,r⟩
theorem BM.cell{a:An}{v:Option Ag}(x:BM T s S)(n:s.heap.IsCell a v):S.heap.IsCell a v:=by
 obtain⟨o,e,d⟩:=n;exact⟨o,x.keep2 a o e (JC (by rw[d];rfl)),d⟩
theorem BM.nolimit(x:BM T s S)(n:s.heap.NoLimit):S.heap.NoLimit:=by
 obtain⟨i,a,r⟩:=n;exact⟨i,x.ns a,r⟩
def DH(Z:DS)(h:A9)(x:Av)(v:Ag):Prop:=
 (Z.kindOf x=V .local/\∃m,h.Ns Z.locals m/\m x=V v)∨
 ((Z.kindOf x=V .cell\/Z.kindOf x=V .free)/\(x==("__classdict__":Av))=Ak/\∃c,Z.cells.lookup x=V c/\h.IsCell c (V v))
theorem DH.ext{T:An->Prop}{s S:Ah}{Z:DS}{x:Av}{v:Ag}(y:BM T s S)(h:DH Z s.heap x v):DH Z S.heap x v:=by
 rcases h with⟨U,m,i,j⟩|⟨U,i,c,j,p⟩
 ·exact .inl ⟨U,m,y.ns i,j⟩
 ·exact .inr ⟨U,i,c,j,y.cell p⟩
theorem DH.load{M:IX}{A:A1}{E:Ag->Ah->Prop}{s:Ah}{Z:DS}{x:Av}{v:Ag}{pos:B9}{Q:Ag->Ah->Prop}(P:Z.scope.kind= .function)
  (hd:(x==("__debug__":Av))=Ak)(h:DH Z s.heap x v)(q:Q v s):Ap M A (C1 (.Name x pos) Z) Q E s:=by
 refine Je ?_ hd
 rcases h with⟨U,m,j,i⟩|⟨U|U,j,c,i,p⟩
 ·exact FS P U j i q
 ·exact PS P U i p q
 ·exact Gd P U i p q j
noncomputable def Ko:Option AC->Bool
 |some .local=>Y
 |some .cell=>Y
 |some .free=>Y
 |_=>Ak
def I8(J:Sg)(B:Nat->Av)(N:An->Prop)(Z:DS)(h:A9)(ρ:List (Nat×D)):Prop:=
 ∀x d,lk x ρ=V d->Ko (Z.kindOf (B x))=Y->∃v,DH Z h (B x) v/\Rd J N h v d
theorem I8.ext{T:An->Prop}{J:Sg}{B:Nat->Av}{N:An->Prop}{s S:Ah}{Z:DS}{ρ:List (Nat×D)}(y:BM T s S)(h:I8 J B N Z s.heap ρ):I8 J B N Z S.heap ρ:=λx d e k=>by
 obtain⟨v,U,i⟩:=h x d e k;exact⟨v,U.ext y,i.mono y.fits⟩
structure IB(Z:DS)(sc:List (Av×AC)):Prop where
 kind:Z.scope.kind= .function
 names:Z.scope.names=sc
 glob:Z.globals=Es
 bui:Z.builtins=Jf
 cells:∀x,(sc.lookup x=V .cell\/sc.lookup x=V .free)->∃c,Z.cells.lookup x=V c
theorem IB.kindOf{Z:DS}{sc:List (Av×AC)}(h:IB Z sc)(x:Av):Z.kindOf x=sc.lookup x:=by
 unfold Ia;rw[h.names]
theorem Xy{f:D->D->Option Bool}{xs:List D}:∀{ys:List D} {r:Bool},Vc f xs ys=V r->
  xs.length=ys.length/\∃e:Nat->Bool,(∀j x y,xs[j]?=V x->ys[j]?=V y->f x y=V (e j))/\r=(Br xs.length).all e:=by
 induction xs with
 |nil=>
  intro ys r h
  induction ys with
  |nil=>exact⟨rfl,λz=>Y,λj x y e=>nS e,(sI h).symm⟩
  |cons _ _=>exact nS h
 |cons a xs ih=>
  intro ys r h
  induction ys with
  |nil=>exact nS h
  |cons b ys=>
   obtain⟨d,g,h⟩:=Cn h;obtain⟨l,U,h⟩:=Cn h;obtain⟨i,e,k,c⟩:=ih U;refine⟨congrArg Fw i,λj=>match j with|0=>d|j+1=>e j,λj x y=>?_,?_⟩
   ·induction j with
    |zero=>exact λL A=>sI L▸sI A▸g
    |succ j=>exact λL A=>k j x y L A
   ·rw[Cb,KV,List.all_cons,Se];apply CE (sI h);apply AO c;rfl
variable {A:A1}
theorem dT{I ws:List Ag}{n m:Nat}{o:Option Fo}(e1:o=V (HA I.toArray n))(e2:o=V (HA ws.toArray m)):I=ws:=by
 have q:=congrArg Ml (sI (e1.symm.trans e2))
 injection q with q
 exact congrArg Ic q
theorem Xz{I ws:List Ag}{n m:Nat}{o:Option Fo}(e1:o=V (Gf I.toArray n))(e2:o=V (Gf ws.toArray m)):I=ws:=by
 have q:=congrArg Ml (sI (e1.symm.trans e2))
 injection q with q
 exact congrArg Ic q
theorem dU{P:Prop}{I ws:List Ag}{n m:Nat}{o:Option Fo}(e1:o=V (HA I.toArray n))(e2:o=V (Gf ws.toArray m)):P:=
 absurd (lu (congrArg D1 (sI (e1.symm.trans e2)))) (by decide)
theorem LD{a b:An}(h:Cy a= .ref b):a=b:=Jj h
theorem dX{x y:Av}{t u:Ez}(h:IG x t= .str y u):x=y:=(zq h).1
theorem dY{x y:Int}{t u:Ez}(h:Db x t= .int y u):x=y:=(zr h).1
theorem dZ{x y:Bool}(h:Ag.bool x= .bool y):x=y:=lw h
theorem d8{h:A9}{f:D->D->Option Bool}(ih:∀{v:Ag} {x y:D} {r:Bool},f x y=V r->Rd J N h v x->Rd J N h v y->r=Y){I:List Ag}{xs ys:List D}{r:Bool}(b:BV J N h I xs)(c:BV J N h I ys)(e:Vc f xs ys=V r):r=Y:=by
 obtain⟨_,p,t,Q⟩:=Xy e
 apply AO Q;rw[List.all_eq_true]
 intro j a;have a:=A8 (List.mem_range.mp a);obtain⟨v,w,U⟩:=b.get a;obtain⟨d,hd,G⟩:=c.getV w;exact ih (t j _ _ a hd) U G
theorem ef{h:A9}{f:D->D->Option Bool}(ih:∀{v:Ag} {x y:D} {r:Bool},f x y=V r->Rd J N h v x->Rd J N h v y->r=Y){v:Ag}{x y:D}{r:Bool}(e:Xm f x y=V r)(L:Rd J N h v x)(A:Rd J N h v y):r=Y:=by
 have L:=L.inv
 induction x using Yf with
 |none=>
  rcases dN e with⟨_,h⟩|⟨_,⟨_,hd⟩|⟨_,hd⟩|⟨_,hd⟩⟩
  ·exact h
  ·obtain⟨_,A⟩:=(A.inv' hd);exact nomatch L.symm.trans A
  ·obtain⟨_,_,_,A,_⟩:=(A.inv' hd);exact nomatch L.symm.trans A
  ·obtain⟨_,_,_,A,_⟩:=(A.inv' hd);exact nomatch L.symm.trans A
 |bool b=>
  obtain⟨c,hd,e⟩:=T4 e
  apply CE (sI e);apply AO (dZ (L.symm.trans (A.inv' hd)));exact beq_self_eq_true c
 |int p=>
  obtain⟨t,L⟩:=L;rcases Q8 e with⟨hd,_⟩|e
  ·exact nomatch L.symm.trans (A.inv' hd)
  obtain⟨q,hd,e⟩:=IN e;obtain⟨u,A⟩:=(A.inv' hd)
  apply AO (dL J e);rw[dY (L.symm.trans A),decide_eq_true rfl]
 |str a=>
  obtain⟨c,hd,e⟩:=HJ e;obtain⟨i,X,L,U⟩:=L;obtain⟨n,j,A,G⟩:=(A.inv' hd)
  apply CE (sI e)
  exact Qa.mpr (U.symm.trans (dX (L.symm.trans A)▸G))
 |sym a=>
  obtain⟨c,hd,e⟩:=Xk e;exact(sI (De e).2).symm
 |tup a=>
  obtain⟨i,I,n1,H,_,E,g⟩:=L;rcases Q8 e with⟨hd,_⟩|e
  ·exact nomatch H.symm.trans (A.inv' hd)
  obtain⟨c,hd,e⟩:=Pm e;obtain⟨n,ws,n2,d,_,P,z⟩:=(A.inv' hd);exact d8 ih g (dT E (LD (H.symm.trans d)▸P)▸z) e
 |lst a=>
  obtain⟨i,I,n1,H,_,E,g⟩:=L;rcases Q8 e with⟨hd,_⟩|e
  ·exact nomatch H.symm.trans (A.inv' hd)
  obtain⟨c,hd,e⟩:=LY e;obtain⟨n,ws,n2,d,_,P,z⟩:=(A.inv' hd);have z:=Xz E (LD (H.symm.trans d)▸P)▸z;rw[<-g.length,<-z.length,Cs]at e;exact d8 ih g z e
 |_=>exact nS e
theorem mq{h:A9}(n:Nat):∀{v:Ag} {x y:D} {r:Bool},Vf n x y=V r->Rd J N h v x->Rd J N h v y->r=Y:=by
 induction n with
 |zero=>exact λe=>nS e
 |succ n ih=>exact ef ih
theorem Rd.isList{h:A9}{a:An}{O:List D}(r:Rd J N h (.ref a) (.lst O)):∃I:List Ag,h.IsList a I.toArray/\BV J N h I O:=by
 obtain⟨x,I,n,e,_,g,r⟩:=r.inv;rw[<-LD e]at g;exact⟨I,⟨_,g,rfl,_,rfl⟩,r⟩
theorem eg{x y:Av}:(x==y)=Fq x.cps.toList y.cps.toList:=by
 rw[EC,beq_iff_eq,Qa];exact⟨λh=>by apply AO h;rfl,λh=>congrArg aN (Array.toList_inj.mp h)⟩
theorem mu{i j:Int}:(i==j)=decide (i=j):=by
 rw[EC,beq_iff_eq,decide_eq_true_iff]
structure IR(A:A1)(s:Ah)(a b:Ag)(r:Bool):Prop where
 rc:RcAt A s a b r
 ne:RcNeAt A s a b (!r)
 eq:lC A s a b r
theorem IR.none_none:IR A s .none .none Y:=⟨RcAt.none_none,RcNeAt.none_none,dm _⟩
theorem IR.none_int(i:Int)(t:Ez):IR A s .none (.int i t) Ak:=⟨RcAt.none_int _ _,RcNeAt.none_int _ _,lC.none_int _ _⟩
theorem IR.int_none(i:Int)(t:Ez):IR A s (.int i t) .none Ak:=⟨RcAt.int_none _ _,RcNeAt.int_none _ _,lC.int_none _ _⟩
theorem IR.none_tup{l:An}{I:Array Ag}{n:Nat}(g:s.heap.get? l=V (HA I n))(i:A.units<Gv):IR A s .none (.ref l) Ak:=⟨RcAt.none_tuple ⟨_,g,rfl,_,rfl⟩ i,RcNeAt.none_tuple ⟨_,g,rfl,_,rfl⟩ i,lC.none_tuple ⟨_,g,rfl,_,rfl⟩ i⟩
theorem IR.none_lst{l:An}{I:Array Ag}{n:Nat}(g:s.heap.get? l=V (Gf I n))(i:A.units<Gv):IR A s .none (.ref l) Ak:=⟨RcAt.none_list ⟨_,g,rfl,_,rfl⟩ i,RcNeAt.none_list ⟨_,g,rfl,_,rfl⟩ i,lC.none_list ⟨_,g,rfl,_,rfl⟩ i⟩
theorem IR.tup_none{l:An}{I:Array Ag}{n:Nat}(g:s.heap.get? l=V (HA I n))(i:A.units<Gv):IR A s (.ref l) .none Ak:=⟨RcAt.tuple_none ⟨_,g,rfl,_,rfl⟩ i,RcNeAt.tuple_none ⟨_,g,rfl,_,rfl⟩ i,lC.tuple_none ⟨_,g,rfl,_,rfl⟩ i⟩
theorem IR.lst_none{l:An}{I:Array Ag}{n:Nat}(g:s.heap.get? l=V (Gf I n))(i:A.units<Gv):IR A s (.ref l) .none Ak:=⟨RcAt.list_none ⟨_,g,rfl,_,rfl⟩ i,RcNeAt.list_none ⟨_,g,rfl,_,rfl⟩ i,lC.list_none ⟨_,g,rfl,_,rfl⟩ i⟩
theorem IR.bools(x y:Bool):IR A s (.bool x) (.bool y) (x==y):=⟨RcAt.bool_bool _ _,RcNeAt.bool_bool _ _,lC.bool_bool _ _⟩
theorem IR.ints(i j:Int)(t u:Ez):IR A s (.int i t) (.int j u) (i==j):=⟨RcAt.int_int _ _ _ _,RcNeAt.int_int _ _ _ _,lC.int_int _ _ _ _⟩
theorem IR.strs(x y:Av)(t u:Ez):IR A s (.str x t) (.str y u) (x==y):=⟨RcAt.str_str _ _ _ _,RcNeAt.str_str _ _ _ _,lC.str_str _ _ _ _⟩
theorem IR.refs{l i:An}{r:Bool}(P3:l=i->r=Y)(Q:RcAt A s (.ref l) (.ref i) r)(ne:RcNeAt A s (.ref l) (.ref i) (!r)):IR A s (.ref l) (.ref i) r:=by
 refine⟨Q,ne,?_⟩
 by_cases q:l=i
 ·apply Dz (P3 q) q;exact dm _
 ·exact lC.of_refs q Q
theorem ei{A:A1}{f:D->D->Option Bool}(ih:∀{a b:Ag} {x y:D} {r:Bool},f x y=V r->Rd J N s.heap a x->Rd J N s.heap b y->lC A s a b r){I ws:List Ag}{xs ys:List D}{e:Nat->Bool}(d:BV J N s.heap I xs)(c:BV J N s.heap ws ys)
  (t:∀j x y,xs[j]?=V x->ys[j]?=V y->f x y=V (e j)):∀j (U:j<I.toArray.size) (G:j<ws.toArray.size),lC A s I.toArray[j] ws.toArray[j] (e j):=by
 intro j U G;obtain⟨F,e1,m⟩:=d.getV (A8 U);obtain⟨g,e2,h⟩:=c.getV (A8 G);exact ih (t j F g e1 e2) m h
theorem mv{A:A1}{f:D->D->Option Bool}(C:A.units<Gv)(is:∀{v:Ag} {x y:D} {r:Bool},f x y=V r->Rd J N s.heap v x->Rd J N s.heap v y->r=Y)
  (ih:∀{a b:Ag} {x y:D} {r:Bool},f x y=V r->Rd J N s.heap a x->Rd J N s.heap b y->lC A.in1 s a b r){a b:Ag}{x y:D}{r:Bool}(e:Xm f x y=V r)(L:Rd J N s.heap a x)(d:Rd J N s.heap b y):IR A s a b r:=by
 have P3:=λ(q:a=b)=>ef is e L (q▸d)
 have L:=L.inv
 induction x using Yf with
 |none=>
  rcases dN e with⟨hd,Q⟩|⟨Q,⟨_,hd⟩|⟨_,hd⟩|⟨_,hd⟩⟩
  ·apply M8 (show a=_ from L) (show b=_ from(d.inv' hd)) Q;exact .none_none
  ·obtain⟨_,d⟩:=(d.inv' hd)
   apply M8 (show a=_ from L) d Q;exact .none_int _ _
  ·obtain⟨_,_,_,d,_,g,_⟩:=(d.inv' hd)
   apply M8 (show a=_ from L) d Q;exact .none_tup g C
  ·obtain⟨_,_,_,d,_,g,_⟩:=(d.inv' hd)
   apply M8 (show a=_ from L) d Q;exact .none_lst g C
 |bool c=>
  obtain⟨c',hd,e⟩:=T4 e
  apply Dz (show a=_ from L) (show b=_ from(d.inv' hd));apply CE (sI e);exact .bools _ _
 |int p=>
  obtain⟨t,L⟩:=L;rcases Q8 e with⟨hd,Q⟩|e
  ·apply M8 L (show b=_ from(d.inv' hd)) Q;exact .int_none _ _
  obtain⟨q,hd,e⟩:=IN e;obtain⟨u,d⟩:=(d.inv' hd)
  apply M8 L d (dL J e);apply CE mu;exact .ints _ _ _ _
 |str l=>
  obtain⟨T,hd,e⟩:=HJ e;obtain⟨_,_,L,U⟩:=L;obtain⟨_,_,d,G⟩:=(d.inv' hd)
  apply Dz L d;apply CE (sI e);apply CE U;apply CE G;apply CE eg;exact .strs _ _ _ _
 |sym l=>
  obtain⟨T,hd,e⟩:=Xk e;obtain⟨_,_,L,U⟩:=L;obtain⟨_,_,d,G⟩:=(d.inv' hd);obtain⟨F,e⟩:=De e;rw[<-AB F,<-U]at G
  apply Dz L d;apply CE (sI e);apply CE (Qa.mpr G);apply CE eg;apply AO BEq.comm;exact .strs _ _ _ _
 |tup l=>
  obtain⟨W,I,n1,H,_,E,k⟩:=L;rcases Q8 e with⟨hd,Q⟩|e
  ·apply M8 H (show b=_ from(d.inv' hd)) Q;exact .tup_none E C
  obtain⟨c,hd,e⟩:=Pm e;obtain⟨n,ws,n2,h,_,P,z⟩:=(d.inv' hd);obtain⟨j,X,R,Q⟩:=Xy e;have m:=ei ih k z R;have o:=RcAt.tuples ⟨_,E,rfl,_,rfl⟩ ⟨_,P,rfl,_,rfl⟩ C m;have M:=RcNeAt.tuples ⟨_,E,rfl,_,rfl⟩ ⟨_,P,rfl,_,rfl⟩ C m;rw[AD,AD,k.length,z.length,j,UN,beq_self_eq_true,Gq,<-j,<-Q]at o M;rw[H,h]at P3 ⊢;exact .refs (λq=>P3 (congrArg _ q)) o M
 |lst l=>
  obtain⟨W,I,n1,H,_,E,k⟩:=L;rcases Q8 e with⟨hd,Q⟩|e
  ·apply M8 H (show b=_ from(d.inv' hd)) Q;exact .lst_none E C
  obtain⟨c,hd,e⟩:=LY e;obtain⟨n,ws,n2,h,_,P,z⟩:=(d.inv' hd);rw[H,h]at P3 ⊢;have hz:I.toArray.size=l.length:=k.length;have i:ws.toArray.size=c.length:=z.length;cases F:As l.length c.length with
  |true=>
   rw[F]at e;obtain⟨j,X,R,Q⟩:=Xy e;have m:=ei ih k z R;have o:=RcAt.lists ⟨_,E,rfl,_,rfl⟩ ⟨_,P,rfl,_,rfl⟩ (hz.trans (j.trans i.symm)) C m;have M:=RcNeAt.lists ⟨_,E,rfl,_,rfl⟩ ⟨_,P,rfl,_,rfl⟩ (hz.trans (j.trans i.symm)) C m;rw[hz,<-Q]at o M;exact .refs (λq=>P3 (congrArg _ q)) o M
  |false=>
   rw[F]at e;have w:(I.toArray.size != ws.toArray.size)=Y:=by rw[hz,i,bne_iff_ne];exact G2 F
   rw[<-sI e]at P3 ⊢;exact .refs (λq=>P3 (congrArg _ q)) (RcAt.lists_lengths ⟨_,E,rfl,_,rfl⟩ ⟨_,P,rfl,_,rfl⟩ w C) (RcNeAt.lists_lengths ⟨_,E,rfl,_,rfl⟩ ⟨_,P,rfl,_,rfl⟩ w C)
 |_=>exact nS e
theorem Vm(n:Nat):∀{A:A1} {a b:Ag} {x y:D} {r:Bool},A.units+n<Gv->Vf n x y=V r->Rd J N s.heap a x->Rd J N s.heap b y->IR A s a b r:=by
 induction n with
 |zero=>exact λz e=>nS e
 |succ n ih=>exact λo e L c=>mv (AG (AQ _ _) o) (λe=>mq n e) (λe U G=>(ih (by show _+1+n<Gv;rw[Fs,El 1];exact o) e U G).eq) e L c
theorem IC{z:Type}{l:List z}(h:AS l=Y):l.length<=1000000:=D8 h
noncomputable abbrev GB(T:An->Prop)(J:Sg)(N:An->Prop)(s:Ah)(d:D)(Q:Ag->Ah->Prop):Prop:=
 ∀v S,BM T s S->Rd J N S.heap v d->Q v S
theorem XA{z:Type}(P:z->Prop){c:Prop}[d:Decidable c]{a b:z}(h:c->P a)(k:¬c->P b):P (ite c a b):=by
 induction d with
 |isTrue e=>exact h e
 |isFalse e=>exact k e
variable {Aj:Bh} {w:Ca} {E Q:Ag->Ah->Prop}
theorem er{p:PX}(x:∀n,(J.v n).natAbs<=2^1000)(h:fits p=Y):AJ (p.ev J)<=60000:=by
 have z:=AG (dJ J (2^1000) x p) (D8 h);exact XA (·<=60000) (λy=>Be _) λhz=>(Ht λe=>hz (beq_iff_eq.mpr (Int.natAbs_eq_zero.mp e))).mpr z
theorem ez{p q:PX}(x:∀n,(J.v n).natAbs<=2^1000)(hp:fits p=Y)(M:fits q=Y):IntMulOk (p.ev J) (q.ev J):=
 λh=>Int.not_lt.mpr (jO (Am (Ef (er x hp) (er x M)) (D8 rfl:60000+60000<=bitsLine))) (of_decide_eq_true (AH h).2)
theorem eE{c:Int}(h:Xn c=Y):0<c/\c<1000001:=by
 induction c with
 |ofNat n=>exact⟨Int.ofNat_lt.mpr (D8 (AH h).1),Int.ofNat_lt.mpr (D8 (AH h).2)⟩
 |negSucc n=>exact bF h
theorem mw{z:Type}(l:List z)(n:Nat):(DF n l).flatten=SF l n:=by
 induction n with
 |zero=>rfl
 |succ n ih=>rw[HH,Bb,ih];rfl
theorem mx(a:Array Nat)(l:List (Array Nat)):∀acc:Array Nat,(l.foldl (·++·) acc).toList=acc.toList++(l.map (·.toList)).flatten:=by
 induction l with
 |nil=>exact λacc=>(B7 _).symm
 |cons b r ih=>exact λacc=>by rw[List.foldl_cons,ih,LM,DA,Bb,Cv]
theorem my(x:Av)(n:Int):(Txt.mul x n).cps.toList=SF x.cps.toList n.toNat:=by
 refine XA (λz:Av=>z.cps.toList=SF x.cps.toList n.toNat) (λh=>?_) λy=>XA (λz:Av=>z.cps.toList=SF x.cps.toList n.toNat) (λh=>?_) λy=>?_
 ·rw[Int.toNat_eq_zero.mpr (Int.le_of_lt_add_one h)];rfl
 ·rcases(AT _ _).mp h with h|h
  ·apply AO (show n=1 from AA h)
   exact(B7 _).symm
  ·rw[show x.cps.toList=[]from List.length_eq_zero_iff.mp (AA h)]
   clear h
   generalize n.toNat=k
   induction k with
   |zero=>rfl
   |succ k ih=>exact ih
 ·rw[mx x.cps,List.map_replicate,mw];rfl
theorem XB(x y:Av):(x++y).cps.toList=x.cps.toList++y.cps.toList:=by
 show(x.cps++y.cps).toList=_;rw[LM]
theorem Kz{x:Av}{l:List Nat}(h:x.cps.toList=l):x.length=l.length:=h▸rfl
theorem mz{t b:An}{I ws:List Ag}{n n2:Nat}(C:s.heap.get? t=V (HA I.toArray n))(a:s.heap.get? b=V (HA ws.toArray n2))
  (h:I=[]->Q (.ref b) s)(U:I≠[]->ws=[]->Q (.ref t) s)
  (G:Q (.ref s.heap.objs.size) {s with heap:=s.heap.push (HA (I++ws).toArray 0)})
  (hsz:I.length+ws.length<=C5):Ap (Aq Aj w) A (Hc .Add (.ref t) (.ref b)) Q E s:=by
 by_cases c:I=[]
 ·exact NA ⟨_,C,rfl⟩ ⟨_,a,rfl⟩ Kf Mq Gy Gj (Ga _ _)
   (tuple_addW0 t b I.toArray ws.toArray n n2 Ao Ao #[] #[] (c▸rfl)) ⟨C,a,h c⟩
 ·by_cases m:ws=[]
  ·exact NA ⟨_,C,rfl⟩ ⟨_,a,rfl⟩ Kf Mq Gy Gj (Ga _ _)
    (tuple_addW1 t b I.toArray ws.toArray n n2 Ao Ao #[] #[] (λe=>c (List.length_eq_zero_iff.mp (of_decide_eq_true e))) (m▸rfl)) ⟨C,a,U c m⟩
  ·exact NA ⟨_,C,rfl⟩ ⟨_,a,rfl⟩ Kf Mq Gy Gj (Ga _ _)
    (tuple_addW2 t b I.toArray ws.toArray n n2 Ao Ao #[] #[] (λe=>c (List.length_eq_zero_iff.mp (of_decide_eq_true e))) (λe=>m (List.length_eq_zero_iff.mp (of_decide_eq_true e))) hsz) ⟨C,a,Mz ..▸G⟩
theorem Qd{p:PX}{i:Int}{t:Ez}(q:GB T J N s (.int p) Q)(e:p.ev J=i):Q (.int i t) {s with toks:=s.toks+1}:=q _ _ .toks (.int e)
theorem Nc(m:∀a,N a->Da s.heap a):¬N s.heap.objs.size:=λh=>AN _ (m _ h).lt
theorem XC{z Q:Type}{x:List z}{y:List Q}(h:(AS x&&AS y)=Y):x.length+y.length<=C5:=
 Am (Ef (IC (AH h).1) (IC (AH h).2)) (by apply AO CC;decide)
theorem mB{a b:Ag}{x y z:D}(e:∀a,N a->Da s.heap a)(h:Xo x y=V z)(g:Rd J N s.heap a x)(F:Rd J N s.heap b y)(q:GB T J N s z Q):Ap (Aq Aj w) A (Hc .Add a b) Q E s:=by
 have g:=g.inv
 induction x using Yf with
 |int p=>
  obtain⟨r,hd,h⟩:=IN h;obtain⟨t,g⟩:=g;obtain⟨u,F⟩:=F.inv' hd
  apply Dz g F
  exact DJ (Qd (sI h▸q) (Sz J p r))
 |str x=>
  obtain⟨r,hd,h⟩:=HJ h;obtain⟨i,h⟩:=De h;obtain⟨_,_,g,e1⟩:=g;obtain⟨_,_,F,e2⟩:=F.inv' hd
  apply Dz g F
  exact zD (λj k=>q _ _ .toks (sI h▸.str (by rw[XB,e1,e2]))) (by rw[Kz e1,Kz e2];exact XC i)
 |lst x=>
  obtain⟨r,hd,h⟩:=LY h;obtain⟨i,h⟩:=De h;obtain⟨_,_,_,g,_,d,L⟩:=g;obtain⟨_,_,_,F,_,P,c⟩:=F.inv' hd
  apply Dz g F
  refine PySem.P.add_list d P (q _ _ .push (sI h▸.lst (Nc e) (n:=0) (by rw[Ay _ rfl,Mz]) ?_)) (by rw[AD,AD,L.length,c.length];exact XC i)
  exact(L.append c).mono (BM.fits (T:=T) .push)
 |tup x=>
  obtain⟨r,hd,h⟩:=Pm h;obtain⟨i,h⟩:=De h;obtain⟨_,I,_,g,n1,d,L⟩:=g;obtain⟨_,ws,_,F,n2,P,c⟩:=F.inv' hd
  apply Dz g F
  have H:=L.append c;rw[<-sI h]at q;refine mz d P (λf=>q _ _ .refl (.tup n2 P ?_)) (λv m=>q _ _ .refl (.tup n1 d ?_)) (q _ _ .push (.tup (Nc e) (n:=0) (Ay _ rfl) (H.mono (BM.fits (T:=T) .push)))) (by rw[L.length,c.length];exact XC i)
  ·rw[f]at H;exact H
  ·rw[m,B7]at H;exact H
 |_=>exact nS h
theorem mC{n:Int}{k:Nat}(h:n.natAbs<=k):n.toNat<=k:=by
 induction n with
 |ofNat a=>exact h
 |negSucc a=>exact Be _
theorem mD{n:Int}(h:n.natAbs<=1000):¬n< -(2^63)/\¬2^63-1<n:=⟨(Int.not_lt.mpr (li [_] [_] (.k (-(2^63))) (.v 0) [(1,.u (.v 0),.u (.k 1000)),(1,.g (.v 0),.u (.v 0))] rfl (jO h) P5)),(Int.not_lt.mpr (li [_] [_] (.v 0) (.k ((2^63)-1)) [(1,.u (.v 0),.u (.k 1000)),(1,.v 0,.u (.v 0))] rfl (jO h) DU))⟩
theorem mE{n:Int}{l:Nat}(z:0<n)(hm:l*n.toNat<=1000*1000):(l:Int)*n<=2^63-1:=by
 have:n=(n.toNat:Int):=(A5 (Int.self_le_toNat _) (Bc (HQ (li [_] [] (.k 0) (.v 0) [(1,.a (.k 0) (.k 1),.v 0)] rfl z))))
 apply AO this;rw[<-CT];exact(li [] [_] (.u (.v 0)) (.k ((2^63)-1)) [(1,.u (.v 0),.u (.k (1000*1000)))] rfl (jO hm))
theorem mF{c:Int}(h:0<c/\c<1000001):c.natAbs<1000001:=(T0 (li [_] [] (.a (.v 0) (.k 1)) (.u (.k 1000001)) [(1,.a (.v 0) (.k 1),.k 1000001)] rfl h.2) (li [_] [] (.a (.g (.v 0)) (.k 1)) (.u (.k 1000001)) [(1,.a (.k 0) (.k 1),.v 0)] rfl h.1))
theorem mG{a b:Ag}{x y z:D}(d:∀n,(J.v n).natAbs<=2^1000)(h:T5 x y=V z)(g:Rd J N s.heap a x)(F:Rd J N s.heap b y)(q:GB T J N s z Q):Ap (Aq Aj w) A (Hc .Mult a b) Q E s:=by
 have g:=g.inv
 induction x using Yf with
 |int p=>
  obtain⟨r,hd,h⟩:=IN h;obtain⟨e,h⟩:=De h;obtain⟨t,g⟩:=g;obtain⟨u,F⟩:=F.inv' hd
  apply Dz g F
  exact IK (Qd (sI h▸q) (dE J p r)) (ez d (AH e).1 (AH e).2)
 |str x=>
  obtain⟨n,hd,h⟩:=H5 h;obtain⟨i,h⟩:=De h;obtain⟨_,_,g,e1⟩:=g;obtain⟨u,F⟩:=F.inv' hd;have U:n.natAbs<=1000:=D8 (AH i).1;have G:x.length<=1000:=D8 (AH i).2;have hm:x.length*n.toNat<=1000*1000:=Hv G (mC U)
  apply Dz g F
  refine zE ⟨?_,λc j=>?_,λc j=>?_⟩ (λf k=>q _ _ .toks (sI h▸.str (by rw[my,e1];rfl)))
  ·rw[Hk,decide_eq_false_iff_not,decide_eq_false_iff_not];exact mD U
  ·rw[Kz e1];have c:0<n:=Int.not_lt.mp c;exact Int.not_lt.mpr (Int.le_ediv_of_mul_le c (mE c hm))
  ·rw[Kz e1];exact decide_eq_false (Nat.not_lt.mpr (Am hm (by apply AO CC;decide)))
 |_=>exact nS h
theorem eF{o:BY}{a b:Ag}{x y z:D}(f:∀n,(J.v n).natAbs<=2^1000)(m:∀a,N a->Da s.heap a)(h:Ra o x y=V z)(g:Rd J N s.heap a x)(F:Rd J N s.heap b y)
  (q:GB T J N s z Q):Ap (Aq Aj w) A (Hc o a b) Q E s:=by
 induction o with
 |Add=>exact mB m h g F q
 |Mult=>exact mG f h g F q
 |Sub=>
  obtain⟨p,U,h⟩:=IN h;obtain⟨r,G,h⟩:=IN h;obtain⟨t,g⟩:=g.inv' U;obtain⟨u,F⟩:=F.inv' G
  apply Dz g F
  exact EK (Qd (sI h▸q) (by rw[Sz,Xh,Ih]))
 |FloorDiv=>
  obtain⟨p,U,h⟩:=IN h;obtain⟨c,G,h⟩:=H5 h;obtain⟨d,h⟩:=De h;obtain⟨r,e,h⟩:=Cn h;obtain⟨t,g⟩:=g.inv' U;obtain⟨u,F⟩:=F.inv' G;have hp:=eE d;have i:c≠0:=Dw hp.1
  apply Dz g F
  exact Fu i (Qd (sI h▸q) (dI J c i _ _ e).symm) (.inl (Kh (AE (mF hp) (by decide))))
 |Mod=>
  obtain⟨p,U,h⟩:=IN h;obtain⟨c,G,h⟩:=H5 h;obtain⟨d,h⟩:=De h;obtain⟨r,e,h⟩:=Cn h;obtain⟨t,g⟩:=g.inv' U;obtain⟨u,F⟩:=F.inv' G
  apply Dz g F
  exact Jq (Dw (eE d).1) (Qd (p:=.k r) (sI h▸q) (dH J c _ _ e).symm)
 |RShift=>
  obtain⟨p,U,h⟩:=IN h;obtain⟨c,G,h⟩:=H5 h;obtain⟨n,d,h⟩:=Q6 h;obtain⟨r,e,h⟩:=Cn h;obtain⟨t,g⟩:=g.inv' U;obtain⟨u,F⟩:=F.inv' G
  apply Dz g F
  refine Ds (by show 0<=c;apply AO d;exact AW n) (Qd (sI h▸q) ?_)
  rw[<-dI J ((2^n:Nat):Int) (Dw (Int.natCast_pos.mpr (Nat.pow_pos (by exact(by decide))))) _ _ e]
  show _=Int.fdiv _ (2^c.toNat);rw[EF];apply AO d;rfl
 |BitAnd=>
  obtain⟨p,U,h⟩:=IN h;obtain⟨c,G,h⟩:=H5 h;obtain⟨t,g⟩:=g.inv' U;obtain⟨u,F⟩:=F.inv' G
  apply Dz g F
  obtain⟨d,h⟩:=De h;obtain⟨r,e,h⟩:=Cn h
  apply AO (NQ.mp d)
  exact Jz (Qd (p:=.k r) (sI h▸q) (by rw[show(PX.k 1).ev J=1 from rfl,W6];apply CE (Dm _ (by exact(by decide)));apply AO (dH J 2 _ _ e);rfl))
 |_=>exact nS h
set_option tactic.hygienic true in
theorem mH:(∀{v:Ag} {d:D},Rd J N h v d->∀e,Rd J N h v e->gr d=Y->gr e=Y->d=e)/\∀{I:List Ag} {O:List D},BV J N h I O->∀es,BV J N h I es->K3 O=Y->K3 es=Y->O=es:=by
 have Ao:∀e,Rd J N h .none e->gr e=Y->D.none=e:=λe r g=>by
  induction e using Yf<;>first|rfl|exact bF g|exact SM r.kind rfl
 have bool:∀b e,Rd J N h (.bool b) e->gr e=Y->D.bool b=e:=λb e r g=>by
  induction e using Yf<;>first|exact bF g|exact congrArg _ (dZ r.inv)|exact SM r.kind rfl
 have int:∀i t p e,p.ev J=i->Rd J N h (.int i t) e->gr (.int p)=Y->gr e=Y->D.int p=e:=λi t p e U r E g=>by
  induction e using Yf<;>first|exact bF g|exact SM r.kind rfl|skip
  rename_i T;obtain⟨_,q⟩:=r.inv;have q:=U.trans (dY q)
  induction p<;>first|exact bF E|(induction T<;>first|exact bF g|exact congrArg (λi=>D.int (.k i)) q)
 have str:∀x t s e,x.cps.toList=s->Rd J N h (.str x t) e->gr e=Y->D.str s=e:=λx t s e U r g=>by
  induction e using Yf<;>first|exact bF g|exact SM r.kind rfl|skip
  obtain⟨_,_,q,c⟩:=r.inv;exact congrArg D.str (U.symm.trans (dX q▸c))
 have ref:∀a e,Rd J N h (.ref a) e->gr e=Y->(∃es I n,e= .tup es/\h.get? a=V (HA (ET I) n)/\BV J N h I es)\/∃es I n,e= .lst es/\h.get? a=V (Gf (ET I) n)/\BV J N h I es:=λa e r g=>by
  induction e using Yf<;>first|exact bF g|exact SM r.kind rfl|(obtain⟨_,I,n,q,_,c,o⟩:=r.inv;first|exact .inl ⟨_,I,n,rfl,LD q▸c,o⟩|exact .inr ⟨_,I,n,rfl,LD q▸c,o⟩)
 have all:∀{I:List Ag} {O:List D},BV J N h I O->∀es,BV J N h I es->K3 O=Y->K3 es=Y->O=es:=
  λ{I O} r=>BV.rec (motive_1:=λv d y=>∀e,Rd J N h v e->gr d=Y->gr e=Y->d=e) (motive_2:=λI O y=>∀es,BV J N h I es->K3 O=Y->K3 es=Y->O=es)
   (λy y y g=>bF g) (λe r y g=>Ao e r g) (λb e r y g=>bool b e r g) (λe1 e r E g=>int _ _ _ e e1 r E g) (λe1 e r y g=>str _ _ _ e e1 r g)
   (λy E y ih e r gd k=>by
    rcases ref _ e r k with⟨es,I,n,f,P,z⟩|⟨es,I,n,f,P,z⟩
    ·rw[f]at k ⊢;exact congrArg _ (ih es (dT E P▸z) gd k)
    ·exact dU E P)
   (λy E y ih e r gd k=>by
    rcases ref _ e r k with⟨es,I,n,f,P,z⟩|⟨es,I,n,f,P,z⟩
    ·exact dU P E
    ·rw[f]at k ⊢;exact congrArg _ (ih es (Xz E P▸z) gd k))
   (λy y y y y y y y y y y g=>bF g)
   (λes r y y=>by induction es with|nil=>rfl|cons _ _=>obtain⟨_,_,q,_⟩:=r.inv;exact nomatch q)
   (λ{v d I O} y y j l es r E P=>by
    induction es with
    |nil=>exact nomatch r.inv
    |cons e es=>
     obtain⟨w,vs',q,L,z⟩:=r.inv
     injection q with m c
     rw[<-m]at L;rw[<-c]at z
     apply Dz (j e L (AH E).1 (AH P).1) (l es z (AH E).2 (AH P).2);rfl) r
 refine⟨λ{v d} r e u E P=>?_,all⟩
 have:=all (.cons r .nil) [e] (.cons u .nil) (show(gr d&&Y)=Y by rw[E];rfl) (show(gr e&&Y)=Y by rw[P];rfl)
 injection this
theorem bO{v:Ag}{d e:D}(r:Rd J N h v d)(u:Rd J N h v e)(E:gr d=Y)(P:gr e=Y):d=e:=mH.1 r e u E P
theorem mI{O:List D}{d:D}(h:K3 O=Y)(hm:d∈O):gr d=Y:=by
 induction O with
 |nil=>exact nomatch hm
 |cons b r ih=>
  rcases jC hm with q|hm
  ·apply AO q;exact(AH h).1
  ·exact ih (AH h).2 hm
noncomputable def Vo(J:Sg)(N:An->Prop)(h:A9)(a:D)(y:Ag):Bool:=@decide (∃d,gr d=Y/\Rd J N h y d/\M9 d a=V Y) (Gb _)
theorem eG{a d:D}{y:Ag}{r:Bool}(o:gr d=Y)(A:Rd J N s.heap y d)(e:M9 d a=V r):Vo J N s.heap a y=r:=by
 induction r with
 |true=>exact @decide_eq_true _ (Gb _) ⟨d,o,A,e⟩
 |false=>
  refine @decide_eq_false _ (Gb _) ?_
  rintro⟨M,f,v,c⟩
  rw[bO v A f o,e]at c;exact nomatch c
theorem eH(o:A.units+10<Gv):A.in1.units+9<Gv:=by show A.units+1+9<Gv;rw[Fs];exact o
theorem mJ{a:D}{x:Ag}{I:List Ag}{O:List D}(o:A.units+10<Gv)(hd:K3 O=Y)(p:BV J N s.heap I O)(L:Rd J N s.heap x a)(P:∀d∈O,∃r,M9 d a=V r):
  ∀y,y∈I.toArray->lC A.in1 s y x (Vo J N s.heap a y):=by
 intro y e;obtain⟨j,f⟩:=LN (show y∈I by simpa using e)
 obtain⟨d,c,Q⟩:=p.getV f;have hm:=BZ c;obtain⟨r,b⟩:=P d hm
 apply AO (eG (mI hd hm) Q b)
 exact(Vm 9 (eH o) b Q L).eq
theorem mK{a:D}{O:List D}:∀{r:Bool},Vi a O=V r->∀d∈O,∃r,M9 d a=V r:=by
 induction O with
 |nil=>exact λz z hd=>nomatch hd
 |cons b O ih=>
  intro r h d hd;obtain⟨x,e,h⟩:=Cn h;obtain⟨y,e2,h⟩:=Cn h;rcases jC hd with q|hd
  ·exact⟨_,q▸e⟩
  ·exact ih e2 d hd
theorem mO{a:D}{I:List Ag}{O:List D}(p:BV J N s.heap I O):∀{r:Bool},K3 O=Y->Vi a O=V r->I.any (Vo J N s.heap a)=r:=
 p.ind (P:=λI O=>∀{r:Bool},K3 O=Y->Vi a O=V r->I.any (Vo J N s.heap a)=r) (λz h=>sI h) λv d I O x z ih r o h=>by
  obtain⟨C,e,h⟩:=Cn h;obtain⟨y,e2,h⟩:=Cn h;rw[List.any_cons,eG (AH o).1 x e,ih (AH o).2 e2];exact sI h
theorem mP{O:List D}(h:dO O=Y):∀d∈O,M9 d .none=V Ak:=by
 induction O with
 |nil=>exact λz hd=>nomatch hd
 |cons b r ih=>
  intro d hd;rcases jC hd with q|hd
  ·refine q▸ ?_
   have h:=(AH h).1
   induction b using Yf<;>first|rfl|exact bF h
  ·exact ih (AH h).2 d hd
theorem mQ{a:D}{x:Ag}{l:An}{O:List D}{r:Bool}(c:A.units+10<Gv)(L:Rd J N s.heap x a)(f:Rd J N s.heap (.ref l) (.lst O))(h:Xp a O=V r):
  ∃(e:Ag->Bool) (items:Array Ag),s.heap.IsList l items/\(∀y,y∈items->lC A.in1 s y x (e y))/\items.any e=r:=by
 obtain⟨I,U,p⟩:=f.isList;unfold Xp at h;cases o:K3 O with
 |true=>
  have h:=o▸h;exact⟨_,_,U,mJ c o p L (mK h),(On ..).trans (mO p o h)⟩
 |false=>
  rw[o]at h
  induction a using Yf with
  |none=>
   obtain⟨o,h⟩:=De h;refine⟨λz=>Ak,_,U,λy g=>?_,by apply CE (sI h);rw[On];exact List.any_eq_false.mpr λz z=>AR⟩
   obtain⟨j,i⟩:=LN (List.mem_toArray.mp g);obtain⟨d,b,Q⟩:=p.getV i;exact(Vm 9 (eH c) (mP o _ (BZ b)) Q L).eq
  |_=>exact nS h
theorem eI{c:Nat}:∀{l:List Nat},OG c l=Y↔∃i:Nat,l[i]?=V c:=by
 intro l
 induction l with
 |nil=>exact⟨λh=>bF h,λh=>h.elim λz h=>nS h⟩
 |cons x r ih=>
  rw[show OG c (x::r)=(As x c||OG c r)from rfl,AT,ih]
  constructor
  ·rintro(h|⟨i,h⟩)
   ·exact⟨0,by apply AO (AB h);rfl⟩
   ·exact⟨i+1,h⟩
  ·rintro⟨i,h⟩
   induction i with
   |zero=>
    have h:V x=V c:=h;cases h;exact .inl (Cs _)
   |succ i=>exact .inr ⟨i,h⟩
theorem mS{x y:Av}{c:Nat}{s:List Nat}(A:y.cps.toList=[c])(L:x.cps.toList=s):UO x y=OG c s:=by
 have e:y=⟨#[c]⟩:=by
  induction y with|mk a=>
  congr 1
  exact Array.toList_inj.mp A
 subst e;unfold UO;rcases StrLaws.occ_head x ⟨#[c]⟩ 1 (by decide)with⟨E,P⟩|⟨i,r,E,P,Q⟩
 ·refine E.symm▸ ?_
  cases h:OG c s with
  |false=>rfl
  |true=>
   obtain⟨i,T⟩:=eI.mp h;rw[<-L]at T;have:=(LO x c i).mpr T;exact absurd ⟨this.1,this.2⟩ (P i)
 ·refine E▸ ?_
  have T:=(LO x c i).mp ⟨P.1,P.2⟩;rw[L]at T
  apply AO (eI.mpr ⟨i,T⟩);rfl
noncomputable def bQ:Option Bool->Ag
 |none=>.none
 |some b=>.bool b
theorem XD{a:Ag}{x:D}{c:Option Bool}(g:Rd J N s.heap a x)(e:Qb x=V c):a=bQ c:=by
 have Q:=g.inv
 induction x using Yf<;>first|exact nS e|(apply CE (sI e);exact Q)
theorem eJ{a:Ag}{x:D}(g:Rd J N s.heap a x)(e:Qb x=Ao):2<=vk a/\vk a<=4:=by
 rw[g.kind]
 induction x using Yf<;>first|exact nS e.symm|exact⟨D8 rfl,D8 rfl⟩
theorem eK{a:Ag}(h:2<=vk a/\vk a<=4):(∃i t,a= .int i t)\/(∃x t,a= .str x t)\/∃l,a= .ref l:=by
 induction a<;>first|exact .inl ⟨_,_,rfl⟩|exact .inr (.inl ⟨_,_,rfl⟩)|exact .inr (.inr ⟨_,rfl⟩)|exact absurd h.1 (BH (D8 rfl))|exact absurd h.2 (BH (D8 rfl))
set_option tactic.hygienic true in
theorem eM{x y:D}{a b:Ag}{r:Bool}(h:Vh x y=V r)(g:Rd J N s.heap a x)(F:Rd J N s.heap b y):plainIs a b=Y/\(a==b)=r:=by
 unfold Vh at h;cases L:Qb x with
 |some c=>
  have h:=L▸h;refine(XD g L)▸ ?_
  cases A:Qb y with
  |some T=>
   rw[A]at h
   apply AO (XD F A);apply CE (sI h)
   induction c<;>induction T<;>first|exact⟨rfl,rfl⟩|(rename_i p q;induction p<;>induction q<;>exact⟨rfl,rfl⟩)|(rename_i p;cases p<;>exact⟨rfl,rfl⟩)
  |none=>
   rw[A]at h;refine(sI h)▸ ?_
   rcases eK (eJ F A)with⟨_,_,e⟩|⟨_,_,e⟩|⟨_,e⟩<;>(apply AO e;induction c<;>exact⟨rfl,rfl⟩)
 |none=>
  rw[L]at h;obtain⟨c,A,h⟩:=Cn h
  apply AO (XD F A);apply CE (sI h)
  rcases eK (eJ g L)with⟨_,_,e⟩|⟨_,_,e⟩|⟨_,e⟩<;>(apply AO e;induction c<;>exact⟨rfl,rfl⟩)
theorem Vp{f:Int->Int->Bool}{x y:D}{a b:Ag}{r:Bool}(h:SG f x y=V r)(g:Rd J N s.heap a x)(F:Rd J N s.heap b y):∃i t j u,a= .int i t/\b= .int j u/\f i j=r:=by
 obtain⟨i,U,h⟩:=H5 h;obtain⟨j,G,h⟩:=H5 h;obtain⟨t,g⟩:=g.inv' U;obtain⟨u,F⟩:=F.inv' G;exact⟨i,t,j,u,g,F,sI h⟩
theorem eN{i j:Int}:decide (i<j)=I7 i j:=by rw[EC,decide_eq_true_iff,Rb]
theorem eO{i j:Int}:decide (i<=j)= !I7 j i:=by rw[EC,decide_eq_true_iff,A4,<-IZ,Rb,Int.not_lt]
theorem eQ{a b:Ag}{x y:D}{r:Bool}(o:A.units+10<Gv)(h:Xq x y=V r)(g:Rd J N s.heap a x)(F:Rd J N s.heap b y):
  (Q (.bool r) s->Ap (Aq Aj w) A (UM .In a b) Q E s)/\(Q (.bool (!r)) s->Ap (Aq Aj w) A (UM .NotIn a b) Q E s):=by
 have d:=F.inv
 induction y using Yf with
 |lst O=>
  obtain⟨l,_,_,j,_⟩:=d;rw[j]at F ⊢;obtain⟨e,items,U,G,z⟩:=mQ o g F h;exact⟨λq=>in_listAt e U G (z▸q),λq=>notIn_listAt e U G (z▸q)⟩
 |str s=>
  obtain⟨c,hd,h⟩:=HJ h;obtain⟨_,_,g,e1⟩:=g.inv' hd;obtain⟨_,_,F,e2⟩:=d;cases c with
  |nil=>exact nS h
  |cons c l=>induction l with
   |nil=>
    have e:=mS e1 e2
    apply Dz g F;apply CE (sI h)
    exact⟨λq=>zF (e▸q),λq=>zG (e▸q)⟩
   |cons _ _=>exact nS h
 |_=>exact nS h
theorem Qe{o:Ep}{a b:Ag}{x y:D}{r:Bool}(c:A.units+10<Gv)(h:Vj o x y=V r)(g:Rd J N s.heap a x)(F:Rd J N s.heap b y)
  (q:Q (.bool r) s):Ap (Aq Aj w) A (UM o a b) Q E s:=by
 have P:A.units+9<Gv:=Nat.lt_of_succ_lt c
 induction o with
 |Lt=>
  obtain⟨i,t,j,u,e1,e2,e⟩:=Vp h g F;rw[<-e]at q
  apply Dz e1 e2
  exact PySem.P.lt_int (by rw[eN];exact q)
 |LtE=>
  obtain⟨i,t,j,u,e1,e2,e⟩:=Vp h g F;rw[<-e]at q
  apply Dz e1 e2
  exact PySem.P.le_int (by rw[eO];exact q)
 |Gt=>
  obtain⟨i,t,j,u,e1,e2,e⟩:=Vp h g F;rw[<-e]at q
  apply Dz e1 e2
  exact PySem.P.gt_int (by rw[show decide (i>j)=_ from eN];exact q)
 |GtE=>
  obtain⟨i,t,j,u,e1,e2,e⟩:=Vp h g F;rw[<-e]at q
  apply Dz e1 e2
  exact PySem.P.ge_int (by rw[show decide (i≥j)=_ from eO];exact q)
 |Eq=>exact(Vm 9 P h g F).rc Aj w E Q q
 |NotEq=>
  obtain⟨d,e,h⟩:=M6 h;exact(Vm 9 P e g F).ne Aj w E Q (h▸q)
 |Is=>
  obtain⟨U,G⟩:=eM h g F;exact wpAny_is_plain U (G▸q)
 |IsNot=>
  obtain⟨d,e,h⟩:=M6 h;obtain⟨U,G⟩:=eM e g F;exact wpAny_isNot_plain U (G▸h▸q)
 |In=>exact(eQ c h g F).1 q
 |NotIn=>
  obtain⟨d,e,h⟩:=M6 h;exact(eQ c e g F).2 (h▸q)
theorem Qf{n:Nat}(h:n<=1000000):(n:Int)<2^63:=(li [] [_] (.a (.u (.v 0)) (.k 1)) (.k (2^63)) [(1,.u (.v 0),.u (.k 1000000))] rfl (jO h))
theorem mT{z:Type}(l:List z):((l.length:Int) != 0)=Vg l:=by
 induction l with
 |nil=>rfl
 |cons a r=>exact bne_iff_ne.mpr (Dw (Int.natCast_pos.mpr (Em _)))
theorem XE{a:Ag}{x:D}{r:Bool}{Q:Bool->Ah->Prop}(h:OF x=V r)(c:Rd J N s.heap a x)(q:∀tk,Q r {s with toks:=tk}):Ap (Aq Aj w) A (truthy a) Q E s:=by
 have F:Q r s:=q s.toks;have c:=c.inv
 induction x using Yf with
 |none=>apply AO (show a=_ from c);exact Ar (sI h▸F)
 |bool b=>apply AO (show a=_ from c);exact Bq (sI h▸F)
 |int p=>
  obtain⟨i,hp,h⟩:=Vb h;obtain⟨t,c⟩:=c;have:(p.ev J != (0:Int))=r:=by
   apply AO hp;apply CE (sI h);rw[EC,bne_iff_ne,A4,<-IZ,NQ];rfl
  apply AO c
  exact Lq (this▸F)
 |str l=>
  obtain⟨d,h⟩:=De h;obtain⟨x,t,c,e⟩:=c
  apply AO c
  exact PySem.P.truthy_str ((Kz e)▸Int.not_le.mpr (Qf (IC d))) (by rw[Kz e,mT,sI h];exact q _)
 |lst l=>
  obtain⟨d,h⟩:=De h;obtain⟨_,I,n,c,_,g,f⟩:=c;refine c▸ ?_
  refine Sf ⟨_,g,rfl,_,rfl⟩ (by rw[AD,f.length];exact Qf (IC d)) ?_
  have q:=(sI h)▸q;have j:=f.length;cases l<;>induction I<;>first|exact q _|exact nomatch j
 |_=>exact nS h
theorem XF{k:Int}{n m:Nat}(h:Q9 k n=V m):n<=1000000/\m<n/\((0<=k/\m=k.toNat/\k<n)\/(k<0/\-(n:Int)<=k/\m=(k+n).toNat)):=by
 induction k with
 |ofNat a=>
  obtain⟨E,h⟩:=De h;have U:a<n:=D8 (AH E).1;exact⟨D8 (AH E).2,sI h▸U,.inl ⟨AW _,(sI h).symm,Int.ofNat_lt.mpr U⟩⟩
 |negSucc a=>
  obtain⟨E,h⟩:=De h;have U:a<n:=D8 (AH E).1;have h:=sI h;exact⟨D8 (AH E).2,(Ip (.a (.v 3) (.k 1)) (.v 1) [(1,.v 3,.v 2),(1,.a (.v 2) (.a (.v 0) (.k 1)),.v 1)] rfl (Al h.symm) (Al (Az U))),.inr ⟨Int.negSucc_lt_zero a,QS (jO U),h.symm.trans (congrArg Int.toNat (Int.subNatNat_of_le U)).symm⟩⟩
theorem eR{k:Int}{n m:Nat}(h:Q9 k n=V m):seqIndex? k n=V m:=by
 obtain⟨_,_,⟨p1,p2,p3⟩|⟨p1,p2,p3⟩⟩:=XF h
 ·apply AO p2;exact StrLaws.seqIndex_nonneg p1 p3
 ·apply AO p3;exact StrLaws.seqIndex_neg p1 p2
theorem XG{k:Int}{n m:Nat}(h:Q9 k n=V m): -(2^63)<=k/\k<2^63:=by
 obtain⟨U,_,⟨p1,_,p3⟩|⟨p1,p2,_⟩⟩:=XF h
 ·exact⟨Cr (by decide) p1,IH p3 (Qf U)⟩
 ·exact⟨Cr (QS (BR (Qf U))) p2,IH p1 (by decide)⟩
theorem eT{a i:Ag}{x y z:D}(h:NS x y=V z)(b:Rd J N s.heap a x)(j:Rd J N s.heap i y)(q:GB T J N s z Q):Ap (Aq Aj w) A (Nx a i) Q E s:=by
 obtain⟨k,P,h⟩:=H5 h;obtain⟨u,j⟩:=j.inv' P;refine j▸ ?_
 have b:=b.inv
 induction x using Yf with
 |lst O=>
  obtain⟨m,hm,h⟩:=Cn h;obtain⟨_,I,n1,b,_,g,p⟩:=b;rw[SE]at h;obtain⟨v,e,f⟩:=p.get h;have d:=XG hm;obtain⟨U,G,o⟩:=XF hm;refine b▸ ?_
  rcases o with⟨p1,p2,p3⟩|⟨p1,p2,p3⟩
  ·exact Gx (x:=v) ⟨_,g,rfl,_,rfl⟩ p1 d.2 ((Cd ..).trans (p2▸e)) (q _ _ .refl f)
  ·exact wpAny_getItem_list_neg (x:=v) ⟨_,g,rfl,_,rfl⟩ p1 (by rw[AD,p.length];exact p2) d.1 (by rw[AD,p.length];exact(Cd ..).trans (p3▸e)) (q _ _ .refl f)
 |tup O=>
  obtain⟨m,hm,h⟩:=Cn h;obtain⟨_,I,n1,b,_,g,p⟩:=b;rw[SE]at h;obtain⟨v,e,f⟩:=p.get h;have d:=XG hm;refine b▸ ?_
  exact PySem.P.getItem_tuple g d.1 d.2 (k:=m) (by rw[AD,p.length];exact eR hm) ((Cd ..).trans e) (q _ _ .refl f)
 |str X=>
  obtain⟨m,hm,h⟩:=Cn h;obtain⟨c,l,h⟩:=Cn h;obtain⟨x,t,b,e1⟩:=b;rw[SE]at l;have d:=XG hm;have n:NB x k=V c:=by
   unfold NB;rw[Kz e1,eR hm];rw[<-e1]at l;exact Array.getElem?_toList.symm.trans l
  refine b▸ ?_
  refine zH ?_ (show(NB x k).isSome=Y by rw[n];rfl) (q _ _ .toks (sI h▸.str ?_))
  ·unfold fitsSsize;rw[A4,Hk,decide_eq_false_iff_not,decide_eq_false_iff_not];exact⟨Int.not_lt.mpr d.1,Int.not_le.mpr d.2⟩
  ·show(zh x k).cps.toList=_;unfold zh;rw[n];rfl
 |_=>exact nS h
theorem mV{p:List Nat}:∀{l r:List Nat},Iz p l=V r->l=p++r:=by
 induction p with
 |nil=>exact λh=>sI h
 |cons a p ih=>
  intro l r h
  induction l with
  |nil=>exact nS h
  |cons b l=>
   obtain⟨e,h⟩:=De h
   apply Dz (AB e) (ih h);rfl
theorem mW{p:List Nat}(r:List Nat):Iz p (p++r)=V r:=by
 induction p with
 |nil=>rfl
 |cons a p ih=>
  show CB (As a a) (Iz p (p++r))=V r;rw[Cs,ih];rfl
theorem XH(w:List Nat)(f:Nat)(acc:List Nat):Pp w f [] acc=[acc.reverse]:=by induction f<;>rfl
theorem eW(w:List Nat)(f c:Nat)(s acc:List Nat):Pp w (f+1) (c::s) acc=oE (Iz w (c::s)) (Pp w f s (c::acc)) λr=>acc.reverse::Pp w f r []:=rfl
theorem Vq{l:List Nat}{free k m:Nat}(j:l.length=m)(h:m<=k):(l.drop free).take (k-free)=l.drop free:=
 Cp (by rw[C0,j];exact Hx h _)
open StrLaws Builtin Builtin.Str in
theorem mX(x Ix:Av)(m:1<=Ix.length)(n:Nat):∀(i:Nat),i+n=x.length+1->∀(f:Array Nat) (free b:Nat),free<=x.length->f.size<=i->n<=b->
  ∃d,(OZ (List.range' i n) (f,free) (occBody x Ix x.length (x.length+1))).run.fst.toList=f.toList++d∧
   (partsFrom x Ix.length free d).map (·.cps.toList)=Pp Ix.cps.toList b (x.cps.toList.drop (max i free)) (((x.cps.toList.drop free).take (max i free-free)).reverse):=by
 have L:x.cps.toList.length=x.length:=rfl;have z:Ix.cps.toList.length=Ix.length:=rfl
 induction n with
 |zero=>
  intro i T f free b t _ _;have T:i=x.length+1:=T;have j:x.length<=i:=T▸DM _;refine⟨[],(B7 _).symm,?_⟩
  rw[JL (Am t j),CM (show x.cps.toList.length<=i from j),XH,Hl,Vq L j];show[(strSub x free x.length).cps.toList]=_;rw[strSub_toList,Vq L (AI _)]
 |succ n ih=>
  intro i T f free b t g a;have s:i+1+n=x.length+1:=(KO i n).trans T;have u:i<=x.length:=Lr (Am (AQ (i+1) n) (Al s));have has:f.size<=i+1:=BJ g;rw[List.range'_succ,FA];unfold occBody
  induction b with
  |zero=>exact absurd a (Eg _)
  |succ b=>
  have p:n<=b:=Lr a;by_cases o:free<=i
  ·rw[JL o];by_cases E:i+Ix.length<=x.length/\subAt x Ix i=Y
   ·rw[if_pos ⟨⟨⟨(show f.size<x.length+1 from Oo (Am g u)),o⟩,E.1⟩,E.2⟩];obtain⟨d,U,G⟩:=ih (i+1) s (f.push i) (i+Ix.length) b E.1 (by rw[Op];exact BB g) p
    refine⟨i::d,?_,?_⟩
    ·refine Sa U ?_
     rw[Array.toList_push,Cv];rfl
    ·rw[Jk (Cw m i),II]at G;show(strSub x free i).cps.toList::(partsFrom x Ix.length (i+Ix.length) d).map (·.cps.toList)=_;rw[G,strSub_toList];have v:=E.2;rw[subAt_eq,beq_iff_eq]at v;have hp:Iz Ix.cps.toList (x.cps.toList.drop i)=V (x.cps.toList.drop (i+Ix.length)):=by
      have e:x.cps.toList.drop i=Ix.cps.toList++x.cps.toList.drop (i+Ix.length):=by
       rw[<-v,<-JX,List.take_append_drop]
      rw[e];exact mW _
     obtain⟨c,r,D⟩:=List.exists_cons_of_length_pos (l:=x.cps.toList.drop i) (by rw[C0,L];exact Oq (AE (KW m) E.1))
     rw[D]at hp ⊢;rw[eW,hp,List.take_zero,List.reverse_nil];show _=(List.reverse _).reverse::_;rw[Hl]
   ·rw[if_neg (λh=>E ⟨h.1.2,h.2⟩)]
    obtain⟨d,U,G⟩:=ih (i+1) s f free b t has p;refine⟨d,U,?_⟩
    rw[JL (BJ o)]at G;rw[G];by_cases X:i<x.length
    ·have hd:x.cps.toList.drop i=x.cps.toList[i]::x.cps.toList.drop (i+1):=Cu X;have hp:Iz Ix.cps.toList (x.cps.toList.drop i)=Ao:=by
      cases q:Iz Ix.cps.toList (x.cps.toList.drop i)with
      |none=>rfl
      |some r=>
       have e:=mV q;refine absurd ⟨?_,?_⟩ E
       ·have:=congrArg Gh e;rw[C0,Bm,L,z]at this;rw[El];exact Nat.add_le_of_le_sub u (this▸AQ _ _)
       ·rw[subAt_eq,e,beq_iff_eq,List.take_append_of_le_length (Al z.symm),Cp (Al z)]
     rw[hd]at hp ⊢;rw[eW,hp,Nat.succ_sub o,List.take_add_one,H0,Nat.add_sub_cancel' o,A8 (show i<x.cps.toList.length from X),List.reverse_append]
     rfl
    ·have j:x.length<=i:=BI X;rw[CM (show x.cps.toList.length<=i+1 from BJ j),CM (show x.cps.toList.length<=i from j),XH,XH,Vq L (BJ j),Vq L j]
  ·rw[if_neg (λh=>o h.1.1.2)]
   obtain⟨d,U,G⟩:=ih (i+1) s f free (b+1) t has (BJ p);refine⟨d,U,?_⟩
   have k:=Fl o;rw[G,Jk k,Jk (CN k)]
theorem mY{y:Av}(g:IP y.cps.toList=Y):Dr y=1:=by
 unfold Dr;rw[if_pos];rw[Array.all_eq_true'];intro c E;exact decide_eq_true (AE (D8 (D9 g c (Array.mem_toList_iff.mpr E))) (by decide))
theorem mZ(x:Av):¬Dr x<1:=by
 unfold Dr;split
 ·decide
 ·split<;>decide
open StrLaws Builtin.Str in
theorem m9(x y:Av)(A:1<=y.length)(g:IP y.cps.toList=Y):(O8 x y).map (·.cps.toList)=Pp y.cps.toList (x.length+1) x.cps.toList []:=by
 have main:(partsBetween x (occurrences x y 0 x.length (x.length+1)) y.length).map (·.cps.toList)=Pp y.cps.toList (x.length+1) x.cps.toList []:=by
  obtain⟨L,U,G⟩:=mX x y A (x.length+1) 0 (E2 _) #[] 0 (x.length+1) (Be _) (AI _) (AI _);rw[occ_eq,partsBetween_eq,GY,U];exact G
 have one:occurrences x y 0 x.length (x.length+1)=[]->[x]=partsBetween x (occurrences x y 0 x.length (x.length+1)) y.length:=by
  intro e;rw[e,partsBetween_eq];show[x]=[strSub x 0 x.length];rw[sub_whole]
 unfold O8;split
 ·rename_i h;have j:x.length<y.length:=by
   rcases(AT _ _).mp h with h|h
   ·exact of_decide_eq_true h
   ·exact absurd (of_decide_eq_true h) (mY g▸mZ x)
  rw[one ?_,main];rcases occ_head x y (x.length+1) (Em _)with⟨h,_⟩|⟨i,r,_,h,_⟩
  ·exact h
  ·exact absurd (Am (Bw _ _) h.1) (BH j)
 ·split
  ·rename_i h;rw[one (jE h),main]
  ·exact main
theorem XI(w:Av):∀(l:List Av),(Ka w l).cps.toList=K5 w.cps.toList (l.map (·.cps.toList)):=by
 intro l;unfold Ka;rw[StrLaws.glued_eq_join]
 induction l with
 |nil=>rfl
 |cons a r ih=>
  induction r with
  |nil=>rfl
  |cons b r=>
   show(a++w++Av.join w (b::r)).cps.toList=_;rw[XB,XB,ih];show _=a.cps.toList++(w.cps.toList++_);rw[Cv]
   rfl
theorem XJ{s:List Nat}(h:IP s=Y):∀c∈s,c<128:=λc E=>D8 (D9 h c E)
theorem eY{a b c:Nat}{k:Type}{x y:k}:(if A3 a c&&A3 c b then x else y)=if a<=c/\c<=b then x else y:=by
 refine ite_congr (propext ⟨λh=>⟨D8 (AH h).1,D8 (AH h).2⟩,λh=>(Bg _ _).mpr ⟨AL h.1,AL h.2⟩⟩) (λz=>rfl) λz=>rfl
theorem nf(c:Nat):dP c=up1 c:=eY
theorem ng(c:Nat):DG c=lo1 c:=eY
theorem nh:∀d,d<10->d+48=(Nat.digitChar d).toNat:=by decide
theorem XK{n:Nat}(M:n<10):[n+48]=(GZ 10 n).map JV:=by rw[Nat.toDigits_of_lt_base M,nh n M];rfl
theorem Ue{n f:Nat}(h:Bf n 10=Y):L3 n (f+1)=[n+48]:=M7 h
theorem bR{n f:Nat}(h:Bf n 10=Ak):L3 n (f+1)=L3 (n/10) f++[n%10+48]:=OC h
theorem eZ(f:Nat):∀n:Nat,n<10^(f+1)->L3 n (f+1)=(GZ 10 n).map JV:=by
 induction f with
 |zero=>
  intro n h;exact(Ue (AL h)).trans (XK h)
 |succ f ih=>
  intro n h;by_cases M:n<10
  ·exact(Ue (AL M)).trans (XK M)
  ·have hm:n%10<10:=Dj n (by decide)
   have t:GZ 10 (n/10)++GZ 10 (n%10)=GZ 10 (10*(n/10)+n%10):=Nat.toDigits_append_toDigits (by decide) (Nat.div_pos (BI M) (by decide)) hm
   rw[EG]at t;rw[bR (IZ _▸λq=>M (D8 q)),<-t,DR,ih (n/10) (Eh (by rw[B2];exact h)),XK hm]
theorem XM(i:Int)(h:i.natAbs<10000000000):(FQ (toString i)).cps.toList=ME i:=by
 rw[signs_ofString]
 induction i with
 |ofNat n=>
  show(zi n).toList.map JV=L3 n 30;rw[PT];apply AO (eZ 29 n (AE h (by decide)));rfl
 |negSucc n=>
  show("-"++zi (n+1)).toList.map JV=45::L3 (n+1) 30;rw[String.toList_append,DR,PT,eZ 29 (n+1) (AE h (by decide))]
  rfl
theorem ni(s:List Nat):∀(a n:Nat),T7 s a=V n->UY s/\n=s.foldl (λacc c=>acc*10+(c-48)) a:=by
 induction s with
 |nil=>exact λa n h=>⟨λz E=>(nomatch E),(sI h).symm⟩
 |cons c r ih=>
  intro a n h;obtain⟨E,h⟩:=De h;obtain⟨U,G⟩:=ih _ n h;refine⟨λd hd=>?_,G⟩
  rcases jC hd with q|hd
  ·apply AO q;exact⟨D8 (AH E).1,D8 (AH E).2⟩
  ·exact U d hd
noncomputable def MH:Nat->Av
 |0=>"len"
 |1=>"sum"
 |2=>"str"
 |3=>"int"
 |4=>"chr"
 |5=>"range"
 |6=>"zip"
 |7=>"sorted"
 |8=>"divmod"
 |9=>"reversed"
 |_=>"?"
noncomputable def Qg:Nat->Ag
 |0=>.builtin "len"
 |1=>.builtin "sum"
 |2=>.type "str"
 |3=>.type "int"
 |4=>.builtin "chr"
 |5=>.type "range"
 |6=>.type "zip"
 |7=>.builtin "sorted"
 |8=>.builtin "divmod"
 |9=>.type "reversed"
 |_=>.none
theorem nj{P:Nat->Prop}(h:P 0)(U:P 1)(G:P 2)(z:P 3)(l:P 4)(D:P 5)(m:P 6)(r:P 7)(E:P 8)(n:P 9):∀b,b<10->P b:=by
 intro b F;rcases b with _|_|_|_|_|_|_|_|_|_|b
 ·exact h
 ·exact U
 ·exact G
 ·exact z
 ·exact l
 ·exact D
 ·exact m
 ·exact r
 ·exact E
 ·exact n
 ·exact absurd F (Dg (Bw _ _))
theorem nq:∀b,b<10->zj (MH b)=V (Qg b):=
 nj (by decide+kernel) (by decide+kernel) (by decide+kernel) (by decide+kernel) (by decide+kernel) (by decide+kernel) (by decide+kernel) (by decide+kernel) (by decide+kernel) (by decide+kernel)
noncomputable def OI:Nat->Av
 |0=>"join"
 |1=>"split"
 |2=>"upper"
 |3=>"lower"
 |6=>"get_all"
 |_=>"?"
theorem nt{I:List Ag}{l:List D}(b:BV J N s.heap I l):∀{acc:PX} {d:D},SJ (.int acc) l=V d->
  ∃(p:PX) (is:List Int),d= .int p/\is.length=I.length/\(∀(i:Nat) (v:Ag),I[i]?=V v->∃t:Ez,v=Db (is.getD i 0) t)/\p.ev J=acc.ev J+is.sum:=
 b.ind (P:=λI l=>∀{acc:PX} {d:D},SJ (.int acc) l=V d->
  ∃(p:PX) (is:List Int),d= .int p/\is.length=I.length/\(∀(i:Nat) (v:Ag),I[i]?=V v->∃t:Ez,v=Db (is.getD i 0) t)/\p.ev J=acc.ev J+is.sum)
  (λ{acc d} h=>⟨acc,[],(sI h).symm,rfl,λi v e=>nS e,(E0 _).symm⟩) λv x I l L y ih acc d h=>by
   obtain⟨a,g,h⟩:=Cn h;obtain⟨p,hp,g⟩:=IN g;obtain⟨t,w⟩:=L.inv' hp;rw[<-sI g]at h;obtain⟨q,is,U,G,z,c⟩:=ih h;refine⟨q,p.ev J::is,U,congrArg Fw G,λj u o=>?_,?_⟩
   ·induction j with
    |zero=>exact⟨t,(sI o).symm.trans w⟩
    |succ j=>exact z j u o
   ·rw[c,Sz,QT,DC]
theorem nu{I:List Ag}{l:List D}(p:BV J N s.heap I l):∀{ls:List (List Nat)},Rf l=V ls->∃b:List (Av×Ez),I=CX b/\(b.map (·.1)).map (·.cps.toList)=ls:=
 p.ind (P:=λI l=>∀{ls:List (List Nat)},Rf l=V ls->∃b:List (Av×Ez),I=CX b/\(b.map (·.1)).map (·.cps.toList)=ls) (λh=>⟨[],rfl,sI h⟩) λv x I l L z ih ls h=>by
  obtain⟨c,E,h⟩:=HJ h;obtain⟨r,Q,h⟩:=Cn h;obtain⟨y,t,w,e⟩:=L.inv' E;obtain⟨b,U,G⟩:=ih Q;exact⟨(y,t)::b,by apply Dz w U;rfl,by rw[DA,DA,G,e];exact sI h⟩
theorem nv{h:A9}(b:List (Av×Ez)):BV J N h (CX b) (((b.map (·.1)).map (·.cps.toList)).map .str):=by
 induction b with
 |nil=>exact .nil
 |cons a r ih=>exact .cons (.str rfl) ih
theorem SO{I:List Ag}{O:List D}{d:D}(p:BV J N s.heap I O)(h:K4 O=V d):FC (λv=>I=[v]) λv=>Rd J N s.heap v d:=by
 rw[Xr h]at p;exact p.one
theorem nw{v:Ag}{x d:D}(h:T8 x=V d)(r:Rd J N s.heap v x)(q:GB T J N s d Q):Ap (Aq Aj w) A (DP (Qg 0) [v]) Q E s:=by
 have r:=r.inv
 induction x using Yf with
 |lst l=>
  obtain⟨i,h⟩:=De h;obtain⟨_,I,_,a,_,g,p⟩:=r
  apply AO a
  exact Ge ⟨_,g,rfl,_,rfl⟩ (by rw[AD,p.length];exact Qf (IC i)) (q _ _ .toks (sI h▸.int (congrArg Mm p.length.symm)))
 |tup l=>
  obtain⟨i,h⟩:=De h;obtain⟨_,I,_,a,_,g,p⟩:=r
  apply AO a
  exact PySem.P.len_tuple g (by rw[AD,p.length];exact Int.not_le.mpr (Qf (IC i))) (q _ _ .toks (sI h▸.int (congrArg Mm p.length.symm)))
 |str l=>
  obtain⟨i,h⟩:=De h;obtain⟨x,t,a,e⟩:=r
  apply AO a
  exact PySem.P.len_str (by rw[Kz e];exact Int.not_le.mpr (Qf (IC i))) (q _ _ .toks (sI h▸.int (congrArg Mm (Kz e).symm)))
 |_=>exact nS h
theorem fb{a:An}{I:List Ag}{l:List D}{d:D}(n:A.handled=Ao)(k:a<s.heap.objs.size)(h:SJ (LB 0) l=V d)(j:BV J N s.heap I l)(q:GB T J N s d Q)
  {C:Prop}(g:∀(is:List Int),(∀(i:Nat) (v:Ag),I.toArray[i]?=V v->∃t:Ez,v=Db (is.getD i 0) t)->(∀b∈[s.heap.objs.size,a],b<(s.heap.objs.size+1))->
   (∀(o:Fo) (h':A9) (tk:Nat) (f:Ez),(∀b c,b∉[s.heap.objs.size]->(s.heap.push o).get? b=V c->h'.get? b=V c)->Q (.int (preSum (λi=>is.getD i 0) I.toArray.size) f) {s with heap:=h',toks:=tk})->C):C:=by
 obtain⟨p,is,hd,G,z,m⟩:=nt j h;refine g is (λi v w=>z i v ((Cd ..).symm.trans w)) (λb F=>?_) λo h' tk f P=>q _ _ (.of_keeps λb c e=>P b c (λhm=>?_) (Au _ e)) (hd▸.int ?_)
 ·rcases jC F with e|F
  ·apply AO e;exact Ct _
  ·apply AO (List.mem_singleton.mp F);exact Nat.lt_succ_of_lt k
 ·rw[List.mem_singleton.mp hm]at e;exact AN _ (AY e)
 ·rw[m,preSum_getD,Cp (by rw[G];exact AI _)]
  exact Cq _
theorem ny{v:Ag}{x d:D}(t:A.handled=Ao)(h:T9 x=V d)(r:Rd J N s.heap v x)(q:GB T J N s d Q):Ap (Aq Aj w) A (DP (Qg 1) [v]) Q E s:=by
 have r:=r.inv
 induction x using Yf with
 |lst l=>
  obtain⟨f,h⟩:=De h;obtain⟨a,I,_,c,_,g,p⟩:=r;have k:=AY g
  apply AO c
  refine fb t k h p q λis z F M=>dp (JM ⟨_,g,rfl,_,rfl⟩ ⟨_,_,_,_,_,_,λi=>is.getD i 0,rfl,UP (A:=A.in1) t s.heap.objs.size a (Bn k) I.toArray,⟨⟨_,Ay _ rfl,rfl,rfl⟩,⟨_,Au _ g,rfl,_,rfl⟩⟩,λb hm=>?_,z,λh' tk e P=>M _ h' tk e P⟩)
  exact ND (F b hm) (B6 ..).symm
 |tup l=>
  obtain⟨f,h⟩:=De h;obtain⟨a,I,_,c,_,g,p⟩:=r;have k:=AY g
  apply AO c
  refine fb t k h p q λis z F M=>dp (QU ⟨_,g,rfl,_,rfl⟩ ⟨_,_,_,_,_,_,λi=>is.getD i 0,rfl,Sh (A:=A.in1) t s.heap.objs.size a (Bn k) I.toArray,⟨⟨_,Ay _ rfl,rfl,rfl⟩,⟨_,Au _ g,rfl,_,rfl⟩⟩,λb hm=>?_,z,λh' tk e P=>M _ h' tk e P⟩)
  exact ND (F b hm) (B6 ..).symm
 |_=>exact nS h
theorem fc{n:Nat}(h:n<10000000000):n.log2<40:=by
 by_cases hz:n=0
 ·apply AO hz;decide
 ·exact(Ht hz).mpr (CO h (by decide))
theorem nA{b:Nat}{I:List Ag}{O:List D}{d:D}(P:A.handled=Ao)(m:∀a,N a->Da s.heap a)(h:SK b O=V d)(p:BV J N s.heap I O)(q:GB T J N s d Q):Ap (Aq Aj w) A (DP (Qg b) I) Q E s:=by
 rcases b with _|_|_|_|_|_|_|_|_|b
 ·obtain⟨x,L,h⟩:=Cn h;obtain⟨v,g,r⟩:=SO p L
  apply AO g;exact nw h r q
 ·obtain⟨x,L,h⟩:=Cn h;obtain⟨v,g,r⟩:=SO p L
  apply AO g;exact ny P h r q
 ·obtain⟨x,L,h⟩:=Cn h;obtain⟨v,g,r⟩:=SO p L;obtain⟨i,C,h⟩:=H5 h;obtain⟨z,h⟩:=De h;obtain⟨t,o⟩:=r.inv' C;have k:i.natAbs<10000000000:=D8 z;rw[g];apply AO o
  exact Ls (CO (fc k) (by decide)) (q _ _ .toks (sI h▸.str (XM i k)))
 ·obtain⟨x,L,h⟩:=Cn h;obtain⟨v,g,r⟩:=SO p L;obtain⟨l,R,h⟩:=HJ h;obtain⟨y,t,o,e⟩:=r.inv' R
  induction l with
  |nil=>exact nS h
  |cons c l=>
   obtain⟨z,h⟩:=De h;obtain⟨n,M,h⟩:=M6 h;obtain⟨U,G⟩:=ni _ _ _ M;have f:y.length<=21:=by rw[Kz e];exact BB (D8 z)
   rw[g];apply AO o
   refine dB (n:=(n:Int)) ?_ (Am f (by decide)) (q _ _ .toks (h▸.int rfl))
   rw[PySem.intText_digits (x:=y) (by rw[e];exact U) (by rw[e];exact List.cons_ne_nil _ _) (Am f (by decide)),e];apply AO G
   rfl
 ·obtain⟨x,L,h⟩:=Cn h;obtain⟨v,g,r⟩:=SO p L;obtain⟨i,C,h⟩:=H5 h;obtain⟨n,M,h⟩:=Q6 h;obtain⟨z,h⟩:=De h;obtain⟨t,o⟩:=r.inv' C;have H:n<55296:=D8 z;rw[g,o];apply AO M
  exact W7 (AW n) (Cr (jO (CN H)) (by decide)) (q _ _ .toks (sI h▸.str rfl))
 ·exact nS h
 ·exact nS h
 ·exact nS h
 ·induction O with
  |nil=>exact nS h
  |cons x O=>
   obtain⟨i,C,h⟩:=H5 h;obtain⟨y,W,h⟩:=Cn h;obtain⟨j,X,h⟩:=H5 h;obtain⟨z,h⟩:=De h;rw[Xr W]at p;obtain⟨v,w',g,r1,r2⟩:=p.two;obtain⟨t,U⟩:=r1.inv' C;obtain⟨u,G⟩:=r2.inv' X;have F:j≠0:=λe=>by
    have:=(AH z).1;rw[NQ.mpr e]at this;exact bF this
   have hp:j.natAbs<2^8000:=D8 (AH z).2;rw[g];apply Dz U G
   exact divmod_int F (q _ _ (.push (tk:=s.toks+1+1)) (sI h▸.tup (I:=[.int (i.fdiv j) s.toks,.int (i.fmod j) (s.toks+1)]) (n:=0) (Nc m) (Ay _ rfl) (.cons (.int rfl) (.cons (.int rfl) .nil)))) (.inl (JO ((Ht (Int.natAbs_ne_zero.mpr F)).mpr (AE hp (AV (by decide) (by decide))))))
 ·exact nS h
theorem nB{w x y:List Nat}{t:List (List Nat)}:K5 w (x::y::t)=x++(w++K5 w (y::t)):=rfl
theorem nC(w:List Nat):∀ls:List (List Nat),(ls.map Gh).sum+ls.length*w.length<=(K5 w ls).length+w.length:=by
 intro ls
 induction ls with
 |nil=>exact Cw (UQ w.length▸Be _) 0
 |cons x t ih=>induction t with
 |nil=>show x.length+0+1*w.length<=x.length+w.length;rw[Jy];exact AI _
 |cons y r=>
  rw[nB];simp only[DA,QT,Cb,Bm]at ih ⊢;have e:(r.length+1+1)*w.length=(r.length+1)*w.length+w.length:=by rw[Nat.succ_mul (r.length+1)]
  exact(Q4 (.a (.a (.v 6) (.a (.v 0) (.v 1))) (.v 5)) (.a (.a (.v 6) (.a (.v 4) (.v 3))) (.v 4)) [(1,.a (.a (.v 0) (.v 1)) (.v 2),.a (.v 3) (.v 4)),(1,.v 5,.a (.v 2) (.v 4))] rfl ih (Al e))
theorem fh{x:Av}{l:List Nat}{f:Nat->Nat}(e:x.cps.toList=l)(i:AS l=Y):DZ (aN (x.cps.map f)).length=Ak:=by
 unfold DZ;rw[decide_eq_false_iff_not,Nat.not_lt];show(x.cps.map f).size<=_;rw[Array.size_map];exact Am (Al (Kz e)) (Am (IC i) (by apply AO CC;decide))
theorem nE{m:Nat}{b:Ag}{x z:D}{pos:B9}(h:SL m x []=V z)(C:Rd J N s.heap b x)(q:GB T J N s z Q):MW Aj w A E (OI m) b pos [] Q s:=by
 rcases m with _|_|_|_|m
 ·obtain⟨_,_,h⟩:=HJ h;exact nS h
 ·obtain⟨_,_,h⟩:=HJ h;exact nS h
 ·obtain⟨l,j,h⟩:=HJ h;obtain⟨i,h⟩:=De h;obtain⟨x,t,a,e⟩:=C.inv' j;have o:=upper_ascii (x:=x) (by rw[e];exact XJ (AH i).1)
  apply AO a
  refine zI (by rw[o];exact fh e (AH i).2) (q _ _ .toks (sI h▸.str ?_))
  rw[o];show(x.cps.map up1).toList=_;rw[NE,e];exact HI λc y=>(nf c).symm
 ·obtain⟨l,j,h⟩:=HJ h;obtain⟨i,h⟩:=De h;obtain⟨x,t,a,e⟩:=C.inv' j;have o:=lower_ascii (x:=x) (by rw[e];exact XJ (AH i).1)
  apply AO a
  refine zJ (by rw[o];exact fh e (AH i).2) (q _ _ .toks (sI h▸.str ?_))
  rw[o];show(x.cps.map lo1).toList=_;rw[NE,e];exact HI λc y=>(ng c).symm
 ·exact nS h
open StrLaws Builtin.Str in
theorem nG{x y:Av}{t u:Ez}(c:1<=y.length)(L:x.length<=C5)(M:(partsBetween x (occurrences x y 0 x.length (x.length+1)) y.length).length<=C5)
  (b:∀l:List (Av×Ez),l.map (·.1)=O8 x y->∀tk,Q (.ref s.heap.objs.size) {s with heap:=s.heap.push (Gf (CX l).toArray 0),toks:=tk}):
  ∃Ad,Meets (Builtin.«str.split» ⟨[.str x t,.str y u],[]⟩) Ad/\Ad A (wants Q E) s:=by
 have T:(y.length==0)=Ak:=by rw[beq_eq_false_iff_ne];exact(Dx (EJ (.a (.k 0) (.k 1)) (.v 0) [(1,.k 1,.v 0)] rfl c))
 cases U:(decide (x.length<y.length)||decide (Dr x<Dr y))
 ·cases a:(occurrences x y 0 x.length (x.length+1)).isEmpty
  ·refine⟨_,meets_str_split_sep x y t u U T a L M,?_⟩
   show wants Q E _ {s with toks:=_,heap:=s.heap.push {cls:=.type "list",data:=.seq (strsFrom s.toks (partsBetween x (occurrences x y 0 x.length (x.length+1)) y.length)).toArray}}
   rw[strsFrom_eq];exact b (numbered s.toks _) ((numbered_texts _ _).trans ((if_neg (ne_true_of_eq_false U)).trans (if_neg (ne_true_of_eq_false a))).symm) _
  ·exact⟨_,meets_str_split_not_found x y t u U T a,b [(x,t)] ((if_neg (ne_true_of_eq_false U)).trans (if_pos a)).symm _⟩
 ·exact⟨_,meets_str_split_cannot_occur x y t u U,b [(x,t)] (if_pos U).symm _⟩
theorem nH{w:Av}{l:List (Av×Ez)}{sl:List Nat}{ls:List (List Nat)}(e:w.cps.toList=sl)(G:(l.map (·.1)).map (·.cps.toList)=ls)(j:(K5 sl ls).length<=1000000)(i:sl.length<=1000000):aH w (l.map (·.1)):=by
 unfold aH;rw[HR];have r:=nC sl ls;have e1:((l.map (·.1)).map (·.length)).sum=(ls.map Gh).sum:=by apply CE G;rw[DN,DN,DN];rfl
 have e2:(l.map (·.1)).length=ls.length:=by apply CE G;simp
 rw[e1,e2,Kz e];unfold DZ;rw[A4,decide_eq_false_iff_not,CC];exact(Dg (Ip (.a (.v 2) (.v 3)) (.k 16777216) [(1,.v 0,.k 1000000),(1,.v 1,.k 1000000),(1,.a (.v 2) (.v 3),.a (.v 0) (.v 1))] rfl j i r))
theorem nJ(x:Av)(k:Nat)(L:List Nat):∀a:Nat,(StrLaws.partsFrom x k a L).length=L.length+1:=by
 induction L with
 |nil=>exact λz=>rfl
 |cons c r ih=>exact λa=>congrArg Fw (ih (c+k))
theorem nK{m:Nat}{W:Ag}{x y z:D}{pos:B9}{a:JZ Ag}(hN:∀a,N a->Da s.heap a)(hu:A.units+10<Gv)(d:Ap (Aq Aj w) A a (λv AK=>BM T s AK/\Rd J N AK.heap v y) E s)(h:SL m x [y]=V z)(C:Rd J N s.heap W x)(q:GB T J N s z Q):
  MW Aj w A E (OI m) W pos [(Ak,a)] Q s:=by
 rcases m with _|_|_|_|m
 ·obtain⟨f,j,h⟩:=HJ h;obtain⟨l,r,h⟩:=LY h;obtain⟨ls,p,h⟩:=Cn h;obtain⟨i,h⟩:=De h;obtain⟨x,t,H,e⟩:=C.inv' j;have i:=(AH i).2
  apply AO H
  refine NF (AM d (λv AK X=>?_) λB B e=>e)
  obtain⟨L,R⟩:=X;obtain⟨b,I,n,H,_,g,rs⟩:=R.inv' r;obtain⟨l',o,G⟩:=nu rs p;rw[o]at g;exact⟨b,l',H,⟨_,g,rfl,_,rfl⟩,_,rfl,nH e G (D8 (AH i).2) (IC (AH i).1),λt' k=>q _ _ (L.trans .toks) (sI h▸.str (by rw[XI,e,G]))⟩
 ·obtain⟨cs,j,h⟩:=HJ h;obtain⟨f,r,h⟩:=HJ h;obtain⟨x,t,H,e⟩:=C.inv' j
  induction f with
  |nil=>exact nS h
  |cons c f=>
  obtain⟨i,h⟩:=De h;have U:=(AH (AH i).2).2
  apply AO H
  refine⟨"str",_,PySem.F.plainAttrs_str,Ki,PySem.F.type_str_split,Jg _ _ _,(λB e=>nomatch e),
   la Ki PySem.F.entry_str_split (AM d (λv AK X=>?_) λB B e=>e)⟩
  obtain⟨L,R⟩:=X;obtain⟨y,u,o,e2⟩:=R.inv' r;have r:1<=y.length:=by apply AO (Kz e2);exact Em _
  have M:x.length<=1000000:=by rw[Kz e];exact IC (AH i).1
  have F:(1000000+2:Nat)<=C5:=by apply AO CC;decide
  apply AO o
  refine⟨Jg _ _ _,PySem.F.args_str_split_2 _ _,nG r (Am M (Am (AQ _ 2) F)) ?_ λl j tk=>?_⟩
  ·rw[StrLaws.partsBetween_eq,nJ];exact Am (BB (Am (StrLaws.occ_length_le x y 0 x.length (x.length+1)) (BB M))) F
  ·have P:=m9 x y r (by rw[e2];exact U)
   rw[e,e2,Kz e]at P;refine q _ _ (L.trans .push) (sI h▸.lst (λhn=>AN _ ((hN _ hn).ext L).lt) (n:=0) (Ay _ rfl) ?_)
   rw[<-P,<-j];exact nv _
 ·obtain⟨_,_,h⟩:=HJ h;exact nS h
 ·obtain⟨_,_,h⟩:=HJ h;exact nS h
 ·exact nS h
noncomputable def J1(e:Expr)(x:Av->B9->Bool)(d:Xe->Nat->B9->Bool)(u:List Expr->B9->Bool)(G:List Expr->Nat->B9->Bool)(a:Expr->BY->Expr->B9->Bool)(b:R7->Expr->B9->Bool)(L:Expr->List Ep->List Expr->B9->Bool)(c:H8->List Expr->B9->Bool)(f:Expr->Expr->Expr->B9->Bool)(g:Expr->Expr->B9->Bool)(H:Option Expr->Option Expr->Option Expr->B9->Bool)(C:Expr->List Expr->List ES->B9->Bool)(m:Expr->Av->B9->Bool)(M:Expr->List A7->Scope->B9->Bool):Bool:=
 Expr.casesOn (motive_1:=λz=>Bool) e c F3 a b F4 f F3 F3 M F4 (λz=>F4) F4 F2 F2 F2 L C F4 F2 d m g F2 x u G H
noncomputable def Ya:=@Expr.casesOn
theorem K7{e:Expr}{b:Av->B9->Bool}{d:Xe->Nat->B9->Bool}{u:List Expr->B9->Bool}{f:List Expr->Nat->B9->Bool}{g:Expr->BY->Expr->B9->Bool}{i:R7->Expr->B9->Bool}{L:Expr->List Ep->List Expr->B9->Bool}{j:H8->List Expr->B9->Bool}{k:Expr->Expr->Expr->B9->Bool}{p:Expr->Expr->B9->Bool}{H:Option Expr->Option Expr->Option Expr->B9->Bool}{C:Expr->List Expr->List ES->B9->Bool}{a:Expr->Av->B9->Bool}{M:Expr->List A7->Scope->B9->Bool}{P:Prop}(h:J1 e b d u f g i L j k p H C a M=Y)(v:∀x y,e= .Name x y->b x y=Y->P)(U:∀x y z,e= .Constant x y z->d x y z=Y->P)(G:∀x y,e= .List x y->u x y=Y->P)(A:∀x y z,e= .Tuple x y z->f x y z=Y->P)(l:∀x y z w,e= .BinOp x y z w->g x y z w=Y->P)(D:∀x y z,e= .UnaryOp x y z->i x y z=Y->P)(m:∀x y z w,e= .Compare x y z w->L x y z w=Y->P)(r:∀x y z,e= .BoolOp x y z->j x y z=Y->P)(E:∀x y z w,e= .IfExp x y z w->k x y z w=Y->P)(n:∀x y z,e= .Subscript x y z->p x y z=Y->P)(o:∀x y z w,e= .Slice x y z w->H x y z w=Y->P)(q:∀x y z w,e= .Call x y z w->C x y z w=Y->P)(s:∀x y z,e= .Attribute x y z->a x y z=Y->P)(t:∀x y z w,e= .ListComp x y z w->M x y z w=Y->P):P:=by
 refine(λc=>?_:∀c,e=c->J1 c b d u f g i L j k p H C a M=Y->P) e rfl h
 induction c using Ya with
 |Name x y=>exact v x y
 |Constant x y z=>exact U x y z
 |List x y=>exact G x y
 |Tuple x y z=>exact A x y z
 |BinOp x y z w=>exact l x y z w
 |UnaryOp x y z=>exact D x y z
 |Compare x y z w=>exact m x y z w
 |BoolOp x y z=>exact r x y z
 |IfExp x y z w=>exact E x y z w
 |Subscript x y z=>exact n x y z
 |Slice x y z w=>exact o x y z w
 |Call x y z w=>exact q x y z w
 |Attribute x y z=>exact s x y z
 |ListComp x y z w=>exact t x y z w
 |_=>exact λB=>bF
variable {e:Expr}
noncomputable def K8(e:Expr)(f:Av->Bool):Bool:=J1 e (λx z=>f x) F3 F2 F3 F4 F3 F4 F3 F4 F3 F4 F4 F3 F4
theorem MI{f:Av->Bool}(h:K8 e f=Y):LW (λx y=>e= .Name x y) λx z=>f x=Y:=K7 h (λx y q h=>⟨x,y,q,h⟩) b4 b3 b4 b5 b4 b5 b4 b5 b4 b5 b5 b4 b5
noncomputable def Vr(e:Expr)(f:Xe->Bool):Bool:=J1 e F2 (λx z z=>f x) F2 F3 F4 F3 F4 F3 F4 F3 F4 F4 F3 F4
theorem Vs{f:Xe->Bool}(h:Vr e f=Y):Pj (λx y z=>e= .Constant x y z) λx k k=>f x=Y:=K7 h b3 (λx y z q h=>⟨x,y,z,q,h⟩) b3 b4 b5 b4 b5 b4 b5 b4 b5 b5 b4 b5
noncomputable def Vt(e:Expr)(f:List Expr->Bool):Bool:=J1 e F2 F3 (λx z=>f x) F3 F4 F3 F4 F3 F4 F3 F4 F4 F3 F4
theorem Vu{f:List Expr->Bool}(h:Vt e f=Y):LW (λx y=>e= .List x y) λx z=>f x=Y:=K7 h b3 b4 (λx y q h=>⟨x,y,q,h⟩) b4 b5 b4 b5 b4 b5 b4 b5 b5 b4 b5
noncomputable def NX(e:Expr)(f:List Expr->Bool):Bool:=J1 e F2 F3 F2 (λx z z=>f x) F4 F3 F4 F3 F4 F3 F4 F4 F3 F4
theorem Qh{f:List Expr->Bool}(h:NX e f=Y):Pj (λx y z=>e= .Tuple x y z) λx k k=>f x=Y:=K7 h b3 b4 b3 (λx y z q h=>⟨x,y,z,q,h⟩) b5 b4 b5 b4 b5 b4 b5 b5 b4 b5
noncomputable def Rg(e:Expr)(f:Expr->BY->Expr->Bool):Bool:=J1 e F2 F3 F2 F3 (λx y z k=>f x y z) F3 F4 F3 F4 F3 F4 F4 F3 F4
theorem SP{f:Expr->BY->Expr->Bool}(h:Rg e f=Y):NN (λx y z w=>e= .BinOp x y z w) λx y z k=>f x y z=Y:=K7 h b3 b4 b3 b4 (λx y z w q h=>⟨x,y,z,w,q,h⟩) b4 b5 b4 b5 b4 b5 b5 b4 b5
noncomputable def XN(e:Expr)(f:R7->Expr->Bool):Bool:=J1 e F2 F3 F2 F3 F4 (λx y z=>f x y) F4 F3 F4 F3 F4 F4 F3 F4
theorem fj{f:R7->Expr->Bool}(h:XN e f=Y):Pj (λx y z=>e= .UnaryOp x y z) λx y k=>f x y=Y:=K7 h b3 b4 b3 b4 b5 (λx y z q h=>⟨x,y,z,q,h⟩) b5 b4 b5 b4 b5 b5 b4 b5
noncomputable def XO(e:Expr)(f:Expr->List Ep->List Expr->Bool):Bool:=J1 e F2 F3 F2 F3 F4 F3 (λx y z k=>f x y z) F3 F4 F3 F4 F4 F3 F4
theorem XQ{f:Expr->List Ep->List Expr->Bool}(h:XO e f=Y):NN (λx y z w=>e= .Compare x y z w) λx y z k=>f x y z=Y:=K7 h b3 b4 b3 b4 b5 b4 (λx y z w q h=>⟨x,y,z,w,q,h⟩) b4 b5 b4 b5 b5 b4 b5
noncomputable def fk(e:Expr)(f:H8->List Expr->Bool):Bool:=J1 e F2 F3 F2 F3 F4 F3 F4 (λx y z=>f x y) F4 F3 F4 F4 F3 F4
theorem fm{f:H8->List Expr->Bool}(h:fk e f=Y):Pj (λx y z=>e= .BoolOp x y z) λx y k=>f x y=Y:=K7 h b3 b4 b3 b4 b5 b4 b5 (λx y z q h=>⟨x,y,z,q,h⟩) b5 b4 b5 b5 b4 b5
noncomputable def Uf(e:Expr)(f:Expr->Expr->Expr->Bool):Bool:=J1 e F2 F3 F2 F3 F4 F3 F4 F3 (λx y z k=>f x y z) F3 F4 F4 F3 F4
theorem fq{f:Expr->Expr->Expr->Bool}(h:Uf e f=Y):NN (λx y z w=>e= .IfExp x y z w) λx y z k=>f x y z=Y:=K7 h b3 b4 b3 b4 b5 b4 b5 b4 (λx y z w q h=>⟨x,y,z,w,q,h⟩) b4 b5 b5 b4 b5
noncomputable def SQ(e:Expr)(f:Expr->Expr->Bool):Bool:=J1 e F2 F3 F2 F3 F4 F3 F4 F3 F4 (λx y z=>f x y) F4 F4 F3 F4
theorem Vv{f:Expr->Expr->Bool}(h:SQ e f=Y):Pj (λx y z=>e= .Subscript x y z) λx y k=>f x y=Y:=K7 h b3 b4 b3 b4 b5 b4 b5 b4 b5 (λx y z q h=>⟨x,y,z,q,h⟩) b5 b5 b4 b5
noncomputable def fv(e:Expr)(f:Option Expr->Option Expr->Option Expr->Bool):Bool:=J1 e F2 F3 F2 F3 F4 F3 F4 F3 F4 F3 (λx y z k=>f x y z) F4 F3 F4
theorem nM{f:Option Expr->Option Expr->Option Expr->Bool}(h:fv e f=Y):NN (λx y z w=>e= .Slice x y z w) λx y z k=>f x y z=Y:=K7 h b3 b4 b3 b4 b5 b4 b5 b4 b5 b4 (λx y z w q h=>⟨x,y,z,w,q,h⟩) b5 b4 b5
noncomputable def Vw(e:Expr)(f:Expr->List Expr->List ES->B9->Bool):Bool:=J1 e F2 F3 F2 F3 F4 F3 F4 F3 F4 F3 F4 f F3 F4
theorem fw{f:Expr->List Expr->List ES->B9->Bool}(h:Vw e f=Y):NN (λx y z w=>e= .Call x y z w) λx y z w=>f x y z w=Y:=K7 h b3 b4 b3 b4 b5 b4 b5 b4 b5 b4 b5 (λx y z w q h=>⟨x,y,z,w,q,h⟩) b4 b5
noncomputable def XR(e:Expr)(f:Expr->Av->B9->Bool):Bool:=J1 e F2 F3 F2 F3 F4 F3 F4 F3 F4 F3 F4 F4 f F4
theorem fx{f:Expr->Av->B9->Bool}(h:XR e f=Y):Pj (λx y z=>e= .Attribute x y z) λx y z=>f x y z=Y:=K7 h b3 b4 b3 b4 b5 b4 b5 b4 b5 b4 b5 b5 (λx y z q h=>⟨x,y,z,q,h⟩) b5
noncomputable def Vx(e:Expr)(f:Expr->List A7->Scope->Bool):Bool:=J1 e F2 F3 F2 F3 F4 F3 F4 F3 F4 F3 F4 F4 F3 (λx y z k=>f x y z)
theorem XS{f:Expr->List A7->Scope->Bool}(h:Vx e f=Y):NN (λx y z w=>e= .ListComp x y z w) λx y z k=>f x y z=Y:=K7 h b3 b4 b3 b4 b5 b4 b5 b4 b5 b4 b5 b5 b4 (λx y z w q h=>⟨x,y,z,w,q,h⟩)
noncomputable def XT(e:Expr):Bool:=J1 e (λz z=>Y) (λz z z=>Y) (λz z=>Y) (λz z z=>Y) (λz z z z=>Y) (λz z z=>Y) (λz z z z=>Y) (λz z z=>Y) (λz z z z=>Y) (λz z z=>Y) F4 (λz z z z=>Y) (λz z z=>Y) (λz z z z=>Y)
noncomputable def Vy(e:Expr)(f:Av->List Expr->Bool):Bool:=Vw e λg xs N z=>N.isEmpty&&K8 g λid=>f id xs
theorem SR{e:Expr}{f:Av->List Expr->Bool}(h:Vy e f=Y):NN (λid q xs p=>e= .Call (.Name id q) xs [] p) λid z xs z=>f id xs=Y:=by
 obtain⟨g,xs,N,p,r,h⟩:=fw h;obtain⟨id,q,o,G⟩:=MI (AH h).2;exact⟨id,q,xs,p,by rw[r];apply Dz o (jE (AH h).1);rfl,G⟩
noncomputable def OJ(e:Expr):Bool:=!Vw e λf xs N z=>N.isEmpty&&(xs.isEmpty&&K8 f λz=>Y)
noncomputable def XU(e:Expr)(f:Expr->Av->List Expr->List ES->Bool):Bool:=Vw e λg xs N p=>XR g λv name D=>D.endLine==p.line&&(OJ v&&f v name xs N)
inductive nO(e:Expr)(f:Expr->Av->List Expr->List ES->Bool):Prop
 |mk (v:Expr) (name:Av) (ap:B9) (xs:List Expr) (kws:List ES) (p:B9) (he:e= .Call (.Attribute v name ap) xs kws p) (hl:(ap.endLine==p.line)=Y) (hp:OJ v=Y) (h:f v name xs kws=Y)
theorem XV{e:Expr}{f:Expr->Av->List Expr->List ES->Bool}(h:XU e f=Y):nO e f:=by
 obtain⟨g,xs,N,p,r,h⟩:=fw h;obtain⟨v,name,D,o,h⟩:=fx h;exact⟨v,name,D,xs,N,p,by rw[r];apply AO o;rfl,(AH h).1,(AH (AH h).2).1,(AH (AH h).2).2⟩
noncomputable def SS(e:Expr)(f:Expr->Av->List Expr->Bool):Bool:=XU e λv name xs N=>N.isEmpty&&f v name xs
inductive nP(e:Expr)(f:Expr->Av->List Expr->Bool):Prop
 |mk (v:Expr) (name:Av) (ap:B9) (xs:List Expr) (p:B9) (he:e= .Call (.Attribute v name ap) xs [] p) (hl:(ap.endLine==p.line)=Y) (hp:OJ v=Y) (h:f v name xs=Y)
theorem Vz{e:Expr}{f:Expr->Av->List Expr->Bool}(h:SS e f=Y):nP e f:=by
 obtain⟨v,name,D,xs,N,p,r,U,G,h⟩:=XV h;exact⟨v,name,D,xs,p,by rw[r];apply AO (jE (AH h).1);rfl,U,G,(AH h).2⟩
noncomputable def J2{z:Type}(l:List z)(f:z->Bool):Bool:=match l with
 |[]=>Ak
 |a::r=>r.isEmpty&&f a
noncomputable def NY{z:Type}(l:List z)(f:z->z->Bool):Bool:=match l with
 |[]=>Ak
 |a::r=>J2 r (f a)
noncomputable def XW{z:Type}(l:List z)(f:z->List z->Bool):Bool:=match l with
 |[]=>Ak
 |a::r=>f a r
theorem bS{z:Type}{l:List z}{f:z->List z->Bool}(h:XW l f=Y):LW (λa r=>l=a::r) λa r=>f a r=Y:=by
 induction l with
 |nil=>exact bF h
 |cons a r=>exact⟨a,r,rfl,h⟩
theorem Jr{z:Type}{l:List z}{f:z->Bool}(h:J2 l f=Y):FC (λa=>l=[a]) λa=>f a=Y:=by
 induction l with
 |nil=>exact bF h
 |cons a r=>exact⟨a,by apply AO (jE (AH h).1);rfl,(AH h).2⟩
theorem NZ{z:Type}{l:List z}{f:z->z->Bool}(h:NY l f=Y):LW (λa b=>l=[a,b]) λa b=>f a b=Y:=by
 induction l with
 |nil=>exact bF h
 |cons a r=>
  obtain⟨b,e,h⟩:=Jr h;exact⟨a,b,by apply AO e;rfl,h⟩
noncomputable def GR{z Q:Type}(f:z->Q->Bool):List z->List Q->Bool
 |[],b=>b.isEmpty
 |a::r,b=>(match b with
  |[]=>Ak
  |c::s=>f a c&&GR f r s)
theorem Qi{x Q:Type}{f:x->Q->Bool}{a:x}{r:List x}{bs:List Q}(h:GR f (a::r) bs=Y):Q5 (λb s=>bs=b::s) (λb z=>f a b=Y) λz s=>GR f r s=Y:=by
 induction bs with
 |nil=>exact bF h
 |cons b s=>exact⟨b,s,rfl,(AH h).1,(AH h).2⟩
theorem SU{z Q:Type}{f:z->Q->Bool}{bs:List Q}(h:GR f [] bs=Y):bs=[]:=jE h
theorem Qj{x Q:Type}{f:x->Q->Bool}{as:List x}{b:Q}{s:List Q}(h:GR f as (b::s)=Y):Q5 (λa r=>as=a::r) (λa z=>f a b=Y) λz r=>GR f r s=Y:=by
 induction as with
 |nil=>exact bF h
 |cons a r=>exact⟨a,r,rfl,(AH h).1,(AH h).2⟩
theorem Pq{z Q:Type}{f:z->Q->Bool}{as:List z}(h:GR f as []=Y):as=[]:=by
 induction as with
 |nil=>rfl
 |cons a r=>exact bF h
noncomputable def SV{z Q:Type}(f:z->Q->Bool)(o:Option z)(p:Option Q):Bool:=match o with
 |none=>p.isNone
 |some a=>(match p with
  |none=>Ak
  |some b=>f a b)
noncomputable def Qk(f:Expr->M->Bool):List Ep->List Expr->List (Ep×M)->Bool
 |[],es,ms=>es.isEmpty&&ms.isEmpty
 |o::os,es,ms=>(match es with
  |[]=>Ak
  |e::es=>(match ms with
   |[]=>Ak
   |m::r=>o==m.1&&(f e m.2&&Qk f os es r)))
theorem Rh{f:Expr->M->Bool}{ops:List Ep}{es:List Expr}(h:Qk f ops es []=Y):ops=[]/\es=[]:=by
 cases ops with
 |nil=>exact⟨rfl,jE (AH h).1⟩
 |cons o ops=>induction es<;>exact bF h
inductive bU(f:Expr->M->Bool)(ops:List Ep)(es:List Expr)(m:Ep×M)(r:List (Ep×M)):Prop
 |mk (ops':List Ep) (e:Expr) (es':List Expr) (h1:ops=m.1::ops') (h2:es=e::es') (h3:f e m.2=Y) (h4:Qk f ops' es' r=Y)
theorem VA{f:Expr->M->Bool}{ops:List Ep}{es:List Expr}{m:Ep×M}{r:List (Ep×M)}(h:Qk f ops es (m::r)=Y):bU f ops es m r:=by
 cases ops with
 |nil=>exact bF (AH h).2
 |cons o ops=>
  induction es with
  |nil=>exact bF h
  |cons e es=>exact⟨ops,e,es,by apply AO (AA (AH h).1);rfl,rfl,(AH (AH h).2).1,(AH (AH h).2).2⟩
noncomputable def Ri(B:Nat->Av)(sc:List (Av×AC))(id:Av)(x:Nat):Bool:=id==B x&&(sc.lookup id==V .local||sc.lookup id==V .cell)
noncomputable def LF(B:Nat->Av)(sc:List (Av×AC))(e:Expr)(xs:List Nat)(CZ:Bool):Bool:=match CZ with
 |true=>K8 e λid=>J2 xs λx=>Ri B sc id x
 |false=>NX e λes=>GR (λe x=>K8 e λid=>Ri B sc id x) es xs
noncomputable def KP(sc:List (Av×AC))(ns:List (Av×AC)):List (Av×AC):=
 ns.map λ(n,k)=>if k==.free&&sc.lookup n==V .cell then(n,.cell)else(n,k)
noncomputable def Pr(sc:List (Av×AC)):List (Av×AC)->Bool
 |[]=>Y
 |(n,k)::r=>(k != .free||sc.lookup n==V .cell||sc.lookup n==V .free)&& !(r.any λp=>p.1==n)&&n != ("__classdict__":Av)&&Pr sc r
noncomputable def MJ(Bu:Expr->M->Bool)(sc:List (Av×AC))(name:Av)(e:Expr)(ms:List M):Bool:=Vy e λid as=>id==name&&(sc.lookup id==V .globalImplicit&&GR Bu as ms)
noncomputable def SW(Bu:Expr->M->Bool)(sc:List (Av×AC))(k:Nat)(ms:List M)(e:Expr):Bool:=match k with
 |0=>J2 ms λm=>Bu e m
 |1=>MJ Bu sc "range" e ms
 |_=>Ak
noncomputable def XX(Bu:List (Av×AC)->Expr->M->Bool)(B:Nat->Av)(sc a:List (Av×AC))(g:A7)(c:Cl):Bool:=match c with
 | .mk w CZ k P Q=>g.is_async==0&&(LF B a g.target w CZ&&(SW (Bu sc) sc k P g.iter&&GR (Bu a) g.ifs Q))
noncomputable def VB(Bu:List (Av×AC)->Expr->M->Bool)(B:Nat->Av)(a:List (Av×AC))(gs:List A7)(X:List Cl):Bool:=GR (XX Bu B a a) gs X
noncomputable def KA:List Nat->Bool
 |[]=>Y
 |x::r=>!(r.any λy=>As x y)&&KA r
noncomputable def nQ(d:D)(c:Xe):Bool:=match c with
 | .int j=>(match d with| .int p=>(match p with| .k i=>J0 i j|_=>Ak)|_=>Ak)
 | .str x=>(match d with| .str s=>Fq x.cps.toList s|_=>Ak)
 | .bool b'=>(match d with| .bool b=>b==b'|_=>Ak)
 | .none=>(match d with| .none=>Y|_=>Ak)
 |_=>Ak
noncomputable def LG(b x y:Bool):Bool:=bI b x y
theorem Ug{b x y:Bool}(F:b=Ak)(h:LG b x y=Y):y=Y:=by rw[F]at h;exact h
theorem N0{b x y:Bool}(h:LG b x y=Y):(b=Y/\x=Y)\/y=Y:=by
 induction b with
 |true=>exact .inl ⟨rfl,h⟩
 |false=>exact .inr h
section
variable (Bu:Expr->M->Bool) (sc:List (Av×AC)) (as:List M) (e:Expr)
noncomputable def fy:Bool:=J2 as λa=>XR e λv name z=>name==("_headers":Av)&&(OJ v&&Bu v a)
noncomputable def VC(E:BY):Bool:=NY as λa b=>Rg e λl o r=>o==E&&(Bu l a&&Bu r b)
noncomputable def Uh:Bool:=J2 as λa=>XN e λu x=>(match u with| .Invert=>Y|_=>Ak)&&Bu x a
noncomputable def fA:Bool:=J2 as λa=>SS e λv name xs=>name==("bit_length":Av)&&(xs.isEmpty&&Bu v a)
noncomputable def Ui:Bool:=as.isEmpty&&K8 e λid=>id==("_DIV_LIMIT":Av)&&sc.lookup id==V .globalImplicit
noncomputable def VD(b:Nat):Bool:=J2 as λz=>MJ Bu sc (MH b) e as
noncomputable def nR(e:Expr):Bool:=Vr e λc=>match c with
 | .int j=>J0 j 7
 |_=>Ak
noncomputable def fC:Bool:=XW as λa as=>NY as λb c=>SQ e λv s=>Bu v a&&Rg s λl o r=>(o==.BitAnd&&nR r)&&Rg l λu o r=>o==.RShift&&(Bu u b&&Bu r c)
noncomputable def Uj(f:Nat):Bool:=NY as λa b=>XU e λv name xs N=>name==("_convert_string_type":Av)&&(Bu v a&&(J2 xs (λx=>Bu x b)&&J2 N λk=>k.arg==V ("name":Av)&&Vr k.value λc=>match c with
  | .bool s=>As f (cond s 901 902)
  |_=>Ak))
noncomputable def fE(f:Nat):Bool:=LG (As f 900) (fy Bu as e) (LG (As f 903) (VC Bu as e .Mod) (LG (As f 904) (Uh Bu as e) (LG (As f 905) (fA Bu as e) (LG (As f 906) (VC Bu as e .LShift) (LG (As f 907) (VC Bu as e .FloorDiv)
 (LG (As f 908) (Ui sc as e) (LG (As f 909) (VD Bu sc as e 2) (LG (As f 910) (VD Bu sc as e 3) (LG (As f 911) (fC Bu as e) (Uj Bu as e f))))))))))
end
noncomputable def XY(Bu:List (Av×AC)->Expr->M->Bool)(B:Nat->Av)(sc:List (Av×AC))(e:M)(X:List Cl)(W:Expr)(gens:List A7)(scope:Scope):Bool:=match X with
 |[]=>Ak
 |c::r=>(match gens with
  |[]=>Ak
  |g::gs=>scope.kind==.function&&(Pr sc scope.names&&(KA (IQ (c::r))&&(XX Bu B sc (KP sc scope.names) g c&&(VB Bu B (KP sc scope.names) gs r&&(Bu (KP sc scope.names) W e&&
    (((IQ (c::r)).all λx=>(scope.names.lookup (B x)==V .local||scope.names.lookup (B x)==V .cell))&&
    scope.names.all λp=>!(p.2==.local||p.2==.cell)||p.1==(".0":Av)||(IQ (c::r)).any λx=>B x==p.1)))))))
noncomputable def XZ(m:M):Bool:=!([6,7,8,15].any λi=>As (Xj m) i)
noncomputable def X0(e:Expr):Bool:=J1 e (λz z=>Y) (λz z z=>Y) (λz z=>Y) (λz z z=>Y) (λz z z z=>Y) (λu z z=>match u with| .Not=>Ak|_=>Y) F4 F3 F4 (λz z z=>Y) F4 (λz z z z=>Y) (λz z z=>Y) (λz z z z=>Y)
noncomputable def nU(m:M)(e:Expr):Bool:=XT e&&(!XZ m||X0 e)
noncomputable def Bu(B:Nat->Av)(fn:Nat->Av):Nat->List (Av×AC)->Expr->M->Bool
 |0,_,_,_=>Ak
 |n+1,sc,e,m=>nU m e&&match m with
  | .c d=>Vr e λc=>nQ d c
  | .n x=>K8 e λid=>id==B x&&(Ko (sc.lookup id)&&id != ("__debug__":Av))
  | .lst es=>Vt e λxs=>A3 es.length 1000&&GR (Bu B fn n sc) xs es
  | .tup es=>NX e λxs=>A3 es.length 1000&&GR (Bu B fn n sc) xs es
  | .bin o a b=>Rg e λl P r=>o==P&&(Bu B fn n sc l a&&Bu B fn n sc r b)
  | .neg a=>XN e λu x=>(match u with| .USub=>Y|_=>Ak)&&Bu B fn n sc x a
  | .cmp a os=>XO e λl ops p=>Bu B fn n sc l a&&Qk (Bu B fn n sc) ops p os
  | .bop o es=>fk e λP xs=>o==P&&GR (Bu B fn n sc) xs es
  | .ite t a b=>Uf e λw g b'=>Bu B fn n sc w t&&(Bu B fn n sc g a&&Bu B fn n sc b' b)
  | .idx a i=>SQ e λv s=>Bu B fn n sc v a&&Bu B fn n sc s i
  | .sl a lo T=>SQ e λv s=>Bu B fn n sc v a&&fv s λl h st=>st.isNone&&(SV (Bu B fn n sc) l lo&&SV (Bu B fn n sc) h T)
  | .call f as=>(match Bf f 900 with
   |true=>Vy e λid xs=>id==fn f&&(sc.lookup id==V .globalImplicit&&(id != ("__debug__":Av)&&GR (Bu B fn n sc) xs as))
   |false=>fE (Bu B fn n sc) sc as e f)
  | .bi b as=>(Bf b 5||Nat.beq b 8)&&MJ (Bu B fn n sc) sc (MH b) e as
  | .me k o as=>SS e λv name xs=>name==OI k&&(A3 as.length 1&&(Bu B fn n sc v o&&GR (Bu B fn n sc) xs as))
  | .comp j X=>Vx e λW gens scope=>XY (Bu B fn n) B sc j X W gens scope
  | .bor a=>Bu B fn n sc e a
theorem nV{B fn:Nat->Av}{sc:List (Av×AC)}{e:Expr}{m:M}:∀{fo:Nat},Bu B fn fo sc e m=Y->XT e=Y
 |0=>λh=>bF h
 |_+1=>λh=>(AH (AH h).1).1
theorem Rj{B fn:Nat->Av}{sc:List (Av×AC)}{e c:Expr}{m:M}{fo:Nat}{P:Prop}(h:Bu B fn fo sc e m=Y)(q:e=c)(k:XT c=Ak):P:=by
 have:=nV h;rw[q,k]at this;exact bF this
structure Co(T W:An->Prop)(s S:Ah):Prop where
 keep:∀b o,¬T b->¬W b->s.heap.get? b=V o->S.heap.get? b=V o
 keep2:∀b o,¬W b->s.heap.get? b=V o->Hn o=Ak->S.heap.get? b=V o
 occ:∀b,Da s.heap b->Da S.heap b
 tab:∀b,T b->K6 s.heap b->K6 S.heap b
 gens:∀{P:Array Cg->Prop},NW P->P s.gens->P S.gens
 os:S.os=s.os
variable {W W':An->Prop}
theorem Co.refl:Co T W s s:=⟨λz z z z e=>e,λz z z e z=>e,λz e=>e,λz z e=>e,λz e=>e,rfl⟩
theorem Co.trans(x:Co T W s S)(y:Co T W S DK):Co T W s DK:=
 ⟨λb o n m e=>y.keep b o n m (x.keep b o n m e),λb o m e n=>y.keep2 b o m (x.keep2 b o m e n) n,λb e=>y.occ b (x.occ b e),λb t e=>y.tab b t (x.tab b t e),λi e=>y.gens i (x.gens i e),y.os.trans x.os⟩
theorem Co.mono(x:Co T W s S)(h:∀a,W a->W' a):Co T W' s S:=
 ⟨λb o n m e=>x.keep b o n (λq=>m (h b q)) e,λb o m e n=>x.keep2 b o (λq=>m (h b q)) e n,x.occ,x.tab,x.gens,x.os⟩
theorem BM.upd(x:BM T s S):Co T W s S:=⟨λb o n z e=>x.keep b o n e,λb o z e n=>x.keep2 b o e n,λz e=>e.ext x,x.tab,x.gens,x.os⟩
theorem Co.ext(x:Co T W s S)(h:∀a,W a->s.heap.get? a=Ao):BM T s S:=
 ⟨λb o n e=>x.keep b o n (λq=>by rw[h b q]at e;cases e) e,λb o e n=>x.keep2 b o (λq=>by rw[h b q]at e;cases e) e n,x.tab,x.gens,x.os⟩
theorem Co.fits(x:Co T W s S)(h:∀a,W a->N a):FU N N s.heap S.heap:=λa o n e c=>⟨n,x.keep2 a o (λq=>n (h a q)) e c⟩
theorem Co.of_but{a:An}{h':A9}{tk:Nat}(i:C3 a s.heap h')(C:Da h' a)(j:¬T a)(E:IA s.heap a):Co T (·=a) s {s with heap:=h',toks:=tk}:=
 ⟨λb o z n e=>(i.2 b n).trans e,λb o n e z=>(i.2 b n).trans e,λb ⟨o,e,t⟩=>by
  by_cases q:b=a
  ·apply AO q;exact C
  ·exact⟨o,(i.2 b q).trans e,t⟩,λb p t=>t.keep (λc o y e=>(i.2 c (λq=>(q▸E).absurd y e)).trans e) (λo e=>(i.2 b (λq=>j (q▸p))).trans e),λz e=>e,rfl⟩
theorem Co.ns{a:An}{m:Av->Option Ag}(x:Co T W s S)(n:s.heap.Ns a m)(h:¬W a):S.heap.Ns a m:=by
 obtain⟨o,es,ep,e,d,r⟩:=n;exact⟨o,es,ep,x.keep2 a o h e (JC (by rw[d];rfl)),d,r⟩
theorem Co.cell{a:An}{v:Option Ag}(x:Co T W s S)(n:s.heap.IsCell a v)(h:¬W a):S.heap.IsCell a v:=by
 obtain⟨o,e,d⟩:=n;exact⟨o,x.keep2 a o h e (JC (by rw[d];rfl)),d⟩
structure Fe(T W:An->Prop)(s S:Ah):Prop where
 keep:∀b o,¬T b->¬W b->s.heap.get? b=V o->S.heap.get? b=V o
 keep2:∀b o,¬W b->s.heap.get? b=V o->Hn o=Ak->S.heap.get? b=V o
 tab:∀b,T b->K6 s.heap b->K6 S.heap b
 gens:∀{P:Array Cg->Prop},NW P->P s.gens->P S.gens
 os:S.os=s.os
theorem Co.gone(x:Co T W s S):Fe T W s S:=⟨x.keep,x.keep2,x.tab,x.gens,x.os⟩
theorem Fe.trans(x:Fe T W s S)(y:Fe T W S DK):Fe T W s DK:=
 ⟨λb o n m e=>y.keep b o n m (x.keep b o n m e),λb o m e n=>y.keep2 b o m (x.keep2 b o m e n) n,λb t e=>y.tab b t (x.tab b t e),λi e=>y.gens i (x.gens i e),y.os.trans x.os⟩
theorem Fe.mono(x:Fe T W s S)(h:∀a,W a->W' a):Fe T W' s S:=
 ⟨λb o n m e=>x.keep b o n (λq=>m (h b q)) e,λb o m e n=>x.keep2 b o (λq=>m (h b q)) e n,x.tab,x.gens,x.os⟩
theorem Fe.ext2{s0:Ah}(x:BM T s0 s)(y:Fe T W s S)(h:∀a,W a->s0.heap.get? a=Ao):BM T s0 S:=
 ⟨λb o n e=>y.keep b o n (λq=>by rw[h b q]at e;cases e) (x.keep b o n e),λb o e n=>y.keep2 b o (λq=>by rw[h b q]at e;cases e) (x.keep2 b o e n) n,
  λb t e=>y.tab b t (x.tab b t e),λi e=>y.gens i (x.gens i e),y.os.trans x.os⟩
theorem fF{h:A9}{a:An}{m F:Av->Option Ag}(x:h.Ns a m)(y:h.Ns a F):m=F:=by
 obtain⟨o,es,ep,e,d,_,r⟩:=x;obtain⟨P,b,f,c,M,_,u⟩:=y;rw[e]at c;cases c;rw[d]at M;cases M
 funext n
 rw[<-r,<-u]
theorem Ql{h:A9}{a:An}{m:Av->Option Ag}(x:h.Ns a m):Da h a:=by
 obtain⟨o,es,ep,e,d,r⟩:=x;exact⟨o,e,JC (by rw[d];rfl)⟩
theorem Rk{h:A9}{a:An}{v:Option Ag}(x:h.IsCell a v):Da h a:=by
 obtain⟨o,e,d⟩:=x;exact⟨o,e,JC (by rw[d];rfl)⟩
theorem Yb{h:A9}{a c:An}{m:Av->Option Ag}{v:Option Ag}(x:h.Ns a m)(y:h.IsCell c v):c≠a:=by
 rintro rfl
 obtain⟨o,es,ep,e,d,r⟩:=x;obtain⟨P,b,M⟩:=y;rw[e]at b;cases b;rw[d]at M;cases M
structure FV(Z:DS)(h:A9):Prop where
 ns:∃m,h.Ns Z.locals m
 cells:∀n c,(n,c)∈Z.cells->∃v,h.IsCell c v
 apart:Z.cells.Pairwise λx y=>x.2≠y.2
def Nd(Z:DS)(x:Av)(a:An):Prop:=(Z.kindOf x=V .local/\a=Z.locals)\/(Z.kindOf x=V .cell/\(x==("__classdict__":Av))=Ak/\Z.cells.lookup x=V a)
section
variable {M:IX} {A:A1} {E:Ag->Ah->Prop} {T:An->Prop} {s:Ah} {Z:DS}
theorem FV.upd{W:An->Prop}{S:Ah}(sl:FV Z s.heap)(u:Co T W s S)(U:¬W Z.locals)(i:∀n c,(n,c)∈Z.cells->¬W c):FV Z S.heap:=
 ⟨by obtain⟨m,n⟩:=sl.ns;exact⟨m,u.ns n U⟩,λn c hm=>let⟨v,E⟩:=sl.cells n c hm;⟨v,u.cell E (i n c hm)⟩,sl.apart⟩
theorem Yc{x:Av}{v:Ag}{a:An}{Q:Unit->Ah->Prop}(P:Z.scope.kind= .function)(sl:FV Z s.heap)(st:Nd Z x a)(D:¬T a)
  (q:∀S,Co T (·=a) s S->FV Z S.heap->DH Z S.heap x v->(∀y u,y≠x->DH Z s.heap y u->DH Z S.heap y u)->Q () S):Ap M A (D6 Z x v) Q E s:=by
 obtain⟨m,g⟩:=sl.ns;rcases st with⟨j,rfl⟩|⟨j,hd,i⟩
 ·refine FB j g (λh' t b=>?_) (by rw[P];rfl)
  have f:∀{c v},s.heap.IsCell c v->h'.IsCell c v:=λy=>y.sameBut b (Yb g y)
  refine q _ (.of_but b (Ql t) D (.ns g)) ⟨⟨_,t⟩,λn c hm=>let⟨v,h⟩:=sl.cells n c hm;⟨v,f h⟩,sl.apart⟩ (.inl ⟨j,_,t,if_pos rfl⟩) ?_
  rintro y u k (⟨U,F,G,z⟩|⟨U,G,c,z,l⟩)
  ·rw[fF G g]at z;exact .inl ⟨U,_,t,by rw[if_neg k];exact z⟩
  ·exact .inr ⟨U,G,c,z,f l⟩
 ·have hm:=mem_of_lookup i;obtain⟨p,w⟩:=sl.cells _ _ hm;refine wpAny_storeName_cell P j i w (λh' d b=>?_)
  have o:=g.sameBut b (IY (Yb g w));refine q _ (.of_but (tk:=s.toks) b (Rk d) D (.cell w)) ⟨⟨_,o⟩,λn c C=>?_,sl.apart⟩ (.inr ⟨.inl j,hd,a,i,d⟩) ?_
  ·by_cases e:c=a
   ·subst e;exact⟨_,d⟩
   ·obtain⟨v,h⟩:=sl.cells n c C;exact⟨v,h.sameBut b e⟩
  ·rintro y u k (⟨U,F,G,z⟩|⟨U,G,c,z,l⟩)
   ·exact .inl ⟨U,F,G.sameBut b (IY (Yb G w)),z⟩
   ·refine .inr ⟨U,G,c,z,l.sameBut b λe=>k (zk sl.apart (mem_of_lookup z) (e▸hm))⟩
end
def Ps(B:Nat->Av):Prop:=∀x y,B x=B y->x=y
variable {B:Nat->Av} {Z:DS} {ρ:List (Nat×D)}
theorem H6(x y:Nat)(d:D)(ρ:List (Nat×D)):lk x ((y,d)::ρ)=if x=y then V d else lk x ρ:=by
 show bI (As x y) (V d) (lk x ρ)=_;by_cases h:x=y
 ·apply AO (if_pos h);exact M7 (h▸Cs _)
 ·apply AO (if_neg h);exact OC (P7 h)
theorem I8.store{x:Nat}{d:D}{v:Ag}(i:Ps B)(h:I8 J B N Z s.heap ρ)(f:FU N N s.heap S.heap)(p:DH Z S.heap (B x) v)(Q:Rd J N S.heap v d)
  (C:∀y u,y≠B x->DH Z s.heap y u->DH Z S.heap y u):I8 J B N Z S.heap ((x,d)::ρ):=by
 intro y e j P;rw[H6]at j;by_cases A:y=x
 ·rw[if_pos A]at j;cases j;subst A;exact⟨v,p,Q⟩
 ·rw[if_neg A]at j;obtain⟨u,U,r⟩:=h y e j P;exact⟨u,C _ u (λq=>A (i _ _ q)) U,r.mono f⟩
theorem DH.upd{x:Av}{v:Ag}(u:Co T W s S)(h:DH Z s.heap x v)(U:¬W Z.locals)(q:∀n c,(n,c)∈Z.cells->¬W c):DH Z S.heap x v:=by
 rcases h with⟨j,m,p,i⟩|⟨j,p,c,i,r⟩
 ·exact .inl ⟨j,m,u.ns p U,i⟩
 ·exact .inr ⟨j,p,c,i,u.cell r (q _ _ (mem_of_lookup i))⟩
theorem I8.upd(h:I8 J B N Z s.heap ρ)(u:Co T W s S)(i:∀a,W a->N a)(U:¬W Z.locals)(p:∀n c,(n,c)∈Z.cells->¬W c):I8 J B N Z S.heap ρ:=by
 intro y e j P;obtain⟨v,q,r⟩:=h y e j P;exact⟨v,q.upd u U p,r.mono (u.fits i)⟩
variable {N2:An->Prop} {sc:List (Av×AC)} {Bt:List (Nat×D)}
structure Ho(J:Sg)(B:Nat->Av)(N N2:An->Prop)(Z:DS)(h:A9)(ρ Bt:List (Nat×D)):Prop where
 one:I8 J B N Z h ρ
 two:I8 J B N2 Z h (ρ++Bt)
 sl:FV Z h
theorem FV.ext{S:Ah}(sl:FV Z s.heap)(x:BM T s S):FV Z S.heap:=sl.upd (x.upd (W:=λz=>False)) (λh=>h) λz z z h=>h
theorem fG{x:Nat}{id:Av}(ok:IB Z sc)(h:Ri B sc id x=Y):id=B x/\(Z.kindOf (B x)=V .local\/Z.kindOf (B x)=V .cell):=by
 have e:=AA (AH h).1;refine⟨e,?_⟩
 rw[ok.kindOf,<-e];exact((AT _ _).mp (AH h).2).imp AA AA
def Rl(Z:DS)(W:An->Prop)(T:An->Prop)(x:Av):Prop:=∃a,Nd Z x a/\W a/\¬T a
theorem fH{x:Nat}{d:D}{v:Ag}{Q:Unit->Ah->Prop}(P:Z.scope.kind= .function)(j:Ps B)(sl:FV Z s.heap)(i:Rl Z W T (B x))(rel:Ho J B N N2 Z s.heap ρ Bt)(k:∀a,W a->N2 a)(f:∀a,N2 a->N a)
  (p:Rd J N s.heap v d)(q:∀S,Co T W s S->FV Z S.heap->Ho J B N N2 Z S.heap ((x,d)::ρ) Bt->Q () S):Ap (Aq Aj w) A (aO Z (B x) v) Q E s:=by
 obtain⟨a,st,R,r⟩:=i;refine Et (Yc P sl st r λS u g l C=>?_)
 have m:FU N N s.heap S.heap:=u.fits λb q=>q▸f _ (k _ R)
 have L:FU N2 N2 s.heap S.heap:=u.fits λb q=>q▸k _ R
 have h:=p.mono m;refine q S (u.mono λb q=>q▸R) g ⟨rel.one.store j m l h C,rel.two.store j L l (h.mono λa o n e c=>⟨λq=>n (f a q),e⟩) C,g⟩
theorem SX{x:Nat}{xs:List Nat}{O:List D}{ρ A6:List (Nat×D)}(h:FW (x::xs) O ρ=V A6):∃d r,O=d::r/\FW xs r ((x,d)::ρ)=V A6:=by
 induction O with
 |nil=>exact nS h
 |cons d r=>exact⟨d,r,rfl,h⟩
theorem SY{O:List D}{ρ A6:List (Nat×D)}(h:FW [] O ρ=V A6):O=[]/\ρ=A6:=by
 induction O with
 |nil=>exact⟨rfl,sI h⟩
 |cons _ _=>exact nS h
theorem VE{M:IX}{A:A1}{E:Ag->Ah->Prop}{Q:Unit->Ah->Prop}{s:Ah}{t:Ag->JZ Unit}{ts:List (Ag->JZ Unit)}{x:Ag}{xs:List Ag}(h:Ap M A (R8 xs (t x)) (λz S=>Ap M A (Do ts xs) Q E S) E s):Ap M A (Do (t::ts) (x::xs)) Q E s:=Ai h
theorem nW(ok:IB Z sc)(h:Ps B)(g:∀a,W a->N2 a)(b:∀a,N2 a->N a)(es:List Expr):∀(xs:List Nat) (I:List Ag) (O:List D) (ρ A6:List (Nat×D)) (s:Ah) (Q:Unit->Ah->Prop),
  GR (λe x=>K8 e λid=>Ri B sc id x) es xs=Y->(∀x∈xs,Rl Z W T (B x))->
  FW xs O ρ=V A6->BV J N s.heap I O->FV Z s.heap->Ho J B N N2 Z s.heap ρ Bt->
  (∀S,Co T W s S->FV Z S.heap->Ho J B N N2 Z S.heap A6 Bt->Q () S)->Ap (Aq Aj w) A (Do ((EZ es Z).map (·.2)) I) Q E s:=by
 induction es with
 |nil=>
  intro xs I O ρ A6 s Q R _ F p sl rel q;rw[SU R]at F;obtain⟨U,G⟩:=SY F;rw[U]at p
  apply AO (show I=[]from p.inv)
  exact Ar (q s .refl sl (G▸rel))
 |cons e es ih=>
  intro xs I O ρ A6 s Q R c F p sl rel q;obtain⟨x,xs,rfl,U,G⟩:=Qi R;obtain⟨d,O,rfl,F⟩:=SX F;obtain⟨v,I,rfl,i,f⟩:=p.inv;obtain⟨id,pos,rfl,U⟩:=MI U
  apply AO ((fG ok U).1)
  show Ap _ A (Do (Jd (.Name (B x) pos) Z::(EZ es Z).map (·.2)) (_::_)) Q E s;refine VE (AZ (Ai (AU (fH ok.kind h sl (c x (.head _)) rel g b i λS u o X=>?_))))
  exact ih xs _ O _ A6 S Q G (λy j=>c y (.tail _ j)) F (f.mono (u.fits λa k=>b _ (g _ k))) o X λDK l=>q DK (u.trans l)
theorem fI{B:Nat->Av}{sc:List (Av×AC)}(es:List Expr):∀(xs:List Nat),GR (λe x=>K8 e λid=>Ri B sc id x) es xs=Y->
  (EZ es Z).length=xs.length/\(EZ es Z).findIdx? (·.1)=Ao:=by
 induction es with
 |nil=>exact λxs h=>by apply AO (SU h);exact⟨rfl,rfl⟩
 |cons e es ih=>
  intro xs h;obtain⟨x,xs,rfl,U,z⟩:=Qi h;obtain⟨id,pos,rfl,_⟩:=MI U;obtain⟨U,G⟩:=ih xs z;refine⟨congrArg Fw U,?_⟩
  show((Ak,Jd (.Name id pos) Z)::EZ es Z).findIdx? (·.1)=Ao;rw[List.findIdx?_cons,G];rfl
theorem VF{xs:List Nat}:∀{O:List D} {ρ A6:List (Nat×D)},FW xs O ρ=V A6->xs.length=O.length:=by
 induction xs with
 |nil=>exact λh=>by apply AO ((SY h).1);rfl
 |cons x xs ih=>
  intro O ρ A6 h;obtain⟨d,r,e,h⟩:=SX h
  apply AO e;exact congrArg Fw (ih h)
theorem nX{it t:An}{items:Array Ag}(d:t≠it)(n:Nat):∀(i:Nat) (s:Ah) (Q:List Ag->Ah->Prop),s.heap.IsListIter it t i->s.heap.IsList t items->i+n<=items.size->
  (∀h',h'.IsListIter it t (i+n)->C3 it s.heap h'->Q ((items.toList.drop i).take n) {s with heap:=h'})->Ap (Aq Aj w) A (draw (.ref it) n) Q E s:=by
 induction n with
 |zero=>exact λi s Q G z z l=>Ar (l s.heap G (W8 ..))
 |succ n ih=>
  intro i s Q G D a l;have e:i+1+n=i+(n+1):=KO i n;have k:i<items.size:=AE (KW (Em n)) a;refine Ai (wpAny_pyNext_list_item G D (x:=items[i]) (BO k) λX b T=>?_)
  refine Ai (AZ (ih (i+1) _ _ b (D.extBut T.extBut d) (e▸a) λq p c=>Ar ?_))
  have:=l q (e▸p) (T.trans c);rw[Cu (show i<items.toList.length from k),List.take_succ_cons]at this;exact this
theorem nY{t:An}{items:Array Ag}{Q:List Ag->Ah->Prop}(a:A.handled=Ao)(D:s.heap.IsList t items)
  (c:∀h',DI s.heap.objs.size s.heap h'->Q items.toList {s with heap:=h'}):Ap (Aq Aj w) A (zv (.ref t) items.size Ao) Q E s:=by
 have k:t≠s.heap.objs.size:=by obtain⟨o,C,_⟩:=D;exact Bn (AY C)
 unfold zv;refine Ai ?_
 ·unfold notIterableAtAll;refine Ai (FZ D.typeIs slot_list_iter.lookup ?_)
  refine Ar ?_
  dsimp only;refine Ai (AZ (JM D ?_))
  refine Ai (AZ (nX k items.size 0 _ _ ⟨_,Ay _ rfl,rfl,rfl⟩ (D.push _) (Al (E2 _)) λX G T=>?_))
  have l:List.take items.size (List.drop 0 items.toList)=items.toList:=Cp (AI _);rw[l];rw[if_neg (by simp)]
  have h:X.IsList t items:=(D.push _).extBut T.extBut k;refine Ai (AZ (wpAny_pyNext_list_end a G h (by simp) λq W=>?_))
  dsimp only;refine Ar (c q λb o F e=>W b o F (T.extBut b o F (Au _ e)))
theorem fJ{t:An}{items:Array Ag}{b:List (Bool×(Ag->JZ Unit))}{Q:Unit->Ah->Prop}(c:A.handled=Ao)(D:s.heap.IsList t items)
  (M:b.length=items.size)(a:b.findIdx? (·.1)=Ao)
  (h:∀h',DI s.heap.objs.size s.heap h'->Ap (Aq Aj w) A (Do (b.map (·.2)) items.toList) Q E {s with heap:=h'}):
  Ap (Aq Aj w) A (unpack (.ref t) b) Q E s:=by
 unfold unpack;rw[M,a];exact Ai (AZ (nY c D h))
theorem nZ{t:Expr}{xs:List Nat}{CZ:Bool}{d:D}{v:Ag}{A6:List (Nat×D)}{Q:Unit->Ah->Prop}(m:A.handled=Ao)(ok:IB Z sc)(n:Ps B)(sl:FV Z s.heap)(f:∀x∈xs,Rl Z W T (B x))
  (rel:Ho J B N N2 Z s.heap ρ Bt)(r:∀a,W a->N2 a)(h:∀a,N2 a->N a)(i:Rd J N s.heap v d)(c:LF B sc t xs CZ=Y)(F:L0 xs CZ d ρ=V A6)
  (q:∀S,Co T W s S->FV Z S.heap->Ho J B N N2 Z S.heap A6 Bt->Q () S):Ap (Aq Aj w) A (Jd t Z v) Q E s:=by
 induction CZ with
 |true=>
  obtain⟨id,pos,rfl,c⟩:=MI c;obtain⟨x,rfl,c⟩:=Jr c
  apply AO ((fG ok c).1)
  exact Ai (AU (fH ok.kind n sl (f x (.head _)) rel r h i (sI F▸q)))
 |false=>
  obtain⟨es,k,pos,rfl,c⟩:=Qh c;obtain⟨U,G⟩:=fI (Z:=Z) es xs c;have j:∀{I:List Ag} {O:List D} {h':A9},BV J N s.heap I O->FW xs O ρ=V A6->DI s.heap.objs.size s.heap h'->Ap (Aq Aj w) A (Do ((EZ es Z).map (·.2)) I) Q E {s with heap:=h'}:=λ{I O h'} p F L=>by
   have x:BM T s {s with heap:=h'}:=.of_keeps (tk:=s.toks) λb o e=>L b o (Bn (AY e)) e
   exact nW ok n r h es xs _ O ρ A6 _ Q c f F (p.mono x.fits) (sl.ext x) ⟨rel.one.ext x,rel.two.ext x,rel.sl.ext x⟩ λS u l X=>q S (x.upd.trans u) l X
  have i:=i.inv
  induction d using Yf with
  |tup O=>
   obtain⟨_,I,_,rfl,M,g,p⟩:=i;exact Ai (AU (QV m ⟨_,g,rfl,_,rfl⟩ (by rw[U,VF F,AD];apply AO p.length;rfl) G λh' L=>j p F L))
  |lst O=>
   obtain⟨_,I,_,rfl,M,g,p⟩:=i;exact Ai (AU (fJ m ⟨_,g,rfl,_,rfl⟩ (by rw[U,VF F,AD];apply AO p.length;rfl) G λh' L=>j p F L))
  |_=>exact nS F
structure It(Aj:Bh)(w:Ca)(A:A1)(T:An->Prop)(J:Sg)(N:An->Prop)(tgt:Expr)(it:Ag)(BD:An->Prop)(O:List D)(St:Nat->A9->Prop):Prop where
 mine:∀a,BD a->N a
 frame:∀i (s S:Ah) (W:An->Prop),St i s.heap->Co T W s S->(∀a,W a->N a/\¬BD a)->St i S.heap
 next:∀i (s:Ah) (E:Ag->Ah->Prop),St i s.heap->i<=O.length->Ap (Aq Aj w) A (H9 it) (λr AK=>match r with
  |none=>i=O.length/\Fe T BD s AK
  |some v=>Ap (Aq Aj w) A (Dd tgt it v) (λz By=>∃d,O[i]?=V d/\Co T BD s By/\St (i+1) By.heap/\Rd J N By.heap v d) E AK) E s
 self:∀i (s:Ah) (Q:Ag->Ah->Prop) (E:Ag->Ah->Prop),St i s.heap->Q it s->Ap (Aq Aj w) A (Lg it) Q E s
theorem It.of_walks{tgt:Expr}{Af:An}{fp wr:List An}{n:Nat}{P:Nat->Ag->Prop}{St:Nat->A9->Prop}{O:List D}{X:A9->Prop}(L:Walks Aj w A Af fp wr n P St)
  (j:∀b∈wr,b=Af)(Bd:∀b∈fp,b=Af\/¬N b)(hI:N Af)(hT:¬T Af)(hn:O.length=n)(hX:∀h h',FU N N h h'->X h->X h')(M:∀i h,St i h->Da h Af/\IA h Af)
  (hP:∀i v h,i<n->P i v->X h->∃d,O[i]?=V d/\Rd J N h v d)
  (Bs:∀i (s:Ah) v (Q:Unit->Ah->Prop) E,St i s.heap->Q () s->Ap (Aq Aj w) A (Dd tgt (.ref Af) v) Q E s):
  It Aj w A T J N tgt (.ref Af) (·=Af) O (λi h=>St i h/\X h/\(∀b∈fp,Da h b)) where
 mine:=λa e=>e▸hI
 frame:=by
  rintro i s S W ⟨U,h2,h3⟩ u hW
  refine⟨L.frame i _ _ U λb F o e=>?_,hX _ _ (u.fits λa wa=>(hW a wa).1) h2,λb F=>u.occ b (h3 b F)⟩
  obtain⟨o',e',t⟩:=h3 b F;rw[e]at e';cases e';refine u.keep2 b o (λwb=>?_) e t
  rcases Bd b F with rfl|hnb
  ·exact(hW _ wb).2 rfl
  ·exact hnb (hW b wb).1
 next:=by
  rintro i s E ⟨U,h2,h3⟩ hi
  by_cases r:i<n
  ·refine L.item i s _ _ r U λv h' tk Ce y p=>?_
   have ho:=(M _ _ y).1;have Cf:=(M _ _ U).2;have u:Co T (·=Af) s {s with heap:=h',toks:=tk}:=by
    refine⟨λb o z F e=>p b o (λm=>F (j b m)) e,λb o F e z=>p b o (λm=>F (j b m)) e,λb ⟨o,e,t⟩=>?_,λb tb t=>t.keep (λc o co e=>p c o (λm=>(j c m▸Cf).absurd co e) e) (λo e=>p b _ (λm=>hT (j b m▸tb)) e),λz e=>e,rfl⟩
    by_cases q:b=Af
    ·apply AO q;exact ho
    ·exact⟨o,p b o (λm=>q (j b m)) e,t⟩
   have C:=hX _ _ (u.fits λa e=>e▸hI) h2
   obtain⟨d,hd,hr⟩:=hP i v h' r Ce C;refine Bs (i+1) _ v _ _ y ?_
   exact⟨d,hd,u,⟨y,C,λb F=>u.occ b (h3 b F)⟩,hr⟩
  ·obtain rfl:i=n:=AP (hn▸hi) (BI r);exact L.done s _ _ U λh' tk p=>⟨hn.symm,λb o z F e=>p b o (λm=>F (j b m)) e,λb o F e z=>p b o (λm=>F (j b m)) e,
    λb tb t=>t.keep (λc o co e=>p c o (λm=>(j c m▸(M _ _ U).2).absurd co e) e) (λo e=>p b _ (λm=>hT (j b m▸tb)) e),λz e=>e,rfl⟩
 self:=λi s Q E st q=>L.self i s Q E st.1 q
noncomputable def VG:List String:=["enumerate","zip","dict_itemiterator","dict_reverseitemiterator","odict_iterator","itertools.zip_longest","itertools.pairwise"]
set_option tactic.hygienic true in
theorem Rm{tgt:Expr}{Af:An}{o:Fo}{n:String}{v:Ag}{Q:Unit->Ah->Prop}(C:s.heap.get? Af=V o)(b:o.cls= .type n)(M:VG.contains n=Ak)(q:Q () s):
  Ap (Aq Aj w) A (Dd tgt (.ref Af) v) Q E s:=by
 have main:∀a,Ap (Aq Aj w) A (do
   let o <-load Af
   match o.cls,o.data with
   | .type n,.fields I=>
    if VG.contains n&&I[0]?==V (BX a)then
     rule "for.unpacks-the-owned-tuple"
     updateField Af 0 .none
   |_,_=>BU ()) Q E s:=by
  intro a;refine Ai (wpAny_load C ?_)
  rw[b];cases o.data with
  |fields I=>
   show Ap _ _ (if(VG.contains n&&_)=Y then _ else _) _ _ _
   rw[M,Bool.false_and,if_neg AR];exact Ar q
  |_=>exact Ar q
 unfold Dd
 induction tgt using Ya with
 |Tuple _ _ _=>induction v with
  |ref a=>exact main a
  |_=>exact Ar q
 |List _ _=>induction v with
  |ref a=>exact main a
  |_=>exact Ar q
 |_=>exact Ar q
def OK(Aj:Bh)(w:Ca)(T:An->Prop)(J:Sg)(N:An->Prop)(x:Ag)(O:List D)(AK:Ah):Prop:=
 ∀(A:A1) (E:Ag->Ah->Prop) (Q:Ag->Ah->Prop),A.handled=Ao->
  (∀it By Af,BM T AK By->AK.heap.get? Af=Ao->Da By.heap Af->
   (∀(q:A1) (tgt:Expr) (N':An->Prop),q.handled=Ao->(∀a,N a->N' a)->N' Af->FU N N' AK.heap By.heap->∃St,It Aj w q T J N' tgt it (·=Af) O St/\St 0 By.heap)->Q it By)->
  Ap (Aq Aj w) A (Lg x) Q E AK
theorem HX{h:A9}{a:An}(g:h.objs.size<=a):h.get? a=Ao:=by
 cases e:h.get? a with
 |none=>rfl
 |some o=>exact absurd (AY e) (Nat.not_lt.mpr g)
theorem n0{a:An}{I:List Ag}{n:Nat}{O:List D}(H:∀a,T a->a<s.heap.objs.size)(M:¬N a)(g:s.heap.get? a=V (Gf I.toArray n))(p:BV J N s.heap I O):
  OK Aj w T J N (.ref a) O s:=by
 intro A E Q c q;refine JM (items:=I.toArray) ⟨_,g,rfl,n,rfl⟩ ?_
 have u:a≠s.heap.objs.size:=Bn (AY g);have j:(s.heap.push {cls:=.type "list_iterator",data:=.fields #[.ref a,.int 0 0]}).get? s.heap.objs.size=V {cls:=.type "list_iterator",data:=.fields #[.ref a,.int 0 0]}:=Ay _ rfl;have c:(s.heap.push {cls:=.type "list_iterator",data:=.fields #[.ref a,.int 0 0]}).get? a=V (Gf I.toArray n):=Au _ g;refine q (.ref s.heap.objs.size) {s with heap:=s.heap.push {cls:=.type "list_iterator",data:=.fields #[.ref a,.int 0 0]}} s.heap.objs.size (.push (tk:=s.toks)) (HX (AI _)) ⟨_,j,rfl⟩ ?_
 intro L tgt N' l x m t;have W:=UP (prog:=Aj) (w:=w) l s.heap.objs.size a u I.toArray;refine⟨_,It.of_walks (X:=λh=>BV J N' h I O) (tgt:=tgt) W (λb F=>by simpa using F) (λb F=>?_) m (λy=>AN _ (H _ y)) ?_ (λh h' f=>BV.mono f) ?_ ?_ ?_,?_⟩
 ·rcases jC F with rfl|F
  ·exact .inl rfl
  ·cases List.mem_singleton.mp F;exact .inr (t _ _ M g rfl).1
 ·apply Dz AD p.length;rfl
 ·rintro i h ⟨⟨o,e,r,hd⟩,_⟩
  exact⟨⟨o,e,Iq ⟨_,r⟩⟩,.of e (Nb (by rw[hd];rfl))⟩
 ·intro i v h P hp z;obtain⟨d,U,G⟩:=z.getV (v:=v) (i:=i) (by simpa using hp)
  exact⟨d,U,G⟩
 ·rintro i S v R k ⟨⟨o,e,r,hd⟩,_⟩ C
  exact Rm e r (by decide) C
 ·refine⟨⟨⟨_,j,rfl,rfl⟩,⟨_,c,rfl,n,rfl⟩⟩,p.mono t,λb F=>?_⟩
  rcases jC F with rfl|F
  ·exact⟨_,j,rfl⟩
  ·cases List.mem_singleton.mp F;exact⟨_,c,rfl⟩
theorem n9{a:An}{I:List Ag}{n:Nat}{O:List D}(H:∀a,T a->a<s.heap.objs.size)(M:¬N a)(g:s.heap.get? a=V (HA I.toArray n))(p:BV J N s.heap I O):
  OK Aj w T J N (.ref a) O s:=by
 intro A E Q c q;refine QU (items:=I.toArray) ⟨_,g,rfl,n,rfl⟩ ?_
 have u:a≠s.heap.objs.size:=Bn (AY g);have j:(s.heap.push {cls:=.type "tuple_iterator",data:=.fields #[.ref a,.int 0 0]}).get? s.heap.objs.size=V {cls:=.type "tuple_iterator",data:=.fields #[.ref a,.int 0 0]}:=Ay _ rfl;have c:(s.heap.push {cls:=.type "tuple_iterator",data:=.fields #[.ref a,.int 0 0]}).get? a=V (HA I.toArray n):=Au _ g;refine q (.ref s.heap.objs.size) {s with heap:=s.heap.push {cls:=.type "tuple_iterator",data:=.fields #[.ref a,.int 0 0]}} s.heap.objs.size (.push (tk:=s.toks)) (HX (AI _)) ⟨_,j,rfl⟩ ?_
 intro L tgt N' l x m t;have W:=Sh (prog:=Aj) (w:=w) l s.heap.objs.size a u I.toArray;refine⟨_,It.of_walks (X:=λh=>BV J N' h I O) (tgt:=tgt) W (λb F=>by simpa using F) (λb F=>?_) m (λy=>AN _ (H _ y)) ?_ (λh h' f=>BV.mono f) ?_ ?_ ?_,?_⟩
 ·rcases jC F with rfl|F
  ·exact .inl rfl
  ·cases List.mem_singleton.mp F;exact .inr (t _ _ M g rfl).1
 ·apply Dz AD p.length;rfl
 ·rintro i h ⟨⟨o,e,r,hd⟩,_⟩
  exact⟨⟨o,e,Iq ⟨_,r⟩⟩,.of e (Nb (by rw[hd];rfl))⟩
 ·intro i v h P hp z;obtain⟨d,U,G⟩:=z.getV (v:=v) (i:=i) (by simpa using hp)
  exact⟨d,U,G⟩
 ·rintro i S v R k ⟨⟨o,e,r,hd⟩,_⟩ C
  exact Rm e r (by decide) C
 ·refine⟨⟨⟨_,j,rfl,rfl⟩,⟨_,c,rfl,n,rfl⟩⟩,p.mono t,λb F=>?_⟩
  rcases jC F with rfl|F
  ·exact⟨_,j,rfl⟩
  ·cases List.mem_singleton.mp F;exact⟨_,c,rfl⟩
theorem oa{x:Av}{t:Ez}{n:List Nat}(H:∀a,T a->a<s.heap.objs.size)(L:x.cps.toList=n):OK Aj w T J N (.str x t) (n.map λc=>D.str [c]) s:=by
 intro A E Q l q;have main:∀(B:String) (o:Fo),o.cls= .type B->VG.contains B=Ak->
   (∀(j:A1),j.handled=Ao->Walks Aj w j s.heap.objs.size [s.heap.objs.size] [s.heap.objs.size] x.cps.size (SignAt x) (λi h=>h.IsStrIter s.heap.objs.size B x t i))->
   (s.heap.push o).IsStrIter s.heap.objs.size B x t 0->(s.heap.push o).get? s.heap.objs.size=V o->Q (.ref s.heap.objs.size) {s with heap:=s.heap.push o}:=by
  intro B o f C r y p;refine q (.ref s.heap.objs.size) {s with heap:=s.heap.push o} s.heap.objs.size (.push (tk:=s.toks)) (HX (AI _)) ⟨_,p,Iq ⟨_,f⟩⟩ ?_
  intro j tgt N' d z m P;refine⟨_,It.of_walks (X:=λI=>True) (tgt:=tgt) (r j d) (λb F=>by simpa using F) (λb F=>.inl (by simpa using F)) m (λG=>AN _ (H _ G)) ?_ (λI I I h=>h) ?_ ?_ ?_,?_⟩
  ·apply CE L;simp
  ·rintro i h ⟨o,e,f,hd⟩
   exact⟨⟨o,e,Iq ⟨_,f⟩⟩,.of e (Nb (by rw[hd];rfl))⟩
  ·rintro i v h R ⟨c,u,f,rfl⟩ _
   refine⟨.str [c],?_,.str rfl⟩
   rw[EU,<-L,G3,f]
   rfl
  ·rintro i S v U k ⟨o,e,f,_⟩ M
   exact Rm e f C M
  ·refine⟨y,trivial,λb F=>?_⟩
   cases List.mem_singleton.mp F;exact⟨_,p,Iq ⟨_,f⟩⟩
 cases g:x.cps.all (· <128)
 ·exact wpAny_pyIter_wide g (main _ _ rfl (by decide) (λj l=>Walks.strWide l _ x t) ⟨_,Ay _ rfl,rfl,rfl⟩ (Ay _ rfl))
 ·exact wpAny_pyIter_ascii g (main _ _ rfl (by decide) (λj l=>Walks.strAscii l _ x t) ⟨_,Ay _ rfl,rfl,rfl⟩ (Ay _ rfl))
theorem oe{n:Nat}:∀{lo st:Int} {i:Nat},i<n->(OH lo st n)[i]?=V (LB (lo+i*st)):=by
 induction n with
 |zero=>exact λh=>absurd h (G4 _)
 |succ n ih=>
  intro lo st i h
  induction i with
  |zero=>show V (LB lo)=_;rw[show((0:Nat):Int)=0 from rfl,GW,E0]
  |succ i=>
  rw[show OH lo st (n+1)=LB lo::OH (lo+st) st n from rfl,List.getElem?_cons_succ,ih (Lp h)]
  congr 2
  push_cast
  rw[Jx];exact(A5 (li [_,_,_] [] (.a (.a (.v 0) (.v 1)) (.v 2)) (.a (.v 0) (.a (.v 2) (.m 1 (.v 1)))) [] rfl) (li [_,_,_] [] (.a (.v 0) (.a (.v 2) (.m 1 (.v 1)))) (.a (.a (.v 0) (.v 1)) (.v 2)) [] rfl))
theorem oh{n:Nat}:∀{lo st:Int},(OH lo st n).length=n:=by
 induction n with
 |zero=>exact rfl
 |succ n ih=>exact congrArg Fw ih
theorem oi{r:An}{a b c:Int}{t u v:Ez}{n:Nat}(H:∀a,T a->a<s.heap.objs.size)(j:IsRange s.heap r a b c t u v)(l:Gz a b c=Y)(M:CY a b c=n):
  OK Aj w T J N (.ref r) (OH a c n) s:=by
 intro A E Q x q;refine wpAny_pyIter_range j l ?_
 rw[M];have f:(s.heap.push {cls:=.type "range_iterator",data:=.fields #[BX a,BX n,BX c]}).get? s.heap.objs.size=V {cls:=.type "range_iterator",data:=.fields #[BX a,BX n,BX c]}:=Ay _ rfl;refine q (.ref s.heap.objs.size) {s with heap:=s.heap.push {cls:=.type "range_iterator",data:=.fields #[BX a,BX n,BX c]}} s.heap.objs.size (.push (tk:=s.toks)) (HX (AI _)) ⟨_,f,rfl⟩ ?_
 intro y tgt N' d m g z;have W:=Walks.range (prog:=Aj) (w:=w) d s.heap.objs.size a c n;refine⟨_,It.of_walks (X:=λB=>True) (tgt:=tgt) W (λb F=>by simpa using F) (λb F=>.inl (by simpa using F)) g (λD=>AN _ (H _ D)) oh (λB B B h=>h) ?_ ?_ ?_,?_⟩
 ·intro i h e;exact⟨⟨_,e,rfl⟩,.of e rfl⟩
 ·rintro i v h o ⟨t,rfl⟩ _
  exact⟨_,oe o,.int rfl⟩
 ·intro i S v C k e p;exact Rm e rfl (by decide) p
 ·refine⟨?_,trivial,λb F=>?_⟩
  ·have e1:a+((0:Nat):Int)*c=a:=by simp
   have e2:(n:Int)-((0:Nat):Int)=n:=by simp
   rw[e1,e2];exact f
  ·cases List.mem_singleton.mp F;exact⟨_,f,rfl⟩
noncomputable abbrev fM(C:List Expr)(Z:DS):JZ Bool:=OZ C Y λc r=>if r=Y then do let ok <-isTrue c Z (C1 c Z);BU (Gr ok)else BU (Gr r)
theorem oj{W:Expr}{gens:List A7}{scope:Scope}{pos:B9}{y:Nat}{it acc:Ag}{U iter:Expr}{C:List Expr}{Q:Fin->Ah->Prop}
  (o:gens[y]?=V ⟨U,iter,C,0⟩)
  (M:∀g,gens[y+1]?=V g->g.is_async=0/\∀x,B1 g.iter Z x=BU x)
  (h:Ap (Aq Aj w) A (H9 it) (λr AK=>match r with
   |none=>Q (.done .next) AK
   |some v=>Ap (Aq Aj w) A (Dd U it v) (λz By=>Ap (Aq Aj w) A (Jd U Z v) (λz B4=>Ap (Aq Aj w) A (fM C Z) (λok a=>
     if ok=Y then
      (match gens[y+1]? with
      |none=>Ap (Aq Aj w) A (C1 W Z) (λx j=>Ap (Aq Aj w) A (DP (.builtin "list.append") [acc,x]) (λz l=>Q (.again (.compLoop (.ListComp W gens scope pos) y it acc Z)) l) E j) E a
      |some g=>Ap (Aq Aj w) A (C1 g.iter Z) (λx j=>Ap (Aq Aj w) A (Lg x) (λP l=>
        Ap (Aq Aj w) A (runOwn (.compStart (.ListComp W gens scope pos) (y+1) P acc Z) Z) (λz i=>Q (.again (.compLoop (.ListComp W gens scope pos) y it acc Z)) i) E l) E j) E a)
     else Q (.again (.compLoop (.ListComp W gens scope pos) y it acc Z)) a) E B4) E By) E AK) E s):
  Ap (Aq Aj w) A (aP (.ListComp W gens scope pos) y it acc Z) Q E s:=by
 unfold aP;dsimp only;rw[o];dsimp only;refine Ai (AU (Ai ?_))
 refine AM h (λr AK X=>?_) λz z e=>e
 induction r with
 |none=>exact Ar X
 |some v=>
  refine Ai (AM X (λz By q=>?_) λz z e=>e)
  refine Ai (AM q (λz B4 c=>?_) λz z e=>e)
  refine Ai (AM c (λok a b=>?_) λz z e=>e)
  induction ok with
  |false=>exact Ar b
  |true=>
   cases f:gens[y+1]? with
   |none=>
    rw[f]at b;refine Ai (Ai (AM b (λx j F=>?_) λz z e=>e))
    exact Ai (AM F (λz l p=>Ar (Ar p)) λz z e=>e)
   |some g=>
    rw[f]at b;obtain⟨k,t⟩:=M g f;refine Ai (AM b (λx j F=>?_) λz z e=>e)
    refine Ai (AU ?_)
    have d:(g.is_async != 0)=Ak:=by rw[k];rfl
    rw[d,if_neg AR];refine Ai (Fc (t x) ?_)
    rw[if_neg AR];refine Ai (AZ (AM F (λP l p=>?_) λz z e=>e))
    exact Ai (AM p (λz i R=>Ar R) λz z e=>e)
theorem fN{W:Expr}{gens:List A7}{scope:Scope}{pos:B9}{g:A7}{y:Nat}{it acc:Ag}{R:QL->Ah->Prop}(o:gens[y]?=V g)(a:g.is_async=0)
  (b:FL (Aq Aj w) A (.compLoop (.ListComp W gens scope pos) y it acc Z) R s)
  (h:Ap (Aq Aj w) A (Lg it) (λP S=>FL (Aq Aj w) A (.compLoop (.ListComp W gens scope pos) y P acc Z) R S)
   (notedBy (Aq Aj w) A Z λx S=>R (.error x) S) s):
  FL (Aq Aj w) A (.compStart (.ListComp W gens scope pos) y it acc Z) R s:=by
 refine codeAny_of_tree ?_
 show Ap _ _ ((compStart (.ListComp W gens scope pos) y it acc Z).onRaise (λx=>do Kb x Z;JI theWindowsPlace)) _ _ s
 rw[show A.under (lD.compStart (.ListComp W gens scope pos) y it acc Z)=A from A1.under_of_weight rfl];refine wpAny_notedAt ?_
 unfold compStart;have f:(clausesOf (.ListComp W gens scope pos))[y]?=V g:=o;rw[f];have e:¬((g.is_async != 0)=Y):=by rw[a];decide
 show Ap _ _ (if(g.is_async != 0)=Y then _ else _) _ _ s
 rw[if_neg e];refine Ai (wpAny_askSetting (wpAny_ite ?_))
 split
 ·exact Ar (HB rfl b)
 ·exact Ai (Hq (Ai (AU (Ai (AM h (λP S h'=>Ar (HB rfl h')) λz z x=>x)))))
noncomputable def HK(Z:DS):List (Av×AC)->List (Av×An)->List (Av×An)
 |[],acc=>acc
 |p::r,acc=>bI (p.2==.free) (oE (Z.cells.lookup p.1) acc λc=>HK Z r ((p.1,c)::acc)) (HK Z r acc)
theorem Rn{Z:DS}{n:Av}{k:AC}{r:List (Av×AC)}{acc:List (Av×An)}:HK Z ((n,k)::r) acc=bI (k==.free) (oE (Z.cells.lookup n) acc λc=>HK Z r ((n,c)::acc)) (HK Z r acc):=rfl
section
variable {M:IX} {A:A1} {E:Ag->Ah->Prop} {s:Ah} {Z:DS} {sc:List (Av×AC)}
theorem on(f:Av×AC->List (Av×An)->JZ (ForInStep (List (Av×An))))(t:∀n k acc,f (n,k) acc=if k==.free then(do let c <-cellOf Z n;BU (.yield ((n,c)::acc)))else BU (.yield acc)):
  ∀(names:List (Av×AC)) (acc:List (Av×An)),(∀n k,(n,k)∈names->k= .free->∃c,Z.cells.lookup n=V c)->OZ names acc f=BU (HK Z names acc):=by
 intro names
 induction names with
 |nil=>exact λacc z=>rfl
 |cons p r ih=>
  obtain⟨n,k⟩:=p;intro acc h;rw[FA,t];rw[Rn];cases P:k==.free with
  |false=>
   rw[if_neg AR];show(BU _ >>= _)=_;rw[MX];exact ih acc λR u hm=>h R u (.tail _ hm)
  |true=>
   obtain⟨c,E⟩:=h n k (.head _) (AA P);rw[if_pos rfl,E];have:cellOf Z n=BU c:=by unfold cellOf;rw[E]
   rw[this,MX];show(BU _ >>= _)=_;rw[MX];exact ih _ λR u hm=>h R u (.tail _ hm)
theorem fO{scope:Scope}(h:∀n k,(n,k)∈scope.names->k= .free->∃c,Z.cells.lookup n=V c):Lj scope Z=BU (HK Z scope.names []):=by
 unfold Lj;show(OZ scope.names [] _ >>= _)=_;rw[on (Z:=Z) _ (λn k acc=>by cases P:k==FY<;>simp[P]) scope.names [] h]
 rfl
set_option tactic.hygienic true in
theorem fQ:∀(names:List (Av×AC)) (acc:List (Av×An)) (n:Av) (c:An),(n,c)∈HK Z names acc->(n,c)∈acc\/(∃k,(n,k)∈names/\k= .free)/\Z.cells.lookup n=V c:=by
 intro names
 induction names with
 |nil=>exact λacc n c h=>.inl h
 |cons p r ih=>
  obtain⟨m,k⟩:=p;intro acc n c h;rw[Rn]at h;cases P:k==.free with
  |false=>
   rw[P]at h;rcases ih acc n c h with h|⟨⟨u,U,G⟩,z⟩
   ·exact .inl h
   ·exact .inr ⟨⟨u,.tail _ U,G⟩,z⟩
  |true=>
   rw[P]at h;cases j:Z.cells.lookup m with
   |none=>rw[j]at h;exact .inl h
   |some T=>
    rw[j]at h;rcases ih _ n c h with h|⟨⟨u,U,G⟩,z⟩
    ·rcases jC h with e|h
     ·cases e;exact .inr ⟨⟨k,.head _,AA P⟩,j⟩
     ·exact .inl h
    ·exact .inr ⟨⟨u,.tail _ U,G⟩,z⟩
theorem oq{scope:Scope}{globals:An}{N:List (Av×An)}{qual:Av}{Q:DS->Ah->Prop}
  (l:Q {scope,locals:=s.heap.objs.size,globals,cells:=B5 (s.heap.objs.size+1) scope.names N,qual,func:=Ao,code:=Z.code,frame:=Z.frame,builtins:=Z.builtins}
   {s with heap:=D7 (s.heap.push {cls:=.type "dict",data:=.dict #[]}) scope.names}):
  Ap M A (dq scope globals N [] qual Ao .none (V Z)) Q E s:=by
 simp only[dq,Option.isSome_some,if_true];refine Ai (zw ?_)
 refine Ai (wpAny_layCells _ (λname kind cells=>by cases a:kind==Ej<;>rfl) _ _ _ _ ?_)
 rw[show({s with heap:=s.heap.push {cls:=.type "dict",data:=.dict #[]}}:Ah).heap.objs.size=s.heap.objs.size+1 from B6 ..]
 rw[List.forIn_nil];exact Ai (Ar (Ar l))
theorem ot:∀(names:List (Av×AC)) (k:Nat) (acc:List (Av×An)) (n:Av) (c:An),(n,c)∈B5 k names acc->(n,c)∈acc\/((n,Ej)∈names/\k<=c):=by
 intro names
 induction names with
 |nil=>exact λk acc n c h=>.inl h
 |cons p r ih=>
  obtain⟨m,kind⟩:=p;intro k acc n c h;unfold B5 at h;split at h
  ·rename_i P;rcases ih _ _ n c h with h|⟨U,G⟩
   ·rcases jC h with e|h
    ·cases e
     apply AO (AA P)
     exact .inr ⟨.head _,AI _⟩
    ·exact .inl h
   ·exact .inr ⟨.tail _ U,Bo G⟩
  ·rcases ih k acc n c h with h|⟨U,G⟩
   ·exact .inl h
   ·exact .inr ⟨.tail _ U,G⟩
end
theorem Yd{sc:List (Av×AC)}{n:Av}:∀{ns:List (Av×AC)},(KP sc ns).lookup n=(ns.lookup n).map λk=>if k==.free&&sc.lookup n==V .cell then .cell else k:=by
 intro ns
 induction ns with
 |nil=>exact rfl
 |cons p r ih=>
  obtain⟨m,k⟩:=p;have t:KP sc ((m,k)::r)=(if k==.free&&sc.lookup m==V .cell then(m,.cell)else(m,k))::KP sc r:=rfl
  rw[t,Cc];by_cases E:(k==.free&&sc.lookup m==V .cell)=Y
  ·rw[if_pos E,Cc];cases M:n==m with
   |true=>
    cases AA M;show V Ej=V (if(k==.free&&sc.lookup n==V .cell)=Y then .cell else k)
    rw[if_pos E]
   |false=>exact ih
  ·rw[if_neg E,Cc];cases M:n==m with
   |true=>
    cases AA M;show V k=V (if(k==.free&&sc.lookup n==V .cell)=Y then .cell else k)
    rw[if_neg E]
   |false=>exact ih
theorem SZ{sc:List (Av×AC)}:∀{ns:List (Av×AC)},Pr sc ns=Y->
  (∀n k,(n,k)∈ns->(k= .free->sc.lookup n=V .cell\/sc.lookup n=V .free)/\n≠("__classdict__":Av)/\ns.lookup n=V k)/\ns.Pairwise (λp q=>p.1≠q.1):=by
 intro ns
 induction ns with
 |nil=>exact λz=>⟨λz z h=>(nomatch h),.nil⟩
 |cons p r ih=>
  obtain⟨m,k⟩:=p;intro h;have h:=AH h;have U:=AH h.1;have G:=AH U.1;obtain⟨f,l⟩:=ih h.2;have d:∀p∈r,m≠p.1:=by
   intro p hp e;have:=G.2;simp only[A4,List.any_eq_false]at this;exact this p hp (by apply AO e;exact beq_self_eq_true _)
  refine⟨λn u hm=>?_,List.pairwise_cons.mpr ⟨d,l⟩⟩
  rcases jC hm with e|hm
  ·cases e;refine⟨λP=>?_,bne_iff_ne.mp U.2,by rw[Cc,beq_self_eq_true]⟩
   subst P;rcases(AT _ _).mp G.1 with q|q
   ·rcases(AT _ _).mp q with q|q
    ·cases q
    ·exact .inl (AA q)
   ·exact .inr (AA q)
  ·obtain⟨a,b,c⟩:=f n u hm;refine⟨a,b,?_⟩
   rw[Cc];have:(n==m)=Ak:=by
    cases q:n==m with
    |false=>rfl
    |true=>exact absurd (AA q).symm (d _ hm)
   rw[this];exact c
theorem fR{n:Av}:∀(names:List (Av×AC)) (k:Nat) (acc:List (Av×An)),(∀v,(n,v)∈names->v≠.cell)->(B5 k names acc).lookup n=acc.lookup n:=by
 intro names
 induction names with
 |nil=>exact λz z z=>rfl
 |cons p r ih=>
  obtain⟨m,kind⟩:=p;intro k acc h;unfold B5;split
  ·rename_i P;rw[ih _ _ λv hm=>h v (.tail _ hm),Cc]
   have:(n==m)=Ak:=by
    cases q:n==m with
    |false=>rfl
    |true=>exact absurd (AA P) (h kind (by apply AO (AA q);exact .head _))
   rw[this]
  ·exact ih _ _ λv hm=>h v (.tail _ hm)
theorem Ye{n:Av}:∀(names:List (Av×AC)) (k:Nat) (acc:List (Av×An)),names.Pairwise (λp q=>p.1≠q.1)->(n,Ej)∈names->∃c:Nat,(B5 k names acc).lookup n=V c/\k<=c/\c<k+names.length:=by
 intro names
 induction names with
 |nil=>exact λx x x h=>(Fh h).elim
 |cons p r ih=>
  obtain⟨m,kind⟩:=p;intro k acc hp hm;obtain⟨U,G⟩:=List.pairwise_cons.mp hp;unfold B5;rcases jC hm with e|hm
  ·cases e;rw[if_pos (show(Ej==Ej)=Y from rfl),fR r _ _ λv hm=>(U (n,v) hm rfl).elim,Cc,beq_self_eq_true]
   exact⟨k,rfl,AI _,by rw[Cb];exact(En (.a (.v 0) (.k 1)) (.a (.v 0) (.a (.v 1) (.k 1))) [] rfl)⟩
  ·split
   ·obtain⟨c,z,l,D⟩:=ih (k+1) ((m,k)::acc) G hm;exact⟨c,z,(En (.v 0) (.v 1) [(1,.a (.v 0) (.k 1),.v 1)] rfl l),by rw[Cb];exact(EV (.a (.v 0) (.k 1)) (.a (.v 1) (.a (.v 2) (.k 1))) [(1,.a (.v 0) (.k 1),.a (.a (.v 1) (.k 1)) (.v 2))] rfl D)⟩
   ·obtain⟨c,z,l,D⟩:=ih k acc G hm;exact⟨c,z,l,by rw[Cb];exact(EV (.a (.v 0) (.k 1)) (.a (.v 1) (.a (.v 2) (.k 1))) [(1,.a (.v 0) (.k 1),.a (.v 1) (.v 2))] rfl D)⟩
theorem oy{Z:DS}{n:Av}:∀(names:List (Av×AC)) (acc:List (Av×An)),(∀v,(n,v)∈names->v≠.free)->(∀m k,(m,k)∈names->k= .free->∃c,Z.cells.lookup m=V c)->
  (HK Z names acc).lookup n=acc.lookup n:=by
 intro names
 induction names with
 |nil=>exact λz z z=>rfl
 |cons p r ih=>
  obtain⟨m,kind⟩:=p;intro acc h t;rw[Rn];cases P:kind==.free with
  |true=>
   obtain⟨c,E⟩:=t m kind (.head _) (AA P);rw[E];show(HK Z r ((m,c)::acc)).lookup n=_;rw[ih _ (λv hm=>h v (.tail _ hm)) λF u hm=>t F u (.tail _ hm),Cc]
   have:(n==m)=Ak:=by
    cases q:n==m with
    |false=>rfl
    |true=>exact absurd (AA P) (h kind (by apply AO (AA q);exact .head _))
   rw[this]
  |false=>exact ih _ (λv hm=>h v (.tail _ hm)) λF u hm=>t F u (.tail _ hm)
theorem oz{Z:DS}{n:Av}{c:An}:∀(names:List (Av×AC)) (acc:List (Av×An)),names.Pairwise (λp q=>p.1≠q.1)->(n,FY)∈names->Z.cells.lookup n=V c->
  (∀m k,(m,k)∈names->k= .free->∃c,Z.cells.lookup m=V c)->(HK Z names acc).lookup n=V c:=by
 intro names
 induction names with
 |nil=>exact λz z h=>(Fh h).elim
 |cons p r ih=>
  obtain⟨m,kind⟩:=p;intro acc hp hm E t;obtain⟨U,G⟩:=List.pairwise_cons.mp hp;have a:∀m k,(m,k)∈r->k= .free->∃c,Z.cells.lookup m=V c:=λF u hm=>t F u (.tail _ hm)
  rw[Rn];rcases jC hm with e|hm
  ·cases e;rw[E];show(HK Z r ((n,c)::acc)).lookup n=_;rw[oy r _ (λv hm=>(U (n,v) hm rfl).elim) a,Cc,beq_self_eq_true]
  ·cases P:kind==.free with
   |true=>
    obtain⟨T,j⟩:=t m kind (.head _) (AA P);rw[j];exact ih _ G hm E a
   |false=>exact ih _ G hm E a
theorem oA{Z:DS}(g:Z.cells.Pairwise λx y=>x.2≠y.2):∀(names:List (Av×AC)) (acc:List (Av×An)),names.Pairwise (λp q=>p.1≠q.1)->(acc.Pairwise λx y=>x.2≠y.2)->
  (∀n c,(n,c)∈acc->Z.cells.lookup n=V c/\∀k,(n,k)∉names)->(HK Z names acc).Pairwise λx y=>x.2≠y.2:=by
 intro names
 induction names with
 |nil=>exact λz z h z=>h
 |cons p r ih=>
  obtain⟨m,kind⟩:=p;intro acc hp h w;obtain⟨U,G⟩:=List.pairwise_cons.mp hp;have X:∀n c,(n,c)∈acc->Z.cells.lookup n=V c/\∀k,(n,k)∉r:=λn c hm=>⟨(w n c hm).1,λk P=>(w n c hm).2 k (.tail _ P)⟩
  apply AO Rn
  cases kind==.free with
  |true=>
   cases E:Z.cells.lookup m with
   |none=>exact h
   |some c=>
    refine ih _ G (List.pairwise_cons.mpr ⟨λp j e=>?_,h⟩) λn T hm=>?_
    ·obtain⟨b,a⟩:=w p.1 p.2 j;have:=zk g (mem_of_lookup E) (e▸mem_of_lookup b);exact a kind (this▸.head _)
    ·rcases jC hm with e|hm
     ·cases e;exact⟨E,λk P=>U _ P rfl⟩
     ·exact X n T hm
  |false=>exact ih _ G h X
theorem oB{h'0:A9}:∀(names:List (Av×AC)) (h:A9) (acc:List (Av×An)),(∀b o,h'0.get? b=V o->h.get? b=V o)->(∀n c,(n,c)∈acc->∃v,h.IsCell c v)->(acc.Pairwise λx y=>x.2≠y.2)->
  (∀n c,(n,c)∈B5 h.objs.size names acc->∃v,(D7 h names).IsCell c v)/\(B5 h.objs.size names acc).Pairwise (λx y=>x.2≠y.2):=by
 intro names
 induction names with
 |nil=>exact λh acc z U G=>⟨U,G⟩
 |cons p r ih=>
  obtain⟨m,kind⟩:=p;intro h acc a U G;unfold B5 D7;split
  ·have:=ih (h.push {cls:=.type "cell",data:=.cell Ao}) ((m,h.objs.size)::acc) (λb o e=>Au _ (a b o e)) (λn c hm=>by
    rcases jC hm with e|hm
    ·cases e;exact⟨Ao,_,Ay _ rfl,rfl⟩
    ·obtain⟨v,w⟩:=U n c hm;exact⟨v,w.keeps λb o e=>Au _ e⟩) (List.pairwise_cons.mpr ⟨λp hp e=>by
     obtain⟨v,w⟩:=U p.1 p.2 hp;have:=w.lt;have d:h.objs.size=p.2:=e;exact AN _ (d▸this),G⟩)
   rwa [B6]at this
  ·exact ih h acc a U G
theorem oC:∀(names:List (Av×AC)) (h:A9) (a:Nat),h.objs.size<=a->a<(D7 h names).objs.size->Da (D7 h names) a:=by
 intro names
 induction names with
 |nil=>exact λh a U G=>absurd G (Nat.not_lt.mpr U)
 |cons p r ih=>
  obtain⟨m,kind⟩:=p;intro h a U G;unfold D7 at G ⊢;split
  ·rename_i P;rw[if_pos P]at G;by_cases e:a=h.objs.size
   ·subst e;exact⟨_,F8 _ _ _ _ (Ay _ rfl),rfl⟩
   ·exact ih _ a (by rw[B6];exact(C2 U (IY e))) G
  ·rename_i P;rw[if_neg P]at G;exact ih _ a U G
noncomputable def Qm(scope:Scope)(N:List (Av×An))(C:Nat)(Z:DS):DS:=
 {scope:=lF scope Z,locals:=C,globals:=Z.globals,cells:=B5 (C+1) scope.names N,qual:=Z.qual,func:=Ao,code:=Z.code,frame:=Z.frame,builtins:=Z.builtins}
theorem fT{x:Nat}{ts:List Nat}:NT x ts=Y↔x∈ts:=by
 induction ts with
 |nil=>exact⟨λh=>bF h,λh=>nomatch h⟩
 |cons y r ih=>
  rw[Fk];cases q:As x y with
  |true=>exact⟨λz=>.inl (AB q),λz=>M7 q⟩
  |false=>exact(Eq.to_iff (congrArg (·=Y) (OC q))).trans (ih.trans ⟨.inr,λh=>h.elim (λe=>absurd e (G2 q)) id⟩)
theorem S0{x:Nat}{d:D}{ts:List Nat}{ρ:List (Nat×D)}:lk x (Dn ts ρ)=V d->x∉ts/\lk x ρ=V d:=by
 induction ρ with
 |nil=>exact λh=>nS h
 |cons p r ih=>
  intro h;have h:lk x (bI (NT p.1 ts) (Dn ts r) (p::Dn ts r))=V d:=h;show _/\lk x ((p.1,p.2)::r)=V d;rw[H6];cases hm:NT p.1 ts with
  |true=>
   rw[hm]at h;obtain⟨U,G⟩:=ih h;rw[if_neg λq:x=p.1=>U (q▸fT.mp hm)]
   exact⟨U,G⟩
  |false=>
   rw[hm]at h;have h:lk x ((p.1,p.2)::Dn ts r)=V d:=h;rw[H6]at h;by_cases q:x=p.1
   ·rw[if_pos q]at h ⊢;exact⟨λL=>bT ((fT.mpr (q▸L)).symm.trans hm),h⟩
   ·rw[if_neg q]at h ⊢;exact ih h
theorem oF{x:Nat}{ts:List Nat}{ρ:List (Nat×D)}(h:x∈ts):lk x (Dn ts ρ)=Ao:=by
 cases e:lk x (Dn ts ρ)with
 |none=>rfl
 |some d=>exact absurd h (S0 e).1
theorem VH{x:Nat}{ρ Bt:List (Nat×D)}:lk x (ρ++Bt)=(lk x ρ).or (lk x Bt):=by
 induction ρ with
 |nil=>rfl
 |cons p r ih=>
  obtain⟨y,d⟩:=p;rw[Os,H6,H6,ih];by_cases q:x=y
  ·rw[if_pos q,if_pos q];rfl
  ·rw[if_neg q,if_neg q]
theorem fU{ts:List Nat}:∀{ρ Bt:List (Nat×D)},Dn ts (ρ++Bt)=Dn ts ρ++Dn ts Bt:=by
 intro ρ Bt
 induction ρ with
 |nil=>rfl
 |cons p r ih=>
  obtain⟨x,d⟩:=p;show bI (NT x ts) (Dn ts (r++Bt)) ((x,d)::Dn ts (r++Bt))=bI (NT x ts) (Dn ts r) ((x,d)::Dn ts r)++Dn ts Bt;cases NT x ts with
  |true=>exact ih
  |false=>
   show(x,d)::Dn ts (r++Bt)=(x,d)::(Dn ts r++Dn ts Bt);rw[ih]
variable {scope:Scope} {ts:List Nat}
theorem oG(ok:IB Z sc)(sl:FV Z s.heap)(hk:scope.kind= .function)(hn:Pr sc scope.names=Y)
  (E3:(ts.all λx=>(scope.names.lookup (B x)==V .local||scope.names.lookup (B x)==V .cell))=Y)
  (W:(scope.names.all λp=>!(p.2==.local||p.2==.cell)||p.1==(".0":Av)||ts.any λx=>B x==p.1)=Y)(hi:Ps B)(X:∀x,B x≠(".0":Av)):
  Lj scope Z=BU (HK Z scope.names [])∧
  (∀x∈scope.names,x.2= .local->scope.names.lookup x.1=V .local)∧
  IB (Qm scope (HK Z scope.names []) s.heap.objs.size Z) (KP sc scope.names)∧
  FV (Qm scope (HK Z scope.names []) s.heap.objs.size Z) (D7 (s.heap.push {cls:=.type "dict",data:=.dict #[]}) scope.names)∧
  (∀x∈ts,∃a,Nd (Qm scope (HK Z scope.names []) s.heap.objs.size Z) (B x) a/\s.heap.objs.size<=a/\a<(D7 (s.heap.push {cls:=.type "dict",data:=.dict #[]}) scope.names).objs.size)∧
  (∀ρ N N',I8 J B N Z s.heap ρ->FU N N' s.heap (D7 (s.heap.push {cls:=.type "dict",data:=.dict #[]}) scope.names)->
   I8 J B N' (Qm scope (HK Z scope.names []) s.heap.objs.size Z) (D7 (s.heap.push {cls:=.type "dict",data:=.dict #[]}) scope.names) (Dn ts ρ)):=by
 obtain⟨m,C⟩:=SZ hn;have A:∀n k,(n,k)∈scope.names->k= .free->∃c,Z.cells.lookup n=V c:=λn k hm hf=>ok.cells n ((m n k hm).1 hf)
 have F:Z.scope.kind= .function:=ok.kind;have H:(lF scope Z).names=KP sc scope.names:=by
  show scope.names.map _=scope.names.map _
  congr 1
  funext p
  obtain⟨n,k⟩:=p;dsimp only;rw[ok.kindOf,F];cases(k==FY)<;>rfl
 generalize M:HK Z scope.names []=R
 have Bd:∀n c,(n,c)∈R->(∃k,(n,k)∈scope.names/\k= .free)/\Z.cells.lookup n=V c:=λn c hm=>by
  rw[<-M]at hm;rcases fQ scope.names [] n c hm with h|h
  ·cases h
  ·exact h
 have Bs:R.Pairwise λx y=>x.2≠y.2:=by
  apply CE M
  exact oA sl.apart scope.names [] C .nil (λn c hm=>nomatch hm)
 generalize g:Qm scope R s.heap.objs.size Z=i
 generalize hh:D7 (s.heap.push {cls:=.type "dict",data:=.dict #[]}) scope.names=h'
 have keep:∀b o,s.heap.get? b=V o->h'.get? b=V o:=λb o e=>by
  apply CE hh;exact F8 _ _ _ _ (Au _ e)
 have Ce:(s.heap.push {cls:=.type "dict",data:=.dict #[]}).objs.size=s.heap.objs.size+1:=B6 ..;obtain⟨P,Cf⟩:=oB (h'0:=s.heap) scope.names (s.heap.push {cls:=.type "dict",data:=.dict #[]}) R (λb o e=>Au _ e) (λn c hm=>by
  obtain⟨v,w⟩:=sl.cells n c (mem_of_lookup (Bd n c hm).2);exact⟨v,w.keeps λb o e=>Au _ e⟩) Bs
 rw[Ce]at P Cf;have r:i.cells=B5 (s.heap.objs.size+1) scope.names R:=by apply CE g;rfl
 have u:i.locals=s.heap.objs.size:=by apply CE g;rfl
 have l:∀x,i.kindOf x=(KP sc scope.names).lookup x:=λx=>by
  show i.scope.names.lookup x=_
  apply CE g
  show(lF scope Z).names.lookup x=_;rw[H]
 have Cx:h'.Ns s.heap.objs.size (λI=>Ao):=by
  apply CE hh
  exact(A9.Ns.new s.heap (.type "dict")).keeps (F8 _ _)
 have look:∀n k,scope.names.lookup n=V k->(k= .cell->∃c:Nat,i.cells.lookup n=V c/\s.heap.objs.size+1<=c)/\(k= .free->i.cells.lookup n=Z.cells.lookup n):=by
  intro n k j;have hm:=mem_of_lookup j;rw[r];refine⟨λe=>?_,λe=>?_⟩
  ·subst e;obtain⟨c,U,G,_⟩:=Ye (n:=n) scope.names (s.heap.objs.size+1) R C hm;exact⟨c,U,G⟩
  ·subst e;obtain⟨c,E⟩:=A n _ hm rfl;rw[fR _ _ _ (λkd E4 e=>by
    have U:=(m n kd E4).2.2;rw[j]at U;cases U;cases e),<-M,oz scope.names [] C hm E A,E]
 have z:∀x k,(KP sc scope.names).lookup x=V k->∃f,scope.names.lookup x=V f/\(k=f\/(f= .free/\k= .cell)):=by
  intro x k h;rw[Yd]at h;cases q:scope.names.lookup x with
  |none=>rw[q]at h;cases h
  |some f=>
   rw[q]at h;refine⟨f,rfl,?_⟩
   have h:(if(f==FY&&sc.lookup x==V .cell)=Y then Ej else f)=k:=CK h
   split at h
   ·rename_i E;exact .inr ⟨AA (AH E).1,h.symm⟩
   ·exact .inl h.symm
 refine⟨M▸fO A,λx L j=>by
  have:=(m x.1 x.2 L).2.2;rw[j]at this;exact this,⟨?_,?_,?_,?_,?_⟩,⟨⟨_,u▸Cx⟩,?_,?_⟩,?_,?_⟩
 ·apply CE g;exact hk
 ·apply CE g;exact H
 ·apply CE g;exact ok.glob
 ·apply CE g;exact ok.bui
 ·intro x L;have:∃k,(KP sc scope.names).lookup x=V k/\(k= .cell\/k= .free):=by
   rcases L with h|h
   ·exact⟨_,h,.inl rfl⟩
   ·exact⟨_,h,.inr rfl⟩
  obtain⟨k,j,E5⟩:=this;obtain⟨f,T,U⟩:=z x k j;have free:f= .free->∃c,i.cells.lookup x=V c:=λe=>by
   obtain⟨c,E⟩:=A x f (mem_of_lookup T) e;exact⟨c,((look x f T).2 e).trans E⟩
  rcases U with rfl|⟨U,_⟩
  ·rcases E5 with e|e
   ·obtain⟨c,E,_⟩:=(look x k T).1 e;exact⟨c,E⟩
   ·exact free e
  ·exact free U
 ·intro n c hm;rw[r]at hm
  apply CE hh
  exact P n c hm
 ·apply AO r;exact Cf
 ·intro x L;have CH:=D9 E3 x L;have Q:B x≠("__classdict__":Av):=by
   rcases(AT _ _).mp CH with h|h
   ·exact(m _ _ (mem_of_lookup (AA h))).2.1
   ·exact(m _ _ (mem_of_lookup (AA h))).2.1
  rcases(AT _ _).mp CH with h|h
  ·have h:=AA h;refine⟨s.heap.objs.size,.inl ⟨?_,u.symm⟩,AI _,Cx.lt⟩
   rw[l,Yd,h]
   rfl
  ·have h:=AA h;obtain⟨c,E,Fn⟩:=(look _ _ h).1 rfl;obtain⟨v,w⟩:=P (B x) c (by apply CE r;exact mem_of_lookup E)
   rw[hh]at w;refine⟨c,.inr ⟨?_,?_,E⟩,Bo Fn,w.lt⟩
   ·rw[l,Yd,h]
    rfl
   ·cases q:(B x==("__classdict__":Av))with
    |false=>rfl
    |true=>exact absurd (AA q) Q
 ·intro ρ N N' hr hf x d j D;obtain⟨L,F0⟩:=S0 j;rw[l]at D;cases q:(KP sc scope.names).lookup (B x)with
  |none=>rw[q]at D;cases D
  |some k=>
   rw[q]at D;obtain⟨f,T,U⟩:=z _ _ q;have hm:=mem_of_lookup T;have t:f≠.local/\f≠.cell:=by
    have G:=D9 W _ hm;have G:=(AT _ _).mp G;rcases G with G|G
    ·rcases(AT _ _).mp G with G|G
     ·constructor<;>(rintro rfl;cases G)
     ·exact absurd (AA G) (X x)
    ·obtain⟨y,hy,F1⟩:=List.any_eq_true.mp G;exact absurd (hi _ _ (AA F1)▸hy) L
   have F2:f= .free:=by
    rcases U with rfl|⟨U,_⟩
    ·induction k with
     |«local»=>exact absurd rfl t.1
     |cell=>exact absurd rfl t.2
     |free=>rfl
     |_=>cases D
    ·exact U
   subst F2;obtain⟨DD,F5,_⟩:=m _ _ hm;have Ev:Ko (Z.kindOf (B x))=Y:=by
    rw[ok.kindOf];rcases DD rfl with e|e<;>rw[e]<;>rfl
   obtain⟨v,w,F3⟩:=hr x d F0 Ev;refine⟨v,?_,F3.mono hf⟩
   have F4:i.kindOf (B x)=V .cell\/i.kindOf (B x)=V .free:=by
    rw[l,q];rcases U with rfl|⟨_,rfl⟩
    ·exact .inr rfl
    ·exact .inl rfl
   rcases w with⟨h3,_⟩|⟨h3,h4,c,h5,h6⟩
   ·rw[ok.kindOf]at h3;rcases DD rfl with e|e<;>(rw[e]at h3;cases h3)
   ·exact .inr ⟨F4,h4,c,((look _ _ T).2 rfl).trans h5,h6.keeps keep⟩
structure EA(B:Nat->Av):Prop where
 inj:Ps B
 dot:∀x,B x≠(".0":Av)
structure Eo(k:Nat)(A:A1):Prop where
 handled:A.handled=Ao
 depth:A.depth<=400+k
 units:A.units<=10*k+20
theorem Eo.room{k:Nat}{A:A1}(i:Eo k A)(P:k<=100):A.depth<DQ:=
 AG (Am i.depth (Cw P 400)) (by decide)
theorem Eo.line{k:Nat}{A:A1}(i:Eo k A)(P:k<=100):A.units+10<Gv:=
 AG (BP (Am i.units (BP (BN 10 P) 20)) 10) (by decide)
structure Gl(h:A9)(mg mb:Av->Option Ag):Prop where
 g:h.Ns Es mg
 b:h.Ns Jf mb
 free:∀b,b<10->mg (MH b)=Ao
 val:∀b,b<10->mb (MH b)=V (Qg b)
structure Bs(T:An->Prop)(mg mb:Av->Option Ag)(s0 s:Ah):Prop where
 ext:BM T s0 s
 tabs:∀b,T b->K6 s0.heap b
 gl:Gl s0.heap mg mb
variable {mg mb:Av->Option Ag} {s0:Ah}
theorem Bs.step(h:Bs T mg mb s0 s)(x:BM T s S):Bs T mg mb s0 S:=⟨h.ext.trans x,h.tabs,h.gl⟩
theorem Bs.lt(h:Bs T mg mb s0 s):∀a,T a->a<s.heap.objs.size:=λa i=>by obtain⟨_,e,_⟩:=h.ext.tab a i (h.tabs a i);exact AY e
theorem Bs.ng(h:Bs T mg mb s0 s):s.heap.Ns Es mg:=h.ext.ns h.gl.g
theorem Bs.nb(h:Bs T mg mb s0 s):s.heap.Ns Jf mb:=h.ext.ns h.gl.b
theorem Bs.gone{W:An->Prop}(h:Bs T mg mb s0 s)(x:Fe T W s S)(i:∀a,W a->s0.heap.get? a=Ao):Bs T mg mb s0 S:=⟨Fe.ext2 h.ext x i,h.tabs,h.gl⟩
theorem Bs.upd{W:An->Prop}(h:Bs T mg mb s0 s)(x:Co T W s S)(i:∀a,W a->s0.heap.get? a=Ao):Bs T mg mb s0 S:=h.gone x.gone i
def Yg(s0:Ah)(mg:Av->Option Ag)(x:Av)(a:An):Prop:=mg x=V (.ref a)/\∃o fd,s0.heap.get? a=V o/\o.data= .func fd/\Hn o=Ak
structure GS(J:Sg)(h:A9)(x dx b:An):Prop where
 it:∃o od,h.get? x=V o/\h.get? dx=V od/\Na (J.v 999).toNat o od x dx b
theorem GS.ext{T:An->Prop}{J:Sg}{s S:Ah}{x dx b:An}(h:GS J s.heap x dx b)(e:BM T s S):GS J S.heap x dx b:=
 by obtain⟨o,j,U,p,i⟩:=h.it;exact⟨o,j,e.keep2 _ _ U i.tab.1,e.keep2 _ _ p i.tab.2,i⟩
def N3(Aj:Bh)(w:Ca)(T:An->Prop)(J:Sg)(s0:Ah)(name:Av)(f:An):Prop:=
 (∃o fd,s0.heap.get? f=V o/\o.data= .func fd/\Hn o=Ak)∧
 ∀(A:A1) (E:Ag->Ah->Prop) (s:Ah) (x dx b:An) (a:JZ Bool) (Q:Ag×List Ag->Ah->Prop),BM T s0 s->GS J s.heap x dx b->Q (.ref f,[.ref x]) s->Ap (Aq Aj w) A (getMethod (.ref x) name a) Q E s
noncomputable def HY(s:List Nat):Bool:=(s.all λc=>A3 32 c&&Bf c 127)&&Bf s.length 1000000
def oH(Aj:Bh)(w:Ca)(T:An->Prop)(J:Sg)(s0:Ah):Prop:=∀(A:A1) (E:Ag->Ah->Prop) (s:Ah) (x dx b:An) (Q:Ag->Ah->Prop),BM T s0 s->GS J s.heap x dx b->(∀S,BM T s S->Q (.ref b) S)->Ap (Aq Aj w) A (getAttr (.ref x) "_headers" Y) Q E s
def Nf(Aj:Bh)(w:Ca)(T:An->Prop)(J:Sg)(mg mb:Av->Option Ag)(s0:Ah)(k:Nat):Prop:=∃f,N3 Aj w T J s0 "_convert_string_type" f∧
 ∀(A:A1) (E:Ag->Ah->Prop) (N:An->Prop) (s:Ah) (R:Ag) (x:Av) (t:Ez) (b:Bool) (Q:Ag->Ah->Prop),Eo k A->Bs T mg mb s0 s->(∀a,N a->Da s.heap a)->HY x.cps.toList=Y->x.cps.size<2^63->
   (∀S,BM T s S->Q (.str x t) S)->Ap (Aq Aj w) A (DP (.ref f) [R,.str x t] [((("name":Av)),.bool b)]) Q E s
section
variable (Aj:Bh) (w:Ca) (T:An->Prop) (J:Sg) (mg mb:Av->Option Ag) (s0:Ah) (B fn:Nat->Av) (C:Nat->List D->Option D) (k:Nat)
def L4(f:Nat)(O:List D)(d:D):Prop:=match f with
 |900=>∃es,O=[.hdr es]/\d= .lst es/\oH Aj w T J s0
 |903=>∃p q r,O=[.int p,.int q]/\d= .int r/\q.ev J≠0/\r.ev J=(p.ev J).fmod (q.ev J)
 |904=>∃p r,O=[.int p]/\d= .int r/\r.ev J= -(p.ev J)-1
 |905=>∃p r,O=[.int p]/\d= .int r/\r.ev J=(AJ (p.ev J):Int)
 |906=>∃p q r,O=[.int p,.int q]/\d= .int r/\0<=q.ev J/\(AJ (p.ev J):Int)+q.ev J<=2^27/\r.ev J=p.ev J*2^(q.ev J).toNat
 |907=>∃p q r,O=[.int p,.int q]/\d= .int r/\q.ev J≠0/\(q.ev J).natAbs<2^8000/\r.ev J=(p.ev J).fdiv (q.ev J)
 |909=>∃p n,O=[.int p]/\d= .sym n/\J.t n=ME (p.ev J)/\(p.ev J).natAbs<10000000000
 |911=>∃ms p G n i,O=[.lst ms,.int p,.int (.k (.ofNat G))]/\d= .sym n/\((p.ev J).fdiv (2^G)).fmod 8=i/\NS (.lst ms) (.int (.k i))=V (.str (J.t n))
 |910=>∃p n,O=[.sym n]/\d= .int p/\J.t n=ME (p.ev J)/\0<=p.ev J/\p.ev J<10^10
 |908=>∃r i t,O=[]/\d= .int r/\mg "_DIV_LIMIT"=V (.int i t)/\r.ev J=i
 |_=>∃es t,O=[.hdr es,.str t]/\d= .str t/\HY t=Y/\Nf Aj w T J mg mb s0 k
def I9:Prop:=(∀f O d,Bf f 900=Y->C f O=V d->∃a,Yg s0 mg (fn f) a/\∀(A:A1) (E:Ag->Ah->Prop) (N:An->Prop) (s:Ah) (I:List Ag) (Q:Ag->Ah->Prop),Eo k A->Bs T mg mb s0 s->(∀a,N a->Da s.heap a)->
 BV J N s.heap I O->GB T J N s d Q->Ap (Aq Aj w) A (DP (.ref a) I) Q E s)∧
 (∀f O d,(A3 900 f&&Bf f 1000)=Y->C f O=V d->L4 Aj w T J mg mb s0 k f O d)∧
 ∀m es O d,C (1000+m) (.hdr es::O)=V d->∃f,N3 Aj w T J s0 (OI m) f/\∀(A:A1) (E:Ag->Ah->Prop) (N:An->Prop) (s:Ah) (x:An) (I:List Ag) (Q:Ag->Ah->Prop),Eo k A->Bs T mg mb s0 s->(∀a,N a->Da s.heap a)->
  Rd J N s.heap (.ref x) (.hdr es)->BV J N s.heap I O->GB T J N s d Q->Ap (Aq Aj w) A (DP (.ref f) (.ref x::I)) Q E s
structure Cx(A:A1)(Z:DS)(sc:List (Av×AC))(ρ Bt:List (Nat×D))(N N2:An->Prop)(s:Ah):Prop where
 ha:Eo k A
 ok:IB Z sc
 bs:Bs T mg mb s0 s
 rel:Ho J B N N2 Z s.heap ρ Bt
 hs2:∀a,N2 a->N a
 occ:∀a,N a->Da s.heap a
def D0(n:Nat):Prop:=∀{A:A1} {E:Ag->Ah->Prop} {Z:DS} {sc:List (Av×AC)} {ρ Bt:List (Nat×D)} {N N2:An->Prop} {s:Ah} {e:Expr} {m:M} {d:D} {fo:Nat} {Q:Ag->Ah->Prop},
 Cx T J mg mb s0 B k A Z sc ρ Bt N N2 s->Bu B fn fo sc e m=Y->ev C n ρ Bt m=V d->GB T J N s d Q->Ap (Aq Aj w) A (C1 e Z) Q E s
end
variable {fn:Nat->Av} {C:Nat->List D->Option D} {k n fo:Nat}
theorem Ho.ext{S:Ah}(h:Ho J B N N2 Z s.heap ρ Bt)(x:BM T s S):Ho J B N N2 Z S.heap ρ Bt:=⟨h.one.ext x,h.two.ext x,h.sl.ext x⟩
theorem Cx.ext{S:Ah}(c:Cx T J mg mb s0 B k A Z sc ρ Bt N N2 s)(x:BM T s S):Cx T J mg mb s0 B k A Z sc ρ Bt N N2 S:=⟨c.ha,c.ok,c.bs.step x,c.rel.ext x,c.hs2,λa h=>(c.occ a h).ext x⟩
theorem J3{e:Expr}{m:M}{fo:Nat}(h:Bu B fn fo sc e m=Y)(v:Expr)(p:B9):e≠.Starred v p:=λq=>Rj h q rfl
theorem Fa{e:Expr}{rest:List Expr}(h:∀v p,e≠.Starred v p):CV (e::rest) Z=(Ak,C1 e Z)::CV rest Z:=by
 induction e using Ya with
 |Starred v p=>exact absurd rfl (h v p)
 |_=>rfl
theorem N4(hS:D0 Aj w T J mg mb s0 B fn C k n){pos:B9}(es:List Expr):∀{ms:List M} {O:List D} {s:Ah} {Q:List Ag->Ah->Prop},Cx T J mg mb s0 B k A Z sc ρ Bt N N2 s->
  GR (Bu B fn fo sc) es ms=Y->Gs (ev C n ρ Bt) ms=V O->
  (∀I S,BM T s S->BV J N S.heap I O->Q I S)->Ap (Aq Aj w) A (Ny (Er pos (CV es Z))) Q E s:=by
 induction es with
 |nil=>
  intro ms O s Q c R hm q;rw[SU R]at hm;exact AF (q [] s .refl (sI hm▸.nil))
 |cons e es ih=>
  intro ms O s Q c R hm q;obtain⟨m,x,e1,U,G⟩:=Qi R;rw[e1]at hm;obtain⟨d,ds',z,l,f⟩:=SB hm;rw[Fa (J3 U)];exact Ax (hS c U z λv AK W a=>ih (c.ext W) G l λI By u b=>q _ By (W.trans u) (f▸.cons (a.mono u.fits) b))
theorem N5(es:List Expr):∀(ms:List M),GR (Bu B fn fo sc) es ms=Y->∀{pos:B9},(Er pos (CV es Z)).any (·.1)=Ak:=by
 induction es with
 |nil=>exact λz z z=>rfl
 |cons e es ih=>
  intro ms h pos;obtain⟨m,x,e1,U,G⟩:=Qi h;rw[Fa (J3 U)];exact ih x G
theorem Ng{e:Expr}{es:List Expr}(h:∀v p,e≠.Starred v p){pos:B9}{f:Ag}{Q:Args->Ah->Prop}(m:Ap (Aq Aj w) A (Ny (Er pos (CV (e::es) Z))) (λI S=>Q ⟨I,[]⟩ S) E s):
  Ap (Aq Aj w) A (O4 f Y (Er pos (CV (e::es) Z)) []) Q E s:=by
 rw[Fa h]at m ⊢;exact CI m
theorem K9{es:List Expr}{ms:List M}(h:GR (Bu B fn fo sc) es ms=Y){pos:B9}{f:Ag}{Q:Args->Ah->Prop}(a:Ap (Aq Aj w) A (Ny (Er pos (CV es Z))) (λI S=>Q ⟨I,[]⟩ S) E s):
  Ap (Aq Aj w) A (O4 f Y (Er pos (CV es Z)) []) Q E s:=by
 induction es with
 |nil=>
  unfold O4;exact Ai (AM a (λI S h'=>AZ (Ai (Ar (Ai (Ar (Ar h')))))) λz z x=>x)
 |cons e es=>
  obtain⟨m,b,e1,U,G⟩:=Qi h;exact Ng (J3 U) a
theorem Yh{a:Int}(g:a.natAbs<10^9): -9223372036854775808<=a/\a<9223372036854775808:=
 ⟨li [_] [_] (.k (-9223372036854775808)) (.v 0) [(1,.u (.a (.v 0) (.k 1)),.u (.k (10^9))),(1,.g (.v 0),.u (.v 0))] rfl (jO g) P5,li [_] [_] (.a (.v 0) (.k 1)) (.k 9223372036854775808) [(1,.u (.a (.v 0) (.k 1)),.u (.k (10^9))),(1,.v 0,.u (.v 0))] rfl (jO g) DU⟩
theorem oI{a b:Int}{c:Int}(E:c=1\/c= -1)(g:a.natAbs<10^9)(F:b.natAbs<10^9):Gz a b c=Y:=by
 rcases E with rfl|rfl
 ·exact small_one (li [_] [_] (.k (-(2^62))) (.v 0) [(1,.u (.a (.v 0) (.k 1)),.u (.k (10^9))),(1,.g (.v 0),.u (.v 0))] rfl (jO g) P5) (li [_] [_] (.a (.v 0) (.k 1)) (.k (2^62)) [(1,.u (.a (.v 0) (.k 1)),.u (.k (10^9))),(1,.v 0,.u (.v 0))] rfl (jO g) DU) (li [_] [_] (.k (-(2^62))) (.v 0) [(1,.u (.a (.v 0) (.k 1)),.u (.k (10^9))),(1,.g (.v 0),.u (.v 0))] rfl (jO F) P5) (li [_] [_] (.a (.v 0) (.k 1)) (.k (2^62)) [(1,.u (.a (.v 0) (.k 1)),.u (.k (10^9))),(1,.v 0,.u (.v 0))] rfl (jO F) DU)
 ·unfold Gz CY;simp only[UZ,Bg,AT,decide_eq_true_eq,beq_iff_eq];simp;refine⟨⟨⟨Yh g,Yh F⟩,?_⟩,.inr (Yh F)⟩
  split
  ·exact⟨li [_,_] [_,_] (.k (-9223372036854775808)) (.s (.v 0) (.v 1)) [(1,.u (.a (.v 0) (.k 1)),.u (.k (10^9))),(1,.u (.a (.v 1) (.k 1)),.u (.k (10^9))),(1,.g (.v 0),.u (.v 0)),(1,.v 1,.u (.v 1))] rfl (jO g) (jO F) P5 DU,
    li [_,_] [_,_] (.a (.s (.v 0) (.v 1)) (.k 1)) (.k 9223372036854775808) [(1,.u (.a (.v 0) (.k 1)),.u (.k (10^9))),(1,.u (.a (.v 1) (.k 1)),.u (.k (10^9))),(1,.v 0,.u (.v 0)),(1,.g (.v 1),.u (.v 1))] rfl (jO g) (jO F) DU P5⟩
  ·exact⟨by decide,by decide⟩
theorem fV{x y:Int}:(if x<y then y-x else 0)=((y-x).toNat:Int):=by
 by_cases h:x<y
 ·rw[if_pos h];exact(HQ (Int.sub_nonneg_of_le (BR h))).symm
 ·rw[if_neg h];exact(congrArg Mm (Int.toNat_eq_zero.mpr (Hw (Int.not_lt.mp h)))).symm
theorem fW(a b:Int):CY a b 1=((b-a).toNat:Int):=(rangeSize_one a b).trans fV
theorem oJ(a b:Int):CY a b (-1)=((a-b).toNat:Int):=by
 refine Sa ?_ fV
 unfold CY;rw[if_neg (by decide)]
 show(if a>b then(a-b-1)/1+1 else 0)=_
 rw[Int.ediv_one,NC]
theorem Qn{f:Expr->M->Bool}{name:Av}{e:Expr}{ms:List M}(h:MJ f sc name e ms=Y):∃q xs p,e= .Call (.Name name q) xs [] p/\sc.lookup name=V .globalImplicit/\GR f xs ms=Y:=by
 obtain⟨id,q,xs,p,r,h⟩:=SR h;have e1:=AA (AH h).1;rw[e1]at r h;exact⟨q,xs,p,r,AA (AH (AH h).2).1,(AH (AH h).2).2⟩
theorem oK{e:Expr}(h:∀a b c,e≠.Set a b c)(v:DS)(x:Ag):B1 e v x=BU x:=by
 induction e using Ya with
 |Set a b c=>exact absurd rfl (h a b c)
 |_=>rfl
theorem oL{e:Expr}{m:M}{fo:Nat}(h:Bu B fn fo sc e m=Y):∀v x,B1 e v x=BU x:=oK λz z z q=>Rj h q rfl
theorem Yi{e:Expr}{u:Nat}{ms:List M}(h:SW (Bu B fn fo sc) sc u ms e=Y):∀v x,B1 e v x=BU x:=by
 rcases u with _|_|u
 ·obtain⟨m,_,h⟩:=Jr h;exact oL h
 ·obtain⟨q,xs,p,r,_⟩:=Qn h
  apply AO r;exact λz z=>rfl
 ·exact bF h
theorem Rd.int'{h:A9}{v:Ag}{i:Int}(r:Rd J N h v (.int (.k i))):∃t,v= .int i t:=r.inv
theorem Yj{s:Ah}{items:List D}{Q:Ag->Ah->Prop}(H:∀a,T a->a<s.heap.objs.size)(q:∀x AK,BM T s AK->OK Aj w T J N x items AK->Q x AK){o:Fo}{tk:Nat}{a b c:Int}{t u v:Ez}{m:Nat}
  (d:IsRange (s.heap.push o) s.heap.objs.size a b c t u v)(E:c=1\/c= -1)(g:a.natAbs<1000000)(F:b.natAbs<1000000)(hm:CY a b c=m)(e:items=OH a c m):Q (.ref s.heap.objs.size) {s with heap:=s.heap.push o,toks:=tk}:=by
 rw[e]at q;exact q _ _ .push (oi (λx L=>AE (H x L) (by show _<=(s.heap.push o).objs.size;rw[B6];exact DM _)) d (oI E (CO g (by decide)) (CO F (by decide))) hm)
theorem oM{I:List Ag}{O items:List D}{Q:Ag->Ah->Prop}(H:∀a,T a->a<s.heap.objs.size)(p:BV J N s.heap I O)(h:Qc 1 O=V items)
  (q:∀x AK,BM T s AK->OK Aj w T J N x items AK->Q x AK):Ap (Aq Aj w) A (DP (.type "range") I) Q E s:=by
 obtain⟨r,f,h⟩:=Cn h;obtain⟨F,h⟩:=De h;have k:r.1.natAbs<1000000:=D8 (AH F).2;have e:=(sI h).symm;cases O with
 |nil=>exact nS f
 |cons a O=>
  obtain⟨i,g,f⟩:=H5 f;obtain⟨v,ws,C,L,p⟩:=p.inv;obtain⟨t,L⟩:=L.inv' g;rw[C];apply AO L
  cases O with
  |nil=>
   obtain⟨F,f⟩:=De f;rw[<-sI f]at e
   apply AO (show ws=[]from p.inv)
   exact call_range_1 (Yj H q (KI ..) (.inl rfl) (by decide) (D8 F) (by rw[fW];exact congrArg (λx:Int=>(x.toNat:Int)) (Int.sub_zero i)) e)
  |cons b O=>
   obtain⟨j,F,f⟩:=H5 f;obtain⟨M,f⟩:=De f;have M:j.natAbs<1000000:=D8 M;obtain⟨d,m,o,z,p⟩:=p.inv;obtain⟨u,z⟩:=z.inv' F;rw[o];apply AO z
   cases O with
   |nil=>
    rw[<-sI f]at e k
    apply AO (show m=[]from p.inv)
    exact call_range_2 (Yj H q (KI ..) (.inl rfl) k M (fW _ _) e)
   |cons c O=>
    obtain⟨l,G,f⟩:=H5 f;obtain⟨P,f⟩:=De f;obtain⟨R,y,n,r3,p⟩:=p.inv;obtain⟨U,r3⟩:=r3.inv' G
    induction O with
    |nil=>
     rw[<-sI f]at e k
     apply AO n;rw[r3,show y=[]from p.inv,show(PX.k l).ev J= -1 from NQ.mp P]
     exact call_range_3 (by decide) (Yj H q (KI ..) (.inr rfl) k M (oJ _ _) e)
    |cons _ _=>exact nS f
theorem oN{v:Ag}{d:D}{items:List D}(H:∀a,T a->a<s.heap.objs.size)(r:Rd J N s.heap v d)(h:T6 d=V items):OK Aj w T J N v items s:=by
 have r:=r.inv
 induction d using Yf with
 |lst l=>
  obtain⟨a,I,_,b,M,g,p⟩:=r
  apply AO b;apply CE (sI (De h).2);exact n0 H M g p
 |tup l=>
  obtain⟨a,I,_,b,M,g,p⟩:=r
  apply AO b;apply CE (sI (De h).2);exact n9 H M g p
 |str l=>
  obtain⟨x,t,b,e⟩:=r
  apply AO b;apply CE (sI (De h).2);exact oa H e
 |_=>exact nS h
theorem Nh{b:Nat}{q:B9}{Q:Ag->Ah->Prop}(c:Cx T J mg mb s0 B k A Z sc ρ Bt N N2 s)(F:b<10)(P:sc.lookup (MH b)=V .globalImplicit)(hd:(MH b==("__debug__":Av))=Ak)(h:Q (Qg b) s):Ap (Aq Aj w) A (C1 (.Name (MH b) q) Z) Q E s:=
 Bl c.ok.kind ((c.ok.kindOf _).trans P) (Ex (c.ok.glob▸c.bs.ng) (c.bs.gl.free b F) (c.ok.bui▸c.bs.nb) (c.bs.gl.val b F) h) hd
theorem Yk{f:Nat}{ms:List M}{O items:List D}{e:Expr}{Q:Ag->Ah->Prop}(hS:D0 Aj w T J mg mb s0 B fn C k n)(c:Cx T J mg mb s0 B k A Z sc ρ Bt N N2 s)
  (h:SW (Bu B fn fo sc) sc f ms e=Y)(hm:Gs (ev C n ρ Bt) ms=V O)(g:Qc f O=V items)
  (q:∀x AK,BM T s AK->OK Aj w T J N x items AK->Q x AK):Ap (Aq Aj w) A (C1 e Z) Q E s:=by
 rcases f with _|_|f
 ·obtain⟨m,e1,h⟩:=Jr h;rw[e1]at hm;obtain⟨d,hd,e2⟩:=Pn hm;rw[e2]at g;exact hS c h hd λv AK W a=>q v AK W (oN (c.bs.step W).lt a g)
 ·obtain⟨p,as,pos,r,i,h⟩:=Qn h
  apply AO r
  exact AX (Nh (b:=5) c (by decide) i (by decide) (DE (N5 as ms h) (K9 h (N4 @hS as c h hm λI AK W a=>oM (c.bs.step W).lt a g λx By u it=>q x By (W.trans u) it))))
 ·exact bF h
def HZ(Aj:Bh)(w:Ca)(T:An->Prop)(J:Sg)(mg mb:Av->Option Ag)(s0:Ah)(B fn:Nat->Av)(C:Nat->List D->Option D)(k n:Nat):Prop:=
 ∀{A:A1} {E:Ag->Ah->Prop} {Z:DS} {sc:List (Av×AC)} {ρ Bt:List (Nat×D)} {N N2:An->Prop} {s:Ah} {e:Expr} {m:M} {d:D} {t:Bool} {fo:Nat} {Q:Bool->Ah->Prop},
 Cx T J mg mb s0 B k A Z sc ρ Bt N N2 s->Bu B fn fo sc e m=Y->ev C n ρ Bt m=V d->OF d=V t->
 (∀S,BM T s S->Q t S)->Ap (Aq Aj w) A (isTrue e Z (C1 e Z)) Q E s
theorem oO{C:List Expr}{Q:Bool->Ah->Prop}(q:Q Ak s):
  Ap (Aq Aj w) A (OZ C Ak λc r=>if r=Y then do let ok <-isTrue c Z (C1 c Z);BU (Gr ok)else BU (Gr r)) Q E s:=by
 induction C with
 |nil=>exact Ar q
 |cons c r ih=>
  rw[FA];refine Ai ?_
  rw[if_neg AR];exact Ar ih
theorem fX(H:HZ Aj w T J mg mb s0 B fn C k n)(a:List Expr):∀{ms:List M} {b:Bool} {s:Ah} {Q:Bool->Ah->Prop},Cx T J mg mb s0 B k A Z sc ρ Bt N N2 s->
  GR (Bu B fn fo sc) a ms=Y->dQ (ev C n ρ Bt) ms=V b->(∀S,BM T s S->Q b S)->Ap (Aq Aj w) A (fM a Z) Q E s:=by
 induction a with
 |nil=>
  intro ms b s Q c R hm q;rw[SU R]at hm;exact Ar (sI hm▸q s .refl)
 |cons e es ih=>
  intro ms b s Q c R hm q;obtain⟨m,x,e1,U,G⟩:=Qi R;rw[e1]at hm;obtain⟨d,hd,hm⟩:=Cn hm;obtain⟨t,D,hm⟩:=Cn hm;show Ap _ _ (OZ (e::es) Y _) _ _ _;rw[FA];refine Ai ?_
  rw[if_pos rfl];refine Ai (H c U hd D λAK W=>Ar ?_)
  induction t with
  |true=>exact ih (c.ext W) G hm λBy u=>q By (W.trans u)
  |false=>exact oO (sI hm▸q AK W)
theorem oP{x:Nat}(t:List Nat):∀(O:List D) (ρ A6:List (Nat×D)),FW t O ρ=V A6->x∉t->lk x A6=lk x ρ:=by
 induction t with
 |nil=>exact λO ρ A6 h z=>by apply AO ((SY h).2);rfl
 |cons y t ih=>
  intro O ρ A6 h L;obtain⟨d,r,_,h⟩:=SX h;rw[ih r _ _ h (λq=>L (.tail _ q)),H6,if_neg (λ(q:x=y)=>L (q▸.head _))]
theorem oQ{t:List Nat}{CZ:Bool}{d:D}{ρ A6:List (Nat×D)}(h:L0 t CZ d ρ=V A6):(∃x,t=[x]/\A6=(x,d)::ρ)\/∃O,FW t O ρ=V A6:=by
 induction CZ with
 |true=>
  cases t with
  |nil=>exact nS h
  |cons x r=>induction r with
   |nil=>exact .inl ⟨x,rfl,(sI h).symm⟩
   |cons _ _=>exact nS h
 |false=>induction d using Yf<;>first|exact nS h|exact .inr ⟨_,h⟩
theorem Yl{t:List Nat}{CZ:Bool}{d:D}{ρ A6:List (Nat×D)}{x:Nat}(h:L0 t CZ d ρ=V A6)(L:x∉t):lk x A6=lk x ρ:=by
 rcases oQ h with⟨y,e,e2⟩|⟨O,h⟩
 ·apply AO e2;rw[H6,if_neg (λq=>L (e▸List.mem_singleton.mpr q))]
 ·exact oP _ _ _ _ h L
theorem I8.less{Z:DS}{h:A9}{ρ A6:List (Nat×D)}(r:I8 J B N Z h A6)(j:∀x d,lk x ρ=V d->lk x A6=V d):I8 J B N Z h ρ:=λx d e kx=>r x d (j x d e) kx
theorem Ho.less{Z:DS}{h:A9}{ρ A6 Bt:List (Nat×D)}{t:List Nat}{CZ:Bool}{d:D}(r:Ho J B N N2 Z h A6 Bt)(F:L0 t CZ d ρ=V A6)(M:∀x∈t,lk x (ρ++Bt)=Ao):Ho J B N N2 Z h ρ Bt:=by
 refine⟨r.one.less λx e L=>?_,r.two.less λx e L=>?_,r.sl⟩
 ·rw[Yl F λhm=>?_]
  ·exact L
  ·have:=M x hm;rw[VH,L]at this;exact nS this.symm
 ·have hm:x∉t:=λhm=>nS ((M x hm).symm.trans L)
  rw[VH]at L ⊢;rw[Yl F hm];exact L
theorem Ho.upd{W:An->Prop}{S:Ah}(h:Ho J B N N2 Z s.heap ρ Bt)(u:Co T W s S)(p:∀a,W a->N2 a)(i:∀a,N2 a->N a)(U:¬W Z.locals)(j:∀n c,(n,c)∈Z.cells->¬W c):Ho J B N N2 Z S.heap ρ Bt:=
 ⟨h.one.upd u (λa q=>i a (p a q)) U j,h.two.upd u p U j,h.sl.upd u U j⟩
theorem I8.mono{N':An->Prop}{h:A9}(r:I8 J B N Z h ρ)(f:FU N N' h h):I8 J B N' Z h ρ:=λx d e kx=>by
 obtain⟨v,U,i⟩:=r x d e kx;exact⟨v,U,i.mono f⟩
theorem oR{W:An->Prop}{AK M S:Ah}{Af:An}(x:BM T s AK)(u:Co T (λa=>W a\/a=Af) AK M)(g:Fe T (·=Af) M S)(c:s.heap.get? Af=Ao):Co T W s S:=by
 have ne:∀b o,s.heap.get? b=V o->b≠Af:=λb o e q=>by rw[q,c]at e;cases e
 refine⟨λb o D m e=>?_,λb o m e t=>?_,λb C=>?_,λb t e=>g.tab b t (u.tab b t (x.tab b t e)),λi e=>g.gens i (u.gens i (x.gens i e)),g.os.trans (u.os.trans x.os)⟩
 ·exact g.keep b o D (ne b o e) (u.keep b o D (λq=>q.elim m (ne b o e)) (x.keep b o D e))
 ·exact g.keep2 b o (ne b o e) (u.keep2 b o (λq=>q.elim m (ne b o e)) (x.keep2 b o e t) t) t
 ·obtain⟨R,l,d⟩:=id C;obtain⟨o,e,t⟩:=u.occ b (C.ext x);exact⟨o,g.keep2 b o (ne b _ l) e t,t⟩
def Pt(Acc:A9->List Ag->Prop)(X:An->Prop):Prop:=∀(h h':A9) (I:List Ag),(∀b o,¬X b->h.get? b=V o->Hn o=Ak->h'.get? b=V o)->Acc h I->Acc h' I
theorem Pt.upd{Acc:A9->List Ag->Prop}{X W:An->Prop}{s S:Ah}{I:List Ag}(k:Pt Acc X)(u:Co T W s S)(h:∀a,W a->X a)(a:Acc s.heap I):Acc S.heap I:=k _ _ I (λb o n e t=>u.keep2 b o (λq=>n (h b q)) e t) a
theorem Pt.gone{Acc:A9->List Ag->Prop}{X W:An->Prop}{s S:Ah}{I:List Ag}(k:Pt Acc X)(u:Fe T W s S)(h:∀a,W a->X a)(a:Acc s.heap I):Acc S.heap I:=k _ _ I (λb o n e t=>u.keep2 b o (λq=>n (h b q)) e t) a
def VI:A9->List Ag->Prop:=λz z=>True
theorem Ym{X:An->Prop}:Pt VI X:=λz z z z z=>trivial
inductive Yn(Acc:A9->List Ag->Prop)(T:An->Prop)(J:Sg)(B:Nat->Av)(N N2 W BD:An->Prop)(Z:DS)(L:An)(ρ Bt:List (Nat×D))(O:List D)(s S:Ah):Prop
 |mk (upd:∃mid,Co T (λa=>W a\/BD a) s mid/\Fe T BD mid S) (acc:∃I:List Ag,S.heap.PlainList L I.toArray/\BV J N S.heap I O/\Acc S.heap I) (slots:FV Z S.heap) (rel:Ho J B N N2 Z S.heap ρ Bt)
theorem IT{W:An->Prop}{S:Ah}{D:An}{I:Array Ag}(u:Co T W s S)(h:s.heap.PlainList D I)(a:¬W D):S.heap.PlainList D I:=by
 obtain⟨m,e⟩:=h;exact⟨m,u.keep2 D _ a e rfl⟩
theorem VJ{W:An->Prop}{S:Ah}{D:An}{I:Array Ag}(u:Fe T W s S)(h:s.heap.PlainList D I)(a:¬W D):S.heap.PlainList D I:=by
 obtain⟨m,e⟩:=h;exact⟨m,u.keep2 D _ a e rfl⟩
theorem FV.gone{W:An->Prop}{S:Ah}(sl:FV Z s.heap)(u:Fe T W s S)(U:¬W Z.locals)(i:∀n c,(n,c)∈Z.cells->¬W c):FV Z S.heap:=by
 refine⟨?_,λn c hm=>?_,sl.apart⟩
 ·obtain⟨m,o,es,ep,e,d,r⟩:=sl.ns;exact⟨m,o,es,ep,u.keep2 _ o U e (JC (by rw[d];rfl)),d,r⟩
 ·obtain⟨v,o,e,d⟩:=sl.cells n c hm;exact⟨v,o,u.keep2 _ o (i n c hm) e (JC (by rw[d];rfl)),d⟩
theorem Fe.fits{W:An->Prop}{S:Ah}(x:Fe T W s S)(h:∀a,W a->N a):FU N N s.heap S.heap:=λa o n e c=>⟨n,x.keep2 a o (λq=>n (h a q)) e c⟩
theorem DH.gone{W:An->Prop}{S:Ah}{x:Av}{v:Ag}(u:Fe T W s S)(h:DH Z s.heap x v)(U:¬W Z.locals)(p:∀n c,(n,c)∈Z.cells->¬W c):DH Z S.heap x v:=by
 rcases h with⟨j,m,⟨o,es,ep,e,d,r⟩,i⟩|⟨j,q,c,i,⟨o,e,d⟩⟩
 ·exact .inl ⟨j,m,⟨o,es,ep,u.keep2 _ o U e (JC (by rw[d];rfl)),d,r⟩,i⟩
 ·exact .inr ⟨j,q,c,i,o,u.keep2 _ o (p _ _ (mem_of_lookup i)) e (JC (by rw[d];rfl)),d⟩
theorem I8.gone{W:An->Prop}{S:Ah}(h:I8 J B N Z s.heap ρ)(u:Fe T W s S)(i:∀a,W a->N a)(U:¬W Z.locals)(p:∀n c,(n,c)∈Z.cells->¬W c):I8 J B N Z S.heap ρ:=by
 intro y e j P;obtain⟨v,q,r⟩:=h y e j P;exact⟨v,q.gone u U p,r.mono (u.fits i)⟩
theorem Ho.gone{W:An->Prop}{S:Ah}(h:Ho J B N N2 Z s.heap ρ Bt)(u:Fe T W s S)(p:∀a,W a->N2 a)(i:∀a,N2 a->N a)(U:¬W Z.locals)(j:∀n c,(n,c)∈Z.cells->¬W c):Ho J B N N2 Z S.heap ρ Bt:=
 ⟨h.one.gone u (λa q=>i a (p a q)) U j,h.two.gone u p U j,h.sl.gone u U j⟩
theorem fY{C:List Nat}(ts:List Nat):KA (ts++C)=Y->KA C=Y/\∀x∈ts,x∉C:=by
 induction ts with
 |nil=>exact λh=>⟨h,λz h=>nomatch h⟩
 |cons t ts ih=>
  intro h;have h:=AH (show(!((ts++C).any λy=>As t y)&&KA (ts++C))=Y from h)
  obtain⟨U,G⟩:=ih h.2;refine⟨U,λx L o=>?_⟩
  rcases jC L with e|L
  ·rw[e]at o;exact List.any_eq_false.mp (A4 ..▸h.1) t (DV _ o) (Cs _)
  ·exact G x L o
def Yo(Acc:A9->List Ag->Prop)(Aj:Bh)(w:Ca)(A:A1)(T:An->Prop)(J:Sg)(mg mb:Av->Option Ag)(s0:Ah)(B:Nat->Av)(C:Nat->List D->Option D)(n:Nat)(b:Expr)(e:M)(gens:List A7)(scope:Scope)(pos:B9)
  (Z:DS)(Bt:List (Nat×D))(L:An)(W:An->Prop)(X:List Cl)(y:Nat):Prop:=
 ∀(N N2:An->Prop) (A6:List (Nat×D)) (s:Ah) (I:List Ag) (c R:List D) (E:Ag->Ah->Prop) (Q:Ah->Prop),
  (∀x∈IQ X,lk x (A6++Bt)=Ao)->(∀a,W a->N2 a)->(∀a,N2 a->N a)->MG (λA6=>ev C n A6 Bt) e X A6=V R->(c++R).length<=1000000->Bs T mg mb s0 s->Ho J B N N2 Z s.heap A6 Bt->
  FV Z s.heap->(∀a,N a->Da s.heap a)->s.heap.PlainList L I.toArray->BV J N s.heap I c->Acc s.heap I->
  (∀S,Co T W s S->(∃vs':List Ag,S.heap.PlainList L vs'.toArray/\BV J N S.heap vs' (c++R)/\Acc S.heap vs')->FV Z S.heap->Ho J B N N2 Z S.heap A6 Bt->Q S)->
  (match gens[y+1]? with
   |none=>Ap (Aq Aj w) A (C1 b Z) (λx j=>Ap (Aq Aj w) A (DP (.builtin "list.append") [.ref L,x]) (λz l=>Q l) E j) E s
   |some g=>Ap (Aq Aj w) A (C1 g.iter Z) (λx j=>Ap (Aq Aj w) A (Lg x) (λP l=>
     Ap (Aq Aj w) A (runOwn (.compStart (.ListComp b gens scope pos) (y+1) P (.ref L) Z) Z) (λz f=>Q f) E l) E j) E s)
theorem VK{z:Type}{l:List z}{n:Nat}{a:z}{r:List z}(h:l.drop n=a::r):l[n]?=V a/\l.drop (n+1)=r:=by
 refine⟨?_,?_⟩
 ·have:(l.drop n)[0]?=V a:=by rw[h];rfl
  rwa [H0,FR]at this
 ·have:(l.drop n).drop 1=r:=by rw[h];rfl
  rwa [JX]at this
theorem Ro{z:Type}{l:List z}{i:Nat}{a:z}(h:l[i]?=V a):i<l.length:=by
 rcases E6 i l.length with q|q
 ·exact q
 ·exact nS ((Dl q).symm.trans h)
theorem Yp{z:Type}{l:List z}{i:Nat}{a:z}(h:l[i]?=V a):l.drop i=a::l.drop (i+1):=by
 rw[Cu (Ro h),sI ((A8 (Ro h)).symm.trans h)]
theorem Yq{Acc:A9->List Ag->Prop}(hT:HZ Aj w T J mg mb s0 B fn C k n)(Mk:EA B){F6:Expr}{e:M}{gens:List A7}{scope:Scope}{pos:B9}{L:An}{W:An->Prop}
  (ha:Eo k A)(ok:IB Z sc)(Mo:∀a,W a->s0.heap.get? a=Ao)(Is:W L)(Ru:L≠Z.locals)(RF:∀n c,(n,c)∈Z.cells->c≠L)
  (R0:W Z.locals)
  (cs:List Cl)(gs:List A7)(tg NI:Expr)(Cx:List Expr)(t:List Nat)(CZ:Bool)(U:List M)(y:Nat)(hB:Yo Acc Aj w A T J mg mb s0 B C n F6 e gens scope pos Z Bt L W cs y)
  (F7:gens.drop y=⟨tg,NI,Cx,0⟩::gs)(N1:∀g,gens[y+1]?=V g->g.is_async=0/\∀x,B1 g.iter Z x=BU x)
  (OA:LF B sc tg t CZ=Y)(F1:GR (Bu B fn fo sc) Cx U=Y)(Gl:KA (t++IQ cs)=Y)(N N2 BD:An->Prop)(St:Nat->A9->Prop)(it:Ag)(items:List D)(ρ:List (Nat×D))(s:Ah)(i:Nat)
  (I:List Ag)(dn Bv:List D)(R:QL->Ah->Prop)
  (P:∀x∈t++IQ cs,lk x (ρ++Bt)=Ao)(CH:∀x∈t,Rl Z (λa=>W a/\a≠L) T (B x))(p:∀a,W a->N2 a/\¬BD a)(l:∀a,BD a->N2 a/\s0.heap.get? a=Ao)(j:∀a,N2 a->N a)
  (DD:¬BD Z.locals)(Ev:∀n c,(n,c)∈Z.cells->¬BD c)(IS:It Aj w A T J N tg it BD items St)(Go:St i s.heap)(hi:i<=items.length)
  (o:NP (MF (λA6=>ev C n A6 Bt) (MG (λA6=>ev C n A6 Bt) e cs) t CZ U ρ) (items.drop i)=V Bv)(F2:(dn++Bv).length<=1000000)(bs:Bs T mg mb s0 s)(rel:Ho J B N N2 Z s.heap ρ Bt)(sl:FV Z s.heap)
  (occ:∀a,N a->Da s.heap a)(E3:s.heap.PlainList L I.toArray)(E4:BV J N s.heap I dn)(hK:Pt Acc λa=>W a\/BD a)(u:Acc s.heap I)(q:∀S,Yn Acc T J B N N2 W BD Z L ρ Bt (dn++Bv) s S->R (.ok .next) S):
  FL (Aq Aj w) A (.compLoop (.ListComp F6 gens scope pos) y it (.ref L) Z) R s:=by
 have F3:∀a,(W a\/BD a)->s0.heap.get? a=Ao:=λa h=>h.elim (Mo a) λh=>(l a h).2
 have Rd:∀a,(W a\/BD a)->N2 a:=λa h=>h.elim (λh=>(p a h).1) λh=>(l a h).1
 refine codeAny_loop rfl (λm S=>∃(i:Nat) (I:List Ag) (f G:List D),m=items.length-i/\i<=items.length/\Co T (λa=>W a\/BD a) s S/\St i S.heap∧
  NP (MF (λA6=>ev C n A6 Bt) (MG (λA6=>ev C n A6 Bt) e cs) t CZ U ρ) (items.drop i)=V G/\dn++Bv=f++G/\S.heap.PlainList L I.toArray/\BV J N S.heap I f/\Acc S.heap I/\Ho J B N N2 Z S.heap ρ Bt/\FV Z S.heap)
  ?_ (items.length-i) ⟨i,I,dn,Bv,rfl,hi,.refl,Go,o,rfl,E3,E4,u,rel,sl⟩
 rintro m AK ⟨i,I,f,G,rfl,hi,Gt,Go,o,E5,E3,E4,u,rel,sl⟩
 show Ap _ A ((aP (.ListComp F6 gens scope pos) y it (.ref L) Z).onRaise (λx=>do Kb x Z;HE x)) _ _ _
 refine wpAny_noted ?_
 have R1:=bs.upd Gt F3;refine oj (VK F7).1 N1 ?_
 refine AM (IS.next i AK _ Go hi) (λr By I0=>?_) λK K e=>e
 induction r with
 |none=>
  obtain⟨rfl,g⟩:=I0;rw[I1]at o;cases o;rw[B7]at E5;rw[E5]at q;refine q By ⟨⟨AK,Gt,g⟩,⟨I,VJ g E3 (p L Is).2,E4.mono (g.fits λa h=>j a (l a h).1),hK.gone g (λa h=>.inr h) u⟩,sl.gone g DD Ev,rel.gone g (λa h=>(l a h).1) j DD Ev⟩
 |some v=>
  refine AM I0 (λK B4 Pk=>?_) λK K e=>e
  obtain⟨d,hd,F,I4,Lc⟩:=Pk;have Lt:=Ro hd;rw[Yp hd]at o;obtain⟨b1,H,o⟩:=Cn o;obtain⟨rest,GI,o⟩:=Cn o;obtain rfl:=sI o;obtain⟨A6,Q,H⟩:=Cn H;obtain⟨tb,LA,H⟩:=Cn H;have Pl:Co T (λa=>W a\/BD a) s B4:=Gt.trans (F.mono λa h=>.inr h)
  have Fn:∀x∈t,lk x (ρ++Bt)=Ao:=λx hx=>P x (Dv _ hx)
  refine nZ ha.handled ok Mk.inj (sl.upd F DD Ev) CH (rel.upd F (λa h=>(l a h).1) j DD Ev) (λa h=>(p a h.1).1) j Lc OA Q λLC X LS E=>?_
  have G0:=Pl.trans (X.mono λa h=>R9 h.1)
  have Hd:=bs.upd G0 F3;have Bd:∀a,N a->Da LC.heap a:=λa h=>G0.occ a (occ a h)
  have F4:=IT X (IT F E3 (p L Is).2) λh=>h.2 rfl
  have F5:=(E4.mono (F.fits λa h=>j a (l a h).1)).mono (X.fits λa h=>j a (p a h.1).1)
  have Ce:=hK.upd X (λa h=>.inl h.1) (hK.upd F (λa h=>.inr h) u)
  have LZ:∀(S:Ah) (vs':List Ag) (b:List D),Co T W LC S->b++rest=b1++rest->S.heap.PlainList L vs'.toArray->BV J N S.heap vs' (f++b)->Acc S.heap vs'->FV Z S.heap->Ho J B N N2 Z S.heap A6 Bt->
    ∃m,m<items.length-i/\∃(i:Nat) (I:List Ag) (f G:List D),m=items.length-i/\i<=items.length/\Co T (λa=>W a\/BD a) s S/\St i S.heap∧
     NP (MF (λA6=>ev C n A6 Bt) (MG (λA6=>ev C n A6 Bt) e cs) t CZ U ρ) (items.drop i)=V G/\dn++Bv=f++G/\S.heap.PlainList L I.toArray/\BV J N S.heap I f/\Acc S.heap I/\Ho J B N N2 Z S.heap ρ Bt/\FV Z S.heap:=by
   intro S vs' b u' hb L1 L2 HC HF Cf;refine⟨items.length-(i+1),Nat.sub_lt_sub_left Lt (Ct i),i+1,vs',f++b,rest,rfl,Lt,G0.trans (u'.mono λa h=>.inl h),?_,GI,?_,L1,L2,HC,Cf.less Q Fn,HF⟩
   ·exact IS.frame _ _ _ W I4 ((X.mono λa h=>h.1).trans u') λa h=>⟨j a (p a h).1,(p a h).2⟩
   ·rw[Cv,hb,<-E5]
  induction tb with
  |false=>
   obtain rfl:=sI H;refine fX @hT Cx ⟨ha,ok,Hd,E,j,Bd⟩ F1 LA λIf z=>?_
   rw[if_neg AR];refine⟨rfl,LZ If I [] z.upd rfl (IT (W:=λK=>False) z.upd F4 λh=>h) (by rw[B7];exact F5.mono z.fits) (hK.upd (W:=λK=>False) z.upd (λK h=>h.elim) Ce) (LS.upd (W:=λK=>False) z.upd (λh=>h) λK K K h=>h) (E.ext z)⟩
  |true=>
   refine fX @hT Cx ⟨ha,ok,Hd,E,j,Bd⟩ F1 LA λIf z=>?_
   rw[if_pos rfl];have Il:(f++b1).length<=1000000:=by
    have:(dn++Bv).length=(f++(b1++rest)).length:=by rw[E5]
    rw[Bm,Bm,Bm]at this;rw[Bm]at F2 ⊢;exact Am (Cw (AQ _ _) _) (this▸F2)
   have F0:∀x∈IQ cs,lk x (A6++Bt)=Ao:=λx hx=>by
    have h1:=P x (DV _ hx);have PX:x∉t:=λht=>(fY _ Gl).2 x ht hx
    rw[VH]at h1 ⊢;rw[Yl Q PX];exact h1
   refine hB N N2 A6 If I f b1 _ _ F0 (λa h=>(p a h).1) j H Il (Hd.step z) (E.ext z) (LS.upd (W:=λK=>False) z.upd (λh=>h) λK K K h=>h) (λa h=>(Bd a h).ext z)
    (IT (W:=λK=>False) z.upd F4 λh=>h) (F5.mono z.fits) (hK.upd (W:=λK=>False) z.upd (λK h=>h.elim) Ce) λS u' hA HF Cf=>?_
   obtain⟨vs',P1,P2,P4⟩:=hA;exact⟨rfl,LZ S vs' b1 (z.upd.trans u') rfl P1 P2 P4 HF Cf⟩
theorem oS(hS:D0 Aj w T J mg mb s0 B fn C k n){r:Expr}{e:M}{gens:List A7}{scope:Scope}{pos:B9}{L:An}{W:An->Prop}
  (g:Eo k A)(ok:IB Z sc)(x:Bu B fn fo sc r e=Y)(o:W L)(H:¬T L)(z:L≠Z.locals)(D:∀n c,(n,c)∈Z.cells->c≠L){y:Nat}(hg:gens[y+1]?=Ao):
  Yo VI Aj w A T J mg mb s0 B C n r e gens scope pos Z Bt L W [] y:=by
 intro N N2 A6 s I dn b1 E Q P G p X f bs rel sl occ R F _ q;rw[hg];dsimp only;obtain⟨d,hd,X⟩:=M6 X;obtain rfl:=X
 ·refine hS ⟨g,ok,bs,rel,p,occ⟩ x hd λv AK i U=>?_
  have l:=IT (W:=λK=>False) i.upd R λh=>h
  refine Hg (hsz:=?_) l λh' b t=>?_
  rotate_left
  ·rw[AD,F.length];rw[Bm]at f;exact Am (Am (AQ _ _) f) (by decide)
  ·have u:Co T (·=L) AK {AK with heap:=h'}:=.of_but (tk:=AK.toks) t (by obtain⟨m,e⟩:=b;exact⟨_,e,rfl⟩) H (.lst l)
   have uu:Co T W s {AK with heap:=h'}:=i.upd.trans (u.mono λa e=>e▸o)
   have j:=u.fits (N:=N) λa e=>e▸p _ (G _ o)
   refine q _ uu ⟨I++[v],?_,(F.mono i.fits).append (.cons U .nil) |>.mono j,trivial⟩ ?_ ?_
   ·simpa using b
   ·exact(sl.upd (W:=λK=>False) i.upd (λh=>h) λK K K h=>h).upd u (λe=>z e.symm) λn c hm e=>D n c hm e
   ·exact(rel.ext i).upd u (λa e=>e▸G _ o) p (λe=>z e.symm) λn c hm e=>D n c hm e
theorem oT(hS:D0 Aj w T J mg mb s0 B fn C k n)(hT:HZ Aj w T J mg mb s0 B fn C k n)(Mk:EA B){Gl:Expr}{e:M}{gens:List A7}{scope:Scope}{pos:B9}{L:An}{W:An->Prop}
  (ha:Eo k A)(ok:IB Z sc)(Mo:Bu B fn fo sc Gl e=Y)(N1:∀a,W a->s0.heap.get? a=Ao)(Go:W L)(Sd:¬T L)(Gt:L≠Z.locals)(GI:∀n c,(n,c)∈Z.cells->c≠L)(OA:W Z.locals):
  ∀(cs:List Cl) (gs:List A7) (tg X:Expr) (P:List Expr) (t:List Nat) (CZ:Bool) (U:List M) (b:Nat) (N N2 BD:An->Prop) (St:Nat->A9->Prop) (it:Ag) (items:List D) (ρ:List (Nat×D)) (s:Ah) (i:Nat)
   (I:List Ag) (dn Bv:List D) (R:QL->Ah->Prop),
  gens.drop b=⟨tg,X,P,0⟩::gs->LF B sc tg t CZ=Y->GR (Bu B fn fo sc) P U=Y->VB (Bu B fn fo) B sc gs cs=Y->KA (t++IQ cs)=Y->
  (∀x∈t++IQ cs,lk x (ρ++Bt)=Ao)->(∀x∈t++IQ cs,Rl Z (λa=>W a/\a≠L) T (B x))->(∀a,W a->N2 a/\¬BD a)->(∀a,BD a->N2 a/\s0.heap.get? a=Ao)->(∀a,N2 a->N a)->
  ¬BD Z.locals->(∀n c,(n,c)∈Z.cells->¬BD c)->It Aj w A T J N tg it BD items St->St i s.heap->i<=items.length->
  NP (MF (λA6=>ev C n A6 Bt) (MG (λA6=>ev C n A6 Bt) e cs) t CZ U ρ) (items.drop i)=V Bv->(dn++Bv).length<=1000000->Bs T mg mb s0 s->Ho J B N N2 Z s.heap ρ Bt->FV Z s.heap->(∀a,N a->Da s.heap a)->
  s.heap.PlainList L I.toArray->BV J N s.heap I dn->(∀S,Yn VI T J B N N2 W BD Z L ρ Bt (dn++Bv) s S->R (.ok .next) S)->
  FL (Aq Aj w) A (.compLoop (.ListComp Gl gens scope pos) b it (.ref L) Z) R s:=by
 intro cs
 induction cs with
 |nil=>
  intro gs tg X P t CZ U b N N2 BD St it items ρ s i I dn Bv R p G0 Bd Ce z H j Hd Cf HC HF If Il Is hi Cx F bs rel sl occ CH DD q;obtain rfl:=Pq Ce;have Ev:gens[b+1]?=Ao:=by
   have:=(VK p).2;exact Dl (List.drop_eq_nil_iff.mp this)
  exact Yq @hT Mk ha ok N1 Go Gt GI OA [] [] tg X P t CZ U b (oS @hS ha ok Mo Go Sd Gt GI Ev) p (λg hg=>by exact nS (Ev.symm.trans hg)) G0 Bd z N N2 BD St it items ρ s i I dn Bv R
   H (λx hx=>j x (Dv _ hx)) Hd Cf HC HF If Il Is hi Cx F bs rel sl occ CH DD Ym trivial q
 |cons c' U4 ih=>
  intro gs tg X P t CZ U b N N2 BD St it items ρ s i I dn Bv R p G0 Bd Ce z H j Hd Cf HC HF If Il Is hi Cx F bs rel sl occ CH DD q;obtain⟨g',Sg,rfl,hc,IS⟩:=Qj Ce;obtain⟨Si,Pk,U3,U5,I4⟩:=c';obtain⟨Pl,SC,PX,P1⟩:=g';obtain⟨has,hc⟩:=AH hc;obtain rfl:P1=0:=AA has;obtain⟨SI,hc⟩:=AH hc;obtain⟨P2,Tx⟩:=AH hc;have l:=(VK p).2;have Lc:=(VK l).1;have E5:=(fY _ z).1;refine Yq @hT Mk ha ok N1 Go Gt GI OA _ _ tg X P t CZ U b ?_ p (λg hg=>by
   rw[Lc]at hg;cases hg;exact⟨rfl,Yi P2 Z⟩) G0 Bd z N N2 BD St it items ρ s i I dn Bv R
   H (λx hx=>j x (Dv _ hx)) Hd Cf HC HF If Il Is hi Cx F bs rel sl occ CH DD Ym trivial q
  intro N N2 A6 s I dn b1 E Q Fn F3 E3 E4 F bs rel sl occ CH DD _ q;rw[Lc];dsimp only;obtain⟨U6,TI,E4⟩:=Cn E4;obtain⟨F0,F1,E4⟩:=Cn E4;refine Yk @hS ⟨ha,ok,bs,rel,E3,occ⟩ P2 TI F1 λx AK G TO=>?_
  refine TO A E _ ha.handled λP4 By Af u hI Lt TP=>?_
  have F2:=bs.step G;have I0:s0.heap.get? Af=Ao:=by
   cases e:s0.heap.get? Af with
   |none=>rfl
   |some o=>
    by_cases LA:T Af
    ·obtain⟨_,e',_⟩:=F2.ext.tab Af LA (F2.tabs Af LA);rw[hI]at e';exact nS e'
    ·have:=F2.ext.keep Af o LA e;rw[hI]at this;exact nS this
  have LC:∀a,Da AK.heap a->a≠Af:=λa hO q=>hO.elim λo h=>nS (hI.symm.trans (q▸h.1))
  have LS:FV Z AK.heap:=sl.upd (W:=λK=>False) G.upd (λh=>h) λK K K h=>h
  have NI:∀a,N a->a≠Af:=λa h=>LC a ((occ a h).ext G)
  have LZ:FU N (λa=>N a\/a=Af) AK.heap By.heap:=λa o hn e c=>⟨λh=>h.elim hn λh=>(by rw[h,hI]at e;cases e),u.keep2 a o e c⟩
  obtain⟨Rd,F4,F5⟩:=TP A Pl (λa=>N a\/a=Af) ha.handled (λa h=>.inl h) (.inr rfl) LZ
  have Ru:Z.locals≠Af:=by obtain⟨m,hm⟩:=LS.ns;exact LC _ (Ql hm)
  have RF:∀n c,(n,c)∈Z.cells->c≠Af:=λn c hm=>by obtain⟨v,hv⟩:=LS.cells n c hm;exact LC _ (Rk hv)
  have R0:FU N2 (λa=>N2 a\/a=Af) AK.heap By.heap:=λa o hn e c=>⟨λh=>h.elim hn λh=>(by rw[h,hI]at e;cases e),u.keep2 a o e c⟩
  have R1:Ho J B (λa=>N a\/a=Af) (λa=>N2 a\/a=Af) Z By.heap A6 Bt:=by
   have L1:=rel.ext G;refine⟨λy d hl hk=>?_,λy d hl hk=>?_,L1.sl.ext u⟩
   ·obtain⟨v,h1,h2⟩:=L1.one y d hl hk;exact⟨v,h1.ext u,h2.mono LZ⟩
   ·obtain⟨v,h1,h2⟩:=L1.two y d hl hk;exact⟨v,h1.ext u,h2.mono R0⟩
  have loop:FL (Aq Aj w) A (.compLoop (.ListComp Gl gens scope pos) (b+1) P4 (.ref L) Z) (λr S=>match r with| .ok f=>Q S| .error e=>cameBackBy (Aq Aj w) A Z E e S) By:=by
   refine ih Sg Pl SC PX Si Pk I4 (b+1) (λa=>N a\/a=Af) (λa=>N2 a\/a=Af) (·=Af) Rd P4 F0 A6 By 0 I dn b1 _ l SI Tx IS E5 Fn (λx hx=>j x (DV _ hx))
    (λa h=>⟨.inl (F3 a h),NI a (E3 a (F3 a h))⟩) (λa h=>⟨.inr h,h▸I0⟩) (λa h=>h.elim (λh=>.inl (E3 a h)) .inr) Ru RF F4 F5 (Be _) (C7▸E4) F (F2.step u) R1
    (LS.upd (W:=λK=>False) u.upd (λh=>h) λK K K h=>h) (λa h=>h.elim (λh=>((occ a h).ext G).ext u) λh=>h▸Lt) (IT (W:=λK=>False) (G.trans u).upd CH λh=>h) ((DD.mono G.fits).mono LZ) λS hd=>?_
   obtain⟨⟨Va,um,gm⟩,⟨vs',TT,U2,_⟩,R2,F6⟩:=hd;have F7:FU (λa=>N a\/a=Af) N S.heap S.heap:=λa o hn e c=>⟨λh=>hn (.inl h),e⟩
   have L2:FU (λa=>N2 a\/a=Af) N2 S.heap S.heap:=λa o hn e c=>⟨λh=>hn (.inl h),e⟩
   exact q S (G.upd.trans (oR u um gm hI)) ⟨vs',TT,U2.mono F7,trivial⟩ R2 ⟨F6.one.mono F7,F6.two.mono L2,R2⟩
  refine wpAny_runOwn ?_
  exact fN Lc rfl loop (F4.self 0 By _ _ F5 loop)
theorem Bs.free(bs:Bs T mg mb s0 s){a:An}(h:s.heap.get? a=Ao):s0.heap.get? a=Ao:=by
 cases e:s0.heap.get? a with
 |none=>rfl
 |some o=>
  by_cases i:T a
  ·obtain⟨_,j,_⟩:=bs.ext.tab a i (bs.tabs a i);exact nS (h.symm.trans j)
  ·exact nS (h.symm.trans (bs.ext.keep a o i e))
theorem Bs.low(bs:Bs T mg mb s0 s){a:An}(h:s.heap.objs.size<=a):s0.heap.get? a=Ao:=bs.free (HX h)
theorem Fe.of_but{a:An}{h':A9}(i:C3 a s.heap h')(j:¬T a)(E:IA s.heap a):Fe T (·=a) s {s with heap:=h'}:=
 ⟨λb o z n e=>(i.2 b n).trans e,λb o n e z=>(i.2 b n).trans e,λb p t=>t.keep (λc o y e=>(i.2 c (λq=>(q▸E).absurd y e)).trans e) (λo e=>(i.2 b (λq=>j (q▸p))).trans e),λz e=>e,rfl⟩
structure S1(B fn:Nat->Av)(fo:Nat)(sc:List (Av×AC))(elt:Expr)(gens:List A7)(scope:Scope)(e:M)(c:Cl)(cs:List Cl):Prop where
 kind:scope.kind= .function
 names:Pr sc scope.names=Y
 dist:KA (IQ (c::cs))=Y
 tgs:((IQ (c::cs)).all λx=>(scope.names.lookup (B x)==V .local||scope.names.lookup (B x)==V .cell))=Y
 own:(scope.names.all λp=>!(p.2==.local||p.2==.cell)||p.1==(".0":Av)||(IQ (c::cs)).any λx=>B x==p.1)=Y
 elt:Bu B fn fo (KP sc scope.names) elt e=Y
 cls:∃g gs,gens=g::gs/\XX (Bu B fn fo) B sc (KP sc scope.names) g c=Y/\VB (Bu B fn fo) B (KP sc scope.names) gs cs=Y
theorem Yr{W:Expr}{gens:List A7}{scope:Scope}{e:M}{X:List Cl}(h:XY (Bu B fn fo) B sc e X W gens scope=Y):∃c r,X=c::r/\S1 B fn fo sc W gens scope e c r:=by
 cases X with
 |nil=>exact bF h
 |cons c r=>
  induction gens with
  |nil=>exact bF h
  |cons g gs=>
   obtain⟨U,h⟩:=AH h;obtain⟨G,h⟩:=AH h;obtain⟨z,h⟩:=AH h;obtain⟨l,h⟩:=AH h;obtain⟨D,h⟩:=AH h;obtain⟨m,h⟩:=AH h;exact⟨c,r,rfl,AA U,G,z,(AH h).1,(AH h).2,m,g,gs,rfl,l,D⟩
theorem S1.sync{W:Expr}{gens:List A7}{scope:Scope}{e:M}{c:Cl}{X:List Cl}(y:S1 B fn fo sc W gens scope e c X):firstAsync gens=Ak:=by
 obtain⟨⟨i,P,Q,q⟩,gs,r,E,_⟩:=y.cls;obtain⟨t,CZ,k,it,C⟩:=c
 apply AO r
 apply AO (show q=0 from AA (AH E).1);rfl
def Ys(Aj:Bh)(w:Ca)(A:A1)(T:An->Prop)(J:Sg)(mg mb:Av->Option Ag)(s0:Ah)(B fn:Nat->Av)(C:Nat->List D->Option D)(n fo:Nat)(Acc:An->A9->List Ag->Prop)
  (b:Expr)(e:M)(scope:Scope)(pos:B9)(tg i:Expr)(d:List Expr)(gs:List A7)(t:List Nat)(CZ:Bool)(U:List M)(X:List Cl):Prop:=
 ∀(Z:DS) (sc:List (Av×AC)) (L:An) (W N N2 BD:An->Prop) (St:Nat->A9->Prop) (it:Ag) (items:List D) (ρ Bt:List (Nat×D)) (s:Ah) (Bv:List D) (R:QL->Ah->Prop),
  IB Z sc->Bu B fn fo sc b e=Y->(∀a,W a->s0.heap.get? a=Ao)->W L->¬T L->L≠Z.locals->(∀n c,(n,c)∈Z.cells->c≠L)->W Z.locals->
  LF B sc tg t CZ=Y->GR (Bu B fn fo sc) d U=Y->VB (Bu B fn fo) B sc gs X=Y->KA (t++IQ X)=Y->
  (∀x∈t++IQ X,lk x (ρ++Bt)=Ao)->(∀x∈t++IQ X,Rl Z (λa=>W a/\a≠L) T (B x))->(∀a,W a->N2 a/\¬BD a)->(∀a,BD a->N2 a/\s0.heap.get? a=Ao)->(∀a,N2 a->N a)->
  ¬BD Z.locals->(∀n c,(n,c)∈Z.cells->¬BD c)->It Aj w A T J N tg it BD items St->St 0 s.heap->
  NP (MF (λA6=>ev C n A6 Bt) (MG (λA6=>ev C n A6 Bt) e X) t CZ U ρ) items=V Bv->Bv.length<=1000000->Bs T mg mb s0 s->Ho J B N N2 Z s.heap ρ Bt->FV Z s.heap->(∀a,N a->Da s.heap a)->
  s.heap.PlainList L #[]->(∀a,W a\/BD a->a<s.heap.objs.size)->(∃a,W a/\s.heap.objs.size=a+1)->(∀S,Yn (Acc s.heap.objs.size) T J B N N2 W BD Z L ρ Bt Bv s S->R (.ok .next) S)->
  FL (Aq Aj w) A (.compLoop (.ListComp b (⟨tg,i,d,0⟩::gs) scope pos) 0 it (.ref L) Z) R s
def fZ:An->A9->List Ag->Prop:=λz=>VI
theorem oU(hS:D0 Aj w T J mg mb s0 B fn C k n)(H:HZ Aj w T J mg mb s0 B fn C k n)(h:EA B)(g:Eo k A){j:Expr}{e:M}{scope:Scope}{pos:B9}{tg i:Expr}{f:List Expr}{gs:List A7}{t:List Nat}{CZ:Bool}{b:List M}{X:List Cl}:
  Ys Aj w A T J mg mb s0 B fn C n fo fZ j e scope pos tg i f gs t CZ b X:=by
 intro Z sc L W N N2 BD St it items ρ Bt s Bv R ok m l p r u d v U G h3 h4 h5 h6 h7 h8 h9 o P D x a y z E F Q c _ _ q;exact oT @hS @H h g ok m l p r u d v X gs tg i f t CZ b 0 N N2 BD St it items ρ s 0 [] [] Bv R rfl U G h3 h4 h5 h6 h7 h8 h9 o P D x (Be _)
  (C7▸a) (by rw[G1];exact y) z E F Q c .nil q
theorem Yt{Acc:An->A9->List Ag->Prop}(hS:D0 Aj w T J mg mb s0 B fn C k n)(hT:HZ Aj w T J mg mb s0 B fn C k n)(NI:EA B)(cx:Cx T J mg mb s0 B k A Z sc ρ Bt N N2 s)
  {F2:Expr}{gens:List A7}{scope:Scope}{pos N1:B9}{e:M}{c:Cl}{cs:List Cl}{d:D}{use:Option (Ag->JZ Unit)}{Q:Ag->Ah->Prop}(co:S1 B fn fo sc F2 gens scope e c cs)
  (hK:∀lo,Pt (Acc lo) λa=>a<lo)(It:∀tg i P gs t CZ kk ms U,gens=⟨tg,i,P,0⟩::gs->c= .mk t CZ kk ms U->Ys Aj w A T J mg mb s0 B fn C n fo Acc F2 e scope pos tg i P gs t CZ U cs)
  (X:ev C (n+1) ρ Bt (.comp e (c::cs))=V d)(qn:use=Ao->∀L I Bv S lo,(∀b,lo<=b->s.heap.get? b=Ao)->L<lo->Acc lo S.heap I->d= .lst Bv->BM T s S->s.heap.get? L=Ao->¬T L->S.heap.PlainList L (ET I)->BV J (λa=>N a\/a=L) S.heap I Bv->¬N L->Q (.ref L) S)
  (qs:∀u,use=V u->∀L I Bv S Cl m lo,(∀b,lo<=b->s.heap.get? b=Ao)->L<lo->Cl<lo->Acc lo S.heap I->d= .lst Bv->BM T s S->s.heap.get? L=Ao->¬T L->S.heap.PlainList L (ET I)->BV J (λa=>(N a\/a=L)\/a=Cl) S.heap I Bv->¬N L->L≠Cl->S.heap.Ns Cl m->s.heap.get? Cl=Ao->¬T Cl->
   Ap (Aq Aj w) A (u (.ref L)) (λK DK=>∃m,DK.heap.Ns Cl m/\∀h',C3 Cl DK.heap h'->Q .none {DK with heap:=h'}) E S):
  Ap (Aq Aj w) A (lb (.ListComp F2 gens scope pos) scope Z N1 (newList []) Ak (firstIter gens Z) use) Q E s:=by
 obtain⟨g,gs,rfl,CH,OA⟩:=co.cls;obtain⟨t,CZ,kk,ms,U⟩:=c;obtain⟨tg,i,P,as⟩:=g;obtain⟨ha,ok,bs,rel,Pk,occ⟩:=cx;obtain⟨has,CH⟩:=AH CH;obtain rfl:as=0:=AA has;obtain⟨U2,CH⟩:=AH CH;obtain⟨Pl,U3⟩:=AH CH;obtain⟨O,D4,X⟩:=Cn X;obtain⟨items,F3,X⟩:=Cn X;obtain⟨Bv,Gt,X⟩:=Cn X;obtain⟨F4,X⟩:=De X;obtain rfl:=sI X
 generalize F5:t++IQ cs=ts at Gt
 have GI:IQ (Cl.mk t CZ kk ms U::cs)=ts:=F5;have I4:=co.dist;have G0:=co.tgs;have Hd:=co.own;rw[GI]at G0 Hd;have HC:∀B4:Ah,FV Z B4.heap->_:=λB4 U4=>oG (J:=J) (s:=B4) (ts:=ts) ok U4 co.kind co.names G0 Hd NI.inj NI.dot
 obtain⟨Lc,F6,_⟩:=HC s rel.sl;refine wpAny_comprehension_free (g:=⟨tg,i,P,0⟩) (gs:=gs) rfl (Yi Pl Z) Lc co.kind F6 ?_
 refine Yk @hS ⟨ha,ok,bs,rel,Pk,occ⟩ Pl D4 F3 λx AK p U5=>?_
 have F7:=bs.step p;refine U5 A E _ ha.handled λit By Af r hI R U6=>?_
 have Lt:=F7.step r;refine Bi (oq ?_)
 dsimp only
 generalize DD:({By with heap:=By.heap.push {cls:=.type "list",dict:=Ao,data:=.seq ([]:List Ag).toArray}}:Ah)=B4
 have z:BM T By B4:=DD▸.push (tk:=By.toks);have Ev:B4.heap.objs.size=By.heap.objs.size+1:=DD▸B6 ..;have hL:B4.heap.get? By.heap.objs.size=V (Gf #[] 0):=DD▸Ay _ rfl;rw[show(By.heap.push {cls:=.type "list",dict:=Ao,data:=.seq ([]:List Ag).toArray})=B4.heap by rw[<-DD]]
 obtain⟨_,_,PX,Bd,E3,G⟩:=HC B4 ((rel.sl.ext p).ext r |>.ext z)
 generalize P1:D7 (B4.heap.push {cls:=.type "dict",data:=.dict #[]}) scope.names=LA at Bd E3 G ⊢
 generalize LS:({B4 with heap:=LA}:Ah)=f
 apply AO (show({heap:=LA,gens:=By.gens,drawn:=By.drawn,toks:=By.toks,os:=By.os}:Ah)=f by apply CE LS;apply CE DD;rfl)
 have hh:f.heap=LA:=by apply CE LS;rfl
 rw[<-hh]at Bd E3 G;have x4:BM T B4 f:=by
  apply CE LS;apply CE P1
  exact .of_keeps (tk:=B4.toks) λb o e=>F8 _ _ _ _ (Au _ e)
 change FL (Aq Aj w) A (.compStart _ 0 it _ (Qm scope (HK Z scope.names []) B4.heap.objs.size Z)) _ f
 generalize P2:Qm scope (HK Z scope.names []) B4.heap.objs.size Z=j at PX Bd E3 G
 have l:j.locals=B4.heap.objs.size:=by apply CE P2;rfl
 have HF:j.cells=B5 (B4.heap.objs.size+1) scope.names (HK Z scope.names []):=by apply CE P2;rfl
 generalize E4:By.heap.objs.size=L at hL Ev ⊢
 generalize P4:B4.heap.objs.size=Cl at l HF Ev E3 ⊢
 have Bs:Cl=L+1:=Ev;have LC: @O2 Nat instLTNat L Cl:=by apply AO Bs;exact Ct L
 have Il: @O2 Nat instLTNat Af L:=E4▸R.lt;have Ce:∀a o,AK.heap.get? a=V o->Hn o=Ak->(@O2 Nat instLTNat a L)/\a≠Af:=λa o e t=>⟨E4▸AY (r.keep2 a o e t),λq=>by rw[q,hI]at e;cases e⟩
 have Rd:∀a,N a->(@O2 Nat instLTNat a L)/\a≠Af:=λa h=>by obtain⟨o,e,t⟩:=(occ a h).ext p;exact Ce a o e t
 have H:∀a,T a->(@O2 Nat instLTNat a L):=λa h=>E4▸Lt.lt a h
 have LZ:∀a,(@R6 Nat instLENat L a)->s0.heap.get? a=Ao:=λa h=>Lt.low (by rw[E4];exact h)
 have F:∀a,(@R6 Nat instLENat L a)->s.heap.get? a=Ao:=λa h=>by
  cases e:s.heap.get? a with
  |none=>rfl
  |some o=>
   by_cases ht:T a
   ·exact absurd (H a ht) (Nat.not_lt.mpr h)
   ·have:=AY (r.keep a o ht (p.keep a o ht e));rw[E4]at this;exact absurd this (Nat.not_lt.mpr h)
 have I0:=F7.free hI;have IS:s.heap.get? Af=Ao:=by
  cases e:s.heap.get? Af with
  |none=>rfl
  |some o=>
   by_cases ht:T Af
   ·obtain⟨_,e',_⟩:=F7.ext.tab Af ht (F7.tabs Af ht);exact nS (hI.symm.trans e')
   ·have:=p.keep Af o ht e;exact nS (hI.symm.trans this)
 let W:An->Prop:=λa=>a=L\/((@R6 Nat instLENat Cl a)/\(@O2 Nat instLTNat a f.heap.objs.size))
 have Wl:∀a,W a->(@R6 Nat instLENat L a):=λa h=>h.elim (λh=>Al h.symm) λh=>Am (CN LC) h.1
 let N':An->Prop:=λa=>N a\/a=Af\/W a
 let Js:An->Prop:=λa=>N2 a\/a=Af\/W a
 have E5:∀(M:An->Prop),FU M (λa=>M a\/a=Af\/W a) AK.heap By.heap:=λM a o hn e c=>
  ⟨λh=>h.elim hn λh=>h.elim (Ce a o e c).2 λh=>absurd (Ce a o e c).1 (Nat.not_lt.mpr (Wl a h)),r.keep2 a o e c⟩
 obtain⟨St,L1,Va⟩:=U6 A tg N' ha.handled (λa h=>.inl h) (.inr (.inl rfl)) (E5 N)
 have Fn:BM T By f:=z.trans x4;have If:St 0 f.heap:=L1.frame 0 _ _ (λK=>False) Va Fn.upd λK h=>h.elim
 have Ru:Ho J B N' Js j f.heap (Dn ts ρ) (Dn ts Bt):=by
  have RF:=rel.ext p;refine⟨G ρ N' N' ?_ x4.fits,?_,Bd⟩
  ·intro y d hl hk;obtain⟨v,h1,h2⟩:=RF.one y d hl hk;exact⟨v,(h1.ext r).ext z,(h2.mono (E5 N)).mono z.fits⟩
  ·apply CE fU
   refine G (ρ++Bt) Js Js ?_ x4.fits
   intro y d hl hk;obtain⟨v,h1,h2⟩:=RF.two y d hl hk;exact⟨v,(h1.ext r).ext z,(h2.mono (E5 N2)).mono z.fits⟩
 have Gl:f.heap.get? L=V (Gf #[] 0):=x4.keep2 L _ hL rfl;have R0:∀a,N' a->Da f.heap a:=by
  rintro a (h|rfl|rfl|h)
  ·exact(((occ a h).ext p).ext r).ext Fn
  ·exact R.ext Fn
  ·exact⟨_,Gl,rfl⟩
  ·rw[hh,<-P1]at h ⊢;by_cases q:a=Cl
   ·apply AO q;apply CE P4
    exact⟨_,F8 _ _ _ _ (Ay _ rfl),rfl⟩
   ·refine oC _ _ a ?_ h.2
    have:=h.1;rw[B6,P4];exact C2 this (IY q)
 have R1:∀n c,(n,c)∈j.cells->c≠L:=λn c hm q=>by
  obtain⟨v,o,e,d⟩:=Bd.cells n c hm;rw[q,Gl]at e;cases e;cases d
 have R2:∀n c,(n,c)∈j.cells->¬c=Af:=λn c hm q=>by
  rw[HF]at hm;rcases ot _ _ _ _ _ hm with h|⟨_,h⟩
  ·rcases fQ _ _ _ _ h with h|⟨_,h⟩
   ·cases h
   ·obtain⟨v,hv⟩:=rel.sl.cells n c (mem_of_lookup h);obtain⟨o,e,t⟩:=(Rk hv).ext p;exact(Ce c o e t).2 q
  ·have h:=q▸h;exact AN _ (CO (CO (Ot h) Il) LC)
 have F0:W j.locals:=by
  obtain⟨m,hm⟩:=Bd.ns;have:=hm.lt;rw[l]at this ⊢;exact .inr ⟨AI _,this⟩
 have Vd:∀x∈ts,lk x (Dn ts ρ++Dn ts Bt)=Ao:=λx hx=>fU▸oF hx
 have loop:FL (Aq Aj w) A (.compLoop (.ListComp F2 (⟨tg,i,P,0⟩::gs) scope pos) 0 it (.ref L) j) (compPost (Aq Aj w) A E use Q (.ref L) Cl) f:=by
  have L2:∀a,W a\/a=Af->a<f.heap.objs.size:=λa h=>by
   rcases h with(h|h)|h
   ·apply AO h;exact AY Gl
   ·exact h.2
   ·apply AO h;exact(R.ext Fn).lt
  have Sd:∃a,W a/\f.heap.objs.size=a+1:=by
   have hc:=F0;rcases hc with h|⟨h1,h2⟩
   ·rw[l]at h;exact absurd h (Dx LC)
   ·refine⟨f.heap.objs.size-1,.inr ⟨?_,?_⟩,?_⟩
    ·rw[l]at h2;exact MA h2
    ·exact Nat.sub_one_lt_of_lt h2
    ·exact(KX (AG (Be _) h2)).symm
  refine It tg i P gs t CZ kk ms U rfl rfl j (KP sc scope.names) L W N' Js (·=Af) St it items (Dn ts ρ) (Dn ts Bt) f Bv _ PX co.elt (λa h=>LZ a (Wl a h)) (.inl rfl) (λh=>AN _ (H L h)) (by rw[l];apply AO Bs;exact Bn (Ct L)) R1 F0
   U2 U3 OA (by rw[F5];apply CE GI;exact I4) (F5.symm▸Vd) ?_ ?_ ?_ ?_ ?_ R2 L1 If
   Gt (D8 F4) ((Lt.step z).step x4) Ru Bd R0 ⟨0,Gl⟩ L2 Sd λS hd=>?_
  ·rw[F5];intro y hy;obtain⟨a,h1,h2,h3⟩:=E3 y hy;have h2: @R6 Nat instLENat Cl a:=h2;exact⟨a,h1,⟨.inr ⟨h2,h3⟩,λq=>BH LC (q▸h2)⟩,λh=>AN _ (CO (AG h2 (H a h)) LC)⟩
  ·exact λa h=>⟨.inr (.inr h),λq=>BH Il (q▸Wl a h)⟩
  ·exact λa h=>⟨.inr (.inl h),h▸I0⟩
  ·exact λa h=>h.elim (λh=>.inl (Pk a h)) .inr
  ·intro q;rw[l]at q;exact AN _ (CO (q.symm▸Il) LC)
  ·obtain⟨⟨XP,um,gm⟩,⟨I,Go,Vn,Is⟩,Wk,Xt⟩:=hd;have gS:Fe T (λa=>W a\/a=Af) f S:=um.gone.trans (gm.mono λa h=>.inr h)
   have xs:BM T s S:=Fe.ext2 ((p.trans r).trans Fn) gS λa h=>h.elim (λh=>F a (Wl a h)) λh=>h▸IS
   have F1:∃m,S.heap.Ns Cl m:=l▸Wk.ns;obtain⟨m,F1⟩:=F1;have Sg:=F Cl (Bs▸DM L);have Si:¬T Cl:=λh=>AN _ (CO (H Cl h) LC)
   have SC:L≠Cl:=by apply AO Bs;exact Bn (Ct L)
   obtain⟨nn,Go⟩:=Go;have SI:¬N L:=λh=>AN _ (Rd L h).1
   have Tx:W Cl:=l▸F0;have TI:BV J (λa=>(N a\/a=L)\/a=Cl) S.heap I Bv:=
    Vn.mono λa o hn e K=>⟨λh=>h.elim (λh=>h.elim (λh=>hn (.inl h)) λh=>hn (.inr (.inr (.inl h)))) λh=>hn (.inr (.inr (h▸Tx))),e⟩
   have TO:=F L (AI _);have TP:¬T L:=λh=>AN _ (H L h)
   have Mk:L<f.heap.objs.size:=L2 L (.inl (.inl rfl));have TT:Cl<f.heap.objs.size:=L2 Cl (.inl Tx);have Cf:∀b,f.heap.objs.size<=b->s.heap.get? b=Ao:=λb h=>F b (Am (CN Mk) h)
   induction use with
   |none=>
    refine⟨m,F1,λh' Mo=>?_⟩
    have g2:Fe T (·=Cl) S {S with heap:=h'}:=Fe.of_but Mo Si (.ns F1)
    refine qn rfl L I Bv _ _ Cf Mk ((hK _).gone g2 (λa h=>h▸TT) Is) rfl (Fe.ext2 xs g2 λa h=>h▸Sg) TO TP ⟨nn,(Mo.2 L SC).trans Go⟩ ?_ SI
    exact TI.mono λa o hn e K=>⟨λh=>hn (.inl h),(Mo.2 a (λq=>hn (.inr q))).trans e⟩
   |some u=>exact qs u rfl L I Bv _ Cl m _ Cf Mk TT Is rfl xs TO TP ⟨nn,Go⟩ TI SI SC F1 Sg Si
 exact fN (g:=⟨tg,i,P,0⟩) rfl rfl loop (L1.self 0 f _ _ If loop)
theorem Yu(hS:D0 Aj w T J mg mb s0 B fn C k n)(H:HZ Aj w T J mg mb s0 B fn C k n)(b:EA B)(cx:Cx T J mg mb s0 B k A Z sc ρ Bt N N2 s)
  {W:Expr}{gens:List A7}{scope:Scope}{pos j:B9}{e:M}{c:Cl}{f:List Cl}{d:D}{use:Option (Ag->JZ Unit)}{Q:Ag->Ah->Prop}(y:S1 B fn fo sc W gens scope e c f)
  (X:ev C (n+1) ρ Bt (.comp e (c::f))=V d)(g:use=Ao->∀L I Bv S,d= .lst Bv->BM T s S->s.heap.get? L=Ao->¬T L->S.heap.PlainList L (ET I)->BV J (λa=>N a\/a=L) S.heap I Bv->¬N L->Q (.ref L) S)
  (h:∀u,use=V u->∀L I Bv S Cl m,d= .lst Bv->BM T s S->s.heap.get? L=Ao->¬T L->S.heap.PlainList L (ET I)->BV J (λa=>(N a\/a=L)\/a=Cl) S.heap I Bv->¬N L->L≠Cl->S.heap.Ns Cl m->s.heap.get? Cl=Ao->¬T Cl->
   Ap (Aq Aj w) A (u (.ref L)) (λz DK=>∃m,DK.heap.Ns Cl m/\∀h',C3 Cl DK.heap h'->Q .none {DK with heap:=h'}) E S):
  Ap (Aq Aj w) A (lb (.ListComp W gens scope pos) scope Z j (newList []) Ak (firstIter gens Z) use) Q E s:=
 Yt (Acc:=fZ) @hS @H b cx y (λz=>Ym) (λz z z z z z z z z z z=>oU @hS @H b cx.ha) X
  (λo L I Bv S z z z z=>g o L I Bv S) λu o L I Bv S Cl m z z z z z=>h u o L I Bv S Cl m
open Builtin.Str
theorem Yv{e:Expr}{m:M}{fo:Nat}(h:Bu B fn fo sc e m=Y)(a b c:Option Expr)(p:B9):e≠.Slice a b c p:=λq=>Rj h q rfl
theorem f8{e:Expr}{m:M}{fo:Nat}(h:Bu B fn fo sc e m=Y)(E:Ep):behindInMarks E e=Ak:=by
 induction e using Ya with
 |Set a b c=>exact Rj h rfl rfl
 |_=>rfl
theorem Yw{z Q:Type}{f:z->Option Q}{l:List z}:∀{r:List Q},Gs f l=V r->r.length=l.length:=by
 induction l with
 |nil=>exact λh=>by apply CE (sI h);rfl
 |cons a l ih=>
  intro r h;obtain⟨y,ys,_,h,e⟩:=SB h
  apply AO e;exact congrArg Fw (ih h)
theorem Uk{a:Ag}{x:D}(h:(∃l,x= .lst l)\/(∃l,x= .tup l)\/∃l,x= .str l)(b:Rd J N s.heap a x):∃T id,s.TypeIs a T/\Dc (.type T) "__getitem__"=BU (V (.builtin id)):=by
 rcases h with⟨l,e⟩|⟨l,e⟩|⟨l,e⟩
 ·obtain⟨_,_,_,w,_,g,_⟩:=b.inv' e
  apply AO w
  exact⟨_,_,⟨_,g,rfl⟩,slot_list_getitem.lookup⟩
 ·obtain⟨_,_,_,w,_,g,_⟩:=b.inv' e
  apply AO w
  exact⟨_,_,⟨_,g,rfl⟩,slot_tuple_getitem.lookup⟩
 ·obtain⟨_,_,w,_⟩:=b.inv' e
  apply AO w
  exact⟨_,_,Jg _ _ _,F.slot_str_getitem.lookup⟩
theorem oV{x y z:D}(h:NS x y=V z):(∃l,x= .lst l)\/(∃l,x= .tup l)\/∃l,x= .str l:=by
 obtain⟨_,_,h⟩:=H5 h
 induction x using Yf<;>first|exact nS h|exact .inl ⟨_,rfl⟩|exact .inr (.inl ⟨_,rfl⟩)|exact .inr (.inr ⟨_,rfl⟩)
theorem oW{x z:D}{a b:Option D}(h:Re x a b=V z):(∃l,x= .lst l)\/(∃l,x= .tup l)\/∃l,x= .str l:=by
 obtain⟨_,_,h⟩:=Cn h
 induction x using Yf<;>first|exact nS h|exact .inl ⟨_,rfl⟩|exact .inr (.inr ⟨_,rfl⟩)
theorem f9{v sl:Expr}{W o:Ag}{x:D}{Q:Ag->Ah->Prop}(P:(∃l,x= .lst l)\/(∃l,x= .tup l)\/∃l,x= .str l)(r:Rd J N s.heap W x)(h:Ap (Aq Aj w) A (Nx W o) Q E s)(i:∀a b c p,sl≠.Slice a b c p):Ap (Aq Aj w) A (subscriptTail v sl W o) Q E s:=by
 obtain⟨T,id,H,j⟩:=Uk P r;refine O5 (ops:=[W,o]) H j h ?_
 induction sl using Ya with
 |Slice a b c p=>exact absurd rfl (i a b c p)
 |_=>rfl
theorem oX{v sl:Expr}{pos:B9}{a i:M}{d:D}{Q:Ag->Ah->Prop}(hS:D0 Aj w T J mg mb s0 B fn C k n)(c:Cx T J mg mb s0 B k A Z sc ρ Bt N N2 s)
  (U:Bu B fn fo sc v a=Y)(G:Bu B fn fo sc sl i=Y)(X:ev C (n+1) ρ Bt (.idx a i)=V d)(q:GB T J N s d Q):Ap (Aq Aj w) A (C1 (.Subscript v sl pos) Z) Q E s:=by
 obtain⟨x,L,X⟩:=Cn X;obtain⟨y,b,X⟩:=Cn X;refine Jh (hS c U L λh AK W m=>hS (c.ext W) G b λo By u e=>?_)
 have R:=m.mono u.fits;exact f9 (oV X) R (eT (T:=T) X R e λv S f g=>q v S ((W.trans u).trans f) g) (Yv G)
theorem oY{z:Type}(l:List z)(x y:Nat):(l.drop (M3 x l.length)).take (M3 y l.length-M3 x l.length)=(l.drop x).take (y-x):=by
 rcases Lk x l.length with h|h
 ·rw[FE h];rcases Lk y l.length with h'|h'
  ·rw[FE h']
  ·rw[GJ h'];apply Dz (Cp (Al C0)) (Cp (by rw[C0];exact Hx h' x));rfl
 ·rw[GJ h,CM (AI _),CM h,HO,HO]
def Rp(o:Option D)(v:Ag):Prop:=match o with
 |none=>v= .none
 |some d=>∀i,d= .int (.k i)->∃t,v= .int i t
theorem gc{e:Option Expr}{m:Option M}{o:Option D}{Q:Ag->Ah->Prop}(hS:D0 Aj w T J mg mb s0 B fn C k n)(c:Cx T J mg mb s0 B k A Z sc ρ Bt N N2 s)
  (h:SV (Bu B fn fo sc) e m=Y)(X:Xs (ev C n ρ Bt) m=V o)(q:∀v S,BM T s S->Rp o v->Q v S):Ap (Aq Aj w) A (evalPart e Z) Q E s:=by
 induction e with
 |none=>
  induction m with
  |none=>rw[<-sI X]at q;exact Ar (q _ _ .refl rfl)
  |some _=>exact bF h
 |some e=>
  induction m with
  |none=>exact bF h
  |some m=>
   obtain⟨d,hd,e⟩:=M6 X;rw[<-e]at q;exact hS c h hd λv S x r=>q v S x λi a=>r.inv' a
theorem gf{o:Option D}{v:Ag}{s x:Nat}(p:Rp o v)(h:SH o s=V x):(o=Ao/\v= .none/\x=s)\/((∃d,o=V d)/\∃t,v= .int (x:Int) t):=by
 induction o with
 |none=>exact .inl ⟨rfl,p,(sI h).symm⟩
 |some d=>
  obtain⟨i,T,h⟩:=H5 h;obtain⟨n,M,h⟩:=Q6 h;obtain⟨t,a⟩:=p i T;exact .inr ⟨⟨d,rfl⟩,t,by apply AO a;rw[M,sI h]⟩
theorem gh{o:Option D}{v:Ag}{s x n:Nat}(p:Rp o v)(h:SH o s=V x)(hd:M3 s n=s):∃lo:Option Int,IsPart v lo/\lo.elim s (clipAt n)=M3 x n:=by
 rcases gf p h with⟨_,e,e2⟩|⟨_,t,e⟩
 ·exact⟨Ao,e▸.none,by rw[e2];apply AO hd;rfl⟩
 ·exact⟨V _,e▸.int _ _,clipAt_nat _ _⟩
theorem gj{X:Av}{t:Ez}{l u:Option (Int×Ez)}{a c:Nat}{b:List Nat}{s B4:Ah}{Q:Ag->Ah->Prop}(U:X.cps.toList=b)(g:b.length<=1000000)(e:a<=c)(k:c<=X.length)(hp:slicePicked X l u Ao=strSliceIndices (V (a:Int)) (V (c:Int)) 1 X.length)
  (xs:BM T s B4)(q:GB T J N s (.str (Lz b a c)) Q):(sliceMade X t l u Ao).post Q B4:=by
 have f:(strSliceIndices (V (a:Int)) (V (c:Int)) 1 X.length).length=c-a:=by
  rw[StrLaws.strSliceIndices_plain e k];simp
 have p:X.cps.toList.length=X.length:=rfl;unfold sliceMade;rw[hp];split
 ·rename_i h;have h:=AA (AH h).2;rw[f]at h;refine q _ _ xs (.str ?_)
  have R:a=0:=(AP (Ip (.v 0) (.k 0) [(1,.v 1,.v 2),(1,.v 2,.v 3),(1,.a (.v 3) (.v 0),.v 1)] rfl k (Al h.symm) (Al (Az e))) (EJ (.k 0) (.v 0) [] rfl));unfold Lz;rw[<-U,R,C7];apply AO (Cp (by rw[p];exact(Ip (.v 0) (.v 2) [(1,.v 0,.v 1),(1,.v 1,.v 3),(1,.v 3,.a (.v 2) (.k 0))] rfl (Al h.symm) (DB _ _) Fy)));rfl
 ·refine⟨?_,q _ _ (xs.trans .toks) (.str ?_)⟩
  ·show((strSliceIndices (V (a:Int)) (V (c:Int)) 1 X.length).filterMap (X.cps[·]?)).toArray.size<=_;rw[AD];refine Am (Ks ..) ?_
   rw[f];exact Am (Am (DB _ _) (Am k (by rw[<-Kz U]at g;exact g))) (by decide)
  rw[StrLaws.sliced_plain X e k];show(X.cps.toList.drop a).take (c-a)=_;rw[U];rfl
theorem gk{o:Option D}{v:Ag}{x n:Nat}{u:Option Int}(p:Rp o v)(h:SH o 0=V x):∃l:Option (Int×Ez),v=partValue l/\strSliceIndices (l.map (·.1)) u 1 n=strSliceIndices (V (x:Int)) u 1 n:=by
 rcases gf p h with⟨_,e,e2⟩|⟨_,t,e⟩
 ·exact⟨Ao,e,by apply AO e2;exact StrLaws.sliceIdx_none_lo _ _⟩
 ·exact⟨V (_,t),e,rfl⟩
theorem oZ{x d:D}{ol L:Option D}{va vl v:Ag}{Ad:An}{Q:Ag->Ah->Prop}(F:s.heap.IsSliceOf Ad vl v .none)(p2:Rp ol vl)(p3:Rp L v)(f:Re x ol L=V d)(r:Rd J N s.heap va x)(occ:∀a,N a->Da s.heap a)(q:GB T J N s d Q):
  Ap (Aq Aj w) A (Nx va (.ref Ad)) Q E s:=by
 obtain⟨y,C,f⟩:=Cn f;have r:=r.inv
 induction x using Yf with
 |lst O=>
  obtain⟨G,M,f⟩:=Cn f;obtain⟨j,f⟩:=De f;obtain⟨ad,I,nn,P,hn,g,p⟩:=r;have m:I.toArray.size=O.length:=p.length;obtain⟨Bs,pl,H⟩:=gh (n:=O.length) p2 C (Ll _);obtain⟨Ce,pu,eu⟩:=gh (n:=O.length) p3 M (UN _)
  apply AO P
  refine MB (items:=I.toArray) ⟨_,g,rfl,nn,rfl⟩ F pl pu .none (by decide) (q _ _ (.push (tk:=s.toks)) (sI f▸ ?_)) (by rw[m];exact Am (IC j) (by decide))
  rw[slicePick_plain,m,H,eu,<-p.length];refine .lst (n:=0) (Nc occ) (Ay _ rfl) ?_
  have:BV J N s.heap (Lz I y G) (Lz O y G):=(p.drop y).take _;rw[show(I.toArray.toList.drop (M3 y I.length)).take (M3 G I.length-M3 y I.length)=Lz I y G from oY I y G];exact this.mono λa o n e B=>⟨n,Au _ e⟩
 |str cs=>
  obtain⟨X,t,P,U⟩:=r;have R:=Kz U;obtain⟨oo,h1,h2,z⟩:=F
  apply AO P
  induction L with
  |none=>
   obtain⟨j,f⟩:=De f;have W:y<=X.length:=by apply AO R;exact D8 (AH j).2
   obtain⟨b,H,c⟩:=gk (n:=X.length) (u:=Ao) p2 C;rw[H]at z;rw[show v= .none from p3]at z;refine MZ (l:=b) (u:=Ao) (st:=Ao) ⟨oo,h1,h2,z⟩ rfl (gj U (IC (AH j).1) W (AI _) (c.trans (StrLaws.sliceIdx_none_hi _ _)) (.refl (T:=T)) (J:=J) (N:=N) ?_)
   rw[show Lz cs y X.length=cs.drop y from Cp (by rw[C0,R];exact AI _),sI f]
   exact q
  |some h=>
   obtain⟨i,hi,f⟩:=H5 f;obtain⟨yl,k,f⟩:=Q6 f;obtain⟨j,f⟩:=De f;obtain⟨ty,Bd⟩:=p3 i hi;obtain⟨b,H,c⟩:=gk (n:=X.length) (u:=V (yl:Int)) p2 C;rw[H]at z;rw[Bd,k]at z;exact MZ (l:=b) (u:=V ((yl:Int),ty)) (st:=Ao) ⟨oo,h1,h2,z⟩ rfl (gj U (IC (AH j).1) (D8 (AH (AH j).2).1) (by apply AO R;exact D8 (AH (AH j).2).2) c .refl (sI f▸q))
 |_=>exact nS f
theorem o7{v:Expr}{lo t:Option Expr}{p pos:B9}{a:M}{l u:Option M}{d:D}{Q:Ag->Ah->Prop}(hS:D0 Aj w T J mg mb s0 B fn C k n)(c:Cx T J mg mb s0 B k A Z sc ρ Bt N N2 s)
  (U:Bu B fn fo sc v a=Y)(G:SV (Bu B fn fo sc) lo l=Y)(z:SV (Bu B fn fo sc) t u=Y)(X:ev C (n+1) ρ Bt (.sl a l u)=V d)(q:GB T J N s d Q):Ap (Aq Aj w) A (C1 (.Subscript v (.Slice lo t Ao p) pos) Z) Q E s:=by
 obtain⟨x,L,X⟩:=Cn X;obtain⟨ol,h,X⟩:=Cn X;obtain⟨ou,F,X⟩:=Cn X;refine Jh (hS c U L λy AK W m=>O9 (gc @hS (c.ext W) G h λP By b i=>gc @hS ((c.ext W).ext b) z F λR B4 e f=>Ar ?_))
 have o:BM T B4 {B4 with heap:=B4.heap.push {cls:=.type "slice",data:=.fields #[P,R,.none]}}:=.push (tk:=B4.toks)
 have r:=(((c.ext W).ext b).ext e).ext o;have g:=((m.mono b.fits).mono e.fits).mono o.fits;obtain⟨T',id,H,j⟩:=Uk (oW X) g;exact O5 (ops:=[.ref B4.heap.objs.size,y]) H j (oZ (T:=T) (JA ..) i f X g r.occ λv S x' r'=>q v S ((((W.trans b).trans e).trans o).trans x') r') rfl
theorem Pu{o:Expr}{name:Av}{u pos:B9}{args:List Expr}{Q:Ag->Ah->Prop}
  (a:lc o name Z (C1 o Z)=C1 o Z)
  (r:Gw (args.length+([]:List ES).length) (Er pos (CV args Z)) (Li pos (Ib [] Z))=Y)
  (q:(u.endLine==pos.line)=Y)
  (h:Ap (Aq Aj w) A (C1 o Z) (λb AK=>∀d,Ap (Aq Aj w) A (getMethod b name d) (λp By=>Ap (Aq Aj w) A (aQ pos p.1 p.2 (Er pos (CV args Z)) []) Q E By) E AK) E s):
  Ap (Aq Aj w) A (C1 (.Call (.Attribute o name u) args [] pos) Z) Q E s:=by
 rw[Mr,a];refine Ai (AM h (λb AK X=>Ai (AU ?_)) λz z e=>e)
 have y:FM Y o Z u pos=BU pos:=by unfold FM;rw[q];rfl
 unfold QP;rw[r];exact Ai (AZ (AM (X _) (λp By c=>Ai (Fc y c)) λz z e=>e))
theorem o8{f:Nat}{p pos:B9}{xs:List Expr}{as:List M}{d:D}{Q:Ag->Ah->Prop}(hS:D0 Aj w T J mg mb s0 B fn C k n)(g:I9 Aj w T J mg mb s0 fn C k)(c:Cx T J mg mb s0 B k A Z sc ρ Bt N N2 s)
  (h:Bf f 900=Y)(G:sc.lookup (fn f)=V .globalImplicit)(z:(fn f==("__debug__":Av))=Ak)(l:GR (Bu B fn fo sc) xs as=Y)(X:ev C (n+1) ρ Bt (.call f as)=V d)(q:GB T J N s d Q):
  Ap (Aq Aj w) A (C1 (.Call (.Name (fn f) p) xs [] pos) Z) Q E s:=by
 obtain⟨O,D4,X⟩:=Cn X;obtain⟨a,⟨j,o,fd,i,hd,e⟩,b⟩:=g.1 f O d h X;exact AX (Bl c.ok.kind ((c.ok.kindOf _).trans G) (CJ (c.ok.glob▸c.bs.ng) j (Ba (o:=o) (fd:=fd) (K9 l (N4 @hS xs c l D4 λI AK W m=>
  ⟨⟨W.keep2 a o (c.bs.ext.keep2 a o i e) e,hd⟩,b A E N AK I Q c.ha (c.bs.step W) (c.ext W).occ m λv S r u=>q v S (W.trans r) u⟩)))) z)
theorem o9{b:Nat}{p pos:B9}{xs:List Expr}{as:List M}{d:D}{Q:Ag->Ah->Prop}(hS:D0 Aj w T J mg mb s0 B fn C k n)(c:Cx T J mg mb s0 B k A Z sc ρ Bt N N2 s)
  (F:(Bf b 5||Nat.beq b 8)=Y)(G:sc.lookup (MH b)=V .globalImplicit)(l:GR (Bu B fn fo sc) xs as=Y)(X:ev C (n+1) ρ Bt (.bi b as)=V d)(q:GB T J N s d Q):
  Ap (Aq Aj w) A (C1 (.Call (.Name (MH b) p) xs [] pos) Z) Q E s:=by
 obtain⟨O,D4,X⟩:=Cn X;have a:Ap (Aq Aj w) A (Ny (Er pos (CV xs Z))) (λI S=>Ap (Aq Aj w) A (DP (Qg b) I) Q E S) E s:=
  N4 @hS xs c l D4 λI AK W m=>nA (T:=T) c.ha.handled (c.ext W).occ X m λv S e u=>q v S (W.trans e) u
 rcases b with _|_|_|_|_|_|_|_|_|b
 ·exact AX (Nh (b:=0) c (by decide) G (by decide) (B0 (N5 xs as l) (K9 l a)))
 ·exact AX (Nh (b:=1) c (by decide) G (by decide) (B0 (N5 xs as l) (K9 l a)))
 ·exact AX (Nh (b:=2) c (by decide) G (by decide) (DE (N5 xs as l) (K9 l a)))
 ·exact AX (Nh (b:=3) c (by decide) G (by decide) (DE (N5 xs as l) (K9 l a)))
 ·exact AX (Nh (b:=4) c (by decide) G (by decide) (B0 (N5 xs as l) (K9 l a)))
 ·exact bF F
 ·exact bF F
 ·exact bF F
 ·exact AX (Nh (b:=8) c (by decide) G (by decide) (B0 (N5 xs as l) (K9 l a)))
 ·exact bF F
theorem IU{v:Expr}{name:Av}{y:JZ Ag}(h:OJ v=Y):lc v name Z y=y:=by
 induction v using Ya with
 |Call f xs N p=>
  induction f using Ya with
  |Name id q=>cases xs<;>induction N<;>first|rfl|exact bF h
  |_=>rfl
 |_=>rfl
theorem pa{m:Nat}{v:Expr}{xs:List Expr}{P p:B9}{o:M}{as:List M}{es O:List D}{d:D}{Q:Ag->Ah->Prop}(hS:D0 Aj w T J mg mb s0 B fn C k n)(g:I9 Aj w T J mg mb s0 fn C k)(c:Cx T J mg mb s0 B k A Z sc ρ Bt N N2 s)
  (G:(P.endLine==p.line)=Y)(z:Bu B fn fo sc v o=Y)(l:OJ v=Y)(R:GR (Bu B fn fo sc) xs as=Y)
  (r:Gw (xs.length+([]:List ES).length) (Er p (CV xs Z)) (Li p (Ib [] Z))=Y)(L:ev C n ρ Bt o=V (.hdr es))(D4:Gs (ev C n ρ Bt) as=V O)(U:C (1000+m) (.hdr es::O)=V d)(q:GB T J N s d Q):
  Ap (Aq Aj w) A (C1 (.Call (.Attribute v (OI m) P) xs [] p) Z) Q E s:=by
 obtain⟨f,⟨⟨i,fd,F,H,t⟩,y⟩,a⟩:=g.2.2 m es O d U;refine Pu (IU l) r G (hS c z L λov AK W b X=>?_)
 obtain⟨x,_,_,_,_,_,_,hv,n1,n2,n3,e1,e2,ho,e3,rs⟩:=b.inv;rw[hv]at b ⊢;have h:=c.ext W;refine y A E AK _ _ _ X _ h.bs.ext ⟨_,_,e1,e2,ho⟩ (Ba (o:=i) (fd:=fd) (K9 R (N4 @hS xs h R D4 λI By u e=>?_)))
 have j:=h.ext u;exact⟨⟨j.bs.ext.keep2 f i F t,H⟩,a A E N By _ I Q c.ha j.bs j.occ (b.mono u.fits) e λv S x' r'=>q v S ((W.trans u).trans x') r'⟩
theorem pb{v:Expr}{pos:B9}{a:M}{y d:D}{Q:Ag->Ah->Prop}(hS:D0 Aj w T J mg mb s0 B fn C k n)(c:Cx T J mg mb s0 B k A Z sc ρ Bt N N2 s)
  (z:Bu B fn fo sc v a=Y)(l:OJ v=Y)(e:ev C n ρ Bt a=V y)(f:L4 Aj w T J mg mb s0 k 900 [y] d)(q:GB T J N s d Q):
  Ap (Aq Aj w) A (C1 (.Attribute v "_headers" pos) Z) Q E s:=by
 obtain⟨es,r,hd,g⟩:=f
 injection r with r
 rw[QW,IU l];refine Ai (hS c z e λb AK W m=>Ai (AU (Ai (AZ ?_))))
 obtain⟨x,_,_,_,_,_,_,h,n1,n2,F,e1,e2,i,X,p⟩:=m.inv' r
 apply AO h
 exact g A E AK _ _ _ _ (c.ext W).bs.ext ⟨_,_,e1,e2,i⟩ λBy u=>Ai (Ii (Ar (q _ By (W.trans u) (hd▸(Rd.lst F X p).mono u.fits))))
theorem pd{v e:Expr}{R p p3 U:B9}{G:Nat}{F:Bool}{a b:M}{y z d:D}{Q:Ag->Ah->Prop}(hS:D0 Aj w T J mg mb s0 B fn C k n)(c:Cx T J mg mb s0 B k A Z sc ρ Bt N N2 s)
  (f:(R.endLine==p.line)=Y)(h3:Bu B fn fo sc v a=Y)(h5:Bu B fn fo sc e b=Y)(h4:OJ v=Y)(hy:ev C n ρ Bt a=V y)(hz:ev C n ρ Bt b=V z)
  (hX:∃es t,[y,z]=[.hdr es,.str t]/\d= .str t/\HY t=Y/\Nf Aj w T J mg mb s0 k)(q:GB T J N s d Q):
  Ap (Aq Aj w) A (C1 (.Call (.Attribute v "_convert_string_type" R) [e] [⟨V "name",.Constant (.bool F) G p3,U⟩] p) Z) Q E s:=by
 obtain⟨es,t,he,hd,H,g,⟨⟨i,fd,Bd,Bs,Ce⟩,L⟩,h⟩:=hX
 injection he with Cf j
 injection j with j
 have l:Er p (CV [e] Z)=[(Ak,Bj e Z)]:=by rw[Fa (J3 h5)];rfl
 have CH:Li p (Ib [⟨V "name",.Constant (.bool F) G p3,U⟩] Z)=[(V ("name":Av),(do let v <-Bj (.Constant (.bool F) G p3) Z;JI p;BU v))]:=rfl
 rw[Mr,IU h4];refine Ai (hS c h3 hy λov AK W DD=>Ai (AU ?_))
 obtain⟨x,_,_,_,_,_,_,hv,n1,n2,n3,e1,e2,ho,e3,rs⟩:=DD.inv' Cf
 apply AO hv
 have P:FM Y v Z R p=BU p:=by unfold FM;rw[f];rfl
 unfold QP;rw[l,CH,show Gw (([e]:List Expr).length+([⟨V "name",.Constant (.bool F) G p3,U⟩]:List ES).length) [(Ak,Bj e Z)] [(V ("name":Av),(do let v <-Bj (.Constant (.bool F) G p3) Z;JI p;BU v))]=Y from rfl]
 have m:=c.ext W;refine Ai (AZ (L A _ AK _ _ _ _ _ m.bs.ext ⟨_,_,e1,e2,ho⟩ (Ai (Fc P (JP (o:=i) (fd:=fd) (M0 rfl (Ax (hS m h5 hz λFn By u Ev=>AF ?_))))))))
 obtain⟨X,t',E3,et⟩:=Ev.inv' j;have r:=m.ext u;have hsz:X.cps.size=t.length:=congrArg Gh et;have E4:X.cps.size<2^63:=by rw[hsz];exact CO (D8 (AH H).2) (by decide)
 apply AO E3
 exact Kj (Ai (DO (Ai (AU (Ar (Kt
  ⟨⟨r.bs.ext.keep2 g i Bd Ce,Bs⟩,h A E N By _ _ _ F Q c.ha r.bs r.occ (by rw[et];exact H) E4 λB4 E5=>q _ B4 ((W.trans u).trans E5) (hd▸.str et)⟩))))))
theorem pe{m:Nat}{v:Expr}{xs:List Expr}{H p:B9}{o:M}{as:List M}{d:D}{Q:Ag->Ah->Prop}(hS:D0 Aj w T J mg mb s0 B fn C k n)(g:I9 Aj w T J mg mb s0 fn C k)(hk:k<=100)(c:Cx T J mg mb s0 B k A Z sc ρ Bt N N2 s)
  (G:(H.endLine==p.line)=Y)(l:OJ v=Y)(h:as.length<=1)(U:Bu B fn fo sc v o=Y)(i:GR (Bu B fn fo sc) xs as=Y)(X:ev C (n+1) ρ Bt (.me m o as)=V d)(q:GB T J N s d Q):
  Ap (Aq Aj w) A (C1 (.Call (.Attribute v (OI m) H) xs [] p) Z) Q E s:=by
 obtain⟨x,L,X⟩:=Cn X;obtain⟨O,D4,X⟩:=Cn X;have b:Gw (xs.length+([]:List ES).length) (Er p (CV xs Z)) (Li p (Ib [] Z))=Y:=by
  cases as with
  |nil=>apply AO (Pq i);rfl
  |cons a r=>
   obtain⟨e,es,e1,P,R⟩:=Qj i
   induction r with
   |nil=>apply AO e1;rw[Pq R,Fa (J3 P)];rfl
   |cons _ _=>exact absurd h (BH (Jl (Em _)))
 have hh:∀es,x= .hdr es->Ap (Aq Aj w) A (C1 (.Call (.Attribute v (OI m) H) xs [] p) Z) Q E s:=λes e=>by
  rw[e]at L X;exact pa @hS g c G U l i b L D4 X q
 have hm:∀{z},SL m x O=V z->z=d->Ap (Aq Aj w) A (C1 (.Call (.Attribute v (OI m) H) xs [] p) Z) Q E s:=λ{z} f e=>by
  rw[e]at f;refine BC (IU l) b G (hS c U L λov AK W j=>?_)
  cases as with
  |nil=>
   apply AO (Pq i)
   rw[<-sI D4]at f;exact nE (T:=T) f j λv S t u=>q v S (W.trans t) u
  |cons a r=>
   obtain⟨e,es,e1,P,R⟩:=Qj i
   induction r with
   |nil=>
    obtain⟨y,hy,e2⟩:=Pn D4;rw[e2]at f
    apply AO e1;rw[Pq R,Fa (J3 P)]
    have F:=c.ext W;exact nK (T:=T) F.occ (c.ha.line hk) (hS F P hy λv S t u=>⟨t,u⟩) f j λv S t u=>q v S (W.trans t) u
   |cons _ _=>exact absurd h (BH (Jl (Em _)))
 induction x using Yf with
 |hdr es=>exact hh es rfl
 |_=>exact hm X rfl
theorem pf{xs:List Expr}{pos:B9}{as:List M}{d:D}{Q:Ag->Ah->Prop}(hS:D0 Aj w T J mg mb s0 B fn C k n)(c:Cx T J mg mb s0 B k A Z sc ρ Bt N N2 s)
  (l:GR (Bu B fn fo sc) xs as=Y)(f:as.length<=1000)(X:ev C (n+1) ρ Bt (.lst as)=V d)(q:GB T J N s d Q):Ap (Aq Aj w) A (C1 (.List xs pos) Z) Q E s:=by
 obtain⟨O,D4,e⟩:=M6 X;refine O0 (N4 @hS xs c l D4 λI AK W m=>Bi (q _ _ (W.trans (.push (tk:=AK.toks))) (e▸.lst (n:=0) (Nc (c.ext W).occ) (Ay _ rfl) (m.mono (BM.fits (T:=T) .push)))) ?_)
 show I.toArray.size<=C5;rw[AD,m.length,Yw D4];exact Am f (by decide)
theorem pg{xs:List Expr}{u:Nat}{pos:B9}{as:List M}{d:D}{Q:Ag->Ah->Prop}(hS:D0 Aj w T J mg mb s0 B fn C k n)(c:Cx T J mg mb s0 B k A Z sc ρ Bt N N2 s)
  (l:GR (Bu B fn fo sc) xs as=Y)(f:as.length<=1000)(X:ev C (n+1) ρ Bt (.tup as)=V d)(q:GB T J N s d Q):Ap (Aq Aj w) A (C1 (.Tuple xs u pos) Z) Q E s:=by
 obtain⟨O,D4,e⟩:=M6 X;refine QM (N4 @hS xs c l D4 λI AK W m=>Bi (q _ _ (W.trans (.push (tk:=AK.toks))) (e▸.tup (n:=0) (Nc (c.ext W).occ) (Ay _ rfl) (m.mono (BM.fits (T:=T) .push)))) ?_)
 show I.toArray.size<=C5;rw[AD,m.length,Yw D4];exact Am f (by decide)
theorem gn(ms:List (Ep×M)):∀{ops:List Ep} {es:List Expr},Qk (Bu B fn fo sc) ops es ms=Y->lastMarks ops es=Ak:=by
 induction ms with
 |nil=>exact λh=>by apply Dz ((Rh h).1) ((Rh h).2);rfl
 |cons m r ih=>
  intro ops es h;obtain⟨Q,e,b,U,G,z,l⟩:=VA h
  apply Dz U G
  induction r with
  |nil=>apply Dz ((Rh l).1) ((Rh l).2);exact f8 z _
  |cons F u=>
   have:=ih l;obtain⟨j,e2,c,D,a,_⟩:=VA l;rw[D,a]at this ⊢;exact this
theorem gp(hS:D0 Aj w T J mg mb s0 B fn C k n)(P:k<=100){pos:B9}(ms:List (Ep×M)):∀{ops:List Ep} {p:List Expr} {a:Ag} {x:D} {s:Ah} {d:D},Cx T J mg mb s0 B k A Z sc ρ Bt N N2 s->
  Qk (Bu B fn fo sc) ops p ms=Y->Ua (ev C n ρ Bt) x ms=V d->Rd J N s.heap a x->
  (∀Q,(∀b S,d= .bool b->BM T s S->Q (.bool b) S)->Ap (Aq Aj w) A (zl pos a ops (O6 p Z)) Q E s)∧
  (∀Q,(∀b S,d= .bool b->BM T s S->Q b S)->Ap (Aq Aj w) A (testChain pos a ops (O6 p Z)) Q E s):=by
 induction ms with
 |nil=>exact λI I hm=>nS hm
 |cons m r ih=>
  intro ops p a x s d c R hm h;obtain⟨o,e,F,U,G,z,l⟩:=VA R;obtain⟨y,i,hm⟩:=Cn hm;obtain⟨t,g,hm⟩:=Cn hm
  apply Dz U G
  have j:=c.ha.line P;cases r with
  |nil=>
   apply Dz ((Rh l).1) ((Rh l).2)
   have hm:=(sI hm).symm;exact⟨λQ q=>chain_last (hS c z i λb AK W f=>Qe j g (h.mono W.fits) f (q t AK hm W)),
    λQ q=>test_last (hS c z i λb AK W f=>Qe j g (h.mono W.fits) f (Bq (q t AK hm W)))⟩
  |cons m' r'=>
   obtain⟨v,e2,H,L,X,_⟩:=VA l;rw[L,X]at l ⊢
   induction t with
   |false=>
    have hm:=(sI hm).symm;exact⟨λQ q=>chain_link (hS c z i λb AK W f=>Qe j g (h.mono W.fits) f (Bq (q _ AK hm W))),
     λQ q=>test_link (hS c z i λb AK W f=>Qe j g (h.mono W.fits) f (Bq (q _ AK hm W)))⟩
   |true=>
    exact⟨λQ q=>chain_link (hS c z i λb AK W f=>Qe j g (h.mono W.fits) f (Bq ((ih (c.ext W) l hm f).1 Q λt By g u=>q t By g (W.trans u)))),
     λQ q=>test_link (hS c z i λb AK W f=>Qe j g (h.mono W.fits) f (Bq ((ih (c.ext W) l hm f).2 Q λt By g u=>q t By g (W.trans u))))⟩
noncomputable def Vk:H8->Bool
 | .And=>Y
 | .Or=>Ak
theorem gq(hS:D0 Aj w T J mg mb s0 B fn C k n)(H:HZ Aj w T J mg mb s0 B fn C k n){pos:B9}{f:H8}(ms:List M):∀{xs:List Expr} {s:Ah} {d:D},Cx T J mg mb s0 B k A Z sc ρ Bt N N2 s->
  GR (Bu B fn fo sc) xs ms=Y->Xu (ev C n ρ Bt) (Vk f) ms=V d->
  (∀Q,GB T J N s d Q->Ap (Aq Aj w) A (C1 (.BoolOp f xs pos) Z) Q E s)∧
  (∀Q t,OF d=V t->(∀S,BM T s S->Q t S)->Ap (Aq Aj w) A (lG f xs Z) Q E s):=by
 induction ms with
 |nil=>exact λI I hm=>nS hm
 |cons m r ih=>
  intro xs s d c R hm;obtain⟨x,o,U,G,z⟩:=Qj R
  apply AO U
  cases r with
  |nil=>
   apply AO (Pq z)
   refine⟨λQ q=>BoolOp_one (hS c G hm q),λQ t g q=>?_⟩
   show Ap (Aq Aj w) A (do match f,<-isTrue x Z (C1 x Z)with| .And,Ak=>BU Ak| .Or,Y=>BU Y|_,_=>lG f [] Z) Q E s
   refine Ai (H c G hm g λS b=>?_)
   induction f<;>induction t<;>exact Ar (q S b)
  |cons F h=>
   obtain⟨y,i,hm⟩:=Cn hm;obtain⟨t,g,hm⟩:=Cn hm;obtain⟨b,p,l,_⟩:=Qj z;rw[l]at z ⊢
   constructor
   ·intro Q q
    induction f with
    |And=>
     refine BoolOp_and (hS c G i λv AK W e=>XE g e λtk=>?_)
     have u:BM T s {AK with toks:=tk}:=W.trans .toks
     cases t with
     |true=>exact(ih (c.ext u) z hm).1 Q λv S b h=>q v S (u.trans b) h
     |false=>exact q _ _ u (sI hm▸e.mono (BM.fits (T:=T) .toks))
    |Or=>
     refine BoolOp_or (hS c G i λv AK W e=>XE g e λtk=>?_)
     have u:BM T s {AK with toks:=tk}:=W.trans .toks
     cases t with
     |false=>exact(ih (c.ext u) z hm).1 Q λv S b h=>q v S (u.trans b) h
     |true=>exact q _ _ u (sI hm▸e.mono (BM.fits (T:=T) .toks))
   ·intro Q j a q;show Ap (Aq Aj w) A (do match f,<-isTrue x Z (C1 x Z)with| .And,Ak=>BU Ak| .Or,Y=>BU Y|_,_=>lG f (b::p) Z) Q E s
    refine Ai (H c G i g λAK W=>?_)
    induction f with
    |And=>
     cases t with
     |true=>exact(ih (c.ext W) z hm).2 Q j a λS b=>q S (W.trans b)
     |false=>rw[<-sI hm,g]at a;exact Ar (sI a▸q AK W)
    |Or=>
     cases t with
     |false=>exact(ih (c.ext W) z hm).2 Q j a λS b=>q S (W.trans b)
     |true=>rw[<-sI hm,g]at a;exact Ar (sI a▸q AK W)
def OL(Aj:Bh)(w:Ca)(T:An->Prop)(J:Sg)(mg mb:Av->Option Ag)(s0:Ah)(B fn:Nat->Av)(C:Nat->List D->Option D)(k n fo:Nat)(m:M):Prop:=∀{A:A1} {E:Ag->Ah->Prop} {Z:DS} {sc:List (Av×AC)} {ρ Bt:List (Nat×D)} {N N2:An->Prop} {s:Ah} {e:Expr} {d:D} {Q:Ag->Ah->Prop},
 Cx T J mg mb s0 B k A Z sc ρ Bt N N2 s->Bu B fn (fo+1) sc e m=Y->ev C (n+1) ρ Bt m=V d->GB T J N s d Q->Ap (Aq Aj w) A (C1 e Z) Q E s
theorem ph{H:D}:OL Aj w T J mg mb s0 B fn C k n fo (.c H):=by
 intro A E Z sc ρ Bt N N2 s e d Q c R X q;obtain⟨a,u,p,r,R⟩:=Vs (AH R).2
 apply AO r
 rw[<-sI X]at q
 induction a with
 |int j=>
  induction H using Yf with
  |int f=>
   induction f with
   |k i=>exact BQ (q _ _ .toks (.int (NQ.mp R)))
   |_=>exact bF R
  |_=>exact bF R
 |str x=>
  induction H using Yf with
  |str l=>exact Jm (q _ _ .toks (.str (Qa.mp R)))
  |_=>exact bF R
 |bool b=>
  induction H using Yf with
  |bool b'=>exact DO (q _ _ .refl (AA R▸.bool _))
  |_=>exact bF R
 |none=>
  induction H using Yf with
  |none=>exact EH (q _ _ .refl .none)
  |_=>exact bF R
 |_=>exact bF R
theorem pi{x:Nat}:OL Aj w T J mg mb s0 B fn C k n fo (.n x):=by
 intro A E Z sc ρ Bt N N2 s e d Q c R X q;obtain⟨id,p,r,R⟩:=MI (AH R).2;have P:=AA (AH R).1;have R:=AH (AH R).2;rw[P]at R;obtain⟨v,l,D⟩:=c.rel.one x d X (by rw[c.ok.kindOf];exact R.1)
 rw[r];apply AO P
 exact l.load c.ok.kind (by have:=R.2;rw[bne,A4]at this;exact this) (q v s .refl D)
theorem pj(f:∀n,(J.v n).natAbs<=2^1000)(hS:D0 Aj w T J mg mb s0 B fn C k n){o:BY}{a b:M}:OL Aj w T J mg mb s0 B fn C k n fo (.bin o a b):=by
 intro A E Z sc ρ Bt N N2 s e d Q c R X q;obtain⟨l,P,r,p,i,R⟩:=SP (AH R).2;obtain⟨x,L,X⟩:=Cn X;obtain⟨y,j,X⟩:=Cn X;obtain⟨U,G,z⟩:=KJ AH (AH R)
 apply AO i;apply CE (AA U)
 refine BE (hS c G L λF AK W m=>hS (c.ext W) z j λh By u g=>?_)
 exact eF (T:=T) f ((c.ext W).ext u).occ X (m.mono u.fits) g λv S t D=>q v S ((W.trans u).trans t) D
theorem pk(hS:D0 Aj w T J mg mb s0 B fn C k n){a:M}:OL Aj w T J mg mb s0 B fn C k n fo (.neg a):=by
 intro A E Z sc ρ Bt N N2 s e d Q c R X q;obtain⟨u,x,p,r,R⟩:=fj (AH R).2;obtain⟨y,L,X⟩:=Cn X;obtain⟨f,hp,X⟩:=IN X
 apply AO r
 induction u with
 |USub=>
  refine UnaryOp_ (hS c (AH R).2 L λg AK W m=>?_)
  obtain⟨t,b⟩:=m.inv' hp
  apply AO b
  exact neg_int (q _ _ (W.trans .toks) (sI X▸.int (Xh _ _)))
 |_=>exact bF R
theorem po(P:k<=100)(hS:D0 Aj w T J mg mb s0 B fn C k n){a:M}{os:List (Ep×M)}:OL Aj w T J mg mb s0 B fn C k n fo (.cmp a os):=by
 intro A E Z sc ρ Bt N N2 s e d Q c R X q;obtain⟨l,ops,f,p,r,R⟩:=XQ (AH R).2;obtain⟨x,L,X⟩:=Cn X
 apply AO r
 show Ap _ _ (do zl p (<-C1 l Z) ops (markedEach ops f (O6 f Z))) Q E s
 rw[PU _ _ _ (gn os (AH R).2)];exact Ai (hS c (AH R).1 L λh AK W m=>(gp @hS P os (c.ext W) (AH R).2 X m).1 Q λb S F g=>q _ _ (W.trans g) (F▸.bool b))
theorem gu{o:H8}{es:List M}{d:D}(h:ev C (n+1) ρ Bt (.bop o es)=V d):Xu (ev C n ρ Bt) (Vk o) es=V d:=by induction o<;>exact h
theorem pr(hS:D0 Aj w T J mg mb s0 B fn C k n)(H:HZ Aj w T J mg mb s0 B fn C k n){o:H8}{es:List M}:OL Aj w T J mg mb s0 B fn C k n fo (.bop o es):=by
 intro A E Z sc ρ Bt N N2 s e d Q c R X q;obtain⟨P,xs,p,r,R⟩:=fm (AH R).2
 apply AO r;apply CE (AA (AH R).1)
 exact(gq @hS @H es c (AH R).2 (gu X)).1 Q q
theorem pt(hS:D0 Aj w T J mg mb s0 B fn C k n)(H:HZ Aj w T J mg mb s0 B fn C k n){t a b:M}:OL Aj w T J mg mb s0 B fn C k n fo (.ite t a b):=by
 intro A E Z sc ρ Bt N N2 s e d Q c R X q;obtain⟨i,o,b',p,g,R⟩:=fq (AH R).2;obtain⟨x,L,X⟩:=Cn X;obtain⟨r,h,X⟩:=Cn X;obtain⟨U,G,z⟩:=KJ AH (AH R)
 apply AO g
 refine aI (H c U L h λAK W=>?_)
 induction r with
 |true=>exact hS (c.ext W) G X λv S f u=>q v S (W.trans f) u
 |false=>exact hS (c.ext W) z X λv S f u=>q v S (W.trans f) u
theorem pw(b:EA B)(hS:D0 Aj w T J mg mb s0 B fn C k n)(H:HZ Aj w T J mg mb s0 B fn C k n){g:M}{i:List Cl}:OL Aj w T J mg mb s0 B fn C k n fo (.comp g i):=by
 intro A E Z sc ρ Bt N N2 s e d Q c R X q;obtain⟨W,gens,scope,p,j,R⟩:=XS (AH R).2;obtain⟨v,r,U,y⟩:=Yr R;rw[U]at X
 apply AO j;rw[Ms,y.sync]
 refine Yu @hS @H b c y X (λz L I Bv S hd x z z hp m f=>?_) λu t=>nomatch t
 obtain⟨l,hp⟩:=hp;exact q _ _ x (hd▸.lst f hp (m.mono λa o f e z=>⟨λh=>f (.inl h),e⟩))
section
variable {as:List M} {O:List D} {e:Expr} {d:D} {Q:Ag->Ah->Prop} (hS:D0 Aj w T J mg mb s0 B fn C k n) (c:Cx T J mg mb s0 B k A Z sc ρ Bt N N2 s) (D4:Gs (ev C n ρ Bt) as=V O) (q:GB T J N s d Q)
include hS c D4 q
theorem py(R:fy (Bu B fn fo sc) as e=Y)(b:L4 Aj w T J mg mb s0 k 900 O d):Ap (Aq Aj w) A (C1 e Z) Q E s:=by
 obtain⟨a,g,R⟩:=Jr R;obtain⟨v,name,p,r,R⟩:=fx R;rw[g]at D4;obtain⟨y,f,hd⟩:=Pn D4;rw[hd]at b;rw[r];apply AO (AA (AH R).1)
 exact pb @hS c (AH (AH R).2).2 (AH (AH R).2).1 f b q
theorem Yx{n:BY}{p1 p2 p3:PX}(R:VC (Bu B fn fo sc) as e n=Y)(e1:O=[.int p1,.int p2])(e2:d= .int p3)
  (f:∀(S:Ah) (t u:Ez),Q (.int (p3.ev J) S.toks) {S with toks:=S.toks+1}->Ap (Aq Aj w) A (Hc n (.int (p1.ev J) t) (.int (p2.ev J) u)) Q E S):Ap (Aq Aj w) A (C1 e Z) Q E s:=by
 obtain⟨a,b,g,R⟩:=NZ R;obtain⟨l,o,r,p,v,R⟩:=SP R;rw[g]at D4;obtain⟨y,z,x,hz,hd⟩:=Xl D4;rw[hd]at e1
 injection e1 with e1 X
 injection X with X
 rw[v];apply AO (AA (AH R).1)
 refine BE (hS c (AH (AH R).2).1 x λD AK W m=>hS (c.ext W) (AH (AH R).2).2 hz λh By i j=>?_)
 obtain⟨t,C⟩:=m.inv' e1;obtain⟨u,k⟩:=j.inv' X
 apply Dz C k
 exact f By t u (q _ _ ((W.trans i).trans .toks) (e2▸.int rfl))
theorem pz(R:Uh (Bu B fn fo sc) as e=Y)(b:L4 Aj w T J mg mb s0 k 904 O d):Ap (Aq Aj w) A (C1 e Z) Q E s:=by
 obtain⟨a,g,R⟩:=Jr R;obtain⟨u,x,p,r,R⟩:=fj R;rw[g]at D4;obtain⟨y,f,hd⟩:=Pn D4;rw[hd]at b;obtain⟨p1,p2,e1,e2,H⟩:=b
 injection e1 with e1
 apply AO r
 induction u with
 |Invert=>
  refine UnaryOp_ (hS c (AH R).2 f λi AK W m=>?_)
  obtain⟨t,h⟩:=m.inv' e1
  apply AO h
  exact W9 (q _ _ (W.trans .toks) (e2▸.int H))
 |_=>exact bF (AH R).1
theorem pA(R:fA (Bu B fn fo sc) as e=Y)(b:L4 Aj w T J mg mb s0 k 905 O d):Ap (Aq Aj w) A (C1 e Z) Q E s:=by
 obtain⟨a,g,R⟩:=Jr R;obtain⟨v,name,D,xs,p,r,j,hp,R⟩:=Vz R;rw[g]at D4;obtain⟨y,f,hd⟩:=Pn D4;rw[hd]at b;obtain⟨p1,p2,e1,e2,H⟩:=b
 injection e1 with e1
 rw[r];apply Dz (AA (AH R).1) (jE (AH (AH R).2).1)
 refine Pu (args:=[]) (IU hp) rfl j (hS c (AH (AH R).2).2 f λi AK W m l=>?_)
 obtain⟨t,h⟩:=m.inv' e1
 apply AO h
 exact GA (Pc rfl rfl (K9 (es:=[]) (ms:=[]) (B:=B) (fn:=fn) (fo:=fo) (sc:=sc) rfl (AF (G7 (q _ _ (W.trans .toks) (e2▸.int H))))))
theorem pB(R:Ui sc as e=Y)(a:L4 Aj w T J mg mb s0 k 908 O d):Ap (Aq Aj w) A (C1 e Z) Q E s:=by
 obtain⟨id,p,r,R⟩:=MI (AH R).2;obtain⟨u,i,t,_,e2,o,H⟩:=a;have P:=AA (AH R).1;rw[r];apply AO P
 exact Bl c.ok.kind ((c.ok.kindOf _).trans (P▸AA (AH R).2)) (CJ (c.ok.glob▸c.bs.ng) o (q _ _ .refl (e2▸.int H))) (by decide)
theorem pC(R:VD (Bu B fn fo sc) sc as e 2=Y)(f:L4 Aj w T J mg mb s0 k 909 O d):Ap (Aq Aj w) A (C1 e Z) Q E s:=by
 obtain⟨_,_,R⟩:=Jr R;obtain⟨p1,m,e1,e2,D,F⟩:=f;obtain⟨q',xs,p,g,x,l⟩:=Qn R
 apply AO g
 refine AX (Nh (b:=2) c (by decide) x (by decide) (DE (N5 xs as l) (K9 l (N4 @hS xs c l D4 λI AK W a=>?_))))
 rw[e1]at a;obtain⟨v,h,r⟩:=a.one;obtain⟨t,u⟩:=r.inv;rw[h];apply AO u
 exact Ls (CO (fc F) (by decide)) (q _ _ (W.trans .toks) (e2▸.sym ((XM _ F).trans D.symm)))
theorem pE(R:VD (Bu B fn fo sc) sc as e 3=Y)(i:L4 Aj w T J mg mb s0 k 910 O d):Ap (Aq Aj w) A (C1 e Z) Q E s:=by
 obtain⟨_,_,R⟩:=Jr R;obtain⟨p1,m,e1,e2,D,h,F⟩:=i;obtain⟨q',xs,p,j,f,l⟩:=Qn R
 apply AO j
 refine AX (Nh (b:=3) c (by decide) f (by decide) (DE (N5 xs as l) (K9 l (N4 @hS xs c l D4 λI AK W a=>?_))))
 rw[e1]at a;obtain⟨v,n,r⟩:=a.one;obtain⟨x,t,u,L⟩:=r.inv;have M:(p1.ev J).natAbs<10000000000:=(Ey h F);have g:x=FQ (toString (p1.ev J)):=congrArg aN (Array.toList_inj.mp (L.trans (D.trans (XM _ M).symm)));rw[n,u];apply AO g
 exact dC h F (q _ _ (W.trans .toks) (e2▸.int rfl))
theorem pF(R:fC (Bu B fn fo sc) as e=Y)(hX:L4 Aj w T J mg mb s0 k 911 O d):Ap (Aq Aj w) A (C1 e Z) Q E s:=by
 obtain⟨a,Cx,ha,R⟩:=bS R;obtain⟨b,cc,hb,R⟩:=NZ R;obtain⟨v,sl,p,he,R⟩:=Vv R;obtain⟨h1,R⟩:=AH R;obtain⟨l,o,r,bp,L,R⟩:=SP R;obtain⟨h2,R⟩:=AH R;obtain⟨u,o',r',CH,F,R⟩:=SP R;obtain⟨h3,R⟩:=AH R;obtain⟨c7,kk,p7,H,h7⟩:=Vs (AH h2).2;obtain⟨ms,px,G,m,i,e1,e2,hi,f⟩:=hX;rw[ha,hb]at D4;obtain⟨y,ys,hy,C,hd⟩:=SB D4;obtain⟨z,z',hz,M,g⟩:=Xl C;rw[hd,g]at e1
 injection e1 with e1 P
 injection P with P U
 injection U with U
 rw[he,L,F,H,AA (AH h2).1];apply AO (AA h3)
 refine Jh (hS c h1 hy λva AK W n=>?_)
 rw[e1]at n;refine BE (BE (hS (c.ext W) (AH R).1 hz λvb By x Bd=>hS ((c.ext W).ext x) (AH R).2 M λvc B4 Bs Ce=>?_))
 obtain⟨t,hv⟩:=Bd.inv' P;obtain⟨t',Cf⟩:=Ce.inv' U
 apply Dz hv Cf
 refine Ds (AW G) ?_
 induction c7 with
 |int j=>
  apply AO (show j=7 from NQ.mp h7)
  refine BQ ?_
  refine Jz ?_
  rw[Xa,<-Dm _ (by exact(by decide)),show(px.ev J).fdiv (2^(PX.ev J (.k (.ofNat G))).toNat)=(px.ev J).fdiv (2^G)from rfl,hi]
  have x4:BM T AK {B4 with toks:=B4.toks+1+1+1}:=(x.trans Bs).trans .toks
  have D:=n.mono (N':=N) x4.fits;exact f9 (.inl ⟨ms,rfl⟩) D (eT (T:=T) f D (.int rfl) λv S x' r'=>q v S ((W.trans x4).trans x') (by obtain⟨X,tk,e5,e6⟩:=r'.inv;apply Dz e5 e2;exact .sym e6)) (λI I I I h=>nomatch h)
 |_=>exact bF h7
theorem pG{f:Nat}(R:Uj (Bu B fn fo sc) as e f=Y)(h:L4 Aj w T J mg mb s0 k f O d):Ap (Aq Aj w) A (C1 e Z) Q E s:=by
 obtain⟨a,b,g,R⟩:=NZ R;obtain⟨v,name,D,xs,N,p,r,j,hp,R⟩:=XV R;have M:=AA (AH R).1;have R:=AH (AH R).2;obtain⟨x,L,m⟩:=Jr (AH R.2).1;obtain⟨⟨F,H,W⟩,i,l⟩:=Jr (AH R.2).2;obtain⟨n,u,p3,o,C⟩:=Vs (AH l).2;have G:F=V ("name":Av):=AA (AH l).1;have o:H= .Constant n u p3:=o;rw[g]at D4;obtain⟨y,z,P,hz,hd⟩:=Xl D4;rw[hd]at h;rw[r];apply M8 M L i;apply Dz G o
 induction n with
 |bool U=>
  have t:=AB C;rw[t]at h;exact pd @hS c j R.1 m hp P hz (by induction U<;>exact h) q
 |_=>exact bF C
end
theorem pH(hS:D0 Aj w T J mg mb s0 B fn C k n)(o:I9 Aj w T J mg mb s0 fn C k){f:Nat}{as:List M}{e:Expr}{d:D}{Q:Ag->Ah->Prop}(c:Cx T J mg mb s0 B k A Z sc ρ Bt N N2 s)(L:Bf f 900=Ak)(R:fE (Bu B fn fo sc) sc as e f=Y)(X:ev C (n+1) ρ Bt (.call f as)=V d)(q:GB T J N s d Q):Ap (Aq Aj w) A (C1 e Z) Q E s:=by
 obtain⟨O,D4,X⟩:=Cn X;have l:∀j,As f j=Y->(A3 900 j&&Bf j 1000)=Y->L4 Aj w T J mg mb s0 k j O d:=λj h U=>o.2.1 j O d U (AB h▸X)
 rcases N0 R with⟨h,R⟩|R
 ·exact py @hS c D4 q R (l _ h rfl)
 rcases N0 R with⟨h,R⟩|R
 ·obtain⟨p1,p2,p3,e1,e2,m,U⟩:=l _ h rfl;exact Yx @hS c D4 q R e1 e2 λS t u q=>Jq m (U▸q)
 rcases N0 R with⟨h,R⟩|R
 ·exact pz @hS c D4 q R (l _ h rfl)
 rcases N0 R with⟨h,R⟩|R
 ·exact pA @hS c D4 q R (l _ h rfl)
 rcases N0 R with⟨h,R⟩|R
 ·obtain⟨p1,p2,p3,e1,e2,m,U,G⟩:=l _ h rfl;exact Yx @hS c D4 q R e1 e2 λS t u q=>FN m U (G▸q)
 rcases N0 R with⟨h,R⟩|R
 ·obtain⟨p1,p2,p3,e1,e2,m,U,G⟩:=l _ h rfl;exact Yx @hS c D4 q R e1 e2 λS t u q=>Fu m (G▸q) (.inl (JO ((Ht (Int.natAbs_ne_zero.mpr m)).mpr (AE U (AV (by decide) (by decide))))))
 rcases N0 R with⟨h,R⟩|R
 ·exact pB @hS c D4 q R (l _ h rfl)
 rcases N0 R with⟨h,R⟩|R
 ·exact pC @hS c D4 q R (l _ h rfl)
 rcases N0 R with⟨h,R⟩|R
 ·exact pE @hS c D4 q R (l _ h rfl)
 rcases N0 R with⟨h,R⟩|R
 ·exact pF @hS c D4 q R (l _ h rfl)
 obtain⟨a,b,g,i⟩:=NZ R;obtain⟨v,name,P,xs,y,p,r,W,hp,i⟩:=XV i;obtain⟨_,_,z⟩:=Jr (AH (AH (AH i).2).2).2;obtain⟨F,_,_,_,x⟩:=Vs (AH z).2;refine pG @hS c D4 q R (o.2.1 f O d ?_ X)
 induction F with
 |bool H=>rw[AB x];induction H<;>rfl
 |_=>exact bF x
theorem pI(hS:D0 Aj w T J mg mb s0 B fn C k n)(g:I9 Aj w T J mg mb s0 fn C k){f:Nat}{as:List M}:OL Aj w T J mg mb s0 B fn C k n fo (.call f as):=by
 intro A E Z sc ρ Bt N N2 s e d Q c R X q;have R:=(AH R).2;dsimp only at R;cases t:Bf f 900 with
 |true=>
  rw[t]at R;obtain⟨id,q',xs,p,r,R⟩:=SR R;have P:=AA (AH R).1;have R:=AH (AH R).2;rw[P]at R;rw[r];apply AO P
  exact o8 @hS g c t (AA R.1) (by have:=(AH R.2).1;rw[bne,A4]at this;exact this) (AH R.2).2 X q
 |false=>rw[t]at R;exact pH @hS g c t R X q
theorem pJ(P:k<=100)(z:EA B)(D:∀n,(J.v n).natAbs<=2^1000)(g:I9 Aj w T J mg mb s0 fn C k)(hS:D0 Aj w T J mg mb s0 B fn C k n)(H:HZ Aj w T J mg mb s0 B fn C k n):D0 Aj w T J mg mb s0 B fn C k (n+1):=by
 intro A E Z sc ρ Bt N N2 s e m d fo Q c R X q;cases fo with
 |zero=>exact bF R
 |succ fo=>
 induction m using M.casesOn with
 |c U=>exact ph c R X q
 |n x=>exact pi c R X q
 |lst es=>
  obtain⟨xs,p,r,R⟩:=Vu (AH R).2
  apply AO r
  exact pf @hS c (AH R).2 (D8 (AH R).1) X q
 |tup es=>
  obtain⟨xs,kk,p,r,R⟩:=Qh (AH R).2
  apply AO r
  exact pg @hS c (AH R).2 (D8 (AH R).1) X q
 |bin o a b=>exact pj D @hS c R X q
 |neg a=>exact pk @hS c R X q
 |cmp a os=>exact po P @hS c R X q
 |bop o es=>exact pr @hS @H c R X q
 |ite t a b=>exact pt @hS @H c R X q
 |idx a i=>
  obtain⟨v,sl,p,r,R⟩:=Vv (AH R).2
  apply AO r
  exact oX @hS c (AH R).1 (AH R).2 X q
 |sl a lo hi=>
  obtain⟨v,sl,p,r,R⟩:=Vv (AH R).2;obtain⟨l,h,st,p',F,G⟩:=nM (AH R).2;rw[r,F];apply AO (Option.isNone_iff_eq_none.mp (AH G).1)
  exact o7 @hS c (AH R).1 (AH (AH G).2).1 (AH (AH G).2).2 X q
 |call f as=>exact pI @hS g c R X q
 |bi b as=>
  have R:=AH (AH R).2;obtain⟨q',xs,p,r,y,h⟩:=Qn R.2
  apply AO r
  exact o9 @hS c R.1 y h X q
 |me m o as=>
  obtain⟨v,name,ap,xs,p,r,j,hp,R⟩:=Vz (AH R).2;have G:=AH (AH R).2;rw[r];apply AO (AA (AH R).1)
  exact pe @hS g P c j hp (D8 G.1) (AH G.2).1 (AH G.2).2 X q
 |comp e' cs=>exact pw z @hS @H c R X q
 |bor a=>
  obtain⟨d',L,X⟩:=Cn X;obtain⟨y,X⟩:=De X;exact hS ⟨c.ha,c.ok,c.bs,⟨c.rel.two,by rw[B7];exact c.rel.two,c.rel.sl⟩,λI h=>h,λa h=>c.occ a (c.hs2 a h)⟩ (AH R).2 L λv S W u=>q v S W (sI X▸u.scalar y)
theorem pK{m:M}{e:Expr}(hm:XZ m=Y)(h:Bu B fn (fo+1) sc e m=Y):X0 e=Y:=by
 have h:=(AH (AH h).1).2;rw[hm]at h;exact h
theorem pL{e:Expr}(h:X0 e=Y):isTrue e Z (C1 e Z)=(do let v <-C1 e Z;JI e.pos;R8 [v] (truthy v)):=by
 induction e using Ya with
 |UnaryOp u x p=>induction u<;>first|exact bF h|rfl
 |_=>first|exact bF h|rfl
theorem pM(P:k<=100)(y:D0 Aj w T J mg mb s0 B fn C k (n+1))(hS:D0 Aj w T J mg mb s0 B fn C k n)(H:HZ Aj w T J mg mb s0 B fn C k n):HZ Aj w T J mg mb s0 B fn C k (n+1):=by
 intro A E Z sc ρ Bt N N2 s e m d t fo Q c R X f q;cases fo with
 |zero=>exact bF R
 |succ fo=>
 have plain:XZ m=Y->Ap (Aq Aj w) A (isTrue e Z (C1 e Z)) Q E s:=λhm=>
  DY (y c R X λv AK W i=>XE f i λtk=>q _ (W.trans .toks)) (pL (pK hm R))
 induction m using M.casesOn with
 |cmp a os=>
  obtain⟨l,ops,z,p,j,R⟩:=XQ (AH R).2;obtain⟨x,L,X⟩:=Cn X
  apply AO j
  show Ap _ _ (do testChain p (<-C1 l Z) ops (markedEach ops z (O6 z Z))) Q E s
  rw[PU _ _ _ (gn os (AH R).2)];refine Ai (hS c (AH R).1 L λva AK W i=>(gp @hS P os (c.ext W) (AH R).2 X i).2 Q λb S F u=>?_)
  rw[F]at f;exact sI f▸q _ (W.trans u)
 |bop o es=>
  obtain⟨o',xs,p,j,R⟩:=fm (AH R).2
  apply AO j;apply CE (AA (AH R).1)
  exact wpAny_isTrue_BoolOp ((gq @hS @H (pos:=p) es c (AH R).2 (gu X)).2 Q t f q)
 |ite D a b=>
  obtain⟨t',a',b',p,j,R⟩:=fq (AH R).2;obtain⟨x,L,X⟩:=Cn X;obtain⟨r,G,X⟩:=Cn X;obtain⟨U,h2,h3⟩:=KJ AH (AH R)
  apply AO j
  refine isTrue_IfExp (H c U L G λAK W=>?_)
  induction r with
  |true=>exact H (c.ext W) h2 X f λS u=>q S (W.trans u)
  |false=>exact H (c.ext W) h3 X f λS u=>q S (W.trans u)
 |bor a=>
  obtain⟨d',g,X⟩:=Cn X;obtain⟨Bd,X⟩:=De X;rw[<-sI X]at f;exact H ⟨c.ha,c.ok,c.bs,⟨c.rel.two,by rw[B7];exact c.rel.two,c.rel.sl⟩,λI h=>h,λa h=>c.occ a (c.hs2 a h)⟩ (AH R).2 g f q
 |_=>exact plain rfl
theorem Rq(P:k<=100)(N:EA B)(x:∀n,(J.v n).natAbs<=2^1000)(g:I9 Aj w T J mg mb s0 fn C k)(n:Nat):D0 Aj w T J mg mb s0 B fn C k n/\HZ Aj w T J mg mb s0 B fn C k n:=by
 induction n with
 |zero=>exact⟨λz z X=>nS X,λz z X=>nS X⟩
 |succ n ih=>
  have m:D0 Aj w T J mg mb s0 B fn C k (n+1):=pJ P N x g ih.1 ih.2;exact⟨m,pM P @m ih.1 ih.2⟩
structure Yy(T:An->Prop)(J:Sg)(N:An->Prop)(s S:Ah)(L:An)(Bv:List D):Prop where
 new:s.heap.get? L=Ao
 tab:¬T L
 notN:¬N L
 items:∃I:List Ag,S.heap.PlainList L I.toArray/\BV J (λa=>N a\/a=L) S.heap I Bv
structure N6(T:An->Prop)(Z:DS)(s S:Ah)(x:Av)(a:An)(v:Ag):Prop where
 upd:Co T (·=a) s S
 slots:FV Z S.heap
 var:DH Z S.heap x v
 others:∀y u,y≠x->DH Z s.heap y u->DH Z S.heap y u
noncomputable def Pv(m:M):Bool:=As (Xj m) 2||Nat.beq (Xj m) 14
theorem Yz{e:Expr}{m:M}{fo:Nat}(h:Bu B fn fo sc e m=Y):(∀a b c d,e≠.SetComp a b c d)/\∀a b c d f,e≠.DictComp a b c d f:=⟨λz z z z q=>Rj h q rfl,λz z z z z q=>Rj h q rfl⟩
theorem pN{es:List M}{v:Expr}{fo:Nat}(h:Bu B fn (fo+1) sc v (.lst es)=Y):LW (λxs p=>v= .List xs p) λxs z=>es.length<=1000/\GR (Bu B fn fo sc) xs es=Y:=by
 obtain⟨xs,p,r,h⟩:=Vu (AH h).2;exact⟨xs,p,r,D8 (AH h).1,(AH h).2⟩
theorem Pw{x:Av}{v:Ag}{a:An}{AK:Ah}{Q:Unit->Ah->Prop}(ok:IB Z sc)(sl:FV Z AK.heap)(W:BM T s AK)(st:Nd Z x a)(D:¬T a)
  (q:∀S,Co T (·=a) AK S->N6 T Z s S x a v->Q () S):Ap (Aq Aj w) A (D6 Z x v) Q E AK:=
 Yc ok.kind sl st D λS u o b C=>q S u ⟨W.upd.trans u,o,b,λy c d h=>C y c d (h.ext W)⟩
theorem Co.gone_new{W:An->Prop}{S DK:Ah}{Cl:An}(u:Co T W s S)(g:Fe T (·=Cl) S DK)(r:s.heap.get? Cl=Ao):Co T W s DK:=by
 have j:∀{b o},s.heap.get? b=V o->¬b=Cl:=λe q=>nS (r.symm.trans (q▸e))
 refine⟨λb o p L e=>g.keep b o p (j e) (u.keep b o p L e),λb o L e t=>g.keep2 b o (j e) (u.keep2 b o L e t) t,λb F=>?_,λb A e=>g.tab b A (u.tab b A e),λi e=>g.gens i (u.gens i e),g.os.trans u.os⟩
 have y:=F;obtain⟨o,e,t⟩:=y;obtain⟨P,E,C⟩:=u.occ b F;exact⟨P,g.keep2 b P (j e) E C,C⟩
theorem gv(hS:D0 Aj w T J mg mb s0 B fn C k n)(hT:HZ Aj w T J mg mb s0 B fn C k n)(Ce:EA B)(c:Cx T J mg mb s0 B k A Z sc ρ Bt N N2 s)
  {x:Av}{p pos:B9}{i:Expr}{m:M}{d:D}{a:An}{Q:EW->Ah->Prop}(R:Bu B fn fo sc i m=Y)(hf:Pv m=Y)(X:ev C (n+1) ρ Bt m=V d)(st:Nd Z x a)(ht:¬T a)(j:N a)
  (q:∀L Bv S,d= .lst Bv->N6 T Z s S x a (.ref L)->Yy T J N s S L Bv->Q .next S):Ap (Aq Aj w) A (EB (.Assign [.Name x p] i pos) Z) Q E s:=by
 have F:∀(AK:Ah) (L:An) (I:List Ag) (Bv:List D) (N':An->Prop) (Q':Unit->Ah->Prop),d= .lst Bv->BM T s AK->s.heap.get? L=Ao->¬T L->¬N L->AK.heap.PlainList L I.toArray->BV J N' AK.heap I Bv->N' a->
   (∀S,Co T (·=a) AK S->N6 T Z s S x a (.ref L)->S.heap.PlainList L I.toArray->BV J N' S.heap I Bv->Q' () S)->Ap (Aq Aj w) A (D6 Z x (.ref L)) Q' E AK:=by
  intro AK L I Bv N' Q' hd W U h2 h3 h4 G Cf q';exact Pw c.ok (c.rel.sl.ext W) W st ht λS u f=>q' S u f (IT u h4 λe=>h3 (e▸j)) (G.mono (u.fits λb e=>e▸Cf))
 cases fo with
 |zero=>exact bF R
 |succ fo=>
 induction m using M.casesOn with
 |lst es=>
  obtain⟨xs,vp,he,CH,R⟩:=pN R;obtain⟨O,D4,e⟩:=M6 X
  apply AO he
  refine A2 (O0 (N4 @hS xs c R D4 λI AK W DD=>?_)) rfl
  have Ev:=c.ext W;have E3:BM T AK {AK with heap:=AK.heap.push {cls:=.type "list",data:=.seq I.toArray}}:=.push (tk:=AK.toks)
  have l:¬T AK.heap.objs.size:=λh=>AN _ (Ev.bs.lt _ h)
  have z:s.heap.get? AK.heap.objs.size=Ao:=by
   cases e:s.heap.get? AK.heap.objs.size with
   |none=>rfl
   |some o=>exact absurd (AY (W.keep _ o l e)) (AN _)
  have E4:¬N AK.heap.objs.size:=Nc Ev.occ;refine Bi (F _ _ I O (λa=>N a\/a=AK.heap.objs.size) _ e.symm (W.trans E3) z l E4 ⟨0,Ay _ rfl⟩ (DD.mono λb o hn e c=>⟨λh=>h.elim hn λh=>absurd (AY e) (by apply AO h;exact AN _),E3.keep2 b o e c⟩) (.inl j) λS K f hp hr=>
   q _ O S e.symm f ⟨z,l,E4,I,hp,hr⟩) ?_
  show I.toArray.size<=C5;rw[AD,DD.length,Yw D4];exact Am CH (by decide)
 |comp e cs=>
  obtain⟨H,gens,scope,vp,he,R⟩:=XS (AH R).2;obtain⟨cl,r,U,co⟩:=Yr R;rw[U]at X
  apply AO he
  have P:Kc (.ListComp H gens scope vp) (V (.Name x p)) pos.line Z=BU (Z.blockKind==.function&&Z.kindOf x==V .local&&p.line==(HP H gens scope vp).pos.line
    && !(scope.names.any λ(n,k)=>n==x&&(k==.local||k==.cell))):=rfl
  generalize (Z.blockKind==.function&&Z.kindOf x==V .local&&p.line==(HP H gens scope vp).pos.line
    && !(scope.names.any λ(n,k)=>n==x&&(k==.local||k==.cell)))=b at P
  induction b with
  |false=>
   refine A2 ?_ P
   rw[Ms,co.sync];exact Yu @hS @hT Ce c co X (λK L I Bv AK hd W U h2 h3 h4 G=>F AK L I Bv (λa=>N a\/a=L) _ hd W U h2 G h3 h4 (.inl j) λS K f hp hr=>q L Bv S hd f ⟨U,h2,G,I,hp,hr⟩) λu hu=>nomatch hu
  |true=>
   rw[Ou _ _ _ _ P];refine Ai (AU (Ai ?_))
   rw[MC,co.sync];refine Ai (AM (Yu (use:=V (Jd (.Name x p) Z)) (Q:=λK S=>Q .next S) @hS @hT Ce c co X (λhu=>nomatch hu) λu hu L I Bv AK Cl m hd W U h2 h3 h4 G h6 E5 h7 h8=>?_)
    (λK S hq=>Ar (Ar hq)) λK K e=>e)
   apply CE (sI hu)
   refine Ai (AU (Et ?_))
   have Fn:Cl≠a:=λe=>by
    obtain⟨o,e',_⟩:=c.occ a j;exact nS (h7.symm.trans (e▸e'))
   refine F AK L I Bv (λb=>(N b\/b=L)\/b=Cl) _ hd W U h2 G h3 h4 (.inl (.inl j)) λS u f hp hr=>⟨m,u.ns E5 Fn,λh' F1=>?_⟩
   have g:Fe T (·=Cl) S {S with heap:=h'}:=Fe.of_but F1 h8 (.ns (u.ns E5 Fn))
   have F0:∀{b},Da s.heap b->¬b=Cl:=λ⟨o,e',_⟩ e=>nS (h7.symm.trans (e▸e'))
   have Bd:¬Z.locals=Cl:=by
    obtain⟨m',F2⟩:=c.rel.sl.ns;exact F0 (Ql F2)
   have Bs:∀n c,(n,c)∈Z.cells->¬c=Cl:=λn c' hm=>by
    obtain⟨v,hv⟩:=c.rel.sl.cells n c' hm;exact F0 (Rk hv)
   exact q L Bv _ hd ⟨f.upd.gone_new g h7,f.slots.gone g Bd Bs,f.var.gone g Bd Bs,λy u' hy h=>(f.others y u' hy h).gone g Bd Bs⟩ ⟨U,h2,G,I,VJ g hp h6,hr.mono λb o hn e t=>⟨λh=>hn (.inl h),g.keep2 b o (λq=>hn (.inr q)) e t⟩⟩
 |_=>exact bF hf
set_option genCtorIdx false in
inductive Ae where
 |lst (O:List D)
 |nest (dss:List (List D))
 |hdr (O:List D)
noncomputable def Ae.d(o:Ae):D:=Ae.casesOn o .lst (λi=>.lst (i.map .lst)) .hdr
set_option genCtorIdx false in
inductive Ad where
 |asg (t:List Nat) (CZ:Bool) (e:M)
 |anew (x:Nat) (e:M)
 |nnew (x:Nat) (e:M)
 |aug (x:Nat) (o:BY) (e:M)
 |app (x:Nat) (e:M)
 |ext (x:Nat) (e:M)
 |set (x:Nat) (i e:M)
 |next (x:Nat) (i e:M)
 |hnew (x:Nat)
 |hadd (x:Nat) (a b:M)
 |ite (c:M) (a b:List Ad)
 |loop (t:List Nat) (CZ:Bool) (k:Nat) (it:List M) (body:List Ad)
 |ret (e:M)
 |frz (x:Nat)
 |bad
 |rev (x:Nat)
 |saug (x:Nat) (i:M) (o:BY) (e:M)
 |sw (x y:Nat) (a b:M)
 |hset (x:Nat) (a b:M)
 |hsd (x:Nat) (a b c:M)
 |told (z x:Nat) (e a b:M)
set_option genCtorIdx false in
inductive Dq where
 |next (ρ:List (Nat×D)) (ow:List (Nat×Ae))
 |ret (d:D)
noncomputable def CU(l:List (Nat×Ae)):List (Nat×D):=A0 [] (λp z i=>(p.1,p.2.d)::i) l
noncomputable def L5(x:Nat)(l:List (Nat×Ae)):List (Nat×Ae):=A0 [] (λp z i=>bI (As x p.1) i (p::i)) l
noncomputable def HL(x:Nat)(o:Ae)(l:List (Nat×Ae)):List (Nat×Ae):=A0 [] (λp r i=>bI (As x p.1) ((p.1,o)::r) (p::i)) l
noncomputable def gw{x:Type}(o:Option x):Bool:=oE o Y λz=>Ak
noncomputable def J4(t:List Nat)(ow:List (Nat×Ae)):Bool:=t.all λx=>gw (lk x ow)
noncomputable def Rr{x:Type}(l:List x):Nat->x->List x:=A0 (λz z=>[]) (λb r i n a=>W0 n (a::r) λn=>b::i n a) l
noncomputable def gx(d:D):Bool:=match d with
 | .lst _=>Y
 |_=>Ak
noncomputable def S2(l:List D):Bool:=A0 Y (λd z i=>gx d&&i) l
noncomputable def YA{z:Type}(d:D)(f:List D->Option z):Option z:=match d with
 | .hdr l=>f l
 |_=>Ao
theorem YB{z:Type}{d:D}{r:z}{f:List D->Option z}(h:YA d f=V r):FC (λp=>d= .hdr p) λp=>f p=V r:=by induction d using Yf<;>first|exact nS h|exact⟨_,rfl,h⟩
noncomputable def one{x:Type}(l:List D)(f:D->Option x):Option x:=BF l Ao λa r=>BF r (f a) λz z=>Ao
theorem Px{z:Type}{l:List D}{r:z}{f:D->Option z}(h:one l f=V r):FC (λp=>l=[p]) λp=>f p=V r:=by
 cases l with
 |nil=>exact nS h
 |cons a l=>induction l with
  |nil=>exact⟨a,rfl,h⟩
  |cons _ _=>exact nS h
noncomputable def two{z:Type}(l:List D)(f:D->D->Option z):Option z:=BF l Ao λa r=>one r (f a)
theorem Ni{z:Type}{l:List D}{r:z}{f:D->D->Option z}(h:two l f=V r):LW (λa b=>l=[a,b]) λa b=>f a b=V r:=by
 induction l with
 |nil=>exact nS h
 |cons a l=>
  obtain⟨b,e,h⟩:=Px h;exact⟨a,b,by apply AO e;rfl,h⟩
noncomputable def Py(name:List Nat)(l:List D):Option (List D):=A0 (V []) (λd z i=>OD d λl=>two l λk v=>H3 k λk=>BG i λl=>V (bI (Fq (k.map DG) (name.map DG)) (v::l) l)) l
noncomputable def Ul(d:D):Bool:=(OD d λl=>two l λk z=>H3 k λk=>CB (IP k&&AS k) (V k)).isSome
noncomputable def JS(l:List D):Bool:=A0 Y (λd z i=>Ul d&&i) l
noncomputable def LH(d:D):Bool:=match d with
 | .str _=>Y
 | .sym _=>Y
 |_=>Ak
noncomputable def VL(d:D):Bool:=(OD d λl=>two l λk v=>H3 k λz=>CB (LH v) (V Y)).isSome
noncomputable def Ja(l:List D):Bool:=A0 Y (λd z i=>VL d&&i) l
noncomputable def Nj(name:List Nat)(l:List D):Option (List D):=A0 (V []) (λd z i=>OD d λl=>two l λk z=>H3 k λk=>BG i λb=>V (bI (Fq (k.map DG) name) b (d::b))) l
noncomputable def Nk(name:List Nat)(l:List D):Option (Option D):=A0 (V Ao) (λd z i=>OD d λl=>two l λk v=>H3 k λk=>bI (Fq (k.map DG) name) (V (V v)) i) l
noncomputable def H7(s:List Nat):Bool:=(s.all λc=>A3 32 c&&Bf c 127)&&Bf s.length 1000000
noncomputable def N7(d:D):Bool:=match d with
 | .str s=>H7 s
 | .sym _=>Y
 |_=>Ak
noncomputable def VM(l:List D):Bool:=A0 Y (λd z i=>LH d&&i) l
noncomputable def VN(d:D):Bool:=match d with
 | .lst l=>VM l
 |_=>Ak
noncomputable def S3(l:List D):Bool:=A0 Y (λd z i=>VN d&&i) l
noncomputable def N8(C:Nat->List D->Option D):Bool:=(C 1999 []).isSome
noncomputable def Jt(e:Bool)(p:Nat)(l:List Nat):List (Nat×List Nat):=A0 (motive:=λz=>Bool->Nat->List (Nat×List Nat)) (λe p=>bI e [(p-1,[92])] [])
 (λc z i e p=>bI e ((p,[92,c])::i Ak (p+1)) (bI (As c 92) (i Y (p+1)) ((p,[c])::i Ak (p+1)))) l e p
noncomputable def La(its:List (Nat×List Nat)):List D:=its.map λp=>.tup [.int (.k (.ofNat p.1)),.str p.2]
noncomputable def YC(O:List D):Option (List D):=match O with
 |[]=>Ao
 |a::r=>Ly a λx=>BG (K4 r) λb=>Ly b λy=>CB (AS x&&AS y) (V (Po x y))
noncomputable def Nl(k:Nat)(O:List D):Option (List D):=match As k 2 with
 |true=>YC O
 |false=>(match As k 3 with
  |true=>BG (K4 O) λd=>H3 d λs=>CB (IP s) (V (La (Jt Ak 0 s)))
  |false=>(match As k 4 with
   |true=>BG (K4 O) λd=>Ly d λl=>CB (AS l) (V l.reverse)
   |false=>Qc k O))
noncomputable def N9(o:BY)(a b:D):Option D:=I6 a λp=>I6 b λq=>match o with
 | .Add=>V (.int (Sy p q))
 | .Sub=>V (.int (Sy p (U7 q)))
 | .Mult=>CB (fits p&&fits q) (V (.int (Xg p q)))
 |_=>Ao
noncomputable def Rs{z:Type}(o:Option Ae)(f:List D->Option z):Option z:=BG o λp=>match p with
 | .lst O=>f O
 |_=>Ao
noncomputable def Um{z:Type}(o:Option Ae)(f:List (List D)->Option z):Option z:=BG o λp=>match p with
 | .nest O=>f O
 |_=>Ao
noncomputable def Rt{z:Type}(o:Option Ae)(f:List D->Option z):Option z:=BG o λp=>match p with
 | .hdr O=>f O
 |_=>Ao
variable {α:Type} {o:Option Ae} {r:α}
theorem S4{f:List D->Option α}(h:Rs o f=V r):FC (λp=>o=V (.lst p)) λp=>f p=V r:=by
 obtain⟨p,U,h⟩:=Cn h
 induction p<;>first|exact nS h|exact⟨_,U,h⟩
theorem pO{f:List (List D)->Option α}(h:Um o f=V r):FC (λp=>o=V (.nest p)) λp=>f p=V r:=by
 obtain⟨p,U,h⟩:=Cn h
 induction p<;>first|exact nS h|exact⟨_,U,h⟩
theorem VO{f:List D->Option α}(h:Rt o f=V r):FC (λp=>o=V (.hdr p)) λp=>f p=V r:=by
 obtain⟨p,U,h⟩:=Cn h
 induction p<;>first|exact nS h|exact⟨_,U,h⟩
noncomputable def OM{z:Type}(d:D)(f:Nat->Option z):Option z:=H4 d λi=>P9 i f
theorem Pz{z:Type}{d:D}{r:z}{f:Nat->Option z}(h:OM d f=V r):FC (λj:Nat=>d= .int (.k (.ofNat j))) λj=>f j=V r:=by
 obtain⟨i,U,h⟩:=H5 h;obtain⟨j,G,h⟩:=Q6 h;exact⟨j,by rw[U];apply AO G;rfl,h⟩
noncomputable def Un(o:Dq)(f:List (Nat×D)->List (Nat×Ae)->Option Dq):Option Dq:=Dq.casesOn o f λe=>V (.ret e)
noncomputable def JD(f:D->List (Nat×D)->List (Nat×Ae)->Option Dq)(l:List D):List (Nat×D)->List (Nat×Ae)->Option Dq:=A0 (λρ ow=>V (.next ρ ow)) (λd z i ρ ow=>BG (f d ρ ow) λo=>Un o i) l
noncomputable def HM(o:Option Dq)(f:List (Nat×D)->List (Nat×Ae)->Option Dq):Option Dq:=BG o λo=>Un o f
noncomputable def JE(CL:List (Nat×D)->List (Nat×Ae)->Option Dq)(t:List Nat)(CZ:Bool)(d:D)(ρ:List (Nat×D))(ow:List (Nat×Ae)):Option Dq:=CB (J4 t ow) (BG (L0 t CZ d (Dn t ρ)) λA6=>CL A6 ow)
noncomputable abbrev Ru:=List Ad->List (Nat×D)->List (Nat×Ae)->Option Dq
section
variable (C:Nat->List D->Option D) (E:Ev) (R:Ru) (r:List Ad) (ρ:List (Nat×D)) (ow:List (Nat×Ae))
noncomputable def bV(t:List Nat)(CZ:Bool)(e:M):Option Dq:=BG (E ρ (CU ow) e) λd=>CB (J4 t ow) (BG (L0 t CZ d (Dn t ρ)) λA6=>R r A6 ow)
noncomputable def pP(x:Nat)(e:M):Option Dq:=BG (E ρ (CU ow) e) λd=>Ly d λO=>CB (J4 [x] ow&&Pv e) (R r (Dn [x] ρ) ((x,.lst O)::ow))
noncomputable def pQ(x:Nat)(e:M):Option Dq:=BG (E ρ (CU ow) e) λd=>Ly d λO=>CB (J4 [x] ow&&S2 O) (R r (Dn [x] ρ) ((x,.nest (O.map λz=>[]))::ow))
noncomputable def bW(x:Nat)(o:BY)(e:M):Option Dq:=BG (lk x ρ) λa=>BG (E ρ (CU ow) e) λb=>BG (N9 o a b) λd=>CB (J4 [x] ow) (R r ((x,d)::Dn [x] ρ) ow)
noncomputable def bX(x:Nat)(e:M):Option Dq:=BG (E ρ (CU ow) e) λd=>Rs (lk x ow) λO=>CB (AS O) (R r ρ (HL x (.lst (O++[d])) ow))
noncomputable def bY(x:Nat)(e:M):Option Dq:=BG (E ρ (CU ow) e) λd=>Ly d λes=>Rs (lk x ow) λO=>CB (AS (O++es)) (R r ρ (HL x (.lst (O++es)) ow))
noncomputable def bZ(x:Nat)(i e:M):Option Dq:=BG (E ρ (CU ow) e) λd=>BG (E ρ (CU ow) i) λt=>OM t λj=>Rs (lk x ow) λO=>CB (Bf j O.length&&AS O) (R r ρ (HL x (.lst (Rr O j d)) ow))
noncomputable def pR(x:Nat)(i e:M):Option Dq:=BG (E ρ (CU ow) i) λt=>OM t λj=>BG (E ρ (CU ow) e) λd=>Ly d λes=>Um (lk x ow) λh=>BG (K2 h j) λO=>
 CB (AS (O++es)&&AS h) (R r ρ (HL x (.nest (Rr h j (O++es))) ow))
noncomputable def pS(x:Nat):Option Dq:=CB (J4 [x] ow) (R r (Dn [x] ρ) ((x,.hdr [])::ow))
noncomputable def pT(x:Nat)(a b:M):Option Dq:=BG (E ρ (CU ow) a) λc=>H3 c λk=>BG (E ρ (CU ow) b) λv=>Rt (lk x ow) λO=>
 CB ((Ja O&&AS O)&&(H7 k&&N7 v)) (R r ρ (HL x (.hdr (O++[.tup [.str k,v]])) ow))
noncomputable def ca(c:M)(a b:List Ad):Option Dq:=BG (E ρ (CU ow) c) λx=>BG (OF x) λt=>HM (R (bI t a b) ρ ow) (R r)
noncomputable def pU(t:List Nat)(CZ:Bool)(k:Nat)(it:List M)(body:List Ad):Option Dq:=BG (Gs (E ρ (CU ow)) it) λO=>BG (Nl k O) λitems=>HM (JD (JE (R body) t CZ) items ρ ow) (R r)
noncomputable def cb(e:M):Option Dq:=BG (E ρ (CU ow) e) λd=>V (.ret d)
noncomputable def ce(x:Nat):Option Dq:=oE (lk x ow) (R r ρ ow) λo=>R r ((x,o.d)::Dn [x] ρ) (L5 x ow)
noncomputable def cf(x:Nat):Option Dq:=Rs (lk x ow) λO=>CB (AS O) (R r ρ (HL x (.lst O.reverse) ow))
noncomputable def pV(x:Nat)(i:M)(o:BY)(e:M):Option Dq:=BG (E ρ (CU ow) i) λt=>OM t λj=>Rs (lk x ow) λO=>BG (K2 O j) λa=>BG (E ρ (CU ow) e) λb=>BG (N9 o a b) λd=>
 CB (AS O) (R r ρ (HL x (.lst (Rr O j d)) ow))
noncomputable def pW(x y:Nat)(a b:M):Option Dq:=BG (E ρ (CU ow) a) λc=>BG (E ρ (CU ow) b) λd=>CB (J4 [x,y] ow&& !As x y) (R r ((x,c)::(y,d)::Dn [x,y] ρ) ow)
noncomputable def pY(x:Nat)(a b:M):Option Dq:=BG (E ρ (CU ow) a) λc=>H3 c λk=>BG (E ρ (CU ow) b) λv=>Rt (lk x ow) λO=>
 CB (N8 C&&((Ja O&&JS O&&AS O)&&(HY k&&(H7 k&&N7 v)))) (BG (Nj (k.map DG) O) λl=>R r ρ (HL x (.hdr (l++[.tup [.str k,v]])) ow))
noncomputable def cg(x:Nat)(a b c:M):Option Dq:=BG (E ρ (CU ow) a) λf=>H3 f λk=>BG (E ρ (CU ow) b) λv=>BG (E ρ (CU ow) c) λe=>Rt (lk x ow) λO=>
 CB (N8 C&&((Ja O&&JS O&&AS O)&&(HY k&&(H7 k&&N7 v)))) (BG (Nk (k.map DG) O) λo=>BG o λd=>BG (M9 d e) λq=>CB q (R r ρ ow))
noncomputable def pZ(z x:Nat)(e a b:M):Option Dq:=BF ow Ao λp Dh=>Rt (V p.2) λO=>BG (E ((x,.hdr O)::ρ) [] e) λd=>Ly d λBv=>BG (E ρ (CU ow) a) λc=>H3 c λk=>BG (E ρ (CU ow) b) λv=>
 CB (N8 C&&(SD Dh&&(As p.1 x&&(!As z x&&(S3 Bv&&(Vg O&&((Ja O&&JS O&&AS O)&&(AS (O++[.tup [.str k,v]])&&(HY k&&(H7 k&&N7 v)))))))))) (BG (Nk (k.map DG) O) λo=>CB (gw o)
  (BG (Ra .Add (.lst Bv) (.lst [v,.lst (O++[.tup [.str k,v]])])) λd=>R r ((z,d)::ρ) [(x,.hdr (O++[.tup [.str k,v]]))]))
noncomputable def qc(s:Ad):Option Dq:=Ad.casesOn (motive_1:=λz=>Option Dq) s (bV E R r ρ ow) (pP E R r ρ ow) (pQ E R r ρ ow) (bW E R r ρ ow) (bX E R r ρ ow) (bY E R r ρ ow) (bZ E R r ρ ow) (pR E R r ρ ow) (pS R r ρ ow) (pT E R r ρ ow)
 (ca E R r ρ ow) (pU E R r ρ ow) (cb E ρ ow) (ce R r ρ ow) Ao (cf R r ρ ow) (pV E R r ρ ow) (pW E R r ρ ow) (pY C E R r ρ ow) (cg C E R r ρ ow) (pZ C E R r ρ ow)
end
noncomputable def CL(C:Nat->List D->Option D)(n:Nat):Ru:=JU (λz z z=>Ao) (λn R F ρ ow=>BF F (V (.next ρ ow)) λs r=>qc C (ev C n) R r ρ ow s) n
inductive IV(J:Sg)(N:An->Prop)(h:A9):List An->List (List D)->Prop
 |nil:IV J N h [] []
 |cons {b:An} {bs:List An} {I:List Ag} {O:List D} {dss:List (List D)}:h.PlainList b I.toArray->BV J N h I O->IV J N h bs dss->IV J N h (b::bs) (O::dss)
inductive Ju(J:Sg)(N:An->Prop)(h:A9):Ag->Ae->List An->Prop
 |lst {a:An} {I:List Ag} {O:List D}:h.PlainList a I.toArray->BV J N h I O->Ju J N h (.ref a) (.lst O) [a]
 |nest {a:An} {bs:List An} {dss:List (List D)}:h.PlainList a (bs.map Cy).toArray->IV J N h bs dss->Ju J N h (.ref a) (.nest dss) (a::bs)
 |hdr {x dx b:An} {o od:Fo} {I:List Ag} {O:List D}:h.get? x=V o->h.get? dx=V od->Na (J.v 999).toNat o od x dx b->h.PlainList b I.toArray->BV J N h I O->Ju J N h (.ref x) (.hdr O) [x,dx,b]
theorem IV.mono{bs:List An}(f:FU N N2 h h')(k:∀b,Da h b->b∈bs->h'.get? b=h.get? b){W:List An}{i:List (List D)}(F:∀b∈W,b∈bs)(x:IV J N h W i):IV J N2 h' W i:=by
 induction x with
 |nil=>exact .nil
 |cons p r _ ih=>
  obtain⟨n,e⟩:=p;exact .cons ⟨n,(k _ ⟨_,e,rfl⟩ (F _ (.head _))).trans e⟩ (r.mono f) (ih λb hm=>F b (.tail _ hm))
theorem Ju.mono{v:Ag}{o:Ae}{as:List An}(f:FU N N2 h h')(k:∀b,Da h b->b∈as->h'.get? b=h.get? b)(x:Ju J N h v o as):Ju J N2 h' v o as:=by
 induction x with
 |lst hp r=>
  obtain⟨n,e⟩:=hp;exact .lst ⟨n,(k _ ⟨_,e,rfl⟩ (.head _)).trans e⟩ (r.mono f)
 |nest hp t=>
  obtain⟨n,e⟩:=hp;exact .nest ⟨n,(k _ ⟨_,e,rfl⟩ (.head _)).trans e⟩ (IV.mono f k (λb hm=>.tail _ hm) t)
 |hdr e1 e2 C hp r=>
  obtain⟨n,e⟩:=hp;exact .hdr ((k _ ⟨_,e1,C.tab.1⟩ (.head _)).trans e1) ((k _ ⟨_,e2,C.tab.2⟩ (.tail _ (.head _))).trans e2) C ⟨n,(k _ ⟨_,e,rfl⟩ (.tail _ (.tail _ (.head _)))).trans e⟩ (r.mono f)
theorem IV.rd(j:∀a,N2 a->N a){bs:List An}{i:List (List D)}(F:∀b∈bs,¬N2 b)(x:IV J N h bs i):BV J N2 h (bs.map Cy) (i.map .lst):=by
 induction x with
 |nil=>exact .nil
 |cons p r _ ih=>
  obtain⟨n,e⟩:=p;exact .cons (.lst (F _ (.head _)) e (r.mono λa o M e z=>⟨λq=>M (j a q),e⟩)) (ih λb hm=>F b (.tail _ hm))
theorem Ju.rd{v:Ag}{o:Ae}{as:List An}(j:∀a,N2 a->N a)(F:∀b∈as,¬N2 b)(x:Ju J N h v o as):Rd J N2 h v o.d:=by
 have i:FU N N2 h h:=λa o M e z=>⟨λq=>M (j a q),e⟩
 induction x with
 |lst hp r=>
  obtain⟨n,e⟩:=hp;exact .lst (F _ (.head _)) e (r.mono i)
 |nest hp t=>
  obtain⟨n,e⟩:=hp;exact .lst (F _ (.head _)) e (IV.rd j (λb hm=>F b (.tail _ hm)) t)
 |hdr e1 e2 C hp r=>
  obtain⟨n,e⟩:=hp;exact .hdr (F _ (.head _)) (F _ (.tail _ (.head _))) (F _ (.tail _ (.tail _ (.head _)))) e1 e2 C e (r.mono i)
theorem IV.occ{bs:List An}{j:List (List D)}(x:IV J N h bs j):∀a∈bs,Da h a:=by
 induction x with
 |nil=>exact λz i=>nomatch i
 |cons p r _ ih=>
  intro a i;obtain⟨n,e⟩:=p;rcases jC i with q|i
  ·exact⟨_,q▸e,rfl⟩
  ·exact ih a i
theorem Ju.occ{v:Ag}{o:Ae}{as:List An}(x:Ju J N h v o as):∀a∈as,Da h a:=by
 have one:∀{p:An->Prop} {a:An} {r:List An},p a->(∀b∈r,p b)->∀b∈a::r,p b:=λU i b F=>(jC F).elim (λq=>q▸U) (i b)
 have nil:∀{p:An->Prop},∀b∈([]:List An),p b:=λz F=>nomatch F
 induction x with
 |lst hp r=>
  obtain⟨n,e⟩:=hp;exact one ⟨_,e,rfl⟩ nil
 |nest hp t=>
  obtain⟨n,e⟩:=hp;exact one ⟨_,e,rfl⟩ t.occ
 |hdr e1 e2 C hp r=>
  obtain⟨n,e⟩:=hp;exact one ⟨_,e1,C.tab.1⟩ (one ⟨_,e2,C.tab.2⟩ (one ⟨_,e,rfl⟩ nil))
inductive qd(J:Sg)(N:An->Prop)(h:A9)(v:Ag)(O:List D)(as:List An):Prop
 |mk (a:An) (I:List Ag) (hv:v= .ref a) (ha:as=[a]) (hp:h.PlainList a I.toArray) (r:BV J N h I O)
inductive qe(J:Sg)(N:An->Prop)(h:A9)(v:Ag)(dss:List (List D))(as:List An):Prop
 |mk (a:An) (bs:List An) (hv:v= .ref a) (ha:as=a::bs) (hp:h.PlainList a (bs.map Cy).toArray) (t:IV J N h bs dss)
inductive qf(J:Sg)(N:An->Prop)(h:A9)(v:Ag)(O:List D)(as:List An):Prop
 |mk (x dx b:An) (o od:Fo) (I:List Ag) (hv:v= .ref x) (ha:as=[x,dx,b]) (e1:h.get? x=V o) (e2:h.get? dx=V od) (ho:Na (J.v 999).toNat o od x dx b) (hp:h.PlainList b I.toArray) (r:BV J N h I O)
def qg(J:Sg)(N:An->Prop)(h:A9)(v:Ag)(o:Ae)(as:List An):Prop:=match o with
 | .lst O=>qd J N h v O as
 | .nest a=>qe J N h v a as
 | .hdr O=>qf J N h v O as
theorem Ju.inv{v:Ag}{o:Ae}{as:List An}(x:Ju J N h v o as):qg J N h v o as:=by
 induction x with
 |lst hp r=>exact⟨_,_,rfl,rfl,hp,r⟩
 |nest hp t=>exact⟨_,_,rfl,rfl,hp,t⟩
 |hdr e1 e2 C hp r=>exact⟨_,_,_,_,_,_,rfl,rfl,e1,e2,C,hp,r⟩
def Dt(N2:An->Prop)(OA:List (List An)):An->Prop:=λa=>N2 a\/a∈OA.flatten
inductive GT(J:Sg)(B:Nat->Av)(N:An->Prop)(Z:DS)(h:A9):List (Nat×Ae)->List (List An)->Prop
 |nil:GT J B N Z h [] []
 |cons {x:Nat} {o:Ae} {as:List An} {v:Ag} {r:List (Nat×Ae)} {r':List (List An)}:DH Z h (B x) v->Ju J N h v o as->GT J B N Z h r r'->GT J B N Z h ((x,o)::r) (as::r')
structure EQ(T:An->Prop)(J:Sg)(B:Nat->Av)(N2:An->Prop)(Z:DS)(h:A9)(ρ:List (Nat×D))(ow:List (Nat×Ae))(OA:List (List An)):Prop where
 one:I8 J B (Dt N2 OA) Z h ρ
 own:GT J B (Dt N2 OA) Z h ow OA
 nodup:OA.flatten.Nodup
 apart:∀a∈OA.flatten,¬N2 a/\¬T a
 sl:FV Z h
variable {ow:List (Nat×Ae)} {OA:List (List An)}
theorem Oa(x y:Nat)(o:Ae)(r:List (Nat×Ae)):lk x ((y,o)::r)=if x=y then V o else lk x r:=by
 show bI (As x y) (V o) (lk x r)=_;by_cases h:x=y
 ·apply AO (if_pos h);exact M7 (h▸Cs _)
 ·apply AO (if_neg h);exact OC (P7 h)
inductive qh(J:Sg)(B:Nat->Av)(N:An->Prop)(Z:DS)(h:A9)(ow:List (Nat×Ae))(OA:List (List An))(x:Nat)(d:D):Prop
 |mk (o:Ae) (as:List An) (v:Ag) (h1:lk x ow=V o) (h2:d=o.d) (h3:DH Z h (B x) v) (h4:Ju J N h v o as) (h5:as∈OA)
theorem GT.look{ow:List (Nat×Ae)}{OA:List (List An)}{x:Nat}{d:D}(t:GT J B N Z h ow OA):lk x (CU ow)=V d->qh J B N Z h ow OA x d:=by
 induction t with
 |nil=>exact λh=>nS h
 | @cons y o as v r L j C t ih=>
  intro h;have h:lk x ((y,o.d)::CU r)=V d:=h;rw[H6]at h;by_cases q:x=y
  ·rw[if_pos q]at h;exact⟨o,as,v,by rw[Oa,if_pos q],(sI h).symm,q▸j,C,.head _⟩
  ·rw[if_neg q]at h;obtain⟨P,i,v,U,p,A,E,F⟩:=ih h;exact⟨P,i,v,by rw[Oa,if_neg q,U],p,A,E,.tail _ F⟩
theorem GT.occ{ow:List (Nat×Ae)}{OA:List (List An)}(t:GT J B N Z h ow OA):∀a∈OA.flatten,Da h a:=by
 induction t with
 |nil=>exact λz i=>nomatch i
 |cons _ C t ih=>
  intro a i;rw[Bb,ED]at i;exact i.elim (C.occ a) (ih a)
theorem EQ.rel(r:EQ T J B N2 Z h ρ ow OA):Ho J B (Dt N2 OA) N2 Z h ρ (CU ow):=by
 refine⟨r.one,λx d j P=>?_,r.sl⟩
 have i:FU (Dt N2 OA) N2 h h:=λa o M e z=>⟨λq=>M (.inl q),e⟩
 rw[VH]at j;cases q:lk x ρ with
 |some E=>
  rw[q]at j;obtain⟨v,U,p⟩:=r.one x d (q.trans j) P;exact⟨v,U,p.mono i⟩
 |none=>
  rw[q]at j;obtain⟨o,as,v,_,p,y,A,C⟩:=r.own.look (x:=x) (d:=d) j
  apply AO p
  exact⟨v,y,A.rd (N:=Dt N2 OA) (λa h=>.inl h) λb F=>(r.apart b (List.mem_flatten.mpr ⟨as,C,F⟩)).1⟩
theorem EQ.occ(r:EQ T J B N2 Z h ρ ow OA)(i:∀a,N2 a->Da h a):∀a,Dt N2 OA a->Da h a:=λa j=>j.elim (i a) (r.own.occ a)
theorem S5{b:An}{as:List An}{r:List (List An)}(h:b∈as):b∈(as::r).flatten:=by apply AO Bb;exact Dv _ h
theorem Qo{b:An}{as:List An}{r:List (List An)}(h:b∈r.flatten):b∈(as::r).flatten:=by apply AO Bb;exact DV _ h
theorem GT.mono{N':An->Prop}{h':A9}(f:FU N N' h h')(L:∀x v,DH Z h (B x) v->DH Z h' (B x) v){ow:List (Nat×Ae)}{OA:List (List An)}(k:∀b,Da h b->b∈OA.flatten->h'.get? b=h.get? b)(t:GT J B N Z h ow OA):GT J B N' Z h' ow OA:=by
 induction t with
 |nil=>exact .nil
 |cons i C t ih=>exact .cons (L _ _ i) (C.mono f λb F hm=>k b F (S5 hm)) (ih λb F hm=>k b F (Qo hm))
theorem EQ.ext(r:EQ T J B N2 Z s.heap ρ ow OA)(x:BM T s S):EQ T J B N2 Z S.heap ρ ow OA:=
 ⟨r.one.ext x,r.own.mono x.fits (λz z h=>h.ext x) (λb i z=>by obtain⟨o,e,t⟩:=i;exact(x.keep2 b o e t).trans e.symm),r.nodup,r.apart,r.sl.ext x⟩
theorem GT.other{N':An->Prop}{h':A9}{x:Nat}(i:Ps B)(f:FU N N' h h')(j:∀y v,y≠B x->DH Z h y v->DH Z h' y v){ow:List (Nat×Ae)}{OA:List (List An)}(L:lk x ow=Ao)(k:∀b,Da h b->b∈OA.flatten->h'.get? b=h.get? b)
  (t:GT J B N Z h ow OA):GT J B N' Z h' ow OA:=by
 induction t with
 |nil=>exact .nil
 |cons p C t ih=>
  rw[Oa]at L;split at L
  ·exact nS L.symm
  ·rename_i q;exact .cons (j _ _ (λe=>q (i _ _ e).symm) p) (C.mono f λb F hm=>k b F (S5 hm)) (ih L λb F hm=>k b F (Qo hm))
theorem EQ.store{x:Nat}{a:An}{v:Ag}{d:D}(N:EA B)(r:EQ T J B N2 Z s.heap ρ ow OA)(i:N2 a)(L:lk x ow=Ao)(st:N6 T Z s S (B x) a v)(Q:Rd J (Dt N2 OA) S.heap v d):EQ T J B N2 Z S.heap ((x,d)::ρ) ow OA:=by
 have j:FU (Dt N2 OA) (Dt N2 OA) s.heap S.heap:=st.upd.fits λb e=>e▸.inl i
 refine⟨r.one.store N.inj j st.var Q st.others,r.own.other N.inj j st.others L (λb ⟨o,e,t⟩ F=>?_),r.nodup,r.apart,st.slots⟩
 exact(st.upd.keep2 b o (λq=>(r.apart b F).1 (q▸i)) e t).trans e.symm
theorem qi(x y:Nat)(o p:Ae)(r:List (Nat×Ae)):HL x o ((y,p)::r)=if x=y then(y,o)::r else(y,p)::HL x o r:=by
 show bI (As x y) ((y,o)::r) ((y,p)::HL x o r)=_;by_cases h:x=y
 ·apply AO (if_pos h);exact M7 (h▸Cs _)
 ·apply AO (if_neg h);exact OC (P7 h)
theorem gy{x:Nat}{o:Ae}{r:List (Nat×Ae)}(h:lk x r=V o):lk x (CU r)=V o.d:=by
 induction r with
 |nil=>exact nS h
 |cons p r ih=>
  show lk x ((p.1,p.2.d)::CU r)=_;have h:lk x ((p.1,p.2)::r)=V o:=h;rw[Oa]at h;rw[H6];split
  ·rename_i q;rw[if_pos q]at h;rw[sI h]
  ·rename_i q;rw[if_neg q]at h;exact ih h
theorem GT.set{h':A9}{x:Nat}{o':Ae}(f:FU N N h h')(L:∀y v,DH Z h y v->DH Z h' y v){ow:List (Nat×Ae)}{OA:List (List An)}{o:Ae}(hn:OA.flatten.Nodup)(j:lk x ow=V o)(t:GT J B N Z h ow OA)
  (k:∀v as,as∈OA->DH Z h (B x) v->Ju J N h v o as->Ju J N h' v o' as/\∀b,Da h b->b∈OA.flatten->b∉as->h'.get? b=h.get? b):GT J B N Z h' (HL x o' ow) OA:=by
 induction t with
 |nil=>exact nS j
 | @cons y p as v r r' C ho t ih=>
  rw[Oa]at j;rw[Bb]at hn;obtain⟨n1,n2,n3⟩:=List.nodup_append.mp hn;rw[qi];by_cases q:x=y
  ·rw[if_pos q]at j ⊢;obtain⟨k1,k2⟩:=k _ as (.head _) (q▸C) (sI j▸ho);exact .cons (L _ _ C) k1 (t.mono f (λy v h=>L _ v h) λb F hm=>k2 b F (Qo hm) λE=>n3 b E b hm rfl)
  ·rw[if_neg q]at j ⊢;obtain⟨Ce,U,M,e1,_,X,i,A⟩:=t.look (gy j);rw[j]at e1;obtain⟨_,k2⟩:=k M U (.tail _ A) X (sI e1▸i);refine .cons (L _ _ C) (ho.mono f λb F hm=>k2 b F (S5 hm) λE=>n3 b hm b (List.mem_flatten.mpr ⟨U,A,E⟩) rfl) (ih n2 j λv P Q W Bd=>?_)
   obtain⟨k3,k4⟩:=k v P (.tail _ Q) W Bd;exact⟨k3,λb F hm Bs=>k4 b F (Qo hm) Bs⟩
theorem VP{a:An}{pos:B9}{t:JZ Ag}{Q:Ag->Ah->Prop}{I:Array Ag}(j:s.heap.PlainList a I)
  (h:Ap (Aq Aj w) A t (λv AK=>AK.heap.PlainList a I/\∀h',h'.PlainList a (I.push v)->C3 a AK.heap h'->Q .none {AK with heap:=h'}) E s)(hsz:I.size<=C5):
  MW Aj w A E "append" (.ref a) pos [(Ak,t)] Q s:=by
 obtain⟨n,e⟩:=j;refine⟨"list",_,Gk,slot_list_append,PySem.F.type_list_append,⟨_,e,rfl⟩,(λb q=>by cases q;exact⟨_,e,rfl⟩),?_⟩
 refine B0 rfl (CI (Ax (AM h (λv AK X=>AF ?_) λz z e=>e)))
 exact Hg (hsz:=hsz) X.1 X.2
theorem gz{a:An}{pos:B9}{t:JZ Ag}{Q:Ag->Ah->Prop}{I:Array Ag}(j:s.heap.PlainList a I)
  (h:Ap (Aq Aj w) A t (λv AK=>AK.heap.PlainList a I/\∃b ws m,v= .ref b/\AK.heap.get? b=V (Gf ws m)/\I.size+ws.size<=1000000/\∀h',h'.PlainList a (I++ws)->C3 a AK.heap h'->Q .none {AK with heap:=h'}) E s):
  MW Aj w A E "extend" (.ref a) pos [(Ak,t)] Q s:=by
 obtain⟨n,e⟩:=j;refine⟨"list",_,Gk,JQ,PySem.F.type_list_extend,⟨_,e,rfl⟩,(λb q=>by cases q;exact⟨_,e,rfl⟩),?_⟩
 refine la JQ PySem.F.entry_list_extend (AM h (λv AK X=>?_) λy y e=>e)
 obtain⟨⟨z,l⟩,b,ws,m,rfl,F,hsz,c⟩:=X;have i:(1000000:Nat)<=C5:=by decide
 have hd:¬(!I.isEmpty&&D2 (I.size+ws.size))=Y:=by
  intro q;have q:=(AH q).2;unfold D2 at q;exact BH (of_decide_eq_true q) (Am hsz i)
 refine⟨⟨_,l,rfl⟩,PySem.F.args_list_extend_2 _ _,_,Sr a I z b ws m hd (by first|exact Am (AQ _ _) (Am hsz i)|exact BJ (Am (AQ _ _) (Am hsz i))|exact BJ (Am hsz i)) (by first|exact Am (Bw _ _) (Am hsz i)|exact BJ (Am (Bw _ _) (Am hsz i))|exact BJ (Am hsz i)),l,F,?_⟩
 refine c _ ?_ (Dp ..)
 have:∀o:Fo,o={cls:=.type "list",dict:=Ao,data:=.seq I z,slots:=#[]}->∃k,Eb (λx=>x++ws) o={cls:=.type "list",data:=.seq (I++ws) k}:=by
  rintro o rfl
  unfold Eb;exact⟨_,rfl⟩
 obtain⟨k,P⟩:=this _ rfl;refine⟨k,?_⟩
 rw[DW _ l (by rw[P];rfl),P]
structure Ob(N2:An->Prop)(Z:DS):Prop where
 loc:N2 Z.locals
 cel:∀n c,(n,c)∈Z.cells->N2 c
theorem EQ.mutate{x:Nat}{o P:Ae}(hm:Ob N2 Z)(r:EQ T J B N2 Z s.heap ρ ow OA)(j:lk x ow=V o)(u:Co T (λa=>a∈OA.flatten) s S)
  (k:∀v as,as∈OA->DH Z s.heap (B x) v->Ju J (Dt N2 OA) s.heap v o as->Ju J (Dt N2 OA) S.heap v P as/\∀b,Da s.heap b->b∈OA.flatten->b∉as->S.heap.get? b=s.heap.get? b):EQ T J B N2 Z S.heap ρ (HL x P ow) OA:=by
 have U:¬Z.locals∈OA.flatten:=λh=>(r.apart _ h).1 hm.loc
 have i:∀n c,(n,c)∈Z.cells->¬c∈OA.flatten:=λn c E h=>(r.apart _ h).1 (hm.cel n c E)
 have f:FU (Dt N2 OA) (Dt N2 OA) s.heap S.heap:=u.fits λa h=>.inr h
 exact⟨r.one.upd u (λa h=>.inr h) U i,GT.set f (λy v h=>h.upd u U i) r.nodup j r.own k,r.nodup,r.apart,r.sl.upd u U i⟩
theorem qj{ow:List (Nat×Ae)}{x:Nat}{o:Ae}(h:lk x ow=V o):lk x (CU ow)=V o.d:=gy h
inductive qk(J:Sg)(B:Nat->Av)(N:An->Prop)(Z:DS)(h:A9)(OA:List (List An))(x:Nat)(o:Ae):Prop
 |mk (as:List An) (v:Ag) (h1:as∈OA) (h2:DH Z h (B x) v) (h3:Ju J N h v o as)
theorem EQ.owned{x:Nat}{o:Ae}(r:EQ T J B N2 Z s.heap ρ ow OA)(j:lk x ow=V o):qk J B (Dt N2 OA) Z s.heap OA x o:=by
 obtain⟨P,as,v,U,_,i,p,q⟩:=r.own.look (qj j);rw[j]at U;exact⟨as,v,q,i,sI U▸p⟩
inductive ql(J:Sg)(B:Nat->Av)(N:An->Prop)(Z:DS)(h:A9)(OA:List (List An))(x:Nat)(O:List D):Prop
 |mk (a:An) (I:List Ag) (haO:a∈OA.flatten) (hv:DH Z h (B x) (.ref a)) (hp:h.PlainList a I.toArray) (hr:BV J N h I O)
theorem EQ.ownedL{x:Nat}{O:List D}(r:EQ T J B N2 Z s.heap ρ ow OA)(j:lk x ow=V (.lst O)):ql J B (Dt N2 OA) Z s.heap OA x O:=by
 obtain⟨as,v,has,i,C⟩:=r.owned j;obtain⟨a,I,e1,e2,hp,Q⟩:=C.inv;exact⟨a,I,List.mem_flatten.mpr ⟨_,has,e2▸.head _⟩,e1▸i,hp,Q⟩
theorem DH.unique{x:Av}{v p:Ag}{h:A9}(a:DH Z h x v)(b:DH Z h x p):v=p:=by
 have no:∀{k:Option AC},k=V .local->(k=V .cell\/k=V .free)->v=p:=λU A=>by
  rw[U]at A;exact A.elim (λh=>nomatch h) λh=>nomatch h
 rcases a with⟨q,m,r,j⟩|⟨q,_,c,r,j⟩
 ·rcases b with⟨i,F,y,b3⟩|⟨i,_⟩
  ·rw[fF r y,b3]at j;exact(sI j).symm
  ·exact no q i
 ·rcases b with⟨i,_⟩|⟨i,_,E,y,b3⟩
  ·exact no i q
  ·obtain⟨o,e,d⟩:=j;obtain⟨P,C,M⟩:=b3;rw[sI (r.symm.trans y)]at e;rw[sI (e.symm.trans C)]at d;have:=d.symm.trans M
   injection this with this
   exact sI this
theorem PA(ok:IB Z sc):DT Z=Ak:=by unfold DT;rw[ok.kind];rfl
theorem EQ.lstChange{x:Nat}{O ds':List D}{a:An}{vs':List Ag}{h':A9}(hm:Ob N2 Z)(r:EQ T J B N2 Z s.heap ρ ow OA)(j:lk x ow=V (.lst O))(q:DH Z s.heap (B x) (.ref a))(U:a∈OA.flatten)
  (hp:h'.PlainList a vs'.toArray)(p:C3 a s.heap h')(Q:BV J (Dt N2 OA) s.heap vs' ds'):Co T (λb=>b∈OA.flatten) s {s with heap:=h'}/\EQ T J B N2 Z h' ρ (HL x (.lst ds') ow) OA:=by
 have L:¬T a:=(r.apart a U).2;have y:IA s.heap a:=by
  obtain⟨b,I,_,i,A,_⟩:=r.ownedL j;exact LD (q.unique i)▸.lst A
 have u:Co T (·=a) s {s with heap:=h'}:=.of_but (tk:=s.toks) p (by obtain⟨m,e⟩:=hp;exact⟨_,e,rfl⟩) L y
 have E:Co T (λb=>b∈OA.flatten) s {s with heap:=h'}:=u.mono λb e=>e▸U
 refine⟨E,r.mutate (S:={s with heap:=h'}) hm j E λv as has i C=>?_⟩
 obtain⟨b,I,e1,e2,_,_⟩:=C.inv
 apply CE (q.unique i);apply AO e2;rw[show b=a from(LD ((q.unique i).trans e1)).symm]
 exact⟨.lst hp (Q.mono (E.fits λb e=>.inr e)),λb z z F=>p.2 b λe=>F (e▸.head _)⟩
theorem qm(hS:D0 Aj w T J mg mb s0 B fn C k n)(g:Eo k A)(ok:IB Z sc)(hm:Ob N2 Z)(bs:Bs T mg mb s0 s)(r:EQ T J B N2 Z s.heap ρ ow OA)(occ:∀a,N2 a->Da s.heap a)
  {x:Nat}{N G p pos:B9}{e:Expr}{m:M}{d:D}{O:List D}{Q:EW->Ah->Prop}(P:Ko (sc.lookup (B x))=Y)(hd:(B x==("__debug__":Av))=Ak)(i:(G.endLine==p.line)=Y)(R:Bu B fn fo sc e m=Y)
  (X:ev C n ρ (CU ow) m=V d)(j:lk x ow=V (.lst O))(l:AS O=Y)(q:∀S,Co T (λb=>b∈OA.flatten) s S->EQ T J B N2 Z S.heap ρ (HL x (.lst (O++[d])) ow) OA->Q .next S):
  Ap (Aq Aj w) A (EB (.Expr (.Call (.Attribute (.Name (B x) N) "append" G) [e] [] p) pos) Z) Q E s:=by
 obtain⟨a,I,U,H,hp,L⟩:=r.ownedL j;have c:Er p (CV [e] Z)=[(Ak,C1 e Z)]:=by rw[Fa (J3 R)];rfl
 refine DX ?_ (PA ok) rfl
 refine BC (IU rfl) (by rw[c];rfl) i ?_
 rw[c];refine H.load ok.kind hd (VP hp ?_ (by rw[AD,L.length];exact Am (IC l) (by decide)))
 refine hS ⟨g,ok,bs,r.rel,(λa h=>.inl h),(r.occ occ)⟩ R X λv AK f o=>?_
 refine⟨IT (W:=λK=>False) f.upd hp λh=>h,λh' y t=>?_⟩
 have z:=r.ext f;obtain⟨u,F⟩:=z.lstChange (ds':=O++[d]) (vs':=I++[v]) hm j (H.ext f) U (by simpa using y) t ((L.mono f.fits).append (.cons o .nil))
 exact q _ (f.upd.trans u) F
theorem YD{l:An}{items:Array Ag}{k:Int}{t:Ez}{v:Ag}{Q:Unit->Ah->Prop}(j:s.heap.PlainList l items)(h:0<=k)(a:k<2^63)(M:k<items.size)
  (b:∀h',h'.PlainList l (items.setIfInBounds k.toNat v)->C3 l s.heap h'->Q () {s with heap:=h'}):Ap (Aq Aj w) A (JJ (.ref l) (.int k t) v) Q E s:=by
 obtain⟨m,e⟩:=j;refine ki_setAt e h a M (b _ ?_ (Dp ..))
 have:∀o:Fo,o={cls:=.type "list",dict:=Ao,data:=.seq items m,slots:=#[]}->∃u,Eb (·.setIfInBounds k.toNat v) o={cls:=.type "list",data:=.seq (items.setIfInBounds k.toNat v) u}:=by
  rintro o rfl
  unfold Eb;exact⟨_,rfl⟩
 obtain⟨u,P⟩:=this _ rfl;refine⟨u,?_⟩
 rw[DW _ e (by rw[P];rfl),P]
theorem YE{x:Type}(l:List x):∀(n:Nat) (a:x),Rr l n a=l.set n a:=by
 induction l with
 |nil=>exact λz z=>rfl
 |cons b r ih=>exact λn a=>match n with
  |0=>rfl
  |n+1=>congrArg (b::·) (ih n a)
theorem BV.set{h:A9}{N:An->Prop}{I:List Ag}{O:List D}(n:Nat){v:Ag}{d:D}(r:BV J N h I O)(x:Rd J N h v d):BV J N h (I.set n v) (O.set n d):=
 r.ind (P:=λI O=>∀n,BV J N h (I.set n v) (O.set n d)) (λz=>.nil) (λz z z z y r ih n=>match n with
  |0=>.cons x r
  |n+1=>.cons y (ih n)) n
theorem qo(hS:D0 Aj w T J mg mb s0 B fn C k n)(N:Eo k A)(ok:IB Z sc)(hm:Ob N2 Z)(bs:Bs T mg mb s0 s)(r:EQ T J B N2 Z s.heap ρ ow OA)(occ:∀a,N2 a->Da s.heap a)
  {x:Nat}{P F p pos:B9}{e:Expr}{m:M}{es O:List D}{Q:EW->Ah->Prop}(hd:(B x==("__debug__":Av))=Ak)(f:(F.endLine==p.line)=Y)(R:Bu B fn fo sc e m=Y)
  (X:ev C n ρ (CU ow) m=V (.lst es))(j:lk x ow=V (.lst O))(i:AS (O++es)=Y)(q:∀S,Co T (λb=>b∈OA.flatten) s S->EQ T J B N2 Z S.heap ρ (HL x (.lst (O++es)) ow) OA->Q .next S):
  Ap (Aq Aj w) A (EB (.Expr (.Call (.Attribute (.Name (B x) P) "extend" F) [e] [] p) pos) Z) Q E s:=by
 obtain⟨a,I,U,G,hp,H⟩:=r.ownedL j;have c:Er p (CV [e] Z)=[(Ak,C1 e Z)]:=by rw[Fa (J3 R)];rfl
 refine DX ?_ (PA ok) rfl
 refine BC (IU rfl) (by rw[c];rfl) f ?_
 rw[c];refine G.load ok.kind hd (gz hp ?_)
 refine hS ⟨N,ok,bs,r.rel,(λa h=>.inl h),(r.occ occ)⟩ R X λv AK d l=>?_
 obtain⟨b,ws,m',hb,hn,g,L⟩:=l.inv;refine⟨IT (W:=λK=>False) d.upd hp λh=>h,b,ws.toArray,m',hb,g,?_,λh' o t=>?_⟩
 ·have:=IC i;rw[Bm,<-H.length,<-L.length]at this
  simpa using this
 ·have y:=r.ext d;obtain⟨u,z⟩:=y.lstChange (ds':=O++es) (vs':=I++ws) hm j (G.ext d) U (by simpa using o) t ((H.mono d.fits).append L)
  exact q _ (d.upd.trans u) z
theorem YF(v o i:Expr)(p:B9)(line:Nat){m:M}(R:Bu B fn fo sc v m=Y):Kc v (V (.Subscript o i p)) line Z=BU Ak:=by
 have:=Yz R
 induction v using Ya with
 |SetComp a b c d=>exact absurd rfl (this.1 a b c d)
 |DictComp a b c d f=>exact absurd rfl (this.2 a b c d f)
 |_=>rfl
theorem gA{j l m:Nat}(r:j<l)(i:l<=1000000)(e:m=l):(0:Int)<=(j:Int)/\(j:Int)<2^63/\(j:Int)<(m:Int):=⟨(li [] [_] (.k 0) (.u (.v 0)) [] rfl),⟨(li [] [_,_] (.a (.u (.v 0)) (.k 1)) (.k (2^63)) [(1,.u (.a (.v 0) (.k 1)),.u (.v 1)),(1,.u (.v 1),.u (.k 1000000))] rfl (jO r) (jO i)),(li [] [_,_,_] (.a (.u (.v 0)) (.k 1)) (.u (.v 2)) [(1,.u (.a (.v 0) (.k 1)),.u (.v 1)),(1,.u (.v 1),.u (.v 2))] rfl (jO r) (jO (Al e.symm)))⟩⟩
theorem qp(hS:D0 Aj w T J mg mb s0 B fn C k n)(ha:Eo k A)(ok:IB Z sc)(hm:Ob N2 Z)(bs:Bs T mg mb s0 s)(r:EQ T J B N2 Z s.heap ρ ow OA)(occ:∀a,N2 a->Da s.heap a)
  {x:Nat}{np sp pos:B9}{e i:Expr}{m mi:M}{d:D}{j:Nat}{O:List D}{Q:EW->Ah->Prop}(hd:(B x==("__debug__":Av))=Ak)(R:Bu B fn fo sc e m=Y)(l:Bu B fn fo sc i mi=Y)
  (X:ev C n ρ (CU ow) m=V d)(g:ev C n ρ (CU ow) mi=V (LB j))(hl:lk x ow=V (.lst O))(p:O.length<=1000000)(hj:j<O.length)
  (q:∀S,Co T (λb=>b∈OA.flatten) s S->EQ T J B N2 Z S.heap ρ (HL x (.lst (O.set j d)) ow) OA->Q .next S):
  Ap (Aq Aj w) A (EB (.Assign [.Subscript (.Name (B x) np) i sp] e pos) Z) Q E s:=by
 obtain⟨a,I,U,hv,hp,hr⟩:=r.ownedL hl;refine Fm ?_ (YF e _ _ _ _ R)
 have occN:=r.occ occ;refine hS ⟨ha,ok,bs,r.rel,(λa h=>.inl h),occN⟩ R X λv AK c y=>?_
 refine(hv.ext c).load ok.kind hd ?_
 refine hS ⟨ha,ok,(bs.step c),(r.rel.ext c),(λa h=>.inl h),(λa h=>(occN a h).ext c)⟩ l g λvi By f z=>?_
 obtain⟨t,rfl⟩:=z.int';have o:=IT (W:=λK=>False) (c.trans f).upd hp λh=>h
 obtain⟨F,G,H⟩:=gA hj p hr.length;refine YD o F G (by rw[AD];exact H) λh' L N=>?_
 have P:=r.ext (c.trans f);obtain⟨u,Bd⟩:=P.lstChange (ds':=O.set j d) (vs':=I.set j v) hm hl ((hv.ext c).ext f) U (by simpa using L) N ((hr.mono (c.trans f).fits).set j (y.mono f.fits))
 exact q _ ((c.trans f).upd.trans u) Bd
theorem EQ.fresh{x:Nat}{a L:An}{Bv:List D}(N:EA B)(r:EQ T J B N2 Z s.heap ρ ow OA)(occ:∀a,N2 a->Da s.heap a)(U:N2 a)(W:lk x ow=Ao)(st:N6 T Z s S (B x) a (.ref L))(f:Yy T J (Dt N2 OA) s S L Bv):
  EQ T J B N2 Z S.heap (Dn [x] ρ) ((x,.lst Bv)::ow) ([L]::OA):=by
 have occN:=r.occ occ;have A:∀b o,s.heap.get? b=V o->b≠L:=λb o e q=>by rw[q,f.new]at e;cases e
 have i:∀b,Dt N2 ([L]::OA) b->Dt N2 OA b\/b=L:=by
  rintro b (h|h)
  ·exact .inl (.inl h)
  ·rw[Bb,Ff,Fk]at h;rcases h with h|h
   ·exact .inr h
   ·exact .inl (.inr h)
 have p:FU (Dt N2 OA) (Dt N2 ([L]::OA)) s.heap S.heap:=λb o M e t=>
  ⟨λh=>(i b h).elim M (A b o e),st.upd.keep2 b o (λq=>M (q▸.inl U)) e t⟩
 have C:∀b,Da s.heap b->b∈OA.flatten->S.heap.get? b=s.heap.get? b:=λb X F=>by obtain⟨o,e,t⟩:=X;exact(st.upd.keep2 b o (λq=>(r.apart b F).1 (q▸U)) e t).trans e.symm
 obtain⟨I,hp,Q⟩:=f.items;refine⟨λy d j P=>?_,.cons st.var (.lst hp (Q.mono λb o M e z=>⟨λh=>M (i b h),e⟩)) (r.own.other N.inj p st.others W C),?_,?_,st.slots⟩
 ·obtain⟨hy,E⟩:=S0 j;obtain⟨v,h1,h3⟩:=r.one y d E P;exact⟨v,st.others _ _ (λq=>hy (List.mem_singleton.mpr (N.inj _ _ q))) h1,h3.mono p⟩
 ·apply AO Bb;rw[Ff,Pd]
  exact⟨λh=>f.notN (.inr h),r.nodup⟩
 ·intro b F;rw[Bb,Ff,Fk]at F;rcases F with rfl|F
  ·exact⟨λh=>f.notN (.inl h),f.tab⟩
  ·exact r.apart b F
variable {A6:List (Nat×D)} {Dh:List (Nat×Ae)} {Ck:List (List An)} {Js:An->Prop}
def D5(Z:DS)(a:An):Prop:=a=Z.locals\/∃n,(n,a)∈Z.cells
theorem Ob.frm(h:Ob N2 Z){a:An}(f:D5 Z a):N2 a:=by
 rcases f with rfl|⟨n,hm⟩
 ·exact h.loc
 ·exact h.cel n a hm
theorem Nd.frm{x:Av}{a:An}(st:Nd Z x a):D5 Z a:=by
 rcases st with⟨_,e⟩|⟨_,_,e⟩
 ·exact .inl e
 ·exact .inr ⟨_,mem_of_lookup e⟩
theorem FV.frm_occ(sl:FV Z s.heap){a:An}(f:D5 Z a):Da s.heap a:=by
 rcases f with rfl|⟨n,hm⟩
 ·obtain⟨m,h⟩:=sl.ns;exact Ql h
 ·obtain⟨v,h⟩:=sl.cells n a hm;exact Rk h
theorem Co.seq(x:Co T W s S)(y:Co T W' S DK)(h:∀a,W' a->W a\/s.heap.get? a=Ao):Co T W s DK:=by
 have ne:∀b o,¬W b->s.heap.get? b=V o->¬W' b:=λb o j e q=>(h b q).elim j λq=>by rw[q]at e;cases e
 exact⟨λb o t w e=>y.keep b o t (ne b o w e) (x.keep b o t w e),λb o w e t=>y.keep2 b o (ne b o w e) (x.keep2 b o w e t) t,λb e=>y.occ b (x.occ b e),λb t e=>y.tab b t (x.tab b t e),λi e=>y.gens i (x.gens i e),y.os.trans x.os⟩
structure Ek(T:An->Prop)(J:Sg)(B:Nat->Av)(N2:An->Prop)(Z:DS)(OA:List (List An))(s S:Ah)(A6:List (Nat×D))(Dh:List (Nat×Ae))(Ck:List (List An)):Prop where
 rel:EQ T J B N2 Z S.heap A6 Dh Ck
 new:∀a∈Ck.flatten,a∈OA.flatten\/s.heap.get? a=Ao
 upd:Co T (λa=>D5 Z a\/a∈OA.flatten) s S
theorem Ek.refl(r:EQ T J B N2 Z s.heap ρ ow OA):Ek T J B N2 Z OA s s ρ ow OA:=⟨r,λz h=>.inl h,.refl⟩
theorem Co.free_back(q:∀b,T b->K6 s.heap b)(u:Co T W s S)(r:∀a,W a->Da s.heap a){a:An}(h:S.heap.get? a=Ao):s.heap.get? a=Ao:=by
 cases e:s.heap.get? a with
 |none=>rfl
 |some o=>
  exfalso
  cases t:Hn o with
  |false=>
   obtain⟨P,i,_⟩:=u.occ a ⟨o,e,t⟩;rw[h]at i;cases i
  |true=>
   by_cases j:T a
   ·obtain⟨ps,i,_⟩:=u.tab a j (q a j);rw[h]at i;cases i
   ·have:=u.keep a o j (λy=>by
     obtain⟨P,i,p⟩:=r a y;rw[e]at i;cases i;rw[t]at p;cases p) e
    rw[h]at this;cases this
theorem EQ.w_occ(r:EQ T J B N2 Z s.heap ρ ow OA):∀a,(D5 Z a\/a∈OA.flatten)->Da s.heap a:=λa h=>h.elim r.sl.frm_occ (r.own.occ a)
theorem Bs.tabs_ok(b:Bs T mg mb s0 s):∀a,T a->K6 s.heap a:=λa h=>b.ext.tab a h (b.tabs a h)
theorem Ek.trans{i:List (List An)}{j:List (Nat×D)}{p:List (Nat×Ae)}(bs:Bs T mg mb s0 s)(r:EQ T J B N2 Z s.heap ρ ow OA)(x:Ek T J B N2 Z OA s S A6 Dh Ck)(y:Ek T J B N2 Z Ck S DK j p i):Ek T J B N2 Z OA s DK j p i:=by
 have q:∀a,S.heap.get? a=Ao->s.heap.get? a=Ao:=λa=>x.upd.free_back bs.tabs_ok r.w_occ
 refine⟨y.rel,λa h=>?_,x.upd.seq y.upd λa h=>?_⟩
 ·rcases y.new a h with h|h
  ·exact x.new a h
  ·exact .inr (q a h)
 ·rcases h with h|h
  ·exact .inl (.inl h)
  ·exact(x.new a h).elim (λh=>.inl (.inr h)) .inr
structure VQ(s0:Ah)(Z:DS)(OA:List (List An)):Prop where
 frm:∀a,D5 Z a->s0.heap.get? a=Ao
 own:∀a∈OA.flatten,s0.heap.get? a=Ao
theorem Ek.young(bs:Bs T mg mb s0 s)(x:Ek T J B N2 Z OA s S A6 Dh Ck)(y:VQ s0 Z OA):VQ s0 Z Ck:=
 ⟨y.frm,λa h=>(x.new a h).elim (y.own a) bs.free⟩
theorem Ek.bs(bs:Bs T mg mb s0 s)(x:Ek T J B N2 Z OA s S A6 Dh Ck)(y:VQ s0 Z OA):Bs T mg mb s0 S:=
 bs.upd x.upd λa h=>h.elim (y.frm a) (y.own a)
theorem Ek.occ(x:Ek T J B N2 Z OA s S A6 Dh Ck)(occ:∀a,N2 a->Da s.heap a):∀a,N2 a->Da S.heap a:=λa h=>x.upd.occ a (occ a h)
theorem Ek.store{x:Nat}{a:An}{v:Ag}{d:D}(N:EA B)(hm:Ob N2 Z)(r:EQ T J B N2 Z s.heap ρ ow OA)(L:lk x ow=Ao)(i:Nd Z (B x) a)(st:N6 T Z s S (B x) a v)(Q:Rd J (Dt N2 OA) S.heap v d):
  Ek T J B N2 Z OA s S ((x,d)::ρ) ow OA:=
 ⟨r.store N (hm.frm i.frm) L st Q,λz h=>.inl h,st.upd.mono λb e=>e▸.inl i.frm⟩
theorem Ek.fresh{x:Nat}{a L:An}{Bv:List D}(N:EA B)(hm:Ob N2 Z)(r:EQ T J B N2 Z s.heap ρ ow OA)(occ:∀a,N2 a->Da s.heap a)(j:lk x ow=Ao)(i:Nd Z (B x) a)(st:N6 T Z s S (B x) a (.ref L))(f:Yy T J (Dt N2 OA) s S L Bv):
  Ek T J B N2 Z OA s S (Dn [x] ρ) ((x,.lst Bv)::ow) ([L]::OA):=by
 refine⟨r.fresh N occ (hm.frm i.frm) j st f,λb h=>?_,st.upd.mono λb e=>e▸.inl i.frm⟩
 rw[Bb,Ff,Fk]at h;rcases h with rfl|h
 ·exact .inr f.new
 ·exact .inl h
theorem Ek.change{OA:List (List An)}(r:EQ T J B N2 Z S.heap ρ Dh OA)(u:Co T (λb=>b∈OA.flatten) s S):Ek T J B N2 Z OA s S ρ Dh OA:=⟨r,λz h=>.inl h,u.mono λz h=>.inr h⟩
theorem VR(x z:Nat)(o:Ae)(r:List (Nat×Ae)):L5 x ((z,o)::r)=if x=z then L5 x r else(z,o)::L5 x r:=by
 show bI (As x z) (L5 x r) ((z,o)::L5 x r)=_;by_cases h:x=z
 ·apply AO (if_pos h);exact M7 (h▸Cs _)
 ·apply AO (if_neg h);exact OC (P7 h)
inductive PB(J:Sg)(B:Nat->Av)(N:An->Prop)(Z:DS)(h:A9)(ow:List (Nat×Ae))(OA:List (List An))(P:List (List An)->Prop):Prop
 |mk (Ck:List (List An)) (h1:GT J B N Z h ow Ck) (h2:Ck.flatten.Nodup) (h3:∀a∈Ck.flatten,a∈OA.flatten) (h4:P Ck)
theorem PB.cons{h:A9}{N:An->Prop}{ow:List (Nat×Ae)}{OA:List (List An)}{P Q:List (List An)->Prop}{z:Nat}{o:Ae}{as:List An}{v:Ag}(p:DH Z h (B z) v)(C:Ju J N h v o as)(M:(as::OA).flatten.Nodup)(q:∀Ck,P Ck->Q (as::Ck))
  (x:PB J B N Z h ow OA P):PB J B N Z h ((z,o)::ow) (as::OA) Q:=by
 rw[Bb]at M;obtain⟨n1,n2,r⟩:=List.nodup_append.mp M;obtain⟨Ck,U,y,j,A⟩:=x;refine⟨as::Ck,.cons p C U,?_,λa i=>?_,q _ A⟩
 ·apply AO Bb
  exact List.nodup_append.mpr ⟨n1,y,λa i b F=>r a i b (j b F)⟩
 ·rw[Bb,ED]at i ⊢;exact i.imp id (j a)
theorem PB.skip{h:A9}{N:An->Prop}{ow:List (Nat×Ae)}{OA:List (List An)}{P Q:List (List An)->Prop}{as:List An}(j:∀Ck,(∀a∈Ck.flatten,a∈OA.flatten)->P Ck->Q Ck)(x:PB J B N Z h ow OA P):PB J B N Z h ow (as::OA) Q:=by
 obtain⟨Ck,U,p,i,q⟩:=x;exact⟨Ck,U,p,λa r=>Qo (i a r),j _ i q⟩
theorem GT.less{h:A9}{N:An->Prop}(x:Nat){ow:List (Nat×Ae)}{OA:List (List An)}(M:OA.flatten.Nodup)(t:GT J B N Z h ow OA):PB J B N Z h (L5 x ow) OA λy=>True:=by
 induction t with
 |nil=>exact⟨[],.nil,.nil,λy h=>h,trivial⟩
 | @cons z o as v r p j C t ih=>
  have i:=M;rw[Bb]at i;have:=ih (List.nodup_append.mp i).2.1;rw[VR];split
  ·exact this.skip λy y h=>h
  ·exact this.cons j C M λy h=>h
inductive qt(J:Sg)(B:Nat->Av)(N:An->Prop)(Z:DS)(h:A9)(ow:List (Nat×Ae))(OA:List (List An))(x:Nat)(o:Ae):Prop
 |mk (as:List An) (v:Ag) (hv:DH Z h (B x) v) (ho:Ju J N h v o as) (ha:∀a∈as,a∈OA.flatten) (l:PB J B N Z h (L5 x ow) OA λCk=>∀a∈as,a∉Ck.flatten)
theorem GT.frz{h:A9}{N:An->Prop}{ow:List (Nat×Ae)}{OA:List (List An)}(x:Nat){o:Ae}(M:OA.flatten.Nodup)(j:lk x ow=V o)(t:GT J B N Z h ow OA):qt J B N Z h ow OA x o:=by
 induction t with
 |nil=>exact nS j
 | @cons y p as v r r' P C t ih=>
  have A:=M;rw[Bb]at A;obtain⟨n1,n2,Q⟩:=List.nodup_append.mp A;rw[Oa]at j;by_cases q:x=y
  ·rw[if_pos q]at j;exact⟨as,v,q▸P,sI j▸C,λz=>S5,by rw[VR,if_pos q];exact(t.less x n2).skip λz E z a i F=>Q a i a (E a F) rfl⟩
  ·rw[if_neg q]at j;obtain⟨L,W,U,X,E,l⟩:=ih n2 j;exact⟨L,W,U,X,λa i=>Qo (E a i),by
    rw[VR,if_neg q];exact l.cons P C M λz h a i F=>by
     rw[Bb,ED]at F;exact F.elim (λF=>Q a F a (E a i) rfl) (h a i)⟩
theorem Ek.frz{x:Nat}{o:Ae}(r:EQ T J B N2 Z s.heap ρ ow OA)(j:lk x ow=V o):∃Ck,Ek T J B N2 Z OA s s ((x,o.d)::ρ) (L5 x ow) Ck:=by
 obtain⟨as,v,A,C,E,Ck,U,L,p,Q⟩:=r.own.frz x r.nodup j;have i:FU (Dt N2 OA) (Dt N2 Ck) s.heap s.heap:=λa o M e z=>⟨λq=>M (q.imp id (p a)),e⟩
 refine⟨Ck,⟨λy d j P=>?_,U.mono i (λz z h=>h) (λz z z=>rfl),L,λa h=>r.apart a (p a h),r.sl⟩,λa h=>.inl (p a h),.refl⟩
 rw[H6]at j;by_cases q:y=x
 ·rw[if_pos q]at j;cases j;subst q;refine⟨v,A,C.rd (N:=Dt N2 OA) (λa=>(·.imp id (p a))) λb F q=>?_⟩
  exact q.elim (r.apart b (E b F)).1 (Q b F)
 ·rw[if_neg q]at j;obtain⟨v,W,X⟩:=r.one y d j P;exact⟨v,W,X.mono i⟩
noncomputable def FJ(sc:List (Av×AC))(id:Av):Bool:=(sc.lookup id==V .local||sc.lookup id==V .cell)&&id != ("__classdict__":Av)
theorem S6{sc:List (Av×AC)}{y:Av}(h:sc.lookup y=V .local)(hd:(y != ("__classdict__":Av))=Y):FJ sc y=Y:=by
 unfold FJ;rw[h];exact hd
theorem Oc{id:Av}(ok:IB Z sc)(h:FJ sc id=Y):∃a,Nd Z id a:=by
 obtain⟨h,G⟩:=AH h;rcases(AT _ _).mp h with q|q
 ·exact⟨_,.inl ⟨(ok.kindOf id).trans (AA q),rfl⟩⟩
 ·obtain⟨c,E⟩:=ok.cells id (.inl (AA q));exact⟨c,.inr ⟨(ok.kindOf id).trans (AA q),by rw[bne,A4]at G;exact G,E⟩⟩
theorem MK(bs:Bs T mg mb s0 s)(sl:FV Z s.heap){a:An}(f:D5 Z a):¬T a:=λt=>by
 obtain⟨ps,e,_⟩:=bs.tabs_ok a t;obtain⟨o,c,q⟩:=sl.frm_occ f;rw[<-sI (e.symm.trans c)]at q;exact bT q
structure At(T:An->Prop)(J:Sg)(mg mb:Av->Option Ag)(s0:Ah)(B:Nat->Av)(sc:List (Av×AC))(k:Nat)(A:A1)(N2:An->Prop)(Z:DS)(s:Ah)(ρ:List (Nat×D))(ow:List (Nat×Ae))(OA:List (List An)):Prop where
 ha:Eo k A
 ok:IB Z sc
 hm:Ob N2 Z
 bs:Bs T mg mb s0 s
 rel:EQ T J B N2 Z s.heap ρ ow OA
 occ:∀a,N2 a->Da s.heap a
 young:VQ s0 Z OA
theorem At.post(x:At T J mg mb s0 B sc k A N2 Z s ρ ow OA)(p:Ek T J B N2 Z OA s S A6 Dh Ck):At T J mg mb s0 B sc k A N2 Z S A6 Dh Ck:=
 ⟨x.ha,x.ok,x.hm,p.bs x.bs x.young,p.rel,p.occ x.occ,p.young x.bs x.young⟩
theorem At.ext(x:At T J mg mb s0 B sc k A N2 Z s ρ ow OA)(e:BM T s S):At T J mg mb s0 B sc k A N2 Z S ρ ow OA:=
 ⟨x.ha,x.ok,x.hm,x.bs.step e,x.rel.ext e,λa h=>(x.occ a h).ext e,x.young⟩
theorem At.occN(x:At T J mg mb s0 B sc k A N2 Z s ρ ow OA):∀a,Dt N2 OA a->Da s.heap a:=x.rel.occ x.occ
theorem EQ.less(r:EQ T J B N2 Z s.heap ρ ow OA)(h:∀x d,lk x A6=V d->lk x ρ=V d):EQ T J B N2 Z s.heap A6 ow OA:=⟨r.one.less h,r.own,r.nodup,r.apart,r.sl⟩
theorem At.less(x:At T J mg mb s0 B sc k A N2 Z s ρ ow OA)(h:∀x d,lk x A6=V d->lk x ρ=V d):At T J mg mb s0 B sc k A N2 Z s A6 ow OA:=⟨x.ha,x.ok,x.hm,x.bs,x.rel.less h,x.occ,x.young⟩
theorem Ek.less{i:List (Nat×D)}(p:Ek T J B N2 Z OA s S A6 Dh Ck)(h:∀x d,lk x i=V d->lk x A6=V d):Ek T J B N2 Z OA s S i Dh Ck:=⟨p.rel.less h,p.new,p.upd⟩
theorem S7{t:List Nat}{x:Nat}{d:D}(h:lk x (Dn t ρ)=V d):lk x ρ=V d:=(S0 h).2
theorem PC{ρ A6:List (Nat×D)}{x:Nat}{d:D}(i:∀x d,lk x A6=V d->lk x ρ=V d):∀y e,lk y ((x,d)::A6)=V e->lk y ((x,d)::ρ)=V e:=by
 intro y e A;rw[H6]at A ⊢;split
 ·rename_i q;rw[if_pos q]at A;exact A
 ·rename_i q;rw[if_neg q]at A;exact i y e A
theorem qu(xs:List Nat):∀(O:List D) (ρ A6 X:List (Nat×D)),(∀x d,lk x A6=V d->lk x ρ=V d)->FW xs O A6=V X->FC (λBt=>FW xs O ρ=V Bt) λBt=>∀x d,lk x X=V d->lk x Bt=V d:=by
 induction xs with
 |nil=>
  intro O ρ A6 X i h;obtain⟨U,G⟩:=SY h
  apply AO U;apply CE G
  exact⟨ρ,rfl,i⟩
 |cons x xs ih=>
  intro O ρ A6 X i h;obtain⟨d,r,e,h⟩:=SX h
  apply AO e
  exact ih r _ _ X (PC i) h
theorem qv{t:List Nat}{CZ:Bool}{d:D}{X:List (Nat×D)}(h:L0 t CZ d (Dn t ρ)=V X):FC (λBt=>L0 t CZ d ρ=V Bt) λBt=>∀x d,lk x X=V d->lk x Bt=V d:=by
 have hd:∀x d,lk x (Dn t ρ)=V d->lk x ρ=V d:=λy e A=>S7 A
 induction CZ with
 |true=>
  cases t with
  |nil=>exact nS h
  |cons x r=>induction r with
   |nil=>exact⟨_,rfl,sI h▸PC hd⟩
   |cons _ _=>exact nS h
 |false=>induction d using Yf<;>first|exact nS h|exact qu _ _ _ _ _ hd h
theorem At.cx(x:At T J mg mb s0 B sc k A N2 Z s ρ ow OA):Cx T J mg mb s0 B k A Z sc ρ (CU ow) (Dt N2 OA) N2 s:=⟨x.ha,x.ok,x.bs,x.rel.rel,λz h=>.inl h,x.occN⟩
theorem At.eval(x:At T J mg mb s0 B sc k A N2 Z s ρ ow OA)(hS:D0 Aj w T J mg mb s0 B fn C k n){e:Expr}{m:M}{d:D}{Q:Ag->Ah->Prop}(i:Bu B fn fo sc e m=Y)(X:ev C n ρ (CU ow) m=V d)(q:GB T J (Dt N2 OA) s d Q):
  Ap (Aq Aj w) A (Bj e Z) Q E s:=
 hS x.cx i X q
theorem Ek.of_ext(x:EQ T J B N2 Z s.heap ρ ow OA)(e:BM T s S):Ek T J B N2 Z OA s S ρ ow OA:=⟨x.ext e,λz h=>.inl h,e.upd⟩
theorem At.put(x:At T J mg mb s0 B sc k A N2 Z s ρ ow OA)(N:EA B){y:Nat}{v:Ag}{d:D}{Q:Unit->Ah->Prop}(j:FJ sc (B y)=Y)(p:lk y ow=Ao)(r:Rd J (Dt N2 OA) s.heap v d)
  (q:∀S,Ek T J B N2 Z OA s S ((y,d)::ρ) ow OA->Q () S):Ap (Aq Aj w) A (D6 Z (B y) v) Q E s:=by
 obtain⟨a,st⟩:=Oc x.ok j;refine Pw x.ok x.rel.sl .refl st (MK x.bs x.rel.sl st.frm) λS u i=>q S (.store N x.hm x.rel p st i ?_)
 exact r.mono (u.fits λb e=>e▸.inl (x.hm.frm st.frm))
noncomputable def Qp(v:Expr)(m:M):Bool:=!Vx v λz z z=>!Pv m
theorem At.asg(x:At T J mg mb s0 B sc k A N2 Z s ρ ow OA)(hS:D0 Aj w T J mg mb s0 B fn C k n)(hT:HZ Aj w T J mg mb s0 B fn C k n)(P:D0 Aj w T J mg mb s0 B fn C k (n+1))(N:EA B){y:Nat}{p pos:B9}{i:Expr}{m:M}{d:D}{Q:EW->Ah->Prop}
  (r:Bu B fn fo sc i m=Y)(hf:FJ sc (B y)=Y)(j:Qp i m=Y)(X:ev C (n+1) ρ (CU ow) m=V d)(hy:lk y ow=Ao)
  (q:∀S,Ek T J B N2 Z OA s S ((y,d)::ρ) ow OA->Q .next S):Ap (Aq Aj w) A (EB (.Assign [.Name (B y) p] i pos) Z) Q E s:=by
 obtain⟨a,st⟩:=Oc x.ok hf;have ht:=MK x.bs x.rel.sl st.frm;have hN:=x.hm.frm st.frm;cases F:Pv m with
 |true=>
  refine gv @hS @hT N x.cx r F X st ht (.inl hN) λL Bv S hd U j=>?_
  obtain⟨I,⟨nn,hp⟩,hr⟩:=j.items;exact q S (.store N x.hm x.rel hy st U (hd▸.lst j.notN hp (hr.mono λa o hn e z=>⟨λh=>hn (.inl h),e⟩)))
 |false=>
  have Bd:Kc i (V (.Name (B y) p)) pos.line Z=BU Ak:=by
   have:=Yz r
   induction i using Ya with
   |ListComp _ _ _ _=>exact bF (F.symm.trans ((Iu _).symm.trans j))
   |SetComp a b c d=>exact absurd rfl (this.1 a b c d)
   |DictComp a b c d f=>exact absurd rfl (this.2 a b c d f)
   |_=>rfl
  exact A2 (x.eval @P r X λv AK W Bs=>(x.ext W).put N hf hy Bs λS p=>q S ((Ek.of_ext x.rel W).trans x.bs x.rel p)) Bd
theorem At.anew(x:At T J mg mb s0 B sc k A N2 Z s ρ ow OA)(hS:D0 Aj w T J mg mb s0 B fn C k n)(W:HZ Aj w T J mg mb s0 B fn C k n)(N:EA B){y:Nat}{p pos:B9}{i:Expr}{m:M}{Bv:List D}{Q:EW->Ah->Prop}
  (j:Bu B fn fo sc i m=Y)(hf:FJ sc (B y)=Y)(r:Pv m=Y)(X:ev C (n+1) ρ (CU ow) m=V (.lst Bv))(hy:lk y ow=Ao)
  (q:∀L S,Ek T J B N2 Z OA s S (Dn [y] ρ) ((y,.lst Bv)::ow) ([L]::OA)->Q .next S):Ap (Aq Aj w) A (EB (.Assign [.Name (B y) p] i pos) Z) Q E s:=by
 obtain⟨a,st⟩:=Oc x.ok hf;exact gv @hS @W N x.cx j r X st (MK x.bs x.rel.sl st.frm) (.inl (x.hm.frm st.frm)) λL U S hd F P=>q L S (.fresh N x.hm x.rel x.occ hy st F (D.lst.inj hd▸P))
theorem At.puts(N:EA B)(es:List Expr):∀(ys:List Nat) (I:List Ag) (O:List D) (ρ A6:List (Nat×D)) (s:Ah) (Q:Unit->Ah->Prop),At T J mg mb s0 B sc k A N2 Z s ρ ow OA->
  GR (λe x=>K8 e λid=>Ri B sc id x) es ys=Y->(∀y∈ys,FJ sc (B y)=Y/\lk y ow=Ao)->
  FW ys O ρ=V A6->BV J (Dt N2 OA) s.heap I O->(∀S,Ek T J B N2 Z OA s S A6 ow OA->Q () S)->Ap (Aq Aj w) A (Do ((EZ es Z).map (·.2)) I) Q E s:=by
 induction es with
 |nil=>
  intro ys I O ρ A6 s Q x i _ F j q;rw[SU i]at F;obtain⟨U,C⟩:=SY F;rw[U]at j
  apply AO (show I=[]from j.inv)
  exact Ar (q s (C▸.refl x.rel))
 |cons e es ih=>
  intro ys I O ρ A6 s Q x i r F j q;obtain⟨y,ys,e1,U,C⟩:=Qi i;rw[e1]at F r;obtain⟨d,O,e2,F⟩:=SX F;rw[e2]at j;obtain⟨v,I,X,L,j⟩:=j.inv;obtain⟨id,pos,M,U⟩:=MI U;obtain⟨P,W⟩:=r y (.head _)
  apply Dz X M;rw[AA (AH U).1]
  show Ap _ A (Do (Jd (.Name (B y) pos) Z::(EZ es Z).map (·.2)) (_::_)) Q E s;exact VE (AZ (Ai (AU (Et (x.put N P W L λS p=>
   ih ys _ O _ A6 S Q (x.post p) C (λy hy=>r y (.tail _ hy)) F (j.mono (p.upd.fits λa h=>h.elim (λf=>.inl (x.hm.frm f)) .inr)) λDK p'=>q DK (p.trans x.bs x.rel p'))))))
theorem At.assign(x:At T J mg mb s0 B sc k A N2 Z s ρ ow OA)(N:EA B){t:Expr}{ys:List Nat}{CZ:Bool}{d:D}{v:Ag}{Q:Unit->Ah->Prop}(j:∀y∈ys,FJ sc (B y)=Y/\lk y ow=Ao)(C:Rd J (Dt N2 OA) s.heap v d)
  (i:LF B sc t ys CZ=Y)(F:L0 ys CZ d ρ=V A6)(q:∀S,Ek T J B N2 Z OA s S A6 ow OA->Q () S):Ap (Aq Aj w) A (QX t Z v) Q E s:=by
 induction CZ with
 |true=>
  obtain⟨id,pos,e1,i⟩:=MI i;obtain⟨y,e2,i⟩:=Jr i;rw[e2]at F j;obtain⟨U,W⟩:=j y (.head _);rw[e1];apply AO (AA (AH i).1)
  exact Ai (AU (Et (x.put N U W C (sI F▸q))))
 |false=>
  obtain⟨es,kk,pos,e1,i⟩:=Qh i;obtain⟨U,W⟩:=fI (Z:=Z) es ys i;have P:∀{I:List Ag} {O:List D} {h':A9},BV J (Dt N2 OA) s.heap I O->FW ys O ρ=V A6->DI s.heap.objs.size s.heap h'->Ap (Aq Aj w) A (Do ((EZ es Z).map (·.2)) I) Q E {s with heap:=h'}:=λ{I O h'} r F L=>by
   have e:BM T s {s with heap:=h'}:=.of_keeps (tk:=s.toks) λb o e=>L b o (Bn (AY e)) e
   exact At.puts N es ys _ O ρ A6 _ Q (x.ext e) i j F (r.mono e.fits) λS p=>q S ((Ek.of_ext x.rel e).trans x.bs x.rel p)
  have C:=C.inv
  apply AO e1
  induction d using Yf with
  |tup O=>
   obtain⟨_,I,_,X,M,g,r⟩:=C
   apply AO X
   exact Ai (AU (QV x.ha.handled ⟨_,g,rfl,_,rfl⟩ (by rw[U,VF F,AD];apply AO r.length;rfl) W λh' L=>P r F L))
  |lst O=>
   obtain⟨_,I,_,X,M,g,r⟩:=C
   apply AO X
   exact Ai (AU (fJ x.ha.handled ⟨_,g,rfl,_,rfl⟩ (by rw[U,VF F,AD];apply AO r.length;rfl) W λh' L=>P r F L))
  |_=>exact nS F
noncomputable def YG(sc:List (Av×AC))(j:List Expr)(v:Expr):Bool:=!NX v λz=>!j.any λe=>!K8 e λid=>!(sc.lookup id==V .cell)
theorem qw{z Q:Type}{f:z->Option Q}{l:List z}(h:FC (λa=>a∈l) λa=>f a=Ao):(l.filterMap f).length<l.length:=by
 induction l with
 |nil=>obtain⟨_,h,_⟩:=h;exact nomatch h
 |cons a r ih=>
  obtain⟨b,F,M⟩:=h;rw[List.filterMap_cons];cases q:f a with
  |none=>exact Oo (Ks f r)
  |some c=>
   rcases jC F with e|F
   ·rw[e,q]at M;exact nS M.symm
   ·exact Jl (ih ⟨b,F,M⟩)
theorem Uo{z:Type}{c:Prop}[Decidable c]{x y:z}(h:y=x):(if c then x else y)=x:=by apply AO h;rw[ite_self]
theorem qx{j:List Expr}{kx}{tp:B9}{v:Expr}(ok:IB Z sc)(h:YG sc j v=Y):Mt [.Tuple j kx tp] v Z=BU Ao:=by
 induction v using Ya with
 |Tuple I u T=>
  obtain⟨e,r,E⟩:=List.any_eq_true.mp ((Iu _).symm.trans h);refine Uo (Uo (if_pos ?_))
  rw[AT,bne_iff_ne];refine .inl (Bn (qw ⟨e,r,?_⟩))
  induction e using Ya with
  |Name id pos=>
   dsimp only;rw[ok.kindOf,AA ((Iu _).symm.trans E)]
   rfl
  |_=>rfl
 |_=>rfl
theorem DH.loadN{M:IX}{A:A1}{E:Ag->Ah->Prop}{s:Ah}{Z:DS}{x:Av}{v:Ag}{Q:Ag->Ah->Prop}(P:Z.scope.kind= .function)
  (h:DH Z s.heap x v)(q:Q v s):Ap M A (loadName Z x) Q E s:=by
 rcases h with⟨U,m,j,i⟩|⟨U|U,j,c,i,p⟩
 ·exact FS P U j i q
 ·exact PS P U i p q
 ·exact Gd P U i p q j
theorem At.asgT(x:At T J mg mb s0 B sc k A N2 Z s ρ ow OA)(hS:D0 Aj w T J mg mb s0 B fn C k n)(N:EA B){j:List Expr}{kx}{tp pos:B9}{ys:List Nat}{i:Expr}{m:M}{d:D}{Q:EW->Ah->Prop}
  (r:Bu B fn fo sc i m=Y)(F:∀y∈ys,FJ sc (B y)=Y/\lk y ow=Ao)(U:LF B sc (.Tuple j kx tp) ys Ak=Y)(L:YG sc j i=Y)(X:ev C n ρ (CU ow) m=V d)(hb:L0 ys Ak d ρ=V A6)
  (q:∀S,Ek T J B N2 Z OA s S A6 ow OA->Q .next S):Ap (Aq Aj w) A (EB (.Assign [.Tuple j kx tp] i pos) Z) Q E s:=by
 refine Assign_Tuple ?_ (by induction i using Ya<;>rfl) (qx x.ok L)
 refine x.eval @hS r X λv AK W P=>?_
 exact(x.ext W).assign N F P U hb λS p=>q S ((Ek.of_ext x.rel W).trans x.bs x.rel p)
theorem At.ret(x:At T J mg mb s0 B sc k A N2 Z s ρ ow OA)(hS:D0 Aj w T J mg mb s0 B fn C k n){pos:B9}{i:Expr}{m:M}{d:D}{Q:EW->Ah->Prop}
  (j:Bu B fn fo sc i m=Y)(X:ev C n ρ (CU ow) m=V d)(q:∀v S,BM T s S->Rd J (Dt N2 OA) S.heap v d->Q (.ret v) S):Ap (Aq Aj w) A (EB (.Return (V i) pos) Z) Q E s:=
 CD (x.eval @hS j X q)
theorem At.iff(x:At T J mg mb s0 B sc k A N2 Z s ρ ow OA)(p:HZ Aj w T J mg mb s0 B fn C k n){pos:B9}{i:Expr}{m:M}{d:D}{t:Bool}{body F:List Bx}{Q:EW->Ah->Prop}
  (j:Bu B fn fo sc i m=Y)(X:ev C n ρ (CU ow) m=V d)(r:OF d=V t)(q:∀S,BM T s S->Ap (Aq Aj w) A (C4 (if t then body else F) Z) Q E S):Ap (Aq Aj w) A (EB (.If i body F pos) Z) Q E s:=by
 refine EN (p ⟨x.ha,x.ok,x.bs,x.rel.rel,(λz h=>.inl h),x.occN⟩ j X r λS y=>?_)
 have:=q S y
 induction t<;>exact this
theorem gB{d:D}{a b:D}{W c:Ag}{o:BY}(x:∀n,(J.v n).natAbs<=2^1000){N:An->Prop}{h:A9}(s:Rd J N h W a)(f:Rd J N h c b)(hd:N9 o a b=V d)
  {P:Prop}(m:∀{i j:Int} {t u:Ez} {p:PX},W= .int i t->c= .int j u->d= .int p->(o= .Add/\p.ev J=i+j)\/(o= .Sub/\p.ev J=i-j)\/(o= .Mult/\p.ev J=i*j/\IntMulOk i j)->P):P:=by
 obtain⟨p,hp,hd⟩:=IN hd;obtain⟨r,Q,hd⟩:=IN hd;obtain⟨t,e1⟩:=s.inv' hp;obtain⟨u,e2⟩:=f.inv' Q
 induction o with
 |Add=>exact m e1 e2 (sI hd).symm (.inl ⟨rfl,Sz ..⟩)
 |Sub=>exact m e1 e2 (sI hd).symm (.inr (.inl ⟨rfl,by rw[Sz,Xh,Ih]⟩))
 |Mult=>
  obtain⟨e,hd⟩:=De hd;exact m e1 e2 (sI hd).symm (.inr (.inr ⟨rfl,dE ..,ez x (AH e).1 (AH e).2⟩))
 |_=>exact nS hd
theorem gC{y:Av}(ok:IB Z sc)(t:FJ sc y=Y):Ko (Z.kindOf y)=Y:=by
 rw[ok.kindOf];rcases(AT _ _).mp (AH t).1 with q|q<;>(rw[AA q];rfl)
theorem At.aug(x:At T J mg mb s0 B sc k A N2 Z s ρ ow OA)(U:∀n,(J.v n).natAbs<=2^1000)(hS:D0 Aj w T J mg mb s0 B fn C k n)(N:EA B){np pos:B9}{y:Nat}{o:BY}{r:Expr}{m:M}{a b d:D}{Q:EW->Ah->Prop}
  (X:Bu B fn fo sc r m=Y)(hf:FJ sc (B y)=Y)(hy:lk y ow=Ao)(hl:lk y ρ=V a)(Bd:ev C n ρ (CU ow) m=V b)(hd:N9 o a b=V d)
  (q:∀S,Ek T J B N2 Z OA s S ((y,d)::ρ) ow OA->Q .next S):Ap (Aq Aj w) A (EB (.AugAssign (.Name (B y) np) o r pos) Z) Q E s:=by
 obtain⟨va,h1,h2⟩:=x.rel.one y a hl (gC x.ok hf);refine wpAny_AugAssign_Name (h1.loadN x.ok.kind (x.eval @hS X Bd λvb AK W Bs=>?_))
 have F:∀{i:Int} {p:PX},d= .int p->p.ev J=i->Ap (Aq Aj w) A (D6 Z (B y) (.int i AK.toks)) (λz=>Q .next) E {AK with toks:=AK.toks+1}:=λe hp=>by
  have L:BM T s {AK with toks:=AK.toks+1}:=W.trans .toks
  exact(x.ext L).put N hf hy (e▸.int hp) λS p=>q S ((Ek.of_ext x.rel L).trans x.bs x.rel p)
 refine gB U (h2.mono W.fits) Bs hd λ{i j t u p} e1 e2 hd h=>?_
 apply Dz e1 e2
 rcases h with⟨P,hp⟩|⟨P,hp⟩|⟨P,hp,hm⟩
 ·apply AO P;exact HS (F hd hp)
 ·apply AO P;exact HT (F hd hp)
 ·apply AO P;exact HU (F hd hp) hm
def qy(J:Sg)(N:An->Prop)(s S:Ah)(v:Ag)(d:D):Prop:=Rd J N S.heap v d∨
 ∃a I O n,v= .ref a/\d= .tup O/\s.heap.get? a=Ao/\S.heap.get? a=V (HA (ET I) n)/\BV J N S.heap I O
structure PD(Aj:Bh)(w:Ca)(A:A1)(T:An->Prop)(J:Sg)(N:An->Prop)(tgt:Expr)(it:Ag)(BD:An->Prop)(O:List D)(St:Nat->A9->Prop):Prop where
 mine:∀a,BD a->N a
 frame:∀i (s S:Ah) (W:An->Prop),St i s.heap->Co T W s S->(∀a,W a->N a/\¬BD a)->St i S.heap
 next:∀i (s:Ah) (E:Ag->Ah->Prop),St i s.heap->i<=O.length->Ap (Aq Aj w) A (H9 it) (λr AK=>match r with
  |none=>i=O.length/\Fe T BD s AK
  |some v=>Ap (Aq Aj w) A (Dd tgt it v) (λz By=>∃d,O[i]?=V d/\Co T BD s By/\St (i+1) By.heap/\qy J N s By v d) E AK) E s
theorem It.toS{tgt:Expr}{it:Ag}{BD:An->Prop}{O:List D}{St:Nat->A9->Prop}(x:It Aj w A T J N tgt it BD O St):PD Aj w A T J N tgt it BD O St where
 mine:=x.mine
 frame:=x.frame
 next:=λi s E st j=>AM (x.next i s E st j) (λr AK h=>by
  induction r with
  |none=>exact h
  |some v=>exact AM h (λz By p=>by obtain⟨d,U,q,y,C⟩:=p;exact⟨d,U,q,y,.inl C⟩) λz z e=>e) λz z e=>e
def Rv(Aj:Bh)(w:Ca)(T:An->Prop)(J:Sg)(N:An->Prop)(tgt:Expr)(x:Ag)(O:List D)(s AK:Ah):Prop:=
 ∀(A:A1) (E:Ag->Ah->Prop) (Q:Ag->Ah->Prop),A.handled=Ao->
  (∀it By (BD:An->Prop),BM T AK By->(∀a,BD a->s.heap.get? a=Ao/\Da By.heap a)->
   (∀(q:A1) (N':An->Prop),q.handled=Ao->(∀a,N' a↔N a\/BD a\/By.heap.get? a=Ao)->∃St,PD Aj w q T J N' tgt it BD O St/\St 0 By.heap)->Q it By)->
  Ap (Aq Aj w) A (Lg x) Q E AK
theorem Rv.of{tgt:Expr}{x:Ag}{O:List D}{AK:Ah}(F:∀a,AK.heap.get? a=Ao->s.heap.get? a=Ao)(h:OK Aj w T J N x O AK):Rv Aj w T J N tgt x O s AK:=by
 intro A E Q y q;refine h A E Q y λit By Af i r C hm=>q it By (·=Af) i (λa e=>e▸⟨F _ r,C⟩) λL N' j p=>?_
 obtain⟨St,U,P⟩:=hm L tgt N' j (λa h=>(p a).mpr (.inl h)) ((p Af).mpr (.inr (.inl rfl))) λa o M e t=>⟨λq=>(by
  rcases(p a).mp q with q|q|q
  ·exact M q
  ·rw[q,r]at e;cases e
  ·rw[i.keep2 a o e t]at q;cases q),i.keep2 a o e t⟩
 exact⟨St,U.toS,P⟩
theorem gD:∀{xs ys:List D} {i:Nat} {x y:D},xs[i]?=V x->ys[i]?=V y->(Po xs ys)[i]?=V (.tup [x,y])
 |_::_,_::_,0,_,_,U,G=>by cases U;cases G;rfl
 |_::r,_::s,i+1,x,y,U,G=>(gD (xs:=r) (ys:=s) (i:=i) U G:(Po r s)[i]?=V (.tup [x,y]))
 |[],_,_,_,_,U,_=>nS U
 |_::_,[],_,_,_,_,G=>nS G
theorem YH:∀{xs ys:List D},(Po xs ys).length=M3 xs.length ys.length
 |[],_=>(Ll _).symm
 |_::_,[]=>(Nat.min_zero _).symm
 |_::xs,_::ys=>by
  rw[show(Po (_::xs) (_::ys)).length=(Po xs ys).length+1 from rfl,Cb,Cb,YH];exact(Nat.add_min_add_right _ _ _).symm
theorem PD.zip{j:List Expr}{kx:Nat}{tp:B9}{z TI U X i2 l1 l2:An}{BD:An->Prop}{I ws:List Ag}{O es:List D}{n1 n2:Nat}(hA:A.handled=Ao)(D:ZipApart z TI U X i2 l1 l2)(C:∀a,BD a↔a=z\/a=U\/a=X\/a=i2)
  (Bd:∀a,BD a->¬T a)(hN:∀a,BD a->N a)(Bs:¬N TI)(Ce:¬N l1)(Cf:¬N l2):
  PD Aj w A T J N (.Tuple j kx tp) (.ref z) BD (Po O es) (λi h=>(IsZip h z TI U .none/\IsPair h TI (.ref X) (.ref i2)/\(∃a b,IsPair h U a b)/\h.IsListIter X l1 i/\h.IsListIter i2 l2 i)∧
   (h.get? l1=V (Gf I.toArray n1)/\h.get? l2=V (Gf ws.toArray n2)/\BV J N h I O/\BV J N h ws es)) where
 mine:=hN
 frame:=by
  rintro i s S W ⟨⟨hz,hI,⟨a,b,hO⟩,h1,h2⟩,⟨g1,g2,L,Q⟩⟩ u hW
  have f:FU N N s.heap S.heap:=u.fits λa wa=>(hW a wa).1
  have y:∀a o,s.heap.get? a=V o->Hn o=Ak->(BD a\/¬N a)->S.heap.get? a=V o:=λa o e t h=>u.keep2 a o (λwa=>h.elim (hW a wa).2 λh=>h (hW a wa).1) e t
  refine⟨⟨y _ _ hz rfl (.inl ((C _).mpr (by simp))),y _ _ hI rfl (.inr Bs),⟨a,b,y _ _ hO rfl (.inl ((C _).mpr (by simp)))⟩,?_,?_⟩,⟨y _ _ g1 rfl (.inr Ce),y _ _ g2 rfl (.inr Cf),L.mono f,Q.mono f⟩⟩
  ·obtain⟨o,e,p,hd⟩:=h1;exact⟨o,y _ _ e (Iq ⟨_,p⟩) (.inl ((C _).mpr (by simp))),p,hd⟩
  ·obtain⟨o,e,p,hd⟩:=h2;exact⟨o,y _ _ e (Iq ⟨_,p⟩) (.inl ((C _).mpr (by simp))),p,hd⟩
 next:=by
  rintro i s E ⟨⟨hz,hI,⟨a,b,hO⟩,h1,h2⟩,⟨g1,g2,L,Q⟩⟩ hi
  have L1:s.heap.IsList l1 I.toArray:=⟨_,g1,rfl,n1,rfl⟩;have L2:s.heap.IsList l2 ws.toArray:=⟨_,g2,rfl,n2,rfl⟩;have Rc:∀c,¬BD c->c≠z/\c≠U/\c≠X/\c≠i2:=λc h=>⟨λe=>h ((C c).mpr (by simp[e])),λe=>h ((C c).mpr (by simp[e])),λe=>h ((C c).mpr (by simp[e])),λe=>h ((C c).mpr (by simp[e]))⟩
  have Cx:∀c,BD c->IA s.heap c:=λc h=>by
   rcases(C c).mp h with rfl|rfl|rfl|rfl
   ·exact .of hz rfl
   ·exact .of hO rfl
   ·obtain⟨o,e,_,hd⟩:=h1;exact .of e (Nb (by rw[hd];rfl))
   ·obtain⟨o,e,_,hd⟩:=h2;exact .of e (Nb (by rw[hd];rfl))
  rw[YH]at hi;by_cases r:i<M3 O.length es.length
  ·have q1:i<I.length:=by apply AO L.length;exact(EV (.a (.v 0) (.k 1)) (.v 2) [(1,.a (.v 0) (.k 1),.v 1),(1,.v 1,.v 2)] rfl r (FF _ _))
   have q2:i<ws.length:=by apply AO Q.length;exact(EV (.a (.v 0) (.k 1)) (.v 2) [(1,.a (.v 0) (.k 1),.v 1),(1,.v 1,.v 2)] rfl r (Jn _ _))
   have hx:I.toArray[i]?=V I[i]:=by simp[q1]
   have hy:ws.toArray[i]?=V ws[i]:=by simp[q2]
   refine wpAny_pyNext_zip_item D hz hI hO h1 h2 L1 L2 hx hy λh' a1 a2 a3 a4 a5 a6 hk=>?_
   refine wpAny_letOwnedTupleGo_zip a1 λF b1 M=>?_
   obtain⟨dx,e1,rx⟩:=L.getV (i:=i) (v:=I[i]) (by simp[q1])
   obtain⟨dy,e2,ry⟩:=Q.getV (i:=i) (v:=ws[i]) (by simp[q2])
   have y:∀c o,¬BD c->s.heap.get? c=V o->F.get? c=V o:=λc o h e=>by
    obtain⟨n1,n2,n3,n4⟩:=Rc c h;exact(M.2 c n1).trans (hk c o n1 n2 n3 n4 e)
   have sz:∀{c o},s.heap.get? c=V o->c≠s.heap.objs.size:=λe=>Bn (AY e)
   have CH:=(M.2 _ D.TOz).trans a2;have g5:=(M.2 _ (λq=>sz hz q.symm)).trans a5
   have u:Co T BD s {s with heap:=F}:=by
    refine⟨λc o x P e=>y c o P e,λc o P e x=>y c o P e,λc ⟨o,e,t⟩=>?_,λc tc t=>t.keep (λd o co e=>y d o (λh=>(Cx d h).absurd co e) e) (λo e=>y c _ (λh=>Bd c h tc) e),λx e=>e,rfl⟩
    by_cases q:BD c
    ·rcases(C c).mp q with rfl|rfl|rfl|rfl
     ·exact⟨_,b1,rfl⟩
     ·exact⟨_,CH,rfl⟩
     ·obtain⟨o,e,p,_⟩:=a3;exact⟨o,(M.2 _ D.i1z).trans e,Iq ⟨_,p⟩⟩
     ·obtain⟨o,e,p,_⟩:=a4;exact⟨o,(M.2 _ D.i2z).trans e,Iq ⟨_,p⟩⟩
    ·exact⟨o,y c o q e,t⟩
   have f:FU N N s.heap F:=u.fits hN;refine⟨.tup [dx,dy],gD e1 e2,u,⟨⟨b1,y _ _ (λh=>Bs (hN _ h)) hI,⟨_,_,CH⟩,?_,?_⟩,⟨y _ _ (λh=>Ce (hN _ h)) g1,y _ _ (λh=>Cf (hN _ h)) g2,L.mono f,Q.mono f⟩⟩,?_⟩
   ·obtain⟨o,e,p,hd⟩:=a3;exact⟨o,(M.2 _ D.i1z).trans e,p,hd⟩
   ·obtain⟨o,e,p,hd⟩:=a4;exact⟨o,(M.2 _ D.i2z).trans e,p,hd⟩
   ·exact .inr ⟨_,[I[i],ws[i]],_,0,rfl,rfl,HX (AI _),g5,.cons (rx.mono f) (.cons (ry.mono f) .nil)⟩
  ·have DD:I.toArray[i]?=Ao\/ws.toArray[i]?=Ao:=by
    rcases Lk O.length es.length with h|h
    ·left;rw[Cd];exact Dl (by rw[L.length];exact(EV (.v 2) (.v 0) [(1,.v 1,.v 0),(1,.v 2,.v 1)] rfl (BI r) (Al (FE h).symm)))
    ·right;rw[Cd];exact Dl (by rw[Q.length];exact(EV (.v 2) (.v 0) [(1,.v 1,.v 0),(1,.v 2,.v 1)] rfl (BI r) (Al (GJ h).symm)))
   refine wpAny_pyNext_zip_end hA D hz hI hO h1 h2 L1 L2 DD λh' hk=>⟨by apply AO YH;exact(AP hi (BI r)),?_⟩
   have y:∀c o,¬BD c->s.heap.get? c=V o->h'.get? c=V o:=λc o h e=>by
    obtain⟨n1,n2,n3,n4⟩:=Rc c h;exact hk c o n1 n2 n3 n4 e
   exact⟨λc o x P e=>y c o P e,λc o P e x=>y c o P e,λc tc t=>t.keep (λd o co e=>y d o (λh=>(Cx d h).absurd co e) e) (λo e=>y c _ (λh=>Bd c h tc) e),λx e=>e,rfl⟩
theorem PD.rev{tgt:Expr}{Af l:An}{I:List Ag}{n:Nat}{O:List D}(hh:A.handled=Ao)(Ce:l≠Af)(Q:N Af)(X:¬T Af)(Cf:¬N l):
  PD Aj w A T J N tgt (.ref Af) (·=Af) O.reverse (λi h=>h.IsRevIter Af l ((O.length:Int)-1-i)/\h.get? l=V (Gf I.toArray n)/\BV J N h I O) where
 mine:=λa h=>h▸Q
 frame:=λi s S W st u hw=>by
  obtain⟨⟨o,e1,e2,e3⟩,g,r⟩:=st;refine⟨⟨o,u.keep2 Af o (λq=>(hw Af q).2 rfl) e1 (Iq ⟨_,e2⟩),e2,e3⟩,u.keep2 l _ (λq=>Cf (hw l q).1) g rfl,r.mono (u.fits λa h=>(hw a h).1)⟩
 next:=λi s E st hi=>by
  obtain⟨p,g,r⟩:=st;have U:IA s.heap Af:=by obtain⟨o,e,_,hd⟩:=p;exact .of e (Nb (by rw[hd];rfl))
  rw[CP]at hi;have y:s.heap.IsList l I.toArray:=⟨_,g,rfl,n,rfl⟩;have M:=r.length;have P:∀h',DI Af s.heap h'->Da h' Af->Co T (·=Af) s {s with heap:=h'}:=λh' L ho=>
   ⟨λb o z F e=>L b o F e,λb o F e z=>L b o F e,λb hO=>by obtain⟨o,e,t⟩:=hO;exact(by
    by_cases q:b=Af
    ·apply AO q;exact ho
    ·exact⟨o,L b o q e,t⟩),λb tb t=>t.keep (λc o co e=>L c o (λq=>(q▸U).absurd co e) e) (λo e=>L b _ (λq=>X (q▸tb)) e),λz e=>e,rfl⟩
  rcases E6 i O.length with C|hge
  ·have hj:O.length-1-i<I.length:=(Ip (.a (.v 2) (.k 1)) (.v 0) [(1,.v 1,.v 0),(1,.v 2,.v 3),(1,.a (.v 3) (.k 1),.v 1)] rfl (Al M.symm) (DB _ _) (Al (Az (En (.k 1) (.v 0) [(1,.a (.v 1) (.k 1),.v 0)] rfl C))));have j:((O.length:Int)-1-i)=((O.length-1-i:Nat):Int):=by apply AO (Sj (MA C));rw[Sj (Nat.one_le_of_lt C)];rfl
   rw[j]at p;refine wpAny_pyNext_rev_item p y (x:=I[O.length-1-i]) (by simp[hj]) λh' Bd Cx=>?_
   obtain⟨o,e1,e2,e3⟩:=id Bd;refine Rm e1 e2 rfl ?_
   have u:=P h' Cx.extBut ⟨o,e1,Iq ⟨_,e2⟩⟩;have hd:O[O.length-1-i]?=V (O[O.length-1-i]'(EV (.a (.v 2) (.k 1)) (.v 1) [(1,.v 0,.v 1),(1,.a (.v 2) (.k 1),.v 0)] rfl (Al M) hj)):=A8 _;obtain⟨v,hv,hr⟩:=r.get hd;have CH:v=I[O.length-1-i]:=by rw[A8 hj]at hv;exact(CK hv).symm
   subst CH;have Bs:FU N N s.heap h':=u.fits λa h=>h▸Q
   refine⟨_,?_,u,⟨⟨o,e1,e2,?_⟩,u.keep2 l _ (λq=>Ce q) g rfl,r.mono Bs⟩,.inl (hr.mono Bs)⟩
   ·rw[List.getElem?_reverse C];exact hd
   ·have:((O.length-1-i:Nat):Int)-1=(O.length:Int)-1-((i+1:Nat):Int):=(A5 (li [] [_,_,_] (.s (.u (.v 2)) (.k 1)) (.s (.s (.u (.v 0)) (.k 1)) (.u (.a (.v 1) (.k 1)))) [(1,.u (.v 2),.s (.s (.u (.v 0)) (.k 1)) (.u (.v 1)))] rfl (Bc j.symm)) (li [] [_,_,_] (.s (.s (.u (.v 0)) (.k 1)) (.u (.a (.v 1) (.k 1)))) (.s (.u (.v 2)) (.k 1)) [(1,.s (.s (.u (.v 0)) (.k 1)) (.u (.v 1)),.u (.v 2))] rfl (Bc j)));rw[e3,this]
  ·have DD:i=O.length:=AP hi hge;have j:((O.length:Int)-1-i)= -1:=(A5 (li [] [_,_] (.s (.s (.u (.v 1)) (.k 1)) (.u (.v 0))) (.k (-1)) [(1,.u (.v 1),.u (.v 0))] rfl (jO hge)) (li [] [_,_] (.k (-1)) (.s (.s (.u (.v 1)) (.k 1)) (.u (.v 0))) [(1,.u (.v 0),.u (.v 1))] rfl (jO hi)));rw[j]at p;refine wpAny_pyNext_rev_end hh p λh' L=>⟨by apply AO CP;exact DD,?_⟩
   exact⟨λb o z F e=>L b o F e,λb o F e z=>L b o F e,λb tb t=>t.keep (λc o co e=>L c o (λq=>(q▸U).absurd co e) e) (λo e=>L b _ (λq=>X (q▸tb)) e),λz e=>e,rfl⟩
noncomputable def Rw(Bu:Expr->M->Bool)(sc:List (Av×AC))(tgt:Expr)(u:Nat)(ms:List M)(e:Expr):Bool:=match As u 2 with
 |true=>MJ Bu sc "zip" e ms&&NX tgt λz=>Y
 |false=>(match As u 4 with
  |true=>MJ Bu sc "reversed" e ms&&As ms.length 1
  |false=>SW Bu sc u ms e)
noncomputable def ch(Bu:Expr->M->Bool)(sc:List (Av×AC))(u:Nat)(ms:List M)(e:Expr):Bool:=As u 3&&(MJ Bu sc "_iter_escaped_chars" e ms&&As ms.length 1)
theorem gE{z:Type}{l:List z}(h:As l.length 1=Y):∃a,l=[a]:=by
 cases l with
 |nil=>exact bF h
 |cons a r=>induction r with
  |nil=>exact⟨a,rfl⟩
  |cons _ _=>exact bF h
theorem Bs.free_at(bs:Bs T mg mb s0 s)(x:BM T s S):∀a,S.heap.get? a=Ao->s.heap.get? a=Ao:=λz=>(x.upd (W:=λz=>False)).free_back bs.tabs_ok (λz h=>h.elim)
theorem qz(n:Nat):¬(n+2=n+4\/n+2=n+3\/n+2=n\/n+2=n+1):=(not_or.mpr ⟨(Bn (EJ (.a (.a (.v 0) (.k 2)) (.k 1)) (.a (.v 0) (.k 4)) [] rfl)),(not_or.mpr ⟨(Bn (EJ (.a (.a (.v 0) (.k 2)) (.k 1)) (.a (.v 0) (.k 3)) [] rfl)),(not_or.mpr ⟨(Dx (EJ (.a (.v 0) (.k 1)) (.a (.v 0) (.k 2)) [] rfl)),(Dx (EJ (.a (.a (.v 0) (.k 1)) (.k 1)) (.a (.v 0) (.k 2)) [] rfl))⟩)⟩)⟩)
theorem qB{n a:Nat}(h:a<n):¬(a=n+4\/a=n+3\/a=n\/a=n+1):=(not_or.mpr ⟨(Bn (En (.a (.v 0) (.k 1)) (.a (.v 1) (.k 4)) [(1,.a (.v 0) (.k 1),.v 1)] rfl h)),(not_or.mpr ⟨(Bn (En (.a (.v 0) (.k 1)) (.a (.v 1) (.k 3)) [(1,.a (.v 0) (.k 1),.v 1)] rfl h)),(not_or.mpr ⟨(Bn h),(Bn (En (.a (.v 0) (.k 1)) (.a (.v 1) (.k 1)) [(1,.a (.v 0) (.k 1),.v 1)] rfl h))⟩)⟩)⟩)
theorem qC{O items:List D}(h:YC O=V items):LW (λa b=>O=[.lst a,.lst b]) λa b=>items=Po a b:=by
 induction O with
 |nil=>exact nS h
 |cons a r=>
  obtain⟨x,e1,h⟩:=LY h;obtain⟨b,F,h⟩:=Cn h;obtain⟨y,e2,h⟩:=LY h;exact⟨x,y,by apply Dz e1 (Xr F);rw[e2],(sI (De h).2).symm⟩
theorem gF{BD:An->Prop}{N' N:An->Prop}{h h':A9}(m:∀a,N' a↔N a\/BD a\/h'.get? a=Ao)(P:∀a o,h.get? a=V o->h'.get? a=V o)(C:∀a o,h.get? a=V o->¬BD a)(a:An)(o:Fo)(M:¬N a)(e:h.get? a=V o):¬N' a:=λq=>
 ((m a).mp q).elim M λq=>q.elim (C a o e) λq=>nS (q.symm.trans (P a o e))
theorem At.forZip(x:At T J mg mb s0 B sc k A N2 Z s ρ ow OA)(hS:D0 Aj w T J mg mb s0 B fn C k n){tgt e:Expr}{ms:List M}{O items:List D}{Q:Ag->Ah->Prop}
  (h:MJ (Bu B fn fo sc) sc "zip" e ms=Y)(ht:NX tgt (λz=>Y)=Y)(hm:Gs (ev C n ρ (CU ow)) ms=V O)(hi:YC O=V items)
  (q:∀v AK,BM T s AK->Rv Aj w T J (Dt N2 OA) tgt v items s AK->Q v AK):Ap (Aq Aj w) A (Bj e Z) Q E s:=by
 obtain⟨p,as,pos,he,X,h⟩:=Qn h;obtain⟨E4,kx,tp,Bd,_⟩:=Qh ht;obtain⟨da,db,e1,e2⟩:=qC hi;rw[e1]at hm
 apply AO he
 refine AX (Nh (b:=6) x.cx (by decide) X (by decide) (DE (N5 as ms h) (K9 h (N4 @hS as x.cx h hm λI AK W Bs=>?_))))
 obtain⟨va,vb,hv,ra,rb⟩:=Bs.two;obtain⟨l1,xs,n1,Ce,na,r,qa⟩:=ra.inv;obtain⟨l2,ys,n2,Cf,nb,U,qb⟩:=rb.inv;have Cx:=x.ext W;rw[hv];apply Dz Ce Cf
 refine call_zip_2 ⟨_,r,rfl,n1,rfl⟩ ⟨_,U,rfl,n2,rfl⟩ λh' hz i j y F hsz P=>q _ _ (W.trans (.of_keeps (tk:=AK.toks) P)) ?_
 apply Dz e2 Bd
 intro A' E' Q' E5 q';have CH:=AY r;have DD:=AY U;have L:∀a,(a=AK.heap.objs.size+4\/a=AK.heap.objs.size+3\/a=AK.heap.objs.size\/a=AK.heap.objs.size+1)->AK.heap.objs.size<=a:=λa h=>by
  rcases h with h|h|h|h<;>(apply AO h;first|exact AQ _ _|exact AI _)
 have Ev:∀a,AK.heap.objs.size<=a->s.heap.get? a=Ao:=λa h=>x.bs.free_at W a (HX h)
 have Nc:∀a,AK.heap.objs.size<=a->¬Dt N2 OA a:=λa h q=>AN _ (AG h ((x.occN a q).ext W).lt)
 have E3:∀a,AK.heap.objs.size<=a->¬T a:=λa h q=>AN _ (AG h (Cx.bs.lt a q))
 refine wpAny_pyIter_zip hz (q' _ {AK with heap:=h'} (λa=>a=AK.heap.objs.size+4\/a=AK.heap.objs.size+3\/a=AK.heap.objs.size\/a=AK.heap.objs.size+1) .refl (λa h=>⟨Ev a (L a h),?_⟩) λFn N' N hN=>?_)
 ·rcases h with e|e|e|e<;>apply AO e
  ·exact⟨_,hz,rfl⟩
  ·exact⟨_,j,rfl⟩
  ·obtain⟨o,e,hc,_⟩:=y;exact⟨o,e,Iq ⟨_,hc⟩⟩
  ·obtain⟨o,e,hc,_⟩:=F;exact⟨o,e,Iq ⟨_,hc⟩⟩
 ·have Bv:=gF hN P λa o e h=>qB (AY e) h
  refine⟨_,PD.zip (n1:=n1) (n2:=n2) (I:=xs) (ws:=ys) (TI:=AK.heap.objs.size+2) (l1:=l1) (l2:=l2) N (zipApart_new CH DD) (λa=>zx) (λa h=>E3 a (L a h)) (λa h=>(hN a).mpr (.inr (.inl h))) (λh=>?_) (Bv _ _ na r) (Bv _ _ nb U),⟨hz,i,⟨_,_,j⟩,y,F⟩,⟨P _ _ r,P _ _ U,qa.mono λa o hn e t=>⟨Bv a o hn e,P a o e⟩,qb.mono λa o hn e t=>⟨Bv a o hn e,P a o e⟩⟩⟩
  exact((hN _).mp h).elim (Nc _ (AQ _ 2)) λh=>h.elim (qz _) λh=>nS (h.symm.trans (show h'.get? (AK.heap.objs.size+2)=_ from i))
theorem At.forRev(x:At T J mg mb s0 B sc k A N2 Z s ρ ow OA)(hS:D0 Aj w T J mg mb s0 B fn C k n){tgt e:Expr}{m:M}{d:D}{items:List D}{Q:Ag->Ah->Prop}
  (h:MJ (Bu B fn fo sc) sc "reversed" e [m]=Y)(hd:ev C n ρ (CU ow) m=V d)(i:(Ly d λl=>CB (AS l) (V l.reverse))=V items)
  (q:∀v AK,BM T s AK->Rv Aj w T J (Dt N2 OA) tgt v items s AK->Q v AK):Ap (Aq Aj w) A (Bj e Z) Q E s:=by
 obtain⟨p,as,pos,he,y,h⟩:=Qn h;obtain⟨a,r,e1,U,h4⟩:=Qj h;obtain⟨l,hl,i⟩:=LY i;obtain⟨_,i⟩:=De i;rw[he,e1];apply AO (Pq h4)
 refine AX (Nh (b:=9) x.cx (by decide) y (by decide) ?_)
 rw[show Er pos (CV [a] Z)=[(Ak,Bj a Z)]by rw[Fa (J3 U)];rfl]
 refine callWith_type1 (x.eval @hS U hd λv AK W F=>?_)
 obtain⟨ad,I,X,hv,L,g,rs⟩:=F.inv' hl;have N:BM T AK {AK with heap:=AK.heap.push (aJ ad ((I.toArray.size:Int)-1))}:=.push (tk:=AK.toks)
 have P:(AK.heap.push (aJ ad ((I.toArray.size:Int)-1))).get? AK.heap.objs.size=V (aJ ad ((I.toArray.size:Int)-1)):=Ay _ rfl
 apply AO hv
 refine call_reversed_list ⟨_,g,rfl,X,rfl⟩ (q _ _ (W.trans N) ?_)
 apply CE (sI i)
 intro A' E' Q' Bd q';refine wpAny_pyIter_revIter ⟨_,P,rfl,rfl⟩ (q' _ _ (·=AK.heap.objs.size) .refl (λb hb=>hb▸⟨x.bs.free_at W _ (HX (AI _)),⟨_,P,rfl⟩⟩) λBs N' j hN=>?_)
 have Bv:=gF hN (λb o e=>Au (aJ ad ((I.toArray.size:Int)-1)) e) λa o e h=>absurd (AY e) (by apply AO (show a=_ from h);exact AN _)
 refine⟨_,PD.rev (Af:=AK.heap.objs.size) (l:=ad) (I:=I) (n:=X) j (Bn (AY g)) ((hN _).mpr (.inr (.inl rfl))) (λh=>AN _ ((x.ext W).bs.lt _ h)) (Bv _ _ L g),⟨⟨_,P,rfl,?_⟩,Au _ g,rs.mono λb o L e t=>⟨Bv b o L e,Au _ e⟩⟩⟩
 show Data.fields #[.ref ad,BX ((I.toArray.size:Int)-1)]=_;rw[AD,rs.length];simp
theorem At.forIter(x:At T J mg mb s0 B sc k A N2 Z s ρ ow OA)(hS:D0 Aj w T J mg mb s0 B fn C k n){tgt e:Expr}{j:Nat}{ms:List M}{O items:List D}{Q:Ag->Ah->Prop}
  (h:Rw (Bu B fn fo sc) sc tgt j ms e=Y)(hm:Gs (ev C n ρ (CU ow)) ms=V O)(i:Nl j O=V items)
  (q:∀v AK,BM T s AK->Rv Aj w T J (Dt N2 OA) tgt v items s AK->Q v AK):Ap (Aq Aj w) A (Bj e Z) Q E s:=by
 unfold Rw at h;unfold Nl at i;cases r:As j 2 with
 |true=>
  rw[r]at h i;exact x.forZip @hS (AH h).1 (AH h).2 hm i q
 |false=>
  rw[r]at h i;cases p:As j 4 with
  |true=>
   rw[p]at h;rw[AB p]at i;obtain⟨m,e1⟩:=gE (AH h).2;rw[e1]at h hm;obtain⟨d,hd,e2⟩:=Pn hm;rw[e2]at i;exact x.forRev @hS (AH h).1 hd i q
  |false=>
   rw[p]at h i;cases y:As j 3 with
   |true=>rw[AB y]at h;exact bF h
   |false=>rw[y]at i;exact Yk @hS x.cx h hm i λv AK W it=>q v AK W (.of (x.bs.free_at W) it)
variable {BD:An->Prop}
def GF(T:An->Prop)(J:Sg)(B:Nat->Av)(N2:An->Prop)(Z:DS)(OA:List (List An))(s:Ah)(Bv:Dq)(f:EW)(S:Ah):Prop:=match Bv with
 | .next A6 Dh=>f= .next/\∃Ck,Ek T J B N2 Z OA s S A6 Dh Ck
 | .ret d=>∃v,f= .ret v/\Rd J N2 S.heap v d/\Co T (λa=>D5 Z a\/a∈OA.flatten) s S
theorem EQ.widen(r:EQ T J B N2 Z s.heap ρ ow OA)(A:∀a,BD a->s.heap.get? a=Ao)(x:BM T s S):EQ T J B (λa=>N2 a\/BD a) Z S.heap ρ ow OA:=by
 have i:FU (Dt N2 OA) (Dt (λa=>N2 a\/BD a) OA) s.heap S.heap:=λa o M e t=>⟨λh=>by
  rcases h with(h|h)|h
  ·exact M (.inl h)
  ·exact nS ((A a h).symm.trans e)
  ·exact M (.inr h),x.keep2 a o e t⟩
 refine⟨λy d j P=>?_,r.own.mono i (λz z h=>h.ext x) (λb ⟨o,e,t⟩ _=>(x.keep2 b o e t).trans e.symm),r.nodup,λa p=>⟨λh=>?_,(r.apart a p).2⟩,r.sl.ext x⟩
 ·obtain⟨v,U,q⟩:=r.one y d j P;exact⟨v,U.ext x,q.mono i⟩
 ·rcases h with h|h
  ·exact(r.apart a p).1 h
  ·obtain⟨o,e,_⟩:=r.own.occ a p;exact nS ((A a h).symm.trans e)
theorem EQ.narrow(r:EQ T J B (λa=>N2 a\/BD a) Z s.heap ρ ow OA)(g:Fe T BD s S)(A:∀a,D5 Z a->¬BD a):EQ T J B N2 Z S.heap ρ ow OA:=by
 have i:FU (Dt (λa=>N2 a\/BD a) OA) (Dt N2 OA) s.heap S.heap:=λa o M e t=>⟨λh=>M (h.imp .inl id),g.keep2 a o (λq=>M (.inl (.inr q))) e t⟩
 have U:¬BD Z.locals:=A _ (.inl rfl);have p:∀n c,(n,c)∈Z.cells->¬BD c:=λn c hm=>A _ (.inr ⟨n,hm⟩)
 refine⟨λy d j P=>?_,r.own.mono i (λz z h=>h.gone g U p) (λb ⟨o,e,t⟩ F=>(g.keep2 b o (λq=>(r.apart b F).1 (.inr q)) e t).trans e.symm),r.nodup,λa C=>⟨λh=>(r.apart a C).1 (.inl h),(r.apart a C).2⟩,r.sl.gone g U p⟩
 obtain⟨v,E,L⟩:=r.one y d j P;exact⟨v,E.gone g U p,L.mono i⟩
theorem Fe.refl:Fe T BD s s:=⟨λz z z z e=>e,λz z z e z=>e,λz z e=>e,λz e=>e,rfl⟩
theorem gG{AK M S:Ah}(x:BM T s AK)(u:Co T (λa=>W a\/BD a) AK M)(g:Fe T BD M S)(c:∀a,BD a->s.heap.get? a=Ao):Co T W s S:=by
 have ne:∀b o,s.heap.get? b=V o->¬BD b:=λb o e q=>by exact nS ((c b q).symm.trans e)
 refine⟨λb o D m e=>?_,λb o m e t=>?_,λb C=>?_,λb t e=>g.tab b t (u.tab b t (x.tab b t e)),λi e=>g.gens i (u.gens i (x.gens i e)),g.os.trans (u.os.trans x.os)⟩
 ·exact g.keep b o D (ne b o e) (u.keep b o D (λq=>q.elim m (ne b o e)) (x.keep b o D e))
 ·exact g.keep2 b o (ne b o e) (u.keep2 b o (λq=>q.elim m (ne b o e)) (x.keep2 b o e t) t) t
 ·obtain⟨R,l,d⟩:=id C;obtain⟨o,e,t⟩:=u.occ b (C.ext x);exact⟨o,g.keep2 b o (ne b _ l) e t,t⟩
theorem Rx{t:List Nat}(h:J4 t ow=Y):∀y∈t,lk y ow=Ao:=λy A=>by
 have:=D9 h y A;cases e:lk y ow with
 |none=>rfl
 |some o=>rw[e]at this;exact bF this
theorem gH{f:D->List (Nat×D)->List (Nat×Ae)->Option Dq}{d:D}{r:List D}{Bv:Dq}(h:JD f (d::r) ρ ow=V Bv):FC (λo=>f d ρ ow=V o) λo=>match o with
  | .next A6 Dh=>JD f r A6 Dh=V Bv
  | .ret e=>Dq.ret e=Bv:=by
 obtain⟨o,e,h⟩:=Cn h;refine⟨o,e,?_⟩
 induction o with
 |next A6 Dh=>exact h
 |ret e=>exact sI h
theorem gI{g:List (Nat×D)->List (Nat×Ae)->Option Dq}{t:List Nat}{CZ:Bool}{d:D}{o:Dq}(h:JE g t CZ d ρ ow=V o):J4 t ow=Y/\FC (λA6=>L0 t CZ d (Dn t ρ)=V A6) λA6=>g A6 ow=V o:=by
 obtain⟨U,h⟩:=De h;exact⟨U,Cn h⟩
structure qD(T:An->Prop)(J:Sg)(mg mb:Av->Option Ag)(s0:Ah)(B:Nat->Av)(sc:List (Av×AC))(k:Nat)(A:A1)(N2 BD:An->Prop)(Z:DS)(OA:List (List An))(St:Nat->A9->Prop)(items:List D)
  (f:D->List (Nat×D)->List (Nat×Ae)->Option Dq)(Bv:Dq)(By:Ah)(m:Nat)(S:Ah)(i:Nat)(A6:List (Nat×D))(Dh:List (Nat×Ae))(Ck:List (List An)):Prop where
 num:m=items.length-i
 le:i<=items.length
 st:St i S.heap
 rest:JD f (items.drop i) A6 Dh=V Bv
 at':At T J mg mb s0 B sc k A (λa=>N2 a\/BD a) Z S A6 Dh Ck
 new:∀a∈Ck.flatten,a∈OA.flatten\/By.heap.get? a=Ao
 upd:Co T (λa=>(D5 Z a\/a∈OA.flatten)\/BD a) By S
theorem At.loopI(x:At T J mg mb s0 B sc k A N2 Z s ρ ow OA)(F0:EA B){tgt P:Expr}{pos:B9}{stmts:List Bx}{t:List Nat}{CZ:Bool}{items:List D}{Bv:Dq}
  {g:List (Nat×D)->List (Nat×Ae)->Option Dq}
  (Ce:∀(E':Ag->Ah->Prop) (Q':Ag->Ah->Prop),(∀v AK,BM T s AK->Rv Aj w T J (Dt N2 OA) tgt v items s AK->Q' v AK)->Ap (Aq Aj w) A (Bj P Z) Q' E' s)(F1:LF B sc tgt t CZ=Y)(F2:∀y∈t,FJ sc (B y)=Y)(hset:∀v,B1 P Z v=BU v)
  (Cf:∀(Js:An->Prop) (S:Ah) (A6:List (Nat×D)) (Dh:List (Nat×Ae)) (Ck:List (List An)) (F:Dq) (E':Ag->Ah->Prop),At T J mg mb s0 B sc k A Js Z S A6 Dh Ck->g A6 Dh=V F->
   Ap (Aq Aj w) A (C4 stmts Z) (GF T J B Js Z Ck S F) E' S)
  (Ev:JD (JE g t CZ) items ρ ow=V Bv):Ap (Aq Aj w) A (EB (.For tgt P stmts [] pos) Z) (GF T J B N2 Z OA s Bv) E s:=by
 refine wpAny_For ?_ hset
 refine Ce _ _ λv AK F3 it=>?_
 refine it A _ _ x.ha.handled λHd By BD F4 X mk=>?_
 have U:=F3.trans F4;obtain⟨St,E3,E4⟩:=mk A (λa=>Dt N2 OA a\/BD a\/By.heap.get? a=Ao) x.ha.handled (λa=>zx)
 have j:∀a,BD a->s.heap.get? a=Ao:=λa h=>(X a h).1
 have N:∀a,D5 Z a->¬BD a:=λa f q=>by
  obtain⟨o,e,_⟩:=x.rel.sl.frm_occ f;exact nS ((j a q).symm.trans e)
 have Cx:At T J mg mb s0 B sc k A (λa=>N2 a\/BD a) Z By ρ ow OA:=
  ⟨x.ha,x.ok,⟨.inl x.hm.loc,λn c h=>.inl (x.hm.cel n c h)⟩,x.bs.step U,x.rel.widen j U,λa h=>h.elim (λh=>(x.occ a h).ext U) λh=>(X a h).2,x.young⟩
 have F5:∀(S B4:Ah) (i:Nat) (A6:List (Nat×D)) (Dh:List (Nat×Ae)) (Ck:List (List An)),At T J mg mb s0 B sc k A (λa=>N2 a\/BD a) Z S A6 Dh Ck->(∀a∈Ck.flatten,a∈OA.flatten\/By.heap.get? a=Ao)->
   Co T (λa=>(D5 Z a\/a∈OA.flatten)\/BD a) By S->Fe T BD S B4->Ek T J B N2 Z OA s B4 A6 Dh Ck:=λS B4 i A6 Dh Ck ha hn hu hg=>
  ⟨ha.rel.narrow hg N,λa h=>(hn a h).imp id (x.bs.free_at U a),gG U hu hg j⟩
 refine PV (λm S=>∃i A6 Dh Ck,qD T J mg mb s0 B sc k A N2 BD Z OA St items _ Bv By m S i A6 Dh Ck) (λm S=>?_) items.length
  ⟨0,ρ,ow,OA,⟨rfl,Be _,E4,by rw[C7];exact Ev,Cx,λz h=>.inl h,.refl⟩⟩
 rintro⟨i,A6,Dh,Ck,L⟩
 refine AM (E3.next i S _ L.st L.le) (λr B4 hr=>?_) λz z e=>e
 induction r with
 |none=>
  obtain⟨E5,g⟩:=hr;have W:=L.rest;rw[E5,I1]at W
  apply CE (sI W)
  exact Bz ⟨rfl,Ck,F5 S B4 i A6 Dh Ck L.at' L.new L.upd g⟩
 |some v=>
  refine AM hr (λ_ M ⟨d,hd,u,F6,F7⟩=>?_) λz z e=>e
  have u':Co T (λa=>(D5 Z a\/a∈OA.flatten)\/BD a) By M:=L.upd.trans (u.mono λa h=>.inr h)
  have Bd:EQ T J B (λa=>N2 a\/BD a) Z M.heap A6 Dh Ck:=by
   have f:FU (Dt (λa=>N2 a\/BD a) Ck) (Dt (λa=>N2 a\/BD a) Ck) S.heap M.heap:=u.fits λa h=>.inl (.inr h)
   have h1:¬BD Z.locals:=N _ (.inl rfl);have h2:∀n c,(n,c)∈Z.cells->¬BD c:=λn c hm=>N _ (.inr ⟨n,hm⟩)
   have r:=L.at'.rel;exact⟨r.one.upd u (λa h=>.inl (.inr h)) h1 h2,r.own.mono f (λz z h=>h.upd u h1 h2) (λb ⟨o,e,t⟩ hb=>(u.keep2 b o (λq=>(r.apart b hb).1 (.inr q)) e t).trans e.symm),r.nodup,r.apart,r.sl.upd u h1 h2⟩
  have C:At T J mg mb s0 B sc k A (λa=>N2 a\/BD a) Z M A6 Dh Ck:=
   ⟨x.ha,x.ok,L.at'.hm,L.at'.bs.upd u λa h=>x.bs.free (j a h),Bd,λa h=>u.occ a (L.at'.occ a h),L.at'.young⟩
  have Ix:∀a,Dt (λa=>N2 a\/BD a) Ck a->(Dt N2 OA a\/BD a\/By.heap.get? a=Ao):=λa h=>by
   rcases h with(h|h)|h
   ·exact .inl (.inl h)
   ·exact .inr (.inl h)
   ·exact(L.new a h).elim (λh=>.inl (.inr h)) λh=>.inr (.inr h)
  have Bs:FU (λa=>Dt N2 OA a\/BD a\/By.heap.get? a=Ao) (Dt (λa=>N2 a\/BD a) Ck) M.heap M.heap:=λa o hn e z=>⟨λh=>hn (Ix a h),e⟩
  have rv:Rd J (Dt (λa=>N2 a\/BD a) Ck) M.heap v d:=by
   rcases F7 with h|⟨a,I,ds',nn,e1,e2,h1,h2,h3⟩
   ·exact h.mono Bs
   ·apply Dz e1 e2
    refine .tup (λh=>?_) h2 (h3.mono Bs)
    obtain⟨o,e,_⟩:=L.at'.occN a h;exact nS (h1.symm.trans e)
  have Fn:=Ro hd;have W:=L.rest;rw[Yp hd]at W;obtain⟨F,CH,W⟩:=gH W;obtain⟨Gl,Go,hb,hg⟩:=gI CH;have C:=C.less (A6:=Dn t A6) λz z h=>S7 h
  refine C.assign F0 (λy hy=>⟨F2 y hy,Rx Gl y hy⟩) rv F1 hb λGt DD=>?_
  refine AM (Cf _ Gt Go Dh Ck F _ (C.post DD) hg) (λf s6 hf=>?_) λz z e=>e
  have Q:∀a,(D5 Z a\/a∈Ck.flatten)->((D5 Z a\/a∈OA.flatten)\/BD a)\/By.heap.get? a=Ao:=λa h=>by
   rcases h with h|h
   ·exact .inl (.inl (.inl h))
   ·exact(L.new a h).elim (λh=>.inl (.inl (.inr h))) .inr
  induction F with
  |next Bt GI=>
   obtain⟨rfl,G0,p6⟩:=hf;have p:=DD.trans C.bs C.rel p6;refine⟨items.length-(i+1),?_,i+1,Bt,GI,G0,⟨rfl,?_,E3.frame (i+1) M s6 _ F6 p.upd λa h=>?_,W,C.post p,λa h=>?_,u'.seq p.upd Q⟩⟩
   ·apply AO L.num;exact Nat.sub_succ_lt_self _ _ Fn
   ·exact Fn
   ·refine⟨Ix a (h.elim (λh=>.inl (C.hm.frm h)) .inr),λq=>?_⟩
    rcases h with h|h
    ·exact N a h q
    ·exact(Bd.apart a h).1 (.inr q)
   ·rcases p.new a h with h|h
    ·exact L.new a h
    ·exact .inr (u'.free_back Cx.bs.tabs_ok (λa h=>h.elim (Cx.rel.w_occ a) λh=>(X a h).2) h)
  |ret dr=>
   apply CE (show Dq.ret dr=Bv from W)
   obtain⟨vr,hv,hr,ur⟩:=hf;subst hv;refine⟨vr,rfl,hr.mono λa o hn e z=>⟨λh=>hn (.inl h),e⟩,?_⟩
   have all:=(u'.seq DD.upd Q).seq ur Q;exact gG U all .refl j
theorem At.loop(x:At T J mg mb s0 B sc k A N2 Z s ρ ow OA)(hS:D0 Aj w T J mg mb s0 B fn C k n)(N:EA B){tgt j:Expr}{pos:B9}{stmts:List Bx}{t:List Nat}{CZ:Bool}{Q:Nat}{ms:List M}{O items:List D}{Bv:Dq}
  {g:List (Nat×D)->List (Nat×Ae)->Option Dq}
  (r:Rw (Bu B fn fo sc) sc tgt Q ms j=Y)(L:LF B sc tgt t CZ=Y)(P:∀y∈t,FJ sc (B y)=Y)(hset:∀v,B1 j Z v=BU v)(hm:Gs (ev C n ρ (CU ow)) ms=V O)(W:Nl Q O=V items)
  (i:∀(Js:An->Prop) (S:Ah) (A6:List (Nat×D)) (Dh:List (Nat×Ae)) (Ck:List (List An)) (p:Dq) (U:Ag->Ah->Prop),At T J mg mb s0 B sc k A Js Z S A6 Dh Ck->g A6 Dh=V p->
   Ap (Aq Aj w) A (C4 stmts Z) (GF T J B Js Z Ck S p) U S)
  (F:JD (JE g t CZ) items ρ ow=V Bv):Ap (Aq Aj w) A (EB (.For tgt j stmts [] pos) Z) (GF T J B N2 Z OA s Bv) E s:=by
 exact x.loopI N (λU X q=>x.forIter @hS r hm W q) L P hset i F
theorem GT.app{h:A9}{ow:List (Nat×Ae)}{OA:List (List An)}(r:GT J B N Z h ow OA){ow1:List (Nat×Ae)}{OA1:List (List An)}(x:GT J B N Z h ow1 OA1):GT J B N Z h (ow1++ow) (OA1++OA):=by
 induction x with
 |nil=>exact r
 |cons i C _ ih=>exact .cons i C ih
theorem GT.others{N':An->Prop}{h h':A9}{t:List Nat}(f:FU N N' h h')(L:∀y v,y∉t->DH Z h (B y) v->DH Z h' (B y) v){ow:List (Nat×Ae)}{OA:List (List An)}(E:∀y∈t,lk y ow=Ao)(k:∀b,Da h b->b∈OA.flatten->h'.get? b=h.get? b)
  (x:GT J B N Z h ow OA):GT J B N' Z h' ow OA:=by
 induction x with
 |nil=>exact .nil
 | @cons y o as v r P M C _ ih=>
  have j:y∉t:=λA=>by
   have q:=E y A;rw[Oa,if_pos rfl]at q;exact nS q.symm
  refine .cons (L _ _ j M) (C.mono f λb F hm=>k b F (S5 hm)) (ih (λi p=>?_) λb F hm=>k b F (Qo hm))
  have q:=E i p
  rwa [Oa,if_neg λe:i=y=>j (e▸p)]at q
theorem At.adds(x:At T J mg mb s0 B sc k A N2 Z s ρ ow OA){t:List Nat}{ow1:List (Nat×Ae)}{OA1:List (List An)}(W:∀y∈t,lk y ow=Ao)(u:Co T (D5 Z) s S)(sl:FV Z S.heap)(L:∀y v,y∉t->DH Z s.heap (B y) v->DH Z S.heap (B y) v)
  (p:∀b∈OA1.flatten,s.heap.get? b=Ao)(X:OA1.flatten.Nodup)(C:GT J B (Dt N2 (OA1++OA)) Z S.heap ow1 OA1):Ek T J B N2 Z OA s S (Dn t ρ) (ow1++ow) (OA1++OA):=by
 have r:(OA1++OA).flatten=OA1.flatten++OA.flatten:=List.flatten_append;have E:∀b∈OA1.flatten,¬Dt N2 OA b:=λb F h=>by
  obtain⟨o,e,_⟩:=x.occN b h;exact nS ((p b F).symm.trans e)
 have N:FU (Dt N2 OA) (Dt N2 (OA1++OA)) s.heap S.heap:=λb o M e t=>⟨λh=>by
  rcases h with h|h
  ·exact M (.inl h)
  ·rw[r,ED]at h;exact h.elim (λh=>nS ((p b h).symm.trans e)) λh=>M (.inr h),u.keep2 b o (λq=>M (.inl (x.hm.frm q))) e t⟩
 refine⟨⟨λi d j P=>?_,.app (x.rel.own.others N L W λb hO F=>by obtain⟨o,e,t⟩:=hO;exact(u.keep2 b o (λq=>(x.rel.apart b F).1 (x.hm.frm q)) e t).trans e.symm) C,?_,λb F=>?_,sl⟩,λb F=>?_,u.mono λb e=>.inl e⟩
 ·obtain⟨Q,U⟩:=S0 j;obtain⟨v,h1,h3⟩:=x.rel.one i d U P;exact⟨v,L _ _ Q h1,h3.mono N⟩
 ·apply AO r
  exact List.nodup_append.mpr ⟨X,x.rel.nodup,λa ha b F e=>E a ha (.inr (e▸F))⟩
 ·rw[r,ED]at F;refine F.elim (λF=>⟨λh=>E b F (.inl h),λh=>?_⟩) (x.rel.apart b)
  obtain⟨ps,e,_⟩:=x.bs.tabs_ok b h;exact nS ((p b F).symm.trans e)
 ·rw[r,ED]at F;exact F.elim (λh=>.inr (p b h)) .inl
theorem YI{as:List An}:[as].flatten=as:=B7 as
theorem At.add(x:At T J mg mb s0 B sc k A N2 Z s ρ ow OA)(N:EA B){y:Nat}{a:An}{as:List An}{v:Ag}{o:Ae}(j:lk y ow=Ao)(fr:D5 Z a)(st:N6 T Z s S (B y) a v)(i:∀b∈as,s.heap.get? b=Ao)(p:as.Nodup)
  (C:Ju J (Dt N2 (as::OA)) S.heap v o as):Ek T J B N2 Z OA s S (Dn [y] ρ) ((y,o)::ow) (as::OA):=
 x.adds (ow1:=[(y,o)]) (OA1:=[as]) (λz h=>List.mem_singleton.mp h▸j) (st.upd.mono λb e=>e▸fr) st.slots (λz v h=>st.others _ v λe=>h (List.mem_singleton.mpr (N.inj _ _ e))) (by rw[YI];exact i) (by apply AO YI;exact p) (.cons st.var C .nil)
theorem qE{a b c:An}(U:a≠b)(G:a≠c)(z:b≠c):[a,b,c].Nodup:=by
 simp only[Pd,Fk,Fh,or_false,not_or,not_false_eq_true,JY,and_true];exact⟨⟨U,G⟩,z⟩
theorem qF{c cn:An}{mN:Av->Option Ag}{pos:B9}{args:List (Bool×JZ Ag)}{Q:Ag->Ah->Prop}
  (b:(args.any (λx=>x.fst)||([]:List (Option Av×JZ Ag)).any λx=>x.fst.isNone)=Ak)
  (h:Ap (Aq Aj w) A (O4 (.ref c) Y args []) (λas AK=>Xf AK.heap c cn mN/\Ap (Aq Aj w) A (DP (.ref c) as.pos as.kw) Q E AK) E s):
  Ap (Aq Aj w) A (aQ pos (.ref c) [] args []) Q E s:=by
 unfold aQ;refine Ai (AZ (AM h (λas AK e=>?_) λz z x=>x))
 obtain⟨X,i⟩:=e;obtain⟨j,g,d,t,os⟩:=AK;obtain⟨B,q,bs,sn,Ix,D,P,m,l,k2,W,T,f⟩:=X.obj;have a:=tc_lookup;have H:(⟨j,g,d,t,os⟩:Ah).TypeIs (.ref c) "type":=⟨_,f,rfl⟩;refine Ai (AU ?_)
 show Ap _ _ (keeperOf (.ref c) >>= _) _ _ _;unfold keeperOf specialOf
 repeat (any_goals(first|assumption|with_reducible refine Sk f ?_|with_reducible refine wpAny_load' f ?_|wp_step))
 rw[if_pos (by rfl),b]
 show Ap _ _ (DP (.ref c) as.pos as.kw >>= λr=>do R8 [r] point;BU r) _ _ _
 exact Ai (AM i (λr S k=>Ai (AZ (wpAny_point (Ar k)))) λz z x=>x)
def gJ(Aj:Bh)(w:Ca)(T:An->Prop)(J:Sg)(mg mb:Av->Option Ag)(s0:Ah)(k:Nat):Prop:=
 ∀(A:A1) (E:Ag->Ah->Prop) (B:Nat->Av) (Z:DS) (sc:List (Av×AC)) (N2:An->Prop) (s:Ah) (ρ:List (Nat×D)) (ow:List (Nat×Ae)) (OA:List (List An)) (tgt:Expr) (b H pos:B9) (e:Expr) (stmts:List Bx)
  (t:List Nat) (CZ:Bool) (str:List Nat) (Bv:Dq) (g:List (Nat×D)->List (Nat×Ae)->Option Dq),At T J mg mb s0 B sc k A N2 Z s ρ ow OA->EA B->sc.lookup ("_iter_escaped_chars":Av)=V .globalImplicit->(∀v p,e≠.Starred v p)->
  (∀(a:Ag->Ah->Prop) (Q:Ag->Ah->Prop),(∀x tk S,BM T s S->x.cps.toList=str->Q (.str x tk) S)->Ap (Aq Aj w) A (Bj e Z) Q a s)->IP str=Y->LF B sc tgt t CZ=Y->(∀y∈t,FJ sc (B y)=Y)->
  (∀(Js:An->Prop) (S:Ah) (A6:List (Nat×D)) (Dh:List (Nat×Ae)) (Ck:List (List An)) (G:Dq) (a:Ag->Ah->Prop),At T J mg mb s0 B sc k A Js Z S A6 Dh Ck->g A6 Dh=V G->
   Ap (Aq Aj w) A (C4 stmts Z) (GF T J B Js Z Ck S G) a S)->
  JD (JE g t CZ) (La (Jt Ak 0 str)) ρ ow=V Bv->Ap (Aq Aj w) A (EB (.For tgt (.Call (.Name ("_iter_escaped_chars":Av) b) [e] [] H) stmts [] pos) Z) (GF T J B N2 Z OA s Bv) E s
structure L6(Aj:Bh)(w:Ca)(T:An->Prop)(J:Sg)(mg mb:Av->Option Ag)(s0:Ah)(k:Nat):Prop where
 gen:gJ Aj w T J mg mb s0 k
 sig:J.prog=Aj/\J.w=w
 sysm:∃o,s0.heap.get? EY=V o
 cls:∃cn mN,mg "Headers"=V (.ref (J.v 999).toNat)/\∀s,BM T s0 s->Xf s.heap (J.v 999).toNat cn mN
 new:∀(A:A1) (E:Ag->Ah->Prop) (s:Ah) (L:An) (Q:Ag->Ah->Prop),Eo k A->Bs T mg mb s0 s->s.heap.PlainList L #[]->¬T L->
  (∀x dx S,BM T s S->s.heap.get? x=Ao->s.heap.get? dx=Ao->GS J S.heap x dx L->Q (.ref x) S)->Ap (Aq Aj w) A (DP (.ref (J.v 999).toNat) [.ref L]) Q E s
 add:∃f,N3 Aj w T J s0 "add_header" f/\∀(A:A1) (E:Ag->Ah->Prop) (s:Ah) (x dx b:An) (I:List Ag) (kx vx:Av) (kt vt:Ez) (Q:Ag->Ah->Prop),Eo k A->Bs T mg mb s0 s->GS J s.heap x dx b->
  s.heap.PlainList b I.toArray->¬T b->I.length<=lim->H7 kx.cps.toList=Y->H7 vx.cps.toList=Y->
  (∀t ks vs' kt' vt' n S,Co T (·=b) s S->s.heap.get? t=Ao->S.heap.get? t=V (HA #[.str ks kt',.str vs' vt'] n)->ks.cps=kx.cps->vs'.cps=vx.cps->S.heap.PlainList b (I++[Cy t]).toArray->Q .none S)->
  Ap (Aq Aj w) A (DP (.ref f) [.ref x,.str kx kt,.str vx vt]) Q E s
theorem At.hnew(x:At T J mg mb s0 B sc k A N2 Z s ρ ow OA)(hH:L6 Aj w T J mg mb s0 k)(N:EA B){y:Nat}{np fp lp cp pos:B9}{id:Av}{Q:EW->Ah->Prop}(P:(id==("Headers":Av))=Y)(i:(sc.lookup id==V .globalImplicit)=Y)
  (hf:FJ sc (B y)=Y)(hy:lk y ow=Ao)
  (q:∀S Ck,Ek T J B N2 Z OA s S (Dn [y] ρ) ((y,.hdr [])::ow) Ck->Q .next S):Ap (Aq Aj w) A (EB (.Assign [.Name (B y) np] (.Call (.Name id fp) [.List [] lp] [] cp) pos) Z) Q E s:=by
 have P:=AA P;subst P;obtain⟨cn,mN,j,C⟩:=hH.cls;have hk:Z.kindOf ("Headers":Av)=V .globalImplicit:=by rw[x.ok.kindOf,<-AA P];exact AA i
 rw[AA P];refine A2 ?_ rfl
 refine AX (Bl x.ok.kind hk (CJ (x.ok.glob▸x.bs.ng) j ?_) (by decide))
 refine qF (cn:=cn) (mN:=mN) rfl ?_
 refine Ng (λv p h=>by exact nomatch h) ?_
 show Ap _ _ (Ny [(Ak,Bj (.List [] lp) Z)]) _ _ _;refine Ax ?_
 refine O0 (AF ?_)
 refine Bi ?_ (Be _)
 refine AF ?_
 have W:BM T s {s with heap:=s.heap.push {cls:=.type "list",data:=.seq #[]}}:=.push (tk:=s.toks)
 have U:({s with heap:=s.heap.push {cls:=.type "list",data:=.seq #[]}}:Ah).heap.PlainList s.heap.objs.size #[]:=⟨0,Ay _ rfl⟩
 have fL:s.heap.get? s.heap.objs.size=Ao:=HX (AI _);have X:¬T s.heap.objs.size:=λh=>AN _ (x.bs.lt _ h)
 show _/\_
 generalize ({s with heap:=s.heap.push {cls:=.type "list",data:=.seq #[]}}:Ah)=AK at W U ⊢
 refine⟨C _ (x.bs.ext.trans W),?_⟩
 refine hH.new A E _ _ _ x.ha (x.bs.step W) U X λhx dx By L f1 f2 Bd=>?_
 have xx:BM T s By:=W.trans L;obtain⟨a,st⟩:=Oc x.ok hf;refine Pw x.ok (x.rel.sl.ext xx) xx st (MK x.bs x.rel.sl st.frm) λB4 u Bs=>?_
 have r:∀{b},s.heap.get? b=Ao->b≠a:=λh e=>by
  obtain⟨o,e',_⟩:=x.rel.sl.frm_occ st.frm;exact nS (h.symm.trans (e▸e'))
 have n1:=x.bs.free_at W hx f1;have n2:=x.bs.free_at W dx f2;obtain⟨m,hl⟩:=U;obtain⟨o,od,h1,h2,M⟩:=Bd.it;refine q B4 _ (x.add N hy st.frm Bs (λb F=>?_) (qE M.apart.symm (λe=>nS (f1.symm.trans (e▸hl))) (λe=>nS (f2.symm.trans (e▸hl)))) (.hdr (u.keep2 _ _ (r n1) h1 M.tab.1) (u.keep2 _ _ (r n2) h2 M.tab.2) M ⟨m,u.keep2 _ _ (r fL) (L.keep2 _ _ hl rfl) rfl⟩ .nil))
 rcases jC F with e|F
 ·exact e▸n1
 ·rcases jC F with e|F
  ·exact e▸n2
  ·exact List.mem_singleton.mp F▸fL
theorem Na.unique{c:An}{o r j:Fo}{x dx N b b':An}{h:A9}(e:h.get? dx=V r)(y:h.get? N=V j)(a:Na c o r x dx b)(A:Na c o j x N b'):dx=N/\b=b':=by
 have q:=sI (a.dict.symm.trans A.dict);rw[<-q]at y;have e2:=sI (e.symm.trans y);obtain⟨es,ep,U,_,_,E⟩:=a.names;obtain⟨F,L,i,_,_,p⟩:=A.names;rw[<-e2,U]at i
 injection i with i _
 have C:=E "_headers";rw[i,p "_headers",if_pos rfl,if_pos rfl]at C;exact⟨q,LD (sI C.symm)⟩
theorem Ry{e1 e2:Expr}{u C:M}{p:B9}(U:Bu B fn fo sc e1 u=Y)(G:Bu B fn fo sc e2 C=Y):Er p (CV [e1,e2] Z)=[(Ak,Bj e1 Z),(Ak,Bj e2 Z)]:=by
 rw[Fa (J3 U),Fa (J3 G)];rfl
theorem qG{h:A9}{c:An}{o d:Fo}{x dx b:An}{I:Array Ag}(E:h.get? x=V o)(P:h.get? dx=V d)(C:Na c o d x dx b)(hp:h.PlainList b I):x≠b/\dx≠b:=by
 obtain⟨m,e⟩:=hp;refine⟨λq=>?_,λq=>?_⟩
 ·have a:=sI ((q▸E).symm.trans e);exact nomatch (congrArg D1 a).symm.trans C.cls
 ·have a:=sI ((q▸P).symm.trans e);exact absurd ((congrArg D1 a).symm.trans C.dcls) (by simp)
inductive Od(lo:An)(h:A9)(I:List Ag):Prop
 |mk (bs:List An) (e:I=bs.map Cy) (n:bs.Nodup) (f:∀b∈bs,lo<=b/\h.PlainList b #[])
theorem YJ(lo:An):Pt (Od lo) λa=>a<lo:=by
 rintro h h' I k ⟨bs,e,n,f⟩
 exact⟨bs,e,n,λb F=>⟨(f b F).1,by obtain⟨m,g⟩:=(f b F).2;exact⟨m,k b _ (Nat.not_lt.mpr (f b F).1) g rfl⟩⟩⟩
theorem Od.push{lo b:An}{h h':A9}{I:List Ag}(x:Od lo h I)(F:lo<=b)(j:∀m,¬h.PlainList b m)(hp:h'.PlainList b #[])(k:∀c,lo<=c->h.PlainList c #[]->h'.PlainList c #[]):Od lo h' (I++[.ref b]):=by
 obtain⟨r,e,p,i⟩:=x;refine⟨r++[b],by apply Dz e DR;rfl,List.nodup_append.mpr ⟨p,List.nodup_cons.mpr ⟨λh=>(nomatch h),.nil⟩,λc E d hd q=>?_⟩,λc E=>?_⟩
 ·rw[List.mem_singleton]at hd;exact j _ (hd▸q▸(i c E).2)
 ·rcases List.mem_append.mp E with E|E
  ·exact⟨(i c E).1,k c (i c E).1 (i c E).2⟩
  ·apply AO (List.mem_singleton.mp E);exact⟨F,hp⟩
theorem qH{d:D}{A6:List (Nat×D)}(h:ev C n A6 Bt (.lst [])=V d):d= .lst []:=by
 induction n with
 |zero=>exact nS h
 |succ n=>exact(sI h).symm
theorem qI{lp pos:B9}{gens:List A7}{scope:Scope}{L lo:An}{W:An->Prop}
  (p:W L)(H:¬T L)(z:L≠Z.locals)(D:∀n c,(n,c)∈Z.cells->c≠L)(x:FC (λa=>W a) λa=>lo=a+1)(hL:L<lo){y:Nat}(hg:gens[y+1]?=Ao):
  Yo (Od lo) Aj w A T J mg mb s0 B C n (.List [] lp) (.lst []) gens scope pos Z Bt L W [] y:=by
 intro N N2 A6 s I dn b1 E Q l r v X f bs rel sl occ U F G q;rw[hg];dsimp only;obtain⟨d,hd,M⟩:=M6 X;rw[qH hd]at M;rw[<-M]at q f;refine O0 (AF (Bi ?_ (Be _)))
 have i:BM T s {s with heap:=s.heap.push {cls:=.type "list",data:=.seq ([]:List Ag).toArray}}:=.push (tk:=s.toks)
 have hnew:({s with heap:=s.heap.push {cls:=.type "list",data:=.seq ([]:List Ag).toArray}}:Ah).heap.get? s.heap.objs.size=V (Gf #[] 0):=Ay _ rfl
 generalize ({s with heap:=s.heap.push {cls:=.type "list",data:=.seq ([]:List Ag).toArray}}:Ah)=AK at i hnew
 have o:=IT (W:=λK=>False) i.upd U λh=>h
 obtain⟨a,wa,x⟩:=x;have l:¬N s.heap.objs.size:=Nc occ;have hge:lo<=s.heap.objs.size:=by apply AO x;exact(occ a (v a (r a wa))).lt
 refine Hg (hsz:=?_) o λh' P t=>?_
 rotate_left
 ·rw[AD,F.length];rw[Bm]at f;exact Am (Am (AQ _ _) f) (by decide)
 ·have u:Co T (·=L) AK {AK with heap:=h'}:=.of_but (tk:=AK.toks) t (by obtain⟨m,e⟩:=P;exact⟨_,e,rfl⟩) H (.lst o)
  have j:=u.fits (N:=N) λa e=>e▸v _ (r _ p)
  have Bd:∀b,lo<=b->b≠L:=λb h e=>absurd hL (Nat.not_lt.mpr (e▸h))
  have keep:∀c,lo<=c->AK.heap.PlainList c #[]->h'.PlainList c #[]:=λc hc R=>by obtain⟨m,g⟩:=R;exact⟨m,(t.2 c (Bd c hc)).trans g⟩
  refine q _ (i.upd.trans (u.mono λa e=>e▸p)) ⟨I++[.ref s.heap.objs.size],by simpa using P,((F.mono i.fits).append (.cons (.lst (n:=0) (I:=[]) l hnew .nil) .nil)).mono j,
   G.push hge (λm R=>by obtain⟨k,h⟩:=R;exact AN _ (AY h)) (keep _ hge ⟨0,hnew⟩) λc hc R=>by obtain⟨m,g⟩:=R;exact keep c hc ⟨m,i.keep2 _ _ g rfl⟩⟩ ?_ ?_
  ·exact(sl.upd (W:=λK=>False) i.upd (λh=>h) λK K K h=>h).upd u (λe=>z e.symm) λn c hm e=>D n c hm e
  ·exact(rel.ext i).upd u (λa e=>e▸r _ p) v (λe=>z e.symm) λn c hm e=>D n c hm e
theorem gK(hT:HZ Aj w T J mg mb s0 B fn C k n)(p:EA B)(ha:Eo k A){lp:B9}{scope:Scope}{pos:B9}{tg i:Expr}{f:List Expr}{gs:List A7}{t:List Nat}{CZ:Bool}{U:List M}:
  Ys Aj w A T J mg mb s0 B fn C n fo Od (.List [] lp) (.lst []) scope pos tg i f gs t CZ U []:=by
 intro Z sc L W N N2 BD St it items ρ Bt s Bv R ok Cx r j H l d u h1 h2 h3 h4 h5 h6 h7 h8 h9 v P D z E F G Q X Bd Bs m y q;have Ce:gs=[]:=by induction gs with|nil=>rfl|cons _ _=>exact bF h3
 apply AO Ce
 have c:([⟨tg,i,f,0⟩]:List A7)[0+1]?=Ao:=rfl;obtain⟨wa,Cf,y⟩:=y;exact Yq (Acc:=Od s.heap.objs.size) @hT p ha ok r j l d u [] [] tg i f t CZ U 0 (qI j H l d ⟨wa,Cf,y⟩ (m L (.inl j)) c) rfl (λg hg=>nS (c.symm.trans hg)) h1 h2 h4 N N2 BD St it items ρ s 0 [] [] Bv R
  h5 (λx hx=>h6 x (Dv _ hx)) h7 h8 h9 v P D z (Be _) (by rw[C7];exact E) (by rw[G1];exact F) G Q X Bd Bs .nil
  (λh h' I k a=>YJ _ h h' I (λb o nb e t=>k b o (λq=>nb (m b q)) e t) a) ⟨[],rfl,.nil,λK h=>nomatch h⟩ q
theorem qJ{h:A9}{b:An}{d:D}(g:h.PlainList b #[])(x:Rd J N h (.ref b) d)(j:gx d=Y):d= .lst []:=by
 induction d using Yf with
 |lst O=>
  obtain⟨a,I,m,e,_,c,p⟩:=x.inv;obtain⟨F,g⟩:=g;rw[<-LD e]at c;have q:=congrArg Ml (sI (g.symm.trans c))
  injection q with q _
  have e2:I=[]:=(congrArg Ic q).symm;rw[e2]at p
  induction O with
  |nil=>rfl
  |cons d O=>
   obtain⟨v,ws,X,_,_⟩:=p.inv;exact nomatch X
 |_=>exact bF j
theorem qK{h:A9}{I:List Ag}{Bv:List D}(r:BV J N h I Bv):∀bs:List An,I=bs.map Cy->(∀b∈bs,h.PlainList b #[])->S2 Bv=Y->Bv=(bs.map λz=>([]:List D)).map .lst:=
 r.ind (P:=λI Bv=>∀bs:List An,I=bs.map Cy->(∀b∈bs,h.PlainList b #[])->S2 Bv=Y->Bv=(bs.map λz=>([]:List D)).map .lst)
  (λbs e z z=>by induction bs with
   |nil=>rfl
   |cons _ _=>exact nomatch e)
  λv d I O x z ih bs e F j=>by
   induction bs with
   |nil=>exact nomatch e
   |cons b bs=>
    injection e with e1 e2
    obtain⟨U,G⟩:=AH j
    apply Dz (qJ (F b (.head _)) (e1▸x) U) (ih bs e2 (λc E=>F c (.tail _ E)) G)
    rfl
structure gL(T:An->Prop)(N:An->Prop)(s S:Ah)(L:An)(bs:List An):Prop where
 new:∀b∈L::bs,s.heap.get? b=Ao
 nodup:(L::bs).Nodup
 list:S.heap.PlainList L (bs.map Cy).toArray
 items:∀b∈bs,S.heap.PlainList b #[]
theorem qL(hS:D0 Aj w T J mg mb s0 B fn C k n)(hT:HZ Aj w T J mg mb s0 B fn C k n)(t:EA B)(cx:Cx T J mg mb s0 B k A Z sc ρ Bt N N2 s)
  {x:Av}{p pos lp vp:B9}{gens:List A7}{scope:Scope}{c:Cl}{Bv:List D}{a:An}{Q:EW->Ah->Prop}(CH:Bu B fn (fo+1) sc (.ListComp (.List [] lp) gens scope vp) (.comp (.lst []) [c])=Y)(X:ev C (n+1) ρ Bt (.comp (.lst []) [c])=V (.lst Bv))(Bd:S2 Bv=Y)(st:Nd Z x a)(ht:¬T a)(DD:N a)
  (q:∀L bs S,Bv=(bs.map λK=>([]:List D)).map .lst->N6 T Z s S x a (.ref L)->gL T N s S L bs->Q .next S):Ap (Aq Aj w) A (EB (.Assign [.Name x p] (.ListComp (.List [] lp) gens scope vp) pos) Z) Q E s:=by
 have H:∀{b},s.heap.get? b=Ao->¬b=a:=λh e=>by
  obtain⟨o,e',_⟩:=cx.occ a DD;exact nS (h.symm.trans (e▸e'))
 have Bs:∀(AK:Ah) (L lo:An) (I:List Ag) (G:List D) (N':An->Prop) (Q':Unit->Ah->Prop),D.lst Bv= .lst G->BM T s AK->(∀b,lo<=b->s.heap.get? b=Ao)->s.heap.get? L=Ao->L<lo->Od lo AK.heap I->AK.heap.PlainList L I.toArray->BV J N' AK.heap I G->
   (∀l S,Bv=(l.map λK=>([]:List D)).map .lst->(∀b∈l,lo<=b)->Co T (·=a) AK S->N6 T Z s S x a (.ref L)->gL T N s S L l->Q' () S)->Ap (Aq Aj w) A (D6 Z x (.ref L)) Q' E AK:=by
  intro AK L lo I G N' Q' eo W i hL j f hp hr q';obtain⟨l,e,Ev,F⟩:=f;rw[<-D.lst.inj eo]at hr;rw[e]at hp;refine Pw cx.ok (cx.rel.sl.ext W) W st ht λS u d=>?_
  refine q' l S (qK hr l e (λb h=>(F b h).2) Bd) (λb h=>(F b h).1) u d ⟨λb h=>?_,?_,IT u hp (H hL),λb h=>IT u (F b h).2 (H (i b (F b h).1))⟩
  ·rcases jC h with h|h
   ·exact h▸hL
   ·exact i b (F b h).1
  ·exact List.nodup_cons.mpr ⟨λh=>absurd j (Nat.not_lt.mpr (F L h).1),Ev⟩
 obtain⟨cl,r,U,co⟩:=Yr (show XY (Bu B fn fo) B sc (.lst []) [c] (.List [] lp) gens scope=Y from(AH CH).2);rw[U]at X;have M:Kc (.ListComp (.List [] lp) gens scope vp) (V (.Name x p)) pos.line Z=BU (Z.blockKind==.function&&Z.kindOf x==V .local&&p.line==(HP (.List [] lp) gens scope vp).pos.line
   && !(scope.names.any λ(n,k)=>n==x&&(k==.local||k==.cell))):=rfl
 generalize (Z.blockKind==.function&&Z.kindOf x==V .local&&p.line==(HP (.List [] lp) gens scope vp).pos.line
   && !(scope.names.any λ(n,k)=>n==x&&(k==.local||k==.cell)))=b at M
 have hr:r=[]:=by
  injection U with _ U
  exact U.symm
 rw[hr]at X co
 induction b with
 |false=>
  refine A2 ?_ M
  rw[Ms,co.sync];exact Yt (Acc:=Od) @hS @hT t cx co YJ (λK K K K K K K K K K K=>gK @hT t cx.ha) X (λK L I G AK lo i j f hd W U h2 h3 h4 h5=>
   Bs AK L lo I _ _ _ hd W i U j f h3 h4 λl S ho K K d hn=>q L l S ho d hn) λu hu=>nomatch hu
 |true=>
  rw[Ou _ _ _ _ M];refine Ai (AU (Ai ?_))
  rw[MC,co.sync];refine Ai (AM (Yt (Acc:=Od) (use:=V (Jd (.Name x p) Z)) (Q:=λK S=>Q .next S) @hS @hT t cx co YJ (λK K K K K K K K K K K=>gK @hT t cx.ha) X (λhu=>nomatch hu) λu hu L I G AK Cl m lo i j Ce f hd W U h2 h3 h4 h5 h6 Cf h7 h8=>?_)
   (λK S hq=>Ar (Ar hq)) λK K e=>e)
  apply CE (sI hu)
  refine Ai (AU (Et ?_))
  refine Bs AK L lo I _ _ _ hd W i U j f h3 h4 λl S ho E3 u d hn=>⟨m,u.ns Cf (H h7),λh' E4=>?_⟩
  have g:Fe T (·=Cl) S {S with heap:=h'}:=Fe.of_but E4 h8 (.ns (u.ns Cf (H h7)))
  have z:∀{b},Da s.heap b->¬b=Cl:=λhO e=>by obtain⟨o,e',_⟩:=hO;exact nS (h7.symm.trans (e▸e'))
  have P:¬Z.locals=Cl:=by
   obtain⟨m',E5⟩:=cx.rel.sl.ns;exact z (Ql E5)
  have R:∀n c,(n,c)∈Z.cells->¬c=Cl:=λn c hm=>by
   obtain⟨v,hv⟩:=cx.rel.sl.cells n c hm;exact z (Rk hv)
  exact q L l _ ho ⟨d.upd.gone_new g h7,d.slots.gone g P R,d.var.gone g P R,λy u' hy h=>(d.others y u' hy h).gone g P R⟩ ⟨hn.new,hn.nodup,VJ g hn.list h6,λb F=>VJ g (hn.items b F) λe=>absurd Ce (Nat.not_lt.mpr (e▸E3 b F))⟩
theorem qM{h:A9}:∀{bs:List An},(∀b∈bs,h.PlainList b #[])->IV J N h bs (bs.map λz=>[]):=by
 intro bs
 induction bs with
 |nil=>exact λz=>.nil
 |cons b bs ih=>exact λF=>.cons (I:=[]) (F b (.head _)) .nil (ih λc E=>F c (.tail _ E))
theorem At.nnew(x:At T J mg mb s0 B sc k A N2 Z s ρ ow OA)(hS:D0 Aj w T J mg mb s0 B fn C k n)(P:HZ Aj w T J mg mb s0 B fn C k n)(N:EA B){y:Nat}{p pos F vp:B9}{gens:List A7}{scope:Scope}{c:Cl}{Bv:List D}{Q:EW->Ah->Prop}
  (j:Bu B fn (fo+1) sc (.ListComp (.List [] F) gens scope vp) (.comp (.lst []) [c])=Y)(U:FJ sc (B y)=Y)(X:ev C (n+1) ρ (CU ow) (.comp (.lst []) [c])=V (.lst Bv))(i:S2 Bv=Y)(W:lk y ow=Ao)
  (q:∀S Ck,Ek T J B N2 Z OA s S (Dn [y] ρ) ((y,.nest (Bv.map λz=>[]))::ow) Ck->Q .next S):Ap (Aq Aj w) A (EB (.Assign [.Name (B y) p] (.ListComp (.List [] F) gens scope vp) pos) Z) Q E s:=by
 obtain⟨a,st⟩:=Oc x.ok U;refine qL @hS @P N x.cx j X i st (MK x.bs x.rel.sl st.frm) (.inl (x.hm.frm st.frm)) λL bs S ho r M=>?_
 rw[show(Bv.map λz=>([]:List D))=bs.map λz=>[]by apply AO ho;rw[DN,DN];rfl]at q
 exact q S _ (x.add N W st.frm r M.new M.nodup (.nest M.list (qM M.items)))
inductive qN(J:Sg)(N:An->Prop)(h:A9)(bs:List An)(j:Nat)(O:List D):Prop
 |mk (b:An) (I:List Ag) (e:bs[j]?=V b) (hp:h.PlainList b I.toArray) (hr:BV J N h I O)
theorem IV.get{h:A9}{bs:List An}{i:List (List D)}{O:List D}(x:IV J N h bs i):∀{j:Nat},i[j]?=V O->qN J N h bs j O:=by
 induction x with
 |nil=>exact λe=>nS e
 |cons p r _ ih=>exact λ{j}=>match j with
  |0=>λe=>⟨_,_,rfl,p,sI e▸r⟩
  |j+1=>λe=>by obtain⟨b,I,U,q,y⟩:=ih (j:=j) e;exact⟨b,I,U,q,y⟩
theorem IV.length{h:A9}{bs:List An}{i:List (List D)}(x:IV J N h bs i):bs.length=i.length:=by
 induction x with
 |nil=>rfl
 |cons _ _ _ ih=>exact congrArg Fw ih
theorem IV.set{h h':A9}{b:An}{I:List Ag}{O:List D}(f:FU N N h h')(F:h'.PlainList b I.toArray)(Q:BV J N h' I O)(C:∀c,c≠b->Da h c->h'.get? c=h.get? c){bs:List An}{i:List (List D)}(x:IV J N h bs i):
  ∀{j:Nat},bs.Nodup->bs[j]?=V b->IV J N h' bs (i.set j O):=by
 induction x with
 |nil=>exact λz e=>nS e
 | @cons c bs vs' ds' y p r t ih=>exact λ{j}=>match j with
  |0=>λM e=>by
   rw[sI e]at M ⊢;exact .cons F Q (IV.mono (bs:=bs) f (λd hd hm=>C d (λq=>(List.nodup_cons.mp M).1 (q▸hm)) hd) (λz h=>h) t)
  |j+1=>λM e=>by
   obtain⟨m,hp⟩:=p;have A:bs[j]?=V b:=e;exact .cons ⟨m,(C c (λq=>(List.nodup_cons.mp M).1 (q▸BZ A)) ⟨_,hp,rfl⟩).trans hp⟩ (r.mono f) (ih (List.nodup_cons.mp M).2 A)
theorem qO{h:A9}{a:An}{bs X:List An}(e1:h.PlainList a (bs.map Cy).toArray)(e2:h.PlainList a (X.map Cy).toArray):bs=X:=by
 obtain⟨m,e1⟩:=e1;obtain⟨F,e2⟩:=e2;exact(List.map_inj_right (λx y h=>LD h)).mp (Xz e1 e2)
theorem qP{j b d:Nat}(h:j<b)(e:b=d)(l:d<=1000000):(j:Int)<2^63/\(j:Int)<(b:Int):=⟨Int.ofNat_lt.mpr (AE h (Am (e▸l) (by decide:1000000<=2^63))),Int.ofNat_lt.mpr h⟩
theorem At.next(x:At T J mg mb s0 B sc k A N2 Z s ρ ow OA)(hS:D0 Aj w T J mg mb s0 B fn C k n){y:Nat}{np sp ap p pos:B9}{e i:Expr}{m mi:M}{es O:List D}{r:List (List D)}{j:Nat}{Q:EW->Ah->Prop}(hd:(B y==("__debug__":Av))=Ak)
  (Bd:(ap.endLine==p.line)=Y)(Cf:Bu B fn fo sc e m=Y)(U:Bu B fn fo sc i mi=Y)
  (F0:ev C n ρ (CU ow) m=V (.lst es))(Cx:ev C n ρ (CU ow) mi=V (LB j))(hl:lk y ow=V (.nest r))(CH:r.length<=1000000)(hj:r[j]?=V O)(F1:AS (O++es)=Y)
  (q:∀S,Ek T J B N2 Z OA s S ρ (HL y (.nest (r.set j (O++es))) ow) OA->Q .next S):
  Ap (Aq Aj w) A (EB (.Expr (.Call (.Attribute (.Subscript (.Name (B y) np) i sp) "extend" ap) [e] [] p) pos) Z) Q E s:=by
 obtain⟨as,v,has,hv,ho⟩:=x.rel.owned hl;obtain⟨a,bs,F2,F3,hp,ht⟩:=ho.inv;rw[F2]at hv;rw[F3]at has;obtain⟨b,I,hb,Bs,DD⟩:=ht.get hj;have Ev:b∈OA.flatten:=List.mem_flatten.mpr ⟨_,has,.tail _ (BZ hb)⟩;have It:a∈OA.flatten:=List.mem_flatten.mpr ⟨_,has,.head _⟩;have E3:(a::bs).Nodup:=(List.pairwise_flatten.mp x.rel.nodup).1 _ has;have F:Er p (CV [e] Z)=[(Ak,Bj e Z)]:=by rw[Fa (J3 Cf)];rfl
 refine DX ?_ (PA x.ok) rfl
 refine BC (IU rfl) (by rw[F];rfl) Bd ?_
 rw[F];refine Jh (hv.load x.ok.kind hd ?_)
 refine x.eval @hS U Cx λvi AK N F4=>?_
 obtain⟨t,F5⟩:=F4.inv
 apply AO F5
 obtain⟨nn,Ce⟩:=hp;have E4:=N.keep2 _ _ Ce rfl;have F6:=qP (Ro hb) ht.length CH;have hT:AK.TypeIs (.ref a) "list":=⟨_,E4,rfl⟩;have hx:(bs.map Cy).toArray[j]?=V (.ref b):=by
  rw[Cd,EU,hb];rfl
 refine O5 (ops:=[.ref a,.int j t]) @hT slot_list_getitem.lookup (Gx (x:=.ref b) ⟨_,E4,rfl,_,rfl⟩ (AW _) F6.1 hx ?_) ?_
 rotate_left
 ·have:=Yv U
  induction i using Ya with
  |Slice a b c p=>exact absurd rfl (this a b c p)
  |_=>rfl
 have F7:=x.ext N;refine gz (IT (W:=λz=>False) N.upd Bs λh=>h) ?_
 refine F7.eval @hS Cf F0 λv By Gl Go=>?_
 obtain⟨c,ws,m',Gt,hn,g,rs⟩:=Go.inv;have X:=N.trans Gl;have GI:=x.ext X;refine⟨IT (W:=λz=>False) X.upd Bs λh=>h,c,ws.toArray,m',Gt,g,?_,λh' L P=>?_⟩
 ·have:=IC F1;rw[Bm,<-DD.length,<-rs.length]at this
  simpa using this
 ·have u:Co T (·=b) By {By with heap:=h'}:=.of_but (tk:=By.toks) P (by obtain⟨m,e⟩:=L;exact⟨_,e,rfl⟩) (x.rel.apart b Ev).2 (.lst (IT (W:=λz=>False) X.upd Bs λh=>h))
  have u':Co T (λc=>c∈OA.flatten) By {By with heap:=h'}:=u.mono λc e=>e▸Ev
  have f:FU (Dt N2 OA) (Dt N2 OA) By.heap h':=u'.fits λc h=>.inr h
  have G0:EQ T J B N2 Z h' ρ (HL y (.nest (r.set j (O++es))) ow) OA:=by
   refine GI.rel.mutate (S:={By with heap:=h'}) x.hm hl u' λv IS Is Hd HC=>?_
   obtain⟨a',HF,e1,e2,E5,Fn⟩:=HC.inv;have e3:a'=a:=LD (e1.symm.trans (Hd.unique (hv.ext X)));rw[e3]at E5;have If:HF=bs:=qO E5 ⟨nn,X.keep2 _ _ Ce rfl⟩
   apply Dz e1 e2;rw[e3]
   rw[If]at Fn ⊢;have Il:a≠b:=λe=>(List.nodup_cons.mp E3).1 (e▸BZ hb)
   refine⟨.nest ⟨nn,(P.2 a Il).trans (X.keep2 _ _ Ce rfl)⟩ (IV.set f (by simpa using L) (((DD.mono X.fits).mono f).append (rs.mono f)) (λc hc z=>P.2 c hc) Fn (List.nodup_cons.mp E3).2 hb),λc hc z hn=>P.2 c λe=>hn (e▸.tail _ (BZ hb))⟩
  exact q _ ((Ek.of_ext x.rel X).trans x.bs x.rel (.change (S:={By with heap:=h'}) G0 u'))
theorem BV.reverse{N:An->Prop}{h:A9}{I:List Ag}{O:List D}(r:BV J N h I O):BV J N h I.reverse O.reverse:=
 r.ind (P:=λI O=>BV J N h I.reverse O.reverse) .nil λz z z z x z q=>by apply Dz Gi Gi;exact q.append (.cons x .nil)
theorem qQ{a:An}{I:List Ag}{m:Nat}(e:s.heap.get? a=V (Gf I.toArray m)):(s.heap.update a (Eb λx=>x.reverse)).PlainList a I.reverse.toArray:=by
 have:∀o:Fo,o={cls:=.type "list",dict:=Ao,data:=.seq I.toArray m,slots:=#[]}->∃u,Eb (λx=>x.reverse) o={cls:=.type "list",data:=.seq I.toArray.reverse u}:=by
  rintro o rfl
  unfold Eb;exact⟨_,rfl⟩
 obtain⟨u,P⟩:=this _ rfl;refine⟨u,?_⟩
 rw[DW _ e (by rw[P];rfl),P,List.reverse_toArray]
theorem At.rev(x:At T J mg mb s0 B sc k A N2 Z s ρ ow OA){y:Nat}{N F p pos:B9}{O:List D}{Q:EW->Ah->Prop}(hd:(B y==("__debug__":Av))=Ak)(i:(F.endLine==p.line)=Y)
  (j:lk y ow=V (.lst O))(r:AS O=Y)(q:∀S,Ek T J B N2 Z OA s S ρ (HL y (.lst O.reverse) ow) OA->Q .next S):
  Ap (Aq Aj w) A (EB (.Expr (.Call (.Attribute (.Name (B y) N) "reverse" F) [] [] p) pos) Z) Q E s:=by
 obtain⟨a,I,U,L,hp,M⟩:=x.rel.ownedL j;refine DX ?_ (PA x.ok) rfl
 refine BC (IU rfl) rfl i ?_
 refine L.load x.ok.kind hd ?_
 obtain⟨m,e⟩:=hp;refine⟨"list",_,Gk,JB,PySem.F.type_list_reverse,⟨_,e,rfl⟩,(λb q=>⟨_,LD q▸e,rfl⟩),?_⟩
 have hsz:I.toArray.size<=C5:=by rw[AD,M.length];exact Am (IC r) (by decide)
 refine method0_meets JB PySem.F.entry_list_reverse ⟨_,e,rfl⟩ (PySem.F.args_list_reverse_1 _) (Q3 a I.toArray m hsz) ⟨e,?_⟩
 obtain⟨u,C⟩:=x.rel.lstChange (ds':=O.reverse) (vs':=I.reverse) x.hm j L U (qQ e) (Dp ..) M.reverse;exact q _ (.change C u)
theorem At.saug(x:At T J mg mb s0 B sc k A N2 Z s ρ ow OA)(Cx:∀n,(J.v n).natAbs<=2^1000)(hS:D0 Aj w T J mg mb s0 B fn C k n){y:Nat}{o:BY}{np sp pos:B9}{e i:Expr}{m mi:M}{a b d:D}{j:Nat}{O:List D}{Q:EW->Ah->Prop}(hd:(B y==("__debug__":Av))=Ak)
  (CH:Bu B fn fo sc e m=Y)(P:Bu B fn fo sc i mi=Y)(DD:ev C n ρ (CU ow) m=V b)(Bd:ev C n ρ (CU ow) mi=V (LB j))(hl:lk y ow=V (.lst O))(Ev:AS O=Y)(hj:O[j]?=V a)(Bs:N9 o a b=V d)
  (q:∀S,Ek T J B N2 Z OA s S ρ (HL y (.lst (O.set j d)) ow) OA->Q .next S):
  Ap (Aq Aj w) A (EB (.AugAssign (.Subscript (.Name (B y) np) i sp) o e pos) Z) Q E s:=by
 obtain⟨l,I,E3,hv,hp,hr⟩:=x.rel.ownedL hl;have r:=gA (Ro hj) (IC Ev) hr.length;rw[arm_exec_AugAssign_3];refine Ai (AU ?_)
 refine Ai (hv.load x.ok.kind hd ?_)
 refine Ai (AZ (x.eval @hS P Bd λvi AK X E4=>?_))
 obtain⟨N,E5⟩:=E4.inv
 apply AO E5
 have Fn:=x.ext X;refine Ai (AZ ?_)
 refine Ai (AU ?_)
 obtain⟨va,F0,F1⟩:=hr.get hj;have F2:=IT (W:=λz=>False) X.upd hp λh=>h
 obtain⟨GI,F3⟩:=F2;refine Ai (Gx (x:=va) ⟨_,F3,rfl,_,rfl⟩ r.1 r.2.1 (show I.toArray[j]?=V va by rw[Cd];exact F0) ?_)
 refine Ai (AZ (Fn.eval @hS CH DD λvb By F4 F5=>?_))
 refine Ai (AU ?_)
 have xx:=X.trans F4;have G0:=x.ext xx;refine gB Cx (F1.mono xx.fits) F5 Bs λ{U jv t u p} e1 e2 hd h=>?_
 have F:∀{U:Int},p.ev J=U->Ap (Aq Aj w) A (do JI sp;augStore i (.ref l) (.int j N) (.int U By.toks)) Q E {By with toks:=By.toks+1}:=λ{U} F6=>by
  refine Ai (AU ?_)
  have L:BM T s {By with toks:=By.toks+1}:=xx.trans .toks
  have Ce:=x.ext L;have Cf:=IT (W:=λz=>False) L.upd hp λh=>h
  have F7:=Yv P;have store:Ap (Aq Aj w) A (do R8 [.int U By.toks,.ref l,.int j N] (JJ (.ref l) (.int j N) (.int U By.toks));release [.int U By.toks,.ref l,.int j N] [];BU .next) Q E {By with toks:=By.toks+1}:=by
   refine Ai (AZ ?_)
   refine YD Cf r.1 r.2.1 (show(j:Int)<(I.toArray.size:Int)by rw[AD];exact r.2.2) λh' Gl Go=>?_
   obtain⟨u,Gt⟩:=Ce.rel.lstChange (ds':=O.set j d) (vs':=I.set j (.int U By.toks)) Ce.hm hl (hv.ext L) E3 (by simpa using Gl) Go (BV.set j (hr.mono L.fits) (hd▸.int F6))
   exact Ai (lf (Ar (q _ ((Ek.of_ext x.rel L).trans x.bs x.rel (.change Gt u)))))
  induction i using Ya with
  |Slice a b c p=>exact absurd rfl (F7 a b c p)
  |_=>exact store
 apply Dz e1 e2
 rcases h with⟨ho,hp⟩|⟨ho,hp⟩|⟨ho,hp,hm⟩
 ·apply AO ho;exact Lm (HS (F hp))
 ·apply AO ho;exact Lm (HT (F hp))
 ·apply AO ho;exact Lm (HU (F hp) hm)
theorem qR{f:Expr->Option Av}{a b:Expr}{x y:Av}(U:f a=V x)(G:f b=V y):[a,b].filterMap f=[x,y]:=by rw[Ku U,Ku G];rfl
theorem cj{f:Expr->Bool}{a b:Expr}(h:∀e,(∀v p,e≠.Starred v p)->f e=Ak)(g:∀v p,a≠.Starred v p)(F:∀v p,b≠.Starred v p):[a,b].any f=Ak:=by
 show(f a||(f b||false))=Ak
 rw[h a g,h b F];rfl
theorem qS{Z:DS}{X c:Av}{p1 p2 tp vp:B9}{kx k2:Nat}{e1 e2:Expr}(P:Z.scope.kind= .function)(H:Z.kindOf X=V .local)(W:Z.kindOf c=V .local)(j:(p1.line==p2.line)=Y)(d:X≠c)
  (u:∀v p,e1≠.Starred v p)(g:∀v p,e2≠.Starred v p)(t:(EO 8 e1&&EO 8 e2)=Ak)(E:(Eu 8 e1&&Eu 8 e2)=Ak):
  Mt [.Tuple [.Name X p1,.Name c p2] kx tp] (.Tuple [e1,e2] k2 vp) Z=BU (V [X,c]):=by
 have F:Z.blockKind= .function:=by unfold DS.blockKind;rw[P];rfl
 have r:([X,c]:List Av).eraseDups=[X,c]:=by simp[List.eraseDups_cons,d.symm]
 have f:([e1,e2].all (EO 8))=Ak:=by apply CE t;exact congrArg _ (Gq _)
 have i:([e1,e2].all (Eu 8))=Ak:=by apply CE E;exact congrArg _ (Gq _)
 delta Mt
 dsimp only;rw[F,f,i,qR (a:=.Name X p1) (b:=.Name c p2) (x:=X) (y:=c),r,cj (a:=e1) (b:=e2) ?_ u g]
 ·rfl
 ·intro e h
  induction e using Ya with
  |Starred v p=>exact absurd rfl (h v p)
  |_=>rfl
 ·show(if(Z.kindOf X==V .local&&p1.line==p1.line)=Y then V X else Ao)=_
  rw[H,beq_self_eq_true,beq_self_eq_true];rfl
 ·show(if(Z.kindOf c==V .local&&p2.line==p1.line)=Y then V c else Ao)=_
  rw[W,beq_self_eq_true,AA j,beq_self_eq_true];rfl
theorem At.sw(x:At T J mg mb s0 B sc k A N2 Z s ρ ow OA)(hS:D0 Aj w T J mg mb s0 B fn C k n)(N:EA B){y z:Nat}{p1 p2 tp vp pos:B9}{kx k2:Nat}{e1 e2:Expr}{a b:M}{da db:D}{Q:EW->Ah->Prop}
  (l1:(sc.lookup (B y)==V .local)=Y)(l2:(sc.lookup (B z)==V .local)=Y)(Cf:FJ sc (B y)=Y)(Cx:FJ sc (B z)=Y)(i:(p1.line==p2.line)=Y)(CH:y≠z)(hy:lk y ow=Ao)(hz:lk z ow=Ao)
  (j:Bu B fn fo sc e1 a=Y)(p:Bu B fn fo sc e2 b=Y)(hf:(EO 8 e1&&EO 8 e2)=Ak)(hc:(Eu 8 e1&&Eu 8 e2)=Ak)(v1:ev C n ρ (CU ow) a=V da)(v2:ev C n ρ (CU ow) b=V db)
  (q:∀S,Ek T J B N2 Z OA s S ((y,da)::(z,db)::ρ) ow OA->Q .next S):
  Ap (Aq Aj w) A (EB (.Assign [.Tuple [.Name (B y) p1,.Name (B z) p2] kx tp] (.Tuple [e1,e2] k2 vp) pos) Z) Q E s:=by
 have DD:B y≠B z:=λe=>CH (N.inj _ _ e)
 have hw:=qS (tp:=tp) (vp:=vp) (kx:=kx) (k2:=k2) x.ok.kind (by rw[x.ok.kindOf];exact AA l1) (by rw[x.ok.kindOf];exact AA l2) i DD (J3 j) (J3 p) hf hc
 refine Assign_Tuple_swapped (names:=[B y,B z]) ?_ rfl hw
 refine QM (k:=k2) (pos:=vp) ?_
 rw[Fa (J3 j),Fa (J3 p)];refine Ax (x.eval @hS j v1 λva AK W Ev=>?_)
 refine Ax ((x.ext W).eval @hS p v2 λvb By L E3=>AF ?_)
 refine Ie ?_ (by apply AO CC;exact D8 rfl)
 refine wpAny_unpackItems_tuple (items:=#[va,vb]) x.ha.handled ⟨_,Ay _ rfl,rfl,_,rfl⟩ λh' hx=>?_
 have keep:∀b o,By.heap.get? b=V o->h'.get? b=V o:=λb o e=>hx b o (Bn (AY (Au _ e))) (Au _ e)
 have F:BM T By {By with heap:=h'}:=.of_keeps (tk:=By.toks) keep
 have P:=W.trans (L.trans F);have r:=x.ext P;have ra:Rd J (Dt N2 OA) h' va da:=Ev.mono (L.trans F).fits;have rb:Rd J (Dt N2 OA) h' vb db:=E3.mono F.fits;show Ap _ A (Do [aO Z (B z),aO Z (B y)] [vb,va]) _ E {By with heap:=h'}
 refine VE (AZ (Et ?_))
 obtain⟨az,X⟩:=Oc x.ok Cx;refine Pw r.ok r.rel.sl .refl X (MK r.bs r.rel.sl X.frm) λU E4 Bd=>?_
 have fz:FU (Dt N2 OA) (Dt N2 OA) h' U.heap:=E4.fits λb e=>e▸.inl (x.hm.frm X.frm)
 have Bs:Ek T J B N2 Z OA {By with heap:=h'} U ((z,db)::ρ) ow OA:=.store N r.hm r.rel hz X Bd (rb.mono fz)
 have Ce:=r.post Bs;refine VE (AZ (Et ?_))
 refine Ce.put N Cf hy (ra.mono fz) λE5 Fn=>?_
 refine Ar (q E5 ?_)
 exact(Ek.of_ext x.rel P).trans x.bs x.rel (Bs.trans r.bs r.rel Fn)
theorem gM{z:Type}{o:Option z}(h:o.isSome=Y):∃a,o=V a:=Option.isSome_iff_exists.mp h
theorem YK{d:D}(h:VL d=Y):LW (λk v=>d= .tup [.str k,v]) λx v=>LH v=Y:=by
 obtain⟨_,h⟩:=gM h;obtain⟨l,U,h⟩:=Pm h;obtain⟨a,b,G,h⟩:=Ni h;obtain⟨k,z,h⟩:=HJ h;exact⟨k,b,by apply AO U;rw[G,z],(De h).1⟩
theorem ML{v:Ag}{d:D}(a:LH d=Y)(r:Rd J N h v d):Rd J N' h' v d:=by
 induction d using Yf with
 |str s=>obtain⟨x,t,e1,e2⟩:=r.inv;apply AO e1;exact .str e2
 |sym n=>obtain⟨x,t,e1,e2⟩:=r.inv;apply AO e1;exact .sym e2
 |_=>exact bF a
theorem S8(P:∀a C n,¬N a->h.get? a=V (HA C n)->¬N' a/\h'.get? a=V (HA C n))(O:List D):∀I:List Ag,Ja O=Y->BV J N h I O->BV J N' h' I O:=by
 induction O with
 |nil=>exact λI t r=>(show I=[]from r.inv)▸.nil
 |cons d O ih=>
  intro I b r;obtain⟨k,v,hd,c⟩:=YK (AH b).1;obtain⟨w,ws,e,L,z⟩:=r.inv;rw[hd]at L
  apply Dz e hd
  refine .cons ?_ (ih ws (AH b).2 z)
  obtain⟨a,C,n,e1,o,e2,r3⟩:=L.inv;obtain⟨x,y,X,g,j⟩:=r3.two;obtain⟨f,i⟩:=P a _ n o e2;refine e1▸ ?_
  exact .tup f i (X▸.cons (ML rfl g) (.cons (ML c j) .nil))
inductive ck(name:List Nat)(d:D)(r l:List D):Prop
 |mk (k:List Nat) (v:D) (l':List D) (hd:d= .tup [.str k,v]) (h:Nj name r=V l') (e:bI (Fq (k.map DG) name) l' (d::l')=l)
theorem YL{name:List Nat}{d:D}{r l:List D}(h:Nj name (d::r)=V l):ck name d r l:=by
 obtain⟨x,U,h⟩:=Pm h;obtain⟨a,b,G,h⟩:=Ni h;obtain⟨k,z,h⟩:=HJ h;obtain⟨c,e,h⟩:=Cn h;exact⟨k,b,c,by apply AO U;rw[G,z],e,sI h⟩
theorem YM{name:List Nat}(es:List D):∀l,Nj name es=V l->l.length<=es.length:=by
 induction es with
 |nil=>exact λl h=>sI h▸AI _
 |cons d r ih=>
  intro l h;obtain⟨k,v,b,hd,h,e⟩:=YL h;refine e▸ ?_
  cases Fq (k.map DG) name with
  |true=>exact Am (ih b h) (DM _)
  |false=>exact BB (ih b h)
theorem YN{name:List Nat}(es:List D):∀l,Nj name es=V l->Ja es=Y->Ja l=Y:=by
 induction es with
 |nil=>exact λl h z=>sI h▸rfl
 |cons d r ih=>
  intro l h a;obtain⟨k,v,b,hd,h,e⟩:=YL h;refine e▸ ?_
  have q:=ih b h (AH a).2;cases Fq (k.map DG) name with
  |true=>exact q
  |false=>exact(Bg _ _).mpr ⟨(AH a).1,q⟩
inductive cq(name:List Nat)(d:D)(r:List D)(o:Option D):Prop
 |mk (k:List Nat) (v:D) (hd:d= .tup [.str k,v]) (h:bI (Fq (k.map DG) name) (V (V v)) (Nk name r)=V o)
theorem Up{name:List Nat}{d:D}{r:List D}{o:Option D}(h:Nk name (d::r)=V o):cq name d r o:=by
 obtain⟨x,U,h⟩:=Pm h;obtain⟨a,b,G,h⟩:=Ni h;obtain⟨k,z,h⟩:=HJ h;exact⟨k,b,by apply AO U;rw[G,z],h⟩
theorem gN{low:List Nat}{d:D}(O:List D):Ja O=Y->Nk low O=V (V d)->LH d=Y:=by
 induction O with
 |nil=>exact λz h=>nS (sI h)
 |cons e r ih=>
  intro a h;obtain⟨k,v,hd,h⟩:=Up h;obtain⟨u,l,g,b⟩:=YK (AH a).1;rw[hd]at g
  injection g with g
  injection g with _ g
  injection g with g _
  cases q:Fq (k.map DG) low with
  |true=>rw[q]at h;exact sI (sI (show V (V v)=V (V d)from h))▸g▸b
  |false=>rw[q]at h;exact ih (AH a).2 h
theorem Rz{J:Sg}{N:An->Prop}{h:A9}{v:Ag}{d:D}(a:LH d=Y)(r:Rd J N h v d):∃x t,v= .str x t:=by
 induction d using Yf with
 |str s=>obtain⟨x,t,e1,_⟩:=r.inv;exact⟨x,t,e1⟩
 |sym n=>obtain⟨x,t,e1,_⟩:=r.inv;exact⟨x,t,e1⟩
 |_=>exact bF a
section
variable (Aj:Bh) (w:Ca) (T:An->Prop) (J:Sg) (mg mb:Av->Option Ag) (s0:Ah)
def Uq(k:Nat)(a:An):Prop:=∀(A:A1) (E:Ag->Ah->Prop) (s:Ah) (x dx b:An) (I:List Ag) (O:List D) (o:Option D) (N:An->Prop) (kx f:Av) (G p:Ez) (dv:D) (Q:Ag->Ah->Prop),Eo k A->Bs T mg mb s0 s->GS J s.heap x dx b->
  s.heap.PlainList b I.toArray->¬T b->s0.heap.get? b=Ao->¬N x->¬N dx->¬N b->(∀a,N a->Da s.heap a)->BV J N s.heap I O->(Ja O&&JS O&&AS O)=Y->HY kx.cps.toList=Y->H7 kx.cps.toList=Y->H7 f.cps.toList=Y->LH dv=Y->Rd J N s.heap (.str f p) dv->
  Nk (kx.cps.toList.map DG) O=V o->(∀d,o=V d->∀v S,BM T s S->Rd J N S.heap v d->Q v S)->
  (o=Ao->∀S vs',Co T (·=b) s S->S.heap.PlainList b vs'.toArray->BV J N S.heap vs' (O++[.tup [.str kx.cps.toList,dv]])->Q (.str f p) S)->Ap (Aq Aj w) A (DP (.ref a) [.ref x,.str kx G,.str f p]) Q E s
end
section
variable (Aj:Bh) (w:Ca) (T:An->Prop) (J:Sg) (mg mb:Av->Option Ag) (s0:Ah)
def Ur(k:Nat)(a:An):Prop:=∀(A:A1) (E:Ag->Ah->Prop) (s:Ah) (x dx b:An) (I:List Ag) (O:List D) (N:An->Prop) (Q:Ag->Ah->Prop),Eo k A->Bs T mg mb s0 s->GS J s.heap x dx b->
  s.heap.PlainList b I.toArray->(∀a,N a->Da s.heap a)->BV J N s.heap I O->AS O=Y->
  (∀v S,BM T s S->Rd J N S.heap v (.lst O)->Q v S)->Ap (Aq Aj w) A (DP (.ref a) [.ref x]) Q E s
end
inductive cu(T:An->Prop)(J:Sg)(s0:Ah)(B:Nat->Av)(N2:An->Prop)(Z:DS)(s:Ah)(ρ:List (Nat×D))(ow:List (Nat×Ae))(OA:List (List An))(y:Nat)(O:List D):Prop
 |mk (hx dx b:An) (I:List Ag) (N:An->Prop) (hv:DH Z s.heap (B y) (.ref hx)) (hat:GS J s.heap hx dx b) (hp:s.heap.PlainList b I.toArray) (hT:¬T b) (h0:s0.heap.get? b=Ao) (n1:¬N hx) (n2:¬N dx) (n3:¬N b)
  (occ:∀a,N a->Da s.heap a) (hr:BV J N s.heap I O) (Ix:∀a,N a->Dt N2 OA a)
  (fin:∀(By B4:Ah) (vs':List Ag) (ds':List D),BM T s By->Co T (·=b) By B4->B4.heap.PlainList b vs'.toArray->BV J N B4.heap vs' ds'->Ja ds'=Y->Ek T J B N2 Z OA s B4 ρ (HL y (.hdr ds') ow) OA) (has:[hx,dx,b]∈OA) (hr0:BV J (Dt N2 OA) s.heap I O)
theorem At.hmut(x:At T J mg mb s0 B sc k A N2 Z s ρ ow OA){y:Nat}{O:List D}(hl:lk y ow=V (.hdr O)):cu T J s0 B N2 Z s ρ ow OA y O:=by
 obtain⟨as,v,has,U,C⟩:=x.rel.owned hl;obtain⟨L,dx,b,o,od,I,X,i,E,P,C,hp,hr⟩:=C.inv;have U:=X▸U;have has:=i▸has;have hb:b∈OA.flatten:=List.mem_flatten.mpr ⟨_,has,.tail _ (.tail _ (.head _))⟩;have Bd:GS J s.heap L dx b:=⟨o,od,E,P,C⟩;refine⟨L,dx,b,I,λa=>Dt N2 OA a/\a≠L/\a≠dx/\a≠b,U,Bd,hp,(x.rel.apart b hb).2,x.young.own b hb,λh=>h.2.1 rfl,λh=>h.2.2.1 rfl,λh=>h.2.2.2 rfl,λa h=>x.occN a h.1,hr.mono λa o na e z=>⟨λh=>na h.1,e⟩,λa h=>h.1,?_,has,hr⟩
 intro By B4 vs' ds' M u p N he;have Bs:=x.ext M;have r:Co T (λa=>a∈OA.flatten) By B4:=u.mono λa e=>e▸hb
 have F:=qG E P C hp;have q1:=M.keep2 _ _ E C.tab.1;have q2:=M.keep2 _ _ P C.tab.2;have Ce:EQ T J B N2 Z B4.heap ρ (HL y (.hdr ds') ow) OA:=by
  refine Bs.rel.mutate x.hm hl r λv E3 Ev Cf j=>?_
  obtain⟨Cx,E4,b',o',E5,ws,W,CH,Q,DD,j,Fn,F0⟩:=j.inv;have e3:Cx=L:=LD (W.symm.trans (Cf.unique (U.ext M)));rw[e3]at Q;rw[e3,<-sI (q1.symm.trans Q)]at j;obtain⟨e4,e5⟩:=C.unique q2 DD j;rw[W,CH,e3,<-e4];apply CE e5
  have q3:=u.keep2 _ _ F.1 q1 C.tab.1;have q4:=u.keep2 _ _ F.2 q2 C.tab.2;have kd:∀c ws n,B4.heap.get? c=V (HA ws n)->c≠L/\c≠dx/\c≠b:=λc ws n e=>by
   refine⟨λq=>?_,λq=>?_,λq=>?_⟩
   ·rw[q,q3]at e;exact nomatch C.cls.symm.trans (congrArg D1 (sI e))
   ·rw[q,q4]at e;exact absurd (show CF "dict"=CF "tuple" from C.dcls.symm.trans (congrArg D1 (sI e))) (by decide)
   ·obtain⟨m,e4⟩:=p;rw[q,e4]at e;exact absurd (show CF "list"=CF "tuple" from congrArg D1 (sI e)) (by decide)
  refine⟨.hdr q3 q4 C p (S8 (λc ws n nc e=>⟨λh=>nc ⟨h,kd c ws n e⟩,e⟩) _ _ he N),λc ⟨oc,ec,tc⟩ _ hn=>?_⟩
  exact(u.keep2 c oc (λq=>hn (q▸.tail _ (.tail _ (.head _)))) ec tc).trans ec.symm
 exact(Ek.of_ext x.rel M).trans x.bs x.rel (.change Ce r)
theorem VS{d:D}(h:N7 d=Y):LH d=Y:=by
 induction d using Yf with
 |str _=>rfl
 |sym _=>rfl
 |_=>exact h
theorem VT{J:Sg}{N:An->Prop}{h:A9}{x:Av}{t:Ez}{d:D}(hp:N7 d=Y)(r:Rd J N h (.str x t) d):H7 x.cps.toList=Y:=by
 induction d using Yf with
 |str s=>
  obtain⟨y,u,e1,e2⟩:=r.inv
  injection e1 with e1 _
  apply AO e1;rw[e2];exact hp
 |sym n=>
  obtain⟨y,u,e1,e2⟩:=r.inv
  injection e1 with e1 _
  apply AO e1;rw[e2]
  exact(Bg _ _).mpr ⟨(J.tp n).1,AL (J.tp n).2⟩
 |_=>exact bF hp
theorem YO{k:List Nat}{d:D}(h:LH d=Y):VL (.tup [.str k,d])=Y:=by
 show(CB (LH d) (V Y)).isSome=Y;rw[h];rfl
theorem YP{d:D}(O:List D):Ja O=Y->VL d=Y->Ja (O++[d])=Y:=by
 induction O with
 |nil=>exact λz h=>(Bg _ _).mpr ⟨h,rfl⟩
 |cons e r ih=>exact λU G=>(Bg _ _).mpr ⟨(AH U).1,ih (AH U).2 G⟩
theorem qT{J:Sg}{N:An->Prop}{h:A9}{x y:Av}{t u:Ez}{d:D}(a:LH d=Y)(r:Rd J N h (.str x t) d)(e:y.cps=x.cps):Rd J N h (.str y u) d:=by
 induction d using Yf with
 |str s=>obtain⟨_,_,e1,e2⟩:=r.inv;injection e1 with e1 _;exact .str (by rw[e];apply AO e1;exact e2)
 |sym n=>obtain⟨_,_,e1,e2⟩:=r.inv;injection e1 with e1 _;exact .sym (by rw[e];apply AO e1;exact e2)
 |_=>exact bF a
structure MM(Aj:Bh)(w:Ca)(T:An->Prop)(J:Sg)(mg mb:Av->Option Ag)(s0:Ah)(k:Nat):Prop where
 set:∀(A:A1) (E:Ag->Ah->Prop) (s:Ah) (x dx b:An) (I:List Ag) (O l:List D) (N:An->Prop) (kx vx:Av) (kt vt:Ez) (dv:D) (Q:Unit->Ah->Prop),Eo k A->Bs T mg mb s0 s->GS J s.heap x dx b->
  s.heap.PlainList b I.toArray->¬T b->s0.heap.get? b=Ao->¬N x->¬N dx->¬N b->(∀a,N a->Da s.heap a)->BV J N s.heap I O->(Ja O&&JS O&&AS O)=Y->HY kx.cps.toList=Y->H7 kx.cps.toList=Y->H7 vx.cps.toList=Y->LH dv=Y->Rd J N s.heap (.str vx vt) dv->
  Nj (kx.cps.toList.map DG) O=V l->
  (∀S vs',Co T (·=b) s S->S.heap.PlainList b vs'.toArray->BV J N S.heap vs' (l++[.tup [.str kx.cps.toList,dv]])->Q () S)->Ap (Aq Aj w) A (JJ (.ref x) (.str kx kt) (.str vx vt)) Q E s
 sdf:∃f,N3 Aj w T J s0 "setdefault" f/\Uq Aj w T J mg mb s0 k f
 itm:∃f,N3 Aj w T J s0 "items" f/\Ur Aj w T J mg mb s0 k f
theorem At.hset(x:At T J mg mb s0 B sc k A N2 Z s ρ ow OA)(hS:D0 Aj w T J mg mb s0 B fn C k n)(hH:MM Aj w T J mg mb s0 k){y:Nat}{np sp pos:B9}{e1 e2:Expr}{m1 m2:M}{P:List Nat}{dv:D}{O l:List D}{Q:EW->Ah->Prop}
  (hd:(B y==("__debug__":Av))=Ak)(Cf:Bu B fn fo sc e1 m1=Y)(U:Bu B fn fo sc e2 m2=Y)
  (Cx:ev C n ρ (CU ow) m1=V (.str P))(CH:ev C n ρ (CU ow) m2=V dv)(hl:lk y ow=V (.hdr O))(r:(Ja O&&JS O&&AS O)=Y)(X:HY P=Y)(Bd:H7 P=Y)(Bs:N7 dv=Y)(i:Nj (P.map DG) O=V l)
  (q:∀S,Ek T J B N2 Z OA s S ρ (HL y (.hdr (l++[.tup [.str P,dv]])) ow) OA->Q .next S):
  Ap (Aq Aj w) A (EB (.Assign [.Subscript (.Name (B y) np) e1 sp] e2 pos) Z) Q E s:=by
 obtain⟨hx,dx,b,I,N,hv,DD,hp,hT,h0,n1,n2,n3,occ,hr,Ix,Ev,_,_⟩:=x.hmut hl;refine Fm ?_ (YF e2 _ _ _ _ U)
 refine x.eval @hS U CH λv2 AK F j=>?_
 refine(hv.ext F).load x.ok.kind hd ?_
 refine(x.ext F).eval @hS Cf Cx λv1 By E3 E4=>?_
 have L:=F.trans E3;have E5:=x.bs.step L;obtain⟨kx,kt,w1,ek⟩:=E4.inv;have p:=VS Bs;obtain⟨vx,vt,w2⟩:=Rz p j;rw[w2]at j
 apply Dz w1 w2
 rw[<-ek]at X Bd i;refine hH.set A E By hx dx b I O l N kx vx kt vt dv _ x.ha E5 (DD.ext L) (IT (W:=λz=>False) L.upd hp λh=>h) hT h0 n1 n2 n3 (λa h=>(occ a h).ext L) (hr.mono L.fits) r X Bd (VT Bs j) p (ML p j) i λB4 vs' u Fn Ce=>?_
 rw[ek]at Ce;exact q B4 (Ev By B4 vs' _ L u Fn Ce (YP _ (YN _ _ i (AH (AH r).1).1) (YO p)))
theorem At.hadd(x:At T J mg mb s0 B sc k A N2 Z s ρ ow OA)(hS:D0 Aj w T J mg mb s0 B fn C k n)(hH:L6 Aj w T J mg mb s0 k){y:Nat}{np ap p pos:B9}{e1 e2:Expr}{m1 m2:M}{kk:List Nat}{dv:D}{O:List D}{Q:EW->Ah->Prop}
  (hd:(B y==("__debug__":Av))=Ak)(F:(ap.endLine==p.line)=Y)(L:Bu B fn fo sc e1 m1=Y)(P:Bu B fn fo sc e2 m2=Y)
  (Ev:ev C n ρ (CU ow) m1=V (.str kk))(E3:ev C n ρ (CU ow) m2=V dv)(hl:lk y ow=V (.hdr O))(i:(Ja O&&AS O)=Y)(E4:H7 kk=Y)(Bd:N7 dv=Y)
  (q:∀S,Ek T J B N2 Z OA s S ρ (HL y (.hdr (O++[.tup [.str kk,dv]])) ow) OA->Q .next S):
  Ap (Aq Aj w) A (EB (.Expr (.Call (.Attribute (.Name (B y) np) "add_header" ap) [e1,e2] [] p) pos) Z) Q E s:=by
 obtain⟨hx,dx,b,I,N,hv,Bs,hp,hT,h0,n1,n2,n3,occ,hr,Ix,E5,_,_⟩:=x.hmut hl;obtain⟨f,⟨⟨Ce,fd,Fn,F0,F1⟩,Cf⟩,U⟩:=hH.add;refine DX ?_ (PA x.ok) rfl
 refine Pu (IU rfl) ((Ry L P)▸rfl) F ?_
 refine(Ry L P)▸ ?_
 refine hv.load x.ok.kind hd λpl=>?_
 refine Cf A _ s hx dx b pl _ x.bs.ext Bs ?_
 refine Ba (o:=Ce) (fd:=fd) (CI (Ax ?_))
 refine x.eval @hS L Ev λv1 AK Cx F2=>?_
 refine Ax ?_
 refine(x.ext Cx).eval @hS P E3 λv2 By F3 j=>AF ?_
 have X:=Cx.trans F3;have CH:=x.bs.step X;refine⟨⟨CH.ext.keep2 f Ce Fn F1,F0⟩,?_⟩
 obtain⟨kx,kt,w1,ek⟩:=F2.inv;have r:=VS Bd;obtain⟨vx,vt,w2⟩:=Rz r j;rw[w2]at j
 apply Dz w1 w2
 refine U A E By hx dx b I kx vx kt vt _ x.ha CH (Bs.ext X) (IT (W:=λz=>False) X.upd hp λh=>h) hT (hr.length▸IC (AH i).2) (by rw[ek];exact E4) (VT Bd j) λt ks vs' F4 F5 nn B4 u ft gt e1 e2 DD=>?_
 refine q B4 (E5 By B4 (I++[.ref t]) _ X u DD (.append (S8 (λc us n nc e=>⟨nc,u.keep2 c _ (λq=>?_) e rfl⟩) _ _ (AH i).1 (hr.mono (N':=N) X.fits)) (.cons (.tup (n:=nn) (I:=[.str ks F4,.str vs' F5]) (λh=>?_) gt (.cons (.str (e1▸ek)) (.cons (ML r (qT r j e2)) .nil))) .nil)) (YP _ (AH i).1 (YO r)))
 ·obtain⟨m,e4⟩:=hp;rw[q,X.keep2 _ _ e4 rfl]at e;exact absurd (show CF "list"=CF "tuple" from congrArg D1 (sI e)) (by decide)
 ·obtain⟨o',e',_⟩:=(occ t h).ext X;exact nS (ft.symm.trans e')
theorem At.hsd(x:At T J mg mb s0 B sc k A N2 Z s ρ ow OA)(hk:k<=100)(hS:D0 Aj w T J mg mb s0 B fn C k n)(hH:MM Aj w T J mg mb s0 k){y:Nat}{np ap p cp pos:B9}{e1 e2 e3:Expr}{m1 m2 m3:M}{kk:List Nat}{dv d d3:D}{O:List D}{body:List Bx}{Q:EW->Ah->Prop}
  (hd:(B y==("__debug__":Av))=Ak)(F:(ap.endLine==p.line)=Y)(L:Bu B fn fo sc e1 m1=Y)(P:Bu B fn fo sc e2 m2=Y)(Bd:Bu B fn fo sc e3 m3=Y)
  (E4:ev C n ρ (CU ow) m1=V (.str kk))(E5:ev C n ρ (CU ow) m2=V dv)(Fn:ev C n ρ (CU ow) m3=V d3)(hl:lk y ow=V (.hdr O))(j:(Ja O&&JS O&&AS O)=Y)(Bs:HY kk=Y)(Ce:H7 kk=Y)(Cf:N7 dv=Y)
  (hf:Nk (kk.map DG) O=V (V d))(F0:M9 d d3=V Y)(q:∀S,BM T s S->Q .next S):
  Ap (Aq Aj w) A (EB (.If (.Compare (.Call (.Attribute (.Name (B y) np) "setdefault" ap) [e1,e2] [] p) [.NotEq] [e3] cp) body [] pos) Z) Q E s:=by
 obtain⟨hx,dx,b,I,N,hv,Cx,hp,hT,h0,n1,n2,n3,occ,hr,Ix,Gt,_,_⟩:=x.hmut hl;obtain⟨f,⟨⟨CH,fd,F1,F2,F3⟩,DD⟩,U⟩:=hH.sdf;refine EN (Ch (hm:=f8 Bd _) ?_)
 refine Pu (IU rfl) ((Ry L P)▸rfl) F ?_
 refine(Ry L P)▸ ?_
 refine hv.load x.ok.kind hd λpl=>?_
 refine DD A _ s hx dx b pl _ x.bs.ext Cx ?_
 refine Ba (o:=CH) (fd:=fd) (CI (Ax ?_))
 refine x.eval @hS L E4 λv1 AK Ev F4=>?_
 refine Ax ?_
 refine(x.ext Ev).eval @hS P E5 λv2 By F5 i=>AF ?_
 have xx:=Ev.trans F5;have E3:=x.bs.step xx;refine⟨⟨E3.ext.keep2 f CH F1 F3,F2⟩,?_⟩
 obtain⟨kx,kt,w1,ek⟩:=F4.inv;have X:=VS Cf;obtain⟨vx,vt,w2⟩:=Rz X i;rw[w2]at i
 apply Dz w1 w2
 rw[<-ek]at Bs Ce hf;have F6:=gN O (AH (AH j).1).1 hf;refine U A E By hx dx b I O (V d) N kx vx kt vt dv _ x.ha E3 (Cx.ext xx) (IT (W:=λz=>False) xx.upd hp λh=>h) hT h0 n1 n2 n3 (λa h=>(occ a h).ext xx) (hr.mono xx.fits) j Bs Ce (VT Cf i) X (ML X i) hf (λd' e v B4 F7 Gl=>?_) λh=>nomatch h
 have X3:=xx.trans F7;refine(x.ext X3).eval @hS Bd Fn λv3 GI x4 Go=>?_
 refine Qe (x.ha.line hk) (x:=d) (y:=d3) (r:=Ak) (by show(M9 d d3).map (!·)=_;rw[F0];rfl) (ML F6 (sI e▸Gl)) Go ?_
 refine Bq ?_
 rw[if_neg AR];exact Bz (q _ (X3.trans x4))
theorem gO{d:D}(h:VN d=Y):∃l,d= .lst l/\VM l=Y:=by
 induction d using Yf with
 |lst l=>exact⟨l,rfl,h⟩
 |_=>exact bF h
noncomputable def YQ(O:List D):Bool:=match O with
 |[]=>Y
 |d::_=>LH d||VN d
variable {b:An} {I:List Ag} {O:List D}
theorem gP(F:h.PlainList b I.toArray)(r:BV J N h I O)(G:Ja O=Y)(c:O≠[]){L n:Nat}{C:List Ag}{es:List D}(p:h.get? L=V (Gf C.toArray n))(s:BV J N' h C es)(P:YQ es=Y):L≠b:=by
 intro q;obtain⟨m,e⟩:=F;rw[q,e]at p;have e2:=sI p
 injection e2 with _ _ e2 _
 injection e2 with e2 _
 have X:I=C:=by
  have:=congrArg Ic e2;exact this
 induction O with
 |nil=>exact c rfl
 |cons d u=>
  obtain⟨k,v,hd,_⟩:=YK (AH G).1;obtain⟨w,ws,y,A,_⟩:=r.inv;rw[hd]at A;obtain⟨a,ts,i,E,_,H,_⟩:=A.inv
  induction es with
  |nil=>
   have g:C=[]:=s.inv;rw[g,y]at X;exact nomatch X
  |cons f Q=>
   obtain⟨W,R,g,z,_⟩:=s.inv;rw[g,y]at X
   injection X with X _
   rw[<-X,E]at z;rcases(AT _ _).mp P with o|o
   ·obtain⟨x,t,q⟩:=Rz o z;exact nomatch q
   ·obtain⟨l,j,_⟩:=gO o;rw[j]at z;obtain⟨a',T,i',U,_,M,_⟩:=z.inv;rw[<-LD U,H]at M;exact absurd (show CF "tuple"=CF "list" from congrArg D1 (sI M)) (by decide)
theorem qU(O:List D):∀I:List Ag,VM O=Y->BV J N h I O->BV J N' h' I O:=by
 induction O with
 |nil=>exact λI x r=>(show I=[]from r.inv)▸.nil
 |cons d O ih=>
  intro I a r;obtain⟨w,ws,e,L,z⟩:=r.inv;refine e▸ ?_
  exact .cons (ML (AH a).1 L) (ih ws (AH a).2 z)
theorem qV{es:List D}(h:VM es=Y):YQ es=Y:=by
 induction es with
 |nil=>rfl
 |cons d r=>exact(AT _ _).mpr (.inl (AH h).1)
theorem qW{es:List D}(h:S3 es=Y):YQ es=Y:=by
 induction es with
 |nil=>rfl
 |cons d r=>exact(AT _ _).mpr (.inr (AH h).1)
theorem qX(F:h.PlainList b I.toArray)(r:BV J N h I O)(g:Ja O=Y)(e:O≠[]){o:An->Prop}(P:∀L C n,L≠b->¬o L->h.get? L=V (Gf C n)->¬N' L/\h'.get? L=V (Gf C n)){v:Ag}{d:D}(hd:VN d=Y)(rd:Rd J o h v d):Rd J N' h' v d:=by
 obtain⟨l,j,a⟩:=gO hd;rw[j]at rd ⊢;obtain⟨L,C,n,e1,Q,c,f⟩:=rd.inv;obtain⟨U,G⟩:=P L _ n (gP F r g e c f (qV a)) Q c
 apply AO e1
 exact .lst U G (qU _ _ a f)
theorem qY(F:h.PlainList b I.toArray)(r:BV J N h I O)(c:Ja O=Y)(a:O≠[]){o:An->Prop}(P:∀L C n,L≠b->¬o L->h.get? L=V (Gf C n)->¬N' L/\h'.get? L=V (Gf C n))(es:List D):∀C:List Ag,S3 es=Y->BV J o h C es->BV J N' h' C es:=by
 induction es with
 |nil=>exact λI x r=>(show I=[]from r.inv)▸.nil
 |cons d es ih=>
  intro C j u;obtain⟨w,ws,e,f,z⟩:=u.inv;exact e▸.cons (qX F r c a P (AH j).1 f) (ih ws (AH j).2 z)
theorem qZ(F:h.PlainList b I.toArray)(r:BV J N h I O)(a:Ja O=Y)(e:O≠[]){o:An->Prop}(P:∀L C n,L≠b->¬o L->h.get? L=V (Gf C n)->¬N' L/\h'.get? L=V (Gf C n)){v:Ag}{es:List D}(j:S3 es=Y)(rd:Rd J o h v (.lst es)):Rd J N' h' v (.lst es):=by
 obtain⟨L,C,n,e1,Q,c,d⟩:=rd.inv;obtain⟨U,G⟩:=P L _ n (gP F r a e c d (qW j)) Q c
 apply AO e1
 exact .lst U G (qY F r a e P es C j d)
theorem YR{z:Type}{y:Nat}{o:z}{r:List (Nat×z)}:lk y ((y,o)::r)=V o:=by
 exact M7 (Cs y)
theorem q8{y:Nat}{o p:Ae}{r:List (Nat×Ae)}:HL y o ((y,p)::r)=(y,o)::r:=by
 exact M7 (Cs y)
theorem q9{y:Nat}{o:Ae}{h:A9}(r:GT J B N Z h [(y,o)] OA){as:List An}(has:as∈OA):OA=[as]:=by
 cases r with
 |cons U G z=>
  cases z
  apply AO (List.mem_singleton.mp has);rfl
theorem re{h:A9}(r:GT J B N Z h [] OA):OA=[]:=by cases r;rfl
theorem At.frozen{y:Nat}{O:List D}(x:At T J mg mb s0 B sc k A N2 Z s ρ [(y,.hdr O)] OA):At T J mg mb s0 B sc k A N2 Z s ((y,.hdr O)::ρ) [] []:=by
 have j:lk y [(y,Ae.hdr O)]=V (.hdr O):=YR;obtain⟨Ck,p⟩:=Ek.frz x.rel j;have a:=x.post p;rw[show L5 y [(y,Ae.hdr O)]=[]from by rw[VR,if_pos rfl];rfl]at a
 have e:=re a.rel.own;rw[e]at a;exact a
theorem At.told{y:Nat}{O:List D}(x:At T J mg mb s0 B sc k A N2 Z s ρ [(y,.hdr O)] OA)(I0:∀n,(J.v n).natAbs<=2^1000)(hS:D0 Aj w T J mg mb s0 B fn C k n)(I4:EA B)(hH:MM Aj w T J mg mb s0 k){z:Nat}{Lc Lt E5 Fn p1 p2 lp bp tp pos:B9}{e e1 e2:Expr}{m m1 m2:M}
  {U:List Nat}{dv:D}{Bv:List D}{Q:EW->Ah->Prop}
  (hd:(B y==("__debug__":Av))=Ak)(LA:(E5.endLine==p1.line)=Y)(LC:(Fn.endLine==p2.line)=Y)(ok:Bu B fn fo sc e m=Y)(Cx:Bu B fn fo sc e1 m1=Y)(CH:Bu B fn fo sc e2 m2=Y)(hf:FJ sc (B z)=Y)(LS:As z y=Ak)
  (LZ:ev C n ((y,.hdr O)::ρ) [] m=V (.lst Bv))(L1:S3 Bv=Y)(L2:O≠[])(Mk:ev C n ρ (CU [(y,.hdr O)]) m1=V (.str U))(Mo:ev C n ρ (CU [(y,.hdr O)]) m2=V dv)
  (Bd:(Ja O&&JS O&&AS O)=Y)(NI:AS (O++[.tup [.str U,dv]])=Y)(F0:HY U=Y)(F1:H7 U=Y)(F2:N7 dv=Y)(F3:Nk (U.map DG) O=V Ao){d:D}(hadd:Ra .Add (.lst Bv) (.lst [dv,.lst (O++[.tup [.str U,dv]])])=V d)
  (q:∀S,Ek T J B N2 Z OA s S ((z,d)::ρ) [(y,.hdr (O++[.tup [.str U,dv]]))] OA->Q .next S):
  Ap (Aq Aj w) A (EB (.Assign [.Name (B z) tp] (.BinOp e .Add (.List [.Call (.Attribute (.Name (B y) Lc) "setdefault" E5) [e1,e2] [] p1,.Call (.Attribute (.Name (B y) Lt) "items" Fn) [] [] p2] lp) bp) pos) Z) Q E s:=by
 have hl:lk y [(y,Ae.hdr O)]=V (.hdr O):=YR;obtain⟨f,⟨⟨F4,fd,N1,Pk,Pl⟩,F5⟩,DD⟩:=hH.sdf;obtain⟨f2,⟨⟨F6,PX,F7,Gl,Go⟩,Ev⟩,X⟩:=hH.itm;refine A2 (BE ?_) rfl
 refine x.frozen.eval @hS ok LZ λva AK Gt P1=>?_
 have p:=x.ext Gt;obtain⟨hx,dx,b,I,N,hv,E3,hp,hT,h0,n1,n2,n3,occ,hr,Ix,P2,has,_⟩:=p.hmut hl;have Ru:=q9 p.rel.own has;refine O0 ?_
 rw[Fa (λt t h=>by cases h),Fa (λt t h=>by cases h)]
 refine Ax ?_
 refine Pu (IU rfl) ((Ry Cx CH)▸rfl) LA ?_
 refine(Ry Cx CH)▸ ?_
 refine hv.load x.ok.kind hd λpl=>?_
 refine F5 A _ AK hx dx b pl _ p.bs.ext E3 ?_
 refine Ba (o:=F4) (fd:=fd) (CI (Ax ?_))
 refine p.eval @hS Cx Mk λv1 By GI RF=>?_
 refine Ax ?_
 refine(p.ext GI).eval @hS CH Mo λv2 B4 R0 r=>AF ?_
 have xx:=GI.trans R0;have G0:=p.bs.step xx;refine⟨⟨G0.ext.keep2 f F4 N1 Pl,Pk⟩,?_⟩
 obtain⟨kx,kt,w1,ek⟩:=RF.inv;have P:=VS F2;obtain⟨vx,vt,w2⟩:=Rz P r;rw[w2]at r
 apply Dz w1 w2
 rw[<-ek]at F0 F1 F3;have Hd:=IT (W:=λt=>False) xx.upd hp λh=>h
 have HC:=hr.mono (N':=N) xx.fits;have HF:=AH (AH Bd).1;refine DD A E B4 hx dx b I O Ao N kx vx kt vt dv _ x.ha G0 (E3.ext xx) Hd hT h0 n1 n2 n3 (λa h=>(occ a h).ext xx) HC Bd F0 F1 (VT F2 r) P (ML P r) F3 (λd' e=>nS e) λt E4 vs' u R1 Bs=>?_
 rw[ek]at Bs;have If:=YP _ HF.1 (YO (k:=U) P);have F:=P2 B4 E4 vs' _ xx u R1 Bs If;have F:=q8▸F;have i:=p.post F;obtain⟨Il,Is,b',ws,N',R2,Ce,Sd,U2,U3,U4,U5,U6,TI,Va,TO,TP,TT,Sg⟩:=i.hmut YR;refine Ax ?_
 refine Pu (args:=[]) (IU rfl) rfl LC ?_
 refine R2.load x.ok.kind hd λpl=>?_
 refine Ev A _ E4 Il Is b' pl _ i.bs.ext Ce ?_
 refine Ba (o:=F6) (fd:=PX) (K9 (es:=[]) (ms:=[]) (B:=B) (fn:=fn) (fo:=0) (sc:=[]) rfl (AF ?_))
 refine⟨⟨i.bs.ext.keep2 f2 F6 F7 Go,Gl⟩,?_⟩
 refine X A E E4 Il Is b' ws _ (Dt N2 OA) _ x.ha i.bs Ce Sd i.occN Sg NI λvi j x5 Si=>?_
 refine AF ?_
 refine Bi ?_ (by show _<=C5;apply AO CC;exact D8 rfl)
 have Cf:=i.ext x5;have x6:BM T j {j with heap:=j.heap.push {cls:=.type "list",data:=.seq [IG vx vt,vi].toArray}}:=.push (tk:=j.toks)
 have SC:=Cf.ext x6;have hb:Rd J (Dt N2 OA) (j.heap.push {cls:=.type "list",data:=.seq [IG vx vt,vi].toArray}) (.ref j.heap.objs.size) (.lst [dv,.lst (O++[.tup [.str U,dv]])]):=
  .lst (n:=0) (I:=[.str vx vt,vi]) (Nc Cf.occN) (Ay _ rfl) (.cons (ML P r) (.cons (Si.mono x6.fits) .nil))
 have ha:Rd J (Dt N2 OA) (j.heap.push {cls:=.type "list",data:=.seq [IG vx vt,vi].toArray}) va (.lst Bv):=by
  refine qZ hp hr HF.1 L2 (λL us n It SI eL=>⟨λh=>?_,?_⟩) L1 P1
  ·rcases h with h|h
   ·exact SI (.inl h)
   ·rw[Ru,YI]at h;obtain⟨o,od,g1,g2,ho⟩:=E3.it;cases h with
    |head=>
     rw[eL]at g1;exact nomatch (congrArg D1 (sI g1)).trans ho.cls
    |tail _ h=>cases h with
     |head=>
      rw[eL]at g2;exact absurd (show CF "list"=CF "dict" from(congrArg D1 (sI g2)).trans ho.dcls) (by decide)
     |tail _ h=>exact It (List.mem_singleton.mp h)
  ·exact Au _ (x5.keep2 _ _ (u.keep2 _ _ It (xx.keep2 _ _ eL rfl) rfl) rfl)
 refine eF (T:=T) I0 SC.occN hadd ha hb λv s7 x7 r7=>?_
 have IS:=x5.trans (x6.trans x7);have Tx:=i.ext IS;refine Tx.put I4 hf (OC LS) r7 λs8 p8=>q s8 ?_
 have P4:=(Ek.of_ext x.rel Gt).trans x.bs x.rel F;exact(P4.trans x.bs x.rel (Ek.of_ext i.rel IS)).trans x.bs x.rel p8
noncomputable def PE(st:Bx)(Q:List Expr->Expr->Bool)(W:Expr->BY->Expr->Bool)(t:Expr->Bool)(X:Expr->List Bx->List Bx->Bool)(x:Expr->Expr->List Bx->List Bx->Bool)(fr:Option Expr->Bool):Bool:=U1 Ak st Q W t X x fr F2
theorem RA{st:Bx}{Q:List Expr->Expr->Bool}{W:Expr->BY->Expr->Bool}{d:Expr->Bool}{X:Expr->List Bx->List Bx->Bool}{x:Expr->Expr->List Bx->List Bx->Bool}{fr:Option Expr->Bool}{P:Prop}(h:PE st Q W d X x fr=Y)
  (U:∀ts v p,st= .Assign ts v p->Q ts v=Y->P)(G:∀t o v p,st= .AugAssign t o v p->W t o v=Y->P)(z:∀v p,st= .Expr v p->d v=Y->P)(l:∀c a b p,st= .If c a b p->X c a b=Y->P)
  (D:∀t i b e p,st= .For t i b e p->x t i b e=Y->P)(m:∀v p,st= .Return v p->fr v=Y->P):P:=by
 refine(λS=>?_:∀S,st=S->PE S Q W d X x fr=Y->P) st rfl h
 induction S using Sb with
 |Assign ts v p=>exact U ts v p
 |AugAssign t o v p=>exact G t o v p
 |Expr v p=>exact z v p
 |If c a b p=>exact l c a b p
 |For t i b e p=>exact D t i b e p
 |Return v p=>exact m v p
 |_=>exact λy=>bF
variable {st:Bx}
noncomputable def RB(st:Bx)(f:Expr->Expr->Bool):Bool:=PE st (λts v=>J2 ts λt=>f t v) F3 F1 F3 F4 F1
theorem S9{f:Expr->Expr->Bool}(h:RB st f=Y):Pj (λt v p=>st= .Assign [t] v p) λt v z=>f t v=Y:=
 RA h (λts v p e h=>by obtain⟨t,U,G⟩:=Jr h;exact⟨t,v,p,by rw[e];apply AO U;rfl,G⟩) b5 b3 b5 b6 b3
noncomputable def YS(st:Bx)(f:Expr->BY->Expr->Bool):Bool:=PE st F2 f F1 F3 F4 F1
theorem gQ{f:Expr->BY->Expr->Bool}(h:YS st f=Y):NN (λt o v p=>st= .AugAssign t o v p) λt o v z=>f t o v=Y:=
 RA h b4 (λt o v p e h=>⟨t,o,v,p,e,h⟩) b3 b5 b6 b3
noncomputable def YT(st:Bx)(f:Expr->Bool):Bool:=PE st F2 F3 f F3 F4 F1
theorem gT{f:Expr->Bool}(h:YT st f=Y):LW (λv p=>st= .Expr v p) λv z=>f v=Y:=
 RA h b4 b5 (λv p e h=>⟨v,p,e,h⟩) b5 b6 b3
noncomputable def YU(st:Bx)(f:Expr->List Bx->List Bx->Bool):Bool:=PE st F2 F3 F1 f F4 F1
theorem gU{f:Expr->List Bx->List Bx->Bool}(h:YU st f=Y):NN (λc a b p=>st= .If c a b p) λc a b z=>f c a b=Y:=
 RA h b4 b5 b3 (λc a b p e h=>⟨c,a,b,p,e,h⟩) b6 b3
noncomputable def gV(st:Bx)(f:Expr->Expr->List Bx->Bool):Bool:=PE st F2 F3 F1 F3 (λt i b e=>e.isEmpty&&f t i b) F1
theorem rf{f:Expr->Expr->List Bx->Bool}(h:gV st f=Y):NN (λt i b p=>st= .For t i b [] p) λt i b z=>f t i b=Y:=
 RA h b4 b5 b3 b5 (λt i b e p q h=>⟨t,i,b,p,by rw[q];apply AO (jE (AH h).1);rfl,(AH h).2⟩) b3
noncomputable def rg{z:Type}(o:Option z)(f:z->Bool):Bool:=match o with
 |none=>Ak
 |some a=>f a
noncomputable def gW(st:Bx)(f:Expr->Bool):Bool:=PE st F2 F3 F1 F3 F4 λv=>rg v f
theorem rh{f:Expr->Bool}(h:gW st f=Y):LW (λv p=>st= .Return (V v) p) λv z=>f v=Y:=
 RA h b4 b5 b3 b5 b6 λv p e h=>by
  induction v with
  |none=>exact bF h
  |some v=>exact⟨v,p,e,h⟩
noncomputable def YV(e:Expr)(f:Av->B9->Bool):Bool:=J1 e f F3 F2 F3 F4 F3 F4 F3 F4 F3 F4 F4 F3 F4
theorem gX{f:Av->B9->Bool}(h:YV e f=Y):LW (λx y=>e= .Name x y) λx y=>f x y=Y:=K7 h (λx y q h=>⟨x,y,q,h⟩) b4 b3 b4 b5 b4 b5 b4 b5 b4 b5 b5 b4 b5
noncomputable def YW(e:Expr):Bool:=Vt e Sl
theorem gY(h:YW e=Y):∃p,e= .List [] p:=by
 obtain⟨xs,p,e,h⟩:=Vu h;exact⟨p,by rw[e];apply AO (jE h);rfl⟩
noncomputable def Us(a:M):Bool:=match a with
 | .lst l=>l.isEmpty
 |_=>Ak
theorem ri{a:M}(h:Us a=Y):a= .lst []:=by
 induction a using M.casesOn with
 |lst l=>apply AO (jE h);rfl
 |_=>exact bF h
noncomputable def gZ(m:M):Bool:=match m with
 | .comp a X=>Us a&&J2 X λz=>Y
 |_=>Ak
theorem rj{m:M}(h:gZ m=Y):∃c,m= .comp (.lst []) [c]:=by
 induction m using M.casesOn with
 |comp a X=>
  obtain⟨c,U,_⟩:=Jr (AH h).2;exact⟨c,by apply Dz (ri (AH h).1) U;rfl⟩
 |_=>exact bF h
noncomputable def Qq(B:Nat->Av)(sc:List (Av×AC))(id:Av)(x:Nat):Bool:=id==B x&&(FJ sc id&&id != ("__debug__":Av))
noncomputable def ON(B:Nat->Av)(sc:List (Av×AC))(st:Bx)(x:Nat)(f:Expr->Bool):Bool:=RB st λt v=>K8 t λid=>Qq B sc id x&&f v
noncomputable def Ta(B:Nat->Av)(sc:List (Av×AC))(e:Expr)(x:Nat)(name:Av)(f:List Expr->Bool):Bool:=SS e λb me as=>me==name&&(K8 b (λid=>Qq B sc id x)&&f as)
noncomputable def Tb(B:Nat->Av)(sc:List (Av×AC))(st:Bx)(x:Nat)(name:Av)(f:List Expr->Bool):Bool:=YT st λc=>Ta B sc c x name f
noncomputable def Tc(B:Nat->Av)(sc:List (Av×AC))(e:Expr)(x:Nat)(f:Expr->Bool):Bool:=SQ e λb i=>K8 b (λid=>Qq B sc id x)&&f i
noncomputable def VU(B:Nat->Av)(sc:List (Av×AC))(st:Bx)(x y:Nat)(f:Expr->Expr->Bool):Bool:=RB st λt v=>NX t (λes=>NY es λa b=>YV a λX p1=>YV b λF p2=>
 (Qq B sc X x&&Qq B sc F y)&&((sc.lookup X==V .local&&sc.lookup F==V .local)&&p1.line==p2.line))&&NX v λI=>NY I f
noncomputable def J5(B fn:Nat->Av)(fo:Nat)(sc:List (Av×AC))(ok:List Bx->List Ad->Bool)(st:Bx)(s:Ad):Bool:=match s with
 | .asg t CZ e=>(match CZ with
  |true=>J2 t λx=>ON B sc st x λv=>Bu B fn fo sc v e&&Qp v e
  |false=>RB st λtgt v=>NX tgt λj=>LF B sc tgt t Ak&&((t.all λx=>FJ sc (B x))&&(YG sc j v&&Bu B fn fo sc v e)))
 | .anew x e=>ON B sc st x λv=>Bu B fn fo sc v e&&Pv e
 | .nnew x e=>ON B sc st x λv=>Bu B fn (fo+1) sc v e&&(gZ e&&Vx v λW m m=>YW W)
 | .aug x o e=>YS st λt P v=>K8 t λid=>Qq B sc id x&&(o==P&&Bu B fn fo sc v e)
 | .app x e=>Tb B sc st x "append" λas=>J2 as λv=>Bu B fn fo sc v e
 | .ext x e=>Tb B sc st x "extend" λas=>J2 as λv=>Bu B fn fo sc v e
 | .set x i e=>RB st λt v=>Tc B sc t x λf=>Bu B fn fo sc v e&&Bu B fn fo sc f i
 | .next x i e=>YT st λc=>SS c λb me as=>me==("extend":Av)&&(J2 as (λv=>Bu B fn fo sc v e)&&Tc B sc b x λf=>Bu B fn fo sc f i)
 | .hnew x=>ON B sc st x λv=>Vy v λg as=>(g==("Headers":Av)&&sc.lookup g==V .globalImplicit)&&J2 as YW
 | .hadd x a b=>Tb B sc st x "add_header" λas=>NY as λv u=>Bu B fn fo sc v a&&Bu B fn fo sc u b
 | .ite c a b=>YU st λd body F=>Bu B fn fo sc d c&&(ok body a&&ok F b)
 | .loop t CZ k it body=>gV st λtgt iter b=>(Rw (Bu B fn fo sc) sc tgt k it iter||ch (Bu B fn fo sc) sc k it iter)&&(LF B sc tgt t CZ&&((t.all λx=>FJ sc (B x))&&ok b body))
 | .ret e=>gW st λv=>Bu B fn fo sc v e
 | .rev x=>Tb B sc st x "reverse" λas=>as.isEmpty
 | .saug x i o e=>YS st λt P v=>Tc B sc t x λf=>o==P&&(Bu B fn fo sc v e&&Bu B fn fo sc f i)
 | .sw x y a b=>VU B sc st x y λe1 e2=>(Bu B fn fo sc e1 a&&Bu B fn fo sc e2 b)&&(!(EO 8 e1&&EO 8 e2)&& !(Eu 8 e1&&Eu 8 e2))
 | .hset x a b=>RB st λt v=>Tc B sc t x λf=>Bu B fn fo sc v b&&Bu B fn fo sc f a
 | .hsd x a b c=>YU st λd m h=>h.isEmpty&&XO d λv ops p=>J2 ops (λo=>o==.NotEq)&&(Ta B sc v x "setdefault" (λas=>NY as λu w=>Bu B fn fo sc u a&&Bu B fn fo sc w b)&&J2 p λe=>Bu B fn fo sc e c)
 | .told z x e a b=>ON B sc st z λv=>Rg v λl o r=>o==.Add&&(Bu B fn fo sc l e&&Vt r λxs=>NY xs λc1 c2=>Ta B sc c1 x "setdefault" (λas=>NY as λu w=>Bu B fn fo sc u a&&Bu B fn fo sc w b)&&Ta B sc c2 x "items" Sl)
 | .frz _=>Ak
 | .bad=>Ak
noncomputable def g0(b c:Bool)(s:Ad):Bool:=Ad.casesOn (motive_1:=λz=>Bool) s (λz z z=>Ak) (λz z=>Ak) (λz z=>Ak) (λz z z=>Ak) (λz z=>Ak) (λz z=>Ak) (λz z z=>Ak) (λz z z=>Ak) (λz=>Ak) (λz z z=>Ak) (λz z z=>Ak) (λz z z z z=>Ak) (λz=>Ak) (λz=>c) b (λz=>Ak) (λz z z z=>Ak) (λz z z z=>Ak) (λz z z=>Ak) (λz z z z=>Ak) (λz z z z z=>Ak)
noncomputable def g7(s:Ad):Bool:=g0 Ak Y s
noncomputable def g8(s:Ad):Bool:=g0 Y Ak s
noncomputable def rk(B fn:Nat->Av)(fo:Nat)(sc:List (Av×AC))(ok:List Bx->List Ad->Bool)(j:List Bx)(F:List Ad):Bool:=match F with
 |[]=>j.isEmpty
 |s::r=>LG (g7 s) (ok j r) (LG (g8 s) r.isEmpty (XW j λst j=>J5 B fn fo sc ok st s&&ok j r))
noncomputable def KQ(B fn:Nat->Av)(fo:Nat)(sc:List (Av×AC)):Nat->List Bx->List Ad->Bool
 |0=>λz z=>Ak
 |f+1=>rk B fn fo sc (KQ B fn fo sc f)
theorem RC{id:Av}{x:Nat}(h:Qq B sc id x=Y):id=B x/\FJ sc (B x)=Y/\(B x==("__debug__":Av))=Ak:=by
 have e:=AA (AH h).1;refine e▸ ?_
 exact⟨rfl,(AH (AH h).2).1,(A4 _).mp (AH (AH h).2).2⟩
inductive cw(B:Nat->Av)(sc:List (Av×AC))(st:Bx)(x:Nat)(f:Expr->Bool):Prop
 |mk (np:B9) (v:Expr) (pos:B9) (e:st= .Assign [.Name (B x) np] v pos) (hf:FJ sc (B x)=Y) (h:f v=Y)
theorem PF{st:Bx}{x:Nat}{f:Expr->Bool}(h:ON B sc st x f=Y):cw B sc st x f:=by
 obtain⟨t,v,p,e,h⟩:=S9 h;obtain⟨id,Q,e1,h⟩:=MI h;obtain⟨e2,a,_⟩:=RC (AH h).1;exact⟨Q,v,p,by apply AO e;rw[e1,e2],a,(AH h).2⟩
inductive cy(B:Nat->Av)(sc:List (Av×AC))(e:Expr)(x:Nat)(name:Av)(f:List Expr->Bool):Prop
 |mk (np ap:B9) (as:List Expr) (p:B9) (e1:e= .Call (.Attribute (.Name (B x) np) name ap) as [] p) (hf:FJ sc (B x)=Y) (hd:(B x==("__debug__":Av))=Ak) (hl:(ap.endLine==p.line)=Y) (h:f as=Y)
theorem VV{e:Expr}{x:Nat}{name:Av}{f:List Expr->Bool}(h:Ta B sc e x name f=Y):cy B sc e x name f:=by
 obtain⟨b,me,D,as,p,e1,j,_,h⟩:=Vz h;obtain⟨id,Q,e2,G⟩:=MI (AH (AH h).2).1;obtain⟨X,t,hd⟩:=RC G;exact⟨Q,D,as,p,by apply AO e1;rw[e2,X,AA (AH h).1],t,hd,j,(AH (AH h).2).2⟩
inductive cz(B:Nat->Av)(sc:List (Av×AC))(st:Bx)(x:Nat)(name:Av)(f:List Expr->Bool):Prop
 |mk (np ap:B9) (as:List Expr) (p pos:B9) (e:st= .Expr (.Call (.Attribute (.Name (B x) np) name ap) as [] p) pos) (hf:FJ sc (B x)=Y) (hd:(B x==("__debug__":Av))=Ak) (hl:(ap.endLine==p.line)=Y) (h:f as=Y)
theorem VW{st:Bx}{x:Nat}{name:Av}{f:List Expr->Bool}(h:Tb B sc st x name f=Y):cz B sc st x name f:=by
 obtain⟨c,pos,e,h⟩:=gT h;obtain⟨Q,D,as,p,e1,t,hd,j,h⟩:=VV h;exact⟨Q,D,as,p,pos,by rw[e];apply AO e1;rfl,t,hd,j,h⟩
inductive rl(B:Nat->Av)(sc:List (Av×AC))(e:Expr)(x:Nat)(f:Expr->Bool):Prop
 |mk (np:B9) (i:Expr) (p:B9) (e1:e= .Subscript (.Name (B x) np) i p) (hd:(B x==("__debug__":Av))=Ak) (h:f i=Y)
theorem VX{e:Expr}{x:Nat}{f:Expr->Bool}(h:Tc B sc e x f=Y):rl B sc e x f:=by
 obtain⟨b,i,p,e,h⟩:=Vv h;obtain⟨id,Q,e2,G⟩:=MI (AH h).1;obtain⟨X,_,hd⟩:=RC G;exact⟨Q,i,p,by apply AO e;rw[e2,X],hd,(AH h).2⟩
inductive rm(B:Nat->Av)(sc:List (Av×AC))(st:Bx)(x y:Nat)(f:Expr->Expr->Bool):Prop
 |mk (p1 p2:B9) (kx:Nat) (tp:B9) (a b:Expr) (k2:Nat) (vp pos:B9) (e:st= .Assign [.Tuple [.Name (B x) p1,.Name (B y) p2] kx tp] (.Tuple [a,b] k2 vp) pos) (hx:FJ sc (B x)=Y) (hy:FJ sc (B y)=Y)
  (lx:(sc.lookup (B x)==V .local)=Y) (ly:(sc.lookup (B y)==V .local)=Y) (hl:(p1.line==p2.line)=Y) (h:f a b=Y)
theorem cA{st:Bx}{x y:Nat}{f:Expr->Expr->Bool}(h:VU B sc st x y f=Y):rm B sc st x y f:=by
 obtain⟨t,v,pos,e,h⟩:=S9 h;obtain⟨es,kx,tp,e1,U⟩:=Qh (AH h).1;obtain⟨I,k2,vp,e2,G⟩:=Qh (AH h).2;obtain⟨a,b,X,z⟩:=NZ G;obtain⟨u,w,g,l⟩:=NZ U;obtain⟨i,p1,E,D⟩:=gX l;obtain⟨F,p2,k,m⟩:=gX D;obtain⟨c,L,_⟩:=RC (AH (AH m).1).1;obtain⟨d,A,_⟩:=RC (AH (AH m).1).2;have j:=AH (AH m).2;rw[c,d]at j;exact⟨p1,p2,kx,tp,a,b,k2,vp,pos,by apply AO e;rw[e1,e2,X,g,E,k,c,d],L,A,(AH j.1).1,(AH j.1).2,j.2,z⟩
theorem GF.trans{Bv:Dq}{f:EW}(bs:Bs T mg mb s0 s)(r:EQ T J B N2 Z s.heap ρ ow OA)(p:Ek T J B N2 Z OA s S A6 Dh Ck)(h:GF T J B N2 Z Ck S Bv f DK):GF T J B N2 Z OA s Bv f DK:=by
 induction Bv with
 |next X ow1=>
  obtain⟨e,OA1,q⟩:=h;exact⟨e,OA1,p.trans bs r q⟩
 |ret d=>
  obtain⟨v,e,Q,u⟩:=h;exact⟨v,e,Q,p.upd.seq u λa h=>h.elim (λh=>.inl (.inl h)) λh=>(p.new a h).elim (λh=>.inl (.inr h)) .inr⟩
theorem ro{f:Expr}{xs:List Expr}{N:List ES}{p:B9}(v:Ag):B1 (.Call f xs N p) Z v=BU v:=rfl
theorem g9{iter:Expr}{ms:List M}{name:Av}(h:MJ (Bu B fn fo sc) sc name iter ms=Y)(v:Ag):B1 iter Z v=BU v:=by
 obtain⟨id,q,xs,p,e,_⟩:=SR h
 apply AO e;exact ro v
theorem rp{tgt iter:Expr}{u:Nat}{ms:List M}(h:Rw (Bu B fn fo sc) sc tgt u ms iter=Y):∀v,B1 iter Z v=BU v:=by
 have h:(match As u 2 with
  |true=>MJ (Bu B fn fo sc) sc "zip" iter ms&&NX tgt λz=>Y
  |false=>(match As u 4 with
   |true=>MJ (Bu B fn fo sc) sc "reversed" iter ms&&As ms.length 1
   |false=>SW (Bu B fn fo sc) sc u ms iter))=Y:=h
 cases q:As u 2 with
 |true=>rw[q]at h;exact g9 (AH h).1
 |false=>
  rw[q]at h;cases q:As u 4 with
  |true=>rw[q]at h;exact g9 (AH h).1
  |false=>rw[q]at h;exact Yi h Z
def Td(Aj:Bh)(w:Ca)(T:An->Prop)(J:Sg)(mg mb:Av->Option Ag)(s0:Ah)(B fn:Nat->Av)(C:Nat->List D->Option D)(k n:Nat):Prop:=
 ∀(A:A1) (E:Ag->Ah->Prop) (Z:DS) (sc:List (Av×AC)) (N2:An->Prop) (s:Ah) (ρ:List (Nat×D)) (ow:List (Nat×Ae)) (OA:List (List An)) (fo f:Nat) (stmts:List Bx) (F:List Ad) (Bv:Dq),
  At T J mg mb s0 B sc k A N2 Z s ρ ow OA->KQ B fn fo sc f stmts F=Y->CL C n F ρ ow=V Bv->Ap (Aq Aj w) A (C4 stmts Z) (GF T J B N2 Z OA s Bv) E s
def Nv(Aj:Bh)(w:Ca)(A:A1)(E:Ag->Ah->Prop)(T:An->Prop)(J:Sg)(B:Nat->Av)(C:Nat->List D->Option D)(n:Nat)(N2:An->Prop)(Z:DS)(OA:List (List An))(s:Ah)(rest:List Bx)(r:List Ad)(Bv:Dq):Prop:=
 ∀S A6 Dh Ck,Ek T J B N2 Z OA s S A6 Dh Ck->CL C n r A6 Dh=V Bv->Ap (Aq Aj w) A (C4 rest Z) (GF T J B N2 Z OA s Bv) E S
theorem At.go{rest:List Bx}{r:List Ad}{Bv:Dq}(go:Nv Aj w A E T J B C n N2 Z OA s rest r Bv){st:Bx}(h:∀Q:EW->Ah->Prop,(∀S Ck,Ek T J B N2 Z OA s S A6 Dh Ck->Q .next S)->Ap (Aq Aj w) A (EB st Z) Q E s)(i:CL C n r A6 Dh=V Bv):
  Ap (Aq Aj w) A (C4 (st::rest) Z) (GF T J B N2 Z OA s Bv) E s:=Aw (h _ λS Ck p=>go S A6 Dh Ck p i)
def rq(o:Option Dq)(g:List (Nat×D)->List (Nat×Ae)->Option Dq)(Bv:Dq):Prop:=match o with
 |none=>False
 |some (.next ρ ow)=>g ρ ow=V Bv
 |some (.ret d)=>Bv= .ret d
theorem rt{o:Option Dq}{g:List (Nat×D)->List (Nat×Ae)->Option Dq}{Bv:Dq}(h:HM o g=V Bv):rq o g Bv:=by
 induction o with
 |none=>exact nS h
 |some o=>
  induction o with
  |next ρ ow=>exact h
  |ret d=>exact(sI h).symm
theorem At.then_(x:At T J mg mb s0 B sc k A N2 Z s ρ ow OA){rest:List Bx}{r:List Ad}{Bv:Dq}(go:Nv Aj w A E T J B C n N2 Z OA s rest r Bv){st:Bx}{o:Option Dq}(h:HM o (CL C n r)=V Bv)
  (i:∀j,o=V j->Ap (Aq Aj w) A (EB st Z) (GF T J B N2 Z OA s j) E s):Ap (Aq Aj w) A (C4 (st::rest) Z) (GF T J B N2 Z OA s Bv) E s:=by
 refine Aw ?_
 have h:=rt h
 induction o with
 |none=>exact h.elim
 |some o=>
  refine AM (i _ rfl) (λF S q=>?_) λz z e=>e
  induction o with
  |next A6 Dh=>
   obtain⟨e,Ck,p⟩:=q;exact e▸go S A6 Dh Ck p h
  |ret d=>
   obtain⟨v,e,y⟩:=q
   apply Dz e (show Bv= .ret d from h)
   exact⟨v,rfl,y⟩
theorem At.execs_If(x:At T J mg mb s0 B sc k A N2 Z s ρ ow OA)(q:HZ Aj w T J mg mb s0 B fn C k n)(r:Td Aj w T J mg mb s0 B fn C k n){pos:B9}{i:Expr}{m:M}{d:D}{t:Bool}{body F:List Bx}{a b:List Ad}{fo f:Nat}{Bv:Dq}
  (j:Bu B fn fo sc i m=Y)(X:ev C n ρ (CU ow) m=V d)(y:OF d=V t)(U:KQ B fn fo sc f body a=Y)(L:KQ B fn fo sc f F b=Y)(Q:CL C n (if t then a else b) ρ ow=V Bv):
  Ap (Aq Aj w) A (EB (.If i body F pos) Z) (GF T J B N2 Z OA s Bv) E s:=by
 refine x.iff @q j X y λS p=>?_
 have W:=x.ext p;refine AM (r A E Z sc N2 S ρ ow OA fo f _ _ Bv W (by induction t;exact L;exact U) Q) (λP DK N=>N.trans x.bs x.rel (.of_ext x.rel p)) λz z e=>e
theorem Te{x:Nat}(h:J4 [x] ow=Y):lk x ow=Ao:=Rx h x (.head _)
theorem ru{x y:Nat}(h:(J4 [x,y] ow&& !As x y)=Y):lk x ow=Ao/\lk y ow=Ao/\x≠y:=by
 refine⟨Rx (AH h).1 x (.head _),Rx (AH h).1 y (.tail _ (.head _)),λe=>?_⟩
 have:=(AH h).2;rw[e,Cs]at this;exact bF this
inductive cC(B fn:Nat->Av)(fo:Nat)(sc:List (Av×AC))(stmts:List Bx)(x:Ad)(r:List Ad):Prop
 |mk (f:Nat) (st:Bx) (rest:List Bx) (e:stmts=st::rest) (h:J5 B fn fo sc (KQ B fn fo sc f) st x=Y) (hr:KQ B fn fo sc f rest r=Y)
theorem Jv{f:Nat}{stmts:List Bx}{x:Ad}{r:List Ad}(U:g7 x=Ak)(G:g8 x=Ak)(h:KQ B fn fo sc f stmts (x::r)=Y):cC B fn fo sc stmts x r:=by
 cases f with
 |zero=>exact bF h
 |succ f=>
  have h:=Ug G (Ug U h)
  induction stmts with
  |nil=>exact bF h
  |cons st rest=>exact⟨f,st,rest,rfl,(AH h).1,(AH h).2⟩
theorem rz{f:Nat}{stmts:List Bx}(h:KQ B fn fo sc f stmts []=Y):stmts=[]:=by
 induction f with
 |zero=>exact bF h
 |succ f=>exact jE h
theorem rA{f y:Nat}{stmts:List Bx}{r:List Ad}(h:KQ B fn fo sc f stmts (.frz y::r)=Y):∃f,KQ B fn fo sc f stmts r=Y:=by
 induction f with
 |zero=>exact bF h
 |succ f=>exact⟨f,h⟩
theorem YX{y:Nat}{d:D}:∀z e,lk z ((y,d)::Dn [y] ρ)=V e->lk z ((y,d)::ρ)=V e:=PC λx x h=>S7 h
theorem cE:Nl 3=λO=>BG (K4 O) λd=>H3 d λs=>CB (IP s) (V (La (Jt Ak 0 s))):=rfl
section
variable {st:Bx} {rest:List Bx} {r:List Ad} {Bv:Dq} (x:At T J mg mb s0 B sc k A N2 Z s ρ ow OA) (go:Nv Aj w A E T J B C n N2 Z OA s rest r Bv)
include x go
theorem rB{t:List Nat}{CZ:Bool}{e:M}(N:EA B)(a:∀m,D0 Aj w T J mg mb s0 B fn C k m/\HZ Aj w T J mg mb s0 B fn C k m){ok:List Bx->List Ad->Bool}(h:J5 B fn fo sc ok st (.asg t CZ e)=Y)(H:CL C (n+1) (.asg t CZ e::r) ρ ow=V Bv):
  Ap (Aq Aj w) A (C4 (st::rest) Z) (GF T J B N2 Z OA s Bv) E s:=by
 obtain⟨d,X,L⟩:=Cn H;obtain⟨b,z⟩:=De L;obtain⟨i,F,r3⟩:=Cn z
 induction CZ with
 |true=>
  obtain⟨y,D,h⟩:=Jr h;obtain⟨o,v,pos,e1,l,h⟩:=PF h;rw[D]at b F;have r3:=(sI F)▸r3
  apply AO e1
  induction n with
  |zero=>exact nS X
  |succ n=>exact At.go go (λQ q=>x.asg (a n).1 (a n).2 (a (n+1)).1 N (AH h).1 l (AH h).2 X (Te b) λS p=>q S OA (p.less YX)) r3
 |false=>
  obtain⟨tgt,v,pos,e1,h⟩:=S9 h;obtain⟨j,kx,tp,e2,h⟩:=Qh h;obtain⟨U,h⟩:=AH h;obtain⟨G,h⟩:=AH h;obtain⟨Bt,f,c⟩:=qv F;rw[e2]at U;rw[e1];apply AO e2
  exact At.go go (λQ q=>x.asgT (a n).1 N (AH h).2 (λy g=>⟨D9 G y g,Rx b y g⟩) U (AH h).1 X f λS p=>q S OA (p.less c)) r3
theorem rC{y:Nat}{e:M}(N:EA B)(a:∀m,D0 Aj w T J mg mb s0 B fn C k m/\HZ Aj w T J mg mb s0 B fn C k m){ok:List Bx->List Ad->Bool}(h:J5 B fn fo sc ok st (.anew y e)=Y)(H:CL C (n+1) (.anew y e::r) ρ ow=V Bv):
  Ap (Aq Aj w) A (C4 (st::rest) Z) (GF T J B N2 Z OA s Bv) E s:=by
 obtain⟨d,X,H⟩:=Cn H;obtain⟨O,hd,H⟩:=LY H;obtain⟨b,H⟩:=De H;obtain⟨c,v,pos,e1,t,h⟩:=PF h;rw[hd]at X
 apply AO e1
 induction n with
 |zero=>exact nS X
 |succ n=>exact At.go go (λQ q=>x.anew (a n).1 (a n).2 N (AH h).1 t (AH h).2 X (Te (AH b).1) λL S p=>q S _ p) H
theorem rE{y:Nat}{e:M}(N:EA B)(b:∀m,D0 Aj w T J mg mb s0 B fn C k m/\HZ Aj w T J mg mb s0 B fn C k m){ok:List Bx->List Ad->Bool}(h:J5 B fn fo sc ok st (.nnew y e)=Y)(H:CL C (n+1) (.nnew y e::r) ρ ow=V Bv):
  Ap (Aq Aj w) A (C4 (st::rest) Z) (GF T J B N2 Z OA s Bv) E s:=by
 obtain⟨d,X,H⟩:=Cn H;obtain⟨O,hd,H⟩:=LY H;obtain⟨f,H⟩:=De H;obtain⟨i,v,pos,e1,t,h⟩:=PF h;obtain⟨U,h⟩:=AH h;obtain⟨c,e2⟩:=rj (AH h).1;obtain⟨W,gens,scope,vp,g,h⟩:=XS (AH h).2;obtain⟨z,a⟩:=gY h;rw[e2,g,a]at U;rw[hd,e2]at X;rw[e1,g];apply AO a
 induction n with
 |zero=>exact nS X
 |succ n=>exact At.go go (λQ q=>x.nnew (b n).1 (b n).2 N U t X (AH f).2 (Te (AH f).1) λS Ck p=>q S _ p) H
theorem rF{t:List Nat}{CZ:Bool}{u:Nat}{it:List M}{body:List Ad}(N:EA B)(hS:D0 Aj w T J mg mb s0 B fn C k n)(p:L6 Aj w T J mg mb s0 k)(X:Td Aj w T J mg mb s0 B fn C k n){f:Nat}(h:J5 B fn fo sc (KQ B fn fo sc f) st (.loop t CZ u it body)=Y)
  (H:CL C (n+1) (.loop t CZ u it body::r) ρ ow=V Bv):Ap (Aq Aj w) A (C4 (st::rest) Z) (GF T J B N2 Z OA s Bv) E s:=by
 obtain⟨O,D4,H⟩:=Cn H;obtain⟨items,c,H⟩:=Cn H;obtain⟨tgt,iter,b,pos,e1,h⟩:=rf h;obtain⟨U,h⟩:=AH h;obtain⟨G,h⟩:=AH h;obtain⟨z,h4⟩:=AH h;have g:=λy hy=>D9 z y hy
 have i:∀(Js:An->Prop) (S:Ah) (A6:List (Nat×D)) (Dh:List (Nat×Ae)) (Ck:List (List An)) (e:Dq) (o:Ag->Ah->Prop),At T J mg mb s0 B sc k A Js Z S A6 Dh Ck->CL C n body A6 Dh=V e->
   Ap (Aq Aj w) A (C4 b Z) (GF T J B Js Z Ck S e) o S:=λJs S A6 Dh Ck e o F hr=>X A o Z sc Js S A6 Dh Ck fo f b body e F h4 hr
 apply AO e1
 refine x.then_ go H λe L=>?_
 rcases(AT _ _).mp U with U|U
 ·exact x.loop @hS N U G g (rp U) D4 c i L
 ·obtain⟨g1,P⟩:=AH U;obtain⟨id,np,as,cp,e2,U⟩:=SR (AH P).1;obtain⟨R,U⟩:=AH U;obtain⟨j,U⟩:=AH U;obtain⟨m,e3⟩:=gE (AH P).2;rw[e3]at U D4;obtain⟨a,Bd,e4,W,h6⟩:=Qj U;rw[show u=3 from AB g1,cE]at c;obtain⟨d,hd,e5⟩:=Pn D4;rw[e5]at c;obtain⟨str,e6,c⟩:=HJ c;obtain⟨l,c⟩:=De c;rw[<-sI c]at L;rw[AA R]at e2 j;rw[e6]at hd;rw[e2,e4];apply AO (Pq h6)
  exact p.gen A E B Z sc N2 s ρ ow OA tgt np cp pos a b t CZ str e (CL C n body) x N (AA j) (J3 W) (λo Q q=>x.eval @hS W hd λv S F r'=>by
   obtain⟨xs,tk,e7,e8⟩:=r'.inv
   apply AO e7;exact q _ _ S F e8) l G g i L
end
section
variable {st:Bx} {rest:List Bx} {r:List Ad} {Bv:Dq} {ok:List Bx->List Ad->Bool} (x:At T J mg mb s0 B sc k A N2 Z s ρ ow OA) (hS:D0 Aj w T J mg mb s0 B fn C k n) (go:Nv Aj w A E T J B C n N2 Z OA s rest r Bv)
include x hS go
theorem rG{y:Nat}{o:BY}{e:M}(c:∀n,(J.v n).natAbs<=2^1000)(N:EA B)(h:J5 B fn fo sc ok st (.aug y o e)=Y)(H:CL C (n+1) (.aug y o e::r) ρ ow=V Bv):Ap (Aq Aj w) A (C4 (st::rest) Z) (GF T J B N2 Z OA s Bv) E s:=by
 obtain⟨a,j,H⟩:=Cn H;obtain⟨b,X,H⟩:=Cn H;obtain⟨d,g,H⟩:=Cn H;obtain⟨f,H⟩:=De H;obtain⟨t,P,v,pos,e1,h⟩:=gQ h;obtain⟨id,m,e2,h⟩:=MI h;obtain⟨i,k,_⟩:=RC (AH h).1;obtain⟨l,h⟩:=AH (AH h).2;rw[e1,e2,i];apply CE (AA l)
 exact At.go go (λQ q=>x.aug c @hS N h k (Te f) j X g λS p=>q S OA (p.less YX)) H
theorem rH{y:Nat}{e:M}(h:J5 B fn fo sc ok st (.app y e)=Y)(H:CL C (n+1) (.app y e::r) ρ ow=V Bv):Ap (Aq Aj w) A (C4 (st::rest) Z) (GF T J B N2 Z OA s Bv) E s:=by
 obtain⟨d,X,H⟩:=Cn H;obtain⟨O,j,H⟩:=S4 H;obtain⟨b,H⟩:=De H;obtain⟨f,D,as,p,pos,e1,t,hd,a,h⟩:=VW h;obtain⟨v,e2,h⟩:=Jr h;rw[e1];apply AO e2
 exact At.go go (λQ q=>qm @hS x.ha x.ok x.hm x.bs x.rel x.occ (by rw[<-x.ok.kindOf];exact gC x.ok t) hd a h X j b λS u c=>q S OA (.change c u)) H
theorem rI{y:Nat}{e:M}(h:J5 B fn fo sc ok st (.ext y e)=Y)(H:CL C (n+1) (.ext y e::r) ρ ow=V Bv):Ap (Aq Aj w) A (C4 (st::rest) Z) (GF T J B N2 Z OA s Bv) E s:=by
 obtain⟨d,X,H⟩:=Cn H;obtain⟨es,c,H⟩:=LY H;obtain⟨O,j,H⟩:=S4 H;obtain⟨b,H⟩:=De H;obtain⟨g,D,as,p,pos,e1,t,hd,a,h⟩:=VW h;obtain⟨v,e2,h⟩:=Jr h;rw[c]at X;rw[e1];apply AO e2
 exact At.go go (λQ q=>qo @hS x.ha x.ok x.hm x.bs x.rel x.occ hd a h X j b λS u f=>q S OA (.change f u)) H
theorem rJ{y:Nat}{i e:M}(h:J5 B fn fo sc ok st (.set y i e)=Y)(H:CL C (n+1) (.set y i e::r) ρ ow=V Bv):Ap (Aq Aj w) A (C4 (st::rest) Z) (GF T J B N2 Z OA s Bv) E s:=by
 obtain⟨d,X,H⟩:=Cn H;obtain⟨f,g,H⟩:=Cn H;obtain⟨j,b,H⟩:=Pz H;obtain⟨O,a,H⟩:=S4 H;obtain⟨F,H⟩:=De H;obtain⟨t,v,pos,e1,h⟩:=S9 h;obtain⟨k,z,l,e2,hd,h⟩:=VX h;rw[b]at g;rw[YE]at H;rw[e1];apply AO e2
 exact At.go go (λQ q=>qp @hS x.ha x.ok x.hm x.bs x.rel x.occ hd (AH h).1 (AH h).2 X g a (IC (AH F).2) (D8 (AH F).1) λS u c=>q S OA (.change c u)) H
theorem rK{y:Nat}{i e:M}(h:J5 B fn fo sc ok st (.next y i e)=Y)(H:CL C (n+1) (.next y i e::r) ρ ow=V Bv):Ap (Aq Aj w) A (C4 (st::rest) Z) (GF T J B N2 Z OA s Bv) E s:=by
 obtain⟨t,g,H⟩:=Cn H;obtain⟨j,m,H⟩:=Pz H;obtain⟨d,X,H⟩:=Cn H;obtain⟨es,o,H⟩:=LY H;obtain⟨u,G,H⟩:=pO H;obtain⟨O,l,H⟩:=Cn H;obtain⟨F,H⟩:=De H;obtain⟨c,pos,e1,h⟩:=gT h;obtain⟨b,me,D,as,p,e2,f,_,h⟩:=Vz h;obtain⟨k,h⟩:=AH h;obtain⟨v,L,U⟩:=Jr (AH h).1;obtain⟨N,z,P,a,hd,h⟩:=VX (AH h).2;rw[m]at g;rw[o]at X;rw[SE]at l;rw[YE]at H;rw[e1,e2,L,a];apply AO (AA k)
 exact At.go go (λQ q=>x.next @hS hd f U h X g G (IC (AH F).2) l (AH F).1 λS p=>q S OA p) H
theorem rM{y:Nat}(N:EA B)(c:L6 Aj w T J mg mb s0 k)(h:J5 B fn fo sc ok st (.hnew y)=Y)(H:CL C (n+1) (.hnew y::r) ρ ow=V Bv):Ap (Aq Aj w) A (C4 (st::rest) Z) (GF T J B N2 Z OA s Bv) E s:=by
 obtain⟨b,H⟩:=De H;obtain⟨e,v,pos,e1,t,h⟩:=PF h;obtain⟨P,j,as,f,e2,h⟩:=SR h;obtain⟨a,X,U⟩:=Jr (AH h).2;obtain⟨z,d⟩:=gY U;rw[e1,e2,X];apply AO d
 exact At.go go (λQ q=>x.hnew c N (AH (AH h).1).1 (AH (AH h).1).2 t (Te b) λS Ck p=>q S Ck p) H
theorem rN{y:Nat}{a b:M}(d:L6 Aj w T J mg mb s0 k)(h:J5 B fn fo sc ok st (.hadd y a b)=Y)(H:CL C (n+1) (.hadd y a b::r) ρ ow=V Bv):Ap (Aq Aj w) A (C4 (st::rest) Z) (GF T J B N2 Z OA s Bv) E s:=by
 obtain⟨f,z,H⟩:=Cn H;obtain⟨g,e,H⟩:=HJ H;obtain⟨l,i,H⟩:=Cn H;obtain⟨O,j,H⟩:=VO H;obtain⟨F,H⟩:=De H;obtain⟨m,D,as,p,pos,e1,t,hd,c,h⟩:=VW h;obtain⟨v,u,e2,h⟩:=NZ h;have z:=e▸z;rw[e1];apply AO e2
 exact At.go go (λQ q=>x.hadd @hS d hd c (AH h).1 (AH h).2 z i j (AH F).1 (AH (AH F).2).1 (AH (AH F).2).2 λS p=>q S OA p) H
theorem rO{y:Nat}(h:J5 B fn fo sc ok st (.rev y)=Y)(H:CL C (n+1) (.rev y::r) ρ ow=V Bv):Ap (Aq Aj w) A (C4 (st::rest) Z) (GF T J B N2 Z OA s Bv) E s:=by
 obtain⟨O,j,H⟩:=S4 H;obtain⟨b,H⟩:=De H;obtain⟨c,D,as,p,pos,e1,t,hd,a,h⟩:=VW h;rw[e1];apply AO (jE h)
 exact At.go go (λQ q=>x.rev hd a j b λS p=>q S OA p) H
theorem rP{y:Nat}{i:M}{o:BY}{e:M}(f:∀n,(J.v n).natAbs<=2^1000)(h:J5 B fn fo sc ok st (.saug y i o e)=Y)(H:CL C (n+1) (.saug y i o e::r) ρ ow=V Bv):Ap (Aq Aj w) A (C4 (st::rest) Z) (GF T J B N2 Z OA s Bv) E s:=by
 obtain⟨F,g,H⟩:=Cn H;obtain⟨j,m,H⟩:=Pz H;obtain⟨O,u,H⟩:=S4 H;obtain⟨a,l,H⟩:=Cn H;obtain⟨b,X,H⟩:=Cn H;obtain⟨d,c,H⟩:=Cn H;obtain⟨k,H⟩:=De H;obtain⟨t,P,v,pos,e1,h⟩:=gQ h;obtain⟨G,z,L,e2,hd,h⟩:=VX h;obtain⟨D,h⟩:=AH h;rw[m]at g;rw[SE]at l;rw[YE]at H;rw[e1];apply AO e2;apply CE (AA D)
 exact At.go go (λQ q=>x.saug f @hS hd (AH h).1 (AH h).2 X g u k l c λS p=>q S OA p) H
theorem rQ{y z:Nat}{a b:M}(N:EA B)(h:J5 B fn fo sc ok st (.sw y z a b)=Y)(H:CL C (n+1) (.sw y z a b::r) ρ ow=V Bv):Ap (Aq Aj w) A (C4 (st::rest) Z) (GF T J B N2 Z OA s Bv) E s:=by
 obtain⟨k,e,H⟩:=Cn H;obtain⟨l,d,H⟩:=Cn H;obtain⟨c,H⟩:=De H;obtain⟨f,P,g⟩:=ru c;obtain⟨p1,p2,kx,tp,a,b,k2,vp,pos,e1,L,i,v,o,j,h⟩:=cA h
 apply AO e1
 exact At.go go (λQ q=>x.sw @hS N v o L i j g f P (AH (AH h).1).1 (AH (AH h).1).2 ((A4 _).mp (AH (AH h).2).1) ((A4 _).mp (AH (AH h).2).2) e d λS p=>q S OA (p.less (PC (PC λt t h=>S7 h)))) H
theorem rR{y:Nat}{a b:M}(e:N8 C=Y->MM Aj w T J mg mb s0 k)(h:J5 B fn fo sc ok st (.hset y a b)=Y)(H:CL C (n+1) (.hset y a b::r) ρ ow=V Bv):Ap (Aq Aj w) A (C4 (st::rest) Z) (GF T J B N2 Z OA s Bv) E s:=by
 obtain⟨m,z,H⟩:=Cn H;obtain⟨u,g,H⟩:=HJ H;obtain⟨dv,i,H⟩:=Cn H;obtain⟨O,j,H⟩:=VO H;obtain⟨F,H⟩:=De H;obtain⟨l,c,H⟩:=Cn H;obtain⟨t,v,pos,e1,h⟩:=S9 h;obtain⟨o,D,d,e2,hd,U⟩:=VX h;have z:=g▸z;rw[e1];apply AO e2
 obtain⟨R,f⟩:=AH F;obtain⟨f,b3⟩:=AH f;obtain⟨b3,b4⟩:=AH b3;exact At.go go (λQ q=>x.hset @hS (e R) hd (AH U).2 (AH U).1 z i j f b3 (AH b4).1 (AH b4).2 c λS p=>q S OA p) H
theorem rS{y:Nat}{a b c:M}(P:k<=100)(U:N8 C=Y->MM Aj w T J mg mb s0 k)(h:J5 B fn fo sc ok st (.hsd y a b c)=Y)(H:CL C (n+1) (.hsd y a b c::r) ρ ow=V Bv):Ap (Aq Aj w) A (C4 (st::rest) Z) (GF T J B N2 Z OA s Bv) E s:=by
 obtain⟨da,z,H⟩:=Cn H;obtain⟨kk,W,H⟩:=HJ H;obtain⟨dv,i,H⟩:=Cn H;obtain⟨d3,l,H⟩:=Cn H;obtain⟨O,j,H⟩:=VO H;obtain⟨F,H⟩:=De H;obtain⟨o,t,H⟩:=Cn H;obtain⟨d,D,H⟩:=Cn H;obtain⟨q,N,H⟩:=Cn H;obtain⟨L,H⟩:=De H;rw[D]at t;rw[L]at N;obtain⟨R,body,X,pos,e1,h⟩:=gU h;obtain⟨m,h⟩:=AH h;obtain⟨v,ops,rs,cp,e2,h⟩:=XQ h;obtain⟨h1,h⟩:=AH h;obtain⟨op,e3,D⟩:=Jr h1;obtain⟨G,h⟩:=AH h;obtain⟨np,ap,as,p,e4,_,hd,g,G⟩:=VV G;obtain⟨u,w',e5,G⟩:=NZ G;obtain⟨e,e6,h⟩:=Jr h;have z:=W▸z;rw[e1,e2,e3,e4,e5,e6,AA D];apply AO (jE m)
 obtain⟨b1,f⟩:=AH F;obtain⟨f,b3⟩:=AH f;obtain⟨b3,b4⟩:=AH b3;exact At.go go (λQ q=>x.hsd P @hS (U b1) hd g (AH G).1 (AH G).2 h z i l j f b3 (AH b4).1 (AH b4).2 t N λS x'=>q S OA (.of_ext x.rel x')) H
theorem rT{z y:Nat}{e a b:M}(m:∀n,(J.v n).natAbs<=2^1000)(N:EA B)(U:N8 C=Y->MM Aj w T J mg mb s0 k)(h:J5 B fn fo sc ok st (.told z y e a b)=Y)(H:CL C (n+1) (.told z y e a b::r) ρ ow=V Bv):Ap (Aq Aj w) A (C4 (st::rest) Z) (GF T J B N2 Z OA s Bv) E s:=by
 cases ow with
 |nil=>exact nS H
 |cons p ow=>
 obtain⟨O,j,H⟩:=VO (show Rt (V p.2) _=V Bv from H);obtain⟨d0,g,H⟩:=Cn H;obtain⟨R,W,H⟩:=LY H;obtain⟨da,c,H⟩:=Cn H;obtain⟨kk,ek,H⟩:=HJ H;obtain⟨dv,i,H⟩:=Cn H;obtain⟨F,H⟩:=De H;obtain⟨o,t,H⟩:=Cn H;obtain⟨ho,H⟩:=De H;obtain⟨d,hadd,H⟩:=Cn H;obtain⟨b1,F⟩:=AH F;obtain⟨b2,F⟩:=AH F;obtain⟨b3,F⟩:=AH F;obtain⟨b4,F⟩:=AH F;obtain⟨b5,F⟩:=AH F;obtain⟨b6,F⟩:=AH F;obtain⟨b7,F⟩:=AH F;obtain⟨b8,F⟩:=AH F;obtain⟨b9,F⟩:=AH F;have ep:p=(y,.hdr O):=Prod.ext (AB b3) (sI j);have eo:o=Ao:=by induction o with|none=>rfl|some _=>exact bF ho
 have ew:ow=[]:=by induction ow with|nil=>rfl|cons _ _=>exact bF b2
 rw[eo]at t;rw[W]at g;rw[ek]at c;rw[ep,ew]at x c i;obtain⟨tp,v,pos,e1,f,h⟩:=PF h;obtain⟨l,op,rr,bp,e2,h⟩:=SP h;obtain⟨D,h⟩:=AH h;obtain⟨h1,h⟩:=AH h;obtain⟨xs,lp,e3,h⟩:=Vu h;obtain⟨c1,c2,e4,h⟩:=NZ h;obtain⟨Bd,Bs,Ce,p1,e5,_,hd,L,G⟩:=VV (AH h).1;obtain⟨Cf,Cx,CH,p2,e6,_,_,X,h3⟩:=VV (AH h).2;obtain⟨u,w',e7,G⟩:=NZ G;rw[e1,e2,e3,e4,e5,e6,e7,AA D];apply AO (jE h3)
 have P:O≠[]:=λq=>by rw[q]at b6;exact bF b6
 exact At.go go (λQ q=>x.told m @hS N (U b1) hd L X h1 (AH G).1 (AH G).2 f ((A4 _).mp b4) g b5 P c i b7 b8 b9 (AH F).1 (AH F).2 t hadd λS p=>q S OA p) H
end
theorem rU(hk:k<=100)(N:EA B)(L:∀n,(J.v n).natAbs<=2^1000)(hC:I9 Aj w T J mg mb s0 fn C k)(U:L6 Aj w T J mg mb s0 k)(g:N8 C=Y->MM Aj w T J mg mb s0 k)(P:Td Aj w T J mg mb s0 B fn C k n):Td Aj w T J mg mb s0 B fn C k (n+1):=by
 intro A E Z sc N2 s ρ ow OA fo f stmts ss Bv x R H;have q:=Rq hk N L hC;have l:∀{D rest r},KQ B fn fo sc D rest r=Y->Nv Aj w A E T J B C n N2 Z OA s rest r Bv:=λ{D rest r} m S A6 Dh Ck p hr=>
  AM (P A E Z sc N2 S A6 Dh Ck fo D rest r Bv (x.post p) m hr) (λfl DK Q=>Q.trans x.bs x.rel p) λI I e=>e
 induction ss with
 |nil=>
  apply AO (rz R);apply CE (sI H)
  exact Bz ⟨rfl,OA,.refl x.rel⟩
 |cons W r=>
 induction W using Ad.casesOn with
 |bad=>exact nS H
 |frz y=>
  obtain⟨D,M⟩:=rA R;have H:oE (lk y ow) (CL C n r ρ ow) (λo=>CL C n r ((y,o.d)::Dn [y] ρ) (L5 y ow))=V Bv:=H
  cases j:lk y ow with
  |none=>
   rw[j]at H;exact P A E Z sc N2 s ρ ow OA fo D stmts r Bv x M H
  |some o=>
   have H:=j▸H;obtain⟨Ck,p⟩:=Ek.frz x.rel j;exact l M s _ _ Ck (p.less YX) H
 |asg t CZ e=>
  obtain⟨D,st,rest,u,h,m⟩:=Jv rfl rfl R
  apply AO u;exact rB x (l m) N q h H
 |anew y e=>
  obtain⟨D,st,rest,u,h,m⟩:=Jv rfl rfl R
  apply AO u;exact rC x (l m) N q h H
 |nnew y e=>
  obtain⟨D,st,rest,u,h,m⟩:=Jv rfl rfl R
  apply AO u;exact rE x (l m) N q h H
 |ite c a b=>
  obtain⟨D,st,rest,u,h,m⟩:=Jv rfl rfl R;obtain⟨Bd,body,F,pos,e1,h⟩:=gU h;obtain⟨d,X,H⟩:=Cn H;obtain⟨t,ht,H⟩:=Cn H;rw[u];apply AO e1
  induction t with
  |true=>exact x.then_ (l m) H λG Q=>x.execs_If (q n).2 P (AH h).1 X ht (AH (AH h).2).1 (AH (AH h).2).2 Q
  |false=>exact x.then_ (l m) H λG Q=>x.execs_If (q n).2 P (AH h).1 X ht (AH (AH h).2).1 (AH (AH h).2).2 Q
 |loop t CZ kk it body=>
  obtain⟨D,st,rest,u,h,m⟩:=Jv rfl rfl R
  apply AO u;exact rF x (l m) N (q n).1 U P h H
 |ret e=>
  obtain⟨D,st,rest,u,h,m⟩:=Jv rfl rfl R;obtain⟨v,pos,e1,h⟩:=rh h;obtain⟨d,X,H⟩:=Cn H;rw[u];apply AO e1;apply CE (sI H)
  exact Aw (x.ret (q n).1 h X λv S x' r'=>⟨v,rfl,r'.mono λa o hn e I=>⟨λh=>hn (.inl h),e⟩,x'.upd⟩)
 |aug y o e=>
  obtain⟨D,st,rest,u,h,m⟩:=Jv rfl rfl R
  apply AO u;exact rG x (q n).1 (l m) L N h H
 |app y e=>
  obtain⟨D,st,rest,u,h,m⟩:=Jv rfl rfl R
  apply AO u;exact rH x (q n).1 (l m) h H
 |ext y e=>
  obtain⟨D,st,rest,u,h,m⟩:=Jv rfl rfl R
  apply AO u;exact rI x (q n).1 (l m) h H
 |set y i e=>
  obtain⟨D,st,rest,u,h,m⟩:=Jv rfl rfl R
  apply AO u;exact rJ x (q n).1 (l m) h H
 |next y i e=>
  obtain⟨D,st,rest,u,h,m⟩:=Jv rfl rfl R
  apply AO u;exact rK x (q n).1 (l m) h H
 |hnew y=>
  obtain⟨D,st,rest,u,h,m⟩:=Jv rfl rfl R
  apply AO u;exact rM x (q n).1 (l m) N U h H
 |hadd y a b=>
  obtain⟨D,st,rest,u,h,m⟩:=Jv rfl rfl R
  apply AO u;exact rN x (q n).1 (l m) U h H
 |rev y=>
  obtain⟨D,st,rest,u,h,m⟩:=Jv rfl rfl R
  apply AO u;exact rO x (q n).1 (l m) h H
 |saug y i o e=>
  obtain⟨D,st,rest,u,h,m⟩:=Jv rfl rfl R
  apply AO u;exact rP x (q n).1 (l m) L h H
 |sw y z a b=>
  obtain⟨D,st,rest,u,h,m⟩:=Jv rfl rfl R
  apply AO u;exact rQ x (q n).1 (l m) N h H
 |hset y a b=>
  obtain⟨D,st,rest,u,h,m⟩:=Jv rfl rfl R
  apply AO u;exact rR x (q n).1 (l m) g h H
 |hsd y a b c=>
  obtain⟨D,st,rest,u,h,m⟩:=Jv rfl rfl R
  apply AO u;exact rS x (q n).1 (l m) hk g h H
 |told z y e a b=>
  obtain⟨D,st,rest,u,h,m⟩:=Jv rfl rfl R
  apply AO u;exact rT x (q n).1 (l m) L N g h H
theorem YY(P:k<=100)(N:EA B)(x:∀n,(J.v n).natAbs<=2^1000)(g:I9 Aj w T J mg mb s0 fn C k)(p:L6 Aj w T J mg mb s0 k)(a:N8 C=Y->MM Aj w T J mg mb s0 k)(n:Nat):Td Aj w T J mg mb s0 B fn C k n:=by
 induction n with
 |zero=>exact λz z z z z z z z z z z z z z z z h=>nS h
 |succ n ih=>exact rU P N x g p a ih
theorem rV(m:Av)(v:AC)(r:List (Av×AC))(k:Nat)(acc:List (Av×An)):B5 k ((m,v)::r) acc=B5 (k+1) r ((m,k)::acc)\/B5 k ((m,v)::r) acc=B5 k r acc:=by
 show(if v==.cell then B5 (k+1) r ((m,k)::acc)else B5 k r acc)=_\/(if v==.cell then B5 (k+1) r ((m,k)::acc)else B5 k r acc)=_
 by_cases q:(v==.cell)=Y
 ·rw[if_pos q];exact .inl rfl
 ·rw[if_neg q];exact .inr rfl
theorem rW(names:List (Av×AC)):∀(k:Nat) (acc:List (Av×An)),names.Pairwise (λp q=>p.1≠q.1)->(∀p∈names,∀q∈acc,p.1≠q.1)->(∀n c,(n,c)∈acc->acc.lookup n=V c)->
  ∀n c,(n,c)∈B5 k names acc->(B5 k names acc).lookup n=V c:=by
 induction names with
 |nil=>exact λk acc z z h=>h
 |cons p r ih=>
  intro k acc hp hd h;obtain⟨m,v⟩:=p;obtain⟨p1,p2⟩:=List.pairwise_cons.mp hp;rcases rV m v r k acc with e|e
  ·rw[e];refine ih (k+1) ((m,k)::acc) p2 (λp hp q M=>?_) λn c hm=>?_
   ·rcases jC M with e|M
    ·apply AO e;exact(p1 p hp).symm
    ·exact hd p (.tail _ hp) q M
   ·rw[Cc];rcases jC hm with e|hm
    ·injection e with e1 e2
     apply Dz e1 e2;rw[beq_self_eq_true]
    ·rw[beq_false_of_ne λe=>hd (m,v) (.head _) (n,c) hm e.symm]
     exact h n c hm
  ·rw[e];exact ih k acc p2 (λp hp q M=>hd p (.tail _ hp) q M) h
theorem rX{kindOf:Av->Option AC}{y:Av}(binds:List (Av×Ag)):∀{m:Av->Option Ag},(∀b∈binds,b.1≠y)->Gc kindOf binds m y=m y:=by
 induction binds with
 |nil=>exact λz=>rfl
 |cons b r ih=>
  intro m h;show Gc kindOf r (if kindOf b.1=V .local then λx=>if x=b.1 then V b.2 else m x else m) y=_
  rw[ih λb F=>h b (.tail _ F)]
  split
  ·exact if_neg λe=>h b (.head _) e.symm
  ·rfl
theorem rY{kindOf:Av->Option AC}{y:Av}(binds:List (Av×Ag)):∀{m:Av->Option Ag},(∀b∈binds,b.1≠y)->O1 kindOf binds m y=m y:=by
 induction binds with
 |nil=>exact λz=>rfl
 |cons b r ih=>
  intro m h;show O1 kindOf r (if kindOf b.1=V .local then m else λx=>if x=b.1 then V b.2 else m x) y=_
  rw[ih λb F=>h b (.tail _ F)]
  split
  ·rfl
  ·exact if_neg λe=>h b (.head _) e.symm
inductive rZ(J:Sg)(N:An->Prop)(h:A9)(kindOf:Av->Option AC)(binds:List (Av×Ag))(m cm:Av->Option Ag)(y:Av)(d:D):Prop
 |mk (v:Ag) (hr:Rd J N h v d) (h1:kindOf y=V .local->Gc kindOf binds m y=V v) (h2:kindOf y=V .cell->O1 kindOf binds cm y=V v)
theorem r8(T:Ps B){kindOf:Av->Option AC}(xs:List Nat):∀{I:List Ag} {O:List D} {m cm:Av->Option Ag},KA xs=Y->BV J N h I O->∀x d,lk x (xs.zip O)=V d->rZ J N h kindOf ((xs.map B).zip I) m cm (B x) d:=by
 induction xs with
 |nil=>exact λk k k k h=>nS h
 |cons y xs ih=>
  intro I O m cm hd r x d j
  induction O with
  |nil=>exact nS j
  |cons M O=>
  obtain⟨v,ws,e,Q,p⟩:=r.inv;obtain⟨U,G⟩:=AH (show(!(xs.any λz=>As y z)&&KA xs)=Y from hd)
  have j:lk x ((y,M)::xs.zip O)=V d:=j;rw[H6]at j
  apply AO e
  by_cases q:x=y
  ·rw[if_pos q]at j;have c:∀b∈(xs.map B).zip ws,b.1≠B x:=λb F e=>by
    have F:=(Pe (a:=b.1) (b:=b.2) F).1;obtain⟨z,hz,f⟩:=List.mem_map.mp F;have F:=List.any_eq_false.mp ((A4 _).mp U) z hz;rw[<-T _ _ (e.symm.trans f.symm),q]at F;exact F (Cs _)
   refine⟨v,sI j▸Q,λP=>?_,λP=>?_⟩
   ·show Gc kindOf ((xs.map B).zip ws) (if kindOf (B y)=V .local then λz=>if z=B y then V v else m z else m) (B x)=_
    rw[rX _ c,if_pos (q▸P),if_pos (congrArg B q)]
   ·show O1 kindOf ((xs.map B).zip ws) (if kindOf (B y)=V .local then cm else λz=>if z=B y then V v else cm z) (B x)=_
    rw[rY _ c,if_neg (by rw[<-q,P];exact λh=>nomatch h),if_pos (congrArg B q)]
  ·rw[if_neg q]at j;obtain⟨l,U,G,g⟩:=ih (m:=if kindOf (B y)=V .local then λz=>if z=B y then V v else m z else m) (cm:=if kindOf (B y)=V .local then cm else λz=>if z=B y then V v else cm z) G p x d j
   exact⟨l,U,G,g⟩
noncomputable def cG(v:Ag):Bool:=match v with
 | .str _ _=>Y
 |_=>Ak
theorem r9{l:List Ag}(h:J9 l):∀v,l[1]?=V v->cG v=Ak:=by
 cases l with
 |nil=>exact λx=>nS
 |cons p L=>cases L with
  |nil=>exact λx=>nS
  |cons d z=>
   intro v e
   apply CE (sI e)
   induction d with
   |str _ _=>induction p<;>induction z<;>exact h.elim
   |_=>rfl
theorem YZ(bs:Bs T mg mb s0 s){a:Ag}{q:Av}(h:s0.heap.CodeRec a q):s.heap.CodeRec a q:=by
 obtain⟨c,o,I,t,e,g,d,r⟩:=h;refine⟨c,o,I,t,e,bs.ext.keep c o (λD=>?_) g,d,r⟩
 obtain⟨ps,b,u,_⟩:=bs.tabs c D;have M:=d.symm.trans (congrArg Ml (sI (g.symm.trans b)));have M:I=ps:=by injection M
 rw[<-G3,M]at r;exact bT (r9 u _ r)
structure JT(s0:Ah)(a:An)(fd:BA)(body:List Bx):Prop where
 at':∃o,s0.heap.get? a=V o/\o.data= .func fd
 lim:s0.heap.NoLimit
 rec':s0.heap.CodeRec fd.code fd.qualname
 body:fd.body= .stmts body
 clo:fd.closure=[]
 glob:fd.globals=Es
 bui:fd.builtins=Jf
 co:fd.scope.isCoroutine=Ak
 gen:fd.scope.isGenerator=Ak
 kind:fd.scope.kind= .function
 names:Pr [] fd.scope.names=Y
def KB(B:Nat->Av)(fd:BA)(xs:List Nat):Prop:=∀I:List Ag,I.length=xs.length->Du fd ⟨I,[]⟩=BU ((xs.map B).zip I)
theorem hJ{u k:Nat}(h:u<=10*k+20):u+3<=10*(k+1)+20:=(En (.a (.v 0) (.k 3)) (.a (.m 10 (.a (.v 1) (.k 1))) (.k 20)) [(1,.v 0,.a (.m 10 (.v 1)) (.k 20))] rfl h)
theorem se{y:Nat}{d:D}{xs:List Nat}:∀{O:List D},lk y (xs.zip O)=V d->y∈xs:=by
 induction xs with
 |nil=>exact nS
 |cons z xs ih=>
  intro O h
  induction O with
  |nil=>exact nS h
  |cons M O=>
   have h:lk y ((z,M)::xs.zip O)=V d:=h;rw[H6]at h;by_cases q:y=z
   ·apply AO q;exact .head _
   ·rw[if_neg q]at h;exact .tail _ (ih h)
theorem hV{y:Av}{sc:List (Av×AC)}(h:FJ sc y=Y):sc.lookup y=V .local\/sc.lookup y=V .cell:=((AT _ _).mp (AH h).1).imp AA AA
theorem sk(G:EA B){a:An}{fd:BA}{body:List Bx}(F:JT s0 a fd body){xs:List Nat}(L:KA xs=Y)(w:(xs.all λx=>FJ fd.scope.names (B x))=Y){I:List Ag}{O:List D}
  (g:Eo k A)(bs:Bs T mg mb s0 s)(occ:∀a,N a->Da s.heap a)(p:BV J N s.heap I O){Z:DS}(f:Z=aR fd s.heap.objs.size a){AK:Ah}
  (x:InCallC s Z.locals (Gc Z.kindOf ((xs.map B).zip I) λK=>Ao) Z.cells (O1 Z.kindOf ((xs.map B).zip I) λK=>Ao) AK):
  At T J mg mb s0 B fd.scope.names (k+1) (A.deeper Z) (λb=>N b\/D5 Z b) Z AK (xs.zip O) [] []/\BM T s AK/\∀b,D5 Z b->s.heap.get? b=Ao:=by
 obtain⟨X,Q⟩:=SZ F.names;have z:Z.locals=s.heap.objs.size:=by apply AO f;rfl
 have i:Z.cells=B5 (s.heap.objs.size+1) fd.scope.names []:=by apply AO f;rfl
 have l:Z.scope=fd.scope:=by apply AO f;rfl
 have r:=rW fd.scope.names (s.heap.objs.size+1) [] Q (λK K K h=>nomatch h) (λK K h=>nomatch h)
 have ext:BM T s AK:=by
  obtain⟨U,tk,e⟩:=x.toInCall.same;have P:=x.toInCall.keep;rw[e]at P ⊢;exact .of_keeps P
 have C:∀b,D5 Z b->s.heap.objs.size<=b:=λb h=>by
  rcases h with e|⟨n,hm⟩
  ·exact e▸x.toInCall.fresh
  ·exact CN (z▸x.above n b hm)
 have R:∀b,D5 Z b->s.heap.get? b=Ao:=λb h=>HX (C b h)
 have sl:FV Z AK.heap:=⟨⟨_,x.toInCall.ns⟩,λn c hm=>⟨_,x.cell n c (by rw[i]at hm ⊢;exact r n c hm)⟩,x.apart⟩
 have ok:IB Z fd.scope.names:=by
  refine⟨by rw[l];exact F.kind,by rw[l],by apply AO f;exact F.glob,by apply AO f;exact F.bui,λy u=>?_⟩
  rcases u with u|u
  ·obtain⟨c,E,_⟩:=Ye fd.scope.names (s.heap.objs.size+1) [] Q (mem_of_lookup u);exact⟨c,by rw[i];exact E⟩
  ·have:=(X y .free (mem_of_lookup u)).1 rfl;exact this.elim (λh=>nomatch h) λh=>nomatch h
 have H:FU N (Dt (λb=>N b\/D5 Z b) []) s.heap AK.heap:=λb o hn e t=>⟨λh=>by
  rcases h with(h|h)|h
  ·exact hn h
  ·exact nS ((R b h).symm.trans e)
  ·exact(nomatch h),x.toInCall.keep b o e⟩
 refine⟨⟨⟨g.handled,BB g.depth,?_⟩,ok,⟨.inr (.inl rfl),λn c hm=>.inr (.inr ⟨n,hm⟩)⟩,bs.step ext,⟨λy d j P=>?_,.nil,.nil,λb M=>(nomatch M),sl⟩,λb h=>?_,⟨λb h=>bs.free (R b h),λb M=>(nomatch M)⟩⟩,ext,R⟩
 ·exact hJ g.units
 ·obtain⟨v,U,h2,h3⟩:=r8 G.inj (kindOf:=Z.kindOf) xs (m:=λK=>Ao) (cm:=λK=>Ao) L p y d j
  refine⟨v,?_,U.mono H⟩
  have u:y∈xs:=se j;have W:=D9 w y u;rcases hV W with q'|q'
  ·have q:Z.kindOf (B y)=V .local:=by rw[ok.kindOf];exact q'
   exact .inl ⟨q,_,x.toInCall.ns,h2 q⟩
  ·have q:Z.kindOf (B y)=V .cell:=by rw[ok.kindOf];exact q'
   obtain⟨c,E⟩:=ok.cells (B y) (.inl q');refine .inr ⟨.inl q,(A4 _).mp (AH W).2,c,E,?_⟩
   apply CE (h3 q)
   exact x.cell (B y) c E
 ·rcases h with h|h
  ·exact(occ b h).ext ext
  ·exact sl.frm_occ h
theorem hZ(P:k+1<=100)(h:EA B){a:An}{fd:BA}{body:List Bx}(F:JT s0 a fd body){xs:List Nat}{I:List Ag}{O:List D}
  (d:KB B fd xs)(L:KA xs=Y)(j:(xs.all λx=>FJ fd.scope.names (B x))=Y)(e:xs.length=O.length)(g:Eo k A)(bs:Bs T mg mb s0 s)(occ:∀a,N a->Da s.heap a)(p:BV J N s.heap I O){Q:Ag->Ah->Prop}
  (i:∀(m:Ag->Ah->Prop) (Z:DS) (AK:Ah),Z=aR fd s.heap.objs.size a->At T J mg mb s0 B fd.scope.names (k+1) (A.deeper Z) (λb=>N b\/D5 Z b) Z AK (xs.zip O) [] []->BM T s AK->(∀b,D5 Z b->s.heap.get? b=Ao)->
   InCallC s Z.locals (Gc Z.kindOf ((xs.map B).zip I) λK=>Ao) Z.cells (O1 Z.kindOf ((xs.map B).zip I) λK=>Ao) AK->
   Ap (Aq Aj w) (A.deeper Z) (C4 body Z) (λf S=>Q (match f with| .ret v=>v|_=>.none) S) m AK):Ap (Aq Aj w) A (DP (.ref a) I) Q E s:=by
 obtain⟨o,C,hd⟩:=F.at';obtain⟨H,n⟩:=SZ F.names;refine Hr (codeAny_call_cells (fd:=fd) (body:=body) (binds:=(xs.map B).zip I) (g.room (Bo P)) (bs.ext.keep2 a o C (JC (by rw[hd];rfl))) hd (bs.ext.nolimit F.lim) (YZ bs F.rec')
  F.body (d I (by apply AO e;rw[p.length])) F.clo (λy u=>?_) (λAK x=>?_) F.co F.gen F.kind)
 ·obtain⟨z,hz,r⟩:=List.mem_map.mp (Pe (a:=y.1) (b:=y.2) u).1;have t:=D9 j z hz;rw[r]at t;rcases hV t with q|q
  ·exact .inl q
  ·obtain⟨c,G,_⟩:=Ye fd.scope.names (s.heap.objs.size+1) [] n (mem_of_lookup q);exact .inr ⟨q,by rw[G];rfl⟩
 ·obtain⟨l,ext,R⟩:=sk h F L j g bs occ p rfl x;exact i _ _ AK rfl l ext R x
theorem Tf(P:k+1<=100)(l:EA B){a:An}{fd:BA}{body:List Bx}(F:JT s0 a fd body){xs:List Nat}{O:List D}{d:D}
  (c:KB B fd xs)(m:KA xs=Y)(j:(xs.all λx=>FJ fd.scope.names (B x))=Y)(f:xs.length=O.length)
  (i:∀(r:A1) (y:Ag->Ah->Prop) (N2:An->Prop) (Z:DS) (L:An) (AK:Ah),Z=aR fd L a->At T J mg mb s0 B fd.scope.names (k+1) r N2 Z AK (xs.zip O) [] []->
   Ap (Aq Aj w) r (C4 body Z) (λt S=>∃v,t= .ret v/\Rd J N2 S.heap v d/\Co T (D5 Z) AK S) y AK):
  ∀(A:A1) (E:Ag->Ah->Prop) (N:An->Prop) (s:Ah) (I:List Ag) (Q:Ag->Ah->Prop),Eo k A->Bs T mg mb s0 s->(∀a,N a->Da s.heap a)->BV J N s.heap I O->GB T J N s d Q->Ap (Aq Aj w) A (DP (.ref a) I) Q E s:=
 λG G G G G G g bs occ p q=>hZ P l F c m j f g bs occ p λG G AK e n ext R G=>AM (i _ _ _ _ _ AK e n) (λt S C=>by
  obtain⟨v,ev,z,u⟩:=C
  apply AO ev
  exact q v S (Fe.ext2 ext u.gone R) (z.mono λb o M e G=>⟨λh=>M (.inl h),e⟩)) λG G e=>e
theorem ie(P:k+1<=100)(i:EA B)(m:∀n,(J.v n).natAbs<=2^1000)(g:I9 Aj w T J mg mb s0 fn C (k+1))(p:L6 Aj w T J mg mb s0 (k+1))(o:N8 C=Y->MM Aj w T J mg mb s0 (k+1)){a:An}{fd:BA}{body:List Bx}(F:JT s0 a fd body){xs:List Nat}{O:List D}{d:D}{r:List Ad}{f:Nat}
  (c:KB B fd xs)(L:KA xs=Y)(j:(xs.all λx=>FJ fd.scope.names (B x))=Y)(l:xs.length=O.length)(R:KQ B fn fo fd.scope.names f body r=Y)(H:CL C n r (xs.zip O) []=V (.ret d)):
  ∀(A:A1) (E:Ag->Ah->Prop) (N:An->Prop) (s:Ah) (I:List Ag) (Q:Ag->Ah->Prop),Eo k A->Bs T mg mb s0 s->(∀a,N a->Da s.heap a)->BV J N s.heap I O->GB T J N s d Q->Ap (Aq Aj w) A (DP (.ref a) I) Q E s:=
 Tf P i F c L j l λq K K Z K AK K t=>AM (YY P i m g p o n _ _ _ _ _ AK _ _ _ fo f body r _ t R H) (λG S y=>by
  obtain⟨v,ev,z,u⟩:=y;exact⟨v,ev,z,u.mono λb h=>h.elim id λh=>nomatch h⟩) λK K e=>e
noncomputable def Jb(b:Bool)(l:List Nat):List Nat:=A0 (motive:=λz=>Bool->List Nat) (λz=>[]) (λc z i b=>bI (As c 10) (bI b (i Ak) (13::10::i Ak)) (bI (As c 13) (13::10::i Y) (c::i Ak))) l b
noncomputable def PG(b:Bool)(l:List Nat):List Nat:=A0 (motive:=λz=>Bool->List Nat) (λz=>[]) (λc z i b=>bI (b&&As c 46) [46,46] [c]++i (As c 10)) l b
noncomputable def PH(t:List Nat):List Nat:=PG Y (Jb Ak t)
namespace RF
theorem slot_search:Slot "re.Pattern" "search" "re.Pattern.search":=
 .of (owner:="re.Pattern") (n:="search") (by rw[BW,Bk];kernel_rfl) (by decide+kernel) (by decide+kernel) (by decide+kernel)
  (by first|exact .inl (by decide+kernel)|exact .inr (by decide+kernel)) (by rw[dt];kernel_rfl)
theorem type_search:aK (.builtin "re.Pattern.search")=BU (.type "method_descriptor"):=by show zy _=_;rw[PW];kernel_rfl
theorem entry_search:aS table "re.Pattern.search"=V Builtin.«re.Pattern.search»:=Kg (by kernel_rfl)
theorem slot_sub:Slot "re.Pattern" "sub" "re.Pattern.sub":=
 .of (owner:="re.Pattern") (n:="sub") (by rw[BW,Bk];kernel_rfl) (by decide+kernel) (by decide+kernel) (by decide+kernel)
  (by first|exact .inl (by decide+kernel)|exact .inr (by decide+kernel)) (by rw[dt];kernel_rfl)
theorem type_sub:aK (.builtin "re.Pattern.sub")=BU (.type "method_descriptor"):=by show zy _=_;rw[PW];kernel_rfl
theorem entry_sub:aS table "re.Pattern.sub"=V Builtin.«re.Pattern.sub»:=Kg (by kernel_rfl)
theorem entry_sub_loop:aS table "re.Pattern.sub.loop"=V Builtin.«re.Pattern.sub.loop»:=Kg (by kernel_rfl)
theorem plainAttrs:PlainAttrs "re.Pattern":=⟨⟨"object.__getattribute__",by rw[BW,Bk];kernel_rfl,by decide+kernel⟩,by rw[BW,Bk];kernel_rfl⟩
theorem owner_re:Manifest.owners.lookup (String.ofList ['n', 'r', 'e', 't', 't', 'a', 'P', '.', 'e', 'r'].reverse)=V zK:=by kernel_rfl
theorem args_search(a b:Ag):aL "re.Pattern.search" ⟨[a,b],[]⟩:=by
 unfold aL;rw[lh (id:="re.Pattern.search") (n:=['h', 'c', 'r', 'a', 'e', 's']) (o:=['n', 'r', 'e', 't', 't', 'a', 'P', '.', 'e', 'r']) (by kernel_rfl) owner_re];kernel_rfl
theorem args_sub(a b c:Ag):aL "re.Pattern.sub" ⟨[a,b,c],[]⟩:=by
 unfold aL;rw[lh (id:="re.Pattern.sub") (n:=['b', 'u', 's']) (o:=['n', 'r', 'e', 't', 't', 'a', 'P', '.', 'e', 'r']) (by kernel_rfl) owner_re];kernel_rfl
end RF
theorem so(c:Nat)(seen:EX)(U:32<=c)(G:c<127):∃k,FX M5 c M5.size 5 Y seen= .ok (Ak,k):=by
 have e:FX M5 c M5.size 5 Y seen=(if(0<=c&&c<=31)=Y then .ok (Y,seen.add 22)else if(c==127)=Y then .ok (Y,(seen.add 22).add 16)else .ok (!Y,((seen.add 22).add 16).add 0)):=rfl
 rw[e,if_neg (by simp;exact(by exact(EJ (.a (.k 31) (.k 1)) (.v 0) [(1,.k 32,.v 0)] rfl U))),if_neg (by simp;exact(Bn G))]
 exact⟨_,rfl⟩
theorem sq:∀c,32<=c->c<127->(c<256&&(Lw.getD (5+(1+c/32)) 0).testBit (c%32))=Ak:=by
 intro c U G;have:∀c,c<127->32<=c->(c<256&&(Lw.getD (5+(1+c/32)) 0).testBit (c%32))=Ak:=by decide
 exact this c G U
theorem sr(c:Nat)(seen:EX)(U:32<=c)(G:c<127):∃k,FX Lw c Lw.size 5 Y seen= .ok (Ak,k):=by
 have e:FX Lw c Lw.size 5 Y seen=(if(c<256&&(Lw.getD (5+(1+c/32)) 0).testBit (c%32))=Y then .ok (Y,seen.add 9)else .ok (!Y,(seen.add 9).add 0)):=rfl
 rw[e,if_neg (by rw[sq c U G];decide)]
 exact⟨_,rfl⟩
def VY(x:Array Nat):Prop:=∀i,i<x.size->32<=x.getD i 0/\x.getD i 0<127
theorem ig{m:Df}{f s:Nat}{seen:EX}(h:s≥m.lim):m.admitted (f+1) s seen= .ok (Ao,seen):=if_pos h
theorem ii{m:Df}{f s:Nat}{seen k:EX}{b:Bool}(h:s<m.lim)(e:FX m.code (m.text.getD s 0) m.code.size 5 Y seen= .ok (b,k)):m.admitted (f+1) s seen=bI b (.ok (V s,k)) (m.admitted f (s+1) k):=
 (if_neg (BH h)).trans (by rw[e];induction b<;>rfl)
theorem su(m:Df)(hp:VY m.text)(j:m.lim<=m.text.size)(i:∀c seen,32<=c->c<127->∃k,FX m.code c m.code.size 5 Y seen= .ok (Ak,k)):
  ∀(r s:Nat) (seen:EX),∃k,Hf m r s seen= .ok (Ao,k):=by
 intro r
 induction r with
 |zero=>
  intro s seen;exact⟨seen,rfl⟩
 |succ r ih=>
  intro s seen;rcases E6 s m.lim with h|h
  ·obtain⟨c1,c2⟩:=hp s (AE h j);obtain⟨k,e⟩:=i (m.text.getD s 0) seen c1 c2;rw[ii h e];exact ih (s+1) k
  ·exact⟨seen,ig h⟩
theorem VZ(m:Df)(t:m.frames=[])(C:m.outcome=Ao):((m.say Ak).runFor 4).outcome=V .failed:=by
 obtain⟨code,text,lim,start,ls,E,g,pc,pos,handed,om,marks,a,li,i,Q,frames,weight,answer,seen,outcome⟩:=m;cases t;cases C
 rfl
theorem sx(code:Array Nat)(E:code=M5\/code=Lw)(x:Array Nat)(hp:VY x):((Cm code x 0 0 x.size Ak).runFor 4).outcome=V .failed:=by
 have main:∀(m:Df),m.code=code->m.text=x->m.lim=x.size->m.frames=[]->m.outcome=Ao->((m.attemptFrom 0 Y).runFor 4).outcome=V .failed:=by
  intro m U G z l D;have f:m.hasFirstSet=Y:=by
   unfold Sre.M.hasFirstSet;rw[U];rcases E with rfl|rfl<;>rfl
  unfold Ij;rw[f]
  skip
  obtain⟨k,e⟩:=su m (G▸hp) (by rw[z,G];exact AI _) (λc seen a b=>by
   rw[U];rcases E with rfl|rfl
   ·exact so c seen a b
   ·exact sr c seen a b) (m.lim+1-0) 0 m.seen
  rw[e];exact VZ _ l D
 have N:∃m F:Df,Cm code x 0 0 x.size Ak=(if(decide (0>x.size)||decide (x.size-0<1))=Y then m.say Ak else F.attemptFrom 0 Y)/\m.frames=[]/\m.outcome=Ao/\F.code=code/\F.text=x/\F.lim=x.size/\F.frames=[]/\F.outcome=Ao:=by
  rcases E with rfl|rfl
  ·exact⟨_,_,rfl,rfl,rfl,rfl,rfl,rfl,rfl,rfl⟩
  ·exact⟨_,_,rfl,rfl,rfl,rfl,rfl,rfl,rfl,rfl⟩
 obtain⟨m,F,e,d,u,U,G,z,l,D⟩:=N;rw[e];by_cases hz:x.size=0
 ·rw[if_pos (by rw[hz];decide)]
  exact VZ m d u
 ·have M:∀n:Nat,n≠0->¬(decide (0>n)||decide (n-0<1))=Y:=by intro n h;simp;exact(Dx (Nat.pos_of_ne_zero h))
  rw[if_neg (M _ hz)];exact main F U G z l D
structure IW(h:A9)(a:An)(code:Array Nat):Prop where
 it:∃pv fl g t6 ct,h.get? a=V {cls:=.type "re.Pattern",data:=.fields #[pv,fl,.int 0 g,.none,.none,.ref ct,.int 0 t6]}/\h.get? ct=V (HA (code.map λ(n:Nat)=>BX (n:Int)) 0)
theorem ij{l:List Nat}{f:Nat->PUnit->JZ (ForInStep PUnit)}(t:∀i r (s:Ah) (Q:ForInStep PUnit->Ah->Prop),Q (.yield ⟨⟩) s->Ap (Aq Aj w) A (f i r) Q E s){Q:PUnit->Ah->Prop}(q:Q ⟨⟩ s):Ap (Aq Aj w) A (OZ l ⟨⟩ f) Q E s:=by
 induction l with
 |nil=>exact Ar q
 |cons i l ih=>
  rw[FA];exact Ai (t i ⟨⟩ s _ ih)
theorem il{n:Nat}{m:Df}(h:(m.runFor Ci).outcome.isSome=Y):Ft (n+1) m=BU (m.runFor Ci):=if_pos h
theorem im{M:IX}{z:Type}{c:Prop}[Decidable c]{x y:JZ z}{Q:z->Ah->Prop}(U:Ap M A x Q E s)(G:Ap M A y Q E s):Ap M A (if c then x else y) Q E s:=by
 by_cases h:c
 ·rw[if_pos h];exact U
 ·rw[if_neg h];exact G
theorem sy{m:Df}(h:(m.runFor 4).outcome=V .failed){Q:Option Df->Ah->Prop}(q:Q Ao s):Ap (Aq Aj w) A (EI m) Q E s:=by
 unfold EI;refine Ai ?_
 have e:(2^64:Nat)=(2^64-1)+1:=by decide
 have C:(m.runFor Ci).outcome=V .failed:=h;rw[e,il (by rw[C];rfl)]
 refine Ar ?_
 refine Ai (ij (λi r s Q q=>?_) ?_)
 ·exact im (Ai (Hq (Ar q))) (Ai (Ar (Ar q)))
 ·rw[C];exact Ar q
theorem sA{v:Ag}:Kv "re.Pattern.search" "search" ["string","pos","endpos"] 1 [v] []=BU [V v,Ao,Ao]:=by rfl
theorem io(code:Array Nat):((code.map λ(n:Nat)=>BX (n:Int)).map G6).map (·.toNat)=code:=by
 rw[PY,PY];have:(((λx:Int=>x.toNat) ∘ G6) ∘ λ(n:Nat)=>BX (n:Int))=id:=by
  funext n
  show(n:Int).toNat=n;exact Cz n
 rw[this,Array.map_id]
theorem ip{m:An}{code:Array Nat}(h:s.heap.get? m=V (HA (code.map λ(n:Nat)=>BX (n:Int)) 0)){Q:Array Int->Ah->Prop}(q:Q ((code.map λ(n:Nat)=>BX (n:Int)).map G6) s):
  Ap (Aq Aj w) A (JR (.ref m)) Q E s:=by
 unfold JR;exact Ai (du h rfl (Ar q))
theorem sB{a:An}{code:Array Nat}(hp:IW s.heap a code){x:Av}{t:Ez}(hsz:x.cps.size<2^63){Q:Kk->Ah->Prop}(q:Q ⟨.ref a,.str x t,code,x.cps,0,0,0,x.cps.size⟩ s):
  Ap (Aq Aj w) A (Kl "re.Pattern.search" "search" ⟨[.ref a,.str x t],[]⟩) Q E s:=by
 obtain⟨b,h,g,n,m,U,G⟩:=hp.it;unfold Kl;dsimp only;rw[sA];refine Ai (Ar ?_)
 dsimp only;refine Ai (Ar ?_)
 refine Ai (Ar ?_)
 refine Ai (dw U rfl ?_)
 have D:Km (.str x t)=BU (x.cps,0):=rfl;rw[D];refine Ai (Ar ?_)
 dsimp only;show Ap _ _ (if(Ak=Y)then _ else _) _ _ _
 rw[if_neg AR];show Ap _ _ (if(Ak=Y)then _ else _) _ _ _
 rw[if_neg AR];have M:Hz (.str x t) 0=BU ():=rfl;rw[M];refine Ai (Ar ?_)
 refine Ai (ip G ?_)
 refine Ar ?_
 rw[io];have e1:M3 (0:Int).toNat x.cps.size=0:=Ll _;have e2:M3 ((2^63-1:Int)).toNat x.cps.size=x.cps.size:=GJ (by
  have:((2^63-1:Int)).toNat=2^63-1:=by decide
  exact(En (.v 0) (.v 1) [(1,.a (.v 0) (.k 1),.k (2^63)),(1,.k ((2^63)-1),.v 1)] rfl hsz (Al this.symm)))
 rw[e1,e2];exact q
theorem sC{a:An}{code:Array Nat}(hp:IW s.heap a code)(b:code=M5\/code=Lw){x:Av}{t:Ez}(L:VY x.cps)(hsz:x.cps.size<2^63){Q:Ag->Ah->Prop}(q:Q .none s):
  Ap (Aq Aj w) A (DP (.builtin "re.Pattern.search") [.ref a,.str x t]) Q E s:=by
 obtain⟨c,h,g,n,m,U,G⟩:=hp.it;refine FG RF.slot_search ⟨_,U,rfl⟩ RF.entry_search ?_ (RF.args_search _ _)
 refine Ai (sB hp hsz ?_)
 unfold lz;refine Ai (sy (sx code b x.cps L) ?_)
 exact Ar ⟨.none,rfl,q⟩
noncomputable abbrev mk(code x:Array Nat)(lim st ls pc p hd:Nat)(om:Bool)(fr:List HD)(w:Nat)(f:Option Bool)(sn:EX):Df:=
 {code,text:=x,lim,start:=st,lastStart:=ls,pc,pos:=p,handed:=hd,outermost:=om,marks:=#[],frames:=fr,weight:=w,answer:=f,seen:=sn}
noncomputable abbrev fB(a p:Nat):HD:={wait:=.nextBranch,pc:=a,pos:=p,outermost:=Y}
noncomputable abbrev fK(p:Nat):HD:={wait:=.lookNot,pc:=26,pos:=p,outermost:=Y}
noncomputable abbrev fS(pc p:Nat)(om:Bool):HD:={wait:=.nextStart,pc,pos:=p,outermost:=om}
section
variable {x:Array Nat} {lim st ls p q hd w:Nat} {om:Bool} {fr:List HD} {sn:EX}
theorem Fz{m:Df}(n:Nat)(h:m.outcome=Ao):m.runFor (n+1)=m.step.runFor n:=by
 show(if m.outcome.isSome=Y then m else m.step.runFor n)=_
 rw[h];rfl
theorem OO{m:Df}(n:Nat)(h:m.outcome.isSome=Y):m.runFor n=m:=by
 induction n with
 |zero=>rfl
 |succ n=>
  show(if m.outcome.isSome=Y then m else m.step.runFor n)=_
  rw[if_pos h]
theorem Tg(a b:Nat):∀m:Df,m.runFor (a+b)=(m.runFor a).runFor b:=by
 induction a with
 |zero=>intro m;rw[E2];rfl
 |succ a ih=>
  intro m;by_cases h:m.outcome.isSome=Y
  ·rw[OO _ h,OO _ h,OO _ h]
  ·have h':m.outcome=Ao:=by cases e:m.outcome with|none=>rfl|some _=>rw[e]at h;exact absurd rfl h
   rw[Ik,Fz _ h',ih,Fz _ h']
theorem RD{code:Array Nat}{pc c:Nat}(a:pc<code.size)(h:code.getD pc 0=16)(U:code.getD (pc+1) 0=c)(hp:p<lim)(E:x.getD p 0=c):
  (mk code x lim st ls pc p hd om fr w Ao sn).step=mk code x lim st ls (pc+2) (p+1) hd om fr w Ao (sn.add 16):=by
 unfold UR;show(if pc<code.size then(mk code x lim st ls pc p hd om fr w Ao sn).exec else _)=_
 rw[if_pos a];unfold US;have m:(mk code x lim st ls pc p hd om fr w Ao sn).word 0=16:=h;rw[m];show(if p≥lim then _ else match Gp code pc (x.getD p 0) (sn.add 16)with| .error D=>_| .ok (Ak,seen)=>_| .ok (Y,seen)=>_)=_
 rw[if_neg (Nat.not_le.mpr hp)];have g:Gp code pc (x.getD p 0) (sn.add 16)= .ok (Y,sn.add 16):=by
  unfold Gp;rw[h,U,E];show MY (c==c,_)=_;rw[beq_self_eq_true]
 rw[g];have s:KL code pc=2:=by unfold KL;rw[h];rfl
 show({mk code x lim st ls pc p hd om fr w Ao sn with seen:=sn.add 16,pc:=pc+KL code pc,pos:=p+1}:Df)=_
 rw[s]
theorem Th{code:Array Nat}{pc c:Nat}(a:pc<code.size)(h:code.getD pc 0=16)(U:code.getD (pc+1) 0=c)(E:lim<=p\/x.getD p 0≠c):
  (mk code x lim st ls pc p hd om fr w Ao sn).step=mk code x lim st ls pc p hd om fr w (V Ak) (sn.add 16):=by
 unfold UR;show(if pc<code.size then(mk code x lim st ls pc p hd om fr w Ao sn).exec else _)=_
 rw[if_pos a];unfold US;have m:(mk code x lim st ls pc p hd om fr w Ao sn).word 0=16:=h;rw[m];show(if p≥lim then _ else match Gp code pc (x.getD p 0) (sn.add 16)with| .error D=>_| .ok (Ak,seen)=>_| .ok (Y,seen)=>_)=_
 by_cases hp:p≥lim
 ·rw[if_pos hp];rfl
 ·rw[if_neg hp];have E:=E.resolve_left hp;have g:Gp code pc (x.getD p 0) (sn.add 16)= .ok (Ak,sn.add 16):=by
   unfold Gp;rw[h,U];show MY (x.getD p 0==c,_)=_;rw[beq_false_of_ne E]
  rw[g]
  rfl
theorem Y0:(mk Fi x lim st ls 10 p p Y [fS 10 p Y] 1 Ao sn).step=mk Fi x lim st ls 12 p p Y [fB 11 p,fS 10 p Y] 2 Ao (sn.add 7):=rfl
theorem sD:(mk Fi x lim st ls 16 p hd Y fr w Ao sn).step=mk Fi x lim st ls 35 p hd Y fr w Ao (sn.add 15):=rfl
theorem sE:(mk Fi x lim st ls 21 p hd Y fr w Ao sn).step=mk Fi x lim st ls 35 p hd Y fr w Ao (sn.add 15):=rfl
theorem sF:(mk Fi x lim st ls 32 p hd Y fr w Ao sn).step=mk Fi x lim st ls 35 p hd Y fr w Ao (sn.add 15):=rfl
theorem Y2:(mk Fi x lim st ls 35 p hd Y fr w Ao sn).step=mk Fi x lim st ls 35 p p Y fr w (V Y) (sn.add 1):=rfl
theorem sG:(mk Fi x lim st ls 26 p hd Y [fB 23 q,fS 10 q Y] 2 Ao sn).step=mk Fi x lim st ls 29 p p Ak [fK p,fB 23 q,fS 10 q Y] 3 Ao (sn.add 5):=rfl
theorem Y3{pc a:Nat}{om:Bool}:(mk Fi x lim st ls pc p hd om [fB a q,fS 10 q Y] 2 (V Y) sn).step=mk Fi x lim st ls a q hd Y [fS 10 q Y] 1 (V Y) sn:=rfl
theorem Ti{code:Array Nat}{pc e:Nat}{om l:Bool}:(mk code x lim st ls pc p hd om [fS e q l] 1 (V Y) sn).step=mk code x lim st ls e q hd l [] 0 (V Y) sn:=rfl
theorem iq{pc:Nat}{om:Bool}:(mk Fi x lim st ls pc p hd om [fB 11 q,fS 10 q Y] 2 (V Ak) sn).step=mk Fi x lim st ls 19 q q Y [fB 18 q,fS 10 q Y] 2 Ao sn:=rfl
theorem sH{pc:Nat}{om:Bool}:(mk Fi x lim st ls pc p hd om [fB 18 q,fS 10 q Y] 2 (V Ak) sn).step=mk Fi x lim st ls 24 q q Y [fB 23 q,fS 10 q Y] 2 Ao sn:=rfl
theorem sJ{pc q':Nat}{om:Bool}:(mk Fi x lim st ls pc p hd om [fK q,fB 23 q',fS 10 q' Y] 3 (V Ak) sn).step=mk Fi x lim st ls 32 q hd Y [fB 23 q',fS 10 q' Y] 2 Ao sn:=rfl
theorem RE{code:Array Nat}{pc:Nat}{om b:Bool}:(mk code x lim st ls pc p hd om [] w (V b) sn).step={mk code x lim st ls pc p hd om [] w (V b) sn with outcome:=V (if b then .matched else .failed)}:=rfl
inductive Oe(m:Df)(b e:Nat):Prop
 |mk (outcome:m.outcome=V .matched) (start:m.start=b) (handed:m.handed=e)
theorem sK(hp:p<lim)(E:x.getD p 0=10):Oe ((mk Fi x lim p ls 10 p p Y [fS 10 p Y] 1 Ao sn).runFor 16) p (p+1):=by
 rw[Fz _ rfl,Y0,Fz _ rfl,Th (c:=13) (by decide) rfl rfl (.inr (by rw[E];decide)),Fz _ rfl,iq,Fz _ rfl,RD (c:=10) (by decide) rfl rfl hp E,Fz _ rfl,sE,
   Fz _ rfl,Y2,Fz _ rfl,Y3,Fz _ rfl,Ti,Fz _ rfl,RE,OO _ rfl]
 exact⟨rfl,rfl,rfl⟩
theorem sL(hp:p<lim)(E:x.getD p 0=13)(i:p+1<lim)(g:x.getD (p+1) 0=10):Oe ((mk Fi x lim p ls 10 p p Y [fS 10 p Y] 1 Ao sn).runFor 16) p (p+2):=by
 rw[Fz _ rfl,Y0,Fz _ rfl,RD (c:=13) (by decide) rfl rfl hp E,Fz _ rfl,RD (c:=10) (by decide) rfl rfl i g,Fz _ rfl,sD,
   Fz _ rfl,Y2,Fz _ rfl,Y3,Fz _ rfl,Ti,Fz _ rfl,RE,OO _ rfl]
 exact⟨rfl,rfl,rfl⟩
theorem sM(hp:p<lim)(E:x.getD p 0=13)(g:lim<=p+1\/x.getD (p+1) 0≠10):Oe ((mk Fi x lim p ls 10 p p Y [fS 10 p Y] 1 Ao sn).runFor 16) p (p+1):=by
 rw[Fz _ rfl,Y0,Fz _ rfl,RD (c:=13) (by decide) rfl rfl hp E,Fz _ rfl,Th (c:=10) (by decide) rfl rfl g,Fz _ rfl,iq,
   Fz _ rfl,Th (c:=10) (by decide) rfl rfl (.inr (by rw[E];decide)),Fz _ rfl,sH,Fz _ rfl,RD (c:=13) (by decide) rfl rfl hp E,Fz _ rfl,sG,
   Fz _ rfl,Th (c:=10) (by decide) rfl rfl g,Fz _ rfl,sJ,Fz _ rfl,sF,
   Fz _ rfl,Y2,Fz _ rfl,Y3,Fz _ rfl,Ti,Fz _ rfl,RE,OO _ rfl]
 exact⟨rfl,rfl,rfl⟩
end
theorem Tj{a b:Nat}(h:a≠b):As a b=Ak:=by
 cases q:As a b with
 |false=>rfl
 |true=>exact absurd (AB q) h
noncomputable def Ir(P:Nat->Bool)(lim:Nat):Nat->Nat->Option Nat
 |0,_=>Ao
 |f+1,s=>bI (A3 lim s) Ao (bI (P s) (V s) (Ir P lim f (s+1)))
theorem RG{P:Nat->Bool}{lim f s:Nat}(h:lim<=s):Ir P lim (f+1) s=Ao:=M7 (AL h)
theorem Tk{P:Nat->Bool}{lim f s:Nat}(h:s<lim):Ir P lim (f+1) s=bI (P s) (V s) (Ir P lim f (s+1)):=OC (aX h)
theorem Tl{P:Nat->Bool}{lim:Nat}:∀{f s b:Nat},Ir P lim f s=V b->s<=b/\b<lim/\P b=Y:=by
 intro f
 induction f with
 |zero=>
  intro _ _ h;exact nS h
 |succ f ih=>
  intro s b h;rcases E6 s lim with j|j
  ·rw[Tk j]at h;cases hp:P s with
   |true=>
    rw[hp]at h;have e:s=b:=sI h;exact⟨Al e,e▸j,e▸hp⟩
   |false=>
    rw[hp]at h;obtain⟨a,b,c⟩:=ih h;exact⟨(En (.v 0) (.v 1) [(1,.a (.v 0) (.k 1),.v 1)] rfl a),b,c⟩
  ·rw[RG j]at h;exact nS h
noncomputable def Kp(x:Array Nat)(i:Nat):Bool:=As (x.getD i 0) 10||Nat.beq (x.getD i 0) 13
noncomputable def L7(x:Array Nat)(i:Nat):Bool:=(As i 0||Nat.beq (x.getD (i-1) 0) 10)&&As (x.getD i 0) 46
noncomputable def MN(x:Array Nat)(b:Nat):Nat:=if x.getD b 0=13/\b+1<x.size/\x.getD (b+1) 0=10 then b+2 else b+1
theorem sO(c:Nat)(seen:EX):∃k,FX Fi c Fi.size 5 Y seen= .ok (As c 10||Nat.beq c 13,k):=by
 have e:FX Fi c Fi.size 5 Y seen=(if(c==10)=Y then .ok (Y,seen.add 16)else if(c==13)=Y then .ok (Y,(seen.add 16).add 16)else .ok (!Y,((seen.add 16).add 16).add 0)):=rfl
 rw[e];by_cases U:c=10
 ·subst U;exact⟨_,rfl⟩
 ·rw[if_neg (by simpa using U)]
  by_cases G:c=13
  ·subst G;exact⟨_,rfl⟩
  ·rw[if_neg (by simpa using G)]
   have m:As c 10=Ak:=Tj U;have a:As c 13=Ak:=Tj G;rw[m,a];exact⟨_,rfl⟩
theorem ir(m:Df)(E:m.code=Fi):∀(f s:Nat) (seen:EX),∃k,m.admitted f s seen= .ok (Ir (Kp m.text) m.lim f s,k):=by
 intro f
 induction f with
 |zero=>
  intro s seen;exact⟨seen,rfl⟩
 |succ f ih=>
  intro s seen;rcases E6 s m.lim with j|j
  ·obtain⟨k,e⟩:=sO (m.text.getD s 0) seen;rw[Tk j,ii j (by rw[E];exact e)]
   show∃g,bI (Kp m.text s) _ _=MY (bI (Kp m.text s) _ _,g);cases Kp m.text s with
   |true=>exact⟨k,rfl⟩
   |false=>exact ih (s+1) k
  ·rw[RG j];exact⟨seen,ig j⟩
theorem sP(x:Array Nat)(start:Nat)(i:start<=x.size):match Ir (Kp x) x.size (x.size+1-start) start with
  |none=>((Cm Fi x 0 start x.size Ak).runFor 16).outcome=V .failed
  |some b=>Oe ((Cm Fi x 0 start x.size Ak).runFor 16) b (MN x b):=by
 have N:∃m:Df,∃ls sn,Cm Fi x 0 start x.size Ak=(if(decide (start>x.size)||decide (x.size-start<1))=Y then m.say Ak else(mk Fi x x.size start ls 10 start start Y [] 0 Ao sn).attemptFrom start Y)/\m.frames=[]/\m.outcome=Ao:=⟨_,_,_,rfl,rfl,rfl⟩
 obtain⟨m,ls,sn,e,U,G⟩:=N;have c:∀m:Df,m.frames=[]->m.outcome=Ao->((m.say Ak).runFor 16).outcome=V .failed:=λm a b=>by
  have:=VZ m a b;rw[show(16:Nat)=4+12 from rfl,Tg,OO _ (by rw[this];rfl)]
  exact this
 by_cases hz:x.size-start<1
 ·rw[e,if_pos (by simp[hz])]
  have:Ir (Kp x) x.size (x.size+1-start) start=Ao:=by
   have:x.size+1-start=0+1:=(AP (Ip (.v 3) (.k (0+1)) [(1,.a (.v 2) (.k 1),.k 1),(1,.v 1,.a (.v 2) (.v 0)),(1,.a (.v 3) (.v 0),.a (.v 1) (.k 1))] rfl hz Fy (Al (Az (En (.v 0) (.a (.v 1) (.k 1)) [(1,.v 0,.v 1)] rfl i)))) (EV (.k (0+1)) (.v 2) [(1,.v 0,.v 1),(1,.a (.v 1) (.k 1),.a (.v 2) (.v 0))] rfl i Fy));rw[this];exact RG (EV (.v 1) (.v 2) [(1,.v 0,.k (0+1)),(1,.a (.v 1) (.k 1),.a (.v 0) (.v 2))] rfl (Al this) Fy)
  rw[this];exact c m U G
 ·have M:¬(decide (start>x.size)||decide (x.size-start<1))=Y:=by
   intro h;rcases(AT _ _).mp h with h|h
   ·exact absurd (of_decide_eq_true h) (Dg i)
   ·exact hz (of_decide_eq_true h)
  rw[e,if_neg M];unfold Ij;show match Ir (Kp x) x.size (x.size+1-start) start with
   |none=>(((match Hf (mk Fi x x.size start ls 10 start start Y [] 0 Ao sn) (x.size+1-start) start sn with
     | .ok (V s,seen)=>({mk Fi x x.size start ls 10 start start Y [] 0 Ao sn with mustAdvance:=Ak,seen}:Df).attemptAt s Y
     | .ok (Ao,seen)=>({mk Fi x x.size start ls 10 start start Y [] 0 Ao sn with seen}:Df).say Ak
     | .error D=>Ln _ D):Df).runFor 16).outcome=V .failed
   |some b=>Oe ((match Hf (mk Fi x x.size start ls 10 start start Y [] 0 Ao sn) (x.size+1-start) start sn with
     | .ok (V s,seen)=>({mk Fi x x.size start ls 10 start start Y [] 0 Ao sn with mustAdvance:=Ak,seen}:Df).attemptAt s Y
     | .ok (Ao,seen)=>({mk Fi x x.size start ls 10 start start Y [] 0 Ao sn with seen}:Df).say Ak
     | .error D=>Ln _ D:Df).runFor 16) b (MN x b)
  obtain⟨k,d⟩:=ir (mk Fi x x.size start ls 10 start start Y [] 0 Ao sn) rfl (x.size+1-start) start sn;rw[d];show match Ir (Kp x) x.size (x.size+1-start) start with|none=>_|some b=>_
  cases F:Ir (Kp x) x.size (x.size+1-start) start with
  |none=>
   dsimp only;exact c _ rfl rfl
  |some b=>
   dsimp only;obtain⟨E,P,Q⟩:=Tl F;show Oe ((mk Fi x x.size b ls 10 b b Y [fS 10 b Y] 1 Ao k).runFor 16) b (MN x b);unfold Kp at Q;unfold MN;by_cases p:x.getD b 0=13
   ·by_cases r:b+1<x.size/\x.getD (b+1) 0=10
    ·apply AO (if_pos ⟨p,r⟩)
     exact sL P p r.1 r.2
    ·apply AO (if_neg λh=>r h.2)
     refine sM P p ?_
     by_cases h:b+1<x.size
     ·exact .inr λe=>r ⟨h,e⟩
     ·exact .inl (BI h)
   ·apply AO (if_neg λh=>p h.1)
    rcases(AT _ _).mp Q with g|g
    ·exact sK P (AB g)
    ·exact absurd (AB g) p
section
variable {x:Array Nat} {lim st ls p q hd w:Nat} {om:Bool} {fr:List HD} {sn:EX}
theorem d5:(mk H1 x lim st ls 5 p hd om fr w Ao sn).step=(if(p==0||x.getD (p-1) 0==10)=Y then mk H1 x lim st ls 7 p hd om fr w Ao ((sn.add 6).add 44)else mk H1 x lim st ls 5 p hd om fr w (V Ak) ((sn.add 6).add 44)):=rfl
theorem d9:(mk H1 x lim st ls 9 p hd Y fr w Ao sn).step=mk H1 x lim st ls 9 p p Y fr w (V Y) (sn.add 1):=rfl
theorem sQ:(mk H1 x lim st ls 9 p hd Ak fr w Ao sn).step=mk H1 x lim st ls 9 p p Ak fr w (V Y) (sn.add 1):=rfl
theorem iu{pc:Nat}:(mk H1 x lim st ls pc p hd om [fS 5 q om] 1 (V Ak) sn).step=(if q<ls then mk H1 x lim (q+1) ls 5 (q+1) (q+1) Ak [fS 5 (q+1) Ak] 1 Ao sn else mk H1 x lim st ls 5 q hd om [] 0 (V Ak) sn):=rfl
theorem sR(F:p=0\/x.getD (p-1) 0=10)(hp:p<lim)(E:x.getD p 0=46):Oe ((mk H1 x lim p ls 5 p p om [fS 5 p om] 1 Ao sn).runFor 5) p (p+1):=by
 have m:(p==0||x.getD (p-1) 0==10)=Y:=by
  rcases F with h|h
  ·subst h;rfl
  ·rw[h];simp
 rw[Fz _ rfl,d5,if_pos m,Fz _ rfl,RD (c:=46) (by exact(by decide)) rfl rfl hp E]
 induction om with
 |true=>
  rw[Fz _ rfl,d9,Fz _ rfl,Ti,Fz _ rfl,RE];exact⟨rfl,rfl,rfl⟩
 |false=>
  rw[Fz _ rfl,sQ,Fz _ rfl,Ti,Fz _ rfl,RE];exact⟨rfl,rfl,rfl⟩
theorem iw(M:¬((p=0\/x.getD (p-1) 0=10)/\p<lim/\x.getD p 0=46)):∃n m,n<=3/\m=(mk H1 x lim p ls 5 p p om [fS 5 p om] 1 Ao sn).runFor n∧
  ∃g,m=(if p<ls then mk H1 x lim (p+1) ls 5 (p+1) (p+1) Ak [fS 5 (p+1) Ak] 1 Ao g else mk H1 x lim p ls 5 p p om [] 0 (V Ak) g):=by
 by_cases F:(p==0||x.getD (p-1) 0==10)=Y
 ·have y:p=0\/x.getD (p-1) 0=10:=by
   rcases(AT _ _).mp F with h|h
   ·exact .inl (AA h)
   ·exact .inr (AA h)
  refine⟨3,_,AI _,rfl,((sn.add 6).add 44).add 16,?_⟩
  rw[Fz _ rfl,d5,if_pos F,Fz _ rfl,Th (c:=46) (by exact(by decide)) rfl rfl,Fz _ rfl,iu]
  ·rfl
  ·by_cases h:lim<=p
   ·exact .inl h
   ·exact .inr λe=>M ⟨y,(Fl h),e⟩
 ·refine⟨2,_,(by decide),rfl,(sn.add 6).add 44,?_⟩
  rw[Fz _ rfl,d5,if_neg F,Fz _ rfl,iu]
  rfl
end
theorem sT(x:Array Nat):∀(k p:Nat) (om:Bool) (sn:EX),x.size-p=k->p<=x.size->∃n,n<=4*k+12/\match Ir (L7 x) x.size (x.size+1-p) p with
  |none=>((mk H1 x x.size p x.size 5 p p om [fS 5 p om] 1 Ao sn).runFor n).outcome=V .failed
  |some b=>Oe ((mk H1 x x.size p x.size 5 p p om [fS 5 p om] 1 Ao sn).runFor n) b (b+1):=by
 intro k
 induction k with
 |zero=>
  intro p om sn P hp;have j:p=x.size:=(AP hp (EV (.v 2) (.v 1) [(1,.v 0,.k 0),(1,.v 2,.a (.v 0) (.v 1))] rfl (Al P) Fy));have:Ir (L7 x) x.size (x.size+1-p) p=Ao:=by
   have e:x.size+1-p=0+1:=(AP (EV (.v 2) (.k (0+1)) [(1,.v 1,.v 0),(1,.a (.v 2) (.v 0),.a (.v 1) (.k 1))] rfl (Al j.symm) (Al (Az (En (.v 0) (.a (.v 1) (.k 1)) [(1,.v 0,.v 1)] rfl (Al j))))) (EV (.k (0+1)) (.v 2) [(1,.v 0,.v 1),(1,.a (.v 1) (.k 1),.a (.v 2) (.v 0))] rfl (Al j) Fy));rw[e];exact RG (Al j.symm)
  rw[this];obtain⟨n,m,M,hm,g,e⟩:=iw (x:=x) (lim:=x.size) (ls:=x.size) (p:=p) (om:=om) (sn:=sn) (by rintro⟨_,h,_⟩;exact(Eg 0 (En (.k 1) (.k 0) [(1,.v 1,.v 0),(1,.a (.v 0) (.k 1),.v 1)] rfl (Al j.symm) h)))
  rw[if_neg (by exact(Dg (by exact(Al j.symm))))]at e
  refine⟨n+1,(EJ (.a (.v 0) (.k 1)) (.k ((4*0)+12)) [(1,.v 0,.k 3)] rfl M),?_⟩
  dsimp only;rw[Tg,<-hm,e,Fz _ rfl,RE]
  rfl
 |succ k ih=>
  intro p om sn P hp;have a:p<x.size:=(Ip (.a (.v 2) (.k 1)) (.v 3) [(1,.a (.v 1) (.k 1),.v 0),(1,.a (.v 0) (.v 2),.v 3)] rfl (Al P.symm) (Al (Az hp)));have e1:x.size+1-p=(x.size+1-(p+1))+1:=(AP (Ip (.v 2) (.a (.v 3) (.k 1)) [(1,.a (.v 1) (.k 1),.a (.v 3) (.a (.v 0) (.k 1))),(1,.a (.v 2) (.v 0),.a (.v 1) (.k 1))] rfl Fy (Al (Az (En (.v 0) (.a (.v 1) (.k 1)) [(1,.a (.v 0) (.k 1),.v 1)] rfl a)))) (Ip (.a (.v 3) (.k 1)) (.v 2) [(1,.a (.v 1) (.k 1),.a (.v 2) (.v 0)),(1,.a (.v 3) (.a (.v 0) (.k 1)),.a (.v 1) (.k 1))] rfl Fy (Al (Az (En (.a (.v 0) (.k 1)) (.a (.v 1) (.k 1)) [(1,.a (.v 0) (.k 1),.v 1)] rfl a)))));rw[e1];rw[Tk a];by_cases hd:L7 x p=Y
  ·rw[hd];unfold L7 at hd;have hd:=AH hd;refine⟨5,(EJ (.k 5) (.a (.m 4 (.a (.v 0) (.k 1))) (.k 12)) [] rfl),sR ?_ a (AB hd.2)⟩
   rcases(AT _ _).mp hd.1 with h|h
   ·exact .inl (AB h)
   ·exact .inr (AB h)
  ·rw[Bool.eq_false_iff.mpr hd];have M:¬((p=0\/x.getD (p-1) 0=10)/\p<x.size/\x.getD p 0=46):=by
    rintro⟨U,_,z⟩
    apply hd
    unfold L7;rw[z];rcases U with h|h
    ·subst h;rfl
    ·rw[h];simp
   obtain⟨n,m,T,hm,g,e⟩:=iw (ls:=x.size) (om:=om) (sn:=sn) M;rw[if_pos a]at e;obtain⟨n2,w,G⟩:=ih (p+1) Ak g (AP (Kn (.v 4) (.v 1) [(1,.v 0,.a (.v 1) (.k 1)),(1,.v 3,.a (.v 0) (.v 2)),(1,.a (.v 4) (.a (.v 2) (.k 1)),.v 3)] rfl (Al P) Fy (Al (Az a))) (Kn (.v 1) (.v 4) [(1,.a (.v 1) (.k 1),.v 0),(1,.v 3,.a (.v 4) (.a (.v 2) (.k 1))),(1,.a (.v 0) (.v 2),.v 3)] rfl (Al P.symm) Fy (Al (Az (En (.v 0) (.v 1) [(1,.a (.v 0) (.k 1),.v 1)] rfl a))))) a;refine⟨n+n2,(EV (.a (.v 0) (.v 1)) (.a (.m 4 (.a (.v 2) (.k 1))) (.k 12)) [(1,.v 0,.k 3),(1,.v 1,.a (.m 4 (.v 2)) (.k 12))] rfl T w),?_⟩
   rw[Tg,<-hm];apply AO e
   exact G
theorem sU(x:Array Nat)(start:Nat)(i:start<=x.size):∃n,n<=4*x.size+16/\match Ir (L7 x) x.size (x.size+1-start) start with
  |none=>((Cm H1 x 0 start x.size Ak).runFor n).outcome=V .failed
  |some b=>Oe ((Cm H1 x 0 start x.size Ak).runFor n) b (b+1):=by
 have N:∃m:Df,∃sn,Cm H1 x 0 start x.size Ak=(if(decide (start>x.size)||decide (x.size-start<1))=Y then m.say Ak else mk H1 x x.size start x.size 5 start start Y [fS 5 start Y] 1 Ao sn)/\m.frames=[]/\m.outcome=Ao:=⟨_,_,rfl,rfl,rfl⟩
 obtain⟨m,sn,e,U,G⟩:=N;by_cases hz:x.size-start<1
 ·rw[e,if_pos (by simp[hz])]
  have:Ir (L7 x) x.size (x.size+1-start) start=Ao:=by
   have:x.size+1-start=0+1:=(AP (Ip (.v 3) (.k (0+1)) [(1,.a (.v 2) (.k 1),.k 1),(1,.v 1,.a (.v 2) (.v 0)),(1,.a (.v 3) (.v 0),.a (.v 1) (.k 1))] rfl hz Fy (Al (Az (En (.v 0) (.a (.v 1) (.k 1)) [(1,.v 0,.v 1)] rfl i)))) (EV (.k (0+1)) (.v 2) [(1,.v 0,.v 1),(1,.a (.v 1) (.k 1),.a (.v 2) (.v 0))] rfl i Fy));rw[this];exact RG (EV (.v 1) (.v 2) [(1,.v 0,.k (0+1)),(1,.a (.v 1) (.k 1),.a (.v 0) (.v 2))] rfl (Al this) Fy)
  rw[this];exact⟨4,(EJ (.k 4) (.a (.m 4 (.v 0)) (.k 16)) [] rfl),VZ m U G⟩
 ·have M:¬(decide (start>x.size)||decide (x.size-start<1))=Y:=by
   intro h;rcases(AT _ _).mp h with h|h
   ·exact absurd (of_decide_eq_true h) (Dg i)
   ·exact hz (of_decide_eq_true h)
  rw[e,if_neg M];obtain⟨n,M,h⟩:=sT x (x.size-start) start Y sn rfl i;exact⟨n,(EV (.v 1) (.a (.m 4 (.v 0)) (.k 16)) [(1,.v 1,.a (.m 4 (.v 2)) (.k 12)),(4,.v 2,.v 0)] rfl M (DB _ _)),h⟩
theorem sV:∀(T:Nat) (m:Df) {Q:Df->Ah->Prop} {s:Ah},m.outcome=Ao->(m.runFor (4*T)).outcome.isSome=Y->Q (m.runFor (4*T)) s->Ap (Aq Aj w) A (Ft T m) Q E s:=by
 intro T
 induction T with
 |zero=>
  intro m Q s a h _;have:(m.runFor (4*0))=m:=rfl;rw[this,a]at h;cases h
 |succ T ih=>
  intro m Q s a h q;have e:4*(T+1)=Ci+4*T:=by show 4*(T+1)=4+4*T;exact(AP (EJ (.m 4 (.a (.v 0) (.k 1))) (.a (.k 4) (.m 4 (.v 0))) [] rfl) (EJ (.a (.k 4) (.m 4 (.v 0))) (.m 4 (.a (.v 0) (.k 1))) [] rfl))
  rw[e,Tg]at h q;by_cases C:(m.runFor Ci).outcome.isSome=Y
  ·rw[il C];rw[OO _ C]at q;exact Ar q
  ·rw[show Ft (T+1) m=(rule "sre.turn" >>= λz=>Ft T (m.runFor Ci))from if_neg C]
   have U:(m.runFor Ci).outcome=Ao:=by
    cases e:(m.runFor Ci).outcome with
    |none=>rfl
    |some _=>rw[e]at C;exact absurd rfl C
   exact Ai (Hq (ih _ U h q))
theorem sW{m:Df}{n:Nat}(b:m.outcome=Ao)(M:n<=4*2^64){Q:Option Df->Ah->Prop}
  (h:((m.runFor n).outcome=V .failed/\Q Ao s)\/((m.runFor n).outcome=V .matched/\Q (V (m.runFor n)) s)):Ap (Aq Aj w) A (EI m) Q E s:=by
 have a:(m.runFor n).outcome.isSome=Y:=by rcases h with⟨h,_⟩|⟨h,_⟩<;>rw[h]<;>rfl
 have e:m.runFor (4*2^64)=m.runFor n:=by
  have:4*2^64=n+(4*2^64-n):=(AP (En (.k (4*(2^64))) (.a (.v 0) (.v 1)) [(1,.k (4*(2^64)),.a (.v 1) (.v 0))] rfl Fy) (En (.a (.v 0) (.v 1)) (.k (4*(2^64))) [(1,.a (.v 1) (.v 0),.k (4*(2^64)))] rfl (Al (Az M))));rw[this,Tg,OO _ a]
 unfold EI;refine Ai (sV (2^64) m b (by rw[e];exact a) ?_)
 rw[e];refine Ai (ij (λi r s Q q=>?_) ?_)
 ·exact im (Ai (Hq (Ar q))) (Ai (Ar (Ar q)))
 ·rcases h with⟨h,q⟩|⟨h,q⟩
  ·rw[h];exact Ar q
  ·rw[h];exact Ar q
theorem ix{a:An}{code:Array Nat}(hp:IW s.heap a code){x:Av}{t:Ez}{Q:Kk->Ah->Prop}(q:Q ⟨.ref a,.str x t,code,x.cps,0,0,0,x.cps.size⟩ s):
  Ap (Aq Aj w) A (FO (.ref a) (.str x t)) Q E s:=by
 obtain⟨b,h,g,n,m,U,G⟩:=hp.it;unfold FO;refine Ai (dw U rfl ?_)
 have D:Km (.str x t)=BU (x.cps,0):=rfl;rw[D];refine Ai (Ar ?_)
 dsimp only;show Ap _ _ (if(Ak=Y)then _ else _) _ _ _
 rw[if_neg AR];show Ap _ _ (if(Ak=Y)then _ else _) _ _ _
 rw[if_neg AR];have M:Hz (.str x t) 0=BU ():=rfl;rw[M];refine Ai (Ar ?_)
 refine Ai (ip G ?_)
 refine Ar ?_
 rw[io];exact q
structure RH(code:Array Nat)(x:Array Nat)(nx:Nat->Option (Nat×Nat)):Prop where
 run:∀st,st<=x.size->∃n,n<=4*2^64/\match nx st with
  |none=>((Cm code x 0 st x.size Ak).runFor n).outcome=V .failed
  |some (b,e)=>Oe ((Cm code x 0 st x.size Ak).runFor n) b e
 fresh:∀st,(Cm code x 0 st x.size Ak).outcome=Ao
 span:∀st b e,nx st=V (b,e)->st<=b/\b<e/\e<=x.size
noncomputable def JF(l:Nat->Option (Nat×Nat))(r:List Nat)(x:Array Nat):Nat->Nat->List Nat
 |0,st=>(x.extract st x.size).toList
 |f+1,st=>oE (l st) (x.extract st x.size).toList λp=>(x.extract st p.1).toList++(r++JF l r x f p.2)
theorem Tm{l:Nat->Option (Nat×Nat)}{r:List Nat}{x:Array Nat}{f st:Nat}(h:l st=Ao):JF l r x (f+1) st=(x.extract st x.size).toList:=by
 show oE _ _ _=_;rw[h];rfl
theorem Tn{l:Nat->Option (Nat×Nat)}{r:List Nat}{x:Array Nat}{f st b e:Nat}(h:l st=V (b,e)):JF l r x (f+1) st=(x.extract st b).toList++(r++JF l r x f e):=by
 show oE _ _ _=_;rw[h];rfl
theorem iy(x:Array Nat)(b:Nat):b<MN x b/\(b<x.size->MN x b<=x.size):=by
 unfold MN;by_cases q:x.getD b 0=13/\b+1<x.size/\x.getD (b+1) 0=10
 ·rw[if_pos q];exact⟨(EJ (.a (.v 0) (.k 1)) (.a (.v 0) (.k 2)) [] rfl),λz=>(En (.a (.v 0) (.k 2)) (.v 1) [(1,.a (.a (.v 0) (.k 1)) (.k 1),.v 1)] rfl q.2.1)⟩
 ·rw[if_neg q];exact⟨(EJ (.a (.v 0) (.k 1)) (.a (.v 0) (.k 1)) [] rfl),λz=>‹_›⟩
theorem sX(x:Array Nat):RH Fi x λst=>(Ir (Kp x) x.size (x.size+1-st) st).map λb=>(b,MN x b) where
 run:=λst i=>⟨16,by decide,by
  have:=sP x st i;cases h:Ir (Kp x) x.size (x.size+1-st) st with
  |none=>rw[h]at this;exact this
  |some b=>rw[h]at this;exact this⟩
 fresh:=λst=>by
  have N:∃m:Df,∃ls sn,Cm Fi x 0 st x.size Ak=(if(decide (st>x.size)||decide (x.size-st<1))=Y then m.say Ak else(mk Fi x x.size st ls 10 st st Y [] 0 Ao sn).attemptFrom st Y)/\m.frames=[]/\m.outcome=Ao:=⟨_,_,_,rfl,rfl,rfl⟩
  obtain⟨m,ls,sn,e,_,G⟩:=N;rw[e];split
  ·exact G
  ·unfold Ij;obtain⟨k,a⟩:=ir (mk Fi x x.size st ls 10 st st Y [] 0 Ao sn) rfl (x.size+1-st) st sn;show((match Hf (mk Fi x x.size st ls 10 st st Y [] 0 Ao sn) (x.size+1-st) st sn with
     | .ok (V s,seen)=>({mk Fi x x.size st ls 10 st st Y [] 0 Ao sn with mustAdvance:=Ak,seen}:Df).attemptAt s Y
     | .ok (Ao,seen)=>({mk Fi x x.size st ls 10 st st Y [] 0 Ao sn with seen}:Df).say Ak
     | .error D=>Ln _ D):Df).outcome=Ao
   rw[a];cases Ir (Kp x) x.size (x.size+1-st) st with
   |none=>rfl
   |some b=>rfl
 span:=λst b e h=>by
  obtain⟨c,E,r⟩:=Option.map_eq_some_iff.mp h;cases r;obtain⟨U,G,_⟩:=Tl E;obtain⟨d,P⟩:=iy x b;exact⟨U,d,P G⟩
theorem sY(x:Array Nat)(L:x.size<=2^60):RH H1 x λst=>(Ir (L7 x) x.size (x.size+1-st) st).map λb=>(b,b+1) where
 run:=λst i=>by
  obtain⟨n,M,h⟩:=sU x st i;refine⟨n,(En (.v 1) (.k (4*(2^64))) [(4,.v 0,.k (2^60)),(1,.v 1,.a (.m 4 (.v 0)) (.k 16))] rfl L M),?_⟩
  cases e:Ir (L7 x) x.size (x.size+1-st) st with
  |none=>rw[e]at h;exact h
  |some b=>rw[e]at h;exact h
 fresh:=λst=>by
  have N:∃m:Df,∃sn,Cm H1 x 0 st x.size Ak=(if(decide (st>x.size)||decide (x.size-st<1))=Y then m.say Ak else mk H1 x x.size st x.size 5 st st Y [fS 5 st Y] 1 Ao sn)/\m.frames=[]/\m.outcome=Ao:=⟨_,_,rfl,rfl,rfl⟩
  obtain⟨m,sn,e,_,G⟩:=N;rw[e];split
  ·exact G
  ·rfl
 span:=λst b e h=>by
  obtain⟨c,E,r⟩:=Option.map_eq_some_iff.mp h;cases r;obtain⟨U,G,_⟩:=Tl E;exact⟨U,(EJ (.a (.v 0) (.k 1)) (.a (.v 0) (.k 1)) [] rfl),G⟩
namespace RF
theorem plain_loop:plainId "re.Pattern.sub.loop"=Y:=by decide+kernel
end RF
noncomputable def Kq(l:List (Av×Ez)):List Nat:=(l.map λp=>p.1.cps.toList).flatten
theorem Y4(l b:List (Av×Ez)):Kq (l++b)=Kq l++Kq b:=by simp[Kq]
theorem Y5{x:Array Nat}{b e:Nat}{Q:Ag->Ah->Prop}(L:x.size<=C5)(q:Q (.str ⟨x.extract b e⟩ s.toks) {s with toks:=s.toks+1}):Ap (Aq Aj w) A (Kw x 0 b e) Q E s:=by
 show Ap (Aq Aj w) A (mkStr ⟨x.extract b e⟩) Q E s;exact wpAny_mkStr q (Am (by show(x.extract b e).size<=x.size;rw[FT];exact(EV (.v 0) (.v 1) [(1,.v 0,.v 2),(1,.v 2,.v 1)] rfl (DB _ _) (Jn _ _))) L)
theorem Y7{l st x z:Nat}(h:l<=2*st+1)(i:st<=x)(L:x<=1000000)(hz:4000000<=z):l+1<=z:=Am (BB (Am h (BB (BN 2 (Am i L))))) (Am (by decide:2*1000000+1+1<=4000000) hz)
theorem Y8{L:An}{l:List (Av×Ez)}{y:Av}{u:Ez}{Q:Unit->Ah->Prop}(j:s.heap.PlainList L (CX l).toArray)(M:l.length+1<=C5)
  (q:∀h',h'.PlainList L (CX (l++[(y,u)])).toArray->C3 L s.heap h'->Q () {s with heap:=h'}):Ap (Aq Aj w) A (updateSeq L (·.push (.str y u))) Q E s:=by
 obtain⟨m,e⟩:=j;have f:(CX l).toArray.size=l.length:=by simp[CX]
 refine W1 e rfl (q _ ?_ (Dp ..)) (by rw[f];exact Bo M) (by rw[Op,f];exact BJ M)
 have:∀o:Fo,o={cls:=.type "list",dict:=Ao,data:=.seq (CX l).toArray m,slots:=#[]}->∃a,Eb (·.push (.str y u)) o={cls:=.type "list",data:=.seq ((CX l).toArray.push (.str y u)) a}:=by
  rintro o rfl
  unfold Eb;exact⟨_,rfl⟩
 obtain⟨a,P⟩:=this _ rfl;refine⟨a,?_⟩
 rw[DW _ e (by rw[P];rfl),P]
 simp[CX]
theorem IW.but{h h':A9}{a L:An}{code:Array Nat}(hp:IW h a code)(j:∃I,h.PlainList L I)(i:C3 L h h'):IW h' a code:=by
 obtain⟨y,A,g,C,r,U,p⟩:=hp.it;obtain⟨I,m,e⟩:=j;refine⟨y,A,g,C,r,(i.2 a λq=>?_).trans U,(i.2 r λq=>?_).trans p⟩
 ·rw[q,e]at U;exact absurd (congrArg (λo=>o.map D1) U) (by simp)
 ·rw[q,e]at p;exact absurd (congrArg (λo=>o.map D1) p) (by simp)
theorem sZ{l:Nat->Option (Nat×Nat)}{r:List Nat}{x:Array Nat}(i:∀st b e,l st=V (b,e)->st<=b/\b<e/\e<=x.size):∀(f g st:Nat),x.size-st<f->x.size-st<g->JF l r x f st=JF l r x g st:=by
 intro f
 induction f with
 |zero=>intro g st h;exact(Eg 0 (EJ (.k 1) (.k 0) [(1,.a (.v 0) (.k 1),.k 0)] rfl h)).elim
 |succ f ih=>
  intro g st h o
  induction g with
  |zero=>exact(G4 _ o).elim
  |succ g=>
   cases e:l st with
   |none=>apply Dz (Tm e) (Tm e);rfl
   |some p=>
    obtain⟨b,c⟩:=p;obtain⟨U,G,z⟩:=i st b c e
    apply Dz (Tn e) (Tn e);rw[ih g c (by exact(Q4 (.a (.v 6) (.k 1)) (.v 1) [(1,.a (.v 0) (.k 1),.a (.v 1) (.k 1)),(1,.v 2,.v 3),(1,.a (.v 3) (.k 1),.v 4),(1,.v 5,.a (.v 0) (.v 2)),(1,.a (.v 6) (.v 4),.v 5)] rfl h U G Fy (Al (Az z)))) (Q4 (.a (.v 6) (.k 1)) (.v 1) [(1,.a (.v 0) (.k 1),.a (.v 1) (.k 1)),(1,.v 2,.v 3),(1,.a (.v 3) (.k 1),.v 4),(1,.v 5,.a (.v 0) (.v 2)),(1,.a (.v 6) (.v 4),.v 5)] rfl o U G Fy (Al (Az z)))]
theorem td{a L:An}{code:Array Nat}{x r:Av}{t tr:Ez}{W:Nat->Option (Nat×Nat)}(F:RH code x.cps W)(hx:x.cps.size<=1000000){R:QL->Ah->Prop}:
  ∀(k st:Nat) (n:Int) (s:Ah) (l:List (Av×Ez)) (sl:Nat),x.cps.size-st=k->st<=x.cps.size->IW s.heap a code->s.heap.PlainList L (CX l).toArray->l.length<=2*st->(Kq l++JF W r.cps.toList x.cps (k+1) st).length<=4000000->
   (∀S v t',(∀b o,b≠L->s.heap.get? b=V o->S.heap.get? b=V o)->S.gens=s.gens->S.os=s.os->v.cps.toList=Kq l++JF W r.cps.toList x.cps (k+1) st->R (.ok (.ret (.str v t'))) S)->
   FL (Aq Aj w) A (.builtin "re.Pattern.sub.loop" ⟨[.ref a,.str x t,.str r tr,BX 0,BX 0,BX n,BX (st:Int),BX (st:Int),.bool Ak,.ref L,.bool Ak],[]⟩) R s:=by
 intro k
 induction k using JN with
 |ind k ih=>
  intro st n s l sl hk d hp hl hn D hR;have i:(4000000:Nat)<=C5:=by decide
  refine codeAny_builtin RF.entry_sub_loop ?_
  rw[A1.under_plainId RF.plain_loop _];unfold Builtin.«re.Pattern.sub.loop»;show Ap _ A.in1 (FO (.ref a) (.str x t) >>= _) _ _ s;refine Ai (ix hp ?_)
  show Ap _ A.in1 (G8 (.str r tr) >>= _) _ _ s;have Bd:G8 (.str r tr)=BU ():=rfl;rw[Bd];refine Ai (Ar ?_)
  show Ap _ A.in1 (lA {pattern:=.ref a,string:=.str x t,code:=code,text:=x.cps,kind:=0,groups:=0,pos:=0,lim:=x.cps.size} (st:Int).toNat Ak >>= _) _ _ s;rw[Cz];obtain⟨nn,Ce,G⟩:=F.run st d;refine Ai (sW (F.fresh st) Ce ?_)
  cases H:W st with
  |none=>
   rw[H]at G;refine .inl ⟨G,?_⟩
   have j:JF W r.cps.toList x.cps (k+1) st=(x.cps.extract st x.cps.size).toList:=by
    exact Tm H
   rw[j]at D hR;have Q:∀(AK:Ah) (u:List (Av×Ez)),AK.heap.PlainList L (CX u).toArray->Kq u=Kq l++(x.cps.extract st x.cps.size).toList->u.length<=2*st+1->(∀b o,b≠L->s.heap.get? b=V o->AK.heap.get? b=V o)->AK.gens=s.gens->AK.os=s.os->
     Ap (Aq Aj w) A.in1 (do
      let E <-Kw x.cps 0 0 0
      let xs <-seqItems? (.ref L)
      if(xs.getD #[]).isEmpty=Y then(do let text <-BU E;ret text)else(do let text <-DP (.builtin "str.join") [E,.ref L];ret text)) (λQ S=>match Q with| .done f=>R (.ok f) S| .again c'=>c'.quiet=Y/\FL (Aq Aj w) A c' R S) (λe S=>R (.error e) S) AK:=by
    intro AK u M g T N P h;refine Ai (Y5 (Am hx (Am (by decide) i)) ?_)
    obtain⟨m,e⟩:=M;refine Ai (du (items:=(CX u).toArray) e rfl ?_)
    have X:(⟨x.cps.extract 0 0⟩:Av).cps.toList=[]:=by simp
    show Ap _ _ (if(CX u).toArray.isEmpty=Y then _ else _) _ _ _
    cases Cf:u with
    |nil=>
     rw[if_pos (by rfl)]
     refine Ai (Ar (Ar ?_))
     refine hR _ _ _ N P h ?_
     rw[X];apply CE g;apply AO Cf;rfl
    |cons p Ev=>
     rw[if_neg (by simp[CX])]
     refine Ai (SC.join (s:={AK with toks:=AK.toks+1}) (l:=u) ⟨_,e,rfl,_,rfl⟩ rfl ?_ λt' tk=>Ar ?_)
     ·unfold aH;rw[HR];have h1:((u.map (·.1)).map (·.length)).sum=(Kq u).length:=by
       simp[Kq,Av.length,Lu,List.length_flatten]
      have h2:(⟨x.cps.extract 0 0⟩:Av).length=0:=by
       show(x.cps.extract 0 0).size=0;simp
      rw[h1,h2,Dy,FR,g];unfold DZ;rw[A4,decide_eq_false_iff_not];exact Nat.not_lt.mpr (Am D i)
     ·refine hR _ _ _ N P h ?_
      apply CE g;rw[XI,X]
      have:∀ls:List (List Nat),K5 [] ls=ls.flatten:=by
       intro ls
       induction ls with
       |nil=>rfl
       |cons y ls ih=>
        induction ls with
        |nil=>exact(B7 y).symm
        |cons z ls=>exact congrArg (y++·) ih
      rw[this];simp[Kq,Lu]
   show Ap _ A.in1 (if st<x.cps.size then _ else _) _ _ s
   by_cases q:st<x.cps.size
   ·rw[if_pos q];refine Ai (Y5 (Am hx (Am (by decide) i)) ?_)
    refine Ai (Y8 (s:={s with toks:=s.toks+1}) hl (Y7 (BJ hn) d hx i) λh' U C=>?_)
    exact Q {s with heap:=h',toks:=s.toks+1} _ U (by rw[Y4];simp[Kq]) (by rw[Bm];simp;exact hn) (λb o hb e=>(C.2 b hb).trans e) rfl rfl
   ·rw[if_neg q];exact Q s l hl (by
     have:x.cps.extract st x.cps.size= #[]:=by apply Fg;rw[FT];exact(AP (Al (Hh (EV (.v 2) (.v 0) [(1,.v 1,.v 0),(1,.v 2,.v 1)] rfl (BI q) (FF _ _)))) (EJ (.k 0) (.v 0) [] rfl))
     rw[this];simp) (En (.v 0) (.a (.m 2 (.v 1)) (.k 1)) [(1,.v 0,.m 2 (.v 1))] rfl hn) (λb o B e=>e) rfl rfl
  |some be=>
   obtain⟨b,e⟩:=be;rw[H]at G;obtain⟨f1,f2,f3⟩:=G;obtain⟨b1,b2,b3⟩:=F.span st b e H;refine .inr ⟨f1,?_⟩
   dsimp only
   generalize hm:(Cm code x.cps 0 st x.cps.size Ak).runFor nn=m at f1 f2 f3 ⊢
   have j:JF W r.cps.toList x.cps (k+1) st=(x.cps.extract st b).toList++(r.cps.toList++JF W r.cps.toList x.cps k e):=Tn H;have Cx:JF W r.cps.toList x.cps k e=JF W r.cps.toList x.cps (x.cps.size-e+1) e:=sZ F.span _ _ _ (Q4 (.a (.v 6) (.k 1)) (.v 1) [(1,.v 0,.v 1),(1,.v 2,.v 4),(1,.a (.v 4) (.k 1),.v 5),(1,.v 3,.a (.v 0) (.v 2)),(1,.a (.v 6) (.v 5),.v 3)] rfl (Al hk) b1 b2 Fy (Al (Az b3))) (EJ (.a (.v 0) (.k 1)) (.a (.v 0) (.k 1)) [] rfl);rw[Cx]at j;rw[j]at D hR;have go:∀(AK:Ah) (u:List (Av×Ez)),AK.heap.PlainList L (CX u).toArray->IW AK.heap a code->Kq u=Kq l++(x.cps.extract st b).toList->u.length<=2*st+1->(∀b o,b≠L->s.heap.get? b=V o->AK.heap.get? b=V o)->AK.gens=s.gens->AK.os=s.os->
     Ap (Aq Aj w) A.in1 (do
      updateSeq L (·.push (.str r tr))
      again (.builtin "re.Pattern.sub.loop" ⟨[.ref a,.str x t,.str r tr,BX 0,BX 0,BX (n+1),BX (m.handed:Int),BX (m.handed:Int),.bool (m.handed==m.start),.ref L,.bool Ak],[]⟩)) (λQ S=>match Q with| .done f=>R (.ok f) S| .again c'=>c'.quiet=Y/\FL (Aq Aj w) A c' R S) (λe S=>R (.error e) S) AK:=by
    intro AK u M CH g T N P h;refine Ai (Y8 M (Y7 T d hx i) λh' U C=>?_)
    refine Ar ⟨lj RF.plain_loop _,?_⟩
    have DD:(m.handed==m.start)=Ak:=by rw[f2,f3];exact beq_false_of_ne (Dx b2)
    rw[DD,f3];have Bs:Kq (u++[(r,tr)])=Kq l++(x.cps.extract st b).toList++r.cps.toList:=by rw[Y4,g];simp[Kq]
    refine ih (x.cps.size-e) (Q4 (.a (.v 6) (.k 1)) (.v 1) [(1,.v 0,.v 1),(1,.v 2,.v 4),(1,.a (.v 4) (.k 1),.v 5),(1,.v 3,.a (.v 0) (.v 2)),(1,.a (.v 6) (.v 5),.v 3)] rfl (Al hk) b1 b2 Fy (Al (Az b3))) e (n+1) {AK with heap:=h'} (u++[(r,tr)]) 0 rfl b3 (CH.but ⟨_,M⟩ C) U (by rw[Bm];simp;exact(Ip (.a (.v 3) (.k 1)) (.m 2 (.v 2)) [(2,.v 0,.v 1),(2,.a (.v 1) (.k 1),.v 2),(1,.v 3,.a (.m 2 (.v 0)) (.k 1))] rfl b1 b2 T)) ?_ λS v t' h1 h2 h3 h4=>?_
    ·rw[Bs,Cv,Cv];exact D
    ·refine hR S v t' (λc o hc e=>h1 c o hc ((C.2 c hc).trans (N c o hc e))) (h2.trans P) (h3.trans h) ?_
     rw[h4,Bs,Cv,Cv]
   show Ap _ A.in1 (if st<m.start then _ else _) _ _ s
   by_cases q:st<m.start
   ·rw[if_pos q];refine Ai (Y5 (Am hx (Am (by decide) i)) ?_)
    refine Ai (Y8 (s:={s with toks:=s.toks+1}) hl (Y7 (BJ hn) d hx i) λh' U C=>?_)
    exact go {s with heap:=h',toks:=s.toks+1} _ U (IW.but hp ⟨_,hl⟩ C) (by rw[Y4,f2];simp[Kq]) (by rw[Bm];simp;exact hn) (λb o hb e=>(C.2 b hb).trans e) rfl rfl
   ·rw[if_neg q];exact go s l hl hp (by
     have:x.cps.extract st b= #[]:=by apply Fg;rw[FT];exact(AP (Al (Hh (Ip (.v 3) (.v 0) [(1,.v 1,.v 2),(1,.v 2,.v 0),(1,.v 3,.v 1)] rfl (Al f2.symm) (BI q) (FF _ _)))) (EJ (.k 0) (.v 0) [] rfl))
     rw[this];simp) (En (.v 0) (.a (.m 2 (.v 1)) (.k 1)) [(1,.v 0,.m 2 (.v 1))] rfl hn) (λb o B e=>e) rfl rfl
namespace RF
theorem str_call:Dc (.type "str") "__call__"=BU Ao:=by rw[BW,Bk];kernel_rfl
theorem named_sub(r x:Ag):Kv "re.Pattern.sub" "sub" ["repl","string","count"] 2 [r,x] []=BU [V r,V x,Ao]:=by rfl
end RF
theorem iz{a:An}{code:Array Nat}{x r:Av}{t u:Ez}{c:Nat->Option (Nat×Nat)}(F:RH code x.cps c)(L:x.cps.size<=1000000)(j:r.cps.contains 92=Ak)(hp:IW s.heap a code)(f:(JF c r.cps.toList x.cps (x.cps.size+1) 0).length<=4000000){Q:Ag->Ah->Prop}
  (q:∀S v d,(∀b o,s.heap.get? b=V o->S.heap.get? b=V o)->S.gens=s.gens->S.os=s.os->v.cps.toList=JF c r.cps.toList x.cps (x.cps.size+1) 0->Q (.str v d) S):
  Ap (Aq Aj w) A (DP (.builtin "re.Pattern.sub") [.ref a,.str r u,.str x t]) Q E s:=by
 obtain⟨k,h,g,n,p,U,G⟩:=hp.it;refine Hr (codeAny_call_builtin RF.slot_sub.plain RF.entry_sub (RF.slot_sub.check _ _ _ _ _ _ _ _ ⟨_,U,rfl⟩ (RF.args_sub _ _ _) ?_))
 unfold Builtin.«re.Pattern.sub» lB;dsimp only;rw[RF.named_sub];refine Ai (Ar ?_)
 dsimp only;refine Ai (Ar ?_)
 refine Ai (FZ (Jg _ _ _) RF.str_call ?_)
 have i:asStr? (.str r u)=BU (V r):=rfl;show Ap _ _ (asStr? (.str r u) >>= _) _ _ _;rw[i];refine Ai (Ar ?_)
 dsimp only;rw[j];refine Ai (Ar ?_)
 rw[if_neg (by decide),if_pos (by rfl)]
 refine Ai (Ar ?_)
 refine Ai (AZ (ix hp ?_))
 show Ap _ _ (if((0:Nat)==1)=Y then _ else _) _ _ _
 rw[if_neg (by decide)]
 refine Ai (Bi ?_ (Be _))
 have y:(s.heap.push {cls:=.type "list",data:=.seq ([]:List Ag).toArray}).PlainList s.heap.objs.size (CX []).toArray:=⟨0,Ay _ rfl⟩;have keep:∀b o,s.heap.get? b=V o->(s.heap.push {cls:=.type "list",data:=.seq ([]:List Ag).toArray}).get? b=V o:=λb o e=>Au _ e
 refine Ar ⟨lj RF.plain_loop _,?_⟩
 refine td F L x.cps.size 0 0 {s with heap:=s.heap.push {cls:=.type "list",data:=.seq ([]:List Ag).toArray}} [] 0 (AP (DB _ _) (En (.v 0) (.v 1) [(1,.v 0,.a (.v 1) (.k 0))] rfl Fy)) (Be _) ⟨k,h,g,n,p,keep _ _ U,keep _ _ G⟩ y (Be _) f λS v d z l D m=>?_
 exact q S v d (λb o e=>z b o (Bn (AY e)) (keep b o e)) l D m
theorem iA{P:Nat->Bool}{lim:Nat}:∀{f s:Nat},Ir P lim f s=Ao->lim<s+f->∀i,s<=i->i<lim->P i=Ak:=by
 intro f
 induction f with
 |zero=>
  intro s _ j i U G;exact(BH j (Am U (CN G))).elim
 |succ f ih=>
  intro s h j i U G;rw[Tk (AG U G)]at h;cases hp:P s with
  |true=>rw[hp]at h;exact nS (show V s=Ao from h).symm
  |false=>
   rw[hp]at h;by_cases q:i=s
   ·apply AO q;exact hp
   ·exact ih h (EV (.a (.v 0) (.k 1)) (.a (.a (.v 1) (.k 1)) (.v 2)) [(1,.a (.v 0) (.k 1),.a (.v 1) (.a (.v 2) (.k 1)))] rfl j) i (C2 U (IY q)) G
theorem iB{P:Nat->Bool}{lim:Nat}:∀{f s b:Nat},Ir P lim f s=V b->∀i,s<=i->i<b->P i=Ak:=by
 intro f
 induction f with
 |zero=>
  intro s b h i U G;exact nS h
 |succ f ih=>
  intro s b h i U G;rcases E6 s lim with j|j
  ·rw[Tk j]at h;cases hp:P s with
   |true=>rw[hp]at h;exact((sI h:s=b)▸BH G) U |>.elim
   |false=>
    rw[hp]at h;by_cases q:i=s
    ·apply AO q;exact hp
    ·exact ih h i (C2 U (IY q)) G
  ·rw[RG j]at h;exact nS h
theorem PI(x:Array Nat)(i:Nat):x.getD i 0=x.toList.getD i 0:=by
 apply Dz Array.getD_eq_getD_getElem? Cj;rw[G3]
theorem To{l:List Nat}{s:Nat}(h:s<l.length):l.drop s=l.getD s 0::l.drop (s+1):=by
 rw[Cu h,Cj,A8 h];rfl
theorem iC(x:Array Nat)(s b:Nat):(x.extract s b).toList=(x.toList.take b).drop s:=by
 rw[Array.toList_extract,List.extract_eq_take_drop,List.drop_take]
theorem iD{x:Array Nat}{s b:Nat}(h:s<b)(F:b<=x.size):(x.extract s b).toList=x.toList.getD s 0::(x.extract (s+1) b).toList:=by
 rw[iC,iC];have j:s<(x.toList.take b).length:=by rw[I2,Bp];exact(EV (.a (.v 0) (.k 1)) (.v 2) [(1,.a (.v 0) (.k 1),.v 1),(1,.v 1,.v 2)] rfl h (Al (FE F).symm))
 rw[Cu j,List.getElem_take,Cj,A8 (by rw[Bp];exact(EV (.a (.v 0) (.k 1)) (.v 2) [(1,.a (.v 0) (.k 1),.v 1),(1,.v 1,.v 2)] rfl h F))]
 rfl
theorem iF(x:Array Nat)(s:Nat):(x.extract s s).toList=[]:=by
 have:x.extract s s= #[]:=by apply Fg;rw[FT];exact(AP (Al (Hh (FF _ _))) (EJ (.k 0) (.v 0) [] rfl))
 rw[this]
theorem te{b:Bool}{c:Nat}{r:List Nat}(U:c≠10)(G:c≠13):Jb b (c::r)=c::Jb Ak r:=by
 show bI (As c 10) _ _=_;rw[Tj U];show bI (As c 13) _ _=_;rw[Tj G];rfl
theorem th{b:Bool}{r:List Nat}(h:r.getD 0 0≠10):Jb b r=Jb Ak r:=by
 induction r with
 |nil=>induction b<;>rfl
 |cons c r=>
  have h:c≠10:=h;show bI (As c 10) _ _=bI (As c 10) _ _;rw[Tj h];rfl
theorem iG{x:Array Nat}:∀(k s b:Nat),b-s=k->s<=b->b<=x.size->(∀i,s<=i->i<b->Kp x i=Ak)->Jb Ak (x.toList.drop s)=(x.extract s b).toList++Jb Ak (x.toList.drop b):=by
 intro k
 induction k with
 |zero=>
  intro s b P d F h;have:s=b:=(AP d (EV (.v 2) (.v 1) [(1,.v 0,.k 0),(1,.v 2,.a (.v 0) (.v 1))] rfl (Al P) Fy));subst this;rw[iF];rfl
 |succ k ih=>
  intro s b P d F h;have t:s<b:=Ip (.a (.v 2) (.k 1)) (.v 3) [(1,.a (.v 1) (.k 1),.v 0),(1,.a (.v 0) (.v 2),.v 3)] rfl (Al P.symm) (Al (Az d));have f:s<x.toList.length:=AE t F;have hp:=h s (AI _) t;unfold Kp at hp;rw[PI]at hp;have hp:=(Hk).mp hp;rw[iD t F,To f,te (λe=>by rw[e]at hp;cases hp.1) (λe=>by rw[e]at hp;cases hp.2),ih (s+1) b (AP (Kn (.v 4) (.v 1) [(1,.v 0,.a (.v 1) (.k 1)),(1,.v 3,.a (.v 0) (.v 2)),(1,.a (.v 4) (.a (.v 2) (.k 1)),.v 3)] rfl (Al P) Fy (Al (Az t))) (Kn (.v 1) (.v 4) [(1,.a (.v 1) (.k 1),.v 0),(1,.v 3,.a (.v 4) (.a (.v 2) (.k 1))),(1,.a (.v 0) (.v 2),.v 3)] rfl (Al P.symm) Fy (Al (Az d)))) t F λi a c=>h i (En (.v 0) (.v 1) [(1,.a (.v 0) (.k 1),.v 1)] rfl a) c]
  rfl
noncomputable abbrev Qr(x:Array Nat):Nat->Option (Nat×Nat):=λst=>(Ir (Kp x) x.size (x.size+1-st) st).map λb=>(b,MN x b)
noncomputable abbrev Qs(x:Array Nat):Nat->Option (Nat×Nat):=λst=>(Ir (L7 x) x.size (x.size+1-st) st).map λb=>(b,b+1)
theorem ti(x:Array Nat):∀(f st:Nat),x.size-st<f->st<=x.size->JF (Qr x) [13,10] x f st=Jb Ak (x.toList.drop st):=by
 intro f
 induction f with
 |zero=>
  intro st h _;exact(G4 _ h).elim
 |succ f ih=>
  intro st h m;cases M:Ir (Kp x) x.size (x.size+1-st) st with
  |none=>
   have s:Qr x st=Ao:=by unfold Qr;rw[M];rfl
   apply Dz (Tm s) (iG (x.size-st) st x.size rfl m (AI _) λi a c=>iA M (by exact(EV (.a (.v 1) (.k 1)) (.a (.v 0) (.v 2)) [(1,.a (.v 1) (.k 1),.a (.v 2) (.v 0))] rfl Fy)) i a c);rw[CM (by rw[Bp];exact AI _)]
   show _=_++[];rw[B7]
  |some b=>
   have d:Qr x st=V (b,MN x b):=by unfold Qr;rw[M];rfl
   rw[Tn d];obtain⟨U,G,z⟩:=Tl M;obtain⟨E,P⟩:=iy x b;have P:=P G
   apply AO (iG (b-st) st b rfl U (by exact(En (.v 0) (.v 1) [(1,.a (.v 0) (.k 1),.v 1)] rfl G)) λi a c=>iB M i a c);rw[ih (MN x b) (Q4 (.a (.v 6) (.k 1)) (.v 1) [(1,.a (.v 0) (.k 1),.a (.v 1) (.k 1)),(1,.v 2,.v 4),(1,.a (.v 4) (.k 1),.v 5),(1,.v 3,.a (.v 0) (.v 2)),(1,.a (.v 6) (.v 5),.v 3)] rfl h U E Fy (Al (Az P))) P]
   congr 1
   have k:b<x.toList.length:=by apply AO Bp;exact G
   rw[To k,<-PI];unfold Kp at z;unfold MN;by_cases p:x.getD b 0=13
   ·rw[p];have e1:Jb Ak (13::x.toList.drop (b+1))=13::10::Jb Y (x.toList.drop (b+1)):=rfl
    apply AO e1
    by_cases r:b+1<x.size/\x.getD (b+1) 0=10
    ·rw[if_pos ⟨rfl,r⟩];have l:b+1<x.toList.length:=by apply AO Bp;exact r.1
     rw[To l,<-PI,r.2]
     rfl
    ·rw[if_neg λq=>r q.2]
     rw[th (b:=Y)]
     ·rfl
     ·intro e;rw[Cj,H0,FR,<-Cj,<-PI]at e;by_cases j:b+1<x.size
      ·exact r ⟨j,e⟩
      ·rw[PI,Cj,Dl (by rw[Bp];exact(BI j))]at e
       cases e
   ·rw[if_neg λq=>p q.1]
    rcases(AT _ _).mp z with g|g
    ·rw[AB g];rfl
    ·exact absurd (AB g) p
noncomputable def Nm(x:Array Nat)(i:Nat):Bool:=As i 0||Nat.beq (x.getD (i-1) 0) 10
theorem iH{x:Array Nat}:∀(k s b:Nat),b-s=k->s<=b->b<=x.size->(∀i,s<=i->i<b->L7 x i=Ak)->PG (Nm x s) (x.toList.drop s)=(x.extract s b).toList++PG (Nm x b) (x.toList.drop b):=by
 intro k
 induction k with
 |zero=>
  intro s b P d F h;have:s=b:=(AP d (EV (.v 2) (.v 1) [(1,.v 0,.k 0),(1,.v 2,.a (.v 0) (.v 1))] rfl (Al P) Fy));subst this;rw[iF];rfl
 |succ k ih=>
  intro s b P d F h;have t:s<b:=Ip (.a (.v 2) (.k 1)) (.v 3) [(1,.a (.v 1) (.k 1),.v 0),(1,.a (.v 0) (.v 2),.v 3)] rfl (Al P.symm) (Al (Az d));have e:s<x.toList.length:=AE t F;have hp:=h s (AI _) t;unfold L7 at hp;have hp:(Nm x s&&As (x.getD s 0) 46)=Ak:=hp;rw[iD t F,To e,<-PI];show bI (Nm x s&&As (x.getD s 0) 46) [46,46] [x.getD s 0]++PG (As (x.getD s 0) 10) (x.toList.drop (s+1))=_;rw[hp];have n:Nm x (s+1)=As (x.getD s 0) 10:=by
   unfold Nm;show(Ak||Nat.beq (x.getD s 0) 10)=_
   rw[QY]
  rw[<-n,ih (s+1) b (by exact(AP (Kn (.v 4) (.v 1) [(1,.v 0,.a (.v 1) (.k 1)),(1,.v 3,.a (.v 0) (.v 2)),(1,.a (.v 4) (.a (.v 2) (.k 1)),.v 3)] rfl (Al P) Fy (Al (Az t))) (Kn (.v 1) (.v 4) [(1,.a (.v 1) (.k 1),.v 0),(1,.v 3,.a (.v 4) (.a (.v 2) (.k 1))),(1,.a (.v 0) (.v 2),.v 3)] rfl (Al P.symm) Fy (Al (Az d))))) t F λi a c=>h i (En (.v 0) (.v 1) [(1,.a (.v 0) (.k 1),.v 1)] rfl a) c]
  rfl
theorem tj(x:Array Nat):∀(f st:Nat),x.size-st<f->st<=x.size->JF (Qs x) [46,46] x f st=PG (Nm x st) (x.toList.drop st):=by
 intro f
 induction f with
 |zero=>
  intro st h _;exact(G4 _ h).elim
 |succ f ih=>
  intro st h d;cases M:Ir (L7 x) x.size (x.size+1-st) st with
  |none=>
   have s:Qs x st=Ao:=by unfold Qs;rw[M];rfl
   apply Dz (Tm s) (iH (x.size-st) st x.size rfl d (AI _) λi a c=>iA M (by exact(EV (.a (.v 1) (.k 1)) (.a (.v 0) (.v 2)) [(1,.a (.v 1) (.k 1),.a (.v 2) (.v 0))] rfl Fy)) i a c);rw[CM (by rw[Bp];exact AI _)]
   show _=_++[];rw[B7]
  |some b=>
   have E:Qs x st=V (b,b+1):=by unfold Qs;rw[M];rfl
   rw[Tn E];obtain⟨U,G,z⟩:=Tl M
   apply AO (iH (b-st) st b rfl U (by exact(En (.v 0) (.v 1) [(1,.a (.v 0) (.k 1),.v 1)] rfl G)) λi a c=>iB M i a c);rw[ih (b+1) (lI (.a (.v 5) (.k 1)) (.v 1) [(1,.a (.v 0) (.k 1),.a (.v 1) (.k 1)),(1,.v 2,.v 4),(1,.v 3,.a (.v 0) (.v 2)),(1,.a (.v 5) (.a (.v 4) (.k 1)),.v 3)] rfl h U Fy (Al (Az G))) G]
   congr 1
   have k:b<x.toList.length:=by apply AO Bp;exact G
   rw[To k,<-PI];show _=bI (Nm x b&&As (x.getD b 0) 46) [46,46] [x.getD b 0]++PG (As (x.getD b 0) 10) (x.toList.drop (b+1));have z:(Nm x b&&As (x.getD b 0) 46)=Y:=z;have n:Nm x (b+1)=As (x.getD b 0) 10:=by
    unfold Nm;show(Ak||Nat.beq (x.getD b 0) 10)=_
    rw[QY]
   rw[z,n];rfl
theorem iJ:∀(b:Bool) (l:List Nat),(Jb b l).length<=2*l.length:=by
 intro b l
 induction l generalizing b with
 |nil=>induction b<;>exact Be _
 |cons c r ih=>
  have U:=ih Ak;have G:=ih Y;show(bI (As c 10) (bI b (Jb Ak r) (13::10::Jb Ak r)) (bI (As c 13) (13::10::Jb Y r) (c::Jb Ak r))).length<=2*(r.length+1);cases As c 10 with
  |true=>
   induction b with
   |true=>show(Jb Ak r).length<=_;exact(En (.v 0) (.m 2 (.a (.v 1) (.k 1))) [(1,.v 0,.m 2 (.v 1))] rfl U)
   |false=>show(Jb Ak r).length+1+1<=_;exact(En (.a (.a (.v 0) (.k 1)) (.k 1)) (.m 2 (.a (.v 1) (.k 1))) [(1,.v 0,.m 2 (.v 1))] rfl U)
  |false=>
   cases As c 13 with
   |true=>show(Jb Y r).length+1+1<=_;exact(En (.a (.a (.v 0) (.k 1)) (.k 1)) (.m 2 (.a (.v 1) (.k 1))) [(1,.v 0,.m 2 (.v 1))] rfl G)
   |false=>show(Jb Ak r).length+1<=_;exact(En (.a (.v 0) (.k 1)) (.m 2 (.a (.v 1) (.k 1))) [(1,.v 0,.m 2 (.v 1))] rfl U)
theorem tl:∀(b:Bool) (l:List Nat),(PG b l).length<=2*l.length:=by
 intro b l
 induction l generalizing b with
 |nil=>induction b<;>exact Be _
 |cons c r ih=>
  have U:=ih (As c 10);show(bI (b&&As c 46) [46,46] [c]++PG (As c 10) r).length<=_;rw[Bm,Cb];cases b&&As c 46 with
  |true=>show 2+_<=_;exact(En (.a (.k 2) (.v 0)) (.m 2 (.a (.v 1) (.k 1))) [(1,.v 0,.m 2 (.v 1))] rfl U)
  |false=>show 1+_<=_;exact(En (.a (.k 1) (.v 0)) (.m 2 (.a (.v 1) (.k 1))) [(1,.v 0,.m 2 (.v 1))] rfl U)
theorem IW.ext{a:An}{code:Array Nat}(hp:IW s.heap a code)(x:BM T s S):IW S.heap a code:=by
 obtain⟨i,j,g,p,q,U,r⟩:=hp.it;exact⟨i,j,g,p,q,x.keep2 _ _ U rfl,x.keep2 _ _ r rfl⟩
theorem tm(t:List Nat):(PH t).length<=4*t.length:=by
 have U:=iJ Ak t;have G:=tl Y (Jb Ak t);unfold PH;exact(EV (.v 2) (.m 4 (.v 1)) [(2,.v 0,.m 2 (.v 1)),(1,.v 2,.m 2 (.v 0))] rfl U G)
theorem iK{Z:DS}{sc:List (Av×AC)}{id:Av}{p1 p2 D:B9}{e1 e2:Expr}{f:An}{code:Array Nat}{Q:Ag->Ah->Prop}(ok:IB Z sc)(bs:Bs T mg mb s0 s)(j:mg id=V (.ref f))(i:(id==("__debug__":Av))=Ak)
  (o:sc.lookup id=V .globalImplicit)(k:IW s0.heap f code)(c:(p2.endLine==D.line)=Y)(U:∀v p,e1≠.Starred v p)(G:∀v p,e2≠.Starred v p)
  (q:Ap (Aq Aj w) A (Bj e1 Z) (λl AK=>Ap (Aq Aj w) A (Bj e2 Z) (λd By=>Ap (Aq Aj w) A (DP (.builtin "re.Pattern.sub") [.ref f,l,d]) Q E By) E AK) E s):
  Ap (Aq Aj w) A (Bj (.Call (.Attribute (.Name id p1) "sub" p2) [e1,e2] [] D) Z) Q E s:=by
 have a:Er D (CV [e1,e2] Z)=[(Ak,Bj e1 Z),(Ak,Bj e2 Z)]:=by rw[Fa U,Fa G];rfl
 refine BC (IU rfl) (by rw[a];rfl) c ?_
 rw[a];have P:Z.kindOf id=V .globalImplicit:=by rw[ok.kindOf];exact o
 obtain⟨t,h,g,n,m,r,u⟩:=(k.ext bs.ext).it;refine Bl ok.kind P (CJ (ok.glob▸bs.ng) j ?_) i
 refine⟨"re.Pattern","re.Pattern.sub",RF.plainAttrs,RF.slot_sub,RF.type_sub,⟨_,r,rfl⟩,(λb e=>by cases e;exact⟨_,r,rfl⟩),?_⟩
 refine B0 rfl (CI (Ax ?_))
 refine AM q (λl AK U=>Ax ?_) λz z e=>e
 refine AM U (λd By G=>AF G) λz z e=>e
set_option tactic.hygienic true in
theorem to(hk:k+1<=100)(P:EA B){a r1 r2:An}{fd:BA}{x:Nat}{tc:Ez}
  (F:JT s0 a fd [.Return (V (.Call (.Attribute (.Name "_twin_re_1" (Lx 0)) "sub" (Lx 1)) [.Constant (.str "..") 0 (Lx 2),.Call (.Attribute (.Name "_twin_re_2" (Lx 3)) "sub" (Lx 4)) [.Name "CRLF" (Lx 5),.Name (B x) (Lx 6)] [] (Lx 7)] [] (Lx 8))) (Lx 9)])
  (p:KB B fd [x])(j:FJ fd.scope.names (B x)=Y)(R:(B x==("__debug__":Av))=Ak)(l1:((Lx 1).endLine==(Lx 8).line)=Y)(l2:((Lx 4).endLine==(Lx 7).line)=Y)(n1:fd.scope.names.lookup ("_twin_re_1":Av)=V .globalImplicit)(n2:fd.scope.names.lookup ("_twin_re_2":Av)=V .globalImplicit)(n3:fd.scope.names.lookup ("CRLF":Av)=V .globalImplicit)
  (g1:mg "_twin_re_1"=V (.ref r1))(g2:mg "_twin_re_2"=V (.ref r2))(g3:mg "CRLF"=V (.str ⟨#[13,10]⟩ tc))(R1:IW s0.heap r1 H1)(R2:IW s0.heap r2 Fi){t:List Nat}(C:t.length<=400000):
  ∀(A:A1) (E:Ag->Ah->Prop) (N:An->Prop) (s:Ah) (I:List Ag) (Q:Ag->Ah->Prop),Eo k A->Bs T mg mb s0 s->(∀a,N a->Da s.heap a)->BV J N s.heap I [.str t]->GB T J N s (.str (PH t)) Q->Ap (Aq Aj w) A (DP (.ref a) I) Q E s:=by
 refine Tf (d:=.str (PH t)) hk P F p rfl (by simpa using j) rfl λA' E' N2 Z L AK Cx W=>?_
 refine Aw (CD ?_)
 have hv:Ko (Z.kindOf (B x))=Y:=by
  unfold FJ at j;have hf:=AH j;rw[W.ok.kindOf];rcases(AT _ _).mp hf.1 with q|q
  ·rw[AA q];rfl
  ·rw[AA q];rfl
 obtain⟨v,G,X⟩:=W.rel.one x (.str t) (by show lk x [(x,D.str t)]=_;rw[H6,if_pos rfl]) hv
 obtain⟨_,_,rfl,et⟩:=X.inv;rename_i xs tx;refine iK W.ok W.bs g1 (by decide) n1 R1 l1 (λK K h=>by cases h) (λK K h=>by cases h) ?_
 refine Jm ?_
 have z:BM T AK {AK with toks:=AK.toks+1}:=.toks
 have u:=W.ext z;refine iK u.ok u.bs g2 (by decide) n2 R2 l2 (λK K h=>by cases h) (λK K h=>by cases h) ?_
 have Bd:Z.kindOf ("CRLF":Av)=V .globalImplicit:=by rw[u.ok.kindOf];exact n3
 refine Bl u.ok.kind Bd (CJ (u.ok.glob▸u.bs.ng) g3 ?_) (by decide)
 refine(G.ext z).load u.ok.kind R ?_
 have hsz:xs.cps.size=t.length:=by apply CE et;apply AO Bp;rfl
 have F2:RH Fi xs.cps (Qr xs.cps):=sX xs.cps;have n:JF (Qr xs.cps) [13,10] xs.cps (xs.cps.size+1) 0=Jb Ak t:=by
  rw[ti xs.cps _ 0 (by exact(En (.a (.v 1) (.k 1)) (.a (.v 0) (.k 1)) [(1,.v 1,.v 0)] rfl (DB _ _))) (Be _),C7,et]
 have f:=iJ Ak t;refine iz (r:=⟨#[13,10]⟩) F2 (En (.v 1) (.k 1000000) [(1,.v 0,.k 400000),(1,.v 1,.v 0)] rfl C (Al hsz)) (by decide+kernel) (R2.ext u.bs.ext) (by show(JF _ [13,10] _ _ _).length<=_;rw[n];exact(En (.v 1) (.k 4000000) [(2,.v 0,.k 400000),(1,.v 1,.m 2 (.v 0))] rfl C f)) λBy g t2 U h2 h3 l=>?_
 have l:g.cps.toList=Jb Ak t:=l.trans n;have H:BM T {AK with toks:=AK.toks+1} By:=⟨λb o K e=>U b o e,λb o e K=>U b o e,λb K t=>t.keep (λc o K e=>U c o e) (λo e=>U _ o e),λK e=>by apply AO h2;exact e,h3⟩
 have Ce:=u.ext H;have i:g.cps.size=(Jb Ak t).length:=by rw[<-l,Bp]
 have F1:RH H1 g.cps (Qs g.cps):=sY g.cps (EV (.v 2) (.k (2^60)) [(2,.v 0,.k 400000),(1,.v 1,.m 2 (.v 0)),(1,.v 2,.v 1)] rfl C f (Al i));have m:JF (Qs g.cps) [46,46] g.cps (g.cps.size+1) 0=PH t:=by
  rw[tj g.cps _ 0 (by exact(En (.a (.v 1) (.k 1)) (.a (.v 0) (.k 1)) [(1,.v 1,.v 0)] rfl (DB _ _))) (Be _),C7,l];rfl
 have y:=tm t;refine iz (r:="..") F1 (EV (.v 2) (.k 1000000) [(2,.v 0,.k 400000),(1,.v 1,.m 2 (.v 0)),(1,.v 2,.v 1)] rfl C f (Al i)) (by decide+kernel) (R1.ext Ce.bs.ext) (by show(JF _ [46,46] _ _ _).length<=_;rw[m];exact(En (.v 1) (.k 4000000) [(4,.v 0,.k 400000),(1,.v 1,.m 4 (.v 0))] rfl C y)) λB4 v3 t3 M h6 h7 h8=>?_
 have Cf:BM T By B4:=⟨λb o K e=>M b o e,λb o e K=>M b o e,λb K t=>t.keep (λc o K e=>M c o e) (λo e=>M _ o e),λK e=>by apply AO h6;exact e,h7⟩
 exact⟨_,rfl,.str (h8.trans m),((z.trans H).trans Cf).upd⟩
theorem At.see(x:At T J mg mb s0 B sc k A N2 Z s ρ ow OA){y:Nat}{v:Ag}{d:D}(i:DH Z s.heap (B y) v)(Q:Rd J (Dt N2 OA) s.heap v d):At T J mg mb s0 B sc k A N2 Z s ((y,d)::ρ) ow OA:=by
 refine⟨x.ha,x.ok,x.hm,x.bs,⟨λz e j P=>?_,x.rel.own,x.rel.nodup,x.rel.apart,x.rel.sl⟩,x.occ,x.young⟩
 rw[H6]at j;by_cases q:z=y
 ·rw[if_pos q]at j;exact q▸⟨v,i,sI j▸Q⟩
 ·rw[if_neg q]at j;exact x.rel.one z e j P
theorem tq{a:An}{fd:BA}{body:List Bx}(F:JT s0 a fd body)(p:∀x∈fd.scope.names,x.2≠.cell)(g:Eo k A)(bs:Bs T mg mb s0 s)(occ:∀a,N a->Da s.heap a){Z:DS}(f:Z=GO fd s.heap.objs.size a){m:Av->Option Ag}{h'0:A9}{tk:Nat}
  (q:h'0.Ns s.heap.objs.size m)(P:∀b o,s.heap.get? b=V o->h'0.get? b=V o):
  At T J mg mb s0 B fd.scope.names (k+1) (A.deeper Z) (λb=>N b\/D5 Z b) Z {s with heap:=h'0,toks:=tk} [] [] []/\BM T s {s with heap:=h'0,toks:=tk}/\(∀b,D5 Z b->s.heap.get? b=Ao)∧
   ∀x v,fd.scope.names.lookup x=V .local->m x=V v->DH Z h'0 x v:=by
 obtain⟨u,Q⟩:=SZ F.names;have i:Z.locals=s.heap.objs.size:=by apply AO f;rfl
 have l:Z.cells=[]:=f▸F.clo;have U:Z.scope=fd.scope:=by apply AO f;rfl
 have ext:BM T s {s with heap:=h'0,toks:=tk}:=.of_keeps P
 have R:∀b,D5 Z b->s.heap.get? b=Ao:=λb h=>by
  rcases h with e|⟨n,hm⟩
  ·apply AO e;rw[i];exact HX (AI _)
  ·rw[l]at hm;exact nomatch hm
 have sl:FV Z h'0:=⟨⟨m,i▸q⟩,λn c hm=>(by rw[l]at hm;exact nomatch hm),l▸.nil⟩
 have ok:IB Z fd.scope.names:=by
  refine⟨U▸F.kind,by rw[U],by apply AO f;exact F.glob,by apply AO f;exact F.bui,λy r=>?_⟩
  rcases r with r|r
  ·exact absurd rfl (p _ (mem_of_lookup r))
  ·have:=(u y .free (mem_of_lookup r)).1 rfl;exact this.elim (λh=>nS h) λh=>nS h
 refine⟨⟨⟨g.handled,BB g.depth,?_⟩,ok,⟨.inr (.inl rfl),λn c hm=>.inr (.inr ⟨n,hm⟩)⟩,bs.step ext,⟨λy d j P=>nS j,.nil,.nil,λb t=>(nomatch t),sl⟩,λb h=>?_,⟨λb h=>bs.free (R b h),λb t=>(nomatch t)⟩⟩,ext,R,λx v L hm=>?_⟩
 ·exact hJ g.units
 ·rcases h with h|h
  ·exact(occ b h).ext ext
  ·exact sl.frm_occ (s:={s with heap:=h'0,toks:=tk}) h
 ·exact .inl ⟨by rw[ok.kindOf];exact L,m,i▸q,hm⟩
theorem Qt(P:k+1<=100){a:An}{fd:BA}{body:List Bx}(F:JT s0 a fd body)(d:∀x∈fd.scope.names,x.2≠.cell)(g:Eo k A)(bs:Bs T mg mb s0 s)(occ:∀a,N a->Da s.heap a){j:List Ag}{m:List (Av×Ag)}{Q:Ag->Ah->Prop}
  {Ac:List (Av×Ag)->Ah->Prop}(l:∀(q:A1) (r:Ag->Ah->Prop),Ap (Aq Aj w) q (Du fd ⟨j,m⟩) Ac r s)(z:∀binds AK,Ac binds AK->BM T s AK/\(∀x∈binds,fd.scope.names.lookup x.1=V .local)∧
   ∀(Z:DS) (By:Ah) (r:Ag->Ah->Prop),At T J mg mb s0 B fd.scope.names (k+1) (A.deeper Z) (λb=>N b\/D5 Z b) Z By [] [] []->BM T AK By->(∀b,D5 Z b->AK.heap.get? b=Ao)->(∀x v,fd.scope.names.lookup x=V .local->binds.reverse.lookup x=V v->DH Z By.heap x v)->
    Ap (Aq Aj w) (A.deeper Z) (C4 body Z) (λf S=>Q (match f with| .ret v=>v|_=>.none) S) r By):Ap (Aq Aj w) A (DP (.ref a) j m) Q E s:=by
 obtain⟨o,C,hd⟩:=F.at';refine Hr (codeAny_call_function (g.room (Bo P)) (bs.ext.keep2 a o C (JC (hd▸rfl))) hd F.co F.gen F.body (YZ bs F.rec') ?_)
 refine AM (l _ _) (λbinds AK D=>?_) λG G e=>e
 obtain⟨W,y,i⟩:=z binds AK D;have n:=bs.step W;refine Pf d y (λh'0 p c=>?_) F.kind
 have keep:∀b o,AK.heap.get? b=V o->h'0.get? b=V o:=λb o e=>c.extBut b o (Bn (AY e)) (Au _ e)
 refine⟨((n.ext.nolimit F.lim).keeps keep),codeAny_func ?_⟩
 obtain⟨t,u,R,vars⟩:=tq (J:=J) (B:=B) (N:=N) F d g n (λb h=>(occ b h).ext W) rfl (tk:=AK.toks+binds.length) p keep
 exact i _ _ _ t u R vars
structure V0(s0:Ah)(mg mb:Av->Option Ag):Prop where
 freeType:mg "type"=Ao
 valType:mb "type"=V (.type "type")
 freeList:mg "list"=Ao
 valList:mb "list"=V (.type "list")
 name:∃a,mg "_name_disallowed_re"=V (.ref a)/\IW s0.heap a M5
 value:∃a,mg "_value_disallowed_re"=V (.ref a)/\IW s0.heap a Lw
theorem At.name(x:At T J mg mb s0 B sc k A N2 Z s ρ ow OA){y:Av}{v:Ag}{pos:B9}{Q:Ag->Ah->Prop}(i:DH Z s.heap y v)(hd:(y==("__debug__":Av))=Ak)(q:Q v s):Ap (Aq Aj w) A (Bj (.Name y pos) Z) Q E s:=
 i.load x.ok.kind hd q
theorem At.builtin(x:At T J mg mb s0 B sc k A N2 Z s ρ ow OA){y:Av}{v:Ag}{pos:B9}{Q:Ag->Ah->Prop}(P:sc.lookup y=V .globalImplicit)(hd:(y==("__debug__":Av))=Ak)(U:mg y=Ao)(i:mb y=V v)(q:Q v s):Ap (Aq Aj w) A (Bj (.Name y pos) Z) Q E s:=
 Bl x.ok.kind (by rw[x.ok.kindOf];exact P) (Ex (x.ok.glob▸x.bs.ng) U (x.ok.bui▸x.bs.nb) i q) hd
theorem At.global(x:At T J mg mb s0 B sc k A N2 Z s ρ ow OA){y:Av}{v:Ag}{pos:B9}{Q:Ag->Ah->Prop}(P:sc.lookup y=V .globalImplicit)(hd:(y==("__debug__":Av))=Ak)(U:mg y=V v)(q:Q v s):Ap (Aq Aj w) A (Bj (.Name y pos) Z) Q E s:=
 Bl x.ok.kind (by rw[x.ok.kindOf];exact P) (CJ (x.ok.glob▸x.bs.ng) U q) hd
theorem At.save(x:At T J mg mb s0 B sc k A N2 Z s [] ow OA){y:Av}{v:Ag}{Q:Unit->Ah->Prop}(hf:FJ sc y=Y)(hy:∀z o,lk z ow=V o->B z≠y)
  (q:∀S,At T J mg mb s0 B sc k A N2 Z S [] ow OA->Co T (D5 Z) s S->DH Z S.heap y v->(∀z u,z≠y->DH Z s.heap z u->DH Z S.heap z u)->Q () S):Ap (Aq Aj w) A (D6 Z y v) Q E s:=by
 obtain⟨a,st⟩:=Oc x.ok hf;refine Yc x.ok.kind x.rel.sl st (MK x.bs x.rel.sl st.frm) λS u L hv C=>?_
 have W:Co T (D5 Z) s S:=u.mono λb e=>e▸st.frm
 have M:FU (Dt N2 OA) (Dt N2 OA) s.heap S.heap:=u.fits λb e=>e▸.inl (x.hm.frm st.frm)
 refine q S ⟨x.ha,x.ok,x.hm,x.bs.upd W x.young.frm,⟨λz d j hk=>(by cases j),?_,x.rel.nodup,x.rel.apart,L⟩,λb h=>u.occ b (x.occ b h),x.young⟩ W hv C
 have BD:∀(ow:List (Nat×Ae)) (Ck:List (List An)),(∀z o,lk z ow=V o->B z≠y)->(∀b∈Ck.flatten,¬N2 b)->GT J B (Dt N2 OA) Z s.heap ow Ck->GT J B (Dt N2 OA) Z S.heap ow Ck:=by
  intro ow Ck hz i N
  induction N with
  |nil=>exact .nil
  | @cons z o as v r r' P U t ih=>
   have p:B z≠y:=hz z o (by rw[Oa,if_pos rfl])
   refine .cons (C _ _ p P) (U.mono M λb F hm=>?_) (ih (λX o' j=>?_) λb F=>i b (by apply AO Bb;exact DV _ F))
   ·obtain⟨ob,eb,tb⟩:=F;exact(u.keep2 b ob (λq=>i b (by apply AO Bb;exact Dv _ hm) (q▸x.hm.frm st.frm)) eb tb).trans eb.symm
   ·by_cases q:X=z
    ·apply AO q;exact p
    ·exact hz X o' (by rw[Oa,if_neg q];exact j)
 exact BD ow OA hy (λb F=>(x.rel.apart b F).1) x.rel.own
theorem tu{M:IX}{A:A1}{E:Ag->Ah->Prop}{s:Ah}{Q:Bool->Ah->Prop}(h:Q Ak s):Ap M A (truthy .none) Q E s:=λz z z=>h
noncomputable def iM(p d Q:Ag):List (Av×Ag):=[(("self":Av),p),(("value":Av),d),(("name":Av),Q)]
theorem tv(hk:k+1<=100)(H:V0 s0 mg mb){a:An}{fd:BA}{rest:List Bx}{bad:List Bx}
  (F:JT s0 a fd (.If (.Compare (.Call (.Name "type" (Iy 0)) [.Name "value" (Iy 1)] [] (Iy 2)) [.Is] [.Name "str" (Iy 3)] (Iy 4))
   [.Assign [.Name "regex" (Iy 5)] (.IfExp (.Name "name" (Iy 6)) (.Name "_name_disallowed_re" (Iy 7)) (.Name "_value_disallowed_re" (Iy 8)) (Iy 9)) (Iy 10),
    .If (.Call (.Attribute (.Name "regex" (Iy 11)) "search" (Iy 12)) [.Name "value" (Iy 13)] [] (Iy 14)) bad [] (Iy 15),.Return (V (.Name "value" (Iy 16))) (Iy 17)] [] (Iy 18)::rest))
  (D:∀x∈fd.scope.names,x.2≠.cell)(G:((Iy 12).endLine==(Iy 14).line)=Y)
  (L:∀v1 v2 v3,Du fd ⟨[v1,v2],[(("name":Av),v3)]⟩=BU (iM v1 v2 v3))(r:(["self","value","name","regex"]:List Av).all (λy=>fd.scope.names.lookup y==V .local)=Y)
  (U:(["type","str","_name_disallowed_re","_value_disallowed_re"]:List Av).all (λy=>fd.scope.names.lookup y==V .globalImplicit)=Y):
  ∀(A:A1) (E:Ag->Ah->Prop) (N:An->Prop) (s:Ah) (sv:Ag) (x:Av) (t:Ez) (b:Bool) (Q:Ag->Ah->Prop),Eo k A->Bs T mg mb s0 s->(∀a,N a->Da s.heap a)->H7 x.cps.toList=Y->x.cps.size<2^63->
   (∀S,BM T s S->Q (.str x t) S)->Ap (Aq Aj w) A (DP (.ref a) [sv,.str x t] [(("name":Av),.bool b)]) Q E s:=by
 intro A E N s sv x t b Q ha bs occ CH hsz q;have M:∀y∈(["self","value","name","regex"]:List Av),fd.scope.names.lookup y=V .local:=NO r;have hg:∀y∈(["type","str","_name_disallowed_re","_value_disallowed_re"]:List Av),fd.scope.names.lookup y=V .globalImplicit:=NO U;refine Qt (J:=⟨λI=>0,λI=>[],λI=>⟨rfl,by decide⟩,Aj,w⟩) (B:=λn=>⟨#[n]⟩) hk F D ha bs occ (Ac:=λbinds AK=>binds=iM sv (.str x t) (.bool b)/\AK=s) (λA' E'=>by rw[L];exact Ar ⟨rfl,rfl⟩) ?_
 rintro binds AK ⟨rfl,rfl⟩
 refine⟨.refl,λy hy=>?_,λZ By E' c DD R vars=>?_⟩
 ·exact Di (P:=λp=>fd.scope.names.lookup p.1=V .local) (M _ (iL rfl)) (Di (M _ (iL rfl)) (Di (M _ (iL rfl)) Ky)) _ hy
 have C:=vars "value" (.str x t) (M _ (iL rfl)) (by kernel_rfl)
 have l:=vars "name" (.bool b) (M _ (iL rfl)) (by kernel_rfl)
 refine Aw (EN (Ch ?_))
 refine AX (c.builtin (hg _ (iL rfl)) (by decide) H.freeType H.valType ?_)
 refine callWith_type1 ?_ rfl
 refine Ax (c.name C (by decide) (AF ?_))
 refine zm (Tx:="str") (Jg _ _ _) (by decide) ?_
 refine c.builtin (hg _ (iL rfl)) (by decide) (c.bs.gl.free 2 (by decide)) (c.bs.gl.val 2 (by decide)) ?_
 refine ll (by rfl) (Bq ?_)
 rw[if_pos rfl];have j:∃W code,(b=Y->W=H.name.choose/\code=M5)/\(b=Ak->W=H.value.choose/\code=Lw)/\IW s0.heap W code/\(code=M5\/code=Lw):=by
  induction b with
  |true=>exact⟨_,_,λI=>⟨rfl,rfl⟩,λh=>(by cases h),H.name.choose_spec.2,.inl rfl⟩
  |false=>exact⟨_,_,λh=>(by cases h),λI=>⟨rfl,rfl⟩,H.value.choose_spec.2,.inr rfl⟩
 obtain⟨W,code,X,Bd,j,d⟩:=j;refine Aw (A2 ?_ rfl)
 have Ce:Ap (Aq Aj w) (A.deeper Z) (C1 (.IfExp (.Name "name" (Iy 6)) (.Name "_name_disallowed_re" (Iy 7)) (.Name "_value_disallowed_re" (Iy 8)) (Iy 9)) Z) (λv B4=>v= .ref W/\B4=By) E' By:=by
  refine aI (DY (c.name l (by decide) (Bq ?_)) rfl)
  induction b with
  |true=>
   rw[if_pos rfl];refine c.global (hg _ (iL rfl)) (by decide) H.name.choose_spec.1 ⟨by apply AO ((X rfl).1);rfl,rfl⟩
  |false=>
   rw[if_neg AR];refine c.global (hg _ (iL rfl)) (by decide) H.value.choose_spec.1 ⟨by apply AO ((Bd rfl).1);rfl,rfl⟩
 refine AM Ce (λv B4 ⟨hv,hs⟩=>?_) λI I e=>e
 subst hv;subst hs;refine c.save (y:="regex") (by unfold FJ;rw[M "regex" (iL rfl)];decide) (λz o h=>by cases h) λEv f E3 Cf E4=>?_
 have m:=E4 _ _ (by decide) C
 have Cx:=j.ext f.bs.ext;obtain⟨pv,fl,g,t6,ct,g1,g2⟩:=id Cx.it;refine Aw (EN (DY ?_ rfl))
 refine BC (IU rfl) rfl G ?_
 refine f.name Cf (by decide) ⟨"re.Pattern","re.Pattern.search",RF.plainAttrs,RF.slot_search,RF.type_search,⟨_,g1,rfl⟩,(λb e=>by cases e;exact⟨_,g1,rfl⟩),?_⟩
 refine B0 rfl (CI (Ax (f.name m (by decide) (AF ?_))))
 have u:VY x.cps:=by
  intro i hi;have:=D9 (AH CH).1 (x.cps.getD i 0) (by
   rw[PI,Cj,A8 (by rw[Bp];exact hi)]
   exact Ov _)
  have:=AH this;exact⟨D8 this.1,D8 this.2⟩
 refine sC Cx d u hsz ?_
 refine tu ?_
 rw[if_neg AR];refine Bz (Aw (CD (f.name m (by decide) ?_)))
 exact q Ev (Fe.ext2 DD E3.gone R)
theorem V1(x:At T J mg mb s0 B sc k A N2 Z s ρ ow OA)(g:Nf Aj w T J mg mb s0 k){C:Av}{p1 p2 p3 M G:B9}{u:Nat}{e:Expr}{b:Bool}{L dx U:An}{Q:Ag->Ah->Prop}(h:DH Z s.heap C (.ref L))(j:(C==("__debug__":Av))=Ak)(n:GS J s.heap L dx U)
  (l:(p2.endLine==G.line)=Y)(d:∀v p,e≠.Starred v p)
  (r:Ap (Aq Aj w) A (Bj e Z) (λv AK=>∃y t,v= .str y t/\BM T s AK/\H7 y.cps.toList=Y/\y.cps.size<2^63/\∀By,BM T AK By->Q (.str y t) By) E s):
  Ap (Aq Aj w) A (Bj (.Call (.Attribute (.Name C p1) "_convert_string_type" p2) [e] [⟨V "name",.Constant (.bool b) u p3,M⟩] G) Z) Q E s:=by
 obtain⟨f,⟨⟨i,fd,N,D,P⟩,c⟩,m⟩:=g;have a:Er G (CV [e] Z)=[(Ak,Bj e Z)]:=by rw[Fa d];rfl
 have R:Li G (Ib [⟨V "name",.Constant (.bool b) u p3,M⟩] Z)=[(V ("name":Av),(do let v <-Bj (.Constant (.bool b) u p3) Z;JI G;BU v))]:=rfl
 rw[Mr,IU (v:=.Name C p1) rfl];refine Ai (x.name h j ?_)
 refine Ai (AU ?_)
 have F:FM Y (.Name C p1) Z p2 G=BU G:=by unfold FM;simp[l]
 unfold QP;rw[a,R];have H:Gw (([e]:List Expr).length+([⟨V "name",.Constant (.bool b) u p3,M⟩]:List ES).length) [(Ak,Bj e Z)] [(V ("name":Av),(do let v <-Bj (.Constant (.bool b) u p3) Z;JI G;BU v))]=Y:=rfl
 rw[H];refine Ai (AZ ?_)
 refine c A _ s L dx U _ _ x.bs.ext n ?_
 refine Ai (Fc F ?_)
 refine JP (o:=i) (fd:=fd) (M0 rfl (Ax (AM r (λv AK X=>AF ?_) λI I e=>e)))
 obtain⟨y,t,rfl,W,hp,hsz,q⟩:=X;refine Kj (Ai (DO (Ai (AU (Ar (Kt ?_))))))
 have z:=x.ext W;refine⟨⟨z.bs.ext.keep2 f i N P,D⟩,?_⟩
 exact m A E (Dt N2 OA) AK (.ref L) y t b Q x.ha z.bs z.occN hp hsz q
structure KC(J:Sg)(s0:Ah)(mg mN:Av->Option Ag)(cn:An):Prop where
 glob:mg "Headers"=V (.ref (J.v 999).toNat)
 cls:Xf s0.heap (J.v 999).toNat cn mN
 ga:mN "__getattribute__"=Ao
 gat:mN "__getattr__"=Ao
 sa:mN "__setattr__"=Ao
 hd:mN "_headers"=Ao
theorem Qu{c cn:An}{mN:Av->Option Ag}(X:Xf s.heap c cn mN)(x:BM T s S):Xf S.heap c cn mN:=by
 obtain⟨B,q,bs,sn,Ix,D,P,m,H,k2,W,a,e⟩:=X.obj;exact⟨⟨B,q,bs,sn,Ix,D,P,m,H,k2,W,a,x.keep2 _ _ e rfl⟩,x.ns X.ns⟩
theorem GS.inst{h:A9}{x dx b:An}(i:GS J h x dx b):h.InstFk x (J.v 999).toNat λname=>if name=("_headers":Av)then V (.ref b)else Ao:=by
 obtain⟨o,j,U,p,C⟩:=i.it;obtain⟨es,ep,e1,e2,X,q⟩:=C.names;exact⟨o,U,C.cls,C.data,.inr ⟨dx,C.dict,C.apart,⟨j,es,ep,p,e1,e2,X,q⟩,⟨j,p,C.dcls,C.ddict⟩⟩⟩
namespace HF
theorem obj_headers:Dc (.type "object") "_headers"=BU Ao:=by rw[BW,Bk];kernel_rfl
theorem obj_cvt:Dc (.type "object") "_convert_string_type"=BU Ao:=by rw[BW,Bk];kernel_rfl
theorem obj_add:Dc (.type "object") "add_header"=BU Ao:=by rw[BW,Bk];kernel_rfl
theorem obj_getall:Dc (.type "object") "get_all"=BU Ao:=by rw[BW,Bk];kernel_rfl
end HF
theorem iN{mN:Av->Option Ag}{cn x dx b:An}(H:KC J s0 mg mN cn)(e:BM T s0 s)(n:GS J s.heap x dx b){N:Bool}{Q:Ag->Ah->Prop}(q:∀S,BM T s S->Q (.ref b) S):Ap (Aq Aj w) A (getAttr (.ref x) "_headers" N) Q E s:=by
 obtain⟨a,g,d,t,os⟩:=s;have X:=Qu H.cls e;obtain⟨B,q',bs,sn,Ix,D,P,m,f,k2,W,h,c⟩:=X.obj;exact load_attrFk c X.ns H.ga H.hd HF.obj_headers n.inst (by rw[if_pos rfl]) rfl (q _ (.toks (s:=⟨a,g,d,t,os⟩)))
theorem RI{mN:Av->Option Ag}{cn f:An}{name:Av}{y:Option Ag}(H:KC J s0 mg mN cn)(i:mN name=V (.ref f)){of:Fo}{fd:BA}(k:s0.heap.get? f=V of)(r:of.cls= .type "function")(a:of.data= .func fd)
  (h:Dc (.type "object") name=BU y)(c:name≠("_headers":Av)):N3 Aj w T J s0 name f:=by
 have D:Hn of=Ak:=JC (by rw[a];rfl)
 refine⟨⟨of,fd,k,a,D⟩,λA E s x dx b o Q e n q=>?_⟩
 obtain⟨p,g,d,t,os⟩:=s;have X:=Qu H.cls e;obtain⟨B,q',bs,sn,Ix,j,P,m,u,k2,W,v,l⟩:=X.obj;exact method_ofFk l X.ns H.ga H.gat i (e.keep2 f of k D) r h n.inst (by rw[if_neg c]) q
noncomputable def C6(l:List Av)(n:Nat):Av:=match l[n]? with
 |some x=>x
 |none=>⟨Array.replicate (n+40) 64⟩
theorem Nn{l:List Av}(h:l.Nodup/\(∀x∈l,x.cps.size<40)/\(".0":Av)∉l):EA (C6 l):=by
 obtain⟨hd,j,c⟩:=h;have d:∀n,l[n]?=Ao->(C6 l n).cps.size=n+40:=λn h=>by unfold C6;rw[h];simp
 have sm:∀n x,l[n]?=V x->C6 l n=x:=λn x h=>by unfold C6;rw[h]
 refine⟨λa b h=>?_,λn h=>?_⟩
 ·cases g:l[a]? with
  |none=>
   cases F:l[b]? with
   |none=>
    have e:=d a g;rw[h,d b F]at e;exact(AP (En (.v 1) (.v 0) [(1,.a (.v 1) (.k 40),.a (.v 0) (.k 40))] rfl (Al e.symm)) (En (.v 0) (.v 1) [(1,.a (.v 0) (.k 40),.a (.v 1) (.k 40))] rfl (Al e)))
   |some y=>
    have e:=d a g;rw[h,sm b y F]at e;exact(Dg (Am (Bw 40 a) (Al e.symm)) (j y (BZ F))).elim
  |some x=>
   cases F:l[b]? with
   |none=>
    have e:=d b F;rw[<-h,sm a x g]at e;exact(Dg (Am (Bw 40 b) (Al e.symm)) (j x (BZ g))).elim
   |some y=>
    rw[sm a x g,sm b y F]at h;subst h;exact(List.getElem?_inj (List.getElem?_eq_some_iff.mp g).1 hd).mp (g.trans F.symm)
 ·cases M:l[n]? with
  |none=>
   have e:=d n M;rw[h]at e;have:(".0":Av).cps.size=2:=by decide+kernel
   exact(Eg 0 (En (.k 1) (.k 0) [(1,.a (.v 1) (.k 40),.v 0),(1,.v 0,.k 2)] rfl (Al e.symm) (Al this)))
  |some x=>rw[sm n x M]at h;exact c (h▸BZ M)
theorem At.upd0(x:At T J mg mb s0 B sc k A N2 Z s [] [] [])(u:Co T W s S)(p:∀a,W a->s0.heap.get? a=Ao)(i:∀a,W a->¬D5 Z a):At T J mg mb s0 B sc k A N2 Z S [] [] []:=
 ⟨x.ha,x.ok,x.hm,x.bs.upd u p,⟨λy d j P=>(by cases j),.nil,x.rel.nodup,x.rel.apart,x.rel.sl.upd u (λh=>i _ h (.inl rfl)) λn c hm h=>i _ h (.inr ⟨n,hm⟩)⟩,λa h=>u.occ a (x.occ a h),x.young⟩
theorem tw{c:lD}(g:Eo k A)(U:c.weight<=1)(G:c.cUnits<=10):Eo (k+1) (A.under c):=by
 refine⟨g.handled,?_,?_⟩
 ·show A.depth+c.weight<=400+(k+1);have:=g.depth;exact(EV (.a (.v 1) (.v 0)) (.a (.k 400) (.a (.v 2) (.k 1))) [(1,.v 0,.k 1),(1,.v 1,.a (.k 400) (.v 2))] rfl U this)
 ·show A.units+c.cUnits<=10*(k+1)+20;have:=g.units;exact(EV (.a (.v 1) (.v 0)) (.a (.m 10 (.a (.v 2) (.k 1))) (.k 20)) [(1,.v 0,.k 10),(1,.v 1,.a (.m 10 (.v 2)) (.k 20))] rfl G this)
noncomputable def MO:List Av:=["headers","k","v"]
theorem iO:EA (C6 MO):=Nn (by decide+kernel)
noncomputable def iP(p d:Ag):List (Av×Ag):=[((("self":Av)),p),((("headers":Av)),d)]
theorem tz{h h':A9}{x dx c:An}{j:Av->Option Ag}(Af:h.InstFk x c λz=>Ao)(hd:∀o,h.get? x=V o->o.dict=V dx)(l:h'.InstFk x c j)
  (g:∀b,h.get? x=V b->∃R,h'.get? x=V R/\R.cls=b.cls/\R.data=b.data/\R.slots=b.slots/\∀dx,b.dict=V dx->R.dict=V dx):
  ∃o f es ep,h'.get? x=V o/\o.cls= .ref c/\(∀c,o.data≠.cls c)/\o.dict=V dx/\dx≠x/\h'.get? dx=V f/\f.cls= .type "dict"/\f.dict=Ao/\f.data= .dict es ep/\StrKeys es/\UniqKeys es/\∀name,nsFind es name=j name:=by
 obtain⟨b,k,_⟩:=id Af;obtain⟨R,U,_,_,_,i⟩:=g b k;have A:=i dx (hd b k);obtain⟨o,E,P,Q,m⟩:=l;rw[U]at E;cases E;rcases m with⟨q,_⟩|⟨M,q,e,⟨f,es,ep,e1,e2,X,a,n⟩,⟨d,F,p,w⟩⟩
 ·rw[A]at q;cases q
 ·rw[A]at q;cases q;rw[e1]at F;cases F;exact⟨R,f,es,ep,U,P,Q,A,e,e1,p,w,e2,X,a,n⟩
theorem tA(hk:k+3<=100)(L1:∀n,(J.v n).natAbs<=2^1000)(H:V0 s0 mg mb){mN:Av->Option Ag}{cn:An}(HC:KC J s0 mg mN cn){a:An}{fd:BA}{of:Fo}(Gt:s0.heap.get? a=V of)(GI:of.cls= .type "function")
  {bad:List Bx}{fbody:List Bx}
  (F:JT s0 a fd [
   .Assign [.Name "headers" (Ha 0)] (.IfExp (.Compare (.Name "headers" (Ha 1)) [.IsNot] [.Constant .none 0 (Ha 2)] (Ha 3)) (.Name "headers" (Ha 4)) (.List [] (Ha 5)) (Ha 6)) (Ha 7),
   .If (.Compare (.Call (.Name "type" (Ha 8)) [.Name "headers" (Ha 9)] [] (Ha 10)) [.IsNot] [.Name "list" (Ha 11)] (Ha 12)) bad [] (Ha 13),
   .Assign [.Attribute (.Name "self" (Ha 14)) "_headers" (Ha 15)] (.Name "headers" (Ha 16)) (Ha 17),
   .If (.Constant (.bool Y) 0 (Ha 18)) [.For (.Tuple [.Name "k" (Ha 19),.Name "v" (Ha 20)] 0 (Ha 21)) (.Name "headers" (Ha 22)) fbody [] (Ha 23)] [] (Ha 24)])
  (F0:mN "__init__"=V (.ref a))(F1:∀x∈fd.scope.names,x.2≠.cell)
  (F2:∀v1 v2 s,BM T s0 s->BindsTo s fd ⟨[v1,v2],[]⟩ (iP v1 v2))(M:(["self","headers","k","v"]:List Av).all (λy=>fd.scope.names.lookup y==V .local)=Y)
  (F3:(["type","list"]:List Av).all (λy=>fd.scope.names.lookup y==V .globalImplicit)=Y):
  ∀(A:A1) (E:Ag->Ah->Prop) (s:Ah) (L:An) (Q:Ag->Ah->Prop),Eo k A->Bs T mg mb s0 s->s.heap.PlainList L #[]->¬T L->
  (∀x dx S,BM T s S->s.heap.get? x=Ao->s.heap.get? dx=Ao->GS J S.heap x dx L->Q (.ref x) S)->Ap (Aq Aj w) A (DP (.ref (J.v 999).toNat) [.ref L]) Q E s:=by
 intro A E s L Q ha bs hL Sg q;have hn:∀y∈(["self","headers","k","v"]:List Av),fd.scope.names.lookup y=V .local:=NO M;have hg:∀y∈(["type","list"]:List Av),fd.scope.names.lookup y=V .globalImplicit:=NO F3;obtain⟨hh,g,d,t,os⟩:=s;have X:=Qu HC.cls bs.ext;obtain⟨Si,q',SC,sn,Ix,SI,dd,k0,TI,TO,TP,TT,hC⟩:=X.obj;have G0:Hn of=Ak:=by obtain⟨o,ho,hd⟩:=F.at';rw[Gt]at ho;cases ho;exact JC (by rw[hd];rfl)
 refine wpAny_call_obj_initFk PySem.F.objNew hC X.ns F0 (bs.ext.keep2 _ _ Gt G0) GI λh' x dx W=>?_
 have Cx:BM T ⟨hh,g,d,t,os⟩ ⟨h',g,d,t,os⟩:=.of_keeps (s:=⟨hh,g,d,t,os⟩) (tk:=t) W.keeps;have Hd:=bs.step Cx;have If:Eo (k+1) (A.under (.builtin "type.__call__" ⟨[.ref (J.v 999).toNat,.ref L],[]⟩)):=tw ha (by
  first
   |exact Al (by kernel_rfl:(KU "type.__call__" ⟨[.ref (J.v 999).toNat,.ref L],[]⟩).weight=1)
   |exact Am (Al (by kernel_rfl:(KU "type.__call__" ⟨[.ref (J.v 999).toNat,.ref L],[]⟩).weight=0)) (Be _)) (Am (Al (by kernel_rfl:(KU "type.__call__" ⟨[.ref (J.v 999).toNat,.ref L],[]⟩).cUnits=1)) (by decide))
 refine Qt (J:=J) (B:=C6 MO) (N:=λK=>False) (EJ (.a (.a (.v 0) (.k 1)) (.k 1)) (.k 100) [(1,.a (.v 0) (.k 3),.k 100)] rfl hk) F F1 If Hd (λK h=>h.elim) (Ac:=λbinds By=>binds=iP (.ref x) (.ref L)/\By=⟨h',g,d,t,os⟩) (λA' E'=>F2 _ _ _ Hd.ext _ _ _ _ ⟨rfl,rfl⟩) ?_
 rintro binds By ⟨rfl,rfl⟩
 refine⟨.refl,λy hy=>?_,λZ By E' F4 L2 R vars=>?_⟩
 ·exact Di (P:=λp=>fd.scope.names.lookup p.1=V .local) (hn _ (iL rfl)) (Di (hn _ (iL rfl)) Ky) _ hy
 have F5:=vars "self" (.ref x) (hn _ (iL rfl)) (by kernel_rfl)
 have Il:=vars "headers" (.ref L) (hn _ (iL rfl)) (by kernel_rfl)
 refine Aw (A2 ?_ rfl)
 refine aI (Ch (F4.name Il (by decide) (EH (Sm rfl (by intro h;cases h) (Bq ?_)))))
 rw[if_pos rfl];refine F4.name Il (by decide) ?_
 refine F4.save (y:="headers") (by unfold FJ;rw[hn "headers" (iL rfl)];decide) (λz o h=>nS h) λB4 r Mo Bd NI=>?_
 have CH:=NI _ _ (by decide) F5
 have Ce:BM T ⟨h',g,d,t,os⟩ B4:=Fe.ext2 L2 Mo.gone R;have N1:B4.heap.PlainList L #[]:=by
  obtain⟨m,e⟩:=hL;exact⟨m,Ce.keep2 _ _ (W.keeps _ _ e) rfl⟩
 obtain⟨mL,eL⟩:=id N1;refine Aw (EN (Ch ?_))
 refine AX (r.builtin (hg _ (iL rfl)) (by decide) H.freeType H.valType ?_)
 refine callWith_type1 ?_ rfl
 refine Ax (r.name Bd (by decide) (AF ?_))
 refine zm (Tx:="list") ⟨_,eL,rfl⟩ (by decide) ?_
 refine r.builtin (hg _ (iL rfl)) (by decide) H.freeList H.valList ?_
 refine isnot_type_same (Bq ?_)
 rw[if_neg AR];refine Bz ?_
 refine Aw (plainObj_wpAny_Assign_Attribute (r.name Bd (by decide) (r.name CH (by decide) ?_)) rfl)
 obtain⟨h3,g3,d3,t3,DD⟩:=B4;have X3:=Qu X (Cx.trans Ce);obtain⟨U2,U3,U4,U5,R1,R2,U6,Va,Vd,Vn,Wk,Wl,N2⟩:=X3.obj;have OA:x≠(J.v 999).toNat:=λe=>by have:=W.newX;rw[e,hC]at this;cases this
 have Is:∃ox,h'.get? x=V ox/\ox.dict=V dx:=by
  obtain⟨ox,U,_⟩:=W.inst;exact⟨ox,U,W.dict ox U⟩
 obtain⟨ox,Cf,i⟩:=Is;have Fn:Hn ox=Ak:=by
  obtain⟨o,U,h2,_⟩:=W.inst;rw[Cf]at U;cases U;rw[Hn,h2];rfl
 have v:h3.get? x=V ox:=Ce.keep2 _ _ Cf Fn;have Ev:h3.InstFk x (J.v 999).toNat λK=>Ao:=by
  obtain⟨o,U,h2,Pk,l⟩:=W.inst;rw[Cf]at U;cases U;rcases l with⟨q,_⟩|⟨d',q,Pl,⟨od,es,ep,e1,e2,e3,e4,e5⟩,⟨It,e6,e7,e8⟩⟩
  ·rw[i]at q;cases q
  ·rw[i]at q;cases q;have g1:=Ce.keep2 _ _ e1 (Iq ⟨_,by rw[e1]at e6;cases e6;exact e7⟩)
   exact⟨_,v,h2,Pk,.inr ⟨dx,i,Pl,⟨od,es,ep,g1,e2,e3,e4,e5⟩,⟨od,g1,by rw[e1]at e6;cases e6;exact e7,by rw[e1]at e6;cases e6;exact e8⟩⟩⟩
 refine store_attrFk PySem.F.store_object N2 X3.ns HC.sa HC.hd HF.obj_headers OA Ev (λl t4 I4 F6 F7=>?_) (ns:=[]) (by intro y hy;exact absurd rfl hy) (by decide)
 obtain⟨o4,Gl,IS,I0,b1,b2,b3,b4,b5,b6,b7,b8,b9,Lc,Lt,LA⟩:=tz Ev (λo ho=>by rw[v]at ho;cases ho;exact i) I4 F7
 have j:∀b o,b≠x->b≠dx->h3.get? b=V o->l.get? b=V o:=λb o U h2 e=>F6 b o U (λo0 d' e1 e2=>by rw[v]at e1;cases e1;rw[i]at e2;cases e2;exact h2) e
 have Sd:GS J l x dx L:=⟨o4,Gl,b1,b6,⟨b2,b3,b4,b5,b7,b8,⟨IS,I0,b9,Lc,Lt,λname=>by rw[LA name]⟩⟩⟩
 have u:(⟨hh,g,d,t,os⟩:Ah).heap.get? x=Ao:=W.newX;have D:(⟨hh,g,d,t,os⟩:Ah).heap.get? dx=Ao:=W.newD;have PX:IA h3 x:=by
  obtain⟨o,U,h2,_⟩:=Ev;exact .of U (by unfold NU;rw[h2];exact JW _)
 have P1:IA h3 dx:=by
  obtain⟨o,U,_,_,l⟩:=Ev;rw[v]at U;cases U;rcases l with⟨q,_⟩|⟨d',q,_,⟨od,es,ep,e1,e2,_⟩,_⟩
  ·rw[i]at q;cases q
  ·rw[i]at q;cases q;exact .of e1 (Nb (by rw[e2];rfl))
 have u4:Co T (λa=>a=x\/a=dx) ⟨h3,g3,d3,t3,DD⟩ ⟨l,g3,d3,t4,DD⟩:=by
  have ht:∀b,T b->b≠x/\b≠dx:=λb tb=>by
   obtain⟨ps,e,_⟩:=bs.tabs_ok b tb;exact⟨λq=>(by rw[q,u]at e;cases e),λq=>(by rw[q,D]at e;cases e)⟩
  refine⟨λb o K hw e=>j b o (λq=>hw (.inl q)) (λq=>hw (.inr q)) e,λb o hw e K=>j b o (λq=>hw (.inl q)) (λq=>hw (.inr q)) e,λb ⟨o,e,tt⟩=>?_,λb tb t=>t.keep (λc o co e=>j c o (λq=>(q▸PX).absurd co e) (λq=>(q▸P1).absurd co e) e) (λo e=>j b _ (ht b tb).1 (ht b tb).2 e),λK e=>e,rfl⟩
  by_cases q1:b=x
  ·apply AO q1;exact⟨o4,b1,by rw[Hn,b2];rfl⟩
  ·by_cases q2:b=dx
   ·apply AO q2;exact⟨Gl,b6,Iq ⟨_,b7⟩⟩
   ·exact⟨o,j b o q1 q2 e,tt⟩
 have G:∀b,(b=x\/b=dx)->Da h' b:=λb hb=>by
  rcases hb with rfl|rfl
  ·exact⟨ox,Cf,Fn⟩
  ·obtain⟨o,U,h2,_,l⟩:=W.inst;rw[Cf]at U;cases U;rcases l with⟨q,_⟩|⟨d',q,_,_,⟨It,e6,e7,_⟩⟩
   ·rw[i]at q;cases q
   ·rw[i]at q;cases q;exact⟨It,e6,Iq ⟨_,e7⟩⟩
 have P2:=r.upd0 u4 (λb hb=>bs.free (hb.elim (λq=>q▸u) λq=>q▸D)) (λb hb hf=>by
  obtain⟨o,e,_⟩:=G b hb;rw[R b hf]at e;cases e)
 have LC:DH Z l "headers" (.ref L):=Bd.upd u4 (λh=>by
   obtain⟨o,e,_⟩:=G _ h;rw[R _ (.inl rfl)]at e;cases e) λn c hm h=>by
   obtain⟨o,e,_⟩:=G _ h;rw[R _ (.inr ⟨n,hm⟩)]at e;cases e
 have LS:L≠x/\L≠dx:=by
  obtain⟨m,e⟩:=hL;exact⟨λq=>(by rw[q,u]at e;cases e),λq=>(by rw[q,D]at e;cases e)⟩
 have P4:l.get? L=V (Gf #[] mL):=j _ _ LS.1 LS.2 eL;refine Aw (EN (DY (DO (Bq ?_)) rfl))
 rw[if_pos rfl];have Rd:¬Dt (λb=>False\/D5 Z b) [] L:=λh=>by
  rcases h with(h|h)|h
  ·exact h
  ·have e:=R L h;obtain⟨m,e'⟩:=hL;rw[W.keeps _ _ e']at e;cases e
  ·simp at h
 have Ru:=P2.see (y:=0) (d:=.lst []) (show DH Z l (C6 MO 0) (.ref L)from LC) (.lst (I:=[]) (n:=mL) Rd P4 .nil);have hS:∀n,D0 Aj w T J mg mb s0 (C6 MO) (λK=>"?") (λK K=>Ao) (k+1+1) n:=λn=>(Rq (Aj:=Aj) (w:=w) (T:=T) (J:=J) (mg:=mg) (mb:=mb) (s0:=s0) (B:=C6 MO) (fn:=λK=>"?") (C:=λK K=>Ao) (k:=k+1+1) (EJ (.a (.a (.v 0) (.k 1)) (.k 1)) (.k 100) [(1,.a (.v 0) (.k 3),.k 100)] rfl hk) iO L1 ⟨λf O d K h=>nS h,λf O d K h=>nS h,λm es O d h=>nS h⟩ n).1
 have Xt:∀y,y∈(["self","headers","k","v"]:List Av)->(fd.scope.names.lookup y==V zL)=Y:=λy hy=>D9 M y hy
 have LZ:Rw (Bu (C6 MO) (λK=>"?") 1 fd.scope.names) fd.scope.names (.Tuple [.Name "k" (Ha 19),.Name "v" (Ha 20)] 0 (Ha 21)) 0 [.n 0] (.Name "headers" (Ha 22))=Y:=by
  show(("headers":Av)==C6 MO 0&&Ko (fd.scope.names.lookup ("headers":Av))&&("headers":Av) != ("__debug__":Av))=Y;rw[hn "headers" (iL rfl)]
  decide+kernel
 have RF:LF (C6 MO) fd.scope.names (.Tuple [.Name "k" (Ha 19),.Name "v" (Ha 20)] 0 (Ha 21)) [1,2] Ak=Y:=by
  show((("k":Av)==C6 MO 1&&(fd.scope.names.lookup ("k":Av)==V .local||fd.scope.names.lookup ("k":Av)==V .cell))&&((("v":Av)==C6 MO 2&&(fd.scope.names.lookup ("v":Av)==V .local||fd.scope.names.lookup ("v":Av)==V .cell))&&Y))=Y
  rw[hn "k" (iL rfl),hn "v" (iL rfl)]
  decide+kernel
 have R0:∀y∈[1,2],FJ fd.scope.names (C6 MO y)=Y:=Di (S6 (hn "k" (iL rfl)) rfl) (Di (S6 (hn "v" (iL rfl)) rfl) Ky);refine Aw ?_
 refine AM (Ru.loop (fn:=λK=>"?") (C:=λK K=>Ao) (n:=1) (fo:=1) (g:=λK K=>Ao) (Bv:=.next [(0,.lst [])] []) (stmts:=fbody) (pos:=(Ha 23)) (hS 1) iO LZ RF R0 (λK=>rfl) (O:=[.lst []]) (items:=[]) rfl rfl (λK K K K K K K K h=>nS h) rfl) (λf s5 hf=>?_) λK K e=>e
 obtain⟨rfl,Ck,p⟩:=hf;refine Bz (Bz ⟨rfl,?_⟩)
 have Go:∀b,D5 Z b->(⟨hh,g,d,t,os⟩:Ah).heap.get? b=Ao:=λb hb=>bs.free_at Cx b (R b hb)
 have E3:BM T ⟨hh,g,d,t,os⟩ ⟨h3,g3,d3,t3,DD⟩:=Cx.trans Ce;have E4:BM T ⟨hh,g,d,t,os⟩ ⟨l,g3,d3,t4,DD⟩:=Fe.ext2 E3 u4.gone λb hb=>hb.elim (λq=>q▸u) λq=>q▸D
 have E5:BM T ⟨hh,g,d,t,os⟩ s5:=Fe.ext2 E4 p.upd.gone λb hb=>hb.elim (Go b) λh=>by simp at h
 refine q x dx s5 E5 u D ⟨o4,Gl,p.upd.keep2 _ _ (λh=>?_) b1 (by rw[Hn,b2];rfl),p.upd.keep2 _ _ (λh=>?_) b6 (Iq ⟨_,b7⟩),⟨b2,b3,b4,b5,b7,b8,⟨IS,I0,b9,Lc,Lt,λname=>by rw[LA name]⟩⟩⟩
 ·rcases h with h|h
  ·obtain⟨o,e,_⟩:=G x (.inl rfl);rw[R x h]at e;cases e
  ·simp at h
 ·rcases h with h|h
  ·obtain⟨o,e,_⟩:=G dx (.inr rfl);rw[R dx h]at e;cases e
  ·simp at h
theorem At.frmD(x:At T J mg mb s0 B sc k A N2 Z s [] [] [])(u:Co T (D5 Z) s S)(sl:FV Z S.heap):At T J mg mb s0 B sc k A N2 Z S [] [] []:=
 ⟨x.ha,x.ok,x.hm,x.bs.upd u x.young.frm,⟨λy d j P=>(by cases j),.nil,x.rel.nodup,x.rel.apart,sl⟩,λa h=>u.occ a (x.occ a h),x.young⟩
theorem V2{mN:Av->Option Ag}{cn x dx b:An}(H:KC J s0 mg mN cn)(y:At T J mg mb s0 B sc k A N2 Z s ρ ow OA)(n:GS J s.heap x dx b){d:Av}{p1 p2:B9}(i:DH Z s.heap d (.ref x))(j:(d==("__debug__":Av))=Ak){Q:Ag->Ah->Prop}
  (q:∀S,BM T s S->Q (.ref b) S):Ap (Aq Aj w) A (Bj (.Attribute (.Name d p1) "_headers" p2) Z) Q E s:=by
 rw[QW,IU (v:=.Name d p1) rfl];refine Ai (y.name i j ?_)
 refine Ai (AU ?_)
 refine Ai (AZ ?_)
 refine iN H y.bs.ext n λS e=>?_
 exact Ai (Ii (Ar (q S e)))
noncomputable def Y9(p d Q b:Ag):List (Av×Ag):=[((("self":Av)),p),((("_name":Av)),d),((("_value":Av)),Q),((("_params":Av)),b)]
noncomputable def OP:Fo:={cls:=.type "dict",data:=.dict #[]}
theorem tB(w y:Av):(Ka w [y]).cps=y.cps:=by
 have h:=XI w [y];have:(K5 w.cps.toList ([y].map (·.cps.toList)))=y.cps.toList:=rfl;rw[this]at h;exact Array.ext' h
theorem tC(hk:k+3<=100)(H:V0 s0 mg mb){mN:Av->Option Ag}{cn:An}(HC:KC J s0 mg mN cn)(hC:Nf Aj w T J mg mb s0 (k+1)){a:An}{fd:BA}
  {fbody:List Bx}
  (F:JT s0 a fd [
   .Assign [.Name "parts" (EP 0)] (.List [] (EP 1)) (EP 2),
   .If (.Compare (.Name "_value" (EP 3)) [.IsNot] [.Constant .none 0 (EP 4)] (EP 5)) [
    .Assign [.Name "_value" (EP 6)] (.Call (.Attribute (.Name "self" (EP 7)) "_convert_string_type" (EP 8)) [.Name "_value" (EP 9)] [⟨V "name",.Constant (.bool Ak) 0 (EP 10),(EP 11)⟩] (EP 12)) (EP 13),
    .Expr (.Call (.Attribute (.Name "parts" (EP 14)) "append" (EP 15)) [.Name "_value" (EP 16)] [] (EP 17)) (EP 18)] [] (EP 19),
   .For (.Tuple [.Name "k" (EP 20),.Name "v" (EP 21)] 0 (EP 22)) (.Call (.Attribute (.Name "_params" (EP 23)) "items" (EP 24)) [] [] (EP 25)) fbody [] (EP 26),
   .Expr (.Call (.Attribute (.Attribute (.Name "self" (EP 27)) "_headers" (EP 28)) "append" (EP 29)) [.Tuple [
    .Call (.Attribute (.Name "self" (EP 30)) "_convert_string_type" (EP 31)) [.Name "_name" (EP 32)] [⟨V "name",.Constant (.bool Y) 0 (EP 33),(EP 34)⟩] (EP 35),
    .Call (.Attribute (.Constant (.str "; ") 0 (EP 36)) "join" (EP 37)) [.Name "parts" (EP 38)] [] (EP 39)] 0 (EP 40)] [] (EP 41)) (EP 42)])
  (E4:∀x∈fd.scope.names,x.2≠.cell)(l1:((EP 8).endLine==(EP 12).line)=Y)(l2:((EP 15).endLine==(EP 17).line)=Y)(l3:((EP 24).endLine==(EP 25).line)=Y)(l4:((EP 29).endLine==(EP 41).line)=Y)(l5:((EP 31).endLine==(EP 35).line)=Y)(l6:((EP 37).endLine==(EP 39).line)=Y)
  (E5:∀(A':A1) (E':Ag->Ah->Prop) (s:Ah) (v1 v2 v3:Ag) (Ac:List (Av×Ag)->Ah->Prop),Ac (Y9 v1 v2 v3 (.ref s.heap.objs.size)) {s with heap:=s.heap.push OP}->Ap (Aq Aj w) A' (Du fd ⟨[v1,v2,v3],[]⟩) Ac E' s)
  (Cx:(["self","_name","_value","_params","parts","k","v"]:List Av).all (λy=>fd.scope.names.lookup y==V .local)=Y):
  ∀(A:A1) (E:Ag->Ah->Prop) (s:Ah) (x dx b:An) (I:List Ag) (kx u:Av) (kt vt:Ez) (Q:Ag->Ah->Prop),Eo k A->Bs T mg mb s0 s->GS J s.heap x dx b->
  s.heap.PlainList b I.toArray->¬T b->I.length<=lim->H7 kx.cps.toList=Y->H7 u.cps.toList=Y->
  (∀t ks vs' LZ L1 n S,Co T (·=b) s S->s.heap.get? t=Ao->S.heap.get? t=V (HA #[.str ks LZ,.str vs' L1] n)->ks.cps=kx.cps->vs'.cps=u.cps->S.heap.PlainList b (I++[Cy t]).toArray->Q .none S)->
  Ap (Aq Aj w) A (DP (.ref a) [.ref x,.str kx kt,.str u vt]) Q E s:=by
 intro A E s x dx b I kx u kt vt Q ha bs Fn hb L2 Mk HF If q;have Mo:kx.cps.size<1000000:=by
  have:=D8 (AH HF).2;rw[Bp]at this;exact this
 have Il:u.cps.size<1000000:=by
  have:=D8 (AH If).2;rw[Bp]at this;exact this
 have hn:∀y∈(["self","_name","_value","_params","parts","k","v"]:List Av),fd.scope.names.lookup y=V .local:=NO Cx;have E3:∀y∈(["self","_name","_value","_params","parts","k","v"]:List Av),FJ fd.scope.names y=Y:=λy hy=>S6 (hn y hy) (D9 (show((["self","_name","_value","_params","parts","k","v"]:List Av).all λy=>y != ("__classdict__":Av))=Y by kernel_rfl) y hy)
 have fD:s.heap.get? s.heap.objs.size=Ao:=HX (AI _);refine Qt (J:=J) (B:=C6 MO) (N:=λK=>False) (EJ (.a (.v 0) (.k 1)) (.k 100) [(1,.a (.v 0) (.k 3),.k 100)] rfl hk) F E4 ha bs (λK h=>h.elim) (Ac:=λbinds AK=>binds=Y9 (.ref x) (.str kx kt) (.str u vt) (.ref s.heap.objs.size)/\AK={s with heap:=s.heap.push OP}) (λA' E'=>E5 _ _ _ _ _ _ _ ⟨rfl,rfl⟩) ?_
 rintro binds AK ⟨rfl,rfl⟩
 have F0:BM T s {s with heap:=s.heap.push OP}:=.push (tk:=s.toks)
 refine⟨F0,λy hy=>?_,λZ By E' F1 Is G vars=>?_⟩
 ·exact Di (P:=λp=>fd.scope.names.lookup p.1=V .local) (hn _ (iL rfl)) (Di (hn _ (iL rfl)) (Di (hn _ (iL rfl)) (Di (hn _ (iL rfl)) Ky))) _ hy
 have Bd:∀c,D5 Z c->s.heap.get? c=Ao:=λc W=>bs.free_at F0 c (G c W)
 have v1:=vars "self" (.ref x) (hn _ (iL rfl)) (by kernel_rfl)
 have v2:=vars "_name" (.str kx kt) (hn _ (iL rfl)) (by kernel_rfl)
 have v3:=vars "_value" (.str u vt) (hn _ (iL rfl)) (by kernel_rfl)
 have v4:=vars "_params" (.ref s.heap.objs.size) (hn _ (iL rfl)) (by kernel_rfl)
 have hD:(s.heap.push OP).get? s.heap.objs.size=V OP:=Ay _ rfl;have X2:BM T s By:=F0.trans Is;have F2:By.heap.get? s.heap.objs.size=V OP:=Is.keep2 _ _ hD rfl;refine Aw (A2 (O0 (AF (Bi ?_ (Be _)))) rfl)
 have C:BM T By {By with heap:=By.heap.push {cls:=.type "list",data:=.seq #[]}}:=.push (tk:=By.toks)
 have NI:(By.heap.push {cls:=.type "list",data:=.seq #[]}).PlainList By.heap.objs.size #[]:=⟨0,Ay _ rfl⟩;have fP:By.heap.get? By.heap.objs.size=Ao:=HX (AI _);have It:s.heap.get? By.heap.objs.size=Ao:=bs.free_at X2 _ fP;have Ce:¬D5 Z By.heap.objs.size:=λh=>by
  obtain⟨o,e,_⟩:=F1.rel.sl.frm_occ h;rw[fP]at e;cases e
 have TP:¬T By.heap.objs.size:=λh=>AN _ (F1.bs.lt _ h)
 have N1:=F1.ext C;refine N1.save (y:="parts") (E3 _ (iL rfl)) (λz o h=>nS h) λIS D F3 N2 L=>?_
 have X4:BM T s IS:=Fe.ext2 (X2.trans C) F3.gone Bd;have OA:IS.heap.PlainList By.heap.objs.size #[]:=by
  obtain⟨m,e⟩:=NI;exact⟨m,F3.keep2 _ _ Ce e rfl⟩
 have w1:=L _ _ (by decide) (v1.ext C)
 have w2:=L _ _ (by decide) (v2.ext C)
 have w3:=L _ _ (by decide) (v3.ext C)
 have w4:=L _ _ (by decide) (v4.ext C)
 refine Aw (EN (Ch (D.name w3 (by decide) (EH (Sm rfl (by intro h;cases h) (Bq ?_))))))
 rw[if_pos rfl];refine Aw (A2 ?_ rfl)
 refine V1 D hC w1 (by decide) (Fn.ext X4) l1 (λK K h=>by cases h) (D.name w3 (by decide) ⟨u,vt,rfl,.refl,If,(EJ (.a (.v 0) (.k 1)) (.k (2^63)) [(1,.a (.v 0) (.k 1),.k 1000000)] rfl Il),λR1 x5=>?_⟩)
 have I0:=D.ext x5;refine I0.save (y:="_value") (E3 _ (iL rfl)) (λz o h=>nS h) λs6 CH u6 Pk M=>?_
 have X6:BM T s s6:=Fe.ext2 (X4.trans x5) u6.gone Bd;have F4:s6.heap.PlainList By.heap.objs.size #[]:=by
  obtain⟨m,e⟩:=OA;exact⟨m,u6.keep2 _ _ Ce (x5.keep2 _ _ e rfl) rfl⟩
 have a1:=M _ _ (by decide) (w1.ext x5)
 have a2:=M _ _ (by decide) (w2.ext x5)
 have a4:=M _ _ (by decide) (w4.ext x5)
 have ap:=M _ _ (by decide) (N2.ext x5)
 refine Aw (DX ?_ (PA CH.ok) rfl)
 refine BC (IU rfl) (by rw[Fa (λK K h=>by cases h)];rfl) l2 ?_
 rw[Fa (λK K h=>by cases h)]
 refine CH.name ap (by decide) ?_
 refine VP F4 (CH.name Pk (by decide) ⟨F4,λR I4 Pl=>?_⟩) (Be _)
 have u7:Co T (·=By.heap.objs.size) s6 {s6 with heap:=R}:=.of_but (tk:=s6.toks) Pl (by obtain⟨m,e⟩:=I4;exact⟨_,e,rfl⟩) TP (.lst F4)
 have r:=CH.upd0 u7 (λc W=>by apply AO W;exact bs.free It) (λc W=>by apply AO W;exact Ce)
 have X7:BM T s {s6 with heap:=R}:=Fe.ext2 X6 u7.gone λc W=>by apply AO W;exact It
 have nF:∀c,D5 Z c->c≠By.heap.objs.size:=λc W e=>Ce (e▸W)
 have DD:∀y v,DH Z s6.heap y v->DH Z R y v:=λy v h=>h.upd u7 (nF _ (.inl rfl)) λn c hm=>nF _ (.inr ⟨n,hm⟩)
 have b1:=DD _ _ a1;have b2:=DD _ _ a2;have b4:=DD _ _ a4;have bp:=DD _ _ ap;refine Bz ?_
 have PX:R.get? s.heap.objs.size=V OP:=by
  have nD:∀c,D5 Z c->c≠s.heap.objs.size:=λc W e=>by
   have:=G c W;rw[e,hD]at this;cases this
  have e4:=F3.keep2 _ _ (λh=>nD _ h rfl) (C.keep2 _ _ F2 rfl) rfl
  have e6:=u6.keep2 _ _ (λh=>nD _ h rfl) (x5.keep2 _ _ e4 rfl) rfl
  exact u7.keep2 _ _ (λh=>by
   have h:s.heap.objs.size=By.heap.objs.size:=h;rw[h,fP]at F2;cases F2) e6 rfl
 obtain⟨m7,U⟩:=r.rel.sl.ns;have Cf:∀y∈(["self","_name","_value","_params","parts","k","v"]:List Av),Z.kindOf y=V .local:=λy hy=>by rw[r.ok.kindOf];exact hn y hy
 have P1:s.heap.objs.size≠Z.locals:=λe=>by
  have:=G Z.locals (.inl rfl);rw[<-e,hD]at this;cases this
 have Lc:(s.heap.objs.size==EY)=Ak:=by
  rw[beq_eq_false_iff_ne];intro e;have:=A9.Ns.lt bs.ng;have h1:EY<s.heap.objs.size:=AG (by decide) this
  rw[<-e]at h1;exact AN _ h1
 refine Aw (AM (E:=λK K=>False) (wpAny_For_items_locals (knd:=strKind Aj w) (d:=s.heap.objs.size) (kvs:=[]) (ep:=0) (m:=m7) r.ha.handled (Cf _ (iL rfl)) (Cf _ (iL rfl)) (by rw[r.ok.kind];rfl) P1 Lc
  ⟨OP,#[],PX,by first|exact⟨rfl,rfl⟩|exact⟨rfl,rfl,rfl⟩|rfl,rfl,λK h=>by simp at h,by first|exact .nil|exact trivial|rfl,JY⟩ U (IU rfl) l3 (λQ' q'=>r.name b4 (by decide) q') (λK m=>m=m7) rfl (λi k v R2 Sd AK h=>by cases h) (λX t8 m8 F5 P2 g=>?_)) (λK K h=>h) λK K h=>h.elim)
 have Sg:¬T s.heap.objs.size:=λh=>AN _ (bs.lt _ h)
 have P4:¬T Z.locals:=MK (s:={s6 with heap:=R}) r.bs r.rel.sl (a:=Z.locals) (.inl rfl)
 have u8:Co T (D5 Z) {s6 with heap:=R} {s6 with heap:=X,toks:=t8}:=by
  refine⟨λc o K hw e=>g c o (λq=>hw (.inl q)) e,λc o hw e K=>g c o (λq=>hw (.inl q)) e,λc ⟨o,e,tt⟩=>?_,λc tc t=>t.keep (λd o co e=>g d o (λq=>(q▸IA.ns U).absurd co e) e) (λo e=>g c _ (λq=>P4 (q▸tc)) e),λK e=>e,rfl⟩
  by_cases q:c=Z.locals
  ·apply AO q;exact Ql F5
  ·exact⟨o,g c o q e,tt⟩
 have l:∀c v,R.IsCell c v->X.IsCell c v:=λc v ⟨o,e,dd⟩=>by
  refine⟨o,g c o (λq=>?_) e,dd⟩
  obtain⟨o',es,ep,e',d',_⟩:=U;rw[<-q]at e';rw[e]at e';cases e';rw[dd]at d';cases d'
 have Rd:FV Z X:=⟨⟨m8,F5⟩,λn c hm=>by obtain⟨v,W⟩:=r.rel.sl.cells n c hm;exact⟨v,l c v W⟩,r.rel.sl.apart⟩
 have F6:=r.frmD u8 Rd;have F7:∀y v,DH Z R y v->DH Z X y v:=λy v h=>by
  rcases h with⟨h1,m,h2,h3⟩|⟨h1,h2,c,h3,h4⟩
  ·refine .inl ⟨h1,m8,F5,?_⟩
   apply AO P2;apply CE h3
   obtain⟨o,es,ep,e,d,_,f⟩:=U;obtain⟨o',Si,SC,e',d',_,f'⟩:=h2;rw[e]at e';cases e';rw[d]at d';cases d';rw[<-f,<-f']
  ·exact .inr ⟨h1,h2,c,h3,l c _ h4⟩
 have X8:BM T s {s6 with heap:=X,toks:=t8}:=Fe.ext2 X7 u8.gone Bd
 have c1:=F7 _ _ b1;have c2:=F7 _ _ b2;have cp:=F7 _ _ bp;have Ru:X.PlainList By.heap.objs.size #[.str u vt]:=by
  obtain⟨m,e⟩:=I4;exact⟨m,u8.keep2 _ _ Ce e rfl⟩
 refine Aw (DX ?_ (PA F6.ok) rfl)
 refine BC (IU rfl) (by rw[Fa (λK K h=>by cases h)];rfl) l4 ?_
 rw[Fa (λK K h=>by cases h)]
 refine V2 HC F6 (Fn.ext X8) c1 (by decide) λs9 x9=>?_
 have Gl:=F6.ext x9;have X9:=X8.trans x9;have Go:∀S,BM T s S->S.heap.PlainList b I.toArray:=λS e=>by
  obtain⟨m,e'⟩:=hb;exact⟨m,e.keep2 _ _ e' rfl⟩
 refine VP (Go _ X9) ?_ (by apply Dz AD CC;exact Am Mk (by decide))
 refine QM (k:=0) (pos:=(EP 40)) ?_
 rw[Fa (λK K h=>by cases h),Fa (λK K h=>by cases h)]
 refine Ax ?_
 refine V1 Gl hC (c1.ext x9) (by decide) (Fn.ext X9) l5 (λK K h=>by cases h) (Gl.name (c2.ext x9) (by decide) ⟨kx,kt,rfl,.refl,HF,(EJ (.a (.v 0) (.k 1)) (.k (2^63)) [(1,.a (.v 0) (.k 1),.k 1000000)] rfl Mo),λj Ev=>?_⟩)
 have Lt:=Gl.ext Ev;have LA:=X9.trans Ev;refine Ax ?_
 refine BC (IU rfl) (by rw[Fa (λK K h=>by cases h)];rfl) l6 ?_
 rw[Fa (λK K h=>by cases h)]
 refine Jm ?_
 have Gt:BM T j {j with toks:=j.toks+1}:=.toks
 have LC:=Lt.ext Gt;refine NF ?_
 refine LC.name (((cp.ext x9).ext Ev).ext Gt) (by decide) ⟨_,[(u,vt)],rfl,?_,[u],rfl,?_,λt' k'=>?_⟩
 ·obtain⟨m,e⟩:=Ru;exact⟨_,Gt.keep2 _ _ (Ev.keep2 _ _ (x9.keep2 _ _ e rfl) rfl) rfl,rfl,_,rfl⟩
 ·unfold aH;rw[HR];unfold DZ;rw[A4,decide_eq_false_iff_not,CC];have:u.length=u.cps.size:=rfl;have h2:(("; ":Av)).length=2:=by decide+kernel
  skip
  exact(Dg (EJ (.a (.a (.v 0) (.k 0)) (.k ((0+1)*2))) (.k 16777216) [(1,.a (.v 0) (.k 1),.k 1000000)] rfl Il))
 refine AF ?_
 refine Ie ?_ (by apply AO CC;exact D8 rfl)
 have SI:BM T {j with toks:=j.toks+1} {j with toks:=k'}:=.of_keeps λK K e=>e
 have RF:BM T s {j with toks:=k'}:=LA.trans (BM.of_keeps λK K e=>e)
 have GI:BM T s {j with heap:=j.heap.push {cls:=.type "tuple",data:=.seq #[.str kx kt,.str (Ka "; " [u]) t']},toks:=k'}:=RF.trans (.push (s:={j with toks:=k'}) (tk:=k'))
 refine⟨Go _ GI,λh' G0 LS=>?_⟩
 have Hd:s.heap.get? j.heap.objs.size=Ao:=bs.free_at LA _ (HX (AI _));refine Bz ?_
 have R0:j.heap.objs.size≠b:=λe=>by
  obtain⟨m,e'⟩:=hb;rw[e,e']at Hd;cases Hd
 refine q j.heap.objs.size kx (Ka "; " [u]) kt t' 0 _ (GI.upd.trans (.of_but (tk:=k') LS (by obtain⟨m,e⟩:=G0;exact⟨_,e,rfl⟩) L2 (.lst (Go _ GI)))) Hd ?_ rfl (tB _ _) ?_
 ·exact(LS.2 _ R0).trans (Ay _ rfl)
 ·rw[NG]at G0;exact G0
noncomputable def Qv:List Av:=["self","name","kv","k","v"]
theorem Za:EA (C6 Qv):=Nn (by decide+kernel)
noncomputable def tD:List Ad:=[.asg [1] Y (.call 901 [.n 0,.me 3 (.n 1) []]),
 .ret (.comp (.idx (.n 2) (.c (.int (.k 1)))) [.mk [2] Y 0 [.call 900 [.n 0]] [.cmp (.me 3 (.idx (.n 2) (.c (.int (.k 0)))) []) [(.Eq,.n 1)]]])]
noncomputable def Hb(f:Nat)(O:List D):Option D:=match O with
 |[]=>Ao
 |x::r=>YA x λes=>bI (As f 900) (bI (SD r) (V (.lst es)) Ao) (CB (As f 901||Nat.beq f 902) (one r λt=>H3 t λt=>CB (HY t) (V (.str t))))
theorem Zb{z Q:Type}{f:z->Option Q}{a:z}{b:Q}{r:List z}{bs:List Q}(U:f a=V b)(G:Gs f r=V bs):Gs f (a::r)=V (b::bs):=by
 show BG (f a) _=_;rw[U];show BG (Gs f r) _=_;rw[G];rfl
theorem Of{z Q:Type}{f:z->Option Q}{a:z}{b:Q}(U:f a=V b):Gs f [a]=V [b]:=Zb U rfl
theorem L8{z Q:Type}{f:z->Option Q}{a o:z}{b b':Q}(U:f a=V b)(G:f o=V b'):Gs f [a,o]=V [b,b']:=Zb U (Of G)
theorem iQ{z Q:Type}{l:List z}{m:List Q}(h:l.length<=m.length)(hm:AS m=Y):AS l=Y:=AL (Am h (D8 hm))
theorem iR{C:Nat->List D->Option D}{n:Nat}{ρ Bt:List (Nat×D)}{e:M}{t:List Nat}{CZ:Bool}{k:Nat}{it a:List M}{r:List Cl}{O items Bv:List D}(U:Gs (ev C n ρ Bt) it=V O)(G:Qc k O=V items)
  (z:NP (MF (λA6=>ev C n A6 (Dn (t++IQ r) Bt)) (MG (λA6=>ev C n A6 (Dn (t++IQ r) Bt)) e r) t CZ a (Dn (t++IQ r) ρ)) items=V Bv)(l:AS Bv=Y):ev C (n+1) ρ Bt (.comp e (.mk t CZ k it a::r))=V (.lst Bv):=by
 refine(H2 U).trans ((H2 G).trans ((H2 z).trans ?_))
 show CB (AS Bv) _=_;rw[l];rfl
theorem Zc{es:List D}(i:AS es=Y):Qc 0 [.lst es]=V es:=by
 show CB (AS es) (V es)=_;rw[i];rfl
inductive cH(name:List Nat)(d:D)(r l:List D):Prop
 |mk (k:List Nat) (v:D) (l':List D) (hd:d= .tup [.str k,v]) (h:Py name r=V l') (e:bI (Fq (k.map DG) (name.map DG)) (v::l') l'=l)
theorem Ut{name:List Nat}{d:D}{r l:List D}(h:Py name (d::r)=V l):cH name d r l:=by
 obtain⟨x,U,h⟩:=Pm h;obtain⟨a,b,G,h⟩:=Ni h;obtain⟨k,z,h⟩:=HJ h;obtain⟨c,e,h⟩:=Cn h;exact⟨k,b,c,by apply AO U;rw[G,z],e,sI h⟩
theorem Zd{k:List Nat}{v:D}(h:Ul (.tup [.str k,v])=Y):(IP k&&AS k)=Y:=by
 have h:(CB (IP k&&AS k) (V k)).isSome=Y:=h;cases q:IP k&&AS k with
 |true=>rfl
 |false=>rw[q]at h;exact bF h
theorem RJ{k:List Nat}(h:(IP k&&AS k)=Y):SL 3 (.str k) []=V (.str (k.map DG)):=by
 show CB (IP k&&AS k) _=_;rw[h];rfl
theorem tE{n:Nat}{name k:List Nat}{v d0:D}(h:(IP k&&AS k)=Y):
  MF (λA6=>ev Hb (n+4) A6 []) (MG (λA6=>ev Hb (n+4) A6 []) (.idx (.n 2) (.c (.int (.k 1)))) []) [2] Y [.cmp (.me 3 (.idx (.n 2) (.c (.int (.k 0)))) []) [(.Eq,.n 1)]] [(1,.str (name.map DG)),(0,d0)] (.tup [.str k,v])=
   V (bI (Fq (k.map DG) (name.map DG)) [v] []):=by
 have G:ev Hb (n+4) [(2,.tup [.str k,v]),(1,.str (name.map DG)),(0,d0)] [] (.cmp (.me 3 (.idx (.n 2) (.c (.int (.k 0)))) []) [(.Eq,.n 1)])=V (.bool (Fq (k.map DG) (name.map DG))):=(H2 (RJ h)).trans rfl;refine(H2 (x:=Fq (k.map DG) (name.map DG)) ((H2 G).trans ?_)).trans ?_
 ·show bI (Fq (k.map DG) (name.map DG)) (V Y) (V Ak)=_;cases Fq (k.map DG) (name.map DG)<;>rfl
 ·cases Fq (k.map DG) (name.map DG)<;>rfl
theorem tF{n:Nat}{name:List Nat}{d0:D}(es:List D):∀l,JS es=Y->Py name es=V l->
  NP (MF (λA6=>ev Hb (n+4) A6 []) (MG (λA6=>ev Hb (n+4) A6 []) (.idx (.n 2) (.c (.int (.k 1)))) []) [2] Y [.cmp (.me 3 (.idx (.n 2) (.c (.int (.k 0)))) []) [(.Eq,.n 1)]] [(1,.str (name.map DG)),(0,d0)]) es=V l:=by
 induction es with
 |nil=>exact λz z h=>h
 |cons d r ih=>
  intro l C h;obtain⟨k,v,b,hd,h,e⟩:=Ut h;rw[hd]at C
  apply AO hd;apply CE e
  refine(H2 (tE (Zd (AH C).1))).trans ((H2 (ih b (AH C).2 h)).trans ?_)
  cases Fq (k.map DG) (name.map DG)<;>rfl
theorem tG{name:List Nat}(es:List D):∀l,Py name es=V l->l.length<=es.length:=by
 induction es with
 |nil=>exact λl h=>sI h▸AI _
 |cons d r ih=>
  intro l h;obtain⟨k,v,b,hd,h,e⟩:=Ut h
  apply CE e
  cases Fq (k.map DG) (name.map DG)with
  |true=>exact BB (ih b h)
  |false=>exact Am (ih b h) (DM _)
theorem tH{c:Nat}(U:32<=c)(G:c<127):32<=DG c/\DG c<127:=by
 unfold DG;split
 ·rename_i q;have m:=D8 (AH q).1;have a:=D8 (AH q).2;exact⟨(EJ (.k 32) (.a (.v 0) (.k 32)) [] rfl),(EJ (.a (.a (.v 0) (.k 32)) (.k 1)) (.k 127) [(1,.v 0,.k 90)] rfl a)⟩
 ·exact⟨U,G⟩
theorem iS{name:List Nat}(M:HY name=Y){c:Nat}(E:c∈name):32<=c/\c<127:=by
 have:=AH (D9 (AH M).1 c E);exact⟨D8 this.1,D8 this.2⟩
theorem Ze{name:List Nat}(M:HY name=Y):HY (name.map DG)=Y:=by
 show((name.map DG).all _&&Bf (name.map DG).length _)=Y;rw[BS,(AH M).2,Gq,Se];refine List.all_eq_true.mpr λc E=>?_
 obtain⟨U,G⟩:=iS M E;obtain⟨z,l⟩:=tH U G;exact(Bg _ _).mpr ⟨AL z,AL l⟩
theorem Zf{name:List Nat}(M:HY name=Y):(IP name&&AS name)=Y:=
 (Bg _ _).mpr ⟨List.all_eq_true.mpr λc E=>AL (BJ (iS M E).2),AL (CN (D8 (AH M).2))⟩
theorem tI{es l:List D}{name:List Nat}(i:AS es=Y)(C:JS es=Y)(M:HY name=Y)(h:Py name es=V l):CL Hb 9 tD [(0,.hdr es),(1,.str name)] []=V (.ret (.lst l)):=by
 have U:Gs (ev Hb 7 [(0,.hdr es),(1,.str name)] []) [.n 0,.me 3 (.n 1) []]=V [.hdr es,.str (name.map DG)]:=by
  have z:ev Hb 7 [(0,.hdr es),(1,.str name)] [] (.me 3 (.n 1) [])=V (.str (name.map DG)):=RJ (Zf M);exact L8 rfl z
 have e1:ev Hb 8 [(0,.hdr es),(1,.str name)] [] (.call 901 [.n 0,.me 3 (.n 1) []])=V (.str (name.map DG)):=by
  refine(H2 U).trans ?_
  show CB (HY (name.map DG)) _=_;rw[Ze M];rfl
 refine(H2 e1).trans ?_
 exact H2 (iR (n:=6) (O:=[.lst es]) rfl (Zc i) (tF (d0:=.hdr es) (n:=2) es l C h) (iQ (tG es l h) i))
variable {mN:Av->Option Ag} {cn:An}
theorem Zg(c:KC J s0 mg mN cn)(g:Nf Aj w T J mg mb s0 k):I9 Aj w T J mg mb s0 fn Hb k:=by
 have low:∀f O d,(f<900\/1000<=f)->Hb f O=V d->False:=λf O d a h=>by
  induction O with
  |nil=>exact nS h
  |cons x r=>
   obtain⟨es,_,h⟩:=YB h;rw[P7 (λe=>absurd a (by apply AO e;decide)),P7 (b:=901) (λe=>absurd a (by apply AO e;decide)),P7 (b:=902) (λe=>absurd a (by apply AO e;decide))]at h
   exact nS h
 refine⟨λf O d a h=>(low f O d (.inl (D8 a)) h).elim,λf O d a h=>?_,λm es O d h=>(low _ _ _ (.inr (AQ _ _)) h).elim⟩
 cases O with
 |nil=>exact nS h
 |cons x r=>
  obtain⟨es,L,h⟩:=YB h;cases q:As f 900 with
  |true=>
   rw[q]at h
   induction r with
   |cons _ _=>exact nS h
   |nil=>
    apply Dz L (AB q);apply CE (sI h)
    exact⟨_,rfl,rfl,λA E s x dx b Q e n q=>iN c e n q⟩
  |false=>
   rw[q]at h;obtain⟨P,h⟩:=De h;obtain⟨t,U,h⟩:=Px h;obtain⟨u,G,h⟩:=HJ h;obtain⟨hp,h⟩:=De h;rw[L,U,G];apply CE (sI h)
   rcases(AT _ _).mp P with q|q
   ·apply AO (AB q);exact⟨_,_,rfl,rfl,hp,g⟩
   ·apply AO (AB q);exact⟨_,_,rfl,rfl,hp,g⟩
section
variable {M:IX} {A:A1} {R:aM} {Ab:O7} {n:Nat} {s0:Ah} {c:lD} {fs:List zt} {s:Ah} {Z:DS} {Aa:EW->JZ Fin} {H:Ag->JZ Fin} {gd:Bool->Bool} {lv:List Ag->List Ag}
noncomputable abbrev No:Ag->Ah->Prop:=λz z=>False
theorem V3{st:Bx}(h:Ap M (A.over c fs) (EB st Z) (λf S=>M4 M A R Ab n s0 c (Aa f) fs S) No s):M4 M A R Ab n s0 c ((EB st Z).wrap Aa H gd lv) fs s:=
 seg_wrap (AM h (λz z e=>e) λz z e=>e.elim)
theorem Zh{d:Expr}{body a:List Bx}{pos:B9}(h:Ap M (A.over c fs) (isTrue d Z (C1 d Z)) (λb S=>if b=Y then M4 M A R Ab n s0 c ((C4 body Z).wrap Aa H gd lv) fs S else M4 M A R Ab n s0 c ((C4 a Z).wrap Aa H gd lv) fs S) No s):
  M4 M A R Ab n s0 c ((EB (.If d body a pos) Z).wrap Aa H gd lv) fs s:=by
 rw[arm_exec_If];refine C9 (AU ?_)
 refine C9 (AM h (λb S F=>?_) λz z e=>e.elim)
 induction b with
 |true=>simpa using F
 |false=>simpa using F
noncomputable def PJ(Z:DS)(Aa:EW->JZ Fin)(H:Ag->JZ Fin)(gd:Bool->Bool)(lv:List Ag->List Ag)(c:lD)(p:B9):zt:=
 .ret (λr=>((match r with| .ok f=>(.pure f:JZ EW)| .error e=>.raise e).onRaise λ(x:Ag)=>do
    if(<-zu x 1)==Mu then unsupported "frame.own-activation:exception-without-traceback"
    setFlight x Z.frame).wrap Aa H gd lv) Ao (gd Ak) (lv []) c p []
theorem tJ{U iter:Expr}{body F:List Bx}{pos:B9}
  (h:Ap M (A.over c fs) (C1 iter Z) (λx AK=>Ap M (A.over c fs) (Lg x) (λit By=>∀p,M4 M A R Ab n s0 (.forLoop U it body F Z) (M.den (.forLoop U it body F Z)) (PJ Z Aa H gd lv c p::fs) By) No AK) No s)
  (i:∀x,B1 iter Z x=BU x):M4 M A R Ab n s0 c ((EB (.For U iter body F pos) Z).wrap Aa H gd lv) fs s:=by
 rw[arm_exec_For];refine C9 (AU ?_)
 refine C9 (AM h (λx AK X=>?_) λz z e=>e.elim)
 refine C9 (Fc (i x) ?_)
 refine C9 (AU ?_)
 refine C9 (AZ (AM X (λit By q=>?_) λz z e=>e.elim))
 exact seg_call q
theorem tK{f:EW}{T:lD}{p:B9}(h:M4 M A R Ab n s0 c (Aa f) fs s):M4 M A R Ab n s0 T (leafOf (.ok f)) (PJ Z Aa H gd lv c p::fs) s:=
 seg_leaf (.ok f) h
end
variable {R:aM} {Ab:O7} {fs:List zt}
noncomputable def V4(U:Expr)(it:Ag)(body:List Bx)(Z:DS):EW->JZ Fin:=λf=>match f with
 | .next=>.pure (.again (.forLoop U it body [] Z))
 | .cont=>.pure (.again (.forLoop U it body [] Z))
 | .brk=>.pure (.done .next)
 | .ret v=>.pure (.done (.ret v))
noncomputable def Zi(Z:DS):Ag->JZ Fin:=λe=>(do Kb e Z;HE e:JZ Unit).wrap (λz=>.raise e) .raise id id
theorem iT{U:Expr}{it:Ag}{body:List Bx}
  (h:Ap (Aq Aj w) (A.over (.forLoop U it body [] Z) fs) (H9 it) (λr AK=>match r with
   |none=>M4 (Aq Aj w) A R Ab n s0 (.block [] Z) (leafOf (.ok .next)) fs AK
   |some v=>Ap (Aq Aj w) (A.over (.forLoop U it body [] Z) fs) (Dd U it v) (λz By=>Ap (Aq Aj w) (A.over (.forLoop U it body [] Z) fs) (Jd U Z v) (λz B4=>
     M4 (Aq Aj w) A R Ab n s0 (.forLoop U it body [] Z) ((C4 body Z).wrap (V4 U it body Z) (Zi Z) id id) fs B4) No By) No AK) No s):
  M4 (Aq Aj w) A R Ab n s0 (.forLoop U it body [] Z) ((Aq Aj w).den (.forLoop U it body [] Z)) fs s:=by
 show M4 _ A R Ab n s0 _ ((forTurn U it body [] Z).onRaise (λx=>do Kb x Z;HE x)) fs s
 unfold forTurn;rw[JZ.onRaise_eq_wrap];refine C9 (AU ?_)
 refine C9 (wpAny_onRaise (AM h (λr AK X=>?_) λz z e=>e.elim))
 induction r with
 |none=>
  refine seg_again rfl ?_
  exact X
 |some v=>
  refine C9 (AM X (λz By q=>?_) λz z e=>e.elim)
  refine C9 (AM q (λz B4 M=>?_) λz z e=>e.elim)
  rw[JZ.bind_eq_wrap',JZ.wrap_wrap];rw[JZ.wrap_congr (C4 body Z) _ _ (K':=V4 U it body Z) (H':=Zi Z)
    (λf=>by induction f<;>rfl)
    (λe=>by first|exact Pg _ _|(show(do Kb e Z;HE e:JZ Unit).bind (λz=>.raise e)=_;rw[Pg];rfl))]
  exact M
theorem tL{U:Expr}{it:Ag}{body:List Bx}{c:lD}(h:M4 (Aq Aj w) A R Ab n s0 (.forLoop U it body [] Z) ((Aq Aj w).den (.forLoop U it body [] Z)) fs s):
  M4 (Aq Aj w) A R Ab n s0 c (V4 U it body Z .next) fs s:=seg_again rfl h
theorem iU{M:IX}{α:Type}{Q:α->Ah->Prop}{a:An}(t:A.handled=Ao)(h:E (.ref a) s):Ap M A (raiseNew (α:=α) (.ref a)) Q E s:=by
 delta raiseNew
 refine Ai (wpAny_handled ?_)
 rw[t];exact Ai (Ar (wpAny_throw h))
theorem tM{a:An}{g n:Nat}{gs:Cg}{P:Nat->Ah->Ah->Prop}{Ab:O7}{Q:Option Ag->Ah->Prop}(t:A.handled=Ao)
  (j:s.heap.NoLimit)(k:A.depth<DQ)(e:s.heap.IsGen a g)(d:s.gens[g]?=V gs)
  (c:gs.Goes (Aq Aj w) A.in1 (λn s0 r AK=>r= .ok (.ret .none)/\P n s0 AK) Ab n (.send .none) (s.setGen g .running))
  (G:∀v AK W,W.bare=Y->Ab (n-1) (s.setGen g .running) v AK (λu DK=>match n with
    |0=>False
    |m+1=>W.Goes (Aq Aj w) A.in1 (λn s0 r AK=>r= .ok (.ret .none)/\P n s0 AK) Ab m u DK)->Q (V v) (AK.setGen g W))
  (M:∀AK,P n (s.setGen g .running) AK->∀h',(∀b o,AK.heap.get? b=V o->h'.get? b=V o)->Q Ao {AK.setGen g .finished with heap:=h'}):
  Ap (Aq Aj w) A (H9 (.ref a)) Q E s:=by
 unfold H9;refine Ai (lq (Fd (name:=FQ "__next__") e.typeIs lr (FG lr e.typeIs entry_gen_next ?_ (args_gen_next _))))
 show Ap _ A.in1 (Hm (.ref a) (.send .none)) _ _ s;unfold Hm;refine Ai (AZ (wpAny_genNumber e (Ai (wpAny_genState d ?_))))
 induction gs with
 |running=>exact c.elim
 |finished=>exact c.elim
 |_=>
  refine Ai (wpAny_roomToWake j k ?_)
  show Ap _ A.in1 (.resume g (.send .none) [] _) _ _ s;refine wpAny_resumeQ d c (λx AK L=>?_) (λv AK W F f=>Ar ⟨v,rfl,Ar (G v AK W F f)⟩)
  obtain⟨rfl,hp⟩:=L;show Ap _ A.in1 (newExc (.type "StopIteration") [] >>= _) _ _ _;refine Ai ?_
  dsimp only;refine Ai (Bi ?_ (by size_fits))
  refine Ai (m:=Ig _ _) (Fc (a:=Mu) (by first|rfl|(simp only[Ig];rfl)) ?_)
  refine Bi ?_ (by size_fits)
  refine Ai (iU t ?_)
  refine Ai (UT (T:="StopIteration") (b:=Y) ⟨_,Ay _ rfl,rfl⟩ dz ?_)
  exact Ar (M AK hp _ λb o F=>Au _ (Au _ F))
theorem tO(g:Eo k A):Eo (k+1) A.in1:=⟨g.handled,Am (by first|exact AI _|exact DM _) (BB g.depth),by
 have:=g.units;have e:A.in1.units<=A.units+9:=by first|exact AI _|(show A.units+_<=_;exact(EJ (.a (.v 0) (.k 1)) (.a (.v 0) (.k 9)) [] rfl))
 exact(EV (.v 2) (.a (.m 10 (.a (.v 1) (.k 1))) (.k 20)) [(1,.v 0,.a (.m 10 (.v 1)) (.k 20)),(1,.v 2,.a (.v 0) (.k 9))] rfl this e)⟩
theorem V5(g:Eo k A){body:List Bx}{Z:DS}:Eo (k+1) (A.over (.func body Z) []):=by
 refine⟨g.handled,?_,?_⟩
 ·have e:(A.over (.func body Z) []).depth=A.depth+1:=rfl;rw[e];exact BB g.depth
 ·have e:(A.over (.func body Z) []).units=A.units+3:=rfl;have:=g.units;rw[e];exact(En (.a (.v 0) (.k 3)) (.a (.m 10 (.a (.v 1) (.k 1))) (.k 20)) [(1,.v 0,.a (.m 10 (.v 1)) (.k 20))] rfl this)
theorem tP(g:Eo k A){body x:List Bx}{Z Q:DS}{t:Expr}{it:Ag}{Aa H gd lv p}:Eo (k+1) (A.over (.forLoop t it x [] Q) [PJ Z Aa H gd lv (.func body Z) p]):=by
 refine⟨g.handled,?_,?_⟩
 ·have e:(A.over (.forLoop t it x [] Q) [PJ Z Aa H gd lv (.func body Z) p]).depth=A.depth+1:=rfl;rw[e];exact BB g.depth
 ·have e:(A.over (.forLoop t it x [] Q) [PJ Z Aa H gd lv (.func body Z) p]).units=A.units+3:=rfl;have:=g.units;rw[e];exact(En (.a (.v 0) (.k 3)) (.a (.m 10 (.a (.v 1) (.k 1))) (.k 20)) [(1,.v 0,.a (.m 10 (.v 1)) (.k 20))] rfl this)
theorem At.toA{q:A1}{ow:List (Nat×Ae)}{OA:List (List An)}(x:At T J mg mb s0 B sc k A N2 Z s ρ ow OA)(i:Eo k q):At T J mg mb s0 B sc k q N2 Z s ρ ow OA:=⟨i,x.ok,x.hm,x.bs,x.rel,x.occ,x.young⟩
theorem At.agree(x:At T J mg mb s0 B sc k A N2 Z s ρ [] [])(p:∀y d,lk y ρ=V d->scalar d=Y)(bs:Bs T mg mb s0 DK)(P:∀a o,N2 a->s.heap.get? a=V o->DK.heap.get? a=V o):At T J mg mb s0 B sc k A N2 Z DK ρ [] []:=by
 have cell:∀n c v,(n,c)∈Z.cells->s.heap.IsCell c v->DK.heap.IsCell c v:=λn c v hm q=>by obtain⟨o,e,d⟩:=q;exact⟨o,P c o (x.hm.cel n c hm) e,d⟩
 have ns:∀m,s.heap.Ns Z.locals m->DK.heap.Ns Z.locals m:=λm q=>by obtain⟨o,es,ep,e,r⟩:=q;exact⟨o,es,ep,P _ o x.hm.loc e,r⟩
 refine⟨x.ha,x.ok,x.hm,bs,⟨λy d j E=>?_,.nil,x.rel.nodup,x.rel.apart,⟨by obtain⟨m,h⟩:=x.rel.sl.ns;exact⟨m,ns m h⟩,λn c hm=>by obtain⟨v,h⟩:=x.rel.sl.cells n c hm;exact⟨v,cell n c v hm h⟩,x.rel.sl.apart⟩⟩,λa h=>by obtain⟨o,e,t⟩:=x.occ a h;exact⟨o,P a o h e,t⟩,x.young⟩
 obtain⟨v,U,F⟩:=x.rel.one y d j E;refine⟨v,?_,F.scalar (p y d j)⟩
 rcases U with⟨U,m,C,i⟩|⟨U,C,c,i,L⟩
 ·exact .inl ⟨U,m,ns m C,i⟩
 ·refine .inr ⟨U,C,c,i,cell (B y) c _ ?_ L⟩
  exact mem_of_lookup i
theorem At.updW(x:At T J mg mb s0 B sc k A N2 Z s ρ [] [])(u:Co T W s S)(j:∀a,W a->s0.heap.get? a=Ao)(i:∀a,W a->¬D5 Z a)(p:∀a,W a->N2 a):At T J mg mb s0 B sc k A N2 Z S ρ [] []:=
 ⟨x.ha,x.ok,x.hm,x.bs.upd u j,⟨x.rel.one.upd u (λa h=>.inl (p a h)) (λh=>i _ h (.inl rfl)) (λn c hm h=>i _ h (.inr ⟨n,hm⟩)),.nil,x.rel.nodup,x.rel.apart,x.rel.sl.upd u (λh=>i _ h (.inl rfl)) λn c hm h=>i _ h (.inr ⟨n,hm⟩)⟩,λa h=>u.occ a (x.occ a h),x.young⟩
theorem At.pair(x:At T J mg mb s0 B sc k A N2 Z s ρ [] [])(hS:D0 Aj w T J mg mb s0 B fn C k n){e1 e2:Expr}{N P:M}{kx:Nat}{pos:B9}{p:Nat}{c:List Nat}{Q:Ag->Ah->Prop}
  (U:Bu B fn fo sc e1 N=Y)(X:Bu B fn fo sc e2 P=Y)(v1:ev C n ρ [] N=V (.int (.k (.ofNat p))))(v2:ev C n ρ [] P=V (.str c))
  (q:∀t y tk j S,BM T s S->s.heap.get? t=Ao->S.heap.get? t=V (HA #[.int (Fj p) tk,.str y j] 0)->y.cps.toList=c->Q (.ref t) S):Ap (Aq Aj w) A (Bj (.Tuple [e1,e2] kx pos) Z) Q E s:=by
 refine QM (k:=kx) (pos:=pos) ?_
 rw[Fa (J3 U),Fa (J3 X)];refine Ax (x.eval @hS U v1 λa AK W r=>?_)
 refine Ax ((x.ext W).eval @hS X v2 λb By i F=>AF ?_)
 obtain⟨_,_,rfl,e1⟩:=r.intE;obtain⟨_,_,rfl,e2⟩:=F.inv;have L:Fj p=_:=e1;subst L;refine Ie ?_ (by apply AO CC;exact D8 rfl)
 refine q _ _ _ _ _ ((W.trans i).trans (.push (tk:=By.toks))) (x.bs.free_at (W.trans i) _ (HX (AI _))) (Ay _ rfl) e2
noncomputable def FK:List Av:=["addr","pos","escape","ch"]
theorem Zj:EA (C6 FK):=Nn (by decide+kernel)
noncomputable def Og(T:An->Prop)(mg mb:Av->Option Ag)(s0:Ah)(BD:An->Prop)(its:List (Nat×List Nat)):O7:=λm AK v s b=>
 (∃t p c y tk E,v= .ref t/\its[its.length-1-m]?=V (p,c)/\AK.heap.get? t=Ao/\¬BD t/\s.heap.get? t=V (HA #[.int (Fj p) tk,.str y E] 0)/\y.cps.toList=c)/\Co T BD AK s/\(∀a,BD a->Da s.heap a)∧
 ∀DK,Bs T mg mb s0 DK->(∀a o,BD a->s.heap.get? a=V o->DK.heap.get? a=V o)->b (.send .none) DK
noncomputable def OQ(T BD:An->Prop):aM:=λn AK r s=>r= .ok (.ret .none)/\(n=0/\Co T BD AK s)
structure GI(T:An->Prop)(J:Sg)(mg mb:Av->Option Ag)(s0:Ah)(sc:List (Av×AC))(k:Nat)(A:A1)(Z:DS)(e it:An)(x:Av)(t:Ez)(i:Nat)(ρ:List (Nat×D))(s:Ah):Prop where
 at':At T J mg mb s0 (C6 FK) sc k A (λa=>a=Z.locals\/a=e\/a=it) Z s ρ [] []
 en:∃old,IsEnum s.heap e it i old
 si:s.heap.IsStrIter it (Pa x) x t i
 sca:∀y d,lk y ρ=V d->scalar d=Y
theorem tQ{it:An}{x:Av}{t:Ez}{i:Nat}{Q:Ag->Ah->Prop}(b:A.handled=Ao)(G:s.heap.IsStrIter it "str_ascii_iterator" x t i)(L:x.cps[i]?=Ao)
  (p:∀h' e,DI it s.heap h'->Da h' it->(∃o,h'.get? e=V o/\o.cls= .type "StopIteration")->E (.ref e) {s with heap:=h'}):Ap (Aq Aj w) A (Hi (.ref it)) Q E s:=by
 obtain⟨o,C,c,hd⟩:=id G;unfold Hi;refine Ai (Fd (name:=FQ "__next__") G.typeIs Hj (FG Hj G.typeIs PySem.F.entry_str_ascii_iterator_next ?_ (PySem.F.args_str_ascii_iterator_next_1 _)))
 show Ap _ _ (zu (.ref it) 0 >>= _) _ _ s;refine Ai (GP C hd (x:=.str x t) rfl ?_)
 show Ap _ _ (zu (.ref it) 1 >>= _) _ _ s;refine Ai (GP C hd (x:=.int i 0) rfl ?_)
 simp only[Cz,L];refine Ai (Hq (Ai (wpAny_setField C hd (by simp) (Ai (zz ?_)))))
 show Ap _ _ (newExc (.type "StopIteration") [] >>= _) _ _ _;refine Ai ?_
 skip
 refine Ai (Bi ?_ (by size_fits))
 refine Ai (m:=Ig _ _) (Fc (a:=Mu) (by first|rfl|(simp only[Ig];rfl)) ?_)
 refine Bi ?_ (by size_fits)
 refine iU b ?_
 refine p _ _ (((Dp ..).extBut.push _).push _) ⟨_,Au _ (Au _ (DW _ C (Fo.isFreed_of_fields (Fo.data_mapFields hd _)))),?_⟩ ⟨_,Ay _ rfl,rfl⟩
 exact Iq ⟨_,(Fo.cls_mapFields ..).trans c⟩
theorem tR{e it:An}{x:Av}{t:Ez}{i:Nat}{j:Int}{d:Ag}{Q:Option Ag->Ah->Prop}(c:A.handled=Ao)(r:IsEnum s.heap e it j d)(G:s.heap.IsStrIter it "str_ascii_iterator" x t i)(L:x.cps[i]?=Ao)
  (l:∀h',DI it s.heap h'->Da h' it->Q Ao {s with heap:=h'}):Ap (Aq Aj w) A (H9 (.ref e)) Q E s:=by
 have H:s.TypeIs (.ref e) "enumerate":=⟨_,r,rfl⟩;unfold H9;refine Ai (lq (Fd (name:=FQ "__next__") H I5 (FG I5 H PySem.F.entry_enumerate_next ?_ (PySem.F.args_enumerate_next_1 _))))
 show Ap _ _ (zu (.ref e) 2 >>= _) _ _ _;refine Ai (GP r rfl (x:=.ref it) rfl ?_)
 refine Ai (tQ c G L λh' y f R a=>?_)
 obtain⟨o,C,g⟩:=a;refine Ai (UT (T:="StopIteration") (b:=Y) ⟨o,C,g⟩ dz ?_)
 exact Ar (l _ f R)
theorem Zk{x:Av}(h:x.cps.all (· <128)=Y):Pa x="str_ascii_iterator":=by unfold Pa;rw[if_pos h]
section
variable {Aj:Bh} {w:Ca} {A:A1} {E:Ag->Ah->Prop} {T:An->Prop} {J:Sg} {mg mb:Av->Option Ag} {s0 s S DK:Ah} {k n fo:Nat} {Z:DS} {sc:List (Av×AC)} {ρ A6 Bt:List (Nat×D)} {e it:An} {x:Av} {t:Ez} {i:Nat}
theorem GI.move(g:GI T J mg mb s0 sc k A Z e it x t i ρ s)(j:At T J mg mb s0 (C6 FK) sc k A (λa=>a=Z.locals\/a=e\/a=it) Z S A6 [] [])(P:∀b o,(b=e\/b=it)->s.heap.get? b=V o->Hn o=Ak->S.heap.get? b=V o)
  (r:∀y d,lk y A6=V d->scalar d=Y):GI T J mg mb s0 sc k A Z e it x t i A6 S:=by
 refine⟨j,?_,?_,r⟩
 ·obtain⟨p,h⟩:=g.en;exact⟨p,P _ _ (.inl rfl) h rfl⟩
 ·obtain⟨o,U,q,C⟩:=g.si;exact⟨o,P _ _ (.inr rfl) U (Iq ⟨_,q⟩),q,C⟩
theorem GI.ext(g:GI T J mg mb s0 sc k A Z e it x t i ρ s)(y:BM T s S):GI T J mg mb s0 sc k A Z e it x t i ρ S:=g.move (g.at'.ext y) (λb o z h j=>y.keep2 b o h j) g.sca
theorem GI.frm(g:GI T J mg mb s0 sc k A Z e it x t i ρ s)(j:e≠Z.locals/\it≠Z.locals)(E:Z.cells=[])(p:Ek T J (C6 FK) (λa=>a=Z.locals\/a=e\/a=it) Z [] s S A6 [] [])(r:∀y d,lk y A6=V d->scalar d=Y):
  GI T J mg mb s0 sc k A Z e it x t i A6 S:=by
 refine g.move (g.at'.post p) (λb o F h C=>p.upd.keep2 b o (λq=>?_) h C) r
 rcases q with(q|⟨n,q⟩)|q
 ·rcases F with rfl|rfl
  ·exact j.1 q
  ·exact j.2 q
 ·rw[E]at q;cases q
 ·simp at q
theorem GI.agree(g:GI T J mg mb s0 sc k A Z e it x t i ρ s)(bs:Bs T mg mb s0 DK)(P:∀a o,(a=Z.locals\/a=e\/a=it)->s.heap.get? a=V o->DK.heap.get? a=V o):GI T J mg mb s0 sc k A Z e it x t i ρ DK:=
 g.move (g.at'.agree g.sca bs P) (λb o F h z=>P b o (.inr F) h) g.sca
theorem GI.occ(g:GI T J mg mb s0 sc k A Z e it x t i ρ s):∀a,(a=Z.locals\/a=e\/a=it)->Da s.heap a:=g.at'.occ
theorem Eo.mono{j:Nat}(i:Eo k A)(h:k<=j):Eo j A:=⟨i.handled,Am i.depth (Cw h 400),by have:=i.units;exact(EV (.v 2) (.a (.m 10 (.v 1)) (.k 20)) [(10,.v 0,.v 1),(1,.v 2,.a (.m 10 (.v 0)) (.k 20))] rfl h this)⟩
theorem tS(Cx:EA (C6 FK)){L:A1}(N:Eo k L)(g:GI T J mg mb s0 sc k A Z e it x t i ρ s)(U:x.cps.all (· <128)=Y)(p:e≠Z.locals/\it≠Z.locals/\e≠it)(M:Z.cells=[])(z:∀a,(a=e\/a=it)->s0.heap.get? a=Ao/\¬T a)
  (hn:∀y∈FK,sc.lookup y=V .local){c:Nat}(hc:x.cps[i]?=V c){p1 p2 p3:B9}{kx:Nat}{Q:Unit->Ah->Prop}
  (q:∀S,GI T J mg mb s0 sc k A Z e it x t (i+1) ((3,.str [c])::(1,.int (.k (.ofNat i)))::ρ) S->Co T (λa=>a=Z.locals\/a=e\/a=it) s S->Q () S):
  Ap (Aq Aj w) L (H9 (.ref e)) (λr AK=>match r with
   |none=>False
   |some v=>Ap (Aq Aj w) L (Dd (.Tuple [.Name "pos" p1,.Name "ch" p2] kx p3) (.ref e) v) (λB By=>Ap (Aq Aj w) L (Jd (.Tuple [.Name "pos" p1,.Name "ch" p2] kx p3) Z v) Q No By) No AK) No s:=by
 obtain⟨E5,he⟩:=g.en;have CH:i<x.cps.size:=(Array.getElem?_eq_some_iff.mp hc).1;have P:s.heap.IsStrIter it "str_ascii_iterator" x t i:=by have:=g.si;rwa [Zk U]at this
 have DD:=Draws.strAscii (prog:=Aj) (w:=w) (A:=L.in1) N.handled it x t;refine wpAny_pyNext_enum_itemD DD he P CH p.2.2 (by simpa using p.2.2) λxv h' tk hP ho Ev hT hsz hk=>?_
 obtain⟨c',u,R,rfl⟩:=hP;rw[hc]at R;cases R;refine wpAny_letOwnedTupleGo_enum ho λl F C=>?_
 have nT:s.heap.objs.size≠e:=Dx (AY he);have keep:∀b o,b≠e->b≠it->s.heap.get? b=V o->l.get? b=V o:=λb o h1 h2 m=>(C.2 b h1).trans (hk b o h1 h2 m)
 have G:l.IsStrIter it "str_ascii_iterator" x t (i+1):=by
  obtain⟨o,e1,r⟩:=Ev;exact⟨o,(C.2 it p.2.2.symm).trans e1,r⟩
 have E3:IA s.heap e:=.of he rfl;have E4:IA s.heap it:=by obtain⟨o,e1,_,hd⟩:=P;exact .of e1 (Nb (by rw[hd];rfl))
 have W:Da l e:=⟨_,F,rfl⟩;have X:Da l it:=by obtain⟨o,e1,h2,_⟩:=G;exact⟨o,e1,Iq ⟨_,h2⟩⟩
 have Bd:Co T (λa=>a=e\/a=it) s {s with heap:=l,toks:=tk+1}:=by
  refine⟨λb o B hw m=>keep b o (λq=>hw (.inl q)) (λq=>hw (.inr q)) m,λb o hw m B=>keep b o (λq=>hw (.inl q)) (λq=>hw (.inr q)) m,λb ⟨o,m,tt⟩=>?_,λb tb t=>t.keep (λc o co m=>keep c o (λq=>(q▸E3).absurd co m) (λq=>(q▸E4).absurd co m) m) (λo m=>keep b _ (λq=>(z e (.inl rfl)).2 (q▸tb)) (λq=>(z it (.inr rfl)).2 (q▸tb)) m),λB e=>e,rfl⟩
  by_cases q1:b=e
  ·apply AO q1;exact W
  ·by_cases q2:b=it
   ·apply AO q2;exact X
   ·exact⟨o,keep b o q1 q2 m,tt⟩
 have Bs:=(g.at'.toA N).updW Bd (λa h=>(z a h).1) (λa h f=>by
  rcases f with f|⟨n,f⟩
  ·rcases h with rfl|rfl
   ·exact p.1 f
   ·exact p.2.1 f
  ·rw[M]at f;cases f) λa h=>.inr h
 have Ce:l.get? s.heap.objs.size=V (HA #[.int i tk,.str ⟨#[c]⟩ u] 0):=(C.2 _ nT).trans hT;have O3:¬Dt (λa=>a=Z.locals\/a=e\/a=it) [] s.heap.objs.size:=λh=>by
  rcases h with h|h
  ·obtain⟨o,m,_⟩:=g.at'.occ _ h;rw[HX (AI _)]at m;cases m
  ·simp at h
 have rv:Rd J (Dt (λa=>a=Z.locals\/a=e\/a=it) []) l (.ref s.heap.objs.size) (.tup [.int (.k (.ofNat i)),.str [c]]):=
  .tup (I:=[.int i tk,.str ⟨#[c]⟩ u]) (n:=0) O3 Ce (.cons (.int rfl) (.cons (.str rfl) .nil))
 refine Bs.assign Cx (ys:=[1,3]) (CZ:=Ak) (Di ⟨S6 (hn "pos" (iL rfl)) rfl,rfl⟩ (Di ⟨S6 (hn "ch" (iL rfl)) rfl,rfl⟩ Ky)) rv ?_ rfl λBy E=>?_
 ·show((("pos":Av)==C6 FK 1&&(sc.lookup ("pos":Av)==V .local||sc.lookup ("pos":Av)==V .cell))&&((("ch":Av)==C6 FK 3&&(sc.lookup ("ch":Av)==V .local||sc.lookup ("ch":Av)==V .cell))&&Y))=Y
  rw[hn "pos" (iL rfl),hn "ch" (iL rfl)]
  decide+kernel
 ·have Cf:∀y d,lk y ((3,D.str [c])::(1,.int (.k (.ofNat i)))::ρ)=V d->scalar d=Y:=λy d j=>by
   rw[H6]at j;split at j
   ·cases j;rfl
   ·rw[H6]at j;split at j
    ·cases j;rfl
    ·exact g.sca y d j
  have H:∀b,(b=e\/b=it)->¬(D5 Z b\/b∈([]:List (List An)).flatten):=λb hb qq=>by
   rcases qq with(qq|⟨n,qq⟩)|qq
   ·rcases hb with rfl|rfl
    ·exact p.1 qq
    ·exact p.2.1 qq
   ·rw[M]at qq;cases qq
   ·simp at qq
  refine q By ⟨(Bs.post E).toA g.at'.ha,⟨_,E.upd.keep2 _ _ (H _ (.inl rfl)) F rfl⟩,?_,Cf⟩ ((Bd.mono λa h=>.inr h).trans (E.upd.mono λa h=>?_))
  ·obtain⟨o,e1,e2,e3⟩:=G;rw[Zk U];exact⟨o,E.upd.keep2 _ _ (H _ (.inr rfl)) e1 (Iq ⟨_,e2⟩),e2,e3⟩
  ·rcases h with(h|⟨n,h⟩)|h
   ·exact .inl h
   ·rw[M]at h;cases h
   ·simp at h
end
noncomputable abbrev Qw:List Bx:=[
 .If (.Name "escape" (D3 12)) [
  .Expr (.Yield (V (.Tuple [.Name "pos" (D3 13),.BinOp (.Constant (.str "\\") 0 (D3 14)) .Add (.Name "ch" (D3 15)) (D3 16)] 0 (D3 17))) (D3 18)) (D3 19),
  .Assign [.Name "escape" (D3 20)] (.Constant (.bool Ak) 0 (D3 21)) (D3 22)]
  [.If (.Compare (.Name "ch" (D3 23)) [.Eq] [.Constant (.str "\\") 0 (D3 24)] (D3 25)) [.Assign [.Name "escape" (D3 26)] (.Constant (.bool Y) 0 (D3 27)) (D3 28)] [
   .Expr (.Yield (V (.Tuple [.Name "pos" (D3 29),.Name "ch" (D3 30)] 0 (D3 31))) (D3 32)) (D3 33)] (D3 34)] (D3 35)]
section
variable {Aj:Bh} {w:Ca} {A:A1} {E:Ag->Ah->Prop} {T:An->Prop} {J:Sg} {mg mb:Av->Option Ag} {s0 s S DK AK:Ah} {k n fo:Nat} {Z:DS} {sc:List (Av×AC)} {ρ A6 Bt:List (Nat×D)} {e it:An} {x:Av} {t:Ez} {i:Nat} {R:aM} {c:lD} {fs:List zt} {Aa:EW->JZ Fin} {H:Ag->JZ Fin}
theorem iV(N:EA (C6 FK))(g:GI T J mg mb s0 sc k A Z e it x t i ρ s)(f:e≠Z.locals/\it≠Z.locals)(c:Z.cells=[])(M:∀y∈FK,sc.lookup y=V .local){m:A1}(l:Eo k m){b:Bool}{p1 p2 p3:B9}{kx:Nat}{Q:EW->Ah->Prop}
  (q:∀S,GI T J mg mb s0 sc k A Z e it x t i ((2,.bool b)::ρ) S->Co T (λa=>a=Z.locals\/a=e\/a=it) s S->Q .next S):Ap (Aq Aj w) m (EB (.Assign [.Name "escape" p1] (.Constant (.bool b) kx p2) p3) Z) Q No s:=by
 refine A2 (DO ?_) rfl
 refine(g.at'.toA l).put N (y:=2) (d:=.bool b) ?_ rfl (.bool b) λS p=>?_
 ·show(((sc.lookup ("escape":Av)==V .local)||(sc.lookup ("escape":Av)==V .cell))&&("escape":Av) != ("__classdict__":Av))=Y
  rw[M "escape" (iL rfl)];decide+kernel
 ·refine q S (g.frm f c p λy d j=>?_) (p.upd.mono λa h=>?_)
  ·rw[H6]at j;split at j
   ·cases j;rfl
   ·exact g.sca y d j
  ·rcases h with(h|⟨n,h⟩)|h
   ·exact .inl h
   ·rw[c]at h;cases h
   ·simp at h
theorem Zl{BD:An->Prop}(t:At T J mg mb s0 (C6 FK) sc k A BD Z s ρ [] [])(x:∀y d,lk y ρ=V d->scalar d=Y){R:Nat}(hS:D0 Aj w T J mg mb s0 (C6 FK) fn (λB B=>Ao) k R)(i:Eo k (A.over c fs)){its r:List (Nat×List Nat)}{p:Nat}{l:List Nat}{Iz:List (Nat×List Nat)}(f:its=Iz++(p,l)::r)
  {e1 e2:Expr}{z D:M}{kx:Nat}{v ep tp:B9}(U:Bu (C6 FK) fn fo sc e1 z=Y)(G:Bu (C6 FK) fn fo sc e2 D=Y)(N:ev (λB B=>Ao) R ρ [] z=V (.int (.k (.ofNat p))))(Q:ev (λB B=>Ao) R ρ [] D=V (.str l))
  (u:Co T BD AK s)(F:∀a,s.heap.get? a=Ao->AK.heap.get? a=Ao)(j:splitAtGen fs=Ao)(m:fs.any zt.guarded=Ak)(n:Z.scope.isCoroutine=Ak)(W:DT Z=Ak)
  (q:∀S DK,BM T s S->Bs T mg mb s0 DK->(∀a o,BD a->S.heap.get? a=V o->DK.heap.get? a=V o)->At T J mg mb s0 (C6 FK) sc k A BD Z DK ρ [] []->M4 (Aq Aj w) A (OQ T BD) (Og T mg mb s0 BD its) r.length DK c (Aa .next) fs DK):
  M4 (Aq Aj w) A (OQ T BD) (Og T mg mb s0 BD its) ((p,l)::r).length AK c ((EB (.Expr (.Yield (V (.Tuple [e1,e2] kx tp)) v) ep) Z).wrap Aa H id id) fs s:=by
 refine seg_Expr_Yield j rfl m ?_ n W
 refine(t.toA i).pair @hS U G N Q λX y tk E S C L f2 f3=>?_
 intro Bd g;have b:=t.ext C;refine⟨⟨X,p,l,y,tk,E,rfl,?_,F _ L,(λh=>by obtain⟨o,e,_⟩:=t.occ _ h;rw[L]at e;cases e),f2,f3⟩,u.trans C.upd,b.occ,λDK bs P=>g .none DK (q S DK C bs P (b.agree x bs P))⟩
 apply AO f;rw[Bm,Cb]
 have:Iz.length+(r.length+1)-1-r.length=Iz.length:=Nat.add_sub_cancel Iz.length r.length;rw[this,List.getElem?_append_right (AI _),II];rfl
theorem tT(Cx:EA (C6 FK))(hS:∀n,D0 Aj w T J mg mb s0 (C6 FK) fn (λB B=>Ao) k n)(hT:∀n,HZ Aj w T J mg mb s0 (C6 FK) fn (λB B=>Ao) k n)(F1:Z.scope.isCoroutine=Ak)(Bs:DT Z=Ak)
  (Ce:x.cps.all (· <128)=Y)(C:e≠Z.locals/\it≠Z.locals/\e≠it)(M:Z.cells=[])(z:∀a,(a=e\/a=it)->s0.heap.get? a=Ao/\¬T a)(hn:∀y∈FK,sc.lookup y=V .local)
  {CH:B9}{its:List (Nat×List Nat)}{fbody:List Bx}
  (HC:Eo k (A.over (.func fbody Z) []))(p:∀(t:Expr) (it:Ag) (bd:List Bx),Eo k (A.over (.forLoop t it bd [] Z) [PJ Z Aa H id id (.func fbody Z) CH]))
  (Bd:∀(b:Bool) (ρ:List (Nat×D)) (AK s:Ah) (Iz:List (Nat×List Nat)),At T J mg mb s0 (C6 FK) sc k A (λa=>a=Z.locals\/a=e\/a=it) Z s ρ [] []->(∀y d,lk y ρ=V d->scalar d=Y)->lk 2 ρ=V (.bool b)->
   (b=Y->lk 1 ρ=V (.int (.k (.ofNat (x.cps.toList.length-1)))))->its=Iz++Jt b x.cps.toList.length []->Co T (λa=>a=Z.locals\/a=e\/a=it) AK s->(∀a,s.heap.get? a=Ao->AK.heap.get? a=Ao)->
   M4 (Aq Aj w) A (OQ T λa=>a=Z.locals\/a=e\/a=it) (Og T mg mb s0 (λa=>a=Z.locals\/a=e\/a=it) its) (Jt b x.cps.toList.length []).length AK (.func fbody Z) (Aa .next) [] s):
  ∀(r:List Nat) (i:Nat) (b:Bool) (ρ:List (Nat×D)) (AK s:Ah) (Iz:List (Nat×List Nat)),x.cps.toList.drop i=r->i<=x.cps.toList.length->GI T J mg mb s0 sc k A Z e it x t i ρ s->lk 2 ρ=V (.bool b)->(b=Y->lk 1 ρ=V (.int (.k (.ofNat (i-1)))))->
   its=Iz++Jt b i r->Co T (λa=>a=Z.locals\/a=e\/a=it) AK s->(∀a,s.heap.get? a=Ao->AK.heap.get? a=Ao)->
   M4 (Aq Aj w) A (OQ T λa=>a=Z.locals\/a=e\/a=it) (Og T mg mb s0 (λa=>a=Z.locals\/a=e\/a=it) its) (Jt b i r).length AK
    (.forLoop (.Tuple [.Name "pos" (D3 6),.Name "ch" (D3 7)] 0 (D3 8)) (.ref e) (Qw) [] Z)
    ((Aq Aj w).den (.forLoop (.Tuple [.Name "pos" (D3 6),.Name "ch" (D3 7)] 0 (D3 8)) (.ref e) (Qw) [] Z))
    [PJ Z Aa H id id (.func fbody Z) CH] s:=by
 intro r
 induction r with
 |nil=>
  intro i b ρ AK s Iz hdr DD g h2 h1 l u hb;have hi:i=x.cps.toList.length:=by
   have:=congrArg Gh hdr;rw[C0,List.length_nil]at this;exact(AP DD (EV (.v 1) (.v 0) [(1,.v 2,.k 0),(1,.v 1,.a (.v 2) (.v 0))] rfl (Al this) Fy))
  subst hi;obtain⟨HF,he⟩:=g.en;have F2:s.heap.IsStrIter it "str_ascii_iterator" x t x.cps.toList.length:=by have:=g.si;rwa [Zk Ce]at this
  refine iT (tR (p _ _ _).handled he F2 (by simp) λh' hx ho=>?_)
  have Gt:IA s.heap it:=by obtain⟨o,e1,_,hd⟩:=F2;exact .of e1 (Nb (by rw[hd];rfl))
  have u':Co T (λa=>a=it) s {s with heap:=h'}:=by
   refine⟨λb o B hw X=>hx b o hw X,λb o hw X B=>hx b o hw X,λb ⟨o,X,tt⟩=>?_,λb tb t=>t.keep (λc o co X=>hx c o (λq=>(q▸Gt).absurd co X) X) (λo X=>hx b _ (λq=>(z it (.inr rfl)).2 (q▸tb)) X),λB e=>e,rfl⟩
   by_cases q:b=it
   ·apply AO q;exact ho
   ·exact⟨o,hx b o q X,tt⟩
  have G0:=g.at'.updW u' (λa h=>(z a (.inr h)).1) (λa h f=>by
   rcases f with f|⟨n,f⟩
   ·exact C.2.1 (h▸f)
   ·rw[M]at f;cases f) λa h=>.inr (.inr h)
  refine tK (Bd b ρ AK {s with heap:=h'} Iz G0 g.sca h2 h1 l (u.trans (u'.mono λa h=>.inr (.inr h))) λa h=>hb a (u'.free_back g.at'.bs.tabs_ok (λb hb=>g.occ b (.inr (.inr hb))) h))
 |cons c r ih=>
  intro i b ρ AK s Iz hdr DD g h2 h1 l u hb;have Ev:i<x.cps.toList.length:=by
   have:=congrArg Gh hdr;rw[C0,Cb]at this;exact(Ip (.a (.v 0) (.k 1)) (.v 1) [(1,.a (.v 3) (.k 1),.v 2),(1,.a (.v 2) (.v 0),.v 1)] rfl (Al this.symm) (Al (Az DD)))
  have Cf:=Cu Ev;rw[hdr]at Cf
  injection Cf with hc hr
  have Hd:x.cps[i]?=V c:=by
   have:i<x.cps.size:=by rwa [Bp]at Ev
   rw[BO this];apply AO hc;rfl
  have G:∀a,Bu (C6 FK) fn 2 sc (.Name "pos" a) (.n 1)=Y:=λa=>by
   show(("pos":Av)==C6 FK 1&&Ko (sc.lookup ("pos":Av))&&("pos":Av) != ("__debug__":Av))=Y;rw[hn "pos" (iL rfl)];decide+kernel
  have F3:∀a,Bu (C6 FK) fn 2 sc (.Name "ch" a) (.n 3)=Y:=λa=>by
   show(("ch":Av)==C6 FK 3&&Ko (sc.lookup ("ch":Av))&&("ch":Av) != ("__debug__":Av))=Y;rw[hn "ch" (iL rfl)];decide+kernel
  have E3:∀a,Bu (C6 FK) fn 1 sc (.Name "escape" a) (.n 2)=Y:=λa=>by
   show(("escape":Av)==C6 FK 2&&Ko (sc.lookup ("escape":Av))&&("escape":Av) != ("__debug__":Av))=Y;rw[hn "escape" (iL rfl)];decide+kernel
  have E4:Bu (C6 FK) fn 2 sc (.BinOp (.Constant (.str "\\") 0 (D3 14)) .Add (.Name "ch" (D3 15)) (D3 16)) (.bin .Add (.c (.str [92])) (.n 3))=Y:=by
   show(Ow==Ow&&Fq ("\\":Av).cps.toList [92]&&(("ch":Av)==C6 FK 3&&Ko (sc.lookup ("ch":Av))&&("ch":Av) != ("__debug__":Av)))=Y;rw[hn "ch" (iL rfl)];decide+kernel
  have E5:Bu (C6 FK) fn 2 sc (.Compare (.Name "ch" (D3 23)) [.Eq] [.Constant (.str "\\") 0 (D3 24)] (D3 25)) (.cmp (.n 3) [(.Eq,.c (.str [92]))])=Y:=by
   show((("ch":Av)==C6 FK 3&&Ko (sc.lookup ("ch":Av))&&("ch":Av) != ("__debug__":Av))&&(dA==dA&&Fq ("\\":Av).cps.toList [92]&&Y))=Y;rw[hn "ch" (iL rfl)];decide+kernel
  refine iT (AM (tS (p1:=(D3 6)) (p2:=(D3 7)) (p3:=(D3 8)) (kx:=0) (Q:=(λB B4=>M4 (Aq Aj w) A (OQ T λa=>a=Z.locals\/a=e\/a=it) (Og T mg mb s0 (λa=>a=Z.locals\/a=e\/a=it) its) (Jt b i (c::r)).length AK (.forLoop (.Tuple [.Name "pos" (D3 6),.Name "ch" (D3 7)] 0 (D3 8)) (.ref e) (Qw) [] Z) ((C4 (Qw) Z).wrap (V4 (.Tuple [.Name "pos" (D3 6),.Name "ch" (D3 7)] 0 (D3 8)) (.ref e) (Qw) Z) (Zi Z) id id) [PJ Z Aa H id id (.func fbody Z) CH] B4)) Cx (p _ _ _) g Ce C M z hn Hd λBy E F4=>?_) (λr By h=>?_) λB B e=>e)
  rotate_left
  ·induction r with
   |none=>exact h.elim
   |some v=>exact h
  have F5:∀a,By.heap.get? a=Ao->AK.heap.get? a=Ao:=λa h=>hb a (F4.free_back g.at'.bs.tabs_ok g.occ h)
  have U2:=u.trans F4;have l2:lk 2 ((3,D.str [c])::(1,.int (.k (.ofNat i)))::ρ)=V (.bool b):=by rw[H6,if_neg (by decide),H6,if_neg (by decide)];exact h2
  have L:∀(B4:Ah) (N:List (Nat×D)) (P:Bool) (F:Ah) (R:List (Nat×List Nat)),GI T J mg mb s0 sc k A Z e it x t (i+1) N B4->lk 2 N=V (.bool P)->(P=Y->lk 1 N=V (.int (.k (.ofNat i))))->its=R++Jt P (i+1) r->Co T (λa=>a=Z.locals\/a=e\/a=it) F B4->(∀a,B4.heap.get? a=Ao->F.heap.get? a=Ao)->_:=
   λB4 N P F R m q1 q2 q3 q4 q5=>tL (c:=.forLoop (.Tuple [.Name "pos" (D3 6),.Name "ch" (D3 7)] 0 (D3 8)) (.ref e) (Qw) [] Z) (ih (i+1) P N F B4 R hr.symm Ev m q1 q2 q3 q4 q5)
  refine CW (Zh ?_)
  refine hT 1 ⟨p _ _ _,E.at'.ok,E.at'.bs,E.at'.rel.rel,(λB h=>.inl h),E.at'.occN⟩ (E3 _) l2 rfl λB4 Fn=>?_
  have m:=E.ext Fn;have U3:=U2.trans (Fn.upd (W:=λa=>a=Z.locals\/a=e\/a=it))
  have F6:∀a,B4.heap.get? a=Ao->AK.heap.get? a=Ao:=λa h=>F5 a (E.at'.bs.free_at Fn a h)
  induction b with
  |true=>
   rw[if_pos rfl];have ee:Jt Y i (c::r)=(i,[92,c])::Jt Ak (i+1) r:=rfl;rw[ee]at l ⊢;refine CW ?_
   refine Zl m.at' m.sca (hS 2) (p _ _ _) l (G _) E4 rfl rfl U3 F6 rfl rfl F1 Bs λS DK x' bs hk F7=>?_
   have U:=(m.ext x').agree bs hk;refine CW (V3 (iV Cx U ⟨C.1,C.2.1⟩ M hn (p _ _ _) λs6 F0 u6=>?_))
   refine CS (CS ?_)
   exact L s6 _ Ak DK (Iz++[(i,[92,c])]) F0 rfl (λh=>by cases h) (by apply AO l;simp) u6 λa h=>u6.free_back U.at'.bs.tabs_ok U.occ h
  |false=>
   rw[if_neg AR];refine CW (Zh ?_)
   have hq:Fq [c] [92]=As c 92:=by show bI (As c 92) Y Ak=_;cases As c 92<;>rfl
   refine hT 2 (d:=.bool (As c 92)) ⟨p _ _ _,m.at'.ok,m.at'.bs,m.at'.rel.rel,(λB h=>.inl h),m.at'.occN⟩ E5 (by rw[<-hq];rfl) rfl λF x4=>?_
   have j:=m.ext x4;have U4:=U3.trans (x4.upd (W:=λa=>a=Z.locals\/a=e\/a=it))
   have Gl:∀a,F.heap.get? a=Ao->AK.heap.get? a=Ao:=λa h=>F6 a (m.at'.bs.free_at x4 a h)
   have ee:Jt Ak i (c::r)=bI (As c 92) (Jt Y (i+1) r) ((i,[c])::Jt Ak (i+1) r):=rfl;rw[ee]at l ⊢;cases Go:As c 92 with
   |true=>
    rw[Go]at l;rw[if_pos rfl];refine CW (V3 (iV Cx j ⟨C.1,C.2.1⟩ M hn (p _ _ _) λs6 F0 u6=>?_))
    refine CS (CS (CS ?_))
    exact L s6 _ Y AK Iz F0 rfl (λB=>rfl) l (U4.trans u6) λa h=>Gl a (u6.free_back j.at'.bs.tabs_ok j.occ h)
   |false=>
    rw[Go]at l;rw[if_neg AR];refine CW ?_
    refine Zl j.at' j.sca (hS 2) (p _ _ _) l (G _) (F3 _) rfl rfl U4 Gl rfl rfl F1 Bs λS DK x' bs hk F7=>?_
    have U:=(j.ext x').agree bs hk;refine CS (CS (CS ?_))
    exact L DK _ Ak DK (Iz++[(i,[c])]) U l2 (λh=>by cases h) (by apply AO l;exact(Cv Iz [(i,[c])] _).symm) .refl λa h=>h
end
section
variable {Aj:Bh} {w:Ca} {A:A1} {E:Ag->Ah->Prop} {T:An->Prop} {J:Sg} {mg mb:Av->Option Ag} {s0 s S DK AK:Ah} {k n fo:Nat} {g:Nat} {st:Cg} {W BD:An->Prop}
theorem tU(m:Nat):NW (λG=>∀(i:Nat) (x:Cg),m<=i->G[i]?=V x->x.bare=Y):=⟨λG G' h P F i x T e=>by
 by_cases q:i<G.size
 ·have:=P i G[i] (BO q);rw[this]at e;cases e;exact h i _ T (BO q)
 ·exact F i x (BI q) e⟩
structure ID(G G':Array Cg):Prop where
 keep:∀(i:Nat) (x:Cg),G[i]?=V x->G'[i]?=V x
 bare:∀(i:Nat) (x:Cg),G.size<=i->G'[i]?=V x->x.bare=Y
theorem ID.good{G G':Array Cg}(h:ID G G'){P:Array Cg->Prop}(i:NW P)(p:P G):P G':=i.keep G G' p h.keep h.bare
theorem ID.of{G G':Array Cg}(h:∀{P:Array Cg->Prop},NW P->P G->P G'):ID G G':=
 ⟨λi x e=>h .at e,by
  exact h (tU G.size) λi x j e=>by
   rw[GL j]at e;cases e⟩
theorem ID.set{G G':Array Cg}(h:ID G G')(p:G.size<=g)(F:st.bare=Y):ID G (G'.setIfInBounds g st):=by
 refine⟨λi x e=>?_,λi x j e=>?_⟩
 ·have j:i<G.size:=by
   rcases E6 i G.size with q|q
   ·exact q
   ·rw[GL q]at e;cases e
  rw[Iv (by exact(Dx (EV (.a (.v 2) (.k 1)) (.v 1) [(1,.v 0,.v 1),(1,.a (.v 2) (.k 1),.v 0)] rfl p j)))]
  exact h.keep i x e
 ·by_cases q:g=i
  ·subst q;rw[Array.getElem?_setIfInBounds]at e;simp at e
   apply CE e.2;exact F
  ·rw[Iv q]at e;exact h.bare i x j e
theorem ID.push{G G':Array Cg}(h:ID G G')(F:st.bare=Y):ID G (G'.push st):=by
 refine⟨λi x e=>?_,λi x j e=>?_⟩
 ·have:=h.keep i x e;rw[LP];have j:i<G'.size:=(Array.getElem?_eq_some_iff.mp this).1;rw[if_neg (by exact(Bn j))];exact this
 ·rw[LP]at e;split at e
  ·cases e;exact F
  ·exact h.bare i x j e
theorem ID.size{G G':Array Cg}(h:ID G G'):G.size<=G'.size:=by
 rcases Nat.eq_zero_or_pos G.size with q|q
 ·exact(En (.v 0) (.v 1) [(1,.v 0,.k 0)] rfl (Al q))
 ·have:=h.keep (G.size-1) G[G.size-1] (BO (Al (Az (EJ (.k 1) (.v 0) [(1,.a (.k 0) (.k 1),.v 0)] rfl q))));have:=(Array.getElem?_eq_some_iff.mp this).1;exact(EV (.v 0) (.v 2) [(1,.a (.v 1) (.k 1),.v 2),(1,.v 0,.a (.v 1) (.k 1))] rfl this Fy)
theorem BM.setGen(x:BM T s S)(j:s.gens.size<=g)(F:st.bare=Y):BM T s (S.setGen g st):=
 ⟨x.keep,x.keep2,x.tab,λi p=>((ID.of x.gens).set j F).good i p,x.os⟩
theorem Bs.setGen(b:Bs T mg mb s0 s)(i:s0.gens.size<=g)(F:st.bare=Y):Bs T mg mb s0 (s.setGen g st):=⟨b.ext.setGen i F,b.tabs,b.gl⟩
end
variable {AK:Ah} {x:Av} {t:Ez} {i:Nat}
theorem At.store(i:At T J mg mb s0 B sc k A N2 Z s [] [] []){y:Av}{v:Ag}{m:Av->Option Ag}{Q:Unit->Ah->Prop}(C:sc.lookup y=V .local)(p:s.heap.Ns Z.locals m)(M:Z.cells=[])
  (q:∀S,At T J mg mb s0 B sc k A N2 Z S [] [] []->S.heap.Ns Z.locals (λz=>if z=y then V v else m z)->S.heap.objs.size=s.heap.objs.size->Co T (D5 Z) s S->Q () S):Ap (Aq Aj w) A (D6 Z y v) Q E s:=by
 refine FB (by rw[i.ok.kindOf];exact C) p (λh' j r=>?_) (by rw[i.ok.kind];rfl)
 have F:¬T Z.locals:=MK i.bs i.rel.sl (.inl rfl);have L:Co T (·=Z.locals) s {s with heap:=h',toks:=s.toks+1}:=.of_but (tk:=s.toks+1) r (Ql j) F (.ns p)
 have u:Co T (D5 Z) s {s with heap:=h',toks:=s.toks+1}:=L.mono λa h=>.inl h
 refine q _ (i.frmD u ⟨⟨_,j⟩,λn c hm=>(by rw[M]at hm;cases hm),by apply AO M;exact .nil⟩) j r.1 u
noncomputable abbrev RK:List Bx:=[
 .Assign [.Name "pos" (D3 0)] (.Constant (.int 0) 0 (D3 1)) (D3 2),
 .Assign [.Name "escape" (D3 3)] (.Constant (.bool Ak) 0 (D3 4)) (D3 5),
 .For (.Tuple [.Name "pos" (D3 6),.Name "ch" (D3 7)] 0 (D3 8)) (.Call (.Name "enumerate" (D3 9)) [.Name "addr" (D3 10)] [] (D3 11)) Qw [] (D3 36),
 .If (.Name "escape" (D3 37)) [.Expr (.Yield (V (.Tuple [.Name "pos" (D3 38),.Constant (.str "\\") 0 (D3 39)] 0 (D3 40))) (D3 41)) (D3 42)] [] (D3 43)]
variable {m:Av->Option Ag}
theorem tV(X:Eo k A)(hS:∀n,D0 Aj w T J mg mb s0 (C6 FK) fn (λB B=>Ao) (k+1) n)(hT:∀n,HZ Aj w T J mg mb s0 (C6 FK) fn (λB B=>Ao) (k+1) n)
  (E:At T J mg mb s0 (C6 FK) sc (k+1) A (λa=>a=Z.locals) Z s [] [] [])(F1:s.heap.Ns Z.locals m)(hm:m "addr"=V (.str x t))(Q:Z.scope.isCoroutine=Ak)(l:DT Z=Ak)
  (R:x.cps.all (· <128)=Y)(C:Z.cells=[])(M:∀y∈FK,sc.lookup y=V .local)(F2:sc.lookup ("enumerate":Av)=V .globalImplicit)(g1:mg "enumerate"=Ao)(g2:mb "enumerate"=V (.type "enumerate"))
  :
  M4 (Aq Aj w) A (OQ T λa=>a=Z.locals\/a=s.heap.objs.size+1\/a=s.heap.objs.size) (Og T mg mb s0 (λa=>a=Z.locals\/a=s.heap.objs.size+1\/a=s.heap.objs.size) (Jt Ak 0 x.cps.toList)) (Jt Ak 0 x.cps.toList).length s
   (.func RK Z)
   ((Aq Aj w).den (.func RK Z)) [] s:=by
 have kl:∀y∈FK,Z.kindOf y=V .local:=λy hy=>by rw[E.ok.kindOf];exact M y hy
 refine seg_func ?_
 refine CW (V3 (A2 (BQ ?_) rfl))
 have Bd:BM T s {s with toks:=s.toks+1}:=.toks
 have H:=(E.ext Bd).toA (V5 (body:=RK) (Z:=Z) X);refine H.store (y:="pos") (M _ (iL rfl)) F1 C λBy g Bs Ce Cf=>?_
 refine CW (V3 (A2 (DO ?_) rfl))
 refine g.store (y:="escape") (M _ (iL rfl)) Bs C λB4 z F F3 Cx=>?_
 have hz:B4.heap.objs.size=s.heap.objs.size:=F3.trans Ce;refine CW (tJ ?_ (λB=>rfl))
 have va:DH Z B4.heap "addr" (.str x t):=.inl ⟨kl _ (iL rfl),_,F,by rw[if_neg (by decide),if_neg (by decide)];exact hm⟩
 refine AX (z.builtin F2 (by decide) g1 g2 ?_)
 refine callWith_type1 ?_ rfl
 refine Ax (z.name va (by decide) (AF ?_))
 refine call_enumerate_str λh' he G Gl hk=>?_
 refine wpAny_pyIter_enum he λp=>?_
 rw[hz]at he G ⊢;have x4:BM T B4 {B4 with heap:=h'}:=.of_keeps (tk:=B4.toks) hk
 have i:=(z.ext x4).toA E.ha;have L:∀a,(a=s.heap.objs.size+1\/a=s.heap.objs.size)->B4.heap.get? a=Ao:=λa h=>HX (by rw[hz];exact(h.elim (λN=>(En (.v 0) (.v 1) [(1,.a (.v 0) (.k 1),.v 1)] rfl (Al N.symm))) (λN=>(Al N.symm))))
 have ge:∀a,(a=s.heap.objs.size+1\/a=s.heap.objs.size)->B4.heap.objs.size<=a:=λa h=>by rw[hz];exact(h.elim (λN=>(En (.v 0) (.v 1) [(1,.a (.v 0) (.k 1),.v 1)] rfl (Al N.symm))) (λN=>(Al N.symm)))
 have CH:∀a,(a=s.heap.objs.size+1\/a=s.heap.objs.size)->a≠Z.locals:=λa h q=>by
  obtain⟨o,e,_⟩:=z.rel.sl.frm_occ (a:=Z.locals) (.inl rfl);rw[<-q,L a h]at e;cases e
 have DD:∀a,(a=Z.locals\/a=s.heap.objs.size+1\/a=s.heap.objs.size)->Da h' a:=λa h=>by
  rcases h with h|h|h
  ·exact i.occ a h
  ·apply AO h;exact⟨_,he,rfl⟩
  ·obtain⟨o,e1,e2,_⟩:=G
   apply AO h;exact⟨o,e1,Iq ⟨_,e2⟩⟩
 have Ev:At T J mg mb s0 (C6 FK) sc (k+1) A (λa=>a=Z.locals\/a=s.heap.objs.size+1\/a=s.heap.objs.size) Z {B4 with heap:=h'} [] [] []:=
  ⟨E.ha,i.ok,⟨.inl rfl,λn c h=>by rw[C]at h;cases h⟩,i.bs,⟨λy d j hk=>(by cases j),.nil,i.rel.nodup,λb hb=>(by simp at hb),i.rel.sl⟩,DD,i.young⟩
 have P:h'.Ns Z.locals _:=let⟨o,es,ep,e1,r⟩:=F;⟨o,es,ep,hk _ _ e1,r⟩
 have E3:=((Ev.see (y:=0) (d:=.str x.cps.toList) (v:=.str x t) (.inl ⟨kl "addr" (iL rfl),_,P,by show(if("addr":Av)="escape" then _ else _)=_;rw[if_neg (by decide),if_neg (by decide)];exact hm⟩) (.str rfl)).see (y:=1) (d:=.int (.k 0)) (v:=.int 0 s.toks) (.inl ⟨kl "pos" (iL rfl),_,P,by show(if("pos":Av)="escape" then _ else _)=_;rw[if_neg (by decide),if_pos (by decide)]⟩) (.int rfl)).see (y:=2) (d:=.bool Ak) (.inl ⟨kl "escape" (iL rfl),_,P,by show(if("escape":Av)="escape" then _ else _)=_;rw[if_pos (by decide)]⟩) (.bool Ak)
 have gi:GI T J mg mb s0 sc (k+1) A Z (s.heap.objs.size+1) s.heap.objs.size x t 0 [(2,.bool Ak),(1,.int (.k 0)),(0,.str x.cps.toList)] {B4 with heap:=h'}:=⟨E3,⟨_,he⟩,G,λy d j=>by
  rw[H6]at j;split at j
  ·cases j;rfl
  ·rw[H6]at j;split at j
   ·cases j;rfl
   ·rw[H6]at j;split at j
    ·cases j;rfl
    ·cases j⟩
 have fL:∀a,D5 Z a->a=Z.locals:=λa h=>by
  rcases h with h|⟨n,h⟩
  ·exact h
  ·rw[C]at h;cases h
 have U:Co T (λa=>a=Z.locals\/a=s.heap.objs.size+1\/a=s.heap.objs.size) s {B4 with heap:=h'}:=
  (Bd.upd.trans ((Cf.mono λa h=>.inl (fL a h)).trans (Cx.mono λa h=>.inl (fL a h)))).trans x4.upd
 have E4:∀a,h'.get? a=Ao->s.heap.get? a=Ao:=λa h=>by
  have h3:=z.bs.free_at x4 a h;have h2:=Cx.free_back g.bs.tabs_ok (λb hb=>g.occ b (fL b hb)) h3
  exact Cf.free_back H.bs.tabs_ok (λb hb=>H.occ b (fL b hb)) h2
 refine tT Zj hS hT Q l R ⟨CH _ (.inl rfl),CH _ (.inr rfl),Nat.succ_ne_self _⟩ C (λa h=>⟨z.bs.free (L a h),λq=>AN _ (AG (ge a h) (z.bs.lt a q))⟩) M (its:=Jt Ak 0 x.cps.toList) (V5 X) (λt it bd=>tP X) ?_ x.cps.toList 0 Ak _ s _ [] rfl (Be _) gi rfl (λh=>by cases h) rfl U E4
 intro b Go AK Gt Iz u E5 l2 l1 Fn u5 F4;have D:∀a,Bu (C6 FK) fn 2 sc (.Name "pos" a) (.n 1)=Y:=λa=>by
  show(("pos":Av)==C6 FK 1&&Ko (sc.lookup ("pos":Av))&&("pos":Av) != ("__debug__":Av))=Y;rw[M "pos" (iL rfl)];decide+kernel
 have F0:∀a kk,Bu (C6 FK) fn 2 sc (.Constant (.str "\\") kk a) (.c (.str [92]))=Y:=λa kk=>by
  show Fq ("\\":Av).cps.toList [92]=Y
  decide+kernel
 have f:∀a,Bu (C6 FK) fn 1 sc (.Name "escape" a) (.n 2)=Y:=λa=>by
  show(("escape":Av)==C6 FK 2&&Ko (sc.lookup ("escape":Av))&&("escape":Av) != ("__debug__":Av))=Y;rw[M "escape" (iL rfl)];decide+kernel
 refine CW (Zh ?_)
 refine hT 1 ⟨V5 X,u.ok,u.bs,u.rel.rel,(λB h=>.inl h),u.occN⟩ (f _) l2 rfl λs6 x6=>?_
 have F5:=u.ext x6;have U6:=u5.trans (x6.upd (W:=λa=>a=Z.locals\/a=s.heap.objs.size+1\/a=s.heap.objs.size))
 have F6:∀a,s6.heap.get? a=Ao->AK.heap.get? a=Ao:=λa h=>F4 a (u.bs.free_at x6 a h)
 induction b with
 |true=>
  rw[if_pos rfl];refine CW ?_
  refine Zl F5 E5 (hS 2) (V5 X) Fn (D _) (F0 _ _) (l1 rfl) rfl U6 F6 rfl rfl Q l λS DK x' bs G0 F7=>?_
  exact CS (CS (seg_end (.ok (.ret .none)) (HB rfl (HB rfl .refl))))
 |false=>
  rw[if_neg AR];exact CS (CS (seg_end (.ok (.ret .none)) (HB rfl (HB rfl U6))))
structure iW(s0:Ah)(a:An)(fd:BA)(body:List Bx):Prop where
 at':∃o,s0.heap.get? a=V o/\o.data= .func fd
 lim:s0.heap.NoLimit
 rec':s0.heap.CodeRec fd.code fd.qualname
 body:fd.body= .stmts body
 clo:fd.closure=[]
 glob:fd.globals=Es
 bui:fd.builtins=Jf
 co:fd.scope.isCoroutine=Ak
 gen:fd.scope.isGenerator=Y
 kind:fd.scope.kind= .function
 names:Pr [] fd.scope.names=Y
theorem tW{a:An}{fd:BA}{body:List Bx}(P:k+1<=100)(F:iW s0 a fd body)(r:∀x∈fd.scope.names,x.2≠.cell)(g:Eo k A)(bs:Bs T mg mb s0 s){y:Av}{v:Ag}(G:Du fd ⟨[v],[]⟩=BU [(y,v)])(R:fd.scope.names.lookup y=V .local){Q:Ag->Ah->Prop}
  (q:∀(S:Ah) (Z:DS) (o:An) (m:Av->Option Ag),S.heap.IsGen o s.gens.size->S.gens=s.gens.push (.fresh (.func body Z))->(∀u H,Eo u H->At T J mg mb s0 B fd.scope.names u H (λa=>a=Z.locals) Z S [] [] [])->S.heap.Ns Z.locals m->m y=V v->
   Z.scope=fd.scope->Z.cells=[]->Z.locals=s.heap.objs.size->s.heap.objs.size<=o->BM T s S->Q (.ref o) S):
  Ap (Aq Aj w) A (DP (.ref a) [v]) Q E s:=by
 obtain⟨o,C,hd⟩:=F.at';obtain⟨U,X⟩:=SZ F.names;refine Hr (codeAny_call_generator (g.room (Bo P)) (bs.ext.keep2 a o C (JC (by rw[hd];rfl))) hd F.co F.gen F.body (YZ bs F.rec') ?_)
 rw[G];refine Ar ?_
 refine Pf r (λz hz=>?_) (λh'0 N D=>?_) F.kind
 ·simp only[Fk,Fh,or_false]at hz
  apply AO hz;exact R
 have keep:∀b o,s.heap.get? b=V o->h'0.get? b=V o:=λb o e=>D.extBut b o (Bn (AY e)) (Au _ e)
 refine⟨(bs.ext.nolimit F.lim).keeps keep,?_⟩
 have f:∀(b:An) (o:Fo) (l:Fo),s.heap.get? b=V o->(h'0.push l).get? b=V o:=λb o l e=>Au _ (keep b o e)
 have ext:∀(l:Fo) (tk:Nat),BM T s {s with heap:=h'0.push l,gens:=s.gens.push (.fresh (.func body (GO fd s.heap.objs.size a))),toks:=tk}:=λl tk=>
  ⟨λb o I e=>f b o l e,λb o e I=>f b o l e,λb I t=>t.keep (λc o I e=>f c o l e) (λo e=>f _ o l e),λi p=>(ID.push (G':=s.gens) ⟨λI I e=>e,λi x W e=>(by rw[GL W]at e;cases e)⟩ rfl).good i p,rfl⟩
 refine q _ (GO fd s.heap.objs.size a) _ _ ⟨_,_,_,Ay _ rfl,rfl,rfl,rfl⟩ rfl (λu H L=>?_) (N.push _) ?_ rfl F.clo rfl (by show _<=h'0.objs.size;apply AO D.1;rw[B6];exact DM _) (ext _ _)
 ·have sl:∀l,FV (GO fd s.heap.objs.size a) (h'0.push l):=λl=>⟨⟨_,N.push _⟩,λn c hm=>(by rw[show(GO fd s.heap.objs.size a).cells=[]from F.clo]at hm;cases hm),by apply AO (show(GO fd s.heap.objs.size a).cells=[]from F.clo);exact .nil⟩
  refine⟨L,⟨F.kind,rfl,F.glob,F.bui,λz hz=>?_⟩,⟨rfl,λn c hm=>(by rw[show(GO fd s.heap.objs.size a).cells=[]from F.clo]at hm;cases hm)⟩,bs.step (ext _ _),⟨λz d j P=>(by cases j),.nil,by simp,λb M=>(by simp at M),sl _⟩,λb h=>?_,⟨λb h=>?_,λb M=>(by simp at M)⟩⟩
  ·rcases hz with hz|hz
   ·exact absurd rfl (r _ (mem_of_lookup hz))
   ·have:=(U z .free (mem_of_lookup hz)).1 rfl;rcases this with h|h<;>cases h
  ·exact(sl _).frm_occ (s:={s with heap:=h'0.push _}) (.inl h)
  ·rcases h with h|⟨n,h⟩
   ·apply AO h;exact bs.free (HX (AI _))
   ·rw[show(GO fd s.heap.objs.size a).cells=[]from F.clo]at h;cases h
 ·show([(y,v)]:List (Av×Ag)).reverse.lookup y=V v;simp[Ji]
section
variable {Aj:Bh} {w:Ca} {A:A1} {E:Ag->Ah->Prop} {T:An->Prop} {J:Sg} {mg mb:Av->Option Ag} {s0 s S DK AK By B4:Ah} {k n fo g:Nat} {B fn:Nat->Av} {st:Cg} {Z:DS} {sc:List (Av×AC)} {ρ A6:List (Nat×D)} {ow Dh:List (Nat×Ae)} {OA Ck:List (List An)} {N2:An->Prop} {BD:An->Prop}
theorem At.setGen(x:At T J mg mb s0 B sc k A N2 Z s ρ ow OA)(i:s0.gens.size<=g)(F:st.bare=Y):At T J mg mb s0 B sc k A N2 Z (s.setGen g st) ρ ow OA:=⟨x.ha,x.ok,x.hm,x.bs.setGen i F,x.rel,x.occ,x.young⟩
def RL(Aj:Bh)(w:Ca)(A:A1)(T:An->Prop)(mg mb:Av->Option Ag)(s0:Ah)(BD:An->Prop)(its:List (Nat×List Nat))(g r:Nat)(S:Ah):Prop:=
 ∃gs,S.gens[g]?=V gs/\∀DK,Bs T mg mb s0 DK->(∀a o,BD a->S.heap.get? a=V o->DK.heap.get? a=V o)->gs.Goes (Aq Aj w) A.in1 (OQ T BD) (Og T mg mb s0 BD its) r (.send .none) DK
theorem RL.keep{its:List (Nat×List Nat)}{r:Nat}{W:An->Prop}(h:RL Aj w A T mg mb s0 BD its g r s)(u:Co T W s S)(p:∀a,BD a->¬W a)(i:∀a,BD a->Da s.heap a):RL Aj w A T mg mb s0 BD its g r S:=by
 obtain⟨gs,e,h⟩:=h;refine⟨gs,u.gens .at e,λDK bs P=>h DK bs λa o C j=>P a o C ?_⟩
 obtain⟨q,e2,t⟩:=i a C;rw[j]at e2;cases e2;exact u.keep2 a o (p a C) j t
theorem ID.trans{p G G':Array Cg}(U:ID p G)(j:ID G G'):ID p G':=by
 refine⟨λi x e=>j.keep i x (U.keep i x e),λi x r e=>?_⟩
 by_cases q:i<G.size
 ·have:=j.keep i G[i] (BO q);rw[e]at this;cases this;exact U.bare i _ r (BO q)
 ·exact j.bare i x (BI q) e
structure Oh(T BD:An->Prop)(g:Nat)(s S:Ah):Prop where
 keep:∀b o,¬T b->¬BD b->s.heap.get? b=V o->S.heap.get? b=V o
 keep2:∀b o,¬BD b->s.heap.get? b=V o->Hn o=Ak->S.heap.get? b=V o
 occ:∀b,Da s.heap b->Da S.heap b
 tab:∀b,T b->K6 s.heap b->K6 S.heap b
 gens:∀G0,ID G0 s.gens->G0.size<=g->ID G0 S.gens
 os:S.os=s.os
theorem Oh.upd{W:An->Prop}(y:Oh T BD g S DK)(x:Co T W s S)(r:∀a,BD a->s.heap.get? a=Ao)(A:s.gens.size<=g):Co T W s DK:=by
 have ne:∀b o,s.heap.get? b=V o->¬BD b:=λb o e q=>by rw[r b q]at e;cases e
 exact⟨λb o n w e=>y.keep b o n (ne b o e) (x.keep b o n w e),λb o w e t=>y.keep2 b o (ne b o e) (x.keep2 b o w e t) t,λb h=>y.occ b (x.occ b h),λb j h=>y.tab b j (x.tab b j h),λi p=>(y.gens _ (ID.of x.gens) A).good i p,y.os.trans x.os⟩
theorem Oh.bs(y:Oh T BD g s S)(b:Bs T mg mb s0 s)(i:∀a,BD a->s0.heap.get? a=Ao)(j:s0.gens.size<=g):Bs T mg mb s0 S:=by
 have u:=y.upd (b.ext.upd (W:=λz=>False)) i j
 exact⟨u.ext λa h=>h.elim,b.tabs,b.gl⟩
theorem iX{its:List (Nat×List Nat)}{r:Nat}{o:An}{gs:Cg}{Q:Option Ag->Ah->Prop}(bs:Bs T mg mb s0 s)(L:∀a,BD a->s0.heap.get? a=Ao)(N:s0.gens.size<=g)(M:A.handled=Ao)(j:s.heap.NoLimit)(l:A.depth<DQ)(z:s.heap.IsGen o g)(e:s.gens[g]?=V gs)
  (C:gs.Goes (Aq Aj w) A.in1 (OQ T BD) (Og T mg mb s0 BD its) r (.send .none) (s.setGen g .running))
  (D:∀S,r=0->Oh T BD g s S->Q Ao S)
  (X:∀S t p c y tk x,0<r->its[its.length-r]?=V (p,c)->s.heap.get? t=Ao->¬BD t->S.heap.get? t=V (HA #[.int (Fj p) tk,.str y x] 0)->y.cps.toList=c->Oh T BD g s S->(∀a,BD a->Da S.heap a)->RL Aj w A T mg mb s0 BD its g (r-1) S->Q (V (.ref t)) S):
  Ap (Aq Aj w) A (H9 (.ref o)) Q E s:=by
 have step:∀(AK:Ah) (st:Cg) (h':A9),Co T BD (s.setGen g .running) AK->st.bare=Y->(∀b o,AK.heap.get? b=V o->h'.get? b=V o)->Oh T BD g s {AK.setGen g st with heap:=h'}:=λAK st h' u F f=>
  ⟨λb o n w e=>f b o (u.keep b o n w e),λb o w e t=>f b o (u.keep2 b o w e t),λb h=>by obtain⟨o,e,t⟩:=u.occ b h;exact⟨o,f b o e,t⟩,λb R h=>(u.tab b R h).keep (λc o B e=>f c o e) (λo e=>f _ o e),
   λG0 h z=>((h.set (st:=.running) z rfl).trans (ID.of u.gens)).set z F,u.os⟩
 refine tM (P:=λn AK s=>n=0/\Co T BD AK s) (Ab:=Og T mg mb s0 BD its) M j l z e C (λv AK W F hv=>?_) (λAK hp h' f=>D _ hp.1 (step AK .finished h' hp.2 rfl f))
 obtain⟨⟨t,p,c,y,tk,x,rfl,U,G,H,h3,h4⟩,u,ho,i⟩:=hv;have d:0<r:=by
  induction r with
  |zero=>exact(i AK ((bs.setGen N rfl).upd u L) λB B B e=>e).elim
  |succ r=>exact Em r
 have m:its.length-1-(r-1)=its.length-r:=by rw[W2,El 1,Az d]
 rw[m]at U;have Ad:=step AK W AK.heap u F λB B e=>e
 refine X _ t p c y tk x d U G H h3 h4 Ad ho ⟨W,?_,λDK bs f=>?_⟩
 ·have k:g<s.gens.size:=(Array.getElem?_eq_some_iff.mp e).1;have U:(s.setGen g .running).gens[g]?=V .running:=by
   show(s.gens.setIfInBounds g .running)[g]?=_;rw[G9 k]
  have G:=u.gens .at U;have q:g<AK.gens.size:=(Array.getElem?_eq_some_iff.mp G).1;show(AK.gens.setIfInBounds g W)[g]?=_;rw[G9 q]
 ·have:=i DK bs f
  induction r with
  |zero=>exact(AN _ d).elim
  |succ r=>exact this
end
section
variable {Aj:Bh} {w:Ca} {A:A1} {E:Ag->Ah->Prop} {T:An->Prop} {J:Sg} {mg mb:Av->Option Ag} {s0 s S DK AK By B4:Ah} {k n fo g:Nat} {B fn:Nat->Av} {st:Cg} {Z:DS} {sc:List (Av×AC)} {ρ A6:List (Nat×D)} {ow Dh:List (Nat×Ae)} {OA Ck:List (List An)} {N2:An->Prop} {BD:An->Prop} {W:An->Prop}
theorem Oh.updH(y:Oh T BD g s S):Co T BD s {S with gens:=s.gens}:=⟨y.keep,y.keep2,y.occ,y.tab,λz p=>p,y.os⟩
theorem Zm{o:An}(h:s.heap.IsGen o g)(P:∀b x,¬BD b->s.heap.get? b=V x->Hn x=Ak->S.heap.get? b=V x)(C:¬BD o):S.heap.IsGen o g:=by
 obtain⟨x,a,b,e,c,r⟩:=h;exact⟨x,a,b,P _ _ C e (Iq ⟨_,c⟩),c,r⟩
structure tY(Aj:Bh)(w:Ca)(A:A1)(T:An->Prop)(mg mb:Av->Option Ag)(s0:Ah)(its:List (Nat×List Nat))(s AK:Ah)(o g:Nat)(BD:An->Prop)(gs:Cg):Prop where
 isg:AK.heap.IsGen o g
 new:s.gens.size<=g
 at':AK.gens[g]?=V gs
 free:∀a,BD a->s.heap.get? a=Ao
 apart:¬BD o
 ofree:s.heap.get? o=Ao
 ext:BM T s AK
 goes:gs.Goes (Aq Aj w) A.in1 (OQ T BD) (Og T mg mb s0 BD its) its.length (.send .none) (AK.setGen g .running)
structure iY(Aj:Bh)(w:Ca)(T:An->Prop)(J:Sg)(mg mb:Av->Option Ag)(s0:Ah)(B:Nat->Av)(sc:List (Av×AC))(k:Nat)(A:A1)(N2 BD:An->Prop)(Z:DS)(OA:List (List An))(its:List (Nat×List Nat))
  (f:D->List (Nat×D)->List (Nat×Ae)->Option Dq)(Bv:Dq)(s:Ah)(o g:Nat)(m:Nat)(S:Ah)(A6:List (Nat×D))(Dh:List (Nat×Ae))(Ck:List (List An)):Prop where
 le:m<=its.length
 rest:JD f ((La its).drop (its.length-m)) A6 Dh=V Bv
 isg:S.heap.IsGen o g
 gen:RL Aj w A T mg mb s0 BD its g m S
 at':At T J mg mb s0 B sc k A (λa=>N2 a\/BD a\/a=o) Z S A6 Dh Ck
 new:∀a∈Ck.flatten,a∈OA.flatten\/s.heap.get? a=Ao
 upd:Co T (λa=>D5 Z a\/a∈OA.flatten) s S
theorem tZ{its:List (Nat×List Nat)}{i p:Nat}{c:List Nat}(h:its[i]?=V (p,c)):(La its)[i]?=V (.tup [.int (.k (.ofNat p)),.str c]):=by
 unfold La;rw[EU,h];rfl
theorem Zn{m l:Nat}(h:0<m)(G:m<=l):m-1<m/\m-1<=l/\l-(m-1)=l-m+1:=match m,h with
 |m+1,_=>⟨Ct m,Bo G,(KX (Oq G)).symm⟩
theorem At.loopG(x:At T J mg mb s0 B sc k A N2 Z s ρ ow OA)(hk:k<=100)(F0:s0.heap.NoLimit)(It:EA B){tgt Q:Expr}{pos:B9}{stmts:List Bx}{t:List Nat}{CZ:Bool}{its:List (Nat×List Nat)}{Bv:Dq}
  {gg:List (Nat×D)->List (Nat×Ae)->Option Dq}(IS:LF B sc tgt t CZ=Y)(I0:∀y∈t,FJ sc (B y)=Y)(hset:∀v,B1 Q Z v=BU v)
  (F3:∀(E':Ag->Ah->Prop) (Q':Ag->Ah->Prop),(∀o g BD gs AK,tY Aj w A T mg mb s0 its s AK o g BD gs->Q' (.ref o) AK)->Ap (Aq Aj w) A (Bj Q Z) Q' E' s)
  (F4:∀(Js:An->Prop) (S:Ah) (A6:List (Nat×D)) (Dh:List (Nat×Ae)) (Ck:List (List An)) (C:Dq) (E':Ag->Ah->Prop),At T J mg mb s0 B sc k A Js Z S A6 Dh Ck->gg A6 Dh=V C->
   Ap (Aq Aj w) A (C4 stmts Z) (GF T J B Js Z Ck S C) E' S)
  (Bd:JD (JE gg t CZ) (La its) ρ ow=V Bv):Ap (Aq Aj w) A (EB (.For tgt Q stmts [] pos) Z) (GF T J B N2 Z OA s Bv) E s:=by
 have GI:(La its).length=its.length:=by unfold La;rw[BS]
 have Bs:A.depth<DQ:=x.ha.room hk;refine wpAny_For (F3 _ _ λo g BD gs AK G=>?_) hset
 refine wpAny_pyIter_gen G.isg ?_
 have E5:s0.gens.size<=g:=Am (ID.of x.bs.ext.gens).size G.new;have Ce:∀a,BD a->s0.heap.get? a=Ao:=λa h=>x.bs.free (G.free a h)
 have Cf:∀a,(BD a\/a=o)->s.heap.get? a=Ao:=λa h=>h.elim (G.free a) λh=>h▸G.ofree
 have j:∀a,D5 Z a->¬(BD a\/a=o):=λa f q=>by
  obtain⟨o,e,_⟩:=x.rel.sl.frm_occ f;exact nS ((Cf a q).symm.trans e)
 have I4:∀(S B4:Ah) (A6:List (Nat×D)) (Dh:List (Nat×Ae)) (Ck:List (List An)),EQ T J B (λa=>N2 a\/BD a\/a=o) Z S.heap A6 Dh Ck->(∀a∈Ck.flatten,a∈OA.flatten\/s.heap.get? a=Ao)->
   Co T (λa=>D5 Z a\/a∈OA.flatten) s S->Oh T BD g S B4->Ek T J B N2 Z OA s B4 A6 Dh Ck:=λS B4 A6 Dh Ck hr hn hu hg=>by
  have r:=hr.narrow (hg.updH.gone.mono λz h=>.inl h) j
  exact⟨r,hn,hg.upd hu G.free G.new⟩
 have F1:∀(B4:Ah) (m:Nat) (A6:List (Nat×D)) (Dh:List (Nat×Ae)) (Ck:List (List An)) (tt p:Nat) (c:List Nat) (y:Av) (tk U:Ez) (E':Ag->Ah->Prop),0<m->m<=its.length->JD (JE gg t CZ) ((La its).drop (its.length-m)) A6 Dh=V Bv->its[its.length-m]?=V (p,c)->
   ¬Dt (λa=>N2 a\/BD a\/a=o) Ck tt->B4.heap.get? tt=V (HA #[.int (Fj p) tk,.str y U] 0)->y.cps.toList=c->B4.heap.IsGen o g->RL Aj w A T mg mb s0 BD its g (m-1) B4->
   At T J mg mb s0 B sc k A (λa=>N2 a\/BD a\/a=o) Z B4 A6 Dh Ck->(∀a∈Ck.flatten,a∈OA.flatten\/s.heap.get? a=Ao)->Co T (λa=>D5 Z a\/a∈OA.flatten) s B4->
   Ap (Aq Aj w) A (Dd tgt (.ref o) (.ref tt)) (λz Lc=>Ap (Aq Aj w) A (QX tgt Z (.ref tt)) (λz F5=>Ap (Aq Aj w) A (C4 stmts Z) (λfl s6=>match fl with
      | .next| .cont=>∃m',m'<m/\((m'=its.length/\s6=AK)\/∃A6 Dh Ck,iY Aj w T J mg mb s0 B sc k A N2 BD Z OA its (JE gg t CZ) Bv s o g m' s6 A6 Dh Ck)
      | .brk=>GF T J B N2 Z OA s Bv .next s6
      | .ret v=>GF T J B N2 Z OA s Bv (.ret v) s6) E' F5) E' Lc) E' B4:=by
  intro B4 m A6 Dh Ck tt p c y tk U E' hm F6 i Cx hN hT hy G0 CH F hnew DD;obtain⟨og,_,_,e1,e2,_⟩:=id G0;refine Rm e1 e2 rfl ?_
  have rv:Rd J (Dt (λa=>N2 a\/BD a\/a=o) Ck) B4.heap (.ref tt) (.tup [.int (.k (.ofNat p)),.str c]):=.tup (I:=[.int (Fj p) tk,.str y U]) (n:=0) hN hT (.cons (.int rfl) (.cons (.str hy) .nil))
  have hd:=tZ Cx;rw[Yp hd]at i;obtain⟨C,F7,i⟩:=gH i;obtain⟨Fn,Lt,hb,hg⟩:=gI F7;have M:=F.less (A6:=Dn t A6) λz z h=>S7 h
  refine M.assign It (λy hy=>⟨I0 y hy,Rx Fn y hy⟩) rv IS hb λF5 Gl=>?_
  refine AM (F4 _ F5 Lt Dh Ck C _ (M.post Gl) hg) (λfl s6 Hd=>?_) λz z e=>e
  have Ev:∀a,(D5 Z a\/a∈Ck.flatten)->(D5 Z a\/a∈OA.flatten)\/s.heap.get? a=Ao:=λa h=>by
   rcases h with h|h
   ·exact .inl (.inl h)
   ·exact(hnew a h).elim (λh=>.inl (.inr h)) .inr
  induction C with
  |next Bt LA=>
   obtain⟨rfl,LC,p6⟩:=Hd;have P:=Gl.trans M.bs M.rel p6;have Go:∀a,BD a->¬(D5 Z a\/a∈Ck.flatten):=λa ho h=>by
    rcases h with h|h
    ·exact j a h (.inl ho)
    ·exact(F.rel.apart a h).1 (.inr (.inl ho))
   refine⟨m-1,(Zn hm F6).1,.inr ⟨Bt,LA,LC,(Zn hm F6).2.1,?_,?_,CH.keep P.upd Go λa h=>F.occ a (.inr (.inl h)),M.post P,λa h=>?_,DD.seq P.upd Ev⟩⟩
   ·rw[(Zn hm F6).2.2];exact i
   ·refine Zm G0 (λb x hb e tb=>P.upd.keep2 b x hb e tb) λq=>?_
    rcases q with q|q
    ·exact j o q (.inr rfl)
    ·exact(F.rel.apart o q).1 (.inr (.inr rfl))
   ·rcases P.new a h with h|h
    ·exact hnew a h
    ·exact .inr (DD.free_back x.bs.tabs_ok x.rel.w_occ h)
  |ret dr=>
   apply CE (show Dq.ret dr=Bv from i)
   obtain⟨vr,hv,hr,ur⟩:=Hd;subst hv;exact⟨vr,rfl,hr.mono λa o hn e z=>⟨λh=>hn (.inl h),e⟩,(DD.seq Gl.upd Ev).seq ur Ev⟩
 refine PV (λm S=>(m=its.length/\S=AK)\/∃A6 Dh Ck,iY Aj w T J mg mb s0 B sc k A N2 BD Z OA its (JE gg t CZ) Bv s o g m S A6 Dh Ck) (λm S=>?_) its.length (.inl ⟨rfl,rfl⟩)
 rintro(⟨rfl,rfl⟩|⟨A6,Dh,Ck,L⟩)
 ·
  have HC:=x.bs.step G.ext;refine iX HC Ce E5 x.ha.handled (HC.ext.nolimit F0) Bs G.isg G.at' G.goes (λB4 h0 Ad=>?_) λB4 tt p c y tk U E3 Cx E4 Fn hT hy Ad F2 CH=>?_
  ·have u:Co T (λz=>False) s B4:=Ad.upd (G.ext.upd (W:=λz=>False)) G.free G.new
   have e:BM T s B4:=u.ext λa h=>h.elim
   have:La its=[]:=by
    have:its=[]:=C8 h0
    apply AO this;rfl
   rw[this]at Bd
   apply CE (sI Bd)
   exact Bz ⟨rfl,OA,⟨x.rel.ext e,λa h=>.inl h,e.upd⟩⟩
  ·have u:Co T (λz=>False) s B4:=Ad.upd (G.ext.upd (W:=λz=>False)) G.free G.new
   have e:BM T s B4:=u.ext λa h=>h.elim
   have X:=Zm G.isg Ad.keep2 G.apart;have HF:∀a,(N2 a\/BD a\/a=o)->Da B4.heap a:=λa h=>by
    rcases h with h|h|h
    ·exact(x.occ a h).ext e
    ·exact F2 a h
    ·obtain⟨b,_,_,e1,e2,_⟩:=X
     apply AO h;exact⟨b,e1,Iq ⟨_,e2⟩⟩
   have F:At T J mg mb s0 B sc k A (λa=>N2 a\/BD a\/a=o) Z B4 ρ ow OA:=
    ⟨x.ha,x.ok,⟨.inl x.hm.loc,λn c h=>.inl (x.hm.cel n c h)⟩,x.bs.step e,x.rel.widen Cf e,HF,x.young⟩
   refine F1 B4 its.length ρ ow OA tt p c y tk U _ E3 (AI _) (by rw[II,C7];exact Bd) Cx ?_ hT hy X CH F (λa h=>.inl h) e.upd
   intro h;have If:∀a,Da s.heap a->a≠tt:=λa h q=>by
    obtain⟨o',e1,t1⟩:=h;have:=G.ext.keep2 a o' e1 t1;rw[q,E4]at this;cases this
   rcases h with(h|h|h)|h
   ·exact If _ (x.occ _ h) rfl
   ·exact Fn h
   ·obtain⟨b,_,_,e1,_⟩:=G.isg;rw[h,e1]at E4;cases E4
   ·exact If _ (x.rel.own.occ _ h) rfl
 ·obtain⟨LS,e',Il⟩:=L.gen;refine iX L.at'.bs Ce E5 x.ha.handled (L.at'.bs.ext.nolimit F0) Bs L.isg e' (Il _ (L.at'.bs.setGen E5 rfl) λz z z e=>e) (λB4 h0 Ad=>?_) λB4 tt p c y tk U E3 Cx E4 Fn hT hy Ad F2 CH=>?_
  ·have i:=L.rest;rw[h0,GY,<-GI,I1]at i
   apply CE (sI i)
   exact Bz ⟨rfl,Ck,I4 S B4 A6 Dh Ck L.at'.rel L.new L.upd Ad⟩
  ·have Gt:∀a,(N2 a\/BD a\/a=o)->Da B4.heap a:=λa h=>Ad.occ a (L.at'.occ a h)
   have X:=Zm L.isg Ad.keep2 G.apart;have Is:EQ T J B (λa=>N2 a\/BD a\/a=o) Z B4.heap A6 Dh Ck:=by
    have u:=Ad.updH;have f:FU (Dt (λa=>N2 a\/BD a\/a=o) Ck) (Dt (λa=>N2 a\/BD a\/a=o) Ck) S.heap B4.heap:=u.fits (N:=Dt (λa=>N2 a\/BD a\/a=o) Ck) λa h=>.inl (.inr (.inl h))
    have h1:¬BD Z.locals:=λq=>j _ (.inl rfl) (.inl q)
    have h2:∀n c,(n,c)∈Z.cells->¬BD c:=λn c hm q=>j _ (.inr ⟨n,hm⟩) (.inl q)
    have r:=L.at'.rel;show EQ T J B (λa=>N2 a\/BD a\/a=o) Z ({B4 with gens:=S.gens}:Ah).heap A6 Dh Ck
    exact⟨r.one.upd u (λa h=>.inl (.inr (.inl h))) h1 h2,r.own.mono f (λz z h=>DH.upd (S:={B4 with gens:=S.gens}) u h h1 h2) (λb hO hb=>by obtain⟨o,e,t⟩:=hO;exact(u.keep2 b o (λq=>(r.apart b hb).1 (.inr (.inl q))) e t).trans e.symm),r.nodup,r.apart,FV.upd (S:={B4 with gens:=S.gens}) r.sl u h1 h2⟩
   have F:At T J mg mb s0 B sc k A (λa=>N2 a\/BD a\/a=o) Z B4 A6 Dh Ck:=
    ⟨x.ha,x.ok,L.at'.hm,Ad.bs L.at'.bs Ce E5,Is,Gt,L.at'.young⟩
   refine F1 B4 m A6 Dh Ck tt p c y tk U _ E3 L.le L.rest Cx ?_ hT hy X CH F L.new (Ad.upd L.upd G.free G.new)
   intro h;obtain⟨o',e1,_⟩:=L.at'.occN _ h;exact nS (E4.symm.trans e1)
end
variable {By B4:Ah} {g:Nat}
theorem iZ:I9 Aj w T J mg mb s0 fn (λz z=>Ao) k:=⟨λz z z z h=>(by cases h),λz z z h=>(by intro q;cases q),λz z z z h=>(by cases h)⟩
theorem t5{x:Av}{str:List Nat}(e:x.cps.toList=str)(h:IP str=Y):x.cps.all (· <128)=Y:=by
 rw[Array.all_eq_true_iff_forall_mem];intro c E;have:=XJ h c (by apply CE e;exact Array.mem_toList_iff.mpr E)
 simpa using this
theorem t7(hk:k+3<=100)(C:∀n,(J.v n).natAbs<=2^1000){a:An}{fd:BA}(Bd:mg "_iter_escaped_chars"=V (.ref a))
  (F:iW s0 a fd RK)
  (r:∀x∈fd.scope.names,x.2≠.cell)(u:∀v,Du fd ⟨[v],[]⟩=BU [(("addr":Av),v)])(hn:∀y∈FK,fd.scope.names.lookup y=V .local)
  (Bs:fd.scope.names.lookup ("enumerate":Av)=V .globalImplicit)(g1:mg "enumerate"=Ao)(g2:mb "enumerate"=V (.type "enumerate")):gJ Aj w T J mg mb s0 k:=by
 intro A E B Z sc N2 s ρ ow OA tgt np cp pos e stmts t CZ str Bv gg x Ce Cf g Cx U CH DD i H;refine x.loopG (EJ (.v 0) (.k 100) [(1,.a (.v 0) (.k 3),.k 100)] rfl hk) F.lim Ce CH DD (λv=>rfl) (λE' Q' q=>?_) i H
 obtain⟨of,Ev,p⟩:=F.at';have D:Hn of=Ak:=JC (by rw[p];rfl)
 have z:Z.kindOf ("_iter_escaped_chars":Av)=V .globalImplicit:=by rw[x.ok.kindOf];exact Cf
 refine AX (Bl x.ok.kind z (CJ (x.ok.glob▸x.bs.ng) Bd ?_) (by decide))
 refine Ba (o:=of) (fd:=fd) (Ng g ?_)
 rw[Fa g];refine Ax (Cx _ _ λxs tk AK W L=>AF ?_)
 have G:=x.bs.step W;refine⟨⟨W.keep2 a of (x.bs.ext.keep2 a of Ev D) D,p⟩,?_⟩
 refine tW (J:=J) (B:=C6 FK) (EJ (.a (.v 0) (.k 1)) (.k 100) [(1,.a (.v 0) (.k 3),.k 100)] rfl hk) F r x.ha G (u _) (hn _ (iL rfl)) λS Q o m M l E3 N hm f E4 P E5 x'=>?_
 have xx:BM T s S:=W.trans x';have hz:∀b,Da S.heap b->b<S.heap.objs.size:=λb h=>h.lt
 have j:∀b,S.heap.get? b=Ao->s.heap.get? b=Ao:=x.bs.free_at xx;have hS:∀n,D0 Aj w T J mg mb s0 (C6 FK) (λI=>"?") (λI I=>Ao) (k+2) n:=λn=>(Rq (fn:=λI=>"?") (k:=k+2) (EJ (.a (.v 0) (.k 2)) (.k 100) [(1,.a (.v 0) (.k 3),.k 100)] rfl hk) Zj C (iZ (Aj:=Aj) (w:=w) (T:=T) (mg:=mg) (mb:=mb) (s0:=s0)) n).1
 have hT:∀n,HZ Aj w T J mg mb s0 (C6 FK) (λI=>"?") (λI I=>Ao) (k+2) n:=λn=>(Rq (fn:=λI=>"?") (k:=k+2) (EJ (.a (.v 0) (.k 2)) (.k 100) [(1,.a (.v 0) (.k 3),.k 100)] rfl hk) Zj C (iZ (Aj:=Aj) (w:=w) (T:=T) (mg:=mg) (mb:=mb) (s0:=s0)) n).2
 have R:Eo (k+1) A.in1:=tO x.ha;have hsz:AK.gens.size<S.gens.size:=by rw[l];simp
 have X:=tV (fn:=λI=>"?") (s:=S.setGen AK.gens.size .running) R hS hT ((E3 (k+2) A.in1 (R.mono (EJ (.a (.v 0) (.k 1)) (.a (.v 0) (.k 2)) [] rfl))).setGen (ID.of G.ext.gens).size rfl) N hm (by rw[f];exact F.co) (by unfold DT;rw[f,F.kind];rfl) (t5 L U) E4 hn Bs g1 g2
 have e1:(S.setGen AK.gens.size .running).heap=S.heap:=rfl;rw[L,e1]at X;obtain⟨og,_,_,i1,i2,i3,_⟩:=id M;refine q o AK.gens.size (λa=>a=Q.locals\/a=S.heap.objs.size+1\/a=S.heap.objs.size) (.fresh (.func RK Q)) S ⟨M,(ID.of W.gens).size,?_,λb c=>?_,λc=>?_,?_,xx,⟨rfl,X⟩⟩
 ·rw[l];simp
 ·rcases c with c|c|c
  ·apply AO c;rw[P];exact x.bs.free_at W _ (HX (AI _))
  ·exact j _ (HX (by apply AO c;exact DM _))
  ·exact j _ (HX (Al c.symm))
 ·rcases c with c|c|c
  ·obtain⟨ob,es,ep,eb,d,_⟩:=N;rw[<-c,i1]at eb;cases eb;rw[i3]at d;cases d
  ·exact absurd (AY i1) (by apply AO c;exact Nat.not_lt.mpr (DM _))
  ·exact absurd (AY i1) (by apply AO c;exact AN _)
 ·exact x.bs.free_at W _ (HX E5)
section
variable {C:Nat->List D->Option D} {n:Nat} {ρ:List (Nat×D)} {ow:List (Nat×Ae)} {r:List Ad}
theorem Qx{x:Nat}{e:M}{d:D}(h:ev C n ρ (CU ow) e=V d)(a:J4 [x] ow=Y):CL C (n+1) (.asg [x] Y e::r) ρ ow=CL C n r ((x,d)::Dn [x] ρ) ow:=by
 show BG (ev C n ρ (CU ow) e) _=_;rw[h];show CB (J4 [x] ow) _=_;rw[a];rfl
theorem Np{c:M}{a b:List Ad}{t:Bool}(h:ev C n ρ (CU ow) c=V (.bool t)):CL C (n+1) (.ite c a b::r) ρ ow=HM (CL C n (bI t a b) ρ ow) (CL C n r):=by
 show BG (ev C n ρ (CU ow) c) _=_;rw[h];rfl
theorem Zo{x:Nat}{e:M}{d:D}{O:List D}(h:ev C n ρ (CU ow) e=V d)(j:lk x ow=V (.lst O))(i:AS O=Y):CL C (n+1) (.app x e::r) ρ ow=CL C n r ρ (HL x (.lst (O++[d])) ow):=by
 show BG (ev C n ρ (CU ow) e) _=_;rw[h];show BG (lk x ow) _=_;rw[j];show CB (AS O) _=_;rw[i];rfl
theorem Tp{t:List Nat}{CZ:Bool}{k:Nat}{it:List M}{body:List Ad}{O items:List D}{o:Option Dq}(h:Gs (ev C n ρ (CU ow)) it=V O)(T:Nl k O=V items)(a:JD (JE (CL C n body) t CZ) items ρ ow=o):
  CL C (n+1) (.loop t CZ k it body::r) ρ ow=HM o (CL C n r):=by
 show BG (Gs (ev C n ρ (CU ow)) it) _=_;rw[h];show BG (Nl k O) _=_;rw[T];apply CE a;rfl
theorem Qy{e:M}{d:D}(h:ev C n ρ (CU ow) e=V d):CL C (n+1) (.ret e::r) ρ ow=V (.ret d):=by
 show BG (ev C n ρ (CU ow) e) _=_;rw[h];rfl
theorem Tq{f:D->List (Nat×D)->List (Nat×Ae)->Option Dq}{d:D}{l:List D}{A6:List (Nat×D)}{Dh:List (Nat×Ae)}(h:f d ρ ow=V (.next A6 Dh)):JD f (d::l) ρ ow=JD f l A6 Dh:=by
 show BG (f d ρ ow) _=_;rw[h];rfl
theorem i0{f:D->List (Nat×D)->List (Nat×Ae)->Option Dq}{d e:D}{l:List D}(h:f d ρ ow=V (.ret e)):JD f (d::l) ρ ow=V (.ret e):=by
 show BG (f d ρ ow) _=_;rw[h];rfl
theorem t9{f:List (Nat×D)->List (Nat×Ae)->Option Dq}:HM (V (.next ρ ow)) f=f ρ ow:=rfl
theorem i5{t:List Nat}(h:IP t=Y):Nl 3 [.str t]=V (La (Jt Ak 0 t)):=by
 show CB (IP t) _=_;rw[h];rfl
end
theorem i6(a b:Nat):Q7 (.k (.ofNat a)) (.k (.ofNat b))=V (As a b):=by
 show(match As a b with|true=>V Y|false=>V (As a b))=_
 cases As a b<;>rfl
theorem ua(a b:Nat):Vj .Eq (.int (.k (.ofNat a))) (.int (.k (.ofNat b)))=V (As a b):=i6 a b
theorem ub(a b:Nat):Vj .NotEq (.int (.k (.ofNat a))) (.int (.k (.ofNat b)))=V (!As a b):=congrArg (Option.map (!·)) (i6 a b)
theorem J6{x:Nat}{ts:List Nat}(h:NT x ts=Ak){ρ:List (Nat×D)}:lk x (Dn ts ρ)=lk x ρ:=by
 induction ρ with
 |nil=>rfl
 |cons p r ih=>
  show lk x (bI (NT p.1 ts) (Dn ts r) (p::Dn ts r))=_;cases hm:NT p.1 ts with
  |true=>
   rw[show lk x (p::r)=lk x ((p.1,p.2)::r)from rfl,H6];apply AO (if_neg λe=>(by rw[<-e,h]at hm;exact bT hm.symm))
   exact ih
  |false=>
   show lk x ((p.1,p.2)::Dn ts r)=lk x ((p.1,p.2)::r);rw[H6,H6,ih]
noncomputable def V6:List Ad:=[.ite (.cmp (.n 5) [(.Eq,.c (.str [34]))]) [.ite (.cmp (.n 2) [(.Is,.c .none)]) [.asg [2] Y (.n 4)]
 [.ite (.cmp (.n 1) [(.NotEq,.n 2)]) [.app 3 (.sl (.n 0) (V (.n 1)) (V (.n 2)))] [],.asg [1] Y (.bin .Add (.n 4) (.c (.int (.k 1)))),.asg [2] Y (.c .none)]] []]
noncomputable def i7:List Ad:=[.ite (.cmp (.c (.str [34])) [(.NotIn,.n 0)]) [.ret (.n 0)] [],.asg [1] Y (.c (.int (.k 0))),.asg [2] Y (.c .none),.anew 3 (.lst []),
 .loop [4,5] Ak 3 [.n 0] V6,.ite (.cmp (.n 1) [(.Lt,.bi 0 [.n 0])]) [.app 3 (.sl (.n 0) (V (.n 1)) Ao)] [],.frz 3,.ret (.me 0 (.c (.str [])) [.n 3])]
structure SI where
 s:Nat
 o:Option Nat
 a:List (List Nat)
noncomputable def Zp(t:List Nat)(p:Nat)(x:SI)(q:Nat):Option SI:=match As x.s q with
 |true=>V ⟨p+1,Ao,x.a⟩
 |false=>CB (AS x.a&&(AS t&&(A3 x.s q&&A3 q t.length))) (V ⟨p+1,Ao,x.a++[Lz t x.s q]⟩)
noncomputable def uc(t:List Nat)(p:Nat)(x:SI)(o:Option Nat):Option SI:=match o with
 |none=>V ⟨x.s,V p,x.a⟩
 |some q=>Zp t p x q
noncomputable def Zq(t:List Nat)(p:Nat)(c:List Nat)(x:SI):Option SI:=match Fq c [34]with
 |false=>V x
 |true=>uc t p x x.o
noncomputable def Zr(t:List Nat):List (Nat×List Nat)->SI->Option SI
 |[],x=>V x
 |pc::r,x=>BG (Zq t pc.1 pc.2 x) (Zr t r)
noncomputable def i8(t:List Nat)(x:SI):Option (List (List Nat)):=match Bf x.s t.length with
 |true=>CB (AS x.a&&(AS t&&A3 x.s t.length)) (V (x.a++[t.drop x.s]))
 |false=>V x.a
noncomputable def Tr(t:List Nat):Option (List Nat):=CB (AS t&&IP t) (match OG 34 t with
  |false=>V t
  |true=>BG (Zr t (Jt Ak 0 t) ⟨0,Ao,[]⟩) λx=>BG (i8 t x) λacc=>CB (AS acc&&A3 (K5 [] acc).length lim) (V (K5 [] acc)))
noncomputable def oD(o:Option Nat):D:=match o with
 |none=>.none
 |some q=>.int (.k (.ofNat q))
structure V7(t:List Nat)(x:SI)(ρ:List (Nat×D)):Prop where
 a:lk 0 ρ=V (.str t)
 b:lk 1 ρ=V (.int (.k (.ofNat x.s)))
 c:lk 2 ρ=V (oD x.o)
theorem Zs{z Q:Type}{f:z->Q}{l:List z}(h:AS l=Y):AS (l.map f)=Y:=by
 show A3 (l.map f).length lim=Y;rw[BS];exact h
theorem ud(l:List (List Nat)):Rf (l.map .str)=V l:=by
 induction l with
 |nil=>rfl
 |cons a r ih=>
  show BG (Rf (r.map .str)) _=_;rw[ih];rfl
noncomputable abbrev LI(x:SI):List (Nat×Ae):=[(3,.lst (x.a.map .str))]
section
variable {C:Nat->List D->Option D} {t:List Nat} {p:Nat} {c:List Nat} {ρ:List (Nat×D)}
theorem i9{a:List D}(l0:lk 0 ρ=V (.str t)):FC (λA6=>CL C 17 [.asg [1] Y (.bin .Add (.n 4) (.c (.int (.k 1)))),.asg [2] Y (.c .none)] ((5,.str c)::(4,.int (.k (.ofNat p)))::ρ) [(3,.lst a)]=V (.next A6 [(3,.lst a)])) λA6=>∀b,V7 t ⟨p+1,Ao,b⟩ A6:=by
 refine⟨_,rfl,λz=>⟨?_,?_,rfl⟩⟩
 ·show lk 0 (Dn [2] ((1,D.int (.k (.ofNat (p+1))))::Dn [1] ((5,.str c)::(4,.int (.k (.ofNat p)))::ρ)))=_;rw[J6 rfl];show lk 0 (Dn [1] ((5,.str c)::(4,.int (.k (.ofNat p)))::ρ))=_;rw[J6 rfl];exact l0
 ·show lk 1 (Dn [2] ((1,D.int (.k (.ofNat (p+1))))::Dn [1] ((5,.str c)::(4,.int (.k (.ofNat p)))::ρ)))=_;rw[J6 rfl];rfl
theorem ja{o:Option Dq}{A6:List (Nat×D)}{Dh:List (Nat×Ae)}{f g:List (Nat×D)->List (Nat×Ae)->Option Dq}(C:o=V (.next A6 Dh))(t:∀ρ ow,f ρ ow=V (.next ρ ow))(a:∀ρ ow,g ρ ow=V (.next ρ ow)):HM (HM o f) g=V (.next A6 Dh):=by
 apply AO C
 show HM (f A6 Dh) g=_;rw[t];exact a _ _
theorem ue{a b:Nat}(h:(AS t&&(A3 a b&&A3 b t.length))=Y):Re (.str t) (V (.int (.k (.ofNat a)))) (V (.int (.k (.ofNat b))))=V (.str (Lz t a b)):=by
 show CB (AS t&&(A3 a b&&A3 b t.length)) _=_;rw[h];rfl
theorem uf{a:Nat}(h:(AS t&&A3 a t.length)=Y):Re (.str t) (V (.int (.k (.ofNat a)))) Ao=V (.str (t.drop a)):=by
 show CB (AS t&&A3 a t.length) _=_;rw[h];rfl
theorem ug{x y:SI}(l0:lk 0 ρ=V (.str t))(l1:lk 1 ρ=V (.int (.k (.ofNat x.s))))(l2:lk 2 ρ=V (oD x.o))(i:Zq t p c x=V y):
  FC (λA6=>CL C 20 V6 ((5,.str c)::(4,.int (.k (.ofNat p)))::ρ) (LI x)=V (.next A6 (LI y))) λA6=>V7 t y A6:=by
 obtain⟨xs,o,b⟩:=x;have U:ev C 19 ((5,.str c)::(4,.int (.k (.ofNat p)))::ρ) (CU (LI ⟨xs,o,b⟩)) (.cmp (.n 5) [(.Eq,.c (.str [34]))])=V (.bool (Fq c [34])):=rfl;show FC (λA6=>CL C (19+1) (.ite _ _ _::_) _ _=_) _
 rw[Np U];unfold Zq at i;cases r:Fq c [34]with
 |false=>
  rw[r]at i
  apply CE (sI i)
  exact⟨_,rfl,l0,l1,l2⟩
 |true=>
  rw[r]at i
  induction o with
  |none=>
   have G:ev C 18 ((5,.str c)::(4,.int (.k (.ofNat p)))::ρ) (CU (LI ⟨xs,Ao,b⟩)) (.cmp (.n 2) [(.Is,.c .none)])=V (.bool Y):=(H2 l2).trans rfl
   apply CE (sI i)
   show FC (λA6=>HM (CL C (18+1) (.ite _ _ _::_) _ _) _=_) _
   rw[Np G];refine⟨_,rfl,?_,?_,rfl⟩
   ·show lk 0 (Dn [2] ((5,.str c)::(4,.int (.k (.ofNat p)))::ρ))=_;rw[J6 rfl];exact l0
   ·show lk 1 (Dn [2] ((5,.str c)::(4,.int (.k (.ofNat p)))::ρ))=_;rw[J6 rfl];exact l1
  |some q=>
   have G:ev C 18 ((5,.str c)::(4,.int (.k (.ofNat p)))::ρ) (CU (LI ⟨xs,V q,b⟩)) (.cmp (.n 2) [(.Is,.c .none)])=V (.bool Ak):=(H2 l2).trans rfl;have z:ev C 17 ((5,.str c)::(4,.int (.k (.ofNat p)))::ρ) (CU (LI ⟨xs,V q,b⟩)) (.cmp (.n 1) [(.NotEq,.n 2)])=V (.bool (!As xs q)):=by
    show BG (lk 1 ρ) _=_;rw[l1];show BG (lk 2 ρ) _=_;rw[l2];exact H2 (ub xs q)
   have i:Zp t p ⟨xs,V q,b⟩ q=V y:=i;unfold Zp at i;show FC (λA6=>HM (CL C (18+1) (.ite _ _ _::_) _ _) _=_) _
   rw[Np G];show FC (λA6=>HM (HM (CL C (17+1) (.ite _ _ _::_) _ _) _) _=_) _
   rw[Np z];cases M:As xs q with
   |true=>
    rw[M]at i
    apply CE (sI i)
    obtain⟨A6,Q,st⟩:=i9 (C:=C) (t:=t) (p:=p) (c:=c) (a:=b.map .str) l0;exact⟨A6,ja Q (λu u=>rfl) λu u=>rfl,st _⟩
   |false=>
    rw[M]at i;obtain⟨E,i⟩:=De i
    apply CE (sI i)
    have d:ev C 16 ((5,.str c)::(4,.int (.k (.ofNat p)))::ρ) (CU (LI ⟨xs,V q,b⟩)) (.sl (.n 0) (V (.n 1)) (V (.n 2)))=V (.str (Lz t xs q)):=by
     show BG (lk 0 ρ) _=_;rw[l0];show BG ((lk 1 ρ).map V) _=_;rw[l1];show BG ((lk 2 ρ).map V) _=_;rw[l2];exact ue (AH E).2
    obtain⟨A6,Q,st⟩:=i9 (C:=C) (t:=t) (p:=p) (c:=c) (a:=b.map .str++[.str (Lz t xs q)]) l0;refine⟨A6,?_,st _⟩
    show HM (HM (HM (CL C (16+1) [.app 3 _] _ _) _) _) _=_;rw[Zo d rfl (Zs (AH E).1)];refine(ja Q (λu u=>rfl) λu u=>rfl).trans ?_
    show V (Dq.next A6 [(3,.lst (b.map .str++[.str (Lz t xs q)]))])=V (.next A6 [(3,.lst ((b++[Lz t xs q]).map .str))]);rw[DR];rfl
theorem uh(r:List (Nat×List Nat)):∀(x y:SI) (ρ:List (Nat×D)),V7 t x ρ->Zr t r x=V y->
  FC (λA6=>JD (JE (CL C 20 V6) [4,5] Ak) (La r) ρ (LI x)=V (.next A6 (LI y))) λA6=>V7 t y A6:=by
 induction r with
 |nil=>exact λx y ρ st h=>sI h▸⟨ρ,rfl,st⟩
 |cons pc r ih=>
  intro x y ρ st h;obtain⟨z,U,G⟩:=Cn h;obtain⟨A6,Q,c⟩:=ug (C:=C) (ρ:=Dn [4,5] ρ) ((J6 rfl).trans st.a) ((J6 rfl).trans st.b) ((J6 rfl).trans st.c) U;obtain⟨a,j,b⟩:=ih z y A6 c G;exact⟨a,(Tq Q).trans j,b⟩
theorem jb{a:List (List Nat)}(U:AS a=Y)(G:A3 (K5 [] a).length lim=Y):CL C 19 [.frz 3,.ret (.me 0 (.c (.str [])) [.n 3])] ρ [(3,.lst (a.map .str))]=V (.ret (.str (K5 [] a))):=by
 have e:ev C 17 ((3,.lst (a.map .str))::Dn [3] ρ) [] (.me 0 (.c (.str [])) [.n 3])=V (.str (K5 [] a)):=by
  show BG (Rf (a.map .str)) _=_;rw[ud];show CB (AS (a.map D.str)&&(AS ([]:List Nat)&&A3 (K5 [] a).length lim)) _=_;rw[Zs U,G];rfl
 exact Qy (n:=17) (ow:=[]) (r:=[]) e
theorem ui{l:List Nat}(h:Tr t=V l):CL C 25 i7 [(0,.str t)] []=V (.ret (.str l)):=by
 obtain⟨E,h⟩:=De h;obtain⟨i,U⟩:=AH E;have P:ev C 24 [(0,.str t)] (CU []) (.cmp (.c (.str [34])) [(.NotIn,.n 0)])=V (.bool (!OG 34 t)):=rfl;refine(Np P).trans ?_
 cases a:OG 34 t with
 |false=>rw[a]at h;apply AO (sI h);rfl
 |true=>
  rw[a]at h;obtain⟨x,hp,h⟩:=Cn h;obtain⟨acc,p,h⟩:=Cn h;obtain⟨r,h⟩:=De h
  apply CE (sI h)
  obtain⟨A6,j,b,c,_⟩:=uh (C:=C) _ ⟨0,Ao,[]⟩ x [(2,.none),(1,.int (.k 0)),(0,.str t)] ⟨rfl,rfl,rfl⟩ hp;have G:Gs (ev C 20 [(2,.none),(1,.int (.k 0)),(0,.str t)] (CU [(3,.lst [])])) [.n 0]=V [.str t]:=rfl;show CL C (20+1) [.loop [4,5] Ak 3 [.n 0] V6,.ite (.cmp (.n 1) [(.Lt,.bi 0 [.n 0])]) [.app 3 (.sl (.n 0) (V (.n 1)) Ao)] [],.frz 3,.ret (.me 0 (.c (.str [])) [.n 3])] [(2,.none),(1,.int (.k 0)),(0,.str t)] [(3,.lst [])]=_;refine(Tp G (i5 U) j).trans ?_
  show CL C (19+1) [.ite (.cmp (.n 1) [(.Lt,.bi 0 [.n 0])]) [.app 3 (.sl (.n 0) (V (.n 1)) Ao)] [],.frz 3,.ret (.me 0 (.c (.str [])) [.n 3])] A6 (LI x)=_;have F:ev C 18 A6 (CU (LI x)) (.bi 0 [.n 0])=V (.int (.k (.ofNat t.length))):=by
   show BG (BG (lk 0 A6) _) _=_;rw[b];show CB (AS t) _=_;rw[i];rfl
  have g:ev C 19 A6 (CU (LI x)) (.cmp (.n 1) [(.Lt,.bi 0 [.n 0])])=V (.bool (Bf x.s t.length)):=by
   show BG (lk 1 A6) _=_;rw[c];show BG (ev C 18 A6 (CU (LI x)) (.bi 0 [.n 0])) _=_;rw[F];rfl
  rw[Np g];unfold i8 at p;cases k:Bf x.s t.length with
  |true=>
   rw[k]at p;obtain⟨M,p⟩:=De p;have z:ev C 18 A6 (CU (LI x)) (.sl (.n 0) (V (.n 1)) Ao)=V (.str (t.drop x.s)):=by
    show BG (lk 0 A6) _=_;rw[b];show BG ((lk 1 A6).map V) _=_;rw[c];exact uf (AH M).2
   show HM (CL C (18+1) [.app 3 _] _ _) _=_;rw[Zo z rfl (Zs (AH M).1)];show CL C 19 [.frz 3,.ret (.me 0 (.c (.str [])) [.n 3])] A6 [(3,.lst (x.a.map .str++[.str (t.drop x.s)]))]=_;rw[show x.a.map D.str++[.str (t.drop x.s)]=acc.map .str by rw[<-sI p,DR];rfl]
   exact jb (AH r).1 (AH r).2
  |false=>
   rw[k]at p;show CL C 19 [.frz 3,.ret (.me 0 (.c (.str [])) [.n 3])] A6 [(3,.lst (x.a.map .str))]=_;rw[sI p];exact jb (AH r).1 (AH r).2
end
noncomputable def V8:List Ad:=[.ite (.cmp (.n 3) [(.Eq,.c (.str [40]))]) [.aug 1 .Add (.c (.int (.k 1)))] [.ite (.cmp (.n 3) [(.Eq,.c (.str [41]))]) [.aug 1 .Sub (.c (.int (.k 1))),.ite (.cmp (.n 1) [(.Lt,.c (.int (.k 0)))]) [.ret (.c (.bool Ak))] []] []]]
noncomputable def jc:List Ad:=[.asg [0] Y (.call 20 [.n 0]),.asg [1] Y (.c (.int (.k 0))),.loop [2,3] Ak 3 [.n 0] V8,.ret (.cmp (.n 1) [(.Eq,.c (.int (.k 0)))])]
noncomputable def uj(n:Nat):Option Nat:=match n with
 |0=>Ao
 |n+1=>V n
noncomputable def Ts(c:List Nat)(n:Nat):Option Nat:=match Fq c [40]with
 |true=>V (n+1)
 |false=>(match Fq c [41]with
  |true=>uj n
  |false=>V n)
noncomputable def Tt:List (Nat×List Nat)->Nat->Option Nat
 |[],n=>V n
 |pc::r,n=>BG (Ts pc.2 n) (Tt r)
noncomputable def uk(o:Option Nat):Bool:=match o with
 |none=>Ak
 |some m=>As m 0
noncomputable def Zt(t:List Nat):Option Bool:=BG (Tr t) λu=>CB (IP u) (V (uk (Tt (Jt Ak 0 u) 0)))
variable {p:Nat} {c:List Nat}
theorem Zu{o:BY}{e:M}{x:Nat}{a b d:D}{r:List Ad}{ow:List (Nat×Ae)}(g:lk x ρ=V a)(F:ev C n ρ (CU ow) e=V b)(hd:N9 o a b=V d)(c:J4 [x] ow=Y):CL C (n+1) (.aug x o e::r) ρ ow=CL C n r ((x,d)::Dn [x] ρ) ow:=by
 show BG (lk x ρ) _=_;rw[g];show BG (ev C n ρ (CU ow) e) _=_;rw[F];show BG (N9 o a b) _=_;rw[hd];show CB (J4 [x] ow) _=_;rw[c];rfl
theorem ul(n:Nat):N9 .Sub (.int (.k (.ofNat (n+1)))) (.int (.k 1))=V (.int (.k (.ofNat n))):=by
 show V (D.int (.k (Fj (n+1)+ -1)))=_;rw[show Fj (n+1)+ -1=Fj n from Int.add_neg_cancel_right (n:Int) 1]
def PK(o:Option Dq)(m:Option Nat):Prop:=match m with
 |none=>o=V (.ret (.bool Ak))
 |some m=>FC (λA6=>o=V (.next A6 [])) λA6=>lk 1 A6=V (.int (.k (.ofNat m)))
theorem un(l1:lk 1 ρ=V (.int (.k (.ofNat n)))):PK (CL C 20 V8 ((3,.str c)::(2,.int (.k (.ofNat p)))::ρ) []) (Ts c n):=by
 have U:ev C 19 ((3,.str c)::(2,.int (.k (.ofNat p)))::ρ) (CU []) (.cmp (.n 3) [(.Eq,.c (.str [40]))])=V (.bool (Fq c [40])):=rfl;have G:ev C 18 ((3,.str c)::(2,.int (.k (.ofNat p)))::ρ) (CU []) (.cmp (.n 3) [(.Eq,.c (.str [41]))])=V (.bool (Fq c [41])):=rfl;have a:lk 1 ((3,D.str c)::(2,.int (.k (.ofNat p)))::ρ)=V (.int (.k (.ofNat n))):=l1;show PK (CL C (19+1) (.ite _ _ _::_) _ _) _;rw[Np U];unfold Ts;cases Fq c [40]with
 |true=>
  show PK (HM (CL C (18+1) (.aug _ _ _::_) _ _) _) _;rw[Zu (b:=.int (.k 1)) (d:=.int (.k (.ofNat (n+1)))) a rfl rfl rfl];exact⟨_,rfl,rfl⟩
 |false=>
  show PK (HM (CL C (18+1) (.ite _ _ _::_) _ _) _) _;rw[Np G];cases Fq c [41]with
  |false=>exact⟨_,rfl,l1⟩
  |true=>
   induction n with
   |zero=>
    show PK (HM (HM (CL C (17+1) (.aug _ _ _::_) _ _) _) _) _;rw[Zu (b:=.int (.k 1)) (d:=.int (.k (-1))) a rfl rfl rfl];exact rfl
   |succ n=>
    show PK (HM (HM (CL C (17+1) (.aug _ _ _::_) _ _) _) _) _;rw[Zu (b:=.int (.k 1)) a rfl (ul n) rfl];exact⟨_,rfl,rfl⟩
theorem uo(r:List (Nat×List Nat)):∀(n:Nat) (ρ:List (Nat×D)),lk 1 ρ=V (.int (.k (.ofNat n)))->PK (JD (JE (CL C 20 V8) [2,3] Ak) (La r) ρ []) (Tt r n):=by
 induction r with
 |nil=>exact λn ρ h=>⟨ρ,rfl,h⟩
 |cons pc r ih=>
  intro n ρ h;have M:=un (C:=C) (p:=pc.1) (c:=pc.2) (ρ:=Dn [2,3] ρ) ((J6 rfl).trans h);show PK (JD _ (_::La r) _ _) (BG (Ts pc.2 n) (Tt r));cases i:Ts pc.2 n with
  |none=>
   rw[i]at M;exact i0 M
  |some m=>
   rw[i]at M;obtain⟨A6,Q,l⟩:=M;have:=ih m A6 l
   rwa [<-Tq (f:=JE (CL C 20 V8) [2,3] Ak) (d:=.tup [.int (.k (.ofNat pc.1)),.str pc.2]) (ρ:=ρ) (ow:=[]) Q]at this
theorem uq{t:List Nat}{b:Bool}(g:∀t,C 20 [.str t]=(Tr t).map .str)(h:Zt t=V b):CL C 23 jc [(0,.str t)] []=V (.ret (.bool b)):=by
 obtain⟨u,o,h⟩:=Cn h;obtain⟨U,h⟩:=De h;have a:ev C 22 [(0,.str t)] (CU []) (.call 20 [.n 0])=V (.str u):=(g t).trans (by rw[o];rfl)
 have G:Gs (ev C 20 [(1,.int (.k 0)),(0,.str u)] (CU [])) [.n 0]=V [.str u]:=rfl;have j:=uo (C:=C) (Jt Ak 0 u) 0 [(1,.int (.k 0)),(0,.str u)] rfl;refine(Qx a rfl).trans ?_
 refine(Qx (n:=21) (d:=.int (.k 0)) rfl rfl).trans ?_
 refine(Tp (n:=20) G (i5 U) rfl).trans ?_
 apply CE (sI h)
 cases hp:Tt (Jt Ak 0 u) 0 with
 |none=>
  rw[hp]at j;exact congrArg (λz=>HM z (CL C 20 [.ret (.cmp (.n 1) [(.Eq,.c (.int (.k 0)))])])) j
 |some m=>
  rw[hp]at j;obtain⟨A6,j,l1⟩:=j;refine(congrArg (λz=>HM z (CL C 20 [.ret (.cmp (.n 1) [(.Eq,.c (.int (.k 0)))])])) j).trans ?_
  refine Qy (n:=19) (r:=[]) ?_
  show BG (lk 1 A6) _=_;rw[l1];exact H2 (ua m 0)
structure L9(s0:Ah)(D Lc:An)(I:Array Ag)(m:Av->Option Ag)(s:Ah):Prop where
 ns:s.heap.Ns Lc m
 lst:s.heap.PlainList D I
 keep:∀b o,b≠D->s0.heap.get? b=V o->s.heap.get? b=V o
 gens:s.gens=s0.gens
 os:s.os=s0.os
section
variable {Aj:Bh} {w:Ca} {A:A1} {E:Ag->Ah->Prop} {s0 s:Ah} {D Lc:An} {I:Array Ag} {m:Av->Option Ag} {Z:DS}
theorem L9.tok{tk:Nat}(F:L9 s0 D Lc I m s):L9 s0 D Lc I m {s with toks:=tk}:=⟨F.ns,F.lst,F.keep,F.gens,F.os⟩
theorem L9.cell{c:An}{v:Option Ag}(F:L9 s0 D Lc I m s)(h:s0.heap.IsCell c v)(E:c≠D):s.heap.IsCell c v:=by
 obtain⟨o,e,d⟩:=h;exact⟨o,F.keep c o E e,d⟩
theorem J7{x:Av}{v:Ag}{p:B9}{Q:Ag->Ah->Prop}(F:L9 s0 D Z.locals I m s)(P:Z.scope.kind= .function)(L:Z.kindOf x=V .local)(hm:m x=V v)(hd:(x==("__debug__":Av))=Ak)(q:Q v s):Ap (Aq Aj w) A (C1 (.Name x p) Z) Q E s:=
 Je (FS P L F.ns hm q) hd
theorem V9{x:Av}{v:Ag}{p:B9}{c:An}{Q:Ag->Ah->Prop}(F:L9 s0 D Z.locals I m s)(P:Z.scope.kind= .function)(L:Z.kindOf x=V .free)(j:Z.cells.lookup x=V c)(b:s0.heap.IsCell c (V v))(e:c≠D)(hd:(x==("__debug__":Av))=Ak)(a:(x==("__classdict__":Av))=Ak)
  (q:Q v s):Ap (Aq Aj w) A (C1 (.Name x p) Z) Q E s:=
 Je (Gd P L j (F.cell b e) q a) hd
theorem Wa{x:Av}{v:Ag}{Q:Unit->Ah->Prop}(F:L9 s0 D Z.locals I m s)(P:Z.scope.kind= .function)(L:Z.kindOf x=V .local)(hnew:s0.heap.get? Z.locals=Ao)
  (q:∀S c,L9 s0 D Z.locals I c S->c x=V v->(∀y,y≠x->c y=m y)->Q () S):Ap (Aq Aj w) A (D6 Z x v) Q E s:=by
 have f:D≠Z.locals:=λe=>by
  obtain⟨n,e1⟩:=F.lst;obtain⟨o,es,ep,e2,d,_⟩:=F.ns;rw[e,e2]at e1;cases e1;cases d
 refine FB L F.ns (λh' t a=>?_) (by rw[P];rfl)
 refine q _ _ ⟨t,?_,λb o g e=>(a.2 b (λq=>by rw[q,hnew]at e;cases e)).trans (F.keep b o g e),F.gens,F.os⟩ (if_pos rfl) λy h=>if_neg h
 obtain⟨n,e1⟩:=F.lst;exact⟨n,(a.2 D f).trans e1⟩
end
noncomputable def dg(n x j:Nat):Nat:=x/2^(n*j)%2^n
structure RM(n x L R:Nat)(I vs':List Ag):Prop where
 len:vs'.length=I.length
 inn:∀i,L<=i->i<R->∃t,vs'[i]?=V (.int (dg n x (i-L):Int) t)
 out:∀i,i<L\/R<=i->vs'[i]?=I[i]?
theorem ut(X s:Nat):NH (X:Int) (((X:Int).fdiv (2^s))*2^s)=((X%2^s:Nat):Int):=by
 have e:((X:Int).fdiv (2^s))*2^s=((X/2^s*2^s:Nat):Int):=by
  have:((X:Int).fdiv (2^s))=((X/2^s:Nat):Int):=by
   rw[CQ _ (by exact BR (Mv (by decide)))]
   rfl
  rw[this];rfl
 rw[e];have G:(X|||(X/2^s*2^s))=X:=by
  apply MD
  intro i;rw[Nat.testBit_or,KY,KZ];by_cases h:s<=i
  ·simp[h,Az h]
  ·simp[h]
 have p:(X&&& (X/2^s*2^s))=X/2^s*2^s:=by
  apply MD
  intro i;rw[Nat.testBit_and,KY,KZ];by_cases h:s<=i
  ·simp[h,Az h]
  ·simp[h]
 have x:∀a b:Nat,Jo (a:Int) (b:Int)=((a&&& b:Nat):Int):=λa b=>by
  unfold Jo;rw[decide_eq_true (AW a),decide_eq_true (AW b)]
  rfl
 have l:∀z:Int,FH (FH z)=z:=λz=>by unfold FH;exact(A5 (li [_] [] (.s (.g (.s (.g (.v 0)) (.k 1))) (.k 1)) (.v 0) [] rfl) (li [_] [] (.v 0) (.s (.g (.s (.g (.v 0)) (.k 1))) (.k 1)) [] rfl))
 have c:∀a:Nat,decide (0<=FH (a:Int))=Ak:=λa=>by
  apply decide_eq_false;unfold FH;exact(Int.not_le.mpr (li [] [_] (.a (.s (.g (.u (.v 0))) (.k 1)) (.k 1)) (.k 0) [] rfl))
 have d:∀a b:Nat,Ox (a:Int) (b:Int)=((a|||b:Nat):Int):=λa b=>by
  unfold Ox Jo;rw[c a,c b];dsimp only;rw[l,l,l]
  rfl
 unfold NH;rw[d,x,G,p];have:=EG X (2^s);rw[B2]at this;exact(A5 (li [] [_,_,_] (.s (.u (.v 2)) (.u (.v 0))) (.u (.v 1)) [(1,.u (.v 2),.u (.a (.v 0) (.v 1)))] rfl (jO (Al this.symm))) (li [] [_,_,_] (.u (.v 1)) (.s (.u (.v 2)) (.u (.v 0))) [(1,.u (.a (.v 0) (.v 1)),.u (.v 2))] rfl (jO (Al this))))
theorem uv{n X h j:Nat}(r:j<h):dg n (X%2^(h*n)) j=dg n X j:=by
 unfold dg;have e:h*n=n*j+(n+(h-j-1)*n):=by
  have:h=j+1+(h-j-1):=by rw[W2];exact(Oy r).symm
  apply AO this;rw[Hu,Hu,Jy,B2 j n,Fs]
  congr 3
  exact congrArg (λz=>z-j-1) this
 rw[e,CR,Nat.mod_mul_right_div_self,CR,Nat.mod_mul_right_mod]
theorem uw{n X h j:Nat}:dg n (X/2^(h*n)) j=dg n X (h+j):=by
 unfold dg;rw[Lv,<-CR,Ed,B2 h n]
theorem ux{n X L:Nat}{I:List Ag}{t:Ez}(p:X<2^n)(f:L<I.length):RM n X L (L+1) I (I.set L (.int (X:Int) t)):=by
 refine⟨Ph ..,λi U G=>⟨t,?_⟩,λi T=>?_⟩
 ·have:i=L:=(AP (En (.v 1) (.v 0) [(1,.a (.v 1) (.k 1),.a (.v 0) (.k 1))] rfl G) U);subst this;rw[List.getElem?_set_self f];unfold dg;rw[II,Dy,E7,W3,GK p]
 ·rw[List.getElem?_set_ne (by exact(T.elim (λz0=>(Dx z0)) (λz0=>(Bn z0))))]
theorem uy{n X L h R:Nat}{I p d:List Ag}(hm:L+h<=R)(U:RM n (X%2^(h*n)) L (L+h) I p)(G:RM n (X/2^(h*n)) (L+h) R p d):RM n X L R I d:=by
 refine⟨G.len.trans U.len,λi a C=>?_,λi T=>?_⟩
 ·by_cases q:i<L+h
  ·obtain⟨t,e⟩:=U.inn i a q;refine⟨t,?_⟩
   rw[G.out i (.inl q),e,uv (by exact(Ip (.a (.v 3) (.k 1)) (.v 2) [(1,.a (.v 1) (.k 1),.a (.v 0) (.v 2)),(1,.a (.v 3) (.v 0),.v 1)] rfl q (Al (Az a))))]
  ·obtain⟨t,e⟩:=G.inn i (BI q) C;refine⟨t,?_⟩
   rw[e,uw]
   congr 4
   exact(AP (Kn (.a (.v 2) (.v 3)) (.v 4) [(1,.v 1,.a (.v 4) (.v 0)),(1,.a (.v 3) (.a (.v 0) (.v 2)),.v 1)] rfl Fy (Al (Az (BI q)))) (Kn (.v 4) (.a (.v 2) (.v 3)) [(1,.v 1,.a (.v 3) (.a (.v 0) (.v 2))),(1,.a (.v 4) (.v 0),.v 1)] rfl Fy (Al (Az a))))
 ·rw[G.out i (by exact(T.elim (λz0=>(R9 (EV (.a (.v 0) (.k 1)) (.a (.v 1) (.v 2)) [(1,.a (.v 0) (.k 1),.v 1)] rfl z0))) (λz0=>(kZ z0)))),U.out i (T.elim (λk=>(R9 k)) (λk=>(kZ (Ip (.a (.v 0) (.v 1)) (.v 3) [(1,.a (.v 0) (.v 1),.v 2),(1,.v 2,.v 3)] rfl hm k))))]
theorem uz{L R:Nat}(h:L<R):L<=(L+R)/2:=(LQ (by decide)).mpr (En (.l (.v 0) 2) (.a (.v 0) (.v 1)) [(1,.a (.v 0) (.k 1),.v 1)] rfl h)
theorem jd{L R:Nat}(h:L<R):(L+R)/2<R:=Eh (En (.a (.a (.v 0) (.v 1)) (.k 1)) (.m 2 (.v 1)) [(1,.a (.v 0) (.k 1),.v 1)] rfl h)
theorem Wb{L R:Nat}(h:L<R):L+((L+R)/2-L)=(L+R)/2:=Oy (uz h)
theorem je{L R:Nat}(h:L<R)(n:¬L+1=R):1<=(L+R)/2-L:=
 Nat.le_sub_of_add_le ((LQ (by decide)).mpr (En (.l (.a (.k 1) (.v 0)) 2) (.a (.v 0) (.v 1)) [(1,.a (.a (.v 0) (.k 1)) (.k 1),.v 1)] rfl (C2 h n)))
theorem jf(L R:Nat):((L:Int)+(R:Int))/2=(((L+R)/2:Nat):Int):=(Int.natCast_ediv (L+R) 2).symm
theorem Uu{L R:Nat}(h:¬L+1=R):(L:Int)+1≠(R:Int):=λe=>h (M1 e)
noncomputable abbrev Zv:List Bx:=[
 .If (.Compare (.BinOp (.Name "L" (Fp 0)) .Add (.Constant (.int 1) 0 (Fp 1)) (Fp 2)) [.Eq] [.Name "R" (Fp 3)] (Fp 4)) [
  .Assign [.Subscript (.Name "a_digits" (Fp 5)) (.Name "L" (Fp 6)) (Fp 7)] (.Name "x" (Fp 8)) (Fp 9),.Return Ao (Fp 10)] [] (Fp 11),
 .Assign [.Name "mid" (Fp 12)] (.BinOp (.BinOp (.Name "L" (Fp 13)) .Add (.Name "R" (Fp 14)) (Fp 15)) .RShift (.Constant (.int 1) 0 (Fp 16)) (Fp 17)) (Fp 18),
 .Assign [.Name "shift" (Fp 19)] (.BinOp (.BinOp (.Name "mid" (Fp 20)) .Sub (.Name "L" (Fp 21)) (Fp 22)) .Mult (.Name "n" (Fp 23)) (Fp 24)) (Fp 25),
 .Assign [.Name "upper" (Fp 26)] (.BinOp (.Name "x" (Fp 27)) .RShift (.Name "shift" (Fp 28)) (Fp 29)) (Fp 30),
 .Assign [.Name "lower" (Fp 31)] (.BinOp (.Name "x" (Fp 32)) .BitXor (.BinOp (.Name "upper" (Fp 33)) .LShift (.Name "shift" (Fp 34)) (Fp 35)) (Fp 36)) (Fp 37),
 .Expr (.Call (.Name "inner" (Fp 38)) [.Name "lower" (Fp 39),.Name "L" (Fp 40),.Name "mid" (Fp 41)] [] (Fp 42)) (Fp 43),
 .Expr (.Call (.Name "inner" (Fp 44)) [.Name "upper" (Fp 45),.Name "mid" (Fp 46),.Name "R" (Fp 47)] [] (Fp 48)) (Fp 49)]
noncomputable def Wc:List Av:=["x","L","R","mid","shift","upper","lower"]
structure OR(h:A9)(f c1 c2 c3:An)(fd:BA)(fname:Av)(v1 v2:Ag):Prop where
 fn:∃o,h.get? f=V o/\o.data= .func fd
 rec':h.CodeRec fd.code fd.qualname
 cell1:h.IsCell c1 (V v1)
 cell2:h.IsCell c2 (V v2)
 cell3:h.IsCell c3 (V (.ref f))
 l1:fd.closure.lookup fname=V c1
 l2:fd.closure.lookup ("n":Av)=V c2
 l3:fd.closure.lookup ("inner":Av)=V c3
 k1:fd.scope.names.lookup fname=V .free
 k2:fd.scope.names.lookup ("n":Av)=V .free
 k3:fd.scope.names.lookup ("inner":Av)=V .free
 kind:fd.scope.kind= .function
 co:fd.scope.isCoroutine=Ak
 gen:fd.scope.isGenerator=Ak
 nocell:∀x∈fd.scope.names,x.2≠.cell
theorem OR.keep{h h':A9}{f c1 c2 c3:An}{fd:BA}{i:Av}{p j:Ag}(x:OR h f c1 c2 c3 fd i p j)(k:∀b o,b=f\/(∃q,h.CodeRec (.ref b) q)\/b=c1\/b=c2\/b=c3->h.get? b=V o->h'.get? b=V o):OR h' f c1 c2 c3 fd i p j:=by
 have r:∀{c v},h.IsCell c v->(c=c1\/c=c2\/c=c3)->h'.IsCell c v:=λC E=>by obtain⟨o,e,d⟩:=C;exact⟨o,k _ o (.inr (.inr E)) e,d⟩
 refine⟨by obtain⟨o,e,d⟩:=x.fn;exact⟨o,k f o (.inl rfl) e,d⟩,?_,r x.cell1 (.inl rfl),r x.cell2 (.inr (.inl rfl)),r x.cell3 (.inr (.inr rfl)),x.l1,x.l2,x.l3,x.k1,x.k2,x.k3,x.kind,x.co,x.gen,x.nocell⟩
 obtain⟨c,P,I,t,e1,y,A,U⟩:=x.rec';exact⟨c,P,I,t,e1,k c P (.inr (.inl ⟨_,c,P,I,t,rfl,y,A,U⟩)) y,A,U⟩
section
variable {Aj:Bh} {w:Ca} {A:A1} {E:Ag->Ah->Prop} {s0 s:Ah} {D:An} {m:Av->Option Ag} {Z:DS}
theorem PL{x:Int}{k:Nat}(h:x.natAbs<2^k):AJ x<=k:=by
 unfold AJ;by_cases a:x.natAbs=0
 ·have:x=0:=Int.natAbs_eq_zero.mp a;subst this;exact Be _
 ·have U:=(Ht a).mpr h;split
  ·exact Be _
  ·exact U
theorem uA{h:A9}{b D:An}{q:Av}{I:Array Ag}(x:h.CodeRec (.ref b) q)(y:h.PlainList D I):b≠D:=by
 rintro rfl
 obtain⟨c,o,ws,t,e1,e2,d,_⟩:=x;cases e1;obtain⟨n,X⟩:=y;rw[X]at e2;cases e2;cases d
theorem uB{f c1 c2 c3:An}{fd:BA}{n:Nat}{tn:Ez}(Mk:1<=n)(E3:fd.body= .stmts Zv)(y:∀x∈Wc,fd.scope.names.lookup x=V .local)
  (E4:∀a b c,Du fd ⟨[a,b,c],[]⟩=BU [(("x":Av),a),("L",b),("R",c)])(l:f≠D/\c1≠D/\c2≠D/\c3≠D):
  ∀(d:Nat) (A:A1) (E:Ag->Ah->Prop) (s:Ah) (I:List Ag) (X L R:Nat) (t1 t2 t3:Ez) (Q:Ag->Ah->Prop),A.handled=Ao->A.depth+d<DQ->s.heap.NoLimit->OR s.heap f c1 c2 c3 fd "a_digits" (.ref D) (.int (n:Int) tn)->
   s.heap.PlainList D I.toArray->L<R->R-L<=2^d->R<=I.length->I.length<=1000000->n*(R-L)<=10000000->X<2^(n*(R-L))->
   (∀S vs',(∀b o,b≠D->s.heap.get? b=V o->S.heap.get? b=V o)->S.gens=s.gens->S.os=s.os->S.heap.PlainList D vs'.toArray->RM n X L R I vs'->Q .none S)->
   Ap (Aq Aj w) A (DP (.ref f) [.int (X:Int) t1,.int (L:Int) t2,.int (R:Int) t3]) Q E s:=by
  intro d
  induction d using JN with|ind d ih=>
  intro A E s I X L R t1 t2 t3 Q hh G CH Af hp H hsz N t W hX q;obtain⟨o,ho,hd⟩:=Af.fn;have Mo:D<s.heap.objs.size:=by obtain⟨k,e⟩:=hp;exact AY e
  have F3:s.heap.get? s.heap.objs.size=Ao:=HX (AI _);refine Hr (UU (AG (AQ _ _) G) ho hd CH Af.rec' E3 (.of_eq (E4 _ _ _)) Af.nocell (λx hx=>?_) (λh'0 GI hk=>?_) Af.co Af.gen Af.kind)
  ·exact Di (P:=λp=>fd.scope.names.lookup p.1=V .local) (y _ (iL rfl)) (Di (y _ (iL rfl)) (Di (y _ (iL rfl)) Ky)) _ hx
  ·generalize M:GO fd s.heap.objs.size f=Z
   have F4:Z.locals=s.heap.objs.size:=by apply CE M;rfl
   have Ce:Z.cells=fd.closure:=by apply CE M;rfl
   have E5:Z.scope=fd.scope:=by apply CE M;rfl
   have g:Z.scope.kind= .function:=by rw[E5];exact Af.kind
   have j:∀x∈Wc,Z.kindOf x=V .local:=λx hx=>by unfold Ia;rw[E5];exact y x hx
   have kF:∀x,fd.scope.names.lookup x=V .free->Z.kindOf x=V .free:=λx hx=>by unfold Ia;rw[E5];exact hx
   have m:s.heap.get? Z.locals=Ao:=by rw[F4];exact F3
   have hA:(A.deeper Z).handled=Ao:=hh;have F7:(A.deeper Z).depth=A.depth+1:=rfl;obtain⟨np,ep⟩:=hp;have F0:L9 s D Z.locals I.toArray (λx=>([(("x":Av),Db (X:Int) t1),("L",.int (L:Int) t2),("R",.int (R:Int) t3)]:List (Av×Ag)).reverse.lookup x) {s with heap:=h'0,toks:=s.toks+3}:=
    ⟨by rw[F4];exact GI,⟨np,hk _ _ ep⟩,λb o B e=>hk b o e,rfl,rfl⟩
   show Ap _ (A.deeper Z) (C4 Zv Z) _ _ {s with heap:=h'0,toks:=s.toks+3}
   refine Aw (EN (Ch (BE ?_)))
   refine J7 F0 g (j _ (iL rfl)) (v:=.int (L:Int) t2) rfl (by decide) ?_
   refine BQ ?_
   refine DJ ?_
   refine J7 (F0.tok.tok) g (j _ (iL rfl)) (v:=.int (R:Int) t3) rfl (by decide) ?_
   refine NJ (Bq ?_)
   by_cases i:L+1=R
   ·have e1:(((L:Int)+1)==(R:Int))=Y:=by rw[beq_iff_eq];exact(A5 (li [] [_,_] (.a (.u (.v 0)) (.k 1)) (.u (.v 1)) [(1,.u (.a (.v 0) (.k 1)),.u (.v 1))] rfl (jO (Al i))) (li [] [_,_] (.u (.v 1)) (.a (.u (.v 0)) (.k 1)) [(1,.u (.v 1),.u (.a (.v 0) (.k 1)))] rfl (jO (Al i.symm))))
    rw[e1,if_pos rfl];refine Aw (Fm ?_ rfl)
    refine J7 (F0.tok.tok) g (j _ (iL rfl)) (v:=.int (X:Int) t1) rfl (by decide) ?_
    refine V9 (F0.tok.tok) g (kF _ Af.k1) (by rw[Ce];exact Af.l1) Af.cell1 l.2.1 (by decide) (by decide) ?_
    refine J7 (F0.tok.tok) g (j _ (iL rfl)) (v:=.int (L:Int) t2) rfl (by decide) ?_
    refine YD (F0.tok.tok).lst (AW _) (li [] [_,_,_] (.a (.u (.v 2)) (.k 1)) (.k (2^63)) [(1,.u (.v 0),.u (.v 1)),(1,.u (.v 1),.u (.k 1000000)),(1,.u (.a (.v 2) (.k 1)),.u (.v 0))] rfl (jO N) (jO t) (jO (Al i))) (by rw[AD];exact(li [] [_,_,_] (.a (.u (.v 2)) (.k 1)) (.u (.v 1)) [(1,.u (.v 0),.u (.v 1)),(1,.u (.a (.v 2) (.k 1)),.u (.v 0))] rfl (jO N) (jO (Al i)))) λh' G0 Hd=>?_
    refine Aw (wpAny_Return_none ?_)
    subst i;have HC:X<2^n:=by
     have:n*(L+1-L)=n:=by rw[EL,Ee]
     rwa [this]at hX
    refine q _ (I.set L (.int (X:Int) t1)) (λb o hb e=>(Hd.2 b hb).trans (hk b o e)) rfl rfl ?_ (ux HC N)
    simpa using G0
   ·have e1:(((L:Int)+1)==(R:Int))=Ak:=by rw[beq_eq_false_iff_ne];exact Uu i
    rw[e1,if_neg AR];refine Bz ?_
    cases d with
    |zero=>rw[E7]at hsz;exact absurd hsz (BH (EV (.a (.k 1) (.k 1)) (.v 2) [(1,.v 1,.a (.v 2) (.v 0)),(1,.a (.a (.v 0) (.k 1)) (.k 1),.v 1)] rfl Fy (C2 H i)))
    |succ d=>
    have kk:∀x,x∈Wc->Z.kindOf x=V .local:=j;have Fn:=F0.tok (tk:=s.toks+3+1+1)
    let h:=(L+R)/2-L
    have HF:1<=h:=je H i;have C:L+h<R:=AG (Al (Wb H)) (jd H);have z:L+h=(L+R)/2:=Wb H;have L2:2^(d+1)=2*2^d:=by rw[E8,B2]
    have If:L+h-L<=2^d:=by rw[z];exact(lg 1 [_,_,_,_,_,_,_] (.v 4) (.v 6) [(1,.v 2,.v 3),(2,.a (.v 0) (.v 4),.v 5),(1,.v 1,.a (.v 2) (.v 0)),(1,.v 3,.l (.v 6) 2),(1,.l (.v 5) 2,.a (.v 0) (.v 1))] rfl hsz (Al z) Fy (Al (E8 _ _)) (Ew _ _))
    have Il:R-(L+h)<=2^d:=by rw[z];exact(lg 1 [_,_,_,_,_,_,_] (.v 5) (.v 6) [(1,.v 2,.v 3),(1,.v 1,.a (.v 2) (.v 0)),(1,.v 3,.l (.v 6) 2),(1,.a (.a (.v 0) (.v 1)) (.k 1),.a (.l (.v 4) 2) (.k 2)),(2,.a (.v 5) (.v 4),.v 1)] rfl hsz Fy (Al (E8 _ _)) (NK (by decide)) (Al (Az (Ip (.v 3) (.v 1) [(1,.a (.a (.v 0) (.v 2)) (.k 1),.v 1),(1,.v 3,.a (.v 0) (.v 2))] rfl C (Al z.symm)))))
    refine Aw (A2 (BE (BE ?_)) rfl)
    refine J7 Fn g (j _ (iL rfl)) (v:=.int (L:Int) t2) rfl (by decide) ?_
    refine J7 Fn g (j _ (iL rfl)) (v:=.int (R:Int) t3) rfl (by decide) ?_
    refine DJ (BQ (Ds (by decide) ?_))
    have em:((L:Int)+(R:Int)).fdiv (2^(1:Int).toNat)=((L+h:Nat):Int):=by
     rw[z,CQ _ (by decide)]
     exact jf L R
    rw[em];refine Wa (Fn.tok) g (j _ (iL rfl)) m λBy NI Cf Gl T=>?_
    refine Aw (A2 (BE (BE ?_)) rfl)
    refine J7 Cf g (j _ (iL rfl)) Gl (by decide) ?_
    refine J7 Cf g (j _ (iL rfl)) (v:=.int (L:Int) t2) ((T _ (by decide)).trans rfl) (by decide) ?_
    refine EK ?_
    refine V9 (Cf.tok) g (kF _ Af.k2) (by rw[Ce];exact Af.l2) Af.cell2 l.2.2.1 (by decide) (by decide) ?_
    refine IK ?_ ?_
    ·have e:((L+h:Nat):Int)-(L:Int)=(h:Int):=(A5 (li [] [_,_] (.s (.u (.a (.v 0) (.v 1))) (.u (.v 0))) (.u (.v 1)) [] rfl) (li [] [_,_] (.u (.v 1)) (.s (.u (.a (.v 0) (.v 1))) (.u (.v 0))) [] rfl));have eh:((h:Int)*(n:Int))=((h*n:Nat):Int):=by rw[CT]
     rw[e,eh];refine Wa (Cf.tok.tok) g (j _ (iL rfl)) m λB4 N1 F1 Go U=>?_
     have Is:h*n<=n*(R-L):=by rw[B2];exact BN n (Ip (.v 2) (.v 3) [(1,.a (.a (.v 0) (.v 2)) (.k 1),.v 1),(1,.v 1,.a (.v 3) (.v 0))] rfl C Fy)
     refine Aw (A2 (BE ?_) rfl)
     refine J7 F1 g (j _ (iL rfl)) (v:=.int (X:Int) t1) ((U _ (by decide)).trans ((T _ (by decide)).trans rfl)) (by decide) ?_
     refine J7 F1 g (j _ (iL rfl)) Go (by decide) ?_
     refine Ds (AW _) ?_
     rw[Cz];have eU:(X:Int).fdiv (2^(h*n))=((X/2^(h*n):Nat):Int):=by
      rw[CQ _ (by exact BR (Mv (by decide)))]
      rfl
     refine Wa (F1.tok) g (j _ (iL rfl)) m λN2 OA Cx F2 Bd=>?_
     refine Aw (A2 (BE ?_) rfl)
     refine J7 Cx g (j _ (iL rfl)) (v:=.int (X:Int) t1) ((Bd _ (by decide)).trans ((U _ (by decide)).trans ((T _ (by decide)).trans rfl))) (by decide) ?_
     refine BE ?_
     refine J7 Cx g (j _ (iL rfl)) F2 (by decide) ?_
     refine J7 Cx g (j _ (iL rfl)) ((Bd _ (by decide)).trans Go) (by decide) ?_
     refine FN (AW _) ?_ ?_
     ·have hU:((X:Int).fdiv (2^(h*n))).natAbs<2^(n*(R-L)):=by
       rw[eU,BK];exact AG (Nat.div_le_self _ _) hX
      have:=PL hU;exact(li [] [_,_,_] (.a (.u (.v 2)) (.u (.v 1))) (.k (2^27)) [(2,.u (.v 0),.u (.k 10000000)),(1,.u (.v 1),.u (.v 0)),(1,.u (.v 2),.u (.v 0))] rfl (jO W) (jO Is) (jO this))
     ·rw[Cz];refine Xb ?_
      rw[ut];refine Wa (Cx.tok.tok) g (j _ (iL rfl)) m λIt Bs u IS o5=>?_
      rw[eU]at F2;have mL:Bs "L"=V (.int (L:Int) t2):=(o5 _ (by decide)).trans ((Bd _ (by decide)).trans ((U _ (by decide)).trans ((T _ (by decide)).trans rfl)))
      have mR:Bs "R"=V (.int (R:Int) t3):=(o5 _ (by decide)).trans ((Bd _ (by decide)).trans ((U _ (by decide)).trans ((T _ (by decide)).trans rfl)))
      have mM:=(o5 _ (by decide)).trans ((Bd _ (by decide)).trans ((U _ (by decide)).trans Gl))
      have mU:=(o5 _ (by decide)).trans F2
      have DD:DT Z=Ak:=by unfold DT;rw[g];rfl
      have ik:∀{ws:Array Ag} {S},L9 s D Z.locals ws Bs S->OR S.heap f c1 c2 c3 fd "a_digits" (.ref D) (.int (n:Int) tn):=λF=>Af.keep λb o hb e=>F.keep b o (by
       rcases hb with rfl|⟨q,hq⟩|rfl|rfl|rfl
       ·exact l.1
       ·exact uA hq ⟨np,ep⟩
       ·exact l.2.1
       ·exact l.2.2.1
       ·exact l.2.2.2) e
      have Ev:∀{ws:Array Ag} {S},L9 s D Z.locals ws Bs S->S.heap.NoLimit:=λ{ws S} F=>by
       obtain⟨mc,a,r⟩:=CH;refine⟨mc,?_,r⟩
       obtain⟨o,es,e2,e,dd,r⟩:=a;exact⟨o,es,e2,F.keep _ o (λq=>by rw[q,ep]at e;cases e;cases dd) e,dd,r⟩
      have Gt:X%2^(h*n)<2^(n*(L+h-L)):=by
       have:n*(L+h-L)=h*n:=by rw[EL,B2]
       rw[this];exact Dj _ (FI _)
      have I0:X/2^(h*n)<2^(n*(R-(L+h))):=by
       rw[LR (FI _),<-CR];have:n*(R-(L+h))+h*n=n*(R-L):=by
        rw[B2 h n,<-Ed]
        congr 1
        exact(AP (Kn (.a (.v 3) (.v 2)) (.v 4) [(1,.v 1,.a (.v 4) (.v 0)),(1,.a (.v 3) (.a (.v 0) (.v 2)),.v 1)] rfl Fy (Al (Az (EV (.a (.v 0) (.v 2)) (.v 1) [(1,.a (.a (.v 0) (.v 2)) (.k 1),.v 1)] rfl C)))) (Kn (.v 4) (.a (.v 3) (.v 2)) [(1,.v 1,.a (.v 3) (.a (.v 0) (.v 2))),(1,.a (.v 4) (.v 0),.v 1)] rfl Fy (Al (Az (En (.v 0) (.v 1) [(1,.a (.v 0) (.k 1),.v 1)] rfl H)))))
       rw[this];exact hX
      have I4:n*(L+h-L)<=10000000:=Am (BN n (Kn (.v 3) (.v 4) [(1,.a (.a (.v 0) (.v 2)) (.k 1),.v 1),(1,.v 1,.a (.v 4) (.v 0)),(1,.a (.v 3) (.v 0),.a (.v 0) (.v 2))] rfl C Fy (Al (Az (En (.v 0) (.a (.v 0) (.v 1)) [] rfl))))) W;have Lc:n*(R-(L+h))<=10000000:=Am (BN n (Kn (.v 3) (.v 4) [(1,.v 1,.a (.v 4) (.v 0)),(1,.a (.v 3) (.a (.v 0) (.v 2)),.v 1)] rfl Fy (Al (Az (EV (.a (.v 0) (.v 2)) (.v 1) [(1,.a (.a (.v 0) (.v 2)) (.k 1),.v 1)] rfl C))))) W;refine Aw (DX ?_ DD rfl)
      refine AX ?_
      refine V9 u g (kF _ Af.k3) (by rw[Ce];exact Af.l3) Af.cell3 l.2.2.2 (by decide) (by decide) ?_
      refine Ba (o:=o) (fd:=fd) (Ng (λv p h=>by cases h) ?_)
      rw[Fa (λv p h=>by cases h),Fa (λv p h=>by cases h),Fa (λv p h=>by cases h)]
      refine Ax (J7 u g (j _ (iL rfl)) IS (by decide) ?_)
      refine Ax (J7 u g (j _ (iL rfl)) mL (by decide) ?_)
      refine Ax (J7 u g (j _ (iL rfl)) mM (by decide) (AF ?_))
      refine⟨⟨u.keep f o l.1 ho,hd⟩,?_⟩
      refine ih d (Ct d) (A.deeper Z) _ It I _ L (L+h) _ _ _ _ hA (by rw[F7];exact(EV (.a (.a (.a (.v 0) (.k 1)) (.v 1)) (.k 1)) (.v 2) [(1,.a (.a (.v 0) (.a (.v 1) (.k 1))) (.k 1),.v 2)] rfl G)) (Ev u) (ik u) u.lst (En (.a (.v 1) (.k 1)) (.a (.v 1) (.v 0)) [(1,.k 1,.v 0)] rfl HF) If (Ip (.a (.v 2) (.v 3)) (.v 1) [(1,.v 0,.v 1),(1,.a (.a (.v 2) (.v 3)) (.k 1),.v 0)] rfl N C) t I4 Gt λs6 v1 k6 Lt LA p6 d6=>?_
      have LC:Z.locals≠D:=λe=>by
       obtain⟨o',es,e2,e3,dd,_⟩:=u.ns;obtain⟨n',e4⟩:=u.lst;rw[e,e4]at e3;cases e3;cases dd
      have F6:L9 s D Z.locals v1.toArray Bs s6:=by
       refine⟨?_,p6,λb o hb e=>k6 b o hb (u.keep b o hb e),Lt.trans u.gens,LA.trans u.os⟩
       obtain⟨o',es,e2,e3,r⟩:=u.ns;exact⟨o',es,e2,k6 _ _ LC e3,r⟩
      refine Aw (DX ?_ DD rfl)
      refine AX ?_
      refine V9 F6 g (kF _ Af.k3) (by rw[Ce];exact Af.l3) Af.cell3 l.2.2.2 (by decide) (by decide) ?_
      refine Ba (o:=o) (fd:=fd) (Ng (λv p h=>by cases h) ?_)
      rw[Fa (λv p h=>by cases h),Fa (λv p h=>by cases h),Fa (λv p h=>by cases h)]
      refine Ax (J7 F6 g (j _ (iL rfl)) mU (by decide) ?_)
      refine Ax (J7 F6 g (j _ (iL rfl)) mM (by decide) ?_)
      refine Ax (J7 F6 g (j _ (iL rfl)) mR (by decide) (AF ?_))
      refine⟨⟨F6.keep f o l.1 ho,hd⟩,?_⟩
      refine ih d (Ct d) (A.deeper Z) _ s6 v1 _ (L+h) R _ _ _ _ hA (by rw[F7];exact(EV (.a (.a (.a (.v 0) (.k 1)) (.v 1)) (.k 1)) (.v 2) [(1,.a (.a (.v 0) (.a (.v 1) (.k 1))) (.k 1),.v 2)] rfl G)) (Ev F6) (ik F6) F6.lst C Il (by apply AO d6.len;exact N) (by rw[d6.len];exact t) Lc I0 λs7 v2 k7 LS LZ L1 d7=>?_
      refine Bz ?_
      exact q s7 v2 (λb o hb e=>k7 b o hb (F6.keep b o hb e)) (LS.trans F6.gens) (LZ.trans F6.os) L1 (uy (EV (.a (.v 0) (.v 1)) (.v 2) [(1,.a (.a (.v 0) (.v 1)) (.k 1),.v 2)] rfl C) d6 d7)
    ·refine LU (IM ?_)
     have e:((L+h:Nat):Int)-(L:Int)=(h:Int):=(A5 (li [] [_,_] (.s (.u (.a (.v 0) (.v 1))) (.u (.v 0))) (.u (.v 1)) [] rfl) (li [] [_,_] (.u (.v 1)) (.s (.u (.a (.v 0) (.v 1))) (.u (.v 0))) [] rfl));rw[e,BK];exact(Kn (.a (.v 3) (.k 1)) (.k (2^64)) [(1,.v 0,.v 1),(1,.v 1,.k 1000000),(1,.a (.v 2) (.v 3),.v 4),(1,.l (.v 4) 2,.a (.v 2) (.v 0))] rfl N t (Al z) (Ew _ _))
end
noncomputable def GG(n:Nat):List Nat->Nat
 |[]=>0
 |q::r=>q+2^n*GG n r
theorem Wd(n:Nat):∀(a b:List Nat),GG n (a++b)=GG n a+2^(n*a.length)*GG n b:=by
 intro a
 induction a with
 |nil=>exact λb=>by show GG n b=0+2^(n*0)*GG n b;rw[Dy,E7,Jy,E2]
 |cons q r ih=>
  intro b;show q+2^n*GG n (r++b)=q+2^n*GG n r+2^(n*(r.length+1))*GG n b;rw[ih b,Ed,Ed n,Ee,CR,B2 (2^(n*r.length)) (2^n),KM,Fs]
theorem jg(n:Nat):∀(a:List Nat),(∀q∈a,q<2^n)->GG n a<2^(n*a.length):=by
 intro a
 induction a with
 |nil=>exact λz=>FI _
 |cons q r ih=>
  intro h;have U:=h q (.head _);have G:=ih λx L=>h x (.tail _ L)
  show q+2^n*GG n r<2^(n*(r.length+1));rw[Ed n,Ee,CR,B2 (2^(n*r.length))];have:2^n*(GG n r+1)<=2^n*2^(n*r.length):=BN _ G;rw[Ed,Ee]at this;exact(Ip (.a (.a (.v 0) (.v 2)) (.k 1)) (.v 3) [(1,.a (.v 0) (.k 1),.v 1),(1,.a (.v 2) (.v 1),.v 3)] rfl U this)
noncomputable def KD(n:List Nat)(L R:Nat):List Nat:=(n.drop L).take (R-L)
theorem jh{n:List Nat}{L R:Nat}(h:R<=n.length):(KD n L R).length=R-L:=by
 unfold KD;rw[I2,C0];exact FE (Hx h L)
theorem uC{n:List Nat}{L M R:Nat}(U:L<=M)(G:M<=R):KD n L R=KD n L M++KD n M R:=by
 unfold KD;have e:R-L=(M-L)+(R-M):=by rw[El];exact(Nat.sub_add_sub_cancel G U).symm
 rw[e,List.take_add,JX]
 congr 3
 exact(AP (EV (.a (.v 0) (.v 2)) (.v 1) [(1,.a (.v 2) (.v 0),.v 1)] rfl (Al (Az U))) (EV (.v 1) (.a (.v 0) (.v 2)) [(1,.v 1,.a (.v 2) (.v 0))] rfl Fy))
theorem uD{n:List Nat}{L q:Nat}(h:n[L]?=V q):KD n L (L+1)=[q]:=by
 unfold KD;have j:L<n.length:=(List.getElem?_eq_some_iff.mp h).1;rw[EL,Cu j];rw[A8 j]at h;rw[CK h];rfl
theorem uE{n:List Nat}{L R x:Nat}(h:x∈KD n L R):x∈n:=List.mem_of_mem_drop (List.mem_of_mem_take h)
noncomputable abbrev Zw:List Bx:=[
 .If (.Compare (.BinOp (.Name "L" (GM 0)) .Add (.Constant (.int 1) 0 (GM 1)) (GM 2)) [.Eq] [.Name "R" (GM 3)] (GM 4)) [
  .Return (V (.Subscript (.Name "digits" (GM 5)) (.Name "L" (GM 6)) (GM 7))) (GM 8)] [] (GM 9),
 .Assign [.Name "mid" (GM 10)] (.BinOp (.BinOp (.Name "L" (GM 11)) .Add (.Name "R" (GM 12)) (GM 13)) .RShift (.Constant (.int 1) 0 (GM 14)) (GM 15)) (GM 16),
 .Assign [.Name "shift" (GM 17)] (.BinOp (.BinOp (.Name "mid" (GM 18)) .Sub (.Name "L" (GM 19)) (GM 20)) .Mult (.Name "n" (GM 21)) (GM 22)) (GM 23),
 .Return (V (.BinOp (.BinOp (.Call (.Name "inner" (GM 24)) [.Name "mid" (GM 25),.Name "R" (GM 26)] [] (GM 27)) .LShift (.Name "shift" (GM 28)) (GM 29)) .Add
  (.Call (.Name "inner" (GM 30)) [.Name "L" (GM 31),.Name "mid" (GM 32)] [] (GM 33)) (GM 34))) (GM 35)]
noncomputable def Zx:List Av:=["L","R","mid","shift"]
structure Ma(s0:Ah)(Lc:An)(m:Av->Option Ag)(s:Ah):Prop where
 ns:s.heap.Ns Lc m
 keep:∀b o,s0.heap.get? b=V o->s.heap.get? b=V o
 gens:s.gens=s0.gens
 os:s.os=s0.os
variable {Lc:An}
theorem Ma.tok{tk:Nat}(F:Ma s0 Lc m s):Ma s0 Lc m {s with toks:=tk}:=⟨F.ns,F.keep,F.gens,F.os⟩
theorem Ma.cell{c:An}{v:Option Ag}(F:Ma s0 Lc m s)(h:s0.heap.IsCell c v):s.heap.IsCell c v:=by
 obtain⟨o,e,d⟩:=h;exact⟨o,F.keep c o e,d⟩
theorem MP{x:Av}{v:Ag}{p:B9}{Q:Ag->Ah->Prop}(F:Ma s0 Z.locals m s)(P:Z.scope.kind= .function)(L:Z.kindOf x=V .local)(hm:m x=V v)(hd:(x==("__debug__":Av))=Ak)(q:Q v s):Ap (Aq Aj w) A (C1 (.Name x p) Z) Q E s:=
 Je (FS P L F.ns hm q) hd
theorem We{x:Av}{v:Ag}{p:B9}{c:An}{Q:Ag->Ah->Prop}(F:Ma s0 Z.locals m s)(P:Z.scope.kind= .function)(L:Z.kindOf x=V .free)(j:Z.cells.lookup x=V c)(b:s0.heap.IsCell c (V v))(hd:(x==("__debug__":Av))=Ak)(a:(x==("__classdict__":Av))=Ak)
  (q:Q v s):Ap (Aq Aj w) A (C1 (.Name x p) Z) Q E s:=
 Je (Gd P L j (F.cell b) q a) hd
theorem ji{x:Av}{v:Ag}{Q:Unit->Ah->Prop}(F:Ma s0 Z.locals m s)(P:Z.scope.kind= .function)(L:Z.kindOf x=V .local)(hnew:s0.heap.get? Z.locals=Ao)
  (q:∀S a,Ma s0 Z.locals a S->a x=V v->(∀y,y≠x->a y=m y)->Q () S):Ap (Aq Aj w) A (D6 Z x v) Q E s:=by
 refine FB L F.ns (λh' t D=>?_) (P▸rfl)
 exact q _ _ ⟨t,λb o e=>(D.2 b (λq=>by rw[q,hnew]at e;cases e)).trans (F.keep b o e),F.gens,F.os⟩ (if_pos rfl) λy c=>if_neg c
section
variable {Aj:Bh} {w:Ca} {A:A1} {E:Ag->Ah->Prop} {s0 s:Ah} {D:An} {m:Av->Option Ag} {Z:DS}
theorem uF{f c1 c2 c3:An}{fd:BA}{n:Nat}{tn:Ez}{I:List Ag}{X:List Nat}(CH:X.length=I.length)(F4:∀(i q:Nat),X[i]?=V q->∃t,I[i]?=V (Db (q:Int) t))(Gl:∀q∈X,q<2^n)(Ce:I.length<=1000000)(W:n*I.length<=10000000)
  (DD:fd.body= .stmts Zw)(y:∀x∈Zx,fd.scope.names.lookup x=V .local)
  (Ev:∀a b,Du fd ⟨[a,b],[]⟩=BU [(("L":Av),a),("R",b)]):
  ∀(d:Nat) (A:A1) (E:Ag->Ah->Prop) (s:Ah) (L R:Nat) (t2 t3:Ez) (Q:Ag->Ah->Prop),A.handled=Ao->A.depth+d<DQ->s.heap.NoLimit->OR s.heap f c1 c2 c3 fd "digits" (.ref D) (.int (n:Int) tn)->
   s.heap.PlainList D I.toArray->L<R->R-L<=2^d->R<=I.length->
   (∀S t,(∀b o,s.heap.get? b=V o->S.heap.get? b=V o)->S.gens=s.gens->S.os=s.os->Q (.int (GG n (KD X L R):Int) t) S)->
   Ap (Aq Aj w) A (DP (.ref f) [.int (L:Int) t2,.int (R:Int) t3]) Q E s:=by
  intro d
  induction d using JN with|ind d ih=>
  intro A E s L R t2 t3 Q hh m Cf Af hp H hsz N q;obtain⟨o,ho,hd⟩:=Af.fn;have I0:D<s.heap.objs.size:=by obtain⟨k,e⟩:=hp;exact AY e
  have E5:s.heap.get? s.heap.objs.size=Ao:=HX (AI _);refine Hr (UU (AG (AQ _ _) m) ho hd Cf Af.rec' DD (.of_eq (Ev _ _)) Af.nocell (λx hx=>?_) (λh'0 Go hk=>?_) Af.co Af.gen Af.kind)
  ·exact Di (P:=λp=>fd.scope.names.lookup p.1=V .local) (y _ (iL rfl)) (Di (y _ (iL rfl)) Ky) _ hx
  ·generalize u:GO fd s.heap.objs.size f=Z
   have Fn:Z.locals=s.heap.objs.size:=by apply CE u;rfl
   have Bd:Z.cells=fd.closure:=by apply CE u;rfl
   have E3:Z.scope=fd.scope:=by apply CE u;rfl
   have c:Z.scope.kind= .function:=E3▸Af.kind;have l:∀x∈Zx,Z.kindOf x=V .local:=λx hx=>by unfold Ia;rw[E3];exact y x hx
   have kF:∀x,fd.scope.names.lookup x=V .free->Z.kindOf x=V .free:=λx hx=>by unfold Ia;rw[E3];exact hx
   have G:s.heap.get? Z.locals=Ao:=Fn▸E5;have hA:(A.deeper Z).handled=Ao:=hh;have F1:(A.deeper Z).depth=A.depth+1:=rfl;obtain⟨np,ep⟩:=hp;have F0:Ma s Z.locals (λx=>([(("L":Av),Db (L:Int) t2),("R",.int (R:Int) t3)]:List (Av×Ag)).reverse.lookup x) {s with heap:=h'0,toks:=s.toks+2}:=
    ⟨by rw[Fn];exact Go,λb o e=>hk b o e,rfl,rfl⟩
   show Ap _ (A.deeper Z) (C4 Zw Z) _ _ {s with heap:=h'0,toks:=s.toks+2}
   refine Aw (EN (Ch (BE ?_)))
   refine MP F0 c (l _ (iL rfl)) (v:=.int (L:Int) t2) rfl (by kernel_rfl) ?_
   refine BQ ?_
   refine DJ ?_
   refine MP (F0.tok.tok) c (l _ (iL rfl)) (v:=.int (R:Int) t3) rfl (by kernel_rfl) ?_
   refine NJ (Bq ?_)
   have j:=F0.tok (tk:=s.toks+2+1+1);by_cases g:L+1=R
   ·have e1:(((L:Int)+1)==(R:Int))=Y:=by rw[beq_iff_eq];exact(A5 (li [] [_,_] (.a (.u (.v 0)) (.k 1)) (.u (.v 1)) [(1,.u (.a (.v 0) (.k 1)),.u (.v 1))] rfl (jO (Al g))) (li [] [_,_] (.u (.v 1)) (.a (.u (.v 0)) (.k 1)) [(1,.u (.v 1),.u (.a (.v 0) (.k 1)))] rfl (jO (Al g.symm))))
    rw[e1,if_pos rfl];have hq:∃q0,X[L]?=V q0:=⟨_,A8 (Ip (.a (.v 3) (.k 1)) (.v 0) [(1,.v 1,.v 0),(1,.v 2,.v 1),(1,.a (.v 3) (.k 1),.v 2)] rfl (Al CH.symm) N (Al g))⟩;obtain⟨q0,F2⟩:=hq;obtain⟨t,hv⟩:=F4 L q0 F2;refine Aw (CD (Jh ?_))
    refine We j c (kF _ Af.k1) (Bd▸Af.l1) Af.cell1 (by kernel_rfl) (by kernel_rfl) ?_
    refine MP j c (l _ (iL rfl)) (v:=.int (L:Int) t2) rfl (rfl) ?_
    have e1:=j.keep _ _ ep;refine O5 (ops:=[.ref D,.int (L:Int) t2]) ⟨_,e1,rfl⟩ slot_list_getitem.lookup (Gx (x:=.int (q0:Int) t) ⟨_,e1,rfl,_,rfl⟩ (AW _) (li [] [_,_,_] (.a (.u (.v 2)) (.k 1)) (.k (2^63)) [(1,.u (.v 0),.u (.k 1000000)),(1,.u (.v 1),.u (.v 0)),(1,.u (.a (.v 2) (.k 1)),.u (.v 1))] rfl (jO Ce) (jO N) (jO (Al g))) (by rw[Cz,Cd];exact hv) ?_) rfl
    subst g;have:=q _ t (λb o e=>j.keep b o e) j.gens j.os
    rw[uD F2]at this;have ev:GG n [q0]=q0:=by show q0+2^n*0=q0;rw[Dy];rfl
    rw[ev]at this;exact this
   ·have e1:(((L:Int)+1)==(R:Int))=Ak:=by rw[beq_eq_false_iff_ne];exact Uu g
    rw[e1,if_neg AR];refine Bz ?_
    induction d with
    |zero=>rw[E7]at hsz;exact absurd hsz (BH (EV (.a (.k 1) (.k 1)) (.v 2) [(1,.v 1,.a (.v 2) (.v 0)),(1,.a (.a (.v 0) (.k 1)) (.k 1),.v 1)] rfl Fy (C2 H g)))
    |succ d=>
    let h:=(L+R)/2-L
    have Gt:1<=h:=je H g;have C:L+h<R:=AG (Al (Wb H)) (jd H);have z:L+h=(L+R)/2:=Wb H;have IS:2^(d+1)=2*2^d:=by rw[E8,B2]
    have GI:L+h-L<=2^d:=z▸(lg 1 [_,_,_,_,_,_,_] (.v 4) (.v 6) [(1,.v 2,.v 3),(2,.a (.v 0) (.v 4),.v 5),(1,.v 1,.a (.v 2) (.v 0)),(1,.v 3,.l (.v 6) 2),(1,.l (.v 5) 2,.a (.v 0) (.v 1))] rfl hsz (Al z) Fy (Al (E8 _ _)) (Ew _ _));have G0:R-(L+h)<=2^d:=z▸(lg 1 [_,_,_,_,_,_,_] (.v 6) (.v 5) [(1,.v 2,.v 3),(1,.v 1,.a (.v 2) (.v 0)),(1,.v 3,.l (.v 5) 2),(1,.a (.a (.v 0) (.v 1)) (.k 1),.a (.l (.v 4) 2) (.k 2)),(2,.a (.v 6) (.v 4),.v 1)] rfl hsz Fy (Al (E8 _ _)) (NK (by decide)) (Al (Az (Ip (.v 3) (.v 1) [(1,.a (.a (.v 0) (.v 2)) (.k 1),.v 1),(1,.v 3,.a (.v 0) (.v 2))] rfl C (Al z.symm)))))
    refine Aw (A2 (BE (BE ?_)) rfl)
    refine MP j c (l _ (iL rfl)) (v:=.int (L:Int) t2) rfl (rfl) ?_
    refine MP j c (l _ (iL rfl)) (v:=.int (R:Int) t3) rfl (rfl) ?_
    refine DJ (BQ (Ds (by decide) ?_))
    have em:((L:Int)+(R:Int)).fdiv (2^(1:Int).toNat)=((L+h:Nat):Int):=by
     rw[z,CQ _ (by decide)]
     exact jf L R
    rw[em];refine ji (j.tok) c (l _ (iL rfl)) G λBy I4 Bs F3 E4=>?_
    refine Aw (A2 (BE (BE ?_)) rfl)
    refine MP Bs c (l _ (iL rfl)) F3 (by kernel_rfl) ?_
    refine MP Bs c (l _ (iL rfl)) (v:=.int (L:Int) t2) ((E4 _ (by decide)).trans rfl) (rfl) ?_
    refine EK ?_
    refine We (Bs.tok) c (kF _ Af.k2) (Bd▸Af.l2) Af.cell2 (by kernel_rfl) (by kernel_rfl) ?_
    refine IK ?_ ?_
    ·have e:((L+h:Nat):Int)-(L:Int)=(h:Int):=(A5 (li [] [_,_] (.s (.u (.a (.v 0) (.v 1))) (.u (.v 0))) (.u (.v 1)) [] rfl) (li [] [_,_] (.u (.v 1)) (.s (.u (.a (.v 0) (.v 1))) (.u (.v 0))) [] rfl));have eh:((h:Int)*(n:Int))=((h*n:Nat):Int):=by rw[CT]
     rw[e,eh];refine ji (Bs.tok.tok) c (l _ (iL rfl)) G λHd T U HC o5=>?_
     have mL:T "L"=V (.int (L:Int) t2):=(o5 _ (by decide)).trans ((E4 _ (by decide)).trans rfl)
     have mR:T "R"=V (.int (R:Int) t3):=(o5 _ (by decide)).trans ((E4 _ (by decide)).trans rfl)
     have mM:=(o5 _ (by decide)).trans F3
     have ik:∀{S},Ma s Z.locals T S->OR S.heap f c1 c2 c3 fd "digits" (.ref D) (.int (n:Int) tn):=λF=>Af.keep λb o B e=>F.keep b o e
     have Cx:∀{S},Ma s Z.locals T S->S.heap.NoLimit:=λF=>Cf.keeps F.keep
     refine Aw (CD (BE (BE ?_)))
     refine AX ?_
     refine We U c (kF _ Af.k3) (Bd▸Af.l3) Af.cell3 (by kernel_rfl) (by kernel_rfl) ?_
     refine Ba (o:=o) (fd:=fd) (Ng (λv p h=>by cases h) ?_)
     rw[Fa (λv p h=>by cases h),Fa (λv p h=>by cases h)]
     refine Ax (MP U c (l _ (iL rfl)) mM (rfl) ?_)
     refine Ax (MP U c (l _ (iL rfl)) mR (rfl) (AF ?_))
     refine⟨⟨U.keep f o ho,hd⟩,?_⟩
     refine ih d (Ct d) (A.deeper Z) _ Hd (L+h) R _ _ _ hA (F1▸(EV (.a (.a (.a (.v 0) (.k 1)) (.v 1)) (.k 1)) (.v 2) [(1,.a (.a (.v 0) (.a (.v 1) (.k 1))) (.k 1),.v 2)] rfl m)) (Cx U) (ik U) ⟨np,U.keep _ _ ep⟩ C G0 N λs6 Lc k6 HF If=>?_
     have F6:Ma s Z.locals T s6:=by
      refine⟨?_,λb o e=>k6 b o (U.keep b o e),HF.trans U.gens,If.trans U.os⟩
      obtain⟨o',es,e2,e3,r⟩:=U.ns;exact⟨o',es,e2,k6 _ _ e3,r⟩
     refine MP F6 c (l _ (iL rfl)) HC (by kernel_rfl) ?_
     have Il:h*n<=10000000:=Am (by rw[B2];exact BN n (Kn (.v 2) (.v 1) [(1,.v 0,.v 1),(1,.a (.v 3) (.v 2),.v 4),(1,.l (.v 4) 2,.a (.v 3) (.v 0))] rfl N (Al z) (Ew _ _))) W
     refine FN (AW _) ?_ ?_
     ·have h1:=jg n (KD X (L+h) R) λx hx=>Gl x (uE hx)
      rw[jh (by exact(EV (.v 2) (.v 0) [(1,.v 1,.v 0),(1,.v 2,.v 1)] rfl (Al CH.symm) N))]at h1
      have h2:=PL (x:=((GG n (KD X (L+h) R):Nat):Int)) (by rw[BK];exact h1)
      have h3:n*(R-(L+h))<=10000000:=Am (BN n (EV (.v 2) (.v 1) [(1,.v 0,.v 1),(1,.v 2,.v 0)] rfl N (DB _ _))) W;exact(li [] [_,_,_] (.a (.u (.v 1)) (.u (.v 0))) (.k (2^27)) [(1,.u (.v 0),.u (.k 10000000)),(1,.u (.v 1),.u (.v 2)),(1,.u (.v 2),.u (.k 10000000))] rfl (jO Il) (jO h2) (jO h3))
     ·rw[Cz];have F7:=F6.tok (tk:=s6.toks+1);refine AX ?_
      refine We F7 c (kF _ Af.k3) (Bd▸Af.l3) Af.cell3 (rfl) (rfl) ?_
      refine Ba (o:=o) (fd:=fd) (Ng (λv p h=>by cases h) ?_)
      rw[Fa (λv p h=>by cases h),Fa (λv p h=>by cases h)]
      refine Ax (MP F7 c (l _ (iL rfl)) mL (rfl) ?_)
      refine Ax (MP F7 c (l _ (iL rfl)) mM (rfl) (AF ?_))
      refine⟨⟨F7.keep f o ho,hd⟩,?_⟩
      refine ih d (Ct d) (A.deeper Z) _ _ L (L+h) _ _ _ hA (F1▸(EV (.a (.a (.a (.v 0) (.k 1)) (.v 1)) (.k 1)) (.v 2) [(1,.a (.a (.v 0) (.a (.v 1) (.k 1))) (.k 1),.v 2)] rfl m)) (Cx F7) (ik F7) ⟨np,F7.keep _ _ ep⟩ (En (.a (.v 1) (.k 1)) (.a (.v 1) (.v 0)) [(1,.k 1,.v 0)] rfl Gt) GI (Ip (.a (.v 2) (.v 3)) (.v 1) [(1,.v 0,.v 1),(1,.a (.a (.v 2) (.v 3)) (.k 1),.v 0)] rfl N C) λs8 t8 k8 Is It=>?_
      refine DJ ?_
      have ev:((GG n (KD X (L+h) R):Nat):Int)*2^(h*n)+((GG n (KD X L (L+h)):Nat):Int)=((GG n (KD X L R):Nat):Int):=by
       rw[uC (L:=L) (M:=L+h) (R:=R) (by exact(En (.v 1) (.a (.v 1) (.v 0)) [] rfl)) (EV (.a (.v 0) (.v 1)) (.v 2) [(1,.a (.a (.v 0) (.v 1)) (.k 1),.v 2)] rfl C),Wd,jh (by exact(Kn (.a (.v 3) (.v 4)) (.v 0) [(1,.v 1,.v 0),(1,.v 2,.v 1),(1,.a (.a (.v 3) (.v 4)) (.k 1),.v 2)] rfl (Al CH.symm) N C))]
       have:n*(L+h-L)=h*n:=by rw[EL,B2]
       rw[this,B8,CT,E1,GX]
       rfl
      refine ev▸ ?_
      exact q _ _ (λb o e=>k8 b o (F7.keep b o e)) (Is.trans F7.gens) (It.trans F7.os)
    ·refine LU (IM ?_)
     have e:((L+h:Nat):Int)-(L:Int)=(h:Int):=(A5 (li [] [_,_] (.s (.u (.a (.v 0) (.v 1))) (.u (.v 0))) (.u (.v 1)) [] rfl) (li [] [_,_] (.u (.v 1)) (.s (.u (.a (.v 0) (.v 1))) (.u (.v 0))) [] rfl));rw[e,BK];exact(Kn (.a (.v 3) (.k 1)) (.k (2^64)) [(1,.v 0,.k 1000000),(1,.v 1,.v 0),(1,.a (.v 2) (.v 3),.v 4),(1,.l (.v 4) 2,.a (.v 2) (.v 1))] rfl Ce N (Al z) (Ew _ _))
end
theorem uG{j pos:B9}{c p:Ag}:∀(l:List Ag),J9 l->He j (l++[BX pos.line,BX pos.col,c])=V p->He j l=V p\/(j.line=pos.line/\p=c):=by
 intro l h
 fun_induction J9 l with
 |case1=>
  intro e;simp only[G1,BX,He]at e;split at e
  ·rename_i E;rw[Bg,beq_iff_eq]at E;cases e;exact .inr ⟨by have:=E.1;exact(AP (Int.ofNat_le.mp (li [] [_,_] (.u (.v 1)) (.u (.v 0)) [(1,.u (.v 1),.u (.v 0))] rfl (Bc E.1.symm))) (Int.ofNat_le.mp (li [] [_,_] (.u (.v 0)) (.u (.v 1)) [(1,.u (.v 0),.u (.v 1))] rfl (Bc E.1)))),rfl⟩
  ·cases e
 |case2 a t b u x rest ih=>
  intro e;simp only[Os,He]at e ⊢;split at e
  ·rename_i E;rw[if_pos E];exact .inl e
  ·rename_i E;rw[if_neg E];exact ih h e
 |case3 l U G=>exact h.elim
theorem uH{P:An}{ps:Array Ag}{h':A9}{tk:Nat}{pos:B9}{f:An}(H:T P)(L:DI P s.heap h')(i:s.heap.get? P=V (Hp ps))(x:h'.get? P=V (Hp (ps++ #[BX pos.line,BX pos.col,.ref f])))
  (Q:NV h' (.ref f) (SN pos.line)):BM T s {s with heap:=h',toks:=tk}:=by
 have w:∀b o,s.heap.get? b=V o->Hn o=Ak->h'.get? b=V o:=λb o e t=>L b o (λq=>by rw[q,i]at e;cases e;cases t) e
 refine⟨λb o n e=>L b o (λq=>n (q▸H)) e,w,λb R t=>?_,λz e=>e,rfl⟩
 have k:∀c o,NU o=Y->s.heap.get? c=V o->h'.get? c=V o:=λc o y e=>L c o (λq=>by rw[q,i]at e;cases e;exact bF ((JW _).symm.trans y)) e
 by_cases q:b=P
 ·subst q;obtain⟨h,e,r,M⟩:=t;rw[i]at e;cases e;refine⟨_,x,?_,λg p E=>?_⟩
  ·have:(ps++ #[BX pos.line,BX pos.col,Cy f]).toList=ps.toList++[BX pos.line,BX pos.col,.ref f]:=by simp
   apply AO this;exact TriplesOk_snoc _ _ _ _ r
  ·have:(ps++ #[BX pos.line,BX pos.col,Cy f]).toList=ps.toList++[BX pos.line,BX pos.col,.ref f]:=by simp
   rw[this]at E;rcases uG _ r E with E|⟨j,rfl⟩
   ·obtain⟨c,o,I,t,e1,e2,a,d,v⟩:=M g p E;exact⟨c,o,I,t,e1,k c o (Xx d a v) e2,a,d,v⟩
   ·rw[j];exact Q
 ·exact t.keep k (λo e=>L b o q e)
section
variable {Aj:Bh} {w:Ca} {A:A1} {E:Ag->Ah->Prop} {s:Ah} {name qual:Av} {params:Fb} {body:List Bx} {scope:Scope} {Z:DS} {c P:An} {ps:Array Ag} {pos:B9} {Mx:Nat} {mg:Av->Option Ag} {QO:List (Av×An)} {Q:Ag->Ah->Prop}
theorem uI(M:Lj scope Z=BU QO)(F:Z.globals=Es)(hg:s.heap.Ns Es mg)(i:Z.code= .ref c)(C:Lh s.heap c P)(R:s.heap.get? P=V (Hp ps))(D:J9 ps.toList)
  (n:He pos ps.toList=Ao)(G:Es≠P)(hb:s.heap.BuiltinsAt mg P)
  (h:∀T Bd Bs h' tk,DI P s.heap h'->s.heap.objs.size<=h'.objs.size->NV h' (.ref T) qual->h'.get? P=V (Hp (ps++ #[BX pos.line,BX pos.col,.ref T]))->
   Q (.ref h'.objs.size) {s with heap:=h'.push (fnMade name qual params body scope QO Bs ((mg "__name__").getD .none) T Bd),toks:=tk}):
  Ap (Aq Aj w) A (makeTail name qual params (.stmts body) scope Z .none .none Ao pos Mx) Q E s:=by
 have U:∀{h':A9} {T X:An} {qs},h'.CodeRec (.ref T) qual->h'.TableAt T X qs->NV h' (.ref T) qual:=λ{h' T X qs} hr D=>by
  obtain⟨Cf,o,I,t,e,e1,d,v⟩:=hr;cases e;obtain⟨⟨o',vs',W,cc,_,_⟩,_⟩:=D;rw[e1]at W;cases W;exact⟨_,o,I,t,rfl,e1,by rw[cc];rfl,d,v⟩
 obtain⟨bm,ob,H,u,_,a,N,x,j,l⟩:=hb;unfold makeTail;rw[M,F];refine Ai (Ar ?_)
 induction QO with
 |nil=>
  dsimp only;refine Ai (Ar ?_)
  refine Ai (PZ i (C.code R D) (C.tab R) n λT h' tk L hge k B z m hnew=>?_)
  obtain⟨X,_,_,p⟩:=hnew;have f:=hg.extBut L G;refine Ai (Sn f H u (L _ _ a N) x j l ?_)
  refine Ai (zA f ?_)
  have hsz:=Am hge (CN k);cases g:docOf body with
  |none=>exact Ai (Ar (Bi (h T .none .none h' tk L hsz (U z p) m.2) (by size_fits)))
  |some t=>exact Ai (zn (Bi (h T .none _ h' _ L hsz (U z p) m.2) (by size_fits)))
 |cons q r=>
  dsimp only;refine Ai (wpAny_newTextTuple ?_)
  refine Ai (PZ i ((C.keeps λb o e=>Au _ e).code (Au _ R) D) ((C.keeps λb o e=>Au _ e).tab (Au _ R)) n λT h' tk L hge k B z m hnew=>?_)
  obtain⟨X,_,_,p⟩:=hnew;have f:=(hg.push _).extBut L G;have y:DI P s.heap h':=λb o Ce e=>L b o Ce (Au _ e)
  have hsz:s.heap.objs.size<=h'.objs.size:=Am (by rw[B6];exact(EJ (.v 0) (.a (.v 0) (.k 1)) [] rfl)) (Am hge (CN k))
  refine Ai (Sn f H u (y _ _ a N) x j l ?_)
  refine Ai (zA f ?_)
  cases g:docOf body with
  |none=>exact Ai (Ar (Bi (h T _ .none h' tk y hsz (U z p) m.2) (by size_fits)))
  |some t=>exact Ai (zn (Bi (h T _ _ h' _ y hsz (U z p) m.2) (by size_fits)))
end
section
variable {Aj:Bh} {w:Ca} {A:A1} {E:Ag->Ah->Prop} {T:An->Prop} {J:Sg} {mg mb:Av->Option Ag} {s0 s:Ah} {k n fo:Nat} {B fn:Nat->Av} {Z:DS} {sc:List (Av×AC)} {name:Av} {params:Fb} {body:List Bx} {scope:Scope} {c P:An} {pos:B9}
theorem jj(bs:Bs T mg mb s0 s)(C:Lh s0.heap c P):Lh s.heap c P:=by
 obtain⟨o,I,u,b,g,tg,N,text,a,e,E,r⟩:=C;exact⟨o,I,u,b,g,tg,N,text,a,bs.ext.keep2 _ _ e (Iq ⟨_,E⟩),E,r⟩
theorem jk{sc o:List (Av×AC)}(h:(sc.all λp=>!(p.2==.free)||o.lookup p.1==V .cell)=Y){y:Av}(A:(y,FY)∈sc):o.lookup y=V .cell:=AA (D9 h _ A)
theorem jl(bs:Bs T mg mb s0 s)(ok:IB Z sc)(b:Z.code= .ref c)(C:Lh s0.heap c P)(H:T P)(F:s0.heap.BuiltinsAt mg P)(p:params.defaults=[])(r:params.kw_defaults=[])(g:aT params Ao Z=[])
  (M:QQ Z name name=SN pos.line)(u:∀n k,(n,k)∈scope.names->k= .free->∃c,Z.cells.lookup n=V c){Q:EW->Ah->Prop}
  (q:∀(f:An) (fd:BA) (o:Fo) S,BM T s S->s.heap.get? f=Ao->S.heap.get? f=V o->o.data= .func fd->NV S.heap fd.code fd.qualname->fd.params=params->fd.body= .stmts body->fd.scope=scope->fd.closure=HK Z scope.names []->fd.defaults= .none->fd.kwdefaults= .none->
   Ap (Aq Aj w) A (D6 Z name (.ref f)) (λB DK=>Q .next DK) E S):
  Ap (Aq Aj w) A (EB (.FunctionDef name params body [] Ao [] scope Ao name pos) Z) Q E s:=by
 refine nestDef_K p r g ?_
 rw[makeFunction_eq];simp only[List.zip_nil_right,List.filterMap_nil,List.isEmpty_nil,if_true,MX];obtain⟨ps,l,D,y⟩:=bs.ext.tab P H (bs.tabs P H);have z:=bs.ng;have G:Es≠P:=λe=>by
  obtain⟨o,es,ep,e1,hd,_⟩:=z;rw[e,l]at e1;cases e1;cases hd
 have i:s.heap.BuiltinsAt mg P:=by
  obtain⟨bm,o,h1,h2,h3,h4,h5,m,h7,h8⟩:=F;exact⟨bm,o,h1,h2,h3,h4,bs.ext.keep2 _ _ h5 (Iq ⟨_,m⟩),m,h7,h8⟩
 have L:=fO (Z:=Z) u;cases N:He pos ps.toList with
 |none=>
  refine uI L ok.glob z b (jj bs C) l D N G i λc' R U h' tk hx hsz j x=>?_
  rw[M]at j;have W:BM T s {s with heap:=h',toks:=tk}:=uH H hx l x j
  refine q _ _ _ _ (W.trans (.push (tk:=tk))) (HX hsz) (Ay _ rfl) rfl ?_ rfl rfl rfl rfl rfl rfl
  obtain⟨h,o,I,t,e1,e2,a,d,v⟩:=j;refine⟨h,o,I,t,e1,Au _ e2,a,d,?_⟩
  rw[v];rw[M]
 |some cv=>
  have j:=y pos cv N;refine makeTail_hit L ok.glob z b (jj bs C) l D N i λR U h' tk X hsz=>?_
  refine q _ _ _ _ ((BM.of_keeps (tk:=tk) X).trans (.push (tk:=tk))) (HX hsz) (Ay _ rfl) rfl ?_ rfl rfl rfl rfl rfl rfl
  obtain⟨h,o,I,t,e1,e2,a,d,v⟩:=j;refine⟨h,o,I,t,e1,Au _ (X _ _ e2),a,d,?_⟩
  rw[v];rw[M]
end
theorem uJ{l:An}{I:Array Ag}{a:Nat}{x:Int}{u:Ez}{Q:Ag->Ah->Prop}(C:s.heap.get? l=V (Gf I a))(b:I.size=1)(c:0<=x)(L:x<=1000000)
  (h:Q (.ref s.heap.objs.size) {s with heap:=s.heap.push (Gf (DF x.toNat I.toList).flatten.toArray 0)}):Ap (Aq Aj w) A (Hc .Mult (.ref l) (.int x u)) Q E s:=by
 refine wpAny_binaryOp_repeat_ref (T:="list") (U:="int") (by decide) ⟨_,C,rfl⟩ (λS=>typeIs_int S x u) noFill_list_mul F.fills_int_mul So repeat_list F.slot_int_index.lookup
  (call_meets So (typeIs_int s x u) F.entry_int_rmul (F.args_int_rmul_2 _ _) (lm_int_rmul_list_any x u l I a Ao #[])
   ⟨C,rfl,⟨_,C,rfl⟩,call_meets F.slot_list_mul ⟨_,C,rfl⟩ F.entry_list_mul (F.args_list_mul_2 _ _)
    (lm_list_mul_any l I a Ao #[] x u (by simp[Xc];exact⟨(li [_] [] (.k (-9223372036854775808)) (.v 0) [(1,.k 0,.v 0)] rfl c),(li [_] [] (.a (.v 0) (.k 1)) (.k 9223372036854775808) [(1,.v 0,.k 1000000)] rfl L)⟩) (by rw[b];omega) (by simp[D2,C5,b];exact(li [_] [] (.v 0) (.k 16777216) [(1,.v 0,.k 1000000)] rfl L)))
    ⟨C,?_⟩⟩)
 rw[listMul_foldl_if];exact h
theorem Pb{l:An}{v:Ag}{a x:Nat}{u:Ez}{Q:Ag->Ah->Prop}(C:s.heap.get? l=V (Gf #[v] a))(L:x<=1000000)
  (h:Q (.ref s.heap.objs.size) {s with heap:=s.heap.push (Gf (DF x v).toArray 0)}):Ap (Aq Aj w) A (Hc .Mult (.ref l) (.int (x:Int) u)) Q E s:=by
 refine uJ C rfl (AW _) (li [] [_] (.u (.v 0)) (.k 1000000) [(1,.u (.v 0),.u (.k 1000000))] rfl (jO L)) ?_
 have e:∀x:Nat,(DF x [v]).flatten=DF x v:=λx=>by
  induction x with
  |zero=>rfl
  |succ x ih=>rw[HH,Bb,ih];apply AO HH;rfl
 rw[Cz,e];exact h
theorem uK{a b:Nat}{t u:Ez}{Q:Ag->Ah->Prop}(F:1<=b)(j:b<=1000000)(q:∀tk c,Q (.int ((a/b:Nat):Int) c) {s with toks:=tk}):Ap (Aq Aj w) A (Hc .FloorDiv (.int (a:Int) t) (.int (b:Int) u)) Q E s:=by
 have e:((a:Int)).fdiv (b:Int)=((a/b:Nat):Int):=by rw[CQ _ (by exact(li [] [_] (.k 0) (.u (.v 0)) [] rfl))];rfl
 refine Fu (Dw (li [] [_] (.a (.k 0) (.k 1)) (.u (.v 0)) [(1,.u (.k 1),.u (.v 0))] rfl (jO F))) ?_ (.inl (Kh (T0 (li [] [_] (.a (.u (.v 0)) (.k 1)) (.u (.k 1073741824)) [(1,.u (.v 0),.u (.k 1000000))] rfl (jO j)) (li [] [_] (.a (.g (.u (.v 0))) (.k 1)) (.u (.k 1073741824)) [] rfl))))
 rw[e];exact q _ _
theorem uL{h:A9}:∀{l:List Nat} {I:List Ag},I.length=l.length->(∀(i q:Nat),l[i]?=V q->∃t,I[i]?=V (Db (q:Int) t))->BV J N h I (l.map λ(q:Nat)=>D.int (.k (q:Int))):=by
 intro l
 induction l with
 |nil=>exact λj z=>C8 j▸.nil
 |cons q l ih=>
  intro I j h
  induction I with
  |nil=>exact nomatch j
  |cons v I=>
   obtain⟨t,e⟩:=h 0 q rfl
   apply AO (sI e)
   exact .cons (.int rfl) (ih (HG j) λi q' e=>h (i+1) q' e)
theorem uM{D:An}{I vs':Array Ag}(U:s.heap.PlainList D I)(G:S.heap.PlainList D vs')(k:∀b o,b≠D->s.heap.get? b=V o->S.heap.get? b=V o)(a:S.gens=s.gens)(C:S.os=s.os):Co T (·=D) s S:=by
 obtain⟨n1,e1⟩:=U;obtain⟨n2,e2⟩:=G;refine⟨λb o z m e=>k b o m e,λb o m e z=>k b o m e,λb ⟨o,e,t⟩=>?_,λb R t=>?_,λz p=>a▸p,C⟩
 ·by_cases q:b=D
  ·apply AO q;exact⟨_,e2,rfl⟩
  ·exact⟨o,k b o q e,t⟩
 ·have F:b≠D:=λq=>by
   obtain⟨ps,e,_⟩:=t;rw[q,e1]at e;cases e
  exact t.keep (λc o y e=>k c o (λq=>by rw[q,e1]at e;cases e;cases y) e) (λo e=>k b o F e)
theorem DH.cellAt{h:A9}{x:Av}{v:Ag}(y:DH Z h x v)(P:Z.kindOf x=V .cell):∃c,Z.cells.lookup x=V c/\h.IsCell c (V v):=by
 rcases y with⟨U,_⟩|⟨_,_,c,i,j⟩
 ·rw[P]at U;cases U
 ·exact⟨c,i,j⟩
theorem NV.upd{W:An->Prop}{j:Ag}{q:Av}(x:NV s.heap j q)(u:Co T W s S)(p:∀a,W a->IA s.heap a):NV S.heap j q:=by
 obtain⟨c,o,I,t,e,e1,i,d,v⟩:=x;refine⟨c,o,I,t,e,u.keep2 c o (λr=>(p c r).absurd (Xx d i v) e1) e1 ?_,i,d,v⟩
 cases E:o.cls with
 |none=>rw[E]at i;exact bF i
 |_=>rw[Hn,E];rfl
theorem Co.keepF{W:An->Prop}{f:An}{o:Fo}{fd:BA}(u:Co T W s S)(e:s.heap.get? f=V o)(d:o.data= .func fd)(i:¬W f):S.heap.get? f=V o:=
 u.keep2 f o i e (JC (by rw[d];rfl))
section
variable {Z:DS} {r:List (Av×AC)} {acc:List (Av×An)} {n:Av}
theorem RN{c:An}(h:Z.cells.lookup n=V c):HK Z ((n,.free)::r) acc=HK Z r ((n,c)::acc):=by rw[Rn,h];rfl
theorem Nq:HK Z ((n,.local)::r) acc=HK Z r acc:=rfl
theorem Zy{x y:Av}{c:An}{r:List (Av×An)}(h:(x==y)=Ak):Ji x ((y,c)::r)=Ji x r:=by rw[Cc,h]
theorem Zz{x:Av}{c:An}{r:List (Av×An)}:Ji x ((x,c)::r)=V c:=by rw[Cc,beq_self_eq_true]
theorem jm{x y z:Av}{a b c:An}(U:(x==y)=Ak)(G:(x==z)=Ak)(d:(y==z)=Ak):([(x,a),(y,b),(z,c)]:List (Av×An)).lookup x=V a/\([(x,a),(y,b),(z,c)]:List (Av×An)).lookup y=V b/\([(x,a),(y,b),(z,c)]:List (Av×An)).lookup z=V c:=by
 have s:∀{u v:Av},(u==v)=Ak->(v==u)=Ak:=λh=>by
  rw[beq_eq_false_iff_ne]at h ⊢;exact h.symm
 exact⟨Zz,by rw[Zy (s U),Zz],by rw[Zy (s G),Zy (s d),Zz]⟩
end
noncomputable abbrev uN(params:Fb)(isc:Scope):List Bx:=[
 .Assign [.Name "a_digits" (GQ 0)] (.BinOp (.List [.Constant (.int 0) 0 (GQ 1)] (GQ 2)) .Mult (.BinOp (.BinOp (.BinOp (.Call (.Attribute (.Name "a" (GQ 3)) "bit_length" (GQ 4)) [] [] (GQ 5)) .Add (.Name "n" (GQ 6)) (GQ 7)) .Sub (.Constant (.int 1) 0 (GQ 8)) (GQ 9)) .FloorDiv (.Name "n" (GQ 10)) (GQ 11)) (GQ 12)) (GQ 13),
 .FunctionDef "inner" params Zv [] Ao [] isc Ao "inner" (GQ 14),
 .If (.Name "a" (GQ 15)) [.Expr (.Call (.Name "inner" (GQ 16)) [.Name "a" (GQ 17),.Constant (.int 0) 0 (GQ 18),.Call (.Name "len" (GQ 19)) [.Name "a_digits" (GQ 20)] [] (GQ 21)] [] (GQ 22)) (GQ 23)] [] (GQ 24),
 .Return (V (.Name "a_digits" (GQ 25))) (GQ 26)]
noncomputable abbrev Wf:List (Av×AC):=[("x",.local),("L",.local),("R",.local),("mid",.local),("shift",.local),("upper",.local),("lower",.local),("a_digits",.free),("inner",.free),("n",.free)]
noncomputable abbrev uO:List (Av×AC):=[("a",.local),("n",.cell),("a_digits",.cell),("inner",.cell),("len",.globalImplicit)]
noncomputable def Wg:List Av:=["a","n"]
theorem uP:EA (C6 Wg):=Nn (by decide+kernel)
theorem uQ{Z:DS}{c1 c2 c3:An}(l1:Z.cells.lookup ("a_digits":Av)=V c1)(l2:Z.cells.lookup ("n":Av)=V c2)(l3:Z.cells.lookup ("inner":Av)=V c3):HK Z Wf []=([("n",c2),("inner",c3),("a_digits",c1)]:List (Av×An)):=by
 unfold Wf;rw[Nq,Nq,Nq,Nq,Nq,Nq,Nq,RN l1,RN l3,RN l2]
 rfl
noncomputable def GN(n X:Nat):Nat:=((AJ (X:Int))+n-1)/n
theorem Qz(X:Nat):X<2^AJ (X:Int):=by
 unfold AJ;rw[BK];by_cases h:X=0
 ·subst h;simp
 ·split
  ·rename_i G;simp at G;exact(EJ (.a (.v 0) (.k 1)) (.k (2^0)) [(1,.v 0,.k 0)] rfl (Al G))
  ·exact Nat.lt_log2_self
theorem Wh{n X:Nat}(M:1<=n):AJ (X:Int)<=n*GN n X:=by
 unfold GN
 generalize AJ (X:Int)=b
 have:=EG (b+n-1) n;have G:=Dj (b+n-1) (show n>0 from(EJ (.a (.k 0) (.k 1)) (.v 0) [(1,.k 1,.v 0)] rfl M))
 generalize n*((b+n-1)/n)=z at*
 exact(Kn (.v 4) (.v 2) [(1,.a (.v 0) (.k 1),.v 1),(1,.v 3,.a (.v 2) (.v 0)),(1,.a (.v 4) (.v 1),.a (.v 3) (.k 1))] rfl G (Al this.symm) Fy)
theorem uR{n X:Nat}(M:1<=n)(p:X≠0):1<=GN n X:=by
 have U:=Wh (X:=X) M;have G:=Qz X;cases h:GN n X with
 |zero=>
  rw[h,Dy]at U;have:AJ (X:Int)=0:=(AP U (EJ (.k 0) (.v 0) [] rfl));rw[this]at G;exact(EJ (.k 1) (.k 0) [(1,.a (.v 0) (.k 1),.k 0)] rfl (C2 (EJ (.v 0) (.k 0) [(1,.a (.v 0) (.k 1),.k (2^0))] rfl G) p))
 |succ m=>exact(EJ (.k 1) (.a (.v 0) (.k 1)) [] rfl)
theorem jn{n X:Nat}(M:1<=n):GN n X<=AJ (X:Int):=by
 unfold GN
 generalize AJ (X:Int)=b
 induction b with
 |zero=>simp;exact(kZ (Al (Az M)))
 |succ b=>
  rw[Nat.div_le_iff_le_mul_add_pred (by exact(EJ (.a (.k 0) (.k 1)) (.v 0) [(1,.k 1,.v 0)] rfl M))]
  have:b+1<=n*(b+1):=Nat.le_mul_of_pos_left _ (EJ (.a (.k 0) (.k 1)) (.v 0) [(1,.k 1,.v 0)] rfl M);exact(Kn (.v 3) (.a (.v 2) (.v 4)) [(1,.a (.v 1) (.k 1),.v 2),(1,.v 0,.a (.v 4) (.k 1)),(1,.a (.v 3) (.k 1),.a (.a (.v 1) (.k 1)) (.v 0))] rfl this Fy (Al (Az (En (.k 1) (.a (.a (.v 1) (.k 1)) (.v 0)) [] rfl))))
set_option tactic.hygienic true in
theorem uS(hk:k+1<=100){a c P:An}{fd:BA}{params:Fb}{isc:Scope}(F:JT s0 a fd (uN params isc))(F0:KB (C6 Wg) fd [0,1])(m:fd.scope.names=uO)(F1:fd.code= .ref c)(F2:fd.qualname="_int2digits")
  (C:Lh s0.heap c P)(hT:T P)(hb:s0.heap.BuiltinsAt mg P)(LA:params.defaults=[])(LC:params.kw_defaults=[])(ha:∀Z,aT params Ao Z=[])(F3:SN (GQ 14).line="_int2digits.<locals>.inner")(hl:((GQ 4).endLine==(GQ 5).line)=Y)
  (M:isc.names=Wf)(DD:isc.kind= .function)(GI:isc.isCoroutine=Ak)(F4:isc.isGenerator=Ak)
  (Ev:∀R:BA,R.params=params->R.defaults= .none->R.kwdefaults= .none->∀a b c,Du R ⟨[a,b,c],[]⟩=BU [(("x":Av),a),("L",b),("R",c)])
  {n X:Nat}{pX pn:PX}(eX:pX.ev J=(X:Int))(en:pn.ev J=(n:Int))(G:1<=n)(G0:n<=100000)(hX:X<2^100000):
  ∀(A:A1) (E:Ag->Ah->Prop) (N:An->Prop) (s:Ah) (I:List Ag) (Q:Ag->Ah->Prop),Eo k A->Bs T mg mb s0 s->(∀a,N a->Da s.heap a)->BV J N s.heap I [.int pX,.int pn]->
   GB T J N s (.lst ((Br (GN n X)).map λ(j:Nat)=>Internal.D.int (.k ((dg n X j:Nat):Int)))) Q->Ap (Aq Aj w) A (DP (.ref a) I) Q E s:=by
 have r:AJ (X:Int)<=100000:=PL (by rw[BK];exact hX)
 have hm:=jn (X:=X) G;refine Tf hk uP F F0 rfl (by rw[m];decide+kernel) rfl λA' E' N2 Z L AK E4 W=>?_
 have LS:Z.code= .ref c:=by rw[E4];exact F1
 have LZ:Z.qual="_int2digits.<locals>.":=by rw[E4];show fd.qualname++_=_;rw[F2];decide+kernel
 have Aa:∀y kd,fd.scope.names.lookup y=V kd->Z.kindOf y=V kd:=λy kd h=>by rw[W.ok.kindOf];exact h
 have ka:Z.kindOf ("a":Av)=V .local:=Aa _ _ (by rw[m];decide+kernel)
 have kn:Z.kindOf ("n":Av)=V .cell:=Aa _ _ (by rw[m];decide+kernel)
 have kd:Z.kindOf ("a_digits":Av)=V .cell:=Aa _ _ (by rw[m];decide+kernel)
 have ki:Z.kindOf ("inner":Av)=V .cell:=Aa _ _ (by rw[m];decide+kernel)
 have Hd:Z.kindOf ("len":Av)=V .globalImplicit:=Aa _ _ (by rw[m];decide+kernel)
 obtain⟨va,Va,ra⟩:=W.rel.one 0 (.int pX) rfl (by show Ko (Z.kindOf "a")=Y;rw[ka];rfl)
 obtain⟨vn,Vn,rn⟩:=W.rel.one 1 (.int pn) rfl (by show Ko (Z.kindOf "n")=Y;rw[kn];rfl)
 obtain⟨tX,e1⟩:=ra.inv;obtain⟨tN,e2⟩:=rn.inv;have Va:DH Z AK.heap "a" (.int (X:Int) tX):=eX▸e1▸Va;have Vn:DH Z AK.heap "n" (.int (n:Int) tN):=en▸e2▸Vn;have kk:=W.ok.kind;refine Aw (A2 (BE (O0 ?_)) rfl)
 rw[Fa (λv p h=>by cases h)]
 refine Ax (BQ (k:=0) (pos:=GQ 1) (AF ?_))
 refine Bi ?_ (by show _<=C5;rw[CC];simp)
 have X1:BM T AK {AK with heap:=AK.heap.push (Gf [Db 0 AK.toks].toArray 0),toks:=AK.toks+1}:=.push
 refine BE (BE (BE (Pu (args:=[]) (IU rfl) rfl hl ?_)))
 refine(Va.ext X1).load kk (by decide) λpl=>?_
 refine GA ?_
 refine Pc rfl rfl (K9 (es:=[]) (ms:=[]) (B:=C6 Wg) (fn:=C6 Wg) (fo:=0) (sc:=[]) rfl (AF ?_))
 refine G7 ?_
 refine(Vn.ext (X1.trans (.toks (tk:=_)))).load kk (by decide) ?_
 refine DJ (BQ (k:=0) (pos:=GQ 8) (EK ?_))
 refine(Vn.ext ((X1.trans (.toks (tk:=_))).trans (.toks (tk:=_)))).load kk (by decide) ?_
 have eS:((AJ (X:Int):Nat):Int)+(n:Int)-1=((AJ (X:Int)+n-1:Nat):Int):=(A5 (li [] [_,_,_] (.s (.a (.u (.v 1)) (.u (.v 0))) (.k 1)) (.u (.v 2)) [(1,.u (.a (.v 1) (.v 0)),.u (.a (.v 2) (.k 1)))] rfl (jO Fy)) (li [] [_,_,_] (.u (.v 2)) (.s (.a (.u (.v 1)) (.u (.v 0))) (.k 1)) [(1,.u (.a (.v 2) (.k 1)),.u (.a (.v 1) (.v 0)))] rfl (jO (Al (Az (En (.k 1) (.a (.v 1) (.v 0)) [(1,.k 1,.v 0)] rfl G))))));rw[eS];refine uK G (EJ (.v 0) (.k 1000000) [(1,.v 0,.k 100000)] rfl G0) λtk t'=>?_
 refine Pb (Ay _ rfl) (by show GN n X<=_;exact(En (.v 1) (.k 1000000) [(1,.v 0,.k 100000),(1,.v 1,.v 0)] rfl r hm)) ?_
 show Ap _ _ (D6 Z "a_digits" (.ref (AK.heap.push (Gf [Db 0 AK.toks].toArray 0)).objs.size)) _ _ {AK with heap:=(AK.heap.push (Gf [Db 0 AK.toks].toArray 0)).push (Gf (DF (GN n X) (Db 0 AK.toks)).toArray 0),toks:=tk}
 generalize hH:AK.heap.push (Gf [Db 0 AK.toks].toArray 0)=H
 have L1:∀b o,AK.heap.get? b=V o->H.get? b=V o:=λb o e=>hH▸Au _ e
 have L2:AK.heap.objs.size<=H.objs.size:=by rw[<-hH,B6];exact(EJ (.v 0) (.a (.v 0) (.k 1)) [] rfl)
 generalize hR:(DF (GN n X) (Db 0 AK.toks))=R0
 have Ce:R0.length=GN n X:=by rw[<-hR,List.length_replicate]
 have Cf:AK.heap.get? H.objs.size=Ao:=HX L2
 generalize Mk:H.objs.size=D at Cf
 have pD:(H.push (Gf R0.toArray 0)).PlainList D R0.toArray:=⟨0,Mk▸Ay _ rfl⟩;have X2:BM T AK {AK with heap:=H.push (Gf R0.toArray 0),toks:=tk}:=.of_keeps λb o e=>Au _ (L1 b o e)
 obtain⟨cd,Sd⟩:=Oc W.ok (id:="a_digits") (by rw[m];decide+kernel)
 refine Pw W.ok (W.rel.sl.ext X2) X2 Sd (MK W.bs W.rel.sl Sd.frm) λB4 Mo g=>?_
 have NI:D≠cd:=λe=>by
  obtain⟨o,e2,_⟩:=W.rel.sl.frm_occ Sd.frm;rw[<-e,Cf]at e2;cases e2
 have N1:B4.heap.PlainList D R0.toArray:=IT Mo pD NI;have F5:Bs T mg mb s0 B4:=W.bs.upd g.upd λb e=>e▸W.young.frm _ Sd.frm
 have OA:=g.others _ _ (by decide) Va
 have Pk:=g.others _ _ (by decide) Vn
 refine Aw (jl F5 W.ok LS C hT hb LA LC (ha Z) ?_ (λy kd hy Pl=>?_) λf R o HC X4 P1 P2 HF If hp F6 d F7 P4 Ru=>?_)
 ·unfold QQ;rw[ki,LZ,F3]
  decide+kernel
 ·rw[M]at hy;subst Pl;exact W.ok.cells y (.inl (m▸jk (sc:=Wf) (by kernel_rfl) hy))
 obtain⟨ci,Si⟩:=Oc W.ok (id:="inner") (by rw[m];decide+kernel)
 refine Pw W.ok (g.slots.ext X4) X4 Si (MK F5 g.slots Si.frm) λu u5 Bd=>?_
 have fi:f≠ci:=λe=>by
  obtain⟨o,e2,_⟩:=g.slots.frm_occ (s:=B4) Si.frm;rw[<-e,P1]at e2;cases e2
 have RF:D≠ci:=λe=>by
  obtain⟨o,e2,_⟩:=W.rel.sl.frm_occ Si.frm;rw[<-e,Cf]at e2;cases e2
 have Il:u.heap.PlainList D R0.toArray:=IT Bd.upd N1 RF;have Cx:Bs T mg mb s0 u:=F5.upd Bd.upd λb e=>e▸W.young.frm _ Si.frm
 have Is:=Bd.others _ _ (by decide) OA
 have R1:=Bd.others _ _ (by decide) Pk
 have It:=Bd.others _ _ (by decide) g.var
 have IS:=Bd.var;obtain⟨c1,l1,h1⟩:=It.cellAt kd;obtain⟨c2,l2,h2⟩:=R1.cellAt kn;obtain⟨c3,l3,h3⟩:=IS.cellAt ki;have E3:∀a,a=ci->IA HC.heap a:=λa e=>by
  subst e;obtain⟨v,hv⟩:∃v,HC.heap.IsCell a v:=by
   rcases Si with⟨h,_⟩|⟨_,_,h⟩
   ·rw[ki]at h;cases h
   ·exact(g.slots.ext X4).cells _ _ (mem_of_lookup h)
  exact .cell hv
 have Af:OR u.heap f c1 c2 c3 R "a_digits" (.ref D) (.int (n:Int) tN):=by
  have ec:R.closure=([("n",c2),("inner",c3),("a_digits",c1)]:List (Av×An)):=by rw[F7,M,uQ l1 l2 l3]
  obtain⟨k2,k3,k1⟩:=jm (x:="n") (y:="inner") (z:="a_digits") (a:=c2) (b:=c3) (c:=c1) (by decide) (by decide) (by decide)
  refine⟨⟨o,u5.keepF P2 HF fi,HF⟩,(If.upd u5 E3).rec',h1,h2,h3,?_,?_,?_,?_,?_,?_,by rw[d];exact DD,by rw[d];exact GI,by rw[d];exact F4,?_⟩
  ·rw[ec];exact k1
  ·rw[ec];exact k2
  ·rw[ec];exact k3
  ·rw[d,M];decide+kernel
  ·rw[d,M];decide+kernel
  ·rw[d,M];decide+kernel
  ·rw[d,M];decide+kernel
 have I0:DT Z=Ak:=by unfold DT;rw[kk];rfl
 have I4:∀(s6:Ah) (vs':List Ag),Co T (·=D) u s6->s6.heap.PlainList D vs'.toArray->RM n X 0 (GN n X) R0 vs'->
   Ap (Aq Aj w) A' (C4 [.Return (V (.Name "a_digits" (GQ 25))) (GQ 26)] Z) (λfl S=>∃v,fl= .ret v/\Rd J N2 S.heap v (.lst ((Br (GN n X)).map λ(j:Nat)=>Internal.D.int (.k ((dg n X j:Nat):Int))))/\Co T (D5 Z) AK S) E' s6:=λs6 vs' u6 p6 d6=>by
  refine Aw (CD ?_)
  have R2:c1≠D:=λe=>by
   obtain⟨o,e2,_⟩:=W.rel.sl.frm_occ (.inr ⟨_,mem_of_lookup l1⟩);rw[e,Cf]at e2;cases e2
  have Sg:DH Z s6.heap "a_digits" (.ref D):=.inr ⟨.inl kd,by decide,c1,l1,u6.cell h1 R2⟩
  refine Sg.load kk (by decide) ?_
  have Gl:∀o,AK.heap.get? D≠V o:=λo e=>by rw[Cf]at e;cases e
  have U:Co T (λb=>D5 Z b\/b=D) AK s6:=((g.upd.mono λb e=>e▸.inl Sd.frm).trans (Bd.upd.mono λb e=>e▸.inl Si.frm)).trans (u6.mono λb e=>.inr e)
  refine⟨_,rfl,?_,⟨λb o t hw e=>U.keep b o t (λq=>q.elim hw λq=>Gl o (q▸e)) e,λb o hw e t=>U.keep2 b o (λq=>q.elim hw λq=>Gl o (q▸e)) e t,U.occ,U.tab,U.gens,U.os⟩⟩
  obtain⟨nn,e⟩:=p6;refine .lst (λh=>?_) e ?_
  ·obtain⟨o,e2,_⟩:=W.occ D h;exact Gl o e2
  ·have:=uL (J:=J) (N:=N2) (h:=s6.heap) (l:=(Br (GN n X)).map (dg n X)) (I:=vs') (by rw[d6.len,Ce];simp) λi q hq=>by
    rw[EU]at hq;by_cases hi:i<GN n X
    ·rw[List.getElem?_range hi]at hq;cases hq;obtain⟨t,e⟩:=d6.inn i (Be _) hi;exact⟨t,e⟩
    ·rw[Dl (by simpa using hi)]at hq
     cases hq
   rw[DN]at this;exact this
 refine Aw (EN (DY (Is.load kk (by decide) (Lq ?_))))
 by_cases Go:X=0
 ·subst Go;rw[if_neg (by decide)]
  refine Bz ?_
  have hz:GN n 0=0:=by
   unfold GN;exact Jp (by show 0+n-1<n;exact(En (.a (.v 1) (.k 1)) (.v 0) [(1,.a (.v 1) (.k 1),.a (.k 0) (.v 0))] rfl (Al (Az (EJ (.k 1) (.a (.k 0) (.v 0)) [(1,.k 1,.v 0)] rfl G)))))
  refine I4 u R0 .refl Il ⟨rfl,λi K h=>by rw[hz]at h;exact(Eg 0 (EJ (.k 1) (.k 0) [(1,.a (.v 0) (.k 1),.k 0)] rfl h)).elim,λK K=>rfl⟩
 ·rw[if_pos (by simpa using Go)]
  have Lc:=uR G Go;refine Aw (DX ?_ I0 rfl)
  refine AX (IS.load kk (by decide) ?_)
  have SC:=Af.fn;obtain⟨o',Gt,E5⟩:=SC;refine Ba (o:=o') (fd:=R) (Ng (λv p h=>by cases h) ?_)
  rw[Fa (λv p h=>by cases h),Fa (λv p h=>by cases h),Fa (λv p h=>by cases h)]
  refine Ax (Is.load kk (by decide) ?_)
  refine Ax (BQ (k:=0) (pos:=GQ 18) (Ax ?_))
  refine AX (Bl kk Hd (Ex (W.ok.glob▸(Cx.step .toks).ng) (Cx.gl.free 0 (by decide)) (W.ok.bui▸(Cx.step .toks).nb) (Cx.gl.val 0 (by decide)) ?_) (by decide))
  refine B0 rfl (Ng (λv p h=>by cases h) ?_)
  rw[Fa (λv p h=>by cases h)]
  have Y6:BM T u {u with toks:=u.toks+1}:=.toks
  refine Ax ((It.ext Y6).load kk (by decide) (AF ?_))
  obtain⟨n5,CH⟩:=Il;refine Ge ⟨_,CH,rfl,_,rfl⟩ (by rw[AD,Ce];exact(li [] [_,_] (.a (.u (.v 1)) (.k 1)) (.k (2^63)) [(1,.u (.v 0),.u (.k 100000)),(1,.u (.v 1),.u (.v 0))] rfl (jO r) (jO hm))) (AF ⟨⟨Gt,E5⟩,?_⟩)
  rw[AD,Ce];have Fn:GN n X<=2^17:=(En (.v 1) (.k (2^17)) [(1,.v 0,.k 100000),(1,.v 1,.v 0)] rfl r hm);have SI:=Wh (X:=X) G;have Tx:X<2^(n*(GN n X-0)):=AE (Qz X) (AV (by decide) (by rw[GY];exact SI))
  have TI:n*(GN n X-0)<=10000000:=by
   rw[GY];have h1:n*GN n X<=AJ (X:Int)+n-1:=by unfold GN;exact QZ _ _
   exact(Ip (.v 3) (.k 10000000) [(1,.v 0,.k 100000),(1,.v 1,.k 100000),(1,.v 3,.v 2),(1,.v 2,.a (.v 1) (.v 0))] rfl G0 r h1 (DB _ _))
  have Lt:=W.ha.depth;refine uB (f:=f) (c1:=c1) (c2:=c2) (c3:=c3) (fd:=R) (tn:=tN) G F6 ?_ (Ev R hp P4 Ru) ?_ 17 A' _ _ R0 X 0 (GN n X) _ _ _ _ W.ha.handled ?_ ?_ ?_ ⟨n5,CH⟩ Lc Fn (by rw[Ce];exact AI _) (by rw[Ce];exact(EJ (.v 0) (.k 1000000) [(1,.v 0,.k (2^17))] rfl Fn)) TI Tx λs6 vs' k6 TO o6 p6 d6=>?_
  ·intro y hy;rw[d,M];exact NO (l:=Wc) (by kernel_rfl) y hy
  ·have ne:∀c v,u.heap.IsCell c v->c≠D:=λc v ⟨o,e1,e2⟩ e=>by rw[e,CH]at e1;cases e1;cases e2
   exact⟨λe=>(by rw[e,CH]at Gt;cases Gt;cases E5),ne _ _ h1,ne _ _ h2,ne _ _ h3⟩
  ·have:DQ=1000:=rfl;exact(EV (.a (.a (.v 1) (.k 17)) (.k 1)) (.v 2) [(1,.a (.v 0) (.k 1),.k 100),(1,.v 1,.a (.k 400) (.a (.v 0) (.k 1))),(1,.k 1000,.v 2)] rfl hk Lt (Al this.symm))
  ·exact Cx.ext.nolimit F.lim
  ·exact Af
  ·refine Bz ?_
   exact I4 s6 vs' (uM ⟨n5,CH⟩ p6 (λb o hb e=>k6 b o hb e) TO o6) p6 d6
noncomputable abbrev uT(params:Fb)(isc:Scope):List Bx:=[
 .FunctionDef "inner" params Zw [] Ao [] isc Ao "inner" (LV 0),
 .Return (V (.IfExp (.Name "digits" (LV 1)) (.Call (.Name "inner" (LV 2)) [.Constant (.int 0) 0 (LV 3),.Call (.Name "len" (LV 4)) [.Name "digits" (LV 5)] [] (LV 6)] [] (LV 7)) (.Constant (.int 0) 0 (LV 8)) (LV 9))) (LV 10)]
noncomputable abbrev Wi:List (Av×AC):=[("L",.local),("R",.local),("mid",.local),("shift",.local),("digits",.free),("inner",.free),("n",.free)]
noncomputable abbrev uU:List (Av×AC):=[("digits",.cell),("n",.cell),("inner",.cell),("len",.globalImplicit)]
noncomputable def jo:List Av:=["digits","n"]
theorem uV:EA (C6 jo):=Nn (by decide+kernel)
theorem uX{Z:DS}{c1 c2 c3:An}(l1:Z.cells.lookup ("digits":Av)=V c1)(l2:Z.cells.lookup ("n":Av)=V c2)(l3:Z.cells.lookup ("inner":Av)=V c3):HK Z Wi []=([("n",c2),("inner",c3),("digits",c1)]:List (Av×An)):=by
 unfold Wi;rw[Nq,Nq,Nq,Nq,RN l1,RN l3,RN l2]
 rfl
set_option tactic.hygienic true in
theorem uY(hk:k+1<=100){a c P:An}{fd:BA}{params:Fb}{isc:Scope}(F:JT s0 a fd (uT params isc))(CH:KB (C6 jo) fd [0,1])(m:fd.scope.names=uU)(DD:fd.code= .ref c)(Ev:fd.qualname="_digits2int")
  (C:Lh s0.heap c P)(hT:T P)(hb:s0.heap.BuiltinsAt mg P)(Hd:params.defaults=[])(HC:params.kw_defaults=[])(ha:∀Z,aT params Ao Z=[])(E3:SN (LV 0).line="_digits2int.<locals>.inner")
  (u:isc.names=Wi)(Bd:isc.kind= .function)(F2:isc.isCoroutine=Ak)(E4:isc.isGenerator=Ak)
  (Ce:∀R:BA,R.params=params->R.defaults= .none->R.kwdefaults= .none->∀a b,Du R ⟨[a,b],[]⟩=BU [(("L":Av),a),("R",b)])
  {n:Nat}{X:List Nat}{pn:PX}(en:pn.ev J=(n:Int))(HF:∀q∈X,q<2^n)(G:X.length<=100000)(E5:n*X.length<=10000000):
  ∀(A:A1) (E:Ag->Ah->Prop) (N:An->Prop) (s:Ah) (I:List Ag) (Q:Ag->Ah->Prop),Eo k A->Bs T mg mb s0 s->(∀a,N a->Da s.heap a)->BV J N s.heap I [.lst (X.map λ(q:Nat)=>Internal.D.int (.k (q:Int))),.int pn]->
   GB T J N s (.int (.k ((GG n X:Nat):Int))) Q->Ap (Aq Aj w) A (DP (.ref a) I) Q E s:=by
 refine Tf hk uV F CH rfl (by rw[m];decide+kernel) rfl λA' E' N2 Z L AK Cx W=>?_
 have If:Z.code= .ref c:=by apply AO Cx;exact DD
 have Il:Z.qual="_digits2int.<locals>.":=by apply AO Cx;show fd.qualname++_=_;rw[Ev];decide+kernel
 have Aa:∀y kd,fd.scope.names.lookup y=V kd->Z.kindOf y=V kd:=λy kd h=>by rw[W.ok.kindOf];exact h
 have kn:Z.kindOf ("n":Av)=V .cell:=Aa _ _ (by rw[m];decide+kernel)
 have kd:Z.kindOf ("digits":Av)=V .cell:=Aa _ _ (by rw[m];decide+kernel)
 have ki:Z.kindOf ("inner":Av)=V .cell:=Aa _ _ (by rw[m];decide+kernel)
 have F3:Z.kindOf ("len":Av)=V .globalImplicit:=Aa _ _ (by rw[m];decide+kernel)
 obtain⟨va,Va,ra⟩:=W.rel.one 0 _ rfl (by show Ko (Z.kindOf "digits")=Y;rw[kd];rfl)
 obtain⟨vn,Vn,rn⟩:=W.rel.one 1 (.int pn) rfl (by show Ko (Z.kindOf "n")=Y;rw[kn];rfl)
 obtain⟨D,I,nD,e1,hN,eD,rD⟩:=ra.inv;obtain⟨tN,e2⟩:=rn.inv;have Vd:DH Z AK.heap "digits" (.ref D):=e1▸Va;have Vn:DH Z AK.heap "n" (.int (n:Int) tN):=en▸e2▸Vn;have kk:=W.ok.kind;have r:X.length=I.length:=by have:=rD.length;simpa using this.symm
 have Is:∀(i q:Nat),X[i]?=V q->∃t,I[i]?=V (Db (q:Int) t):=λi q e=>by
  obtain⟨v,h1,h2⟩:=rD.get (i:=i) (d:=Internal.D.int (.k (q:Int))) (by rw[EU,e];rfl)
  obtain⟨t,e⟩:=h2.inv;exact⟨t,h1.trans (congrArg V e)⟩
 refine Aw (jl W.bs W.ok If C hT hb Hd HC (ha Z) ?_ (λy kd hy It=>?_) λf R o F4 X4 IS I0 F5 F6 hp Fn g F0 I4 Lc=>?_)
 ·unfold QQ;rw[ki,Il];apply AO E3
  decide+kernel
 ·rw[u]at hy;subst It;exact W.ok.cells y (.inl (m▸jk (sc:=Wi) (by kernel_rfl) hy))
 obtain⟨ci,Si⟩:=Oc W.ok (id:="inner") (by rw[m];decide+kernel)
 refine Pw W.ok (W.rel.sl.ext X4) X4 Si (MK W.bs W.rel.sl Si.frm) λj u5 H=>?_
 have fi:f≠ci:=λe=>by
  obtain⟨o,e2,_⟩:=W.rel.sl.frm_occ Si.frm;rw[<-e,IS]at e2;cases e2
 have Lt:D≠ci:=λe=>hN (.inl (W.hm.frm (e▸Si.frm)))
 have M:j.heap.get? D=V (Gf I.toArray nD):=H.upd.keep2 D _ Lt eD rfl;have U:Bs T mg mb s0 j:=W.bs.upd H.upd λb e=>e▸W.young.frm _ Si.frm
 have F1:=H.others _ _ (by decide) Vd
 have LA:=H.others _ _ (by decide) Vn
 have F7:=H.var;obtain⟨c1,l1,h1⟩:=F1.cellAt kd;obtain⟨c2,l2,h2⟩:=LA.cellAt kn;obtain⟨c3,l3,h3⟩:=F7.cellAt ki;have Cf:∀a,a=ci->IA F4.heap a:=λa e=>by
  subst e;obtain⟨v,hv⟩:∃v,F4.heap.IsCell a v:=by
   rcases Si with⟨h,_⟩|⟨_,_,h⟩
   ·rw[ki]at h;cases h
   ·exact(W.rel.sl.ext X4).cells _ _ (mem_of_lookup h)
  exact .cell hv
 have Af:OR j.heap f c1 c2 c3 R "digits" (.ref D) (.int (n:Int) tN):=by
  have ec:R.closure=([("n",c2),("inner",c3),("digits",c1)]:List (Av×An)):=by rw[F0,u,uX l1 l2 l3]
  obtain⟨k2,k3,k1⟩:=jm (x:="n") (y:="inner") (z:="digits") (a:=c2) (b:=c3) (c:=c1) (by decide) (by decide) (by decide)
  refine⟨⟨o,u5.keepF I0 F5 fi,F5⟩,(F6.upd u5 Cf).rec',h1,h2,h3,?_,?_,?_,?_,?_,?_,by rw[g];exact Bd,by rw[g];exact F2,by rw[g];exact E4,?_⟩
  ·rw[ec];exact k1
  ·rw[ec];exact k2
  ·rw[ec];exact k3
  ·rw[g,u];decide+kernel
  ·rw[g,u];decide+kernel
  ·rw[g,u];decide+kernel
  ·rw[g,u];decide+kernel
 refine Aw (CD (aI (DY (F1.load kk (by decide) (Sf ⟨_,M,rfl,_,rfl⟩ ?_ ?_)))))
 ·rw[AD];exact(li [] [_,_] (.a (.u (.v 1)) (.k 1)) (.k (2^63)) [(1,.u (.v 0),.u (.k 100000)),(1,.u (.v 1),.u (.v 0))] rfl (jO G) (jO (Al r.symm)))
 have U5:Co T (D5 Z) AK j:=H.upd.mono λb e=>e▸Si.frm
 cases hq:X with
 |nil=>
  rw[hq]at r;have LC:I=[]:=C8 r.symm;subst LC;rw[show(!(([]:List Ag).toArray.isEmpty))=Ak from rfl,if_neg AR];refine BQ ?_
  exact⟨_,rfl,.int rfl,U5.trans (BM.toks.upd)⟩
 |cons q0 qr=>
  have Gl:I≠[]:=λe=>by rw[e,hq]at r;cases r
  rw[show(!(I.toArray.isEmpty))=Y by induction I with|nil=>exact absurd rfl Gl|cons _ _=>rfl,if_pos rfl]
  have Y1:BM T j {j with toks:=j.toks+1+1}:=.toks
  refine AX ((F7.ext Y1).load kk (by decide) ?_)
  have LS:=Af.fn;obtain⟨o',LZ,Go⟩:=LS;refine Ba (o:=o') (fd:=R) (Ng (λv p h=>by cases h) ?_)
  rw[Fa (λv p h=>by cases h),Fa (λv p h=>by cases h)]
  refine Ax (BQ (k:=0) (pos:=LV 3) (Ax ?_))
  refine AX (Bl kk F3 (Ex (W.ok.glob▸(U.step .toks).ng) (U.gl.free 0 (by decide)) (W.ok.bui▸(U.step .toks).nb) (U.gl.val 0 (by decide)) ?_) (by decide))
  refine B0 rfl (Ng (λv p h=>by cases h) ?_)
  rw[Fa (λv p h=>by cases h)]
  have Y6:BM T j {j with toks:=j.toks+1+1+1}:=.toks
  refine Ax ((F1.ext Y6).load kk (by decide) (AF ?_))
  refine Ge ⟨_,M,rfl,_,rfl⟩ (by rw[AD];exact(li [] [_,_] (.a (.u (.v 1)) (.k 1)) (.k (2^63)) [(1,.u (.v 0),.u (.k 100000)),(1,.u (.v 1),.u (.v 0))] rfl (jO G) (jO (Al r.symm)))) (AF ⟨⟨LZ,Go⟩,?_⟩)
  rw[AD];have Gt:I.length-0<=2^17:=(EV (.v 2) (.k (2^17)) [(1,.v 0,.k 100000),(1,.v 1,.v 0),(1,.v 2,.v 1)] rfl G (Al r.symm) (DB _ _));have GI:=W.ha.depth;refine uF (f:=f) (c1:=c1) (c2:=c2) (c3:=c3) (fd:=R) (tn:=tN) r Is HF (En (.v 1) (.k 1000000) [(1,.v 0,.k 100000),(1,.v 1,.v 0)] rfl G (Al r.symm)) (by rw[<-r];exact E5) Fn ?_ (Ce R hp I4 Lc) 17 A' _ _ 0 I.length _ _ _ W.ha.handled ?_ ?_ Af ⟨nD,M⟩ ?_ Gt (AI _) λs6 t k6 L1 o6=>?_
  ·intro y hy;rw[g,u];exact NO (l:=Zx) (by kernel_rfl) y hy
  ·have:DQ=1000:=rfl;exact(EV (.a (.a (.v 1) (.k 17)) (.k 1)) (.v 2) [(1,.a (.v 0) (.k 1),.k 100),(1,.v 1,.a (.k 400) (.a (.v 0) (.k 1))),(1,.k 1000,.v 2)] rfl hk GI (Al this.symm))
  ·exact U.ext.nolimit F.lim
  ·induction I with
   |nil=>exact absurd rfl Gl
   |cons _ _=>simp
  ·have G0:KD X 0 I.length=X:=by
    unfold KD;rw[C7,GY,<-r,List.take_length]
   rw[G0];apply AO hq
   refine⟨_,rfl,.int rfl,U5.trans (BM.upd ⟨λb o B e=>k6 b o e,λb o e B=>k6 b o e,λb B t=>t.keep (λc o B e=>k6 c o e) (λo e=>k6 _ o e),λB p=>L1▸p,o6⟩)⟩
section
variable (Aj:Bh) (w:Ca) (T:An->Prop) (J:Sg) (mg mb:Av->Option Ag) (s0:Ah) (fn:Nat->Av)
def GU(k:Nat)(f:Nat)(O:List D)(d:D):Prop:=∃a,Yg s0 mg (fn f) a/\∀(A:A1) (E:Ag->Ah->Prop) (N:An->Prop) (s:Ah) (I:List Ag) (Q:Ag->Ah->Prop),Eo k A->Bs T mg mb s0 s->(∀a,N a->Da s.heap a)->
 BV J N s.heap I O->GB T J N s d Q->Ap (Aq Aj w) A (DP (.ref a) I) Q E s
end
noncomputable def ib(i:Int):Int:=(AJ i:Int)
noncomputable abbrev nI(q:Nat):D:=.int (.k (q:Int))
noncomputable abbrev iI(q:Int):D:=.int (.k q)
noncomputable def GH(f k:Nat)(o r:Option D):Option D:=match As f k with
 |true=>o
 |false=>r
theorem GV{f k:Nat}{o r:Option D}{d:D}(h:GH f k o r=V d):(f=k/\o=V d)\/r=V d:=by
 unfold GH at h;cases e:As f k with
 |true=>rw[e]at h;exact .inl ⟨AB e,h⟩
 |false=>rw[e]at h;exact .inr h
noncomputable def MQ(c:Prop)[Decidable c](d:D):Option D:=match decide c with
 |true=>V d
 |false=>Ao
theorem PM{c:Prop}{i:Decidable c}{d e:D}(h: @MQ c i d=V e):c/\d=e:=by
 unfold MQ at h;cases q:decide c with
 |true=>rw[q]at h;exact⟨of_decide_eq_true q,sI h⟩
 |false=>rw[q]at h;exact nS h
theorem OS{c:Prop}{i:Decidable c}{d:D}(h:c): @MQ c i d=V d:=by
 unfold MQ;rw[decide_eq_true h]
noncomputable def ZA(l:List D)(d:D):Option D:=match l with
 |[]=>V d
 |_::_=>Ao
theorem jp{l:List D}{d e:D}(h:ZA l d=V e):l=[]/\d=e:=by
 induction l with
 |nil=>exact⟨rfl,sI h⟩
 |cons _ _=>exact nS h
noncomputable def RO{z:Type}(l:List D)(f:D->D->D->Option z):Option z:=match l with
 |[]=>Ao
 |a::r=>two r (f a)
theorem Tu{z:Type}{l:List D}{r:z}{f:D->D->D->Option z}(h:RO l f=V r):Pj (λa b c=>l=[a,b,c]) λa b c=>f a b c=V r:=by
 induction l with
 |nil=>exact nS h
 |cons a l=>
  obtain⟨b,c,e,h⟩:=Ni h;exact⟨a,b,c,by apply AO e;rfl,h⟩
noncomputable def Wj(l:List D)(f:Int->Option D):Option D:=one l λx=>H4 x f
noncomputable def Tv(l:List D)(f:Int->Int->Option D):Option D:=two l λx y=>H4 x λi=>H4 y (f i)
theorem ZB{l:List D}{d:D}{f:Int->Option D}(h:Wj l f=V d):FC (λi=>l=[iI i]) λi=>f i=V d:=by
 obtain⟨x,e,h⟩:=Px h;obtain⟨i,e2,h⟩:=H5 h;exact⟨i,by rw[e];apply AO e2;rfl,h⟩
theorem Wm{l:List D}{d:D}{f:Int->Int->Option D}(h:Tv l f=V d):LW (λi j=>l=[iI i,iI j]) λi j=>f i j=V d:=by
 obtain⟨x,y,e,h⟩:=Ni h;obtain⟨i,e2,h⟩:=H5 h;obtain⟨j,X,h⟩:=H5 h;exact⟨i,j,by rw[e];apply Dz e2 X;rfl,h⟩
noncomputable def cB(f:Nat)(O:List D):Option D:=GH f 905 (Wj O λi=>V (iI (ib i))) (GH f 908 (ZA O (iI 4000)) Ao)
noncomputable def jq:List Ad:=[.ite (.cmp (.bin .Sub (.call 905 [.n 0]) (.n 2)) [(.LtE,.call 908 [])]) [.ret (.bi 8 [.n 0,.n 1])] [],.bad]
theorem jr{a b:Int}(h:a<b):I7 a b=Y:=Rb.mpr h
theorem ZC{a b:Int}(h:¬a<b):I7 a b=Ak:=by
 cases e:I7 a b with
 |false=>rfl
 |true=>exact absurd (Rb.mp e) h
theorem js{a b:Int}(h:a≠b):J0 a b=Ak:=by
 cases e:J0 a b with
 |false=>rfl
 |true=>exact absurd (NQ.mp e) h
theorem uZ{i m:Int}(h:i-m<=4000):¬4000<i+ -m:=(Int.not_lt.mpr (li [_,_] [] (.a (.v 0) (.g (.v 1))) (.k 4000) [(1,.s (.v 0) (.v 1),.k 4000)] rfl h))
theorem u9{a b m:Int}(F:b≠0)(y:b.natAbs<2^8000)(hm:ib a-m<=4000):CL cB 20 jq [(0,iI a),(1,iI b),(2,iI m)] []=V (.ret (.tup [iI (a.fdiv b),iI (a.fmod b)])):=by
 have c:ev cB 19 [(0,iI a),(1,iI b),(2,iI m)] (CU []) (.cmp (.bin .Sub (.call 905 [.n 0]) (.n 2)) [(.LtE,.call 908 [])])=V (.bool (!I7 4000 (ib a+ -m))):=rfl;rw[ZC (uZ hm)]at c;have e2:ev cB 18 [(0,iI a),(1,iI b),(2,iI m)] (CU []) (.bi 8 [.n 0,.n 1])=V (.tup [iI (a.fdiv b),iI (a.fmod b)]):=by
  show CB (!J0 b 0&&Bf b.natAbs (2^8000)) _=_;rw[js F,show Bf b.natAbs (2^8000)=Y from AL y];rfl
 refine(Np c).trans ?_
 exact congrArg (λz=>HM z (CL cB 19 [.bad])) (Qy (n:=18) e2)
noncomputable def Tw:List D->Option (List Nat)
 |[]=>V []
 |d::r=>H4 d λi=>P9 i λq=>BG (Tw r) λn=>V (q::n)
noncomputable def cI(n x:Nat):D:=.lst ((Br (GN n x)).map λ(j:Nat)=>iI ((dg n x j:Nat):Int))
noncomputable def cP(f:Nat)(O:List D):Option D:=GH f 905 (Wj O λi=>V (iI (ib i)))
 (GH f 906 (Tv O λi j=>MQ (0<=j/\ib i+j<=2^27) (iI (i*2^j.toNat)))
 (GH f 15 (Tv O λx n=>MQ (0<=x/\1<=n/\n<=100000/\x<2^100000) (cI n.toNat x.toNat))
 (GH f 19 (RO O λx y z=>H4 x λa=>H4 y λb=>H4 z λm=>MQ (b≠0/\b.natAbs<2^8000/\ib a-m<=4000) (.tup [iI (a.fdiv b),iI (a.fmod b)]))
 (GH f 16 (two O λx y=>Ly x λO=>H4 y λn=>BG (Tw O) λc=>MQ (0<=n/\(∀q∈c,q<2^n.toNat)/\c.length<=100000/\n.toNat*c.length<=10000000) (iI ((GG n.toNat c:Nat):Int))) Ao))))
theorem vd(n:List Nat):Tw (n.map nI)=V n:=by
 induction n with
 |nil=>rfl
 |cons q r ih=>
  show BG (Tw (r.map nI)) _=_;rw[ih];rfl
theorem ve{O:List D}:∀{n:List Nat},Tw O=V n->O=n.map nI:=by
 induction O with
 |nil=>exact λh=>sI h▸rfl
 |cons d r ih=>
  intro n h;obtain⟨i,e1,h⟩:=H5 h;obtain⟨q,e2,h⟩:=Q6 h;obtain⟨a,G,h⟩:=Cn h;rw[<-sI h,e1,e2];apply AO (ih G);rfl
noncomputable def Oi(n b:Nat):List Nat->Nat->List Nat×Nat
 |[],r=>([],r)
 |d::l,r=>((r*2^n+d)/b::(Oi n b l ((r*2^n+d)%b)).1,(Oi n b l ((r*2^n+d)%b)).2)
theorem jt(n b:Nat)(l:List Nat):∀r:Nat,(Oi n b l r).1.length=l.length:=by
 induction l with
 |nil=>exact λz=>rfl
 |cons d l ih=>exact λr=>congrArg Fw (ih _)
theorem vf{r n k v d:Nat}:r*(n*k)+(v+k*d)=(r*n+d)*k+v:=by
 rw[Hu,KM,B2 k d,Fs,El v]
theorem vg{b q z k v x:Nat}(e:b*q+z=x):x*k+v=b*(q*k)+(z*k+v):=by
 apply CE e;rw[Hu,KM,Fs]
theorem ju{r p d b:Nat}(Q:r<b)(hd:d<p):r*p+d<p*b:=by
 have h:r*p+d<(r+1)*p:=by rw[Hu,Jy];exact M2 hd _
 exact AE h (by rw[B2 p];exact Hy _ Q)
theorem ZD(n d:Nat):GG n [d]=d:=by
 show d+2^n*0=d;rw[Dy,FR]
theorem vh(n b:Nat)(F:0<b)(l:List Nat):∀r:Nat,r<b->(∀d∈l,d<2^n)->
  GG n (Oi n b l r).1.reverse=(r*2^(n*l.length)+GG n l.reverse)/b/\(Oi n b l r).2=(r*2^(n*l.length)+GG n l.reverse)%b/\∀q∈(Oi n b l r).1,q<2^n:=by
 induction l with
 |nil=>
  intro r Q _;have e:r*2^(n*0)+0=r:=by rw[Dy,E7,Ee,FR]
  refine⟨?_,?_,λq h=>nomatch h⟩
  ·show 0=(r*2^(n*0)+0)/b;rw[e];apply AO (Jp Q);rfl
  ·show r=(r*2^(n*0)+0)%b;rw[e];apply AO (GK Q);rfl
 |cons d l ih=>
  intro r Q j;have hd:=j d (.head _);obtain⟨U,G,z⟩:=ih ((r*2^n+d)%b) (Dj _ F) λx L=>j x (.tail _ L)
  have R:2^(n*(l.length+1))=2^n*2^(n*l.length):=by rw[Ed,Ee,CR,B2]
  have D:r*2^(n*(d::l).length)+GG n (d::l).reverse=b*((r*2^n+d)/b*2^(n*l.length))+((r*2^n+d)%b*2^(n*l.length)+GG n l.reverse):=by
   rw[Cb,R,Gi,Wd,CP,ZD,vf];exact vg (EG _ _)
  rw[D,Nat.mul_add_div F,<-U,Nat.mul_add_mod];refine⟨?_,G,λq M=>?_⟩
  ·show GG n ((r*2^n+d)/b::(Oi n b l ((r*2^n+d)%b)).1).reverse=_;rw[Gi,Wd,CP,jt,ZD,El,B2 (2^(n*l.length))]
  ·rcases jC M with e|M
   ·apply AO e;rw[LR F]
    exact ju Q hd
   ·exact z q M
theorem vj(n X m:Nat):GG n ((Br m).map (dg n X))=X%2^(n*m):=by
 induction m with
 |zero=>
  show 0=X%2^(n*0);rw[Dy,E7,Nat.mod_one]
 |succ m ih=>
  rw[List.range_succ,DR,Wd,ih,BS,NL];show _+2^(n*m)*GG n [dg n X m]=_;rw[ZD,Ed,Ee,CR];apply AO Nat.mod_mul
  rfl
noncomputable def Wn:List Ad:=[.asg [7,4] Ak (.call 19 [.bin .Add (.call 906 [.n 4,.n 2]) (.n 6),.n 1,.n 2]),.app 5 (.n 7)]
noncomputable def jw:List Ad:=[.asg [2] Y (.call 905 [.n 1]),.asg [3] Y (.call 15 [.n 0,.n 2]),.asg [4] Y (.c (.int (.k 0))),.anew 5 (.lst []),.loop [6] Y 4 [.n 3] Wn,.rev 5,.frz 5,.asg [8] Y (.call 16 [.n 5,.n 2]),.ret (.tup [.n 8,.n 4])]
theorem HN{C:Nat->List D->Option D}{n x:Nat}{ρ Bt:List (Nat×D)}{d:D}(h:lk x ρ=V d):ev C (n+1) ρ Bt (.n x)=V d:=h
theorem Mb{C:Nat->List D->Option D}{n f:Nat}{as:List M}{O:List D}{d:D}{ρ Bt:List (Nat×D)}(h:Gs (ev C n ρ Bt) as=V O)(E:C f O=V d):ev C (n+1) ρ Bt (.call f as)=V d:=by
 show BG (Gs (ev C n ρ Bt) as) _=_;rw[h];exact E
theorem PN{C:Nat->List D->Option D}{n:Nat}{o:BY}{a b:M}{x y d:D}{ρ Bt:List (Nat×D)}(U:ev C n ρ Bt a=V x)(G:ev C n ρ Bt b=V y)(h:Ra o x y=V d):ev C (n+1) ρ Bt (.bin o a b)=V d:=by
 show BG (ev C n ρ Bt a) _=_;rw[U];show BG (ev C n ρ Bt b) _=_;rw[G];exact h
theorem ZE{C:Nat->List D->Option D}{n:Nat}{es:List M}{O:List D}{ρ Bt:List (Nat×D)}(h:Gs (ev C n ρ Bt) es=V O):ev C (n+1) ρ Bt (.tup es)=V (.tup O):=by
 show(Gs (ev C n ρ Bt) es).map D.tup=_;rw[h];rfl
theorem ZF{C:Nat->List D->Option D}{n x y:Nat}{e:M}{d a:D}{r:List Ad}{ρ:List (Nat×D)}{ow:List (Nat×Ae)}(h:ev C n ρ (CU ow) e=V (.tup [d,a]))(b:J4 [x,y] ow=Y):CL C (n+1) (.asg [x,y] Ak e::r) ρ ow=CL C n r ((y,a)::(x,d)::Dn [x,y] ρ) ow:=by
 show BG (ev C n ρ (CU ow) e) _=_;rw[h];rw[b];rfl
theorem vm{C:Nat->List D->Option D}{n x:Nat}{O:List D}{r:List Ad}{ρ:List (Nat×D)}{ow:List (Nat×Ae)}(j:lk x ow=V (.lst O))(i:AS O=Y):CL C (n+1) (.rev x::r) ρ ow=CL C n r ρ (HL x (.lst O.reverse) ow):=by
 show BG (lk x ow) _=_;rw[j];show CB (AS O) _=_;rw[i];rfl
theorem vo{C:Nat->List D->Option D}{n x:Nat}{e:M}{O:List D}{r:List Ad}{ρ:List (Nat×D)}{ow:List (Nat×Ae)}(h:ev C n ρ (CU ow) e=V (.lst O))(E:(J4 [x] ow&&Pv e)=Y):CL C (n+1) (.anew x e::r) ρ ow=CL C n r (Dn [x] ρ) ((x,.lst O)::ow):=by
 show BG (ev C n ρ (CU ow) e) _=_;rw[h];rw[E];rfl
theorem vq{C:Nat->List D->Option D}{n x:Nat}{o:Ae}{r:List Ad}{ρ:List (Nat×D)}{ow:List (Nat×Ae)}(h:lk x ow=V o):CL C (n+1) (.frz x::r) ρ ow=CL C n r ((x,o.d)::Dn [x] ρ) (L5 x ow):=by
 show oE (lk x ow) (CL C n r ρ ow) (λo=>CL C n r ((x,o.d)::Dn [x] ρ) (L5 x ow))=_
 rw[h];rfl
theorem jx{x k:Nat}(h:x<2^k):ib (x:Int)<=k:=jO (PL (x:=(x:Int)) (k:=k) (by rw[BK];exact h))
theorem vv{n:Nat}{i:Int}(h:i<=n)(M:n<=4000):0<=(n:Int)/\i+(n:Int)<=2^27:=⟨(li [] [_] (.k 0) (.u (.v 0)) [] rfl),(li [_] [_] (.a (.v 0) (.u (.v 0))) (.k (2^27)) [(1,.v 0,.u (.v 0)),(2,.u (.v 0),.u (.k 4000))] rfl h (jO M))⟩
theorem vw{n:Nat}{i:Int}(h:i<=((n+n:Nat):Int))(M:n<=4000):i-(n:Int)<=4000:=(li [_] [_] (.s (.v 0) (.u (.v 0))) (.k 4000) [(1,.v 0,.u (.a (.v 0) (.v 0))),(1,.u (.v 0),.u (.k 4000))] rfl h (jO M))
theorem vy(x:Nat){b:Nat}:((x:Int).fdiv b,(x:Int).fmod b)=(((x/b:Nat):Int),((x%b:Nat):Int)):=by
 rw[CQ _ (AW _),Dm _ (AW _)];rfl
theorem jy(x b:Nat):D.tup [iI ((x:Int).fdiv b),iI ((x:Int).fmod b)]= .tup [nI (x/b),nI (x%b)]:=congrArg (λp:Int×Int=>D.tup [iI p.1,iI p.2]) (vy x)
theorem vz(r n d:Nat):(r:Int)*2^((n:Int)).toNat+(d:Int)=((r*2^n+d:Nat):Int):=by
 rw[Cz,B8,CT,EF];rfl
theorem vA{n b r d:Nat}{acc:List Nat}{ρ:List (Nat×D)}(F:0<b)(a:b<2^n)(M:n<=4000)(Q:r<b)(hd:d<2^n)(w:acc.length<=100000)
  (l1:lk 1 ρ=V (nI b))(l2:lk 2 ρ=V (nI n))(l4:lk 4 ρ=V (nI r)):
  JE (CL cP 30 Wn) [6] Y (nI d) ρ [(5,.lst (acc.map nI))]=V (.next ((4,nI ((r*2^n+d)%b))::(7,nI ((r*2^n+d)/b))::Dn [7,4] ((6,nI d)::Dn [6] ρ)) [(5,.lst ((acc++[(r*2^n+d)/b]).map nI))]):=by
 have h:lk 1 ((6,nI d)::Dn [6] ρ)=V (nI b):=(J6 rfl).trans l1;have e:lk 2 ((6,nI d)::Dn [6] ρ)=V (nI n):=(J6 rfl).trans l2;have p:lk 4 ((6,nI d)::Dn [6] ρ)=V (nI r):=(J6 rfl).trans l4;have c:r*2^n+d<2^(n+n):=by
  rw[CR];exact AE (ju Q hd) (BN _ (CN a))
 have k:cP 906 [nI r,nI n]=V (iI ((r:Int)*2^((n:Int)).toNat)):=OS (vv (jx (CO Q a)) M);have f:cP 19 [nI (r*2^n+d),nI b,nI n]=V (.tup [nI ((r*2^n+d)/b),nI ((r*2^n+d)%b)]):=
  (OS ⟨Int.natCast_ne_zero.mpr (Dx F),AE a (AV (by decide) (Am M (by decide))),vw (jx c) M⟩).trans (congrArg V (jy _ _))
 have i:ev cP 28 ((6,nI d)::Dn [6] ρ) (CU [(5,.lst (acc.map nI))]) (.bin .Add (.call 906 [.n 4,.n 2]) (.n 6))=V (nI (r*2^n+d)):=
  PN (Mb (L8 (HN p) (HN e)) k) (HN (d:=nI d) rfl) (congrArg (λz=>V (iI z)) (vz r n d))
 have g:=Mb (Zb i (L8 (HN h) (HN e))) f;show CL cP 30 Wn ((6,nI d)::Dn [6] ρ) _=_;refine(ZF (n:=29) (x:=7) (y:=4) g rfl).trans ?_
 refine(Zo (n:=28) (r:=[]) (O:=acc.map nI) (HN (d:=nI ((r*2^n+d)/b)) rfl) rfl (AL (by rw[BS];exact Am w (by decide)))).trans ?_
 rw[DR];rfl
inductive cJ(n b:Nat)(l:List Nat)(r:Nat)(acc:List Nat)(ρ:List (Nat×D)):Prop
 |mk (A6:List (Nat×D)) (h:JD (JE (CL cP 30 Wn) [6] Y) (l.map nI) ρ [(5,.lst (acc.map nI))]=V (.next A6 [(5,.lst ((acc++(Oi n b l r).1).map nI))])) (l2:lk 2 A6=V (nI n)) (l4:lk 4 A6=V (nI (Oi n b l r).2))
theorem ZG{x y:Nat}{d:D}{ρ:List (Nat×D)}(h:As x y=Ak):lk x ((y,d)::ρ)=lk x ρ:=by
 rw[H6,if_neg λe=>by rw[e,Cs]at h;exact bT h]
theorem vB{a l:Nat}(h:a+(l+1)<=100000):a<=100000/\a+1+l<=100000:=⟨(En (.v 0) (.k 100000) [(1,.a (.v 0) (.a (.v 1) (.k 1)),.k 100000)] rfl h),(En (.a (.a (.v 0) (.k 1)) (.v 1)) (.k 100000) [(1,.a (.v 0) (.a (.v 1) (.k 1)),.k 100000)] rfl h)⟩
theorem vC{n b:Nat}(F:0<b)(c:b<2^n)(M:n<=4000)(l:List Nat):∀(r:Nat) (acc:List Nat) (ρ:List (Nat×D)),r<b->(∀d∈l,d<2^n)->acc.length+l.length<=100000->lk 1 ρ=V (nI b)->lk 2 ρ=V (nI n)->lk 4 ρ=V (nI r)->cJ n b l r acc ρ:=by
 induction l with
 |nil=>exact λr acc ρ k k k k l2 l4=>⟨ρ,by show V (Dq.next ρ [(5,.lst (acc.map nI))])=V (.next ρ [(5,.lst ((acc++[]).map nI))]);rw[B7],l2,l4⟩
 |cons d l ih=>
  intro r acc ρ Q j g l1 l2 l4;have e:=vB g;have a:=vA F c M Q (j d (.head _)) (acc:=acc) e.1 l1 l2 l4;have P:∀{y},As y 7=Ak->As y 4=Ak->As y 6=Ak->lk y ((4,nI ((r*2^n+d)%b))::(7,nI ((r*2^n+d)/b))::Dn [7,4] ((6,nI d)::Dn [6] ρ))=lk y ρ:=λ{y} f h m=>by
   rw[ZG h,ZG f,J6 (by show bI (As y 7) Y (bI (As y 4) Y Ak)=Ak;rw[f,h];rfl),ZG m,J6 (by show bI (As y 6) Y Ak=Ak;rw[m];rfl)]
  obtain⟨A6,U,G,z⟩:=ih ((r*2^n+d)%b) (acc++[(r*2^n+d)/b]) _ (Dj _ F) (λx L=>j x (.tail _ L)) (List.length_append.symm▸e.2) ((P rfl rfl rfl).trans l1) ((P rfl rfl rfl).trans l2) rfl
  refine⟨A6,?_,G,z⟩
  refine(Tq a).trans (U.trans ?_)
  rw[Cv];rfl
theorem vE{n d i:Nat}(U:n*d<=i+n-1)(G:i<=100000)(z:n<=4000):n*d<=10000000:=(Ip (.v 0) (.k 10000000) [(1,.v 0,.v 1),(1,.v 2,.k 100000),(1,.v 3,.k 4000),(1,.v 1,.a (.v 2) (.v 3))] rfl U G z (DB _ _))
theorem vF{X b:Nat}(F:0<b)(y:b<2^4000)(p:X<2^100000):CL cP 35 jw [(0,nI X),(1,nI b)] []=V (.ret (.tup [nI (X/b),nI (X%b)])):=by
 have g:AJ (b:Int)<=4000:=PL (by rw[BK];exact y)
 have k:AJ (X:Int)<=100000:=PL (by rw[BK];exact p)
 have r:=Qz b;have H:cP 905 [nI b]=V (nI (AJ (b:Int))):=rfl
 generalize AJ (b:Int)=n at*
 have i:1<=n:=by
  induction n with
  |zero=>exact absurd F (Nat.not_lt.mpr (IL r))
  |succ n=>exact BB (Be n)
 have s:cP 15 [nI X,nI n]=V (.lst (((Br (GN n X)).map (dg n X)).map nI)):=by
  refine(OS ⟨AW _,jO i,jO (Am g (by decide)),by exact_mod_cast p⟩).trans ?_
  rw[DN];rfl
 have hm:GN n X<=100000:=Am (jn i) k;have t:n*GN n X<=10000000:=vE (by unfold GN;exact QZ _ _) k g
 have W:=vj n X (GN n X);have W:=(GK (AE (Qz X) (AV (by decide) (Wh i))))▸W
 have D4:∀d∈(Br (GN n X)).map (dg n X),d<2^n:=λd hd=>by
  obtain⟨j,_,e⟩:=List.mem_map.mp hd;exact e▸Dj _ (FI _)
 have f:((Br (GN n X)).map (dg n X)).length=GN n X:=by rw[BS,NL]
 generalize (Br (GN n X)).map (dg n X)=O at*
 obtain⟨A6,U,G,z⟩:=vC F r g O.reverse 0 [] [(4,nI 0),(3,.lst (O.map nI)),(2,nI n),(0,nI X),(1,nI b)] F (λd hd=>D4 d (List.mem_reverse.mp hd)) (by rw[CP,f];exact(E2 _).symm▸hm) rfl rfl rfl
 obtain⟨E,P,Q⟩:=vh n b F O.reverse 0 F λd hd=>D4 d (List.mem_reverse.mp hd)
 rw[UQ,E2,Hl,W]at E P;have m:=jt n b O.reverse 0;rw[CP,f]at m;rw[G1]at U;rw[P]at z
 generalize (Oi n b O.reverse 0).1=a at*
 have sm:∀{l:List Nat},l.length<=100000->AS (l.map nI)=Y:=λh=>AL (by rw[BS];exact Am h (by decide))
 have u:Nl 4 [.lst (O.map nI)]=V (O.reverse.map nI):=by
  show CB (AS (O.map nI)) _=_;rw[sm (f▸hm),Oz];rfl
 have Wo:cP 16 [.lst (a.reverse.map nI),nI n]=V (nI (X/b)):=by
  refine(H2 (vd a.reverse)).trans ?_
  refine(OS ⟨AW _,λq M=>Q q (List.mem_reverse.mp M),by rw[CP,m];exact hm,by rw[CP,m];exact t⟩).trans ?_
  exact congrArg (λv:Nat=>V (nI v)) E
 refine(Qx (n:=34) (Mb (Of (HN rfl)) H) rfl).trans ?_
 refine(Qx (n:=33) (Mb (L8 (HN rfl) (HN rfl)) s) rfl).trans ?_
 refine(Qx (n:=32) (d:=nI 0) rfl rfl).trans ?_
 refine(vo (n:=31) (O:=[]) rfl rfl).trans ?_
 refine(Tp (n:=30) (O:=[.lst (O.map nI)]) (Of (HN rfl)) u U).trans ?_
 refine t9.trans ?_
 refine(vm (n:=29) (x:=5) (ow:=[(5,.lst (a.map nI))]) (O:=a.map nI) rfl (sm (m▸hm))).trans ?_
 rw[<-Oz];refine(vq (n:=28) (x:=5) (o:=.lst (a.reverse.map nI)) (ow:=[(5,.lst (a.reverse.map nI))]) rfl).trans ?_
 have c:lk 2 ((5,D.lst (a.reverse.map nI))::Dn [5] A6)=V (nI n):=(J6 (ts:=[5]) rfl).trans G;refine(Qx (n:=27) (x:=8) (ow:=[]) (Mb (L8 (HN (d:=.lst (a.reverse.map nI)) rfl) (HN c)) Wo) rfl).trans ?_
 refine Qy (n:=26) (ZE (n:=25) (L8 (HN rfl) (HN (d:=nI (X%b)) ?_)))
 exact(J6 (ts:=[8]) rfl).trans ((J6 (ts:=[5]) rfl).trans z)
noncomputable def jz:List Ad:=[.ite (.cmp (.n 1) [(.Eq,.c (.int (.k 0)))]) [.bad] [.ite (.cmp (.n 1) [(.Lt,.c (.int (.k 0)))]) [.asg [8,4] Ak (.call 5 [.neg (.n 0),.neg (.n 1)]),.ret (.tup [.n 8,.neg (.n 4)])] [.ite (.cmp (.n 0) [(.Lt,.c (.int (.k 0)))]) [.asg [8,4] Ak (.call 5 [.call 904 [.n 0],.n 1]),.ret (.tup [.call 904 [.n 8],.bin .Add (.n 1) (.call 904 [.n 4])])] [.ret (.call 18 [.n 0,.n 1])]]]]
noncomputable def Mc(a b:Int):D:=.tup [iI (a.fdiv b),iI (a.fmod b)]
def Md(n:Nat)(a b:Int):Prop:=match n with
 |0=>0<=a/\0<b
 |1=>0<b
 |_=>b≠0
def Lb(a:Int):Prop:=a.natAbs<2^90000
def MR(b:Int):Prop:=b.natAbs<2^3900
theorem Lb.neg{a:Int}(h:Lb a):Lb (-a):=by unfold Lb at*;rw[E9];exact h
theorem MR.neg{a:Int}(h:MR a):MR (-a):=by unfold MR at*;rw[E9];exact h
theorem vG{a:Int}(M:a<0):(-a-1).natAbs<=a.natAbs:=(U0 (li [_] [_] (.s (.g (.v 0)) (.k 1)) (.u (.v 0)) [(1,.g (.v 0),.u (.v 0))] rfl P5) (li [_] [_] (.g (.s (.g (.v 0)) (.k 1))) (.u (.v 0)) [(1,.a (.v 0) (.k 1),.k 0)] rfl M))
theorem Lb.inv{a:Int}(h:Lb a)(M:a<0):Lb (-a-1):=AG (vG M) h
noncomputable def jA(n:Nat)(f:Nat->D->Option D)(d:D):Option D:=match n with
 |0=>Ao
 |n+1=>f n d
open Classical in
noncomputable def cD(n:Nat)(f:Nat)(O:List D):Option D:=GH f 904 (Wj O λi=>V (iI (-i-1)))
 (GH f 5 (Tv O λa b=>jA n (λn d=>MQ (Md n a b/\Lb a/\MR b) d) (Mc a b))
 (GH f 18 (Tv O λa b=>MQ (0<=a/\0<b/\Lb a/\MR b) (Mc a b)) Ao))
theorem vH{p x y a:Int}(G: -p+x= -a)(z:p+y=a):x= -y:=(A5 (li [_,_,_,_] [] (.v 1) (.g (.v 3)) [(1,.a (.g (.v 0)) (.v 1),.g (.v 2)),(1,.a (.v 0) (.v 3),.v 2)] rfl (Bc G) (Bc z)) (li [_,_,_,_] [] (.g (.v 3)) (.v 1) [(1,.g (.v 2),.a (.g (.v 0)) (.v 1)),(1,.v 2,.a (.v 0) (.v 3))] rfl (Bc G.symm) (Bc z.symm)))
theorem ZH(a b:Int):Mc (-a) (-b)= .tup [iI (a.fdiv b),iI (-(a.fmod b))]:=by
 have U:(-a).fdiv (-b)=a.fdiv b:=Int.neg_fdiv_neg a b;have G:=CA (-a) (-b);rw[U,Gn]at G;have z:=CA a b;unfold Mc;rw[U,show(-a).fmod (-b)= -(a.fmod b)from vH G z]
theorem vI{b q z a u v:Int}(U:b*q+u=a)(G:b*z+v= -a-1):b*(q+z+1)=b+(-v-1)-u:=by rw[Hs,Hs,Ec];exact(A5 (li [_,_,_,_,_,_] [] (.a (.a (.v 0) (.v 3)) (.v 5)) (.s (.a (.v 5) (.s (.g (.v 4)) (.k 1))) (.v 1)) [(1,.a (.v 0) (.v 1),.v 2),(1,.a (.v 3) (.v 4),.s (.g (.v 2)) (.k 1))] rfl (Bc U) (Bc G)) (li [_,_,_,_,_,_] [] (.s (.a (.v 5) (.s (.g (.v 4)) (.k 1))) (.v 1)) (.a (.a (.v 0) (.v 3)) (.v 5)) [(1,.v 2,.a (.v 0) (.v 1)),(1,.s (.g (.v 2)) (.k 1),.a (.v 3) (.v 4))] rfl (Bc U.symm) (Bc G.symm)))
theorem vJ{b u v t:Int}(e:t=b+(-v-1)-u)(a:0<=u)(C:u<b)(A:0<=v)(k:v<b): -b<t/\t<b:=⟨(li [_,_,_,_] [] (.a (.g (.v 1)) (.k 1)) (.v 0) [(1,.s (.a (.v 1) (.s (.g (.v 2)) (.k 1))) (.v 3),.v 0),(1,.a (.v 3) (.k 1),.v 1),(1,.a (.v 2) (.k 1),.v 1)] rfl (Bc e.symm) C k),(li [_,_,_,_] [] (.a (.v 0) (.k 1)) (.v 1) [(1,.v 0,.s (.a (.v 1) (.s (.g (.v 2)) (.k 1))) (.v 3)),(1,.k 0,.v 3),(1,.k 0,.v 2)] rfl (Bc e) a A)⟩
theorem vK{q z:Int}(h:q+z+1=0): -z-1=q:=(A5 (li [_,_] [] (.s (.g (.v 1)) (.k 1)) (.v 0) [(1,.k 0,.a (.a (.v 0) (.v 1)) (.k 1))] rfl (Bc h.symm)) (li [_,_] [] (.v 0) (.s (.g (.v 1)) (.k 1)) [(1,.a (.a (.v 0) (.v 1)) (.k 1),.k 0)] rfl (Bc h)))
theorem vL{b u v:Int}(h:0=b+(-v-1)-u):b+(-v-1)=u:=(A5 (li [_,_,_] [] (.a (.v 0) (.s (.g (.v 1)) (.k 1))) (.v 2) [(1,.s (.a (.v 0) (.s (.g (.v 1)) (.k 1))) (.v 2),.k 0)] rfl (Bc h.symm)) (li [_,_,_] [] (.v 2) (.a (.v 0) (.s (.g (.v 1)) (.k 1))) [(1,.k 0,.s (.a (.v 0) (.s (.g (.v 1)) (.k 1))) (.v 2))] rfl (Bc h)))
theorem vM{b t:Int}(F:0<b)(U: -b<b*t)(G:b*t<b):t=0:=by
 have d:t<1:=Kx (a:=b) (by rw[Ec];exact G) (BR F)
 have u: -1<t:=Kx (a:=b) (by rw[Mn,Ec];exact U) (BR F)
 exact(A5 (li [_] [] (.v 0) (.k 0) [(1,.a (.v 0) (.k 1),.k 1)] rfl d) (li [_] [] (.k 0) (.v 0) [(1,.a (.k (-1)) (.k 1),.v 0)] rfl u))
theorem vN(a b:Int)(F:0<b): -((-a-1).fdiv b)-1=a.fdiv b/\b+(-((-a-1).fmod b)-1)=a.fmod b:=by
 have e:=vI (CA a b) (CA (-a-1) b);have m:=vJ e (B3 a F) (CG a F) (B3 (-a-1) F) (CG (-a-1) F);have hz:=vM F m.1 m.2;rw[hz,FP]at e;exact⟨vK hz,vL e⟩
section
variable {C:Nat->List D->Option D} {n:Nat} {c:M} {a b r:List Ad} {ρ:List (Nat×D)} {ow:List (Nat×Ae)} {d:D}
theorem jB(h:ev C n ρ (CU ow) c=V (.bool Y))(G:CL C n a ρ ow=V (.ret d)):CL C (n+1) (.ite c a b::r) ρ ow=V (.ret d):=(Np h).trans (congrArg (λz=>HM z (CL C n r)) G)
theorem ZI(h:ev C n ρ (CU ow) c=V (.bool Ak))(G:CL C n b ρ ow=V (.ret d)):CL C (n+1) (.ite c a b::r) ρ ow=V (.ret d):=(Np h).trans (congrArg (λz=>HM z (CL C n r)) G)
end
theorem vO{n:Nat}{a b:Int}(m:cD n 5 [iI (-a),iI (-b)]=V (Mc (-a) (-b))):CL (cD n) 18 [.asg [8,4] Ak (.call 5 [.neg (.n 0),.neg (.n 1)]),.ret (.tup [.n 8,.neg (.n 4)])] [(0,iI a),(1,iI b)] []=V (.ret (Mc a b)):=by
 rw[ZH]at m;refine(ZF (n:=17) (Mb (L8 (b:=iI (-a)) (b':=iI (-b)) rfl rfl) m) rfl).trans ?_
 refine Qy (n:=16) ((ZE (n:=15) (L8 (b:=iI (a.fdiv b)) (b':=iI (-(-(a.fmod b)))) rfl rfl)).trans ?_)
 rw[W4];rfl
theorem vP{n:Nat}{a b:Int}(F:0<b)(m:cD n 5 [iI (-a-1),iI b]=V (Mc (-a-1) b)):CL (cD n) 17 [.asg [8,4] Ak (.call 5 [.call 904 [.n 0],.n 1]),.ret (.tup [.call 904 [.n 8],.bin .Add (.n 1) (.call 904 [.n 4])])] [(0,iI a),(1,iI b)] []=V (.ret (Mc a b)):=by
 obtain⟨c,L⟩:=vN a b F;have h:∀i,cD n 904 [iI i]=V (iI (-i-1)):=λi=>rfl
 refine(ZF (n:=16) (Mb (L8 (Mb (Of (HN (d:=iI a) rfl)) (h a)) (HN (d:=iI b) rfl)) m) rfl).trans ?_
 refine Qy (n:=15) ((ZE (n:=14) (L8 (Mb (n:=13) (Of (HN (d:=iI ((-a-1).fdiv b)) rfl)) (h _)) (PN (n:=13) (HN (n:=12) (d:=iI b) rfl) (Mb (n:=12) (Of (HN (n:=11) (d:=iI ((-a-1).fmod b)) rfl)) (h _)) rfl))).trans ?_)
 show V (D.tup [iI (-((-a-1).fdiv b)-1),iI (b+(-((-a-1).fmod b)-1))])=_;rw[c,L];rfl
theorem Md.ne{n:Nat}{a b:Int}(h:Md n a b):b≠0:=match n,h with
 |0,h=>Dw h.2
 |1,h=>Dw h
 |_+2,h=>h
theorem Md.neg{n:Nat}{a b:Int}(h:Md n a b)(F:b<0):∃m,n=m+1/\Md m (-a) (-b):=match n,h with
 |0,h=>absurd h.2 (UV F)
 |1,h=>absurd h (UV F)
 |2,_=>⟨1,rfl,Im F⟩
 |n+3,_=>⟨n+2,rfl,Dw (Im F)⟩
theorem vQ{a:Int}(h:a<0):0<=-a-1:=(li [_] [] (.k 0) (.s (.g (.v 0)) (.k 1)) [(1,.a (.v 0) (.k 1),.k 0)] rfl h)
theorem Md.inv{n:Nat}{a b:Int}(h:Md n a b)(F:0<b)(i:a<0):∃m,n=m+1/\Md m (-a-1) b:=match n,h with
 |0,h=>absurd i (Int.not_lt.mpr h.1)
 |1,_=>⟨0,rfl,vQ i,F⟩
 |2,_=>⟨1,rfl,F⟩
 |n+3,_=>⟨n+2,rfl,Dw F⟩
theorem vR{n:Nat}{a b:Int}(j:Md n a b)(g:Lb a)(F:MR b):CL (cD n) 20 jz [(0,iI a),(1,iI b)] []=V (.ret (Mc a b)):=by
 have k:=j.ne;have c1:ev (cD n) 19 [(0,iI a),(1,iI b)] (CU []) (.cmp (.n 1) [(.Eq,.c (.int (.k 0)))])=V (.bool Ak):=by
  show BG (Q7 (.k b) (.k 0)) _=_;rw[show Q7 (.k b) (.k 0)=V (J0 b 0)by show(match J0 b 0 with|true=>V Y|false=>V (J0 b 0))=_;cases J0 b 0<;>rfl,js k];rfl
 have c2:ev (cD n) 18 [(0,iI a),(1,iI b)] (CU []) (.cmp (.n 1) [(.Lt,.c (.int (.k 0)))])=V (.bool (I7 b 0)):=rfl;refine ZI (n:=19) c1 ?_
 by_cases c:b<0
 ·rw[jr c]at c2;refine jB (n:=18) c2 (vO ?_)
  obtain⟨m,e,h⟩:=j.neg c
  apply AO e
  exact OS ⟨h,g.neg,F.neg⟩
 ·rw[ZC c]at c2;have i:0<b:=Int.lt_iff_le_and_ne.mpr ⟨Int.not_lt.mp c,IY k⟩;have c3:ev (cD n) 17 [(0,iI a),(1,iI b)] (CU []) (.cmp (.n 0) [(.Lt,.c (.int (.k 0)))])=V (.bool (I7 a 0)):=rfl;refine ZI (n:=18) c2 ?_
  by_cases f:a<0
  ·rw[jr f]at c3;refine jB (n:=17) c3 (vP i ?_)
   obtain⟨m,e,h⟩:=j.inv i f
   apply AO e
   exact OS ⟨h,g.inv f,F⟩
  ·rw[ZC f]at c3;exact ZI (n:=17) c3 (Qy (n:=16) (Mb (n:=15) (L8 (HN (d:=iI a) rfl) (HN (d:=iI b) rfl)) (OS ⟨Int.not_lt.mp f,i,g,F⟩)))
theorem J8{k a b c d:Nat}(h:k+b<=c)(U:a<=b)(G:c<=d):k+a<=d:=Am (Cw U k) (Am h G)
def KR(s0:Ah)(mg:Av->Option Ag)(B fn:Nat->Av)(f:Nat)(xs:List Nat)(code:List Ad):Prop:=∃(a:An) (fd:BA) (body:List Bx) (fo H:Nat),Yg s0 mg (fn f) a/\JT s0 a fd body/\KB B fd xs/\KA xs=Y∧
 (xs.all λx=>FJ fd.scope.names (B x))=Y/\KQ B fn fo fd.scope.names H body code=Y
theorem MS(P:k+1<=100)(N:EA B)(x:∀n,(J.v n).natAbs<=2^1000)(g:I9 Aj w T J mg mb s0 fn C (k+1))(p:L6 Aj w T J mg mb s0 (k+1))(c:N8 C=Y->MM Aj w T J mg mb s0 (k+1)){f:Nat}{xs:List Nat}{code:List Ad}{O:List D}{d:D}
  (h:KR s0 mg B fn f xs code)(b:xs.length=O.length)(H:CL C n code (xs.zip O) []=V (.ret d)):GU Aj w T J mg mb s0 fn k f O d:=by
 obtain⟨a,fd,body,fo,i,G,F,e,L,t,R⟩:=h;exact⟨a,G,ie P N x g p c F e L t b R H⟩
theorem Nr(h:∀f O d,C f O=V d->(f<900/\GU Aj w T J mg mb s0 fn k f O d)\/(900<=f/\f<1000/\L4 Aj w T J mg mb s0 k f O d)):I9 Aj w T J mg mb s0 fn C k:=by
 refine⟨λf O d t E=>?_,λf O d t E=>?_,λm es O d E=>?_⟩
 ·exact(h f O d E).elim (λx=>x.2) λx=>absurd (AE (D8 t) x.1) (AN _)
 ·exact(h f O d E).elim (λx=>absurd (AE x.1 (D8 (AH t).1)) (AN _)) λx=>x.2.2
 ·exact(h _ _ d E).elim (λx=>absurd (AG (AQ 1000 m) x.1) (by decide)) λx=>absurd (AG (AQ 1000 m) x.2.1) (AN _)
noncomputable def Wp:List Av:=["a","b","n","a_digits","r","q_digits","a_digit","q_digit","q"]
theorem ZJ:EA (C6 Wp):=Nn (by decide+kernel)
structure RP(Aj:Bh)(w:Ca)(T:An->Prop)(J:Sg)(mg mb:Av->Option Ag)(s0:Ah)(fn:Nat->Av):Prop where
 hσ:∀n,(J.v n).natAbs<=2^1000
 hH:∀k,k+3<=100->L6 Aj w T J mg mb s0 k
 lim:∃t,mg "_DIV_LIMIT"=V (.int 4000 t)
 f5:KR s0 mg (C6 Wp) fn 5 [0,1] jz
 f18:KR s0 mg (C6 Wp) fn 18 [0,1] jw
 f19:KR s0 mg (C6 Wp) fn 19 [0,1,2] jq
 c15:∀k n X,k+1<=100->1<=n->n<=100000->X<2^100000->GU Aj w T J mg mb s0 fn k 15 [nI X,nI n] (.lst ((Br (GN n X)).map λ(j:Nat)=>nI (dg n X j)))
 c16:∀k n qs,k+1<=100->(∀q∈qs,q<2^n)->qs.length<=100000->n*qs.length<=10000000->GU Aj w T J mg mb s0 fn k 16 [.lst (qs.map nI),nI n] (nI (GG n qs))
theorem vS(P:RP Aj w T J mg mb s0 fn)(c:k+1<=97){a b m:Int}(F:b≠0)(y:b.natAbs<2^8000)(hm:ib a-m<=4000):GU Aj w T J mg mb s0 fn k 19 [iI a,iI b,iI m] (.tup [iI (a.fdiv b),iI (a.fmod b)]):=by
 refine MS (Am c (by decide)) ZJ P.hσ (Nr (C:=cB) λf O d h=>?_) (P.hH _ (BP c 3)) (λh=>bF h) P.f19 rfl (u9 F y hm)
 rcases GV h with⟨e,h⟩|h
 ·obtain⟨i,e1,h⟩:=ZB h
  apply Dz e e1;apply CE (sI h)
  exact .inr ⟨by decide,by decide,_,_,rfl,rfl,rfl⟩
 ·rcases GV h with⟨e,h⟩|h
  ·obtain⟨e1,h⟩:=jp h;obtain⟨t,D⟩:=P.lim
   apply Dz e e1;apply CE h
   exact .inr ⟨by decide,by decide,_,_,t,rfl,rfl,D,rfl⟩
  ·exact nS h
theorem Tz{x:Int}(h:0<=x):((x.toNat:Nat):Int)=x:=HQ h
theorem vT(P:RP Aj w T J mg mb s0 fn)(g:k+2<=97){X b:Nat}(F:0<b)(q:b<2^4000)(p:X<2^100000):GU Aj w T J mg mb s0 fn k 18 [nI X,nI b] (.tup [nI (X/b),nI (X%b)]):=by
 have L:k+1<=97:=Bo g;refine MS (Am L (by decide)) ZJ P.hσ (Nr (C:=cP) λf O d h=>?_) (P.hH _ (BP L 3)) (λh=>bF h) P.f18 rfl (vF F q p)
 rcases GV h with⟨e,h⟩|h
 ·obtain⟨i,e1,h⟩:=ZB h
  apply Dz e e1;apply CE (sI h)
  exact .inr ⟨by decide,by decide,_,_,rfl,rfl,rfl⟩
 rcases GV h with⟨e,h⟩|h
 ·obtain⟨i,j,e1,h⟩:=Wm h;obtain⟨E,h⟩:=PM h
  apply Dz e e1;apply CE h
  exact .inr ⟨by decide,by decide,_,_,_,rfl,rfl,E.1,E.2,rfl⟩
 rcases GV h with⟨e,h⟩|h
 ·obtain⟨i,j,e1,h⟩:=Wm h;obtain⟨⟨U,G,c,m⟩,h⟩:=PM h;have r:=Tz (Cr (by decide) G)
  have t:=Tz U
  apply Dz e e1;apply CE h
  refine .inl ⟨by decide,?_⟩
  have:=P.c15 (k+1) j.toNat i.toNat (Am g (by decide)) (Int.ofNat_le.mp (r.symm▸G)) (Int.ofNat_le.mp (r.symm▸c)) (by rw[<-t]at m;exact_mod_cast m)
  rwa [show nI i.toNat=iI i from congrArg iI t,show nI j.toNat=iI j from congrArg iI r]at this
 rcases GV h with⟨e,h⟩|h
 ·obtain⟨x,y,z,e1,h⟩:=Tu h;obtain⟨o,e2,h⟩:=H5 h;obtain⟨b',s,h⟩:=H5 h;obtain⟨u,a,h⟩:=H5 h;obtain⟨⟨U,G,c⟩,h⟩:=PM h;rw[e,e1,e2,s,a];apply CE h
  exact .inl ⟨by decide,vS P g U G c⟩
 rcases GV h with⟨e,h⟩|h
 ·obtain⟨x,y,e1,h⟩:=Ni h;obtain⟨l,e2,h⟩:=LY h;obtain⟨j,s,h⟩:=H5 h;obtain⟨n,M,h⟩:=Cn h;obtain⟨⟨U,G,c,m⟩,h⟩:=PM h;rw[e,e1,e2,s,<-h];apply AO (ve M)
  refine .inl ⟨by decide,?_⟩
  have:=P.c16 (k+1) j.toNat n (Am g (by decide)) G c m
  rwa [show nI j.toNat=iI j from congrArg iI (Tz U)]at this
 ·exact nS h
theorem vU{k n:Nat}(h:k+(n+1)+3<=97):k+1+n+3<=97:=Ik k 1 n▸h
theorem vV{k n:Nat}(h:k+n+3<=97):k+1<=97/\k+1+2<=97:=
 have h:k+3<=97:=Am (BP (AQ k n) 3) h
 ⟨J8 h (by decide) (by decide),h⟩
theorem vW{n:Nat}{f:Nat->D->Option D}{d e:D}(h:jA n f d=V e):FC (λm=>n=m+1) λm=>f m d=V e:=by
 induction n with
 |zero=>exact nS h
 |succ n=>exact⟨n,rfl,h⟩
theorem jD(P:RP Aj w T J mg mb s0 fn)(n:Nat)(ih:∀m,n=m+1->∀k:Nat,k+m+3<=97->∀(a b:Int),Md m a b->Lb a->MR b->GU Aj w T J mg mb s0 fn k 5 [iI a,iI b] (Mc a b))(k:Nat)(q:k+n+3<=97)(a b:Int)(s:Md n a b)(g:Lb a)(F:MR b):GU Aj w T J mg mb s0 fn k 5 [iI a,iI b] (Mc a b):=by
  have c:=vV q;refine MS (Am c.1 (by decide)) ZJ P.hσ (Nr (C:=cD _) λf O d h=>?_) (P.hH _ (BP c.1 3)) (λh=>bF h) P.f5 rfl (vR s g F)
  rcases GV h with⟨e,h⟩|h
  ·obtain⟨i,e1,h⟩:=ZB h
   apply Dz e e1;apply CE (sI h)
   exact .inr ⟨by decide,by decide,_,_,rfl,rfl,rfl⟩
  rcases GV h with⟨e,h⟩|h
  ·obtain⟨i,j,e1,h⟩:=Wm h;obtain⟨m,em,h⟩:=vW h;obtain⟨⟨U,G,z⟩,h⟩:=PM h
   apply Dz e e1;apply CE h
   exact .inl ⟨by decide,ih m em (k+1) (vU (em▸q)) i j U G z⟩
  rcases GV h with⟨e,h⟩|h
  ·obtain⟨i,j,e1,h⟩:=Wm h;obtain⟨⟨U,G,z,l⟩,h⟩:=PM h;have o:=Tz U;have r:=Tz (BR G)
   apply Dz e e1;apply CE h
   refine .inl ⟨by decide,?_⟩
   have W:i.toNat<2^90000:=by unfold Lb at z;rw[<-o,BK]at z;exact z
   have p:j.toNat<2^3900:=by unfold MR at l;rw[<-r,BK]at l;exact l
   have:=vT P (k:=k+1) c.2 (X:=i.toNat) (b:=j.toNat) (Int.ofNat_lt.mp (r.symm▸G)) (AE p (AV (by decide) (by decide))) (AE W (AV (by decide) (by decide)))
   rw[<-jy]at this;unfold Mc
   rwa [show nI i.toNat=iI i from congrArg iI o,show nI j.toNat=iI j from congrArg iI r,o,r]at this
  ·exact nS h
theorem vX(P:RP Aj w T J mg mb s0 fn)(n:Nat):∀k:Nat,k+n+3<=97->∀(a b:Int),Md n a b->Lb a->MR b->GU Aj w T J mg mb s0 fn k 5 [iI a,iI b] (Mc a b):=by
 induction n with
 |zero=>exact jD P 0 λm e=>nomatch e
 |succ n ih=>exact jD P (n+1) λm e=>HG e▸ih
noncomputable def MT(τ:Nat->PX):PX->PX
 | .k i=>.k i
 | .v n=>τ n
 | .add a b=>.add (MT τ a) (MT τ b)
 | .mul a b=>.mul (MT τ a) (MT τ b)
mutual
noncomputable def TA(τ:Nat->PX)(ts:Nat->List Nat):D->D
 | .none=>.none
 | .bool b=>.bool b
 | .int p=>.int (MT τ p)
 | .str s=>.str s
 | .tup O=>.tup (OT τ ts O)
 | .lst O=>.lst (OT τ ts O)
 | .hdr O=>.hdr (OT τ ts O)
 | .sym n=>.str (ts n)
noncomputable def OT(τ:Nat->PX)(ts:Nat->List Nat):List D->List D
 |[]=>[]
 |d::r=>TA τ ts d::OT τ ts r
end
structure QA(J FD:Sg)(τ:Nat->PX)(ts:Nat->List Nat):Prop where
 v:∀n,FD.v n=(τ n).ev J
 t:∀n,FD.t n=ts n
 h:FD.v 999=J.v 999
theorem ZK{J FD:Sg}{z:Nat->PX}{ts:Nat->List Nat}(h:QA J FD z ts)(p:PX):(MT z p).ev J=p.ev FD:=by
 induction p with
 |k _=>rfl
 |v n=>exact(h.v n).symm
 |add a b e s=>show _+_=_+_;rw[e,s]
 |mul a b e s=>show _*_=_*_;rw[e,s]
section
variable {J FD:Sg} {τ:Nat->PX} {ts:Nat->List Nat} {N:An->Prop} {hp:A9}
theorem vY(h:QA J FD τ ts){v:Ag}{d:D}(r:Rd FD N hp v d):Rd J N hp v (TA τ ts d):=
 Rd.rec (motive_1:=λv d z=>Rd J N hp v (TA τ ts d)) (motive_2:=λI O z=>BV J N hp I (OT τ ts O)) (λe=>.str (e.trans (h.t _))) .none .bool (λe=>.int ((ZK h _).trans e)) .str (λn e z r=>.tup n e r) (λn e z r=>.lst n e r)
  (λn1 n2 F e1 e2 C X z r=>.hdr n1 n2 F e1 e2 (h.h▸C) X r) .nil (λz z x r=>.cons x r) r
structure Wq(J FD:Sg)(τ:Nat->PX)(ts:Nat->List Nat)(N:An->Prop)(hp:A9)(d:D):Prop where
 one:∀v,Rd J N hp v (TA τ ts d)->Rd FD N hp v d
theorem Wr{O:List D}(ih:∀d∈O,Wq J FD τ ts N hp d):∀I,BV J N hp I (OT τ ts O)->BV FD N hp I O:=by
 induction O with
 |nil=>exact λI r=>(show I=[]from r.inv)▸.nil
 |cons d O l=>
  intro I r;obtain⟨v,ws,e,x,r⟩:=r.inv
  apply AO e
  exact .cons ((ih d (.head _)).one v x) (l (λd hd=>ih d (.tail _ hd)) ws r)
theorem vZ(h:QA J FD τ ts)(d:D):Wq J FD τ ts N hp d:=
 D.rec (motive_1:=Wq J FD τ ts N hp) (motive_2:=λO=>∀d∈O,Wq J FD τ ts N hp d) ⟨λv r=>(show v= .none from r.inv)▸.none⟩ (λb=>⟨λv r=>(show v= .bool b from r.inv)▸.bool b⟩)
  (λp=>⟨λv r=>by obtain⟨_,_,e,q⟩:=Rd.intE r;exact e▸.int ((ZK h p).symm.trans q)⟩) (λs=>⟨λv r=>by obtain⟨_,_,e,q⟩:=r.inv;exact e▸.str q⟩)
  (λO ih=>⟨λv r=>by obtain⟨_,I,_,e,n,g,a⟩:=r.inv;exact e▸.tup n g (Wr ih I a)⟩) (λO ih=>⟨λv r=>by obtain⟨_,I,_,e,n,g,a⟩:=r.inv;exact e▸.lst n g (Wr ih I a)⟩)
  (λO ih=>⟨λv r=>by obtain⟨_,_,_,_,_,I,_,e,n1,n2,F,e1,e2,C,X,a⟩:=r.inv;exact e▸.hdr n1 n2 F e1 e2 (h.h.symm▸C) X (Wr ih I a)⟩)
  (λn=>⟨λv r=>by obtain⟨_,_,e,q⟩:=r.inv;exact e▸.sym (q.trans (h.t n).symm)⟩) (λz h=>nomatch h) (λd O hd D4 e c=>by
   rcases jC c with q|q
   ·exact q▸hd
   ·exact D4 e q) d
theorem v7(h:QA J FD τ ts)(O:List D){I:List Ag}(r:BV J N hp I (OT τ ts O)):BV FD N hp I O:=Wr (λd z=>vZ h d) I r
end
noncomputable def v8(d:D):Bool:=match d with| .none=>Y|_=>Ak
noncomputable def v9(d:D)(f:Bool->Bool):Bool:=match d with| .bool b=>f b|_=>Ak
noncomputable def wc(d:D)(f:PX->Bool):Bool:=match d with| .int b=>f b|_=>Ak
noncomputable def we(d:D)(f:List Nat->Bool):Bool:=match d with| .str b=>f b|_=>Ak
noncomputable def wf(d:D)(f:List D->Bool):Bool:=match d with| .tup b=>f b|_=>Ak
noncomputable def wg(d:D)(f:List D->Bool):Bool:=match d with| .lst b=>f b|_=>Ak
noncomputable def wh(d:D)(f:Nat->Bool):Bool:=match d with| .sym b=>f b|_=>Ak
mutual
noncomputable def Kr:D->D->Bool
 | .none=>v8
 | .bool a=>λd=>v9 d λb=>a==b
 | .int p=>λd=>wc d (K1 p)
 | .str a=>λd=>we d (Fq a)
 | .tup a=>λd=>wf d (Ns a)
 | .lst a=>λd=>wg d (Ns a)
 | .sym a=>λd=>wh d (As a)
 | .hdr _=>λz=>Ak
noncomputable def Ns:List D->List D->Bool
 |[]=>λl=>l.isEmpty
 |a::r=>λl=>match l with
  |[]=>Ak
  |b::s=>Kr a b&&Ns r s
end
structure jF(a:D):Prop where
 one:∀b,Kr a b=Y->a=b
structure cK(a:List D):Prop where
 all:∀b,Ns a b=Y->a=b
theorem wi(a:D):jF a:=
 D.rec (motive_1:=jF) (motive_2:=cK) ⟨λb h=>by induction b using Yf<;>first|rfl|exact bF h⟩ (λx=>⟨λb h=>by induction b using Yf<;>first|exact congrArg _ (AA h)|exact bF h⟩)
  (λx=>⟨λb h=>by induction b using Yf<;>first|exact congrArg _ (OE h)|exact bF h⟩) (λx=>⟨λb h=>by induction b using Yf<;>first|exact congrArg _ (Qa.mp h)|exact bF h⟩)
  (λx ih=>⟨λb h=>by induction b using Yf<;>first|exact congrArg _ (ih.all _ h)|exact bF h⟩) (λx ih=>⟨λb h=>by induction b using Yf<;>first|exact congrArg _ (ih.all _ h)|exact bF h⟩)
  (λz z=>⟨λz h=>bF h⟩) (λx=>⟨λb h=>by induction b using Yf<;>first|exact congrArg _ (AB h)|exact bF h⟩)
  ⟨λb h=>(jE h).symm⟩ (λx r L Q=>⟨λb h=>by
   induction b with
   |nil=>exact bF h
   |cons y s=>apply Dz (L.one y (AH h).1) (Q.all s (AH h).2);rfl⟩) a
theorem Ld{a b:D}(h:Kr a b=Y):a=b:=(wi a).one b h
theorem RQ{a b:List D}(h:Ns a b=Y):a=b:=by
 induction a generalizing b with
 |nil=>exact(jE h).symm
 |cons x r ih=>
  induction b with
  |nil=>exact bF h
  |cons y s=>apply Dz (Ld (AH h).1) (ih (AH h).2);rfl
noncomputable def QB(o:Option Dq)(d:D):Bool:=match o with
 |none=>Ak
 |some o=>(match o with
  | .ret e=>Kr e d
  | .next _ _=>Ak)
theorem RR{o:Option Dq}{d:D}(h:QB o d=Y):o=V (.ret d):=by
 induction o with
 |none=>exact bF h
 |some o=>
  induction o with
  |ret e=>apply AO (Ld h);rfl
  |next _ _=>exact bF h
section
variable {Aj:Bh} {w:Ca} {T:An->Prop} {J FD:Sg} {mg mb:Av->Option Ag} {s0:Ah} {fn:Nat->Av} {k f:Nat} {τ:Nat->PX} {ts:Nat->List Nat}
theorem jG(h:QA J FD τ ts){O:List D}{d:D}(c:GU Aj w T FD mg mb s0 fn k f O d):GU Aj w T J mg mb s0 fn k f (OT τ ts O) (TA τ ts d):=by
 obtain⟨a,g,c⟩:=c;refine⟨a,g,λA E N s I Q b bs occ p q=>c A E N s I Q b bs occ (v7 h O p) λv S x r=>q v S x (vY h r)⟩
theorem Oj{O ds':List D}{d M:D}(c:GU Aj w T J mg mb s0 fn k f O d)(U:∀(N:An->Prop) (hp:A9) (I:List Ag),BV J N hp I ds'->BV J N hp I O)(G:∀(N:An->Prop) (hp:A9) (v:Ag),Rd J N hp v d->Rd J N hp v M):GU Aj w T J mg mb s0 fn k f ds' M:=by
 obtain⟨a,g,c⟩:=c;exact⟨a,g,λA E N s I Q b bs occ p q=>c A E N s I Q b bs occ (U _ _ _ p) λv S x r=>q v S x (G _ _ _ r)⟩
end
noncomputable def ZL:List Ad:=[.anew 1 (.lst [.c (.int (.k 2001)),.c (.int (.k 2)),.c (.int (.k 1000)),.c (.int (.k 5391)),.c (.int (.k 40009))]),.loop [2] Y 1 [.bi 0 [.sl (.n 0) Ao (V (.c (.int (.k 60))))]] [.saug 1 (.bin .Mod (.n 2) (.c (.int (.k 5)))) .Add (.bin .Mod (.idx (.n 0) (.n 2)) (.c (.int (.k 1000000)))),.saug 1 (.bin .Mod (.bin .Add (.n 2) (.c (.int (.k 3)))) (.c (.int (.k 5)))) .Add (.bin .Mod (.bin .FloorDiv (.idx (.n 0) (.n 2)) (.c (.int (.k 1000000)))) (.c (.int (.k 1000000))))],.frz 1,.ret (.n 1)]
noncomputable def jH:List Ad:=[.hnew 3,.loop [4] Y 0 [.c (.str [114,115,116,82,83,84])] [.hadd 3 (.n 4) (.c (.str [48]))],.anew 5 (.lst []),.loop [2] Y 1 [.c (.int (.k 3))] [.ext 5 (.lst [.tup [.idx (.c (.str [82,83,84])) (.n 2),.call 909 [.bin .Add (.c (.int (.k 1))) (.call 903 [.idx (.n 1) (.n 2),.c (.int (.k 1000))])]],.tup [.idx (.c (.str [114,115,116])) (.n 2),.call 909 [.bin .Add (.c (.int (.k 1))) (.call 907 [.idx (.n 1) (.n 2),.c (.int (.k 1000))])]]]),.hset 3 (.idx (.c (.str [82,83,84])) (.n 2)) (.bor (.idx (.idx (.n 5) (.bin .Mult (.c (.int (.k 2))) (.n 2))) (.c (.int (.k 1))))),.hadd 3 (.idx (.c (.str [114,115,116])) (.n 2)) (.bor (.idx (.idx (.n 5) (.bin .Add (.bin .Mult (.c (.int (.k 2))) (.n 2)) (.c (.int (.k 1))))) (.c (.int (.k 1))))),.hsd 3 (.idx (.c (.str [114,115,116])) (.n 2)) (.c (.str [55])) (.bor (.idx (.idx (.n 5) (.bin .Mult (.c (.int (.k 2))) (.n 2))) (.c (.int (.k 1)))))],.frz 5,.told 7 3 (.comp (.me 6 (.n 3) [.n 6]) [.mk [6] Y 0 [.c (.str [114,83,84,117])] []]) (.c (.str [117])) (.c (.str [55])),.frz 3,.ite (.cmp (.n 7) [(.NotEq,.bin .Add (.comp (.lst [.idx (.idx (.n 5) (.bin .Mult (.c (.int (.k 2))) (.n 2))) (.c (.int (.k 1))),.idx (.idx (.n 5) (.bin .Add (.bin .Mult (.c (.int (.k 2))) (.n 2)) (.c (.int (.k 1))))) (.c (.int (.k 1)))]) [.mk [2] Y 1 [.c (.int (.k 3))] []]) (.lst [.lst [],.c (.str [55]),.bin .Add (.n 5) (.lst [.tup [.c (.str [117]),.c (.str [55])]])]))]) [.ret (.c .none)] [],.ret (.comp (.comp (.call 910 [.n 8]) [.mk [8] Y 0 [.n 9] []]) [.mk [9] Y 0 [.sl (.n 7) Ao (V (.c (.int (.k 3))))] []])]
noncomputable def jI:List Ad:=[.nnew 15 (.comp (.lst []) [.mk [14] Y 0 [.n 11] []]),.loop [16] Y 1 [.c (.int (.k 3))] [.frz 10,.asg [17] Y (.comp (.n 2) [.mk [2] Y 1 [.bi 0 [.n 10]] [.cmp (.idx (.idx (.n 11) (.n 2)) (.n 16)) [(.Eq,.c (.int (.k 1)))]]]),.asg [18] Y (.me 0 (.c (.str [])) [.comp (.bin .Add (.idx (.n 10) (.n 2)) (.idx (.lst [.c (.str [10]),.c (.str [13]),.c (.str [13,10])]) (.bin .Mod (.bin .Add (.bin .Add (.n 2) (.n 16)) (.n 13)) (.c (.int (.k 3)))))) [.mk [2] Y 0 [.n 17] []]]),.asg [19] Y (.me 1 (.call 0 [.bin .Add (.n 18) (.c (.str [13,10,45,46,10,46,10,46,120]))]) [.c (.str [13,10])]),.ite (.cmp (.sl (.n 19) (V (.bi 0 [.n 17])) Ao) [(.NotEq,.lst [.c (.str []),.c (.str [45,46]),.c (.str [46,46]),.c (.str [46,46,120])])]) [.ret (.tup [.c .none,.n 10])] [],.anew 10 (.comp (.sl (.n 20) (V (.c (.int (.k 1)))) Ao) [.mk [20] Y 0 [.n 10] []]),.loop [2,20] Ak 2 [.n 17,.n 19] [.set 10 (.n 2) (.n 20)],.hnew 3,.loop [2] Y 1 [.bor (.bi 0 [.n 10])] [.asg [21] Y (.bi 4 [.bin .Add (.c (.int (.k 96))) (.bor (.bi 0 [.idx (.n 10) (.n 2)]))]),.hadd 3 (.ite (.cmp (.bin .Mod (.idx (.n 12) (.n 2)) (.c (.int (.k 2)))) [(.Eq,.c (.int (.k 1)))]) (.me 2 (.n 21) []) (.n 21)) (.bi 2 [.n 2])],.frz 3,.frz 10,.loop [2] Y 1 [.bi 0 [.n 10]] [.asg [23] Y (.ite (.cmp (.idx (.n 12) (.n 2)) [(.Gt,.c (.int (.k 0)))]) (.comp (.bi 3 [.n 22]) [.mk [22] Y 0 [.me 6 (.n 3) [.bi 4 [.bin .Add (.c (.int (.k 96))) (.bi 0 [.idx (.n 10) (.n 2)])]]] []]) (.lst [])),.next 15 (.n 2) (.comp (.n 22) [.mk [22] Y 0 [.n 23] [.cmp (.idx (.n 12) (.n 22)) [(.Eq,.bin .Sub (.idx (.n 12) (.n 2)) (.c (.int (.k 1))))]]])]],.frz 15,.frz 10,.ret (.tup [.n 15,.n 10])]
noncomputable def jJ:List Ad:=[.asg [29] Y (.comp (.ite (.cmp (.idx (.n 24) (.n 16)) [(.Eq,.idx (.n 25) (.n 16))]) (.idx (.n 28) (.idx (.n 24) (.n 16))) (.idx (.c (.str [41,40])) (.idx (.n 25) (.n 16)))) [.mk [16] Y 1 [.c (.int (.k 3))] []]),.asg [30] Y (.bin .Add (.bin .Add (.bin .Mult (.c (.str [40])) (.n 26)) (.me 0 (.c (.str [])) [.n 29])) (.bin .Mult (.c (.str [41])) (.n 27))),.ite (.bop .And [.cmp (.idx (.n 24) (.c (.int (.k 0)))) [(.Eq,.idx (.n 25) (.c (.int (.k 0))))],.cmp (.call 1 [.ite (.cmp (.idx (.n 25) (.c (.int (.k 0)))) [(.Eq,.c (.int (.k 1)))]) (.bin .Add (.c (.str [40])) (.n 30)) (.bin .Add (.n 30) (.c (.str [34,41])))]) [(.IsNot,.c (.bool Ak))]]) [.ret (.c .none)] [],.ret (.call 1 [.n 30])]
noncomputable def ZM:List Ad:=[.asg [35] Y (.comp (.tup [.bin .Mod (.n 34) (.c (.int (.k 2))),.bin .Mod (.bin .FloorDiv (.n 34) (.c (.int (.k 2)))) (.c (.int (.k 2))),.bin .FloorDiv (.n 34) (.c (.int (.k 4)))]) [.mk [34] Y 1 [.c (.int (.k 8))] []]),.asg [36] Y (.comp (.tup [.n 2,.n 14]) [.mk [2] Y 1 [.bi 0 [.n 31]] [],.mk [14] Y 0 [.n 35] [.cmp (.bin .Sub (.bin .Mult (.c (.int (.k 2))) (.bi 1 [.n 14])) (.c (.int (.k 3)))) [(.Eq,.bin .Sub (.idx (.n 32) (.n 2)) (.idx (.n 31) (.n 2)))]]]),.asg [12,11] Ak (.tup [.comp (.idx (.n 9) (.c (.int (.k 0)))) [.mk [9] Y 0 [.n 36] []],.comp (.idx (.n 9) (.c (.int (.k 1)))) [.mk [9] Y 0 [.n 36] []]]),.asg [15,10] Ak (.call 2 [.comp (.bin .Mult (.c (.str [46])) (.bin .Add (.c (.int (.k 3))) (.idx (.n 31) (.n 37)))) [.mk [37] Y 0 [.n 12] []],.n 11,.n 12,.n 13]),.ite (.bop .Or [.cmp (.n 15) [(.Is,.c .none)],.cmp (.n 10) [(.NotEq,.comp (.bin .Mult (.c (.str [46])) (.bin .Add (.c (.int (.k 3))) (.idx (.n 32) (.n 37)))) [.mk [37] Y 0 [.n 12] []])]]) [.ret (.c .none)] [],.anew 38 (.lst []),.loop [2] Y 1 [.bi 0 [.n 11]] [.asg [37] Y (.idx (.n 12) (.n 2)),.asg [26] Y (.bin .Sub (.bin .FloorDiv (.bin .Sub (.idx (.n 31) (.n 37)) (.idx (.n 31) (.bin .Sub (.n 37) (.c (.int (.k 1)))))) (.c (.int (.k 2)))) (.c (.int (.k 1)))),.asg [27] Y (.bin .Sub (.bin .FloorDiv (.bin .Sub (.idx (.n 32) (.n 37)) (.idx (.n 32) (.bin .Sub (.n 37) (.c (.int (.k 1)))))) (.c (.int (.k 2)))) (.c (.int (.k 1)))),.asg [40] Y (.comp (.n 39) [.mk [39] Y 1 [.n 2] [.cmp (.idx (.n 12) (.n 39)) [(.Eq,.bin .Sub (.n 37) (.c (.int (.k 1))))]]]),.asg [41] Y (.comp (.call 3 [.idx (.n 11) (.n 39),.idx (.n 11) (.n 2),.n 26,.n 27,.n 28]) [.mk [39] Y 0 [.n 40] []]),.ite (.cmp (.comp (.n 39) [.mk [39] Y 1 [.bi 0 [.n 40]] [.cmp (.idx (.n 41) (.n 39)) [(.IsNot,.cmp (.idx (.n 40) (.n 39)) [(.NotIn,.idx (.n 15) (.n 2))])]]]) [(.NotEq,.lst [])]) [.ret (.c .none)] [],.asg [42] Y (.ite (.cmp (.n 37) [(.Gt,.c (.int (.k 0)))]) (.bor (.bi 1 [.comp (.idx (.n 38) (.idx (.n 40) (.n 39))) [.mk [39] Y 1 [.bi 0 [.n 40]] [.idx (.n 41) (.n 39)]]])) (.c (.int (.k 1)))),.app 38 (.bin .Mult (.bin .Mult (.bin .Mult (.n 42) (.idx (.idx (.n 33) (.c (.int (.k 0)))) (.idx (.idx (.n 11) (.n 2)) (.c (.int (.k 0)))))) (.idx (.idx (.n 33) (.c (.int (.k 1)))) (.idx (.idx (.n 11) (.n 2)) (.c (.int (.k 1)))))) (.idx (.idx (.n 33) (.c (.int (.k 2)))) (.idx (.idx (.n 11) (.n 2)) (.c (.int (.k 2))))))],.frz 38,.ret (.bi 1 [.comp (.idx (.n 38) (.n 2)) [.mk [2] Y 1 [.bi 0 [.n 11]] [.cmp (.idx (.n 12) (.n 2)) [(.Eq,.bin .Sub (.bi 0 [.n 31]) (.c (.int (.k 1))))]]]])]
noncomputable def jK:List Ad:=[.sw 46 13 (.bin .Sub (.c (.int (.k 1))) (.bin .Mult (.c (.int (.k 2))) (.bin .Mod (.n 45) (.c (.int (.k 2)))))) (.bin .Sub (.c (.int (.k 1))) (.bin .Mult (.c (.int (.k 2))) (.bin .Mod (.bin .FloorDiv (.n 45) (.c (.int (.k 2)))) (.c (.int (.k 2)))))),.asg [47] Y (.bin .Mult (.n 46) (.call 903 [.n 45,.n 44])),.asg [7] Y (.call 5 [.bin .Add (.bin .Mult (.n 13) (.n 43)) (.n 47),.bin .Mult (.n 46) (.n 44)]),.ret (.ite (.cmp (.n 7) [(.Eq,.tup [.bin .Mult (.bin .Mult (.n 13) (.n 46)) (.call 907 [.n 43,.n 44]),.n 47])]) (.bin .Mult (.bin .Mult (.idx (.n 7) (.c (.int (.k 0)))) (.n 13)) (.n 46)) (.c .none))]
noncomputable def jL:List Ad:=[.asg [44] Y (.c (.int (.k 1))),.loop [49] Y 1 [.bin .Sub (.bi 0 [.n 48]) (.c (.int (.k 1)))] [.asg [50] Y (.comp (.comp (.bin .Sub (.bin .Mult (.idx (.n 20) (.n 39)) (.idx (.idx (.n 48) (.c (.int (.k 0)))) (.c (.int (.k 0))))) (.bin .Mult (.idx (.n 20) (.c (.int (.k 0)))) (.idx (.idx (.n 48) (.c (.int (.k 0)))) (.n 39)))) [.mk [39] Y 1 [.c (.int (.k 1)),.bi 0 [.n 20]] []]) [.mk [20] Y 0 [.sl (.n 48) (V (.c (.int (.k 1)))) Ao] []]),.ite (.cmp (.n 49) [(.Gt,.c (.int (.k 0)))]) [.asg [50] Y (.comp (.comp (.call 4 [.idx (.idx (.n 50) (.n 51)) (.n 39),.n 44,.bin .Add (.bin .Add (.bin .Add (.n 45) (.n 49)) (.n 51)) (.bin .Mult (.c (.int (.k 2))) (.n 39))]) [.mk [39] Y 1 [.bi 0 [.n 50]] []]) [.mk [51] Y 1 [.bi 0 [.n 50]] []])] [],.asg [44,48] Ak (.tup [.idx (.idx (.n 48) (.c (.int (.k 0)))) (.c (.int (.k 0))),.n 50])],.ret (.idx (.idx (.n 48) (.c (.int (.k 0)))) (.c (.int (.k 0))))]
noncomputable def Ws:List Ad:=[.anew 31 (.lst [.c (.int (.k 0))]),.loop [2] Y 1 [.c (.int (.k 1)),.bi 0 [.n 52]] [.app 31 (.bin .Add (.bin .Add (.bin .Add (.bor (.idx (.n 31) (.neg (.c (.int (.k 1)))))) (.c (.int (.k 2)))) (.bin .Mult (.c (.int (.k 2))) (.bin .BitAnd (.bin .RShift (.idx (.n 1) (.c (.int (.k 3)))) (.bin .Add (.n 2) (.c (.int (.k 3))))) (.c (.int (.k 1)))))) (.ite (.cmp (.idx (.n 52) (.n 2)) [(.Lt,.idx (.n 52) (.bin .Sub (.n 2) (.c (.int (.k 1)))))]) (.c (.int (.k 2))) (.c (.int (.k 0)))))],.frz 31,.asg [32] Y (.comp (.bin .Add (.idx (.n 31) (.n 2)) (.idx (.n 52) (.n 2))) [.mk [2] Y 1 [.bi 0 [.n 31]] []]),.asg [53] Y (.lst [.c (.str []),.c (.str [92,40]),.c (.str [92,41]),.c (.str [92,34]),.c (.str [92,92]),.c (.str [34,40,34]),.c (.str [34,92,34,41,34]),.c (.str [34,40,92,92,34])]),.asg [28] Y (.lst [.call 911 [.n 53,.idx (.n 1) (.c (.int (.k 3))),.c (.int (.k 7))],.call 911 [.n 53,.idx (.n 1) (.c (.int (.k 3))),.c (.int (.k 10))]]),.asg [38] Y (.ite (.cmp (.n 33) [(.Is,.c .none)]) (.c .none) (.call 6 [.n 31,.n 32,.n 33,.n 28,.idx (.n 1) (.c (.int (.k 4)))])),.ite (.cmp (.n 38) [(.Is,.c .none)]) [.ret (.c (.bool Ak))] [],.asg [54] Y (.bin .Add (.call 905 [.bin .Mult (.bin .Mult (.bi 1 [.idx (.n 33) (.c (.int (.k 0)))]) (.bi 1 [.idx (.n 33) (.c (.int (.k 1)))])) (.bi 1 [.idx (.n 33) (.c (.int (.k 2)))])]) (.idx (.lst [.c (.int (.k 1)),.c (.int (.k 7)),.c (.int (.k 40))]) (.call 903 [.idx (.n 1) (.c (.int (.k 4))),.c (.int (.k 3))]))),.asg [55] Y (.call 15 [.bin .Mult (.bin .Mult (.call 16 [.idx (.n 33) (.c (.int (.k 0))),.n 54]) (.call 16 [.idx (.n 33) (.c (.int (.k 1))),.n 54])) (.call 16 [.idx (.n 33) (.c (.int (.k 2))),.n 54]),.n 54]),.asg [58] Y (.comp (.comp (.bin .FloorDiv (.bin .Add (.bin .Sub (.n 56) (.n 57)) (.c (.int (.k 3)))) (.c (.int (.k 2)))) [.mk [56] Y 0 [.n 32] []]) [.mk [57] Y 0 [.n 31] []]),.ret (.cmp (.call 7 [.comp (.comp (.ite (.cmp (.c (.int (.k 0))) [(.LtE,.n 59),(.LtE,.c (.int (.k 3)))]) (.idx (.n 55) (.n 59)) (.c (.int (.k 0)))) [.mk [59] Y 0 [.n 60] []]) [.mk [60] Y 0 [.n 58] []],.idx (.n 1) (.c (.int (.k 4)))]) [(.Eq,.n 38)])]
noncomputable def QC:M:=.comp (.bin .Sub (.bin .Mult (.c (.int (.k 2))) (.bin .BitAnd (.bin .RShift (.idx (.n 1) (.c (.int (.k 3)))) (.n 2)) (.c (.int (.k 1))))) (.c (.int (.k 1)))) [.mk [2] Y 1 [.ite (.cmp (.bi 0 [.n 0]) [(.Gt,.c (.int (.k 3)))]) (.c (.int (.k 4))) (.c (.int (.k 3)))] []]
noncomputable def Uv:List Ad:=[.asg [1] Y (.call 13 [.n 0]),.asg [33] Y (.call 14 [.n 1]),.asg [52] Y QC]++Ws
noncomputable def KS:List Av:=(["script","cells","k","table","letter","due","name","told","numeral","pair","rows","words","owners","turn","word","met","beat","sent","mail","back","row","place","one","here","low","high","ahead","behind","same","steps","text"]:List Av)++(["starts","finals","weights","code","every","pairs","walker","ways","j","lower","free","before","number","former","cell","down","spare","square","step","fresh","i","shifts","menu","width","figures","final","start","leaps","leap","line"]:List Av)
theorem Me:EA (C6 KS):=Nn (by decide+kernel)
noncomputable abbrev Mo:=List Nat
noncomputable abbrev JG:=List (Mo×Int)
noncomputable def nz(m:Mo)(c:Int)(r:JG):JG:=bI (J0 c 0) r ((m,c)::r)
noncomputable def TB(m:Mo)(c:Int)(q:JG):JG:=A0 (nz m c []) (λp r i=>bI (Fq m p.1) (nz m (c+p.2) r) (p::i)) q
noncomputable def ZN(p q:JG):JG:=A0 q (λp z i=>TB p.1 p.2 i) p
noncomputable def ZO(m:Mo):Mo->Mo:=A0 (λn=>n) (λa r i n=>BF n (a::r) λb s=>(a+b)::i s) m
noncomputable def ZP(m:Mo)(c:Int)(q acc:JG):JG:=A0 acc (λp z i=>TB (ZO m p.1) (c*p.2) i) q
noncomputable def ZQ(p q:JG):JG:=A0 [] (λp z i=>ZP p.1 p.2 q i) p
noncomputable def ZR(n:Nat)(I:List Nat):Option Mo:=A0 Ao (λv z i=>bI (As n v) (V [1]) (BG i λm=>V (0::m))) I
noncomputable def TC(I:List Nat)(p:PX):Option JG:=PX.rec (λi=>V (nz [] i [])) (λn=>BG (ZR n I) λm=>V [(m,1)]) (λz z i j=>BG i λp=>BG j λq=>V (ZN p q)) (λz z i j=>BG i λp=>BG j λq=>V (ZQ p q)) p
section
variable (J:Sg) (I:List Nat)
noncomputable def IE(m:Mo):Int:=A0 (motive:=λz=>Mo->Int) (λz=>1) (λv z i m=>BF m 1 λe s=>J.v v^e*i s) I m
noncomputable def Jc(p:JG):Int:=A0 0 (λp z i=>p.2*IE J I p.1+i) p
theorem ZS(m:Mo)(c:Int)(r:JG):Jc J I (nz m c r)=c*IE J I m+Jc J I r:=by
 unfold nz;cases h:J0 c 0 with
 |true=>apply AO (NQ.mp h);rw[GW,Cq];rfl
 |false=>rfl
theorem jM(m:Mo)(c:Int)(p:JG):Jc J I (TB m c p)=c*IE J I m+Jc J I p:=by
 induction p with
 |nil=>exact ZS J I m c []
 |cons p r ih=>
  show Jc J I (bI (Fq m p.1) (nz m (c+p.2) r) (p::TB m c r))=c*IE J I m+(p.2*IE J I p.1+Jc J I r);cases h:Fq m p.1 with
  |true=>
   refine(ZS J I m (c+p.2) r).trans ?_
   apply AO (Qa.mp h);rw[Jx,DC]
  |false=>
   show p.2*IE J I p.1+Jc J I (TB m c r)=_;rw[ih,Int.add_left_comm]
theorem wj(p q:JG):Jc J I (ZN p q)=Jc J I p+Jc J I q:=by
 induction p with
 |nil=>exact(Cq _).symm
 |cons p r ih=>
  refine(jM J I p.1 p.2 (ZN r q)).trans ?_
  rw[ih,<-DC];rfl
theorem jN(a b c d:Int):a*c*(b*d)=a*b*(c*d):=by ac_rfl
theorem wk:∀m n:Mo,IE J I (ZO m n)=IE J I m*IE J I n:=by
 induction I with
 |nil=>exact λz z=>rfl
 |cons v I ih=>
  intro m n;cases m with
  |nil=>exact(DL _).symm
  |cons a r=>induction n with
   |nil=>exact(Ec _).symm
   |cons b s=>
    show J.v v^(a+b)*IE J I (ZO r s)=J.v v^a*IE J I r*(J.v v^b*IE J I s);rw[ih,Int.pow_add];exact(jN _ _ _ _).symm
theorem wl(m:Mo)(c:Int)(q acc:JG):Jc J I (ZP m c q acc)=c*IE J I m*Jc J I q+Jc J I acc:=by
 induction q with
 |nil=>
  show Jc J I acc=c*IE J I m*0+_;rw[FP,Cq]
 |cons p r ih=>
  refine(jM J I _ _ (ZP m c r acc)).trans ?_
  show _=c*IE J I m*(p.2*IE J I p.1+Jc J I r)+Jc J I acc;rw[ih,wk,Hs,<-DC,jN c (IE J I m) p.2 (IE J I p.1)]
theorem wm(p q:JG):Jc J I (ZQ p q)=Jc J I p*Jc J I q:=by
 induction p with
 |nil=>exact(GW _).symm
 |cons p r ih=>
  refine(wl J I p.1 p.2 q (ZQ r q)).trans ?_
  show _=(p.2*IE J I p.1+Jc J I r)*Jc J I q;rw[ih,Jx]
theorem jP:IE J I []=1:=by induction I<;>rfl
theorem wn(n:Nat):∀m:Mo,ZR n I=V m->IE J I m=J.v n:=by
 induction I with
 |nil=>exact λz h=>nS h
 |cons v I ih=>
  intro m h;have h:bI (As n v) (V [1]) (BG (ZR n I) λm=>V (0::m))=V m:=h
  cases q:As n v with
  |true=>
   rw[q]at h
   apply CE (sI h);apply AO (AB q)
   show J.v v^1*IE J I []=_;rw[jP,Ec,Int.pow_succ,UW,DL]
  |false=>
   rw[q]at h;obtain⟨u,o,h⟩:=Cn h
   apply CE (sI h)
   show J.v v^0*IE J I u=_;rw[ih u o,UW,DL]
theorem jQ(p:PX):∀a:JG,TC I p=V a->p.ev J=Jc J I a:=by
 induction p with
 |k i=>
  intro a h
  apply CE (sI h);rw[ZS,jP,Ec]
  exact(E0 i).symm
 |v n=>
  intro a h;obtain⟨m,hm,h⟩:=Cn h
  apply CE (sI h)
  show _=1*IE J I m+0;rw[wn J I n m hm,DL,E0];rfl
 |add p q L c=>
  intro a h;obtain⟨u,o,h⟩:=Cn h;obtain⟨w,b,h⟩:=Cn h
  apply CE (sI h);rw[wj,<-L u o,<-c w b];rfl
 |mul p q L c=>
  intro a h;obtain⟨u,o,h⟩:=Cn h;obtain⟨w,b,h⟩:=Cn h
  apply CE (sI h);rw[wm,<-L u o,<-c w b];rfl
end
noncomputable def cL(o:Option JG):Bool:=oE o Ak SD
noncomputable def Ok(I:List Nat)(p q:PX):Bool:=cL (TC I (.add p (.mul (.k (-1)) q)))
theorem wo{z:Type}{l:List z}(h:SD l=Y):l=[]:=by induction l with|nil=>rfl|cons _ _=>exact bF h
theorem wp{a b:Int}(e:a+ -1*b=0):a=b:=(A5 (li [_,_] [] (.v 0) (.v 1) [(1,.a (.v 0) (.m (-1) (.v 1)),.k 0)] rfl (Bc e)) (li [_,_] [] (.v 1) (.v 0) [(1,.k 0,.a (.v 0) (.m (-1) (.v 1)))] rfl (Bc e.symm)))
theorem Wt{I:List Nat}{p q:PX}(h:Ok I p q=Y)(J:Sg):p.ev J=q.ev J:=by
 unfold Ok at h;cases M:TC I (.add p (.mul (.k (-1)) q))with
 |none=>rw[M]at h;exact bF h
 |some l=>
  rw[M]at h;have e:=jQ J I _ _ M;rw[wo h]at e;exact wp e
noncomputable def cM(a:JG):Bool:=BF a Ak λz z=>a.all λp=>I7 0 p.2
noncomputable def RS(I:List Nat)(p:PX):Bool:=oE (TC I p) Ak cM
theorem jS{J:Sg}{I:List Nat}(h:∀v∈I,0<J.v v):∀m:Mo,0<IE J I m:=by
 induction I with
 |nil=>exact λz=>P0
 |cons v I ih=>
  intro m
  induction m with
  |nil=>exact P0
  |cons e s=>exact Mw (Mv (h v (.head _))) (ih (λv w=>h v (.tail _ w)) s)
theorem wq{J:Sg}{I:List Nat}(h:∀v∈I,0<J.v v)(a:JG)(g:a.all (λp=>I7 0 p.2)=Y):0<=Jc J I a:=by
 induction a with
 |nil=>exact Mp _
 |cons p r ih=>exact Kd (BR (Mw (Rb.mp (AH g).1) (jS h _))) (ih (AH g).2)
theorem jT{J:Sg}{I:List Nat}(h:∀v∈I,0<J.v v){p:PX}(hp:RS I p=Y):0<p.ev J:=by
 unfold RS at hp;cases M:TC I p with
 |none=>rw[M]at hp;exact bF hp
 |some a=>
  rw[M]at hp
  apply AO (jQ J I p a M)
  induction a with
  |nil=>exact bF hp
  |cons p r=>
   have hp:((p::r).all λp=>I7 0 p.2)=Y:=hp
   exact Int.add_pos_of_pos_of_nonneg (Mw (Rb.mp (AH hp).1) (jS h _)) (wq h r (AH hp).2)
def IF(Aj:Bh)(w:Ca)(hd:Int)(J:Sg):Prop:=J.v 999=hd/\J.prog=Aj/\J.w=w/\∀n,(J.v n).natAbs<=2^1000
def Wu(Aj:Bh)(w:Ca)(T:An->Prop)(J:Sg)(mg mb:Av->Option Ag)(s0:Ah)(k m:Nat)(es O:List D)(d:D):Prop:=∃f,N3 Aj w T J s0 (OI m) f/\∀(A:A1) (E:Ag->Ah->Prop) (N:An->Prop) (s:Ah) (x:An) (I:List Ag) (Q:Ag->Ah->Prop),Eo k A->Bs T mg mb s0 s->(∀a,N a->Da s.heap a)->
  Rd J N s.heap (.ref x) (.hdr es)->BV J N s.heap I O->GB T J N s d Q->Ap (Aq Aj w) A (DP (.ref f) (.ref x::I)) Q E s
noncomputable def jU:List Av:=["addr","opens","pos","ch"]
theorem wu:EA (C6 jU):=Nn (by decide+kernel)
noncomputable def jV:List Av:=["addr","start","open_pos","result","pos","ch"]
theorem wv:EA (C6 jV):=Nn (by decide+kernel)
structure Pk(Aj:Bh)(w:Ca)(T:An->Prop)(mg mb:Av->Option Ag)(s0:Ah)(fn:Nat->Av)(hd:Int):Prop where
 hH:∀J,IF Aj w hd J->∀k,k+3<=100->L6 Aj w T J mg mb s0 k
 h1:∀J,IF Aj w hd J->∀k,k+5<=100->MM Aj w T J mg mb s0 k
 dv:∀J,IF Aj w hd J->RP Aj w T J mg mb s0 fn
 f0:∀J,IF Aj w hd J->∀k t,k+1<=100->t.length<=400000->GU Aj w T J mg mb s0 fn k 0 [.str t] (.str (PH t))
 f1:KR s0 mg (C6 jU) fn 1 [0] jc
 f20:KR s0 mg (C6 jV) fn 20 [0] i7
 mget:∀J,IF Aj w hd J->∀k es l name,k+4<=100->AS es=Y->JS es=Y->HY name=Y->Py name es=V l->Wu Aj w T J mg mb s0 k 6 es [.str name] (.lst l)
 f2:KR s0 mg (C6 KS) fn 2 [10,11,12,13] jI
 f3:KR s0 mg (C6 KS) fn 3 [24,25,26,27,28] jJ
 f4:KR s0 mg (C6 KS) fn 4 [43,44,45] jK
 f6:KR s0 mg (C6 KS) fn 6 [31,32,33,28,13] ZM
 f7:KR s0 mg (C6 KS) fn 7 [48,45] jL
 f13:KR s0 mg (C6 KS) fn 13 [0] ZL
 f14:KR s0 mg (C6 KS) fn 14 [1] jH
noncomputable def Sg.wv(J:Sg)(f:Nat->Int):Sg:={J with v:=f}
theorem jW{J:Sg}{N:An->Prop}{hp:A9}{v:Ag}{i:Int}{p:PX}(r:Rd J N hp v (.int (.k i)))(h:p.ev J=i):Rd J N hp v (.int p):=by
 obtain⟨_,e⟩:=r.inv;rw[e];exact .int h
theorem jX{J:Sg}{N:An->Prop}{hp:A9}{v:Ag}{p:PX}(r:Rd J N hp v (.int p)):Rd J N hp v (.int (.k (p.ev J))):=by
 obtain⟨_,e⟩:=r.inv;rw[e];exact .int rfl
noncomputable abbrev vD(n:Nat):D:=.int (.v n)
theorem jY{w u c g:Int}(o:u≠0)(h:u*g=w):(w+c.fmod u).fdiv u=g/\(w+c.fmod u).fmod u=c.fmod u:=by
 have U:(w+c.fmod u).fmod u=c.fmod u:=by
  rw[<-h,E1,F9,Int.fmod_fmod]
 refine⟨?_,U⟩
 have G:=CA (w+c.fmod u) u;rw[U]at G;exact Int.eq_of_mul_eq_mul_left o (((Int.add_left_inj _).mp G).trans h.symm)
theorem jZ(c:Int){u:Int}(o:u≠0):(c.fmod u).natAbs<=u.natAbs:=by
 rcases Int.lt_or_gt_of_ne o with h|h
 ·have e:(-c).fmod (-u)= -(c.fmod u):=by
   have:=ZH c u
   injection this with this
   injection this with _ this
   injection this with this _
   injection this with this
   injection this
  have M:0< -u:=Im h;have L:(-(c.fmod u)).natAbs<(-u).natAbs:=Ey (e▸B3 (-c) M) (e▸CG (-c) M);rw[E9,E9]at L;exact CN L
 ·exact CN (Ey (B3 c h) (CG c h))
noncomputable def Fv{z:Type}(l:List D)(f:D->D->D->D->Option z):Option z:=match l with
 |[]=>Ao
 |a::r=>RO r (f a)
inductive ww{α:Type}(l:List D)(r:α)(f:D->D->D->D->Option α):Prop
 |mk (a b c d:D) (e:l=[a,b,c,d]) (h:f a b c d=V r)
theorem j0{z:Type}{l:List D}{r:z}{f:D->D->D->D->Option z}(h:Fv l f=V r):ww l r f:=by
 cases l with
 |nil=>exact nS h
 |cons a l=>
  obtain⟨b,c,d,e,h⟩:=Tu h;exact⟨a,b,c,d,by rw[e],h⟩
noncomputable def Uw{z:Type}(l:List D)(f:D->D->D->D->D->Option z):Option z:=match l with
 |[]=>Ao
 |a::r=>Fv r (f a)
inductive wx{α:Type}(l:List D)(r:α)(f:D->D->D->D->D->Option α):Prop
 |mk (a b c d e:D) (el:l=[a,b,c,d,e]) (h:f a b c d e=V r)
theorem wy{z:Type}{l:List D}{r:z}{f:D->D->D->D->D->Option z}(h:Uw l f=V r):wx l r f:=by
 cases l with
 |nil=>exact nS h
 |cons a l=>
  obtain⟨b,c,d,e,u,h⟩:=j0 h;exact⟨a,b,c,d,e,by rw[u],h⟩
variable {hd:Int}
theorem j1(h:∀f O d,C f O=V d->(f<900/\GU Aj w T J mg mb s0 fn k f O d)\/(900<=f/\f<1000/\L4 Aj w T J mg mb s0 k f O d)\/(1000<=f/\∀m es b,f=1000+m->O= .hdr es::b->Wu Aj w T J mg mb s0 k m es b d)):I9 Aj w T J mg mb s0 fn C k:=by
 refine⟨λf O d t E=>?_,λf O d t E=>?_,λm es O d E=>?_⟩
 ·have t:=D8 t;rcases h f O d E with x|x|x
  ·exact x.2
  ·exact absurd (AE t x.1) (AN _)
  ·exact absurd (AE t (Am (by decide) x.1)) (AN _)
 ·have U:=D8 (AH t).1;have G:=D8 (AH t).2;rcases h f O d E with x|x|x
  ·exact absurd (AE x.1 U) (AN _)
  ·exact x.2.2
  ·exact absurd (AE G x.1) (AN _)
 ·rcases h _ _ d E with x|x|x
  ·exact absurd (AG (AQ 1000 m) x.1) (by decide)
  ·exact absurd (AG (AQ 1000 m) x.2.1) (AN _)
  ·exact x.2 m es O rfl rfl
noncomputable def OU(_:Nat)(_:List D):Option D:=Ao
theorem j2:I9 Aj w T J mg mb s0 fn OU k:=Nr λz z z h=>nS h
theorem RT{k:Nat}(h:k+1<=97):k+1<=100/\k+1+3<=100:=⟨Am h (by decide),BP h 3⟩
theorem ZT{z c:Int}(Ac:Nat)(hz:z.natAbs<=Ac):(z.fdiv c).natAbs<=Ac:=Am (Int.natAbs_fdiv_le_natAbs z c) hz
theorem wz(P:Pk Aj w T mg mb s0 fn hd)(o:IF Aj w hd J)(a:k+1<=97){t l:List Nat}(h:Tr t=V l):GU Aj w T J mg mb s0 fn k 20 [.str t] (.str l):=
 MS (n:=25) (O:=[.str t]) (RT a).1 wv o.2.2.2 j2 (P.hH _ o _ (RT a).2) (λh=>bF h) P.f20 rfl (ui h)
noncomputable def wA(f:Nat)(O:List D):Option D:=GH f 20 (one O λx=>H3 x λt=>(Tr t).map .str) Ao
theorem wB(P:Pk Aj w T mg mb s0 fn hd)(o:IF Aj w hd J)(a:k+2<=97){t:List Nat}{b:Bool}(h:Zt t=V b):GU Aj w T J mg mb s0 fn k 1 [.str t] (.bool b):=by
 have L:k+1<=97:=Bo a;refine MS (n:=23) (O:=[.str t]) (RT L).1 wu o.2.2.2 (Nr (C:=wA) λf O d h=>?_) (P.hH _ o _ (RT L).2) (λh=>bF h) P.f1 rfl (uq (λz=>rfl) h)
 rcases GV h with⟨e,h⟩|h
 ·obtain⟨x,e1,h⟩:=Px h;obtain⟨t,e2,h⟩:=HJ h;obtain⟨l,j,h⟩:=M6 h;rw[e,e1,e2,<-h];exact .inl ⟨by decide,wz P o a j⟩
 ·exact nS h
open Calls
noncomputable def recA(i:Nat):Nw:=((QN qA)[i]?).getD ⟨"",Gg,[],Gg,Gg⟩
theorem mem_at{z:Type}{l:List z}{i:Nat}{d:z}(h:(l[i]?).isSome=Y):(l[i]?).getD d∈l:=by
 cases e:l[i]? with
 |none=>rw[e]at h;exact bF h
 |some x=>exact BZ e
noncomputable def clsA:ClsRec:=((dclssOf qA looseA)[0]?).getD ⟨"",Ao,[],[],0,[]⟩
noncomputable def Gu(i:Nat):lH:=(clsA.meths[i]?).getD ⟨"",Gg,[],Gg⟩
noncomputable def Le:Nat->Av:=λf=>(([(0,"quotedata"),(1,"_check_parenthesis"),(2,"_law_met"),(3,"_law_free"),(4,"_law_exact"),(5,"int_divmod"),(6,"_law_ways"),(7,"_law_determinant"),(13,"_law_cells"),(14,"_law_weights"),(15,"_int2digits"),(16,"_digits2int"),(18,"_divmod_pos"),(19,"_div2n1n"),(20,"_strip_quoted_realnames"),(21,"law")]:List (Nat×Av)).lookup f).getD "?"
theorem Lf{z:Type}{l:List z}{n:Nat}(h:l.length=n+1):FC (λp:z×List z=>l=p.1::p.2) λp=>p.2.length=n:=by
 induction l with
 |nil=>exact nomatch h
 |cons a r=>exact⟨(a,r),rfl,HG h⟩
theorem TD{z:Type}{l:List z}(h:l.length=0):l=[]:=C8 h
section
variable {B:Nat->Av} {fd:BA} {x y z u t:Nat}
theorem QD(h:∀a,Du fd ⟨[a],[]⟩=BU [(B x,a)]):KB B fd [x]:=λI w=>by
 obtain⟨⟨a,r⟩,e1,U⟩:=Lf w
 apply AO e1;rw[TD U];exact h a
theorem QE(h:∀a b,Du fd ⟨[a,b],[]⟩=BU [(B x,a),(B y,b)]):KB B fd [x,y]:=λI w=>by
 obtain⟨⟨a,r⟩,e1,U⟩:=Lf w;obtain⟨⟨b,L⟩,e2,G⟩:=Lf U
 apply AO e1;rw[e2,TD G];exact h a b
theorem Wv(h:∀a b c,Du fd ⟨[a,b,c],[]⟩=BU [(B x,a),(B y,b),(B z,c)]):KB B fd [x,y,z]:=λI w=>by
 obtain⟨⟨a,r⟩,e1,U⟩:=Lf w;obtain⟨⟨b,L⟩,e2,G⟩:=Lf U;obtain⟨⟨c,e⟩,X,d⟩:=Lf G
 apply AO e1;rw[e2,X,TD d];exact h a b c
theorem wC(h:∀a b c d,Du fd ⟨[a,b,c,d],[]⟩=BU [(B x,a),(B y,b),(B z,c),(B u,d)]):KB B fd [x,y,z,u]:=λI w=>by
 obtain⟨⟨a,r⟩,e1,U⟩:=Lf w;obtain⟨⟨b,L⟩,e2,G⟩:=Lf U;obtain⟨⟨c,g⟩,X,e⟩:=Lf G;obtain⟨⟨d,r3⟩,f,l⟩:=Lf e
 apply AO e1;rw[e2,X,f,TD l];exact h a b c d
theorem j3(h:∀a b c d e,Du fd ⟨[a,b,c,d,e],[]⟩=BU [(B x,a),(B y,b),(B z,c),(B u,d),(B t,e)]):KB B fd [x,y,z,u,t]:=λI w=>by
 obtain⟨⟨a,r⟩,e1,U⟩:=Lf w;obtain⟨⟨b,L⟩,e2,G⟩:=Lf U;obtain⟨⟨c,i⟩,X,f⟩:=Lf G;obtain⟨⟨d,r3⟩,g,l⟩:=Lf f;obtain⟨⟨e,p⟩,E,D⟩:=Lf l
 apply AO e1;rw[e2,X,g,E,TD D];exact h a b c d e
end
noncomputable def Ww(U:Bool)(s:Scope):Bool:=!s.isCoroutine&&(s.isGenerator==U&&(s.kind==.function&&Pr [] s.names))
variable {EM:Nz->Option Ag} {TT:An->Prop}
inductive cN(mg:Av->Option Ag)(s0:Ah)(d:Nw):Prop
 |mk (a:An) (o:Fo) (pm cd doc:Ag) (hm:mg d.name=V (.ref a)) (ho:s0.heap.get? a=V o) (hd:o.data= .func (docDef d.name d.params d.body d.scope pm cd doc)) (hr:s0.heap.CodeRec cd d.name)
theorem ZU(T:Pi qA (Ea qA looseA) EM mg mb s0.heap){i:Nat}(h:((QN qA)[i]?).isSome=Y):cN mg s0 (recA i):=
 (T.fn (recA i) (mem_at h)).elim λa h=>h.elim λo h=>h.elim λv h=>h.elim λs h=>h.elim λq h=>⟨a,o,v,s,q,h.1,h.2.1,h.2.2.1,h.2.2.2⟩
theorem Wx{d:Nw}{a:An}{o:Fo}{v s q:Ag}{body:List Bx}(j:s0.heap.NoLimit)(C:s0.heap.get? a=V o)(hd:o.data= .func (docDef d.name d.params d.body d.scope v s q))(Q:s0.heap.CodeRec s d.name)
  (i:Ww Ak d.scope=Y)(F:d.body=body):JT s0 a (docDef d.name d.params d.body d.scope v s q) body:=
 have h:=AH i;have G:=AH h.2;have z:=AH G.2
 ⟨⟨o,C,hd⟩,j,Q,F▸rfl,rfl,rfl,rfl,(A4 _).mp h.1,AA G.1,AA z.1,z.2⟩
theorem Mf(T:Pi qA (Ea qA looseA) EM mg mb s0.heap){B:Nat->Av}{f:Nat}{xs:List Nat}{code:List Ad}(i:Nat)
  (h:(((QN qA)[i]?).isSome&&(Ww Ak (recA i).scope&&(KA xs&&((xs.all λx=>FJ (recA i).scope.names (B x))&&KQ B Le 60 (recA i).scope.names 60 (recA i).body code))))=Y)
  (M:(recA i).name=Le f)(F:∀v s q,KB B (docDef (recA i).name (recA i).params (recA i).body (recA i).scope v s q) xs):KR s0 mg B Le f xs code:=by
 obtain⟨b,h⟩:=AH h;obtain⟨c,h⟩:=AH h;obtain⟨L,h⟩:=AH h;obtain⟨t,R⟩:=AH h;obtain⟨a,o,v,s,q,U,G,z,l⟩:=ZU T b;exact⟨a,_,_,60,60,⟨M▸U,o,_,G,z,Vl z⟩,Wx T.nolimit G z l c rfl,F v s q,L,t,R⟩
structure Mg(mg:Av->Option Ag)(h:A9):Prop where
 r1:mg "_twin_re_1"=V (.ref 36)
 p1:IW h 36 H1
 r2:mg "_twin_re_2"=V (.ref 41)
 p2:IW h 41 Fi
 r3:mg "_name_disallowed_re"=V (.ref 121)
 p3:IW h 121 M5
 r4:mg "_value_disallowed_re"=V (.ref 126)
 p4:IW h 126 Lw
theorem Wy{h:A9}{a m:An}{n:Av}{t u:Nat}{b:Int}{code:Array Nat}(U:h.get? a=V (Ss n t b u m))(G:h.get? m=V (Su code)):IW h a code:=⟨_,_,_,_,_,U,G⟩
theorem res_of{w:Ca}{s0:Ah}{h:A9}(y:reYfA s0=reYaA w)(cls:∀c a,lE s0.heap c=V a↔mg c=V (.ref a))(d:∀b o,s0.heap.get? b=V o->h.get? b=V o):Mg mg h:=by
 unfold reYfA reYaA at y;rw[DA,DA,DA,DA]at y;obtain⟨U,y⟩:=G5 y;obtain⟨E,y⟩:=G5 y;obtain⟨t,y⟩:=G5 y;obtain⟨D,_⟩:=G5 y;have k:=congrArg GD U;have N:=congrArg GD E;have H:=congrArg GD t;have e:=congrArg GD D;exact⟨(cls _ _).mp (congrArg GE U),Wy (d _ _ (congrArg GE k)) (d _ _ (congrArg GD k)),(cls _ _).mp (congrArg GE E),Wy (d _ _ (congrArg GE N)) (d _ _ (congrArg GD N)),
  (cls _ _).mp (congrArg GE t),Wy (d _ _ (congrArg GE H)) (d _ _ (congrArg GD H)),(cls _ _).mp (congrArg GE D),Wy (d _ _ (congrArg GE e)) (d _ _ (congrArg GD e))⟩
theorem wD{l sl a:An}{items H:Array Ag}{Q:Unit->Ah->Prop}(j:s.heap.PlainList l items)(i:s.heap.IsSliceOf sl .none .none .none)(M:s.heap.PlainList a H)(hsz:items.size+H.size<=C5)
  (k:∀h',h'.PlainList l H->C3 l s.heap h'->Q () {s with heap:=h'}):Ap (Aq Aj w) A (JJ (.ref l) (.ref sl) (.ref a)) Q E s:=by
 obtain⟨n,C⟩:=id j;obtain⟨m,b⟩:=id M;obtain⟨os,P,g,D4⟩:=id i;have p:s.TypeIs (.ref sl) "slice":=⟨os,P,g⟩;have T:=j.isList;have hz:items.size<=C5:=Am (AQ _ _) hsz;have d:H.size<=C5:=Am (Bw _ _) hsz;unfold JJ
 try with_reducible refine AZ ?_
 first|refine Ai (Ar ?_)|skip
 refine Ai (wpAny_sequenceKey T.typeIs (by decide) ?_)
 refine Ai (Fd (name:=FQ "__setitem__") T.typeIs Sp
  (FG Sp T.typeIs entry_list_setitem ?_ (args_list_setitem _ _ _)))
 show Ap _ _ (HV (.ref sl) >>= _) _ _ s;refine Ai ?_
 unfold HV;refine Ai (FZ p slice_no_index ?_)
 rw[if_pos (rfl:Option.isNone _=Y)];refine Ar ?_
 show Ap _ _ (aK (.ref sl) >>= _) _ _ s;refine Ai (zo p ?_)
 rw[if_neg (by decide)]
 rw[listSliceParts_eq];refine Ai (Ai (GP P D4 (x:=.none) rfl (Ai (Lo .none ?_))))
 rw[if_neg (show¬((rawPart Ao==BX 0)=Y)from AR)];refine Ai (GP P D4 (x:=.none) rfl (Ai (Lo .none ?_)))
 refine Ai (GP P D4 (x:=.none) rfl (Ai (Lo .none (Ar ?_))))
 have c:∀{z:Type} {m:Array Ag->JZ z} {Q:z->Ah->Prop},Ap (Aq Aj w) A.in1 (m H) Q E s->Ap (Aq Aj w) A.in1 (if Iw (.ref l) (.ref a)=Y then Xd (.ref a) >>= m else Io (.ref a) "must assign iterable to extended slice" >>= m) Q E s:=λ{z m Q} h=>by
  by_cases e:Iw (.ref l) (.ref a)=Y
  ·rw[if_pos e];exact Ai (KN b rfl h)
  ·rw[if_neg e];unfold Io;refine Ai (Ai (zo M.isList.typeIs ?_))
   rw[if_pos (by decide)]
   exact KN b rfl h
 refine c ?_
 refine Ai (KN C rfl ?_)
 refine Ai (Fc (sliceIndices_raw Ao Ao Ao items.size (λh=>nomatch h)) ?_)
 show Ap _ _ (ite (((1:Int)==1)=Y) _ _) _ _ s;rw[if_pos (show((1:Int)==1)=Y from rfl)];refine Ai (Hq ?_)
 rw[if_neg (show¬D2 (items.size+H.size)=Y from λh=>BH (of_decide_eq_true h) hsz)]
 have e:items.extract 0 (0:Int).toNat++H++items.extract (max 0 (items.size:Int)).toNat=H:=by
  rw[show(max 0 (items.size:Int)).toNat=items.size from by rw[Int.max_eq_right (AW _)];rfl]
  simp
 refine Ai (W1 (f:=λxs=>xs.extract 0 (0:Int).toNat++H++xs.extract (max 0 (items.size:Int)).toNat) C rfl ?_ hz ?_)
 ·refine Ai (zz (Ar ⟨_,rfl,Ar (k _ ?_ (Dp ..))⟩))
  have u:(s.heap.update l (Eb λxs=>xs.extract 0 (0:Int).toNat++H++xs.extract (max 0 (items.size:Int)).toNat)).PlainList l (items.extract 0 (0:Int).toNat++H++items.extract (max 0 (items.size:Int)).toNat):=⟨_,IsL.update C _⟩
  rw[e]at u;exact u
 ·rw[e];exact BJ d
noncomputable def j4:M:=.comp (.n 2) [.mk [2] Y 0 [.call 900 [.n 0]] [.cmp (.me 3 (.idx (.n 2) (.c (.int (.k 0)))) []) [(.NotEq,.n 1)]]]
theorem wE{n:Nat}{name k:List Nat}{v d0:D}(h:(IP k&&AS k)=Y):
  MF (λA6=>ev Hb (n+4) A6 []) (MG (λA6=>ev Hb (n+4) A6 []) (.n 2) []) [2] Y [.cmp (.me 3 (.idx (.n 2) (.c (.int (.k 0)))) []) [(.NotEq,.n 1)]] [(1,.str name),(0,d0)] (.tup [.str k,v])=
   V (bI (Fq (k.map DG) name) [] [.tup [.str k,v]]):=by
 have G:ev Hb (n+4) [(2,.tup [.str k,v]),(1,.str name),(0,d0)] [] (.cmp (.me 3 (.idx (.n 2) (.c (.int (.k 0)))) []) [(.NotEq,.n 1)])=V (.bool (!Fq (k.map DG) name)):=(H2 (RJ h)).trans rfl;refine(H2 (x:=!Fq (k.map DG) name) ((H2 G).trans ?_)).trans ?_
 ·show bI (!Fq (k.map DG) name) (V Y) (V Ak)=_;cases Fq (k.map DG) name<;>rfl
 ·cases Fq (k.map DG) name<;>rfl
theorem wF{n:Nat}{name:List Nat}{d0:D}(es:List D):∀l,JS es=Y->Nj name es=V l->
  NP (MF (λA6=>ev Hb (n+4) A6 []) (MG (λA6=>ev Hb (n+4) A6 []) (.n 2) []) [2] Y [.cmp (.me 3 (.idx (.n 2) (.c (.int (.k 0)))) []) [(.NotEq,.n 1)]] [(1,.str name),(0,d0)]) es=V l:=by
 induction es with
 |nil=>exact λz z h=>h
 |cons d r ih=>
  intro l C h;obtain⟨k,v,b,hd,h,e⟩:=YL h;rw[hd]at C
  apply CE e;apply AO hd
  refine(H2 (wE (Zd (AH C).1))).trans ((H2 (ih b (AH C).2 h)).trans ?_)
  cases Fq (k.map DG) name<;>rfl
theorem wG{es:List D}{name:List Nat}(M:HY name=Y):ev Hb 8 [(0,.hdr es),(1,.str name)] [] (.call 901 [.n 0,.me 3 (.n 1) []])=V (.str (name.map DG)):=by
 have z:ev Hb 7 [(0,.hdr es),(1,.str name)] [] (.me 3 (.n 1) [])=V (.str (name.map DG)):=RJ (Zf M);have U:Gs (ev Hb 7 [(0,.hdr es),(1,.str name)] []) [.n 0,.me 3 (.n 1) []]=V [.hdr es,.str (name.map DG)]:=L8 rfl z;refine(H2 U).trans ?_
 show CB (HY (name.map DG)) _=_;rw[Ze M];rfl
theorem wH{es l:List D}{name:List Nat}(i:AS es=Y)(C:JS es=Y)(h:Nj name es=V l):ev Hb 7 [(1,.str name),(0,.hdr es)] [] j4=V (.lst l):=
 iR (n:=6) (O:=[.lst es]) rfl (Zc i) (wF (d0:=.hdr es) (n:=2) es l C h) (iQ (YM es l h) i)
section
variable (Aj:Bh) (w:Ca) (T:An->Prop) (J:Sg) (mg mb:Av->Option Ag) (s0:Ah)
def ZV(k:Nat)(a:An):Prop:=∀(A:A1) (E:Ag->Ah->Prop) (s:Ah) (x dx b:An) (I:List Ag) (O l:List D) (N:An->Prop) (kx:Av) (G:Ez) (Q:Ag->Ah->Prop),Eo k A->Bs T mg mb s0 s->GS J s.heap x dx b->
  s.heap.PlainList b I.toArray->¬T b->¬N x->¬N dx->¬N b->(∀a,N a->Da s.heap a)->BV J N s.heap I O->(Ja O&&JS O&&AS O)=Y->HY kx.cps.toList=Y->Nj (kx.cps.toList.map DG) O=V l->
  (∀S vs',Co T (·=b) s S->S.heap.PlainList b vs'.toArray->BV J N S.heap vs' l->Q .none S)->Ap (Aq Aj w) A (DP (.ref a) [.ref x,.str kx G]) Q E s
end
theorem wI{v:Expr}{x:Av}{p:B9}{line:Nat}{m:M}(R:Bu B fn fo sc v m=Y)(G:Qp v m=Y)(t:Pv m=Ak):Kc v (V (.Name x p)) line Z=BU Ak:=by
 have:=Yz R
 induction v using Ya with
 |ListComp _ _ _ _=>exact bF (t.symm.trans ((Iu _).symm.trans G))
 |SetComp a b c d=>exact absurd rfl (this.1 a b c d)
 |DictComp a b c d f=>exact absurd rfl (this.2 a b c d f)
 |_=>rfl
theorem wJ(hk:k+3<=100)(DD:∀n,(J.v n).natAbs<=2^1000){mN:Av->Option Ag}{cn:An}(HC:KC J s0 mg mN cn)(hC:Nf Aj w T J mg mb s0 (k+1)){a:An}{fd:BA}
  {e1 e2:Expr}(F:JT s0 a fd [.Assign [.Name "name" (P6 0)] e1 (P6 1),.Assign [.Subscript (.Attribute (.Name "self" (P6 2)) "_headers" (P6 3)) (.Slice Ao Ao Ao (P6 4)) (P6 5)] e2 (P6 6)])
  (r:KB (C6 Qv) fd [0,1])(M:(fd.scope.names.lookup ("self":Av)==V .local&&fd.scope.names.lookup ("name":Av)==V .cell)=Y)(j:(([0,1]:List Nat).all λx=>FJ fd.scope.names (C6 Qv x))=Y)
  (G:Bu (C6 Qv) fn fo fd.scope.names e1 (.call 901 [.n 0,.me 3 (.n 1) []])=Y)(Ev:Qp e1 (.call 901 [.n 0,.me 3 (.n 1) []])=Y)(D:Bu (C6 Qv) fn fo fd.scope.names e2 j4=Y):
  ZV Aj w T J mg mb s0 k a:=by
 intro A E s x dx b I O l N kx kt Q ha bs P hb E3 nx W nb occ hr g E4 i q;have g:=AH g;have U:=AH g.1;have M:=AH M;obtain⟨o,od,g1,g2,ho⟩:=P.it;obtain⟨E5,X⟩:=id hb;refine hZ (EJ (.a (.v 0) (.k 1)) (.k 100) [(1,.a (.v 0) (.k 3),.k 100)] rfl hk) Za F r rfl j rfl ha bs occ (.cons (.hdr nx W nb g1 g2 ho X hr) (.cons (.str rfl) .nil)) λE' Z By F4 f u R ic=>?_
 have Bd:At T J mg mb s0 (C6 Qv) fd.scope.names (k+1) (A.deeper Z) (λb=>N b\/D5 Z b) Z By [] [] []:=⟨f.ha,f.ok,f.hm,f.bs,⟨λz e hl=>nS hl,f.rel.own,f.rel.nodup,f.rel.apart,f.rel.sl⟩,f.occ,f.young⟩
 have k1:Z.kindOf ("self":Av)=V .local:=(f.ok.kindOf _).trans (AA M.1);have k2:Z.kindOf ("name":Av)=V .cell:=(f.ok.kindOf _).trans (AA M.2);have nl:¬Z.kindOf ("name":Av)=V .local:=λh=>nomatch k2.symm.trans h
 have v1:DH Z By.heap "self" (.ref x):=.inl ⟨k1,_,ic.toInCall.ns,by
  show(if Z.kindOf ("name":Av)=V .local then _ else(if Z.kindOf ("self":Av)=V .local then λ(y:Av)=>if y=("self":Av)then V (Cy x)else Ao else _):Av->Option Ag) ("self":Av)=_
  rw[if_neg nl,if_pos k1];exact if_pos rfl⟩
 have v2:DH Z By.heap "name" (.str kx kt):=by
  obtain⟨c,hc⟩:=f.ok.cells ("name":Av) (.inl (AA M.2));refine .inr ⟨.inl k2,by decide,c,hc,?_⟩
  have e:O1 Z.kindOf (((([0,1]:List Nat).map (C6 Qv))).zip [Cy x,.str kx kt]) (λB=>Ao) ("name":Av)=V (.str kx kt):=by
   show(if Z.kindOf ("name":Av)=V .local then _ else λ(y:Av)=>if y=("name":Av)then V (IG kx kt)else _:Av->Option Ag) ("name":Av)=_
   rw[if_neg nl];exact if_pos rfl
  apply CE e
  exact ic.cell _ c hc
 have d:∀{c o},s.heap.get? c=V o->¬N c->¬Dt (λb=>N b\/D5 Z b) [] c:=λe nc h=>h.elim (λh=>h.elim nc λh=>nS ((R _ h).symm.trans e)) λh=>(nomatch h)
 have hdr:∀S,BM T s S->Rd J (Dt (λb=>N b\/D5 Z b) []) S.heap (.ref x) (.hdr O):=λS e=>
  .hdr (d g1 nx) (d g2 W) (d X nb) (e.keep2 _ _ g1 ho.tab.1) (e.keep2 _ _ g2 ho.tab.2) ho (e.keep2 _ _ X rfl) (hr.mono λc o nc e' t=>⟨d e' nc,e.keep2 c o e' t⟩)
 have H:=λn=>Rq (fn:=fn) (EJ (.a (.v 0) (.k 1)) (.k 100) [(1,.a (.v 0) (.k 3),.k 100)] rfl hk:k+1<=100) Za DD (Zg (fn:=fn) HC hC) n
 have Fn:=(Bd.see (y:=1) v2 (.str rfl)).see (y:=0) v1 (hdr _ u);refine Aw (A2 (Fn.eval (H 8).1 G (wG E4) λv B4 C F0=>?_) (wI G Ev rfl))
 obtain⟨y,t,hv,ey⟩:=F0.inv
 apply AO hv
 refine(Bd.ext C).save (y:="name") (D9 j 1 (.tail _ (.head _))) (λz o h=>nS h) λF1 p F2 vn Bs=>?_
 have X4:BM T s F1:=Fe.ext2 (u.trans C) F2.gone R;have w1:=Bs _ _ (by decide) (v1.ext C)
 have Ce:=(p.see (y:=0) w1 (hdr _ X4)).see (y:=1) vn (.str ey);refine Aw (Fm (Ce.eval (H 7).1 D (wH g.2 U.2 i) λv F5 x5 F3=>?_) (YF e2 _ _ _ _ D))
 obtain⟨L,us,m,hv,nL,eL,rL⟩:=F3.inv
 apply AO hv
 have X5:=X4.trans x5;refine V2 HC (p.ext x5) (P.ext X5) (w1.ext x5) (by decide) λs6 x6=>?_
 have X6:=X5.trans x6;refine O9 ?_
 rw[lt];refine Ar (Ar (Ar ?_))
 have X7:BM T s {s6 with heap:=s6.heap.push {cls:=.type "slice",data:=.fields #[.none,.none,.none]}}:=X6.trans (.push (tk:=s6.toks))
 have Cf:(s6.heap.push {cls:=.type "slice",data:=.fields #[.none,.none,.none]}).PlainList b I.toArray:=⟨E5,X7.keep2 _ _ X rfl⟩;refine wD Cf (.new ..) ⟨m,Au _ (x6.keep2 _ _ eL rfl)⟩ ?_ λh' Cx CH=>?_
 ·have e1:=IC g.2;have e2:=YM _ _ i;rw[AD,AD,hr.length,rL.length];exact Am (Ef e1 (Am e2 e1)) (by apply AO CC;decide)
 ·refine Bz (q _ us (X7.upd.trans (.of_but (tk:=s6.toks) CH (by obtain⟨m,e⟩:=Cx;exact⟨_,e,rfl⟩) E3 (.lst Cf))) Cx (S8 (λc us n nc e=>⟨λh=>nc (.inl (.inl h)),?_⟩) _ _ (YN _ _ i U.1) rL))
  refine(CH.2 c λe'=>?_).trans (Au _ (x6.keep2 _ _ e rfl))
  have e4:=X5.keep2 _ _ X rfl;rw[e',e4]at e;exact absurd (show CF "list"=CF "tuple" from congrArg D1 (sI e)) (by decide)
section
variable {Aj:Bh} {w:Ca} {A:A1} {E:Ag->Ah->Prop} {T:An->Prop} {J:Sg} {mg mb mN:Av->Option Ag} {s0 s:Ah} {cn x dx b f:An} {i v:Ag} {name:Av}
namespace HF
theorem obj_del:Dc (.type "object") "__delitem__"=BU Ao:=by rw[BW,Bk];kernel_rfl
theorem obj_set:Dc (.type "object") "__setitem__"=BU Ao:=by rw[BW,Bk];kernel_rfl
end HF
theorem j5(H:KC J s0 mg mN cn)(e:BM T s0 s)(n:GS J s.heap x dx b)(t:mN name=V (.ref f)){of:Fo}{fd:BA}(k:s0.heap.get? f=V of)(r:of.cls= .type "function")(D:of.data= .func fd)
  (h:Dc (.type "object") name=BU Ao):s.heap.OwnSpecial x (J.v 999).toNat f "object" name:=by
 have X:=Qu H.cls e;obtain⟨B,q',bs,sn,Ix,a,P,m,d,k2,W,i,g⟩:=X.obj;obtain⟨o,c,U,G,C⟩:=n.it;exact⟨o,of,B,q',cn,bs,[.type "object"],Y,sn,Ix,_,a,P,m,d,k2,W,i,_,mN,Ao,U,C.cls,g,X.ns,t,e.keep2 f of k (JC (by rw[D];rfl)),r,F.mro_object,h⟩
theorem j6(H:KC J s0 mg mN cn)(e:BM T s0 s)(n:GS J s.heap x dx b){M:IX}{Q:Ag->Ah->Prop}(q:Q i s):Ap M A (zB (.ref x) i name) Q E s:=by
 obtain⟨f,g,d,t,os⟩:=s;have X:=Qu H.cls e;obtain⟨B,q',bs,sn,Ix,D,P,m,h,k2,W,j,a⟩:=X.obj;obtain⟨o,c,U,G,C⟩:=n.it;unfold zB;refine Ai ?_
 unfold aK
 repeat (first|(with_reducible refine Sk U ?_;rw[C.cls])|wp_step)
 refine wpAny_isSubtype_exc a ?_
 rw[show(Cy (J.v 999).toNat::[CF "object"]).contains (.type "collections.deque")=Ak from rfl];refine Ar ?_
 rw[if_pos (by rfl)]
 exact Ar q
theorem wK(H:KC J s0 mg mN cn)(e:BM T s0 s)(n:GS J s.heap x dx b){M:IX}(Ae:s.heap.OwnSpecial x (J.v 999).toNat f "object" "__delitem__"){Q:Unit->Ah->Prop}
  (q:Ap M A (DP (.ref f) [.ref x,i]) (λz=>Q ()) E s):Ap M A (delItem (.ref x) i) Q E s:=by
 unfold delItem;refine AZ (Ai (j6 H e n (Ai ?_)))
 exact NM Ae (AM q (λz z h=>Ar h) λz z h=>h)
theorem wL(H:KC J s0 mg mN cn)(e:BM T s0 s)(n:GS J s.heap x dx b){M:IX}(Ae:s.heap.OwnSpecial x (J.v 999).toNat f "object" "__setitem__"){Q:Unit->Ah->Prop}
  (q:Ap M A (DP (.ref f) [.ref x,i,v]) (λz=>Q ()) E s):Ap M A (JJ (.ref x) i v) Q E s:=by
 unfold JJ;refine AZ (Ai (j6 H e n (Ai ?_)))
 exact NM Ae (AM q (λz z h=>Ar h) λz z h=>h)
end
section
variable {T:An->Prop} {J:Sg} {s S:Ah} {x dx b:An}
theorem GS.apart(i:GS J s.heap x dx b){I:Array Ag}(F:s.heap.PlainList b I):x≠b/\dx≠b:=by
 obtain⟨o,p,U,j,C⟩:=i.it;obtain⟨m,e⟩:=F;refine⟨λq=>?_,λq=>?_⟩
 ·rw[q,e]at U;have:=congrArg D1 (sI U);rw[C.cls]at this;exact nomatch this
 ·rw[q,e]at j;have:=congrArg D1 (sI j);rw[C.dcls]at this;exact absurd (show CF "list"=CF "dict" from this) (by decide)
theorem GS.upd(i:GS J s.heap x dx b){I:Array Ag}(F:s.heap.PlainList b I)(u:Co T (·=b) s S):GS J S.heap x dx b:=by
 obtain⟨n1,n2⟩:=i.apart F;obtain⟨o,j,U,p,C⟩:=i.it;exact⟨o,j,u.keep2 _ _ n1 U C.tab.1,u.keep2 _ _ n2 p C.tab.2,C⟩
end
noncomputable def wM(p d Q:Ag):List (Av×Ag):=[((("self":Av)),p),((("name":Av)),d),((("val":Av)),Q)]
noncomputable def j7:List Av:=["self","name","val"]
section
variable (Aj:Bh) (w:Ca) (T:An->Prop) (J:Sg) (mg mb:Av->Option Ag) (s0:Ah)
def Ux(k:Nat)(a:An):Prop:=∀(A:A1) (E:Ag->Ah->Prop) (s:Ah) (x dx b:An) (I:List Ag) (O l:List D) (N:An->Prop) (kx f:Av) (G p:Ez) (dv:D) (Q:Ag->Ah->Prop),Eo k A->Bs T mg mb s0 s->GS J s.heap x dx b->
  s.heap.PlainList b I.toArray->¬T b->s0.heap.get? b=Ao->¬N x->¬N dx->¬N b->(∀a,N a->Da s.heap a)->BV J N s.heap I O->(Ja O&&JS O&&AS O)=Y->HY kx.cps.toList=Y->H7 kx.cps.toList=Y->H7 f.cps.toList=Y->LH dv=Y->Rd J N s.heap (.str f p) dv->
  Nj (kx.cps.toList.map DG) O=V l->
  (∀S vs',Co T (·=b) s S->S.heap.PlainList b vs'.toArray->BV J N S.heap vs' (l++[.tup [.str kx.cps.toList,dv]])->Q .none S)->Ap (Aq Aj w) A (DP (.ref a) [.ref x,.str kx G,.str f p]) Q E s
end
theorem j8{mN:Av->Option Ag}{cn:An}(HC:KC J s0 mg mN cn)(g:Nf Aj w T J mg mb s0 k){Z:DS}{sc:List (Av×AC)}{N2:An->Prop}(x:At T J mg mb s0 B sc k A N2 Z s [] [] []){L dx b:An}{C:List Ag}{M P:Av}{kx u:Av}{G D:Ez}
  (j:GS J s.heap L dx b)(hb:s.heap.PlainList b C.toArray)(X:¬T b)(f:C.length<=1000000)(p:DH Z s.heap "self" (.ref L))(v2:DH Z s.heap M (.str kx G))(v3:DH Z s.heap P (.str u D))(b2:(M==("__debug__":Av))=Ak)(b3:(P==("__debug__":Av))=Ak)
  (H:H7 kx.cps.toList=Y)(v:H7 u.cps.toList=Y){c1 c2 c3 c4 n1 n2 n3 n4 n5 n6 n7 n8 m1 m2 m3 m4 m5 m6:B9}(l1:(c3.endLine==c4.line)=Y)(l2:(n2.endLine==n6.line)=Y)(l3:(m2.endLine==m6.line)=Y){Q:EW->Ah->Prop}
  (q:∀S t,Co T (·=b) s S->s.heap.get? t=Ao->S.heap.get? t=V (HA #[.str kx G,.str u D] 0)->S.heap.PlainList b (C++[Cy t]).toArray->(∀c ws n,s.heap.get? c=V (HA ws n)->S.heap.get? c=V (HA ws n))->Q .next S):
  Ap (Aq Aj w) A (EB (.Expr (.Call (.Attribute (.Attribute (.Name "self" c1) "_headers" c2) "append" c3) [.Tuple [
    .Call (.Attribute (.Name "self" n1) "_convert_string_type" n2) [.Name M n3] [⟨V "name",.Constant (.bool Y) 0 n4,n5⟩] n6,
    .Call (.Attribute (.Name "self" m1) "_convert_string_type" m2) [.Name P m3] [⟨V "name",.Constant (.bool Ak) 0 m4,m5⟩] m6] 0 n7] [] c4) n8) Z) Q E s:=by
 have sz:∀{y:Av},H7 y.cps.toList=Y->y.cps.size<2^63:=λh=>by
  have:=D8 (AH h).2;rw[Bp]at this;exact AE (Ot this) (by decide)
 have d:∀S,BM T s S->S.heap.PlainList b C.toArray:=λS e=>by
  obtain⟨m,z⟩:=hb;exact⟨m,e.keep2 _ _ z rfl⟩
 refine DX ?_ (PA x.ok) rfl
 refine BC (IU rfl) (by rw[Fa (λI I h=>by cases h)];rfl) l1 ?_
 rw[Fa (λI I h=>by cases h)]
 refine V2 HC x j p (by decide) λBd N=>?_
 have a:=x.ext N;refine VP (d _ N) ?_ (by rw[AD];exact Am f (by apply AO CC;decide))
 refine QM (k:=0) (pos:=n7) ?_
 rw[Fa (λI I h=>by cases h),Fa (λI I h=>by cases h)]
 refine Ax ?_
 refine V1 a g (p.ext N) (by decide) (j.ext N) l2 (λI I h=>nomatch h) (a.name (v2.ext N) b2 ⟨kx,G,rfl,.refl,H,sz H,λBs x5=>?_⟩)
 have U:=a.ext x5;have F:=N.trans x5;refine Ax ?_
 refine V1 U g (p.ext F) (by decide) (j.ext F) l3 (λI I h=>nomatch h) (U.name (v3.ext F) b3 ⟨u,D,rfl,.refl,v,sz v,λl x6=>?_⟩)
 have i:=F.trans x6;refine AF ?_
 refine Ie ?_ (by apply AO CC;exact D8 rfl)
 have R:BM T s {l with heap:=l.heap.push {cls:=.type "tuple",data:=.seq #[.str kx G,.str u D]}}:=i.trans (.push (tk:=l.toks))
 refine⟨d _ R,λh' o r=>?_⟩
 have W:l.heap.objs.size≠b:=λe=>by
  obtain⟨m,z⟩:=d _ i;exact AN _ (e▸AY z)
 refine q _ l.heap.objs.size (R.upd.trans (.of_but (tk:=l.toks) r (by obtain⟨m,e⟩:=o;exact⟨_,e,rfl⟩) X (.lst (d _ R)))) (x.bs.free_at i _ (HX (AI _))) ((r.2 _ W).trans (Ay _ rfl)) (by rw[NG]at o;exact o) λc ws n e=>?_
 refine(r.2 c λz=>?_).trans (Au _ (i.keep2 _ _ e rfl))
 obtain⟨m,e4⟩:=hb;rw[z,e4]at e;exact absurd (show CF "list"=CF "tuple" from congrArg D1 (sI e)) (by decide)
theorem wN(hk:k+3<=100){mN:Av->Option Ag}{cn:An}(HC:KC J s0 mg mN cn)(hC:Nf Aj w T J mg mb s0 (k+1)){f:An}(hD:ZV Aj w T J mg mb s0 (k+1) f)(Bs:mN "__delitem__"=V (.ref f))
  {of:Fo}{Ce:BA}(Cf:s0.heap.get? f=V of)(Cx:of.cls= .type "function")(G:of.data= .func Ce){a:An}{fd:BA}
  (F:JT s0 a fd [.Delete [.Subscript (.Name "self" (HW 0)) (.Name "name" (HW 1)) (HW 2)] (HW 3),
   .Expr (.Call (.Attribute (.Attribute (.Name "self" (HW 4)) "_headers" (HW 5)) "append" (HW 6)) [.Tuple [
    .Call (.Attribute (.Name "self" (HW 7)) "_convert_string_type" (HW 8)) [.Name "name" (HW 9)] [⟨V "name",.Constant (.bool Y) 0 (HW 10),(HW 11)⟩] (HW 12),
    .Call (.Attribute (.Name "self" (HW 13)) "_convert_string_type" (HW 14)) [.Name "val" (HW 15)] [⟨V "name",.Constant (.bool Ak) 0 (HW 16),(HW 17)⟩] (HW 18)] 0 (HW 19)] [] (HW 20)) (HW 21)])
  (C:∀x∈fd.scope.names,x.2≠.cell)(D:KB (C6 j7) fd [0,1,2])(M:(["self","name","val"]:List Av).all (λy=>fd.scope.names.lookup y==V .local)=Y)
  (l1:((HW 6).endLine==(HW 20).line)=Y)(l2:((HW 8).endLine==(HW 12).line)=Y)(l3:((HW 14).endLine==(HW 18).line)=Y):Ux Aj w T J mg mb s0 k a:=by
 intro A E s x dx b I O l N kx vx kt vt dv Q ha bs L hb X CH nx DD nb occ hr j Ev E3 E4 E5 Fn m q;have M:∀y∈(["self","name","val"]:List Av),fd.scope.names.lookup y=V .local:=NO M;have i1:("self":Av)∈(["self","name","val"]:List Av):=.head _;have i2:("name":Av)∈(["self","name","val"]:List Av):=.tail _ (.head _);have i3:("val":Av)∈(["self","name","val"]:List Av):=.tail _ (.tail _ (.head _));refine Qt (J:=J) (B:=C6 j7) (N:=N) (EJ (.a (.v 0) (.k 1)) (.k 100) [(1,.a (.v 0) (.k 3),.k 100)] rfl hk) F C ha bs occ (Ac:=λbinds AK=>binds=wM (.ref x) (.str kx kt) (.str vx vt)/\AK=s) (λA' E'=>by rw[D _ rfl];exact Ar ⟨rfl,rfl⟩) ?_
 rintro binds AK ⟨rfl,rfl⟩
 refine⟨.refl,λy P=>?_,λZ By E' g u R vars=>?_⟩
 ·cases P with
  |head=>exact M _ i1
  |tail _ P=>cases P with
   |head=>exact M _ i2
   |tail _ P=>exact List.mem_singleton.mp P▸M _ i3
 have v1:=vars "self" (.ref x) (M _ i1) (by kernel_rfl)
 have v2:=vars "name" (.str kx kt) (M _ i2) (by kernel_rfl)
 have v3:=vars "val" (.str vx vt) (M _ i3) (by kernel_rfl)
 obtain⟨F0,g3⟩:=id hb;obtain⟨o,od,g1,g2,ho⟩:=L.it;have d:∀{c o},AK.heap.get? c=V o->¬N c->¬(λb=>N b\/D5 Z b) c:=λe H h=>h.elim H λh=>nS ((R _ h).symm.trans e)
 have nF:∀c,D5 Z c->c≠b:=λc hc e=>nS ((R c hc).symm.trans (e▸g3))
 have r:By.heap.PlainList b I.toArray:=⟨F0,u.keep2 _ _ g3 rfl⟩;have i:=L.ext u;have W:FU N (λb=>N b\/D5 Z b) AK.heap By.heap:=λc o H e t=>⟨d e H,u.keep2 c o e t⟩
 refine Aw (wpAny_Delete (wpAny_deleteEach_cons ?_))
 rw[arm_delete_Subscript];refine Ai (g.name v1 (by decide) ?_)
 refine Ai (AZ (g.name v2 (by decide) ?_))
 refine Ai (AU ?_)
 refine Ai (AZ ?_)
 refine wK HC g.bs.ext i (j5 HC g.bs.ext i Bs Cf Cx G HF.obj_del) ?_
 refine hD _ _ _ x dx b I O l (λb=>N b\/D5 Z b) kx kt _ g.ha g.bs i r X (d g1 nx) (d g2 DD) (d g3 nb) g.occ (hr.mono W) j Ev m λB4 us p F1 z=>?_
 refine lf (wpAny_deleteEach_nil ?_)
 have F2:=g.upd0 p (λc hc=>hc▸CH) (λc hc h=>nF c h hc)
 have up:∀y v,DH Z By.heap y v->DH Z B4.heap y v:=λy v h=>h.upd p (nF _ (.inl rfl)) λn c hm=>nF _ (.inr ⟨n,hm⟩)
 have Bd:=i.upd r p;refine Aw (j8 HC hC F2 Bd F1 X (by rw[z.length];exact Am (YM _ _ m) (IC (AH j).2)) (up _ _ v1) (up _ _ v2) (up _ _ v3) (by decide) (by decide) E3 E4 l1 l2 l3 λF6 t F3 ft gt F4 F5=>?_)
 refine Bz ?_
 have U:Co T (·=b) AK B4:=u.upd.trans p;refine q _ _ (U.trans F3) F4 (.append (S8 (λc ws n H e=>⟨λh=>H (.inl h),F5 c ws n e⟩) _ _ (YN _ _ m (AH (AH j).1).1) z) (.cons (.tup (n:=0) (I:=[.str kx kt,.str vx vt]) (λh=>?_) gt (.cons (.str rfl) (.cons (ML E5 Fn) .nil))) .nil))
 obtain⟨o',e',_⟩:=U.occ t (occ t h);exact nS (ft.symm.trans e')
noncomputable def ZW:List Av:=["self","name","default","k","v"]
theorem wO:EA (C6 ZW):=Nn (by decide+kernel)
noncomputable def QF:List Ad:=[.ite (.cmp (.me 3 (.n 3) []) [(.Eq,.n 1)]) [.ret (.n 4)] []]
noncomputable def ZX:List Ad:=[.asg [1] Y (.call 901 [.n 0,.me 3 (.n 1) []]),.loop [3,4] Ak 0 [.call 900 [.n 0]] QF,.ret (.n 2)]
inductive ZY(ρ1 ρ:List (Nat×D)):Prop
 |fst (h:ρ=ρ1)
 |snd (k v:D) (h:ρ=(4,v)::(3,k)::ρ1)
noncomputable def gR(low:List Nat)(es:List D):List (Nat×D):=[(1,.str low),(0,.hdr es),(2,.none)]
theorem wP{n:Nat}{low k:List Nat}{v:D}{es:List D}{ρ:List (Nat×D)}(h:(IP k&&AS k)=Y)(st:ZY (gR low es) ρ):
  JE (CL Hb (n+6) QF) [3,4] Ak (.tup [.str k,v]) ρ []=V (bI (Fq (k.map DG) low) (.ret v) (.next ((4,v)::(3,.str k)::gR low es) [])):=by
 have e:Dn [3,4] ρ=gR low es:=by induction st with
  |fst h=>apply AO h;rfl
  |snd k v h=>apply AO h;rfl
 have G:ev Hb (n+5) ((4,v)::(3,.str k)::gR low es) [] (.cmp (.me 3 (.n 3) []) [(.Eq,.n 1)])=V (.bool (Fq (k.map DG) low)):=(H2 (RJ h)).trans rfl;show CB Y (BG (L0 [3,4] Ak (.tup [.str k,v]) (Dn [3,4] ρ)) _)=_;rw[e];show CL Hb (n+6) QF ((4,v)::(3,.str k)::gR low es) []=_;refine(H2 G).trans ?_
 cases Fq (k.map DG) low<;>rfl
inductive ZZ(q:Option Dq)(ρ1:List (Nat×D)):Option D->Prop
 |some (v:D) (h:q=V (.ret v)):ZZ q ρ1 (V v)
 |none (ρ:List (Nat×D)) (h:q=V (.next ρ [])) (st:ZY ρ1 ρ):ZZ q ρ1 Ao
theorem wQ{n:Nat}{low:List Nat}{G:List D}(es:List D):∀(o:Option D) (ρ:List (Nat×D)),ZY (gR low G) ρ->JS es=Y->Nk low es=V o->ZZ (JD (JE (CL Hb (n+6) QF) [3,4] Ak) es ρ []) (gR low G) o:=by
 induction es with
 |nil=>exact λo ρ st z h=>sI h▸.none ρ rfl st
 |cons d r ih=>
  intro o ρ st C h;obtain⟨k,v,hd,h⟩:=Up h;rw[hd]at C ⊢;have t:=wP (n:=n) (v:=v) (Zd (AH C).1) st;cases q:Fq (k.map DG) low with
  |true=>
   rw[q]at t h;exact sI (show V (V v)=V o from h)▸.some v (i0 t)
  |false=>
   rw[q]at t h;rw[Tq t];exact ih o _ (.snd _ _ rfl) (AH C).2 h
theorem wR{es:List D}{name:List Nat}{o:Option D}(i:AS es=Y)(a:JS es=Y)(M:HY name=Y)(h:Nk (name.map DG) es=V o):CL Hb 9 ZX [(0,.hdr es),(1,.str name),(2,.none)] []=V (.ret (o.getD .none)):=by
 have U:Gs (ev Hb 7 [(0,.hdr es),(1,.str name),(2,.none)] []) [.n 0,.me 3 (.n 1) []]=V [.hdr es,.str (name.map DG)]:=by
  have b:ev Hb 7 [(0,.hdr es),(1,.str name),(2,.none)] [] (.me 3 (.n 1) [])=V (.str (name.map DG)):=RJ (Zf M);exact L8 rfl b
 have e1:ev Hb 8 [(0,.hdr es),(1,.str name),(2,.none)] [] (.call 901 [.n 0,.me 3 (.n 1) []])=V (.str (name.map DG)):=by
  refine(H2 U).trans ?_
  show CB (HY (name.map DG)) _=_;rw[Ze M];rfl
 refine(Qx e1 rfl).trans ?_
 show CL Hb 8 [.loop [3,4] Ak 0 [.call 900 [.n 0]] QF,.ret (.n 2)] (gR (name.map DG) es) []=_;have e2:Gs (ev Hb 7 (gR (name.map DG) es) []) [.call 900 [.n 0]]=V [.lst es]:=rfl;have X:Nl 0 [.lst es]=V es:=Zc i;refine(Tp (C:=Hb) (n:=7) (ρ:=gR (name.map DG) es) (ow:=[]) (r:=[.ret (.n 2)]) (t:=[3,4]) (CZ:=Ak) (k:=0) (body:=QF) e2 X rfl).trans ?_
 have g:=wQ (n:=1) es o (gR (name.map DG) es) (.fst rfl) a h
 generalize JD (JE (CL Hb 7 QF) [3,4] Ak) es (gR (name.map DG) es) []=z at g ⊢
 induction g with
 |some v hz=>apply AO hz;rfl
 |none ρ hz st=>
  apply AO hz
  induction st with
  |fst h=>apply AO h;rfl
  |snd k v h=>apply AO h;rfl
section
variable (Aj:Bh) (w:Ca) (T:An->Prop) (J:Sg) (mg mb:Av->Option Ag) (s0:Ah)
def Z0(k:Nat)(a:An):Prop:=∀(A:A1) (E:Ag->Ah->Prop) (s:Ah) (x dx b:An) (I:List Ag) (O:List D) (o:Option D) (N:An->Prop) (kx:Av) (G:Ez) (Q:Ag->Ah->Prop),Eo k A->Bs T mg mb s0 s->GS J s.heap x dx b->
  s.heap.PlainList b I.toArray->¬N x->¬N dx->¬N b->(∀a,N a->Da s.heap a)->BV J N s.heap I O->(JS O&&AS O)=Y->HY kx.cps.toList=Y->Nk (kx.cps.toList.map DG) O=V o->
  (∀v S,BM T s S->Rd J N S.heap v (o.getD .none)->Q v S)->Ap (Aq Aj w) A (DP (.ref a) [.ref x,.str kx G]) Q E s
end
noncomputable def j9(p d Q:Ag):List (Av×Ag):=[((("self":Av)),p),((("name":Av)),d),((("default":Av)),Q)]
theorem wS(hk:k+3<=100)(P:∀n,(J.v n).natAbs<=2^1000){mN:Av->Option Ag}{cn:An}(HC:KC J s0 mg mN cn)(hC:Nf Aj w T J mg mb s0 (k+1))(hH:L6 Aj w T J mg mb s0 (k+1)){a:An}{fd:BA}{body:List Bx}{f:Nat}(F:JT s0 a fd body)
  (r:∀x∈fd.scope.names,x.2≠.cell)(z:∀p d s,BM T s0 s->BindsTo s fd ⟨[p,d],[]⟩ (j9 p d .none))(M:(["self","name","default"]:List Av).all (λy=>fd.scope.names.lookup y==V .local)=Y)
  (R:KQ (C6 ZW) fn fo fd.scope.names f body ZX=Y):Z0 Aj w T J mg mb s0 k a:=by
 intro A E s x dx b I O o N kx kt Q ha bs U hb nx W nb occ hr l X D q;have L:k+1<=100:=EJ (.a (.v 0) (.k 1)) (.k 100) [(1,.a (.v 0) (.k 3),.k 100)] rfl hk;have M:∀y∈(["self","name","default"]:List Av),fd.scope.names.lookup y=V .local:=NO M;have i1:("self":Av)∈(["self","name","default"]:List Av):=.head _;have i2:("name":Av)∈(["self","name","default"]:List Av):=.tail _ (.head _);have i3:("default":Av)∈(["self","name","default"]:List Av):=.tail _ (.tail _ (.head _));refine Qt (J:=J) (B:=C6 ZW) (N:=N) L F r ha bs occ (Ac:=λbinds AK=>binds=j9 (.ref x) (.str kx kt) .none/\AK=s) (λA' E'=>z _ _ _ bs.ext _ _ _ _ ⟨rfl,rfl⟩) ?_
 rintro binds AK ⟨rfl,rfl⟩
 refine⟨.refl,λy G=>?_,λZ By E' g i m vars=>?_⟩
 ·cases G with
  |head=>exact M _ i1
  |tail _ G=>cases G with
   |head=>exact M _ i2
   |tail _ G=>exact List.mem_singleton.mp G▸M _ i3
 have p:=vars "self" (.ref x) (M _ i1) (by kernel_rfl)
 have d:=vars "name" (.str kx kt) (M _ i2) (by kernel_rfl)
 have v3:=vars "default" .none (M _ i3) (by kernel_rfl)
 obtain⟨Ce,g3⟩:=id hb;obtain⟨ob,od,g1,g2,C⟩:=U.it;have j:∀{c o},AK.heap.get? c=V o->¬N c->¬Dt (λb=>N b\/D5 Z b) [] c:=λe H h=>h.elim (λh=>h.elim H λh=>nS ((m _ h).symm.trans e)) λh=>(nomatch h)
 have hdr:Rd J (Dt (λb=>N b\/D5 Z b) []) By.heap (.ref x) (.hdr O):=
  .hdr (j g1 nx) (j g2 W) (j g3 nb) (i.keep2 _ _ g1 C.tab.1) (i.keep2 _ _ g2 C.tab.2) C (i.keep2 _ _ g3 rfl) (hr.mono λc o H e' t=>⟨j e' H,i.keep2 c o e' t⟩)
 have Bd:=((g.see (y:=2) v3 .none).see (y:=1) d (.str rfl)).see (y:=0) p hdr;refine AM (YY L wO P (Zg (fn:=fn) HC hC) hH (λh=>bF h) 9 _ _ _ _ _ By _ _ _ fo f body ZX _ Bd R (wR (AH l).2 (AH l).1 X D)) (λfl S C=>?_) λK K e=>e
 obtain⟨v,ev,Bs,u⟩:=C
 apply AO ev
 exact q v S (Fe.ext2 i u.gone λc h=>h.elim (m c) λh=>nomatch h) (Bs.mono λb o M e K=>⟨λh=>M (R9 h),e⟩)
noncomputable def wT(p d Q:Ag):List (Av×Ag):=[((("self":Av)),p),((("name":Av)),d),((("value":Av)),Q)]
noncomputable def kb:List Av:=["self","name","value"]
theorem wU(hk:k+3<=100){mN:Av->Option Ag}{cn:An}(HC:KC J s0 mg mN cn)(hC:Nf Aj w T J mg mb s0 (k+1)){f:An}(hG:N3 Aj w T J s0 "get" f)(W:Z0 Aj w T J mg mb s0 (k+1) f){a:An}{fd:BA}
  (F:JT s0 a fd [.Assign [.Name "result" (Gm 0)] (.Call (.Attribute (.Name "self" (Gm 1)) "get" (Gm 2)) [.Name "name" (Gm 3)] [] (Gm 4)) (Gm 5),
   .If (.Compare (.Name "result" (Gm 6)) [.Is] [.Constant .none 0 (Gm 7)] (Gm 8)) [.Expr (.Call (.Attribute (.Attribute (.Name "self" (Gm 9)) "_headers" (Gm 10)) "append" (Gm 11)) [.Tuple [
    .Call (.Attribute (.Name "self" (Gm 12)) "_convert_string_type" (Gm 13)) [.Name "name" (Gm 14)] [⟨V "name",.Constant (.bool Y) 0 (Gm 15),(Gm 16)⟩] (Gm 17),
    .Call (.Attribute (.Name "self" (Gm 18)) "_convert_string_type" (Gm 19)) [.Name "value" (Gm 20)] [⟨V "name",.Constant (.bool Ak) 0 (Gm 21),(Gm 22)⟩] (Gm 23)] 0 (Gm 24)] [] (Gm 25)) (Gm 26),.Return (V (.Name "value" (Gm 27))) (Gm 28)] [.Return (V (.Name "result" (Gm 29))) (Gm 30)] (Gm 31)])
  (L:∀x∈fd.scope.names,x.2≠.cell)(P:KB (C6 kb) fd [0,1,2])(M:(["self","name","value","result"]:List Av).all (λy=>fd.scope.names.lookup y==V .local)=Y)
  (l0:((Gm 2).endLine==(Gm 4).line)=Y)(l1:((Gm 11).endLine==(Gm 25).line)=Y)(l2:((Gm 13).endLine==(Gm 17).line)=Y)(l3:((Gm 19).endLine==(Gm 23).line)=Y):Uq Aj w T J mg mb s0 k a:=by
 intro A E s x dx b I O o N kx vx kt vt dv Q ha bs r hb Cx CH nx DD nb occ hr l Ev E3 E4 E5 Fn G q1 q2;have l:=AH l;have q:=AH l.1;have M:∀y∈(["self","name","value","result"]:List Av),fd.scope.names.lookup y=V .local:=NO M;have i1:("self":Av)∈(["self","name","value","result"]:List Av):=.head _;have i2:("name":Av)∈(["self","name","value","result"]:List Av):=.tail _ (.head _);have i3:("value":Av)∈(["self","name","value","result"]:List Av):=.tail _ (.tail _ (.head _));have i4:("result":Av)∈(["self","name","value","result"]:List Av):=.tail _ (.tail _ (.tail _ (.head _)));have j:FJ fd.scope.names ("result":Av)=Y:=by
  unfold FJ;rw[M _ i4];rfl
 refine Qt (J:=J) (B:=C6 kb) (N:=N) (EJ (.a (.v 0) (.k 1)) (.k 100) [(1,.a (.v 0) (.k 3),.k 100)] rfl hk) F L ha bs occ (Ac:=λbinds AK=>binds=wT (.ref x) (.str kx kt) (.str vx vt)/\AK=s) (λA' E'=>by rw[P _ rfl];exact Ar ⟨rfl,rfl⟩) ?_
 rintro binds AK ⟨rfl,rfl⟩
 refine⟨.refl,λy X=>?_,λZ By E' g u R vars=>?_⟩
 ·cases X with
  |head=>exact M _ i1
  |tail _ X=>cases X with
   |head=>exact M _ i2
   |tail _ X=>exact List.mem_singleton.mp X▸M _ i3
 have v1:=vars "self" (.ref x) (M _ i1) (by kernel_rfl)
 have v2:=vars "name" (.str kx kt) (M _ i2) (by kernel_rfl)
 have v3:=vars "value" (.str vx vt) (M _ i3) (by kernel_rfl)
 obtain⟨F0,g3⟩:=id hb;obtain⟨ob,od,g1,g2,ho⟩:=r.it;have D:∀{c o},AK.heap.get? c=V o->¬N c->¬(λb=>N b\/D5 Z b) c:=λe H h=>h.elim H λh=>nS ((R _ h).symm.trans e)
 have nF:∀c,D5 Z c->c≠b:=λc hc e=>nS ((R c hc).symm.trans (e▸g3))
 have Bd:∀S,BM T AK S->S.heap.PlainList b I.toArray:=λS e=>⟨F0,e.keep2 _ _ g3 rfl⟩
 obtain⟨⟨Bs,F1,F2,F3,F4⟩,Ce⟩:=hG;refine Aw (A2 ?_ rfl)
 refine Pu (IU rfl) (by rw[Fa (λK K h=>by cases h)];rfl) l0 ?_
 rw[Fa (λK K h=>by cases h)]
 refine g.name v1 (by decide) λpl=>?_
 refine Ce _ _ By x dx b pl _ g.bs.ext (r.ext u) ?_
 refine Ba (o:=Bs) (fd:=F1) (CI (Ax ?_))
 refine g.name v2 (by decide) (AF ?_)
 refine⟨⟨g.bs.ext.keep2 f Bs F2 F4,F3⟩,?_⟩
 refine W _ _ By x dx b I O o (λb=>N b\/D5 Z b) kx kt _ g.ha g.bs (r.ext u) (Bd _ u) (D g1 nx) (D g2 DD) (D g3 nb) g.occ (hr.mono λc o H e t=>⟨D e H,u.keep2 c o e t⟩) ((Bg _ _).mpr ⟨q.2,l.2⟩) Ev G λv B4 m C=>?_
 refine(g.ext m).save (y:="result") j (λz o h=>nS h) λF5 i F6 vr p=>?_
 have U:BM T AK F5:=Fe.ext2 (u.trans m) F6.gone R
 induction o with
 |some d=>
  have ht:=gN O q.1 G;obtain⟨y,t,hv⟩:=Rz ht C;rw[hv]at vr C;refine Aw (EN (Ch (i.name vr (by decide) (EH (wpAny_is_other rfl (by intro h;cases h) (Bq ?_))))))
  rw[if_neg AR];refine Aw (CD (i.name vr (by decide) ?_))
  exact q1 d rfl _ _ U (ML ht C)
 |none=>
  rw[show v= .none from C.inv]at vr;refine Aw (EN (Ch (i.name vr (by decide) (EH (ll rfl (Bq ?_))))))
  rw[if_pos rfl];have w3:=p _ _ (by decide) (v3.ext m)
  refine Aw (j8 HC hC i (r.ext U) (Bd _ U) Cx (by rw[hr.length];exact IC l.2) (p _ _ (by decide) (v1.ext m)) (p _ _ (by decide) (v2.ext m)) w3 (by decide) (by decide) E3 E4 l1 l2 l3 λGo t u5 ft gt F7 Gl=>?_)
  have Cf:=i.upd0 u5 (λc hc=>hc▸CH) (λc hc h=>nF c h hc)
  refine Aw (CD (Cf.name (w3.upd u5 (nF _ (.inl rfl)) λn c hm=>nF _ (.inr ⟨n,hm⟩)) (by decide) ?_))
  refine q2 rfl _ _ (U.upd.trans u5) F7 (.append (S8 (λc ws n H e=>⟨H,Gl c ws n (U.keep2 _ _ e rfl)⟩) _ _ q.1 hr) (.cons (.tup (n:=0) (I:=[.str kx kt,.str vx vt]) (λh=>?_) gt (.cons (.str rfl) (.cons (ML E5 Fn) .nil))) .nil))
  obtain⟨o',e',_⟩:=(occ t h).ext U;exact nS (ft.symm.trans e')
noncomputable def wV(p:Ag):List (Av×Ag):=[((("self":Av)),p)]
noncomputable def ke:List Av:=["self"]
theorem wW{Z:DS}{v:Expr}{p pos:B9}{T:String}{id:String}{Q:Ag->Ah->Prop}(j:Dc (.type T) "__getitem__"=BU (V (.builtin id)))
  (h:Ap (Aq Aj w) A (C1 v Z) (λo AK=>Ap (Aq Aj w) A (C1 (.Slice Ao Ao Ao p) Z) (λi By=>By.TypeIs o T/\Ap (Aq Aj w) A (Nx o i) Q E By) E AK) E s):
  Ap (Aq Aj w) A (C1 (.Subscript v (.Slice Ao Ao Ao p) pos) Z) Q E s:=by
 rw[eval_Subscript];refine Ai (AM h (λo AK X=>Ai (AZ (AM X (λi By q=>Ai (AU ?_)) λz z x=>x))) λz z x=>x)
 have F:Ap (Aq Aj w) A (operate [i,o] (Nx o i)) (λr B4=>Ap (Aq Aj w) A (letTemporaryGo v o r >>= λz=>BU r) Q E B4) E By:=
  wpAny_operating (AM q.2 (λr B4 M=>Ai (Ii (Ar M))) λz z x=>x)
 first
  |(refine Ai ?_
    rw[getitemInPython_of_ne q.1.not_modules];refine Ai (FZ q.1 j ?_)
    first
     |exact Ar (Ai F)
     |exact Ai (Ar (Ai F))
     |exact Ai F)
  |(refine Ai (FZ q.1 j ?_)
    first
     |exact Ai (Ar (Ai F))
     |exact Ai F)
theorem wX(P:k+3<=100){mN:Av->Option Ag}{cn:An}(H:KC J s0 mg mN cn){a:An}{fd:BA}(F:JT s0 a fd [.Return (V (.Subscript (.Attribute (.Name "self" (Sv 0)) "_headers" (Sv 1)) (.Slice Ao Ao Ao (Sv 2)) (Sv 3))) (Sv 4)])
  (v:∀x∈fd.scope.names,x.2≠.cell)(d:KB (C6 ke) fd [0])(M:fd.scope.names.lookup ("self":Av)=V .local):Ur Aj w T J mg mb s0 k a:=by
 intro A E s x dx b I O N Q L bs f U occ D i q;refine Qt (J:=J) (B:=C6 ke) (N:=N) (EJ (.a (.v 0) (.k 1)) (.k 100) [(1,.a (.v 0) (.k 3),.k 100)] rfl P) F v L bs occ (Ac:=λbinds AK=>binds=wV (.ref x)/\AK=s) (λA' W=>by rw[d _ rfl];exact Ar ⟨rfl,rfl⟩) ?_
 rintro binds AK ⟨rfl,rfl⟩
 refine⟨.refl,λy X=>List.mem_singleton.mp X▸M,λZ By W l u R vars=>?_⟩
 have p:=vars "self" (.ref x) M (by kernel_rfl)
 refine Aw (CD (wW (T:="list") list_getitem_lookup ?_))
 refine V2 H l (f.ext u) p (by decide) λB4 z=>?_
 have r:=u.trans z;obtain⟨m,e⟩:=U;have j:B4.heap.IsList b I.toArray:=⟨_,r.keep2 _ _ e rfl,rfl,_,rfl⟩;refine O9 ?_
 rw[lt];refine Ar (Ar (Ar ⟨(j.push _).typeIs,MB (j.push _) (JA ..) .none .none .none (by decide) ?_ ?_⟩))
 rotate_left
 ·rw[AD,D.length];exact Am (IC i) (by apply AO CC;decide)
 ·rw[slicePick_all,B6];have x4:BM T B4 {B4 with heap:=(B4.heap.push {cls:=.type "slice",data:=.fields #[.none,.none,.none]}).push {cls:=.type "list",data:=.seq I.toArray}}:=.of_keeps (tk:=B4.toks) λc o e=>Au _ (Au _ e)
  have G:=r.trans x4;have nN:¬N (B4.heap.objs.size+1):=λh=>by
   obtain⟨o',C,_⟩:=(occ _ h).ext r;exact Nat.not_succ_le_self _ (CN (AY C))
  refine q _ _ G (.lst (n:=0) (I:=I) nN ?_ (D.mono λc o nc C t=>⟨nc,G.keep2 c o C t⟩))
  have g:=Ay (B4.heap.push {cls:=.type "slice",data:=.fields #[.none,.none,.none]}) (o:={cls:=.type "list",data:=.seq I.toArray}) rfl;rw[B6]at g;exact g
noncomputable def kf(x:Av):Bool:=!startupNames.contains x&&(!(Ea qA looseA).contains x&&(!((QN qA).map (·.name)).contains x&&(!((litsOf qA).map (·.1)).contains x&& !((clssOf qA (Ea qA looseA)).map (·.name)).contains x)))
theorem TE{l:List Av}{x:Av}(h:(!l.contains x)=Y):x∉l:=λm=>by
 rw[List.contains_iff_mem.mpr m]at h;exact bF h
theorem Wz(T:Pi qA (Ea qA looseA) EM mg mb s0.heap){x:Av}(h:kf x=Y):mg x=Ao:=
 have U:=AH h;have G:=AH U.2;have z:=AH G.2;have l:=AH z.2
 T.free x (TE U.1) (TE G.1) (TE z.1) (TE l.1) (TE l.2)
theorem kg{p:Nat->Bool}{n:Nat}(h:(Br n).all p=Y){b:Nat}(F:b<n):p b=Y:=D9 h b (jR F)
theorem wY(T:Pi qA (Ea qA looseA) EM mg mb s0.heap):Gl s0.heap mg mb:=
 ⟨T.g,T.b,λz F=>Wz T (kg (p:=λb=>kf (MH b)) (n:=10) (by kernel_rfl) F),
  λb F=>(T.builtins _ (by have:=kg (p:=λb=>!(MH b==("__name__":Av))) (n:=10) (by kernel_rfl) F;exact ne_of_beq_false ((A4 _).mp this))).trans (nq b F)⟩
theorem Z1(T:Pi qA (Ea qA looseA) EM mg mb s0.heap){x:Av}{v:Option Ag}(U:(x==("__name__":Av))=Ak)(G:zj x=v):mb x=v:=(T.builtins x (ne_of_beq_false U)).trans G
theorem Z2(T:Pi qA (Ea qA looseA) EM mg mb s0.heap)(R:Mg mg s0.heap):V0 s0 mg mb:=
 ⟨Wz T (by kernel_rfl),Z1 T (by kernel_rfl) (by kernel_rfl),Wz T (by kernel_rfl),Z1 T (by kernel_rfl) (by kernel_rfl),⟨_,R.r3,R.p3⟩,⟨_,R.r4,R.p4⟩⟩
inductive Mh(mg:Av->Option Ag)(h:A9)(C:An)(mN:Av->Option Ag)(N:An):Prop
 |mk (hm:mg "Headers"=V (.ref C)) (P:PlainAtD h clsA C N mN)
theorem Mh.cls{C N:An}{mN:Av->Option Ag}(H:Mh mg s0.heap C mN N)(i:(J.v 999).toNat=C):KC J s0 mg mN N:=
 have q:∀{x:Av},clsA.quiet.contains x=Y->mN x=Ao:=λh=>H.2.quiet _ (List.contains_iff_mem.mp h)
 ⟨i▸H.1,i▸H.2.cls,q (by kernel_rfl),q (by kernel_rfl),q (by kernel_rfl),q (by kernel_rfl)⟩
inductive wZ(mN:Av->Option Ag)(s0:Ah)(m:lH):Prop
 |mk (f:An) (o:Fo) (pm cd doc dV:Ag) (hn:mN m.name=V (.ref f)) (ho:s0.heap.get? f=V o) (hc:o.cls= .type "function") (hd:o.data= .func (JK m.name (clsA.name++"."++m.name) m.params m.body m.scope pm cd doc dV))
  (hr:s0.heap.CodeRec cd (clsA.name++"."++m.name)) (hdf:DefaultsOk 0 s0.heap m.params dV)
theorem OV{C N:An}{mN:Av->Option Ag}(H:Mh mg s0.heap C mN N)(i:Nat)(h:(clsA.meths[i]?).isSome=Y):wZ mN s0 (Gu i):=
 (H.2.meths (Gu i) (mem_at h)).elim λf h=>h.elim λo h=>h.elim λv h=>h.elim λs h=>h.elim λq h=>h.elim λa h=>⟨f,o,v,s,q,a,h.1,h.2.1,h.2.2.1,h.2.2.2.1,h.2.2.2.2.1,h.2.2.2.2.2⟩
theorem OW{m:lH}{f:An}{o:Fo}{v s a b:Ag}{q:Av}{body:List Bx}(j:s0.heap.NoLimit)(C:s0.heap.get? f=V o)(hd:o.data= .func (JK m.name q m.params m.body m.scope v s a b))(Q:s0.heap.CodeRec s q)
  (i:Ww Ak m.scope=Y)(F:m.body=body):JT s0 f (JK m.name q m.params m.body m.scope v s a b) body:=
 have h:=AH i;have G:=AH h.2;have z:=AH G.2
 ⟨⟨o,C,hd⟩,j,Q,F▸rfl,rfl,rfl,rfl,(A4 _).mp h.1,AA G.1,AA z.1,z.2⟩
noncomputable def RU(l:List Bx)(i:Nat):List Bx:=aW l i
theorem PO{l:List (Av×AC)}(h:(l.all λx=>!(x.2==.cell))=Y):∀x∈l,x.2≠.cell:=λx L e=>by
 have:=D9 h x L;rw[e]at this;exact bF this
theorem RV(T:Pi qA (Ea qA looseA) EM mg mb s0.heap)(R:Mg mg s0.heap){C N:An}{mN:Av->Option Ag}(H:Mh mg s0.heap C mN N)(n:(J.v 999).toNat=C)(P:k+1<=100):Nf Aj w TT J mg mb s0 k:=by
 obtain⟨f,o,v,s,q,b,M,a,E,hd,Q,L⟩:=OV H 1 (by kernel_rfl)
 have e:=L.none_of (show(Gu 1).params.defaults=[]by kernel_rfl)
 rw[e]at hd;refine⟨f,RI (H.cls n) M a E hd HF.obj_cvt (by decide+kernel),?_⟩
 exact tv P (Z2 T R) (bad:=RU (RU (Gu 1).body 0) 1) (rest:=(Gu 1).body.tail) (OW T.nolimit a hd Q (by kernel_rfl) (by kernel_rfl)) (PO (by kernel_rfl)) (by kernel_rfl) (λz z z=>by kernel_rfl) (by kernel_rfl) (by kernel_rfl)
noncomputable def kh(fd:BA)(I:List Ag):{k:Option (Array Ag)->JZ (List (Av×Ag)) // Du fd ⟨I,[]⟩=seqItems? fd.defaults >>= k}:=⟨_,rfl⟩
theorem cO(T:Pi qA (Ea qA looseA) EM mg mb s0.heap)(R:Mg mg s0.heap){C N:An}{mN:Av->Option Ag}(H:Mh mg s0.heap C mN N)(i:(J.v 999).toNat=C)(P:k+3<=100)(d:∀n,(J.v n).natAbs<=2^1000):
  ∀(A:A1) (E:Ag->Ah->Prop) (s:Ah) (L:An) (Q:Ag->Ah->Prop),Eo k A->Bs TT mg mb s0 s->s.heap.PlainList L #[]->¬TT L->
  (∀x dx S,BM TT s S->s.heap.get? x=Ao->s.heap.get? dx=Ao->GS J S.heap x dx L->Q (.ref x) S)->Ap (Aq Aj w) A (DP (.ref (J.v 999).toNat) [.ref L]) Q E s:=by
 obtain⟨f,o,v,t,q,u,M,h,l,hd,r,g⟩:=OV H 0 (by kernel_rfl)
 obtain⟨D,c,m,p,e,z,j,_⟩:=g.take1 (show litsOf? (Gu 0).params.defaults=V [.none]by kernel_rfl)
 refine tA P d (Z2 T R) (H.cls i) h l (bad:=RU (Gu 0).body 1) (fbody:=RU (RU (Gu 0).body 3) 0) (OW T.nolimit h hd r (by kernel_rfl) (by kernel_rfl)) M (PO (by kernel_rfl)) (λa b s x=>?_) (by kernel_rfl) (by kernel_rfl)
 apply AO e
 exact K0 rfl (x.keep2 _ _ z (JC (by rw[j];rfl))) j (kh _ _).2 (by kernel_rfl)
theorem cQ(T:Pi qA (Ea qA looseA) EM mg mb s0.heap)(R:Mg mg s0.heap){C N:An}{mN:Av->Option Ag}(H:Mh mg s0.heap C mN N)(a:(J.v 999).toNat=C)(P:k+3<=100):FC (λf=>N3 Aj w TT J s0 "add_header" f) λf=>
  ∀(A:A1) (E:Ag->Ah->Prop) (s:Ah) (x dx b:An) (I:List Ag) (kx c:Av) (G r:Ez) (Q:Ag->Ah->Prop),Eo k A->Bs TT mg mb s0 s->GS J s.heap x dx b->
  s.heap.PlainList b I.toArray->¬TT b->I.length<=lim->H7 kx.cps.toList=Y->H7 c.cps.toList=Y->
  (∀t l vs' u g n S,Co TT (·=b) s S->s.heap.get? t=Ao->S.heap.get? t=V (HA #[.str l u,.str vs' g] n)->l.cps=kx.cps->vs'.cps=c.cps->S.heap.PlainList b (I++[Cy t]).toArray->Q .none S)->
  Ap (Aq Aj w) A (DP (.ref f) [.ref x,.str kx G,.str c r]) Q E s:=by
 obtain⟨f,o,v,y,h,U,M,m,z,hd,D,L⟩:=OV H 16 (by kernel_rfl)
 have e:=L.none_of (show(Gu 16).params.defaults=[]by kernel_rfl)
 rw[e]at hd;refine⟨f,RI (H.cls a) M m z hd HF.obj_add (by decide+kernel),?_⟩
 refine tC (fbody:=RU (Gu 16).body 2) P (Z2 T R) (H.cls a) (RV T R H a (Am (DM _) P)) (OW T.nolimit m hd D (by kernel_rfl) (by kernel_rfl)) (PO (by kernel_rfl)) (by kernel_rfl) (by kernel_rfl) (by kernel_rfl) (by kernel_rfl) (by kernel_rfl) (by kernel_rfl) (λW X s p i j Ac q=>?_) (by kernel_rfl)
 have F:∀p i j,Du (JK (Gu 16).name (clsA.name++"."++(Gu 16).name) (Gu 16).params (Gu 16).body (Gu 16).scope v y h .none) ⟨[p,i,j],[]⟩=(alloc OP >>= λd=>BU (Y9 p i j (.ref d))):=λB B B=>by kernel_rfl
 rw[F];exact Ai (zw (Ar q))
theorem WA(T:Pi qA (Ea qA looseA) EM mg mb s0.heap)(R:Mg mg s0.heap){C N:An}{mN:Av->Option Ag}(H:Mh mg s0.heap C mN N)(b:(J.v 999).toNat=C)(h:J.prog=Aj/\J.w=w)(x:∀n,(J.v n).natAbs<=2^1000)(hm:∃o,s0.heap.get? EY=V o)(P:k+3<=100):L6 Aj w TT J mg mb s0 k:=by
 obtain⟨m,d,u⟩:=cQ (Aj:=Aj) (w:=w) (TT:=TT) (J:=J) (mb:=mb) T R H b P;refine⟨?_,h,hm,⟨N,mN,(H.cls b).glob,λs e=>Qu (H.cls b).cls e⟩,cO T R H b P x,⟨m,d,u⟩⟩
 obtain⟨a,o,v,p,q,U,G,z,l⟩:=ZU T (i:=7) (by kernel_rfl)
 have j:mg "_iter_escaped_chars"=V (.ref a):=(show(recA 7).name=("_iter_escaped_chars":Av)by kernel_rfl)▸U
 have c:Ww Y (recA 7).scope=Y:=by kernel_rfl
 have g:=AH c;have f:=AH g.2;have Q:=AH f.2;exact t7 P x j ⟨⟨o,G,z⟩,T.nolimit,l,(show zM (recA 7).body= .stmts RK by kernel_rfl),rfl,rfl,rfl,(A4 _).mp g.1,AA f.1,AA Q.1,Q.2⟩ (PO (by kernel_rfl)) (λt=>by kernel_rfl)
  (λy A=>AA (D9 (show(FK.all λy=>(recA 7).scope.names.lookup y==V .local)=Y by kernel_rfl) y A)) (by kernel_rfl) (Wz T (by kernel_rfl)) (Z1 T (by kernel_rfl) (by kernel_rfl))
theorem w6(T:Pi qA (Ea qA looseA) EM mg mb s0.heap)(R:Mg mg s0.heap){C N:An}{mN:Av->Option Ag}(H:Mh mg s0.heap C mN N)(b:(J.v 999).toNat=C)(i:J.prog=Aj/\J.w=w)(a:∀n,(J.v n).natAbs<=2^1000)(hm:∃o,s0.heap.get? EY=V o)(P:k+4<=100){es l:List D}{name:List Nat}(c:AS es=Y)
  (d:JS es=Y)(hp:HY name=Y)(h:Py name es=V l):Wu Aj w TT J mg mb s0 k 6 es [.str name] (.lst l):=by
 obtain⟨f,o,v,y,r,z,M,m,t,hd,u,j⟩:=OV H 7 (by kernel_rfl)
 have e:=j.none_of (show(Gu 7).params.defaults=[]by kernel_rfl)
 rw[e]at hd;refine⟨f,RI (H.cls b) M m t hd HF.obj_getall (by decide+kernel),λA E N s x I Q g bs occ L p q=>?_⟩
 exact ie (fn:=Le) (C:=Hb) (Am (Cw (by decide) _) P) Za a (Zg (H.cls b) (RV T R H b (EJ (.a (.a (.v 0) (.k 1)) (.k 1)) (.k 100) [(1,.a (.v 0) (.k 4),.k 100)] rfl P))) (WA T R H b i a hm P) (λh=>bF h) (OW T.nolimit m hd u (by kernel_rfl) rfl) (QE λB B=>by kernel_rfl) (xs:=[0,1]) rfl (fo:=60) (f:=60) (by kernel_rfl) rfl (by kernel_rfl) (tI c d hp h) A E N s (.ref x::I) Q g bs occ (.cons L p) q
namespace HF
theorem obj_get:Dc (.type "object") "get"=BU Ao:=by rw[BW,Bk];kernel_rfl
theorem obj_setdefault:Dc (.type "object") "setdefault"=BU Ao:=by rw[BW,Bk];kernel_rfl
theorem obj_items:Dc (.type "object") "items"=BU Ao:=by rw[BW,Bk];kernel_rfl
end HF
noncomputable def eX(st:Option Bx):Expr:=(st.map λst=>U1 Gg st (λz e=>e) (λz z e=>e) (λe=>e) (λe z z=>e) (λe z z z=>e) (λe=>e.getD Gg) (λz z=>Gg)).getD Gg
theorem cR(T:Pi qA (Ea qA looseA) EM mg mb s0.heap)(R:Mg mg s0.heap){C N:An}{mN:Av->Option Ag}(H:Mh mg s0.heap C mN N)(a:(J.v 999).toNat=C)(x:∀n,(J.v n).natAbs<=2^1000)(P:k+3<=100){f:An}{o:Fo}{v s q:Ag}
  (b:s0.heap.get? f=V o)(hd:o.data= .func (JK (Gu 4).name (clsA.name++"."++(Gu 4).name) (Gu 4).params (Gu 4).body (Gu 4).scope v s q .none))(Q:s0.heap.CodeRec s (clsA.name++"."++(Gu 4).name)):ZV Aj w TT J mg mb s0 k f:=
 wJ (fn:=Le) (fo:=60) (e1:=eX (Gu 4).body[0]?) (e2:=eX (Gu 4).body[1]?) P x (H.cls a) (RV T R H a (Bo P)) (OW T.nolimit b hd Q (by kernel_rfl) (by kernel_rfl)) (QE λz z=>by kernel_rfl) (by kernel_rfl) (by kernel_rfl) (by kernel_rfl) (by kernel_rfl) (by kernel_rfl)
theorem cS(T:Pi qA (Ea qA looseA) EM mg mb s0.heap)(R:Mg mg s0.heap){C N:An}{mN:Av->Option Ag}(H:Mh mg s0.heap C mN N)(d:(J.v 999).toNat=C)(x:∀n,(J.v n).natAbs<=2^1000)(P:k+4<=100){f:An}{o:Fo}{v s q:Ag}
  (g:s0.heap.get? f=V o)(hd:o.data= .func (JK (Gu 3).name (clsA.name++"."++(Gu 3).name) (Gu 3).params (Gu 3).body (Gu 3).scope v s q .none))(Q:s0.heap.CodeRec s (clsA.name++"."++(Gu 3).name)):Ux Aj w TT J mg mb s0 k f:=by
 obtain⟨l,j,h,D,c,i,e,a,r,b,X,L⟩:=OV H 4 (by kernel_rfl)
 rw[L.none_of (show(Gu 4).params.defaults=[]by kernel_rfl)]at b
 have U:k+3<=100:=Bo P;refine wN U (H.cls d) (RV T R H d (Bo U)) (cR T R H d x P a b X) ((show(Gu 4).name=("__delitem__":Av)by kernel_rfl)▸e) a r b (OW T.nolimit g hd Q ?_ ?_) (PO ?_) (Wv λz z z=>?_) ?_ ?_ ?_ ?_<;>kernel_rfl
theorem cT(T:Pi qA (Ea qA looseA) EM mg mb s0.heap)(R:Mg mg s0.heap){C N:An}{mN:Av->Option Ag}(H:Mh mg s0.heap C mN N)(g:(J.v 999).toNat=C)(i:J.prog=Aj/\J.w=w)(d:∀n,(J.v n).natAbs<=2^1000)(hm:∃o,s0.heap.get? EY=V o)(P:k+4<=100):∃f,N3 Aj w TT J s0 "get" f/\Z0 Aj w TT J mg mb s0 k f:=by
 obtain⟨f,o,v,r,q,t,M,l,E,hd,Q,L⟩:=OV H 8 (by kernel_rfl)
 obtain⟨D,c,m,p,e,z,j,h⟩:=L.take1 (show litsOf? (Gu 8).params.defaults=V [.none]by kernel_rfl)
 have U:k+3<=100:=Bo P;refine⟨f,RI (H.cls g) M l E hd HF.obj_get (by decide+kernel),wS (fn:=Le) (fo:=60) (f:=60) U d (H.cls g) (RV T R H g (Bo U)) (WA T R H g i d hm P) (OW T.nolimit l hd Q (by kernel_rfl) rfl) (PO (by kernel_rfl)) (λa b s x=>?_) (by kernel_rfl) (by kernel_rfl)⟩
 cases h
 apply AO e
 exact K0 rfl (x.keep2 _ _ z (JC (by rw[j];rfl))) j (kh _ _).2 (by kernel_rfl)
theorem w7(T:Pi qA (Ea qA looseA) EM mg mb s0.heap)(R:Mg mg s0.heap){C N:An}{mN:Av->Option Ag}(H:Mh mg s0.heap C mN N)(d:(J.v 999).toNat=C)(hs:J.prog=Aj/\J.w=w)(p:∀n,(J.v n).natAbs<=2^1000)(hm:∃o,s0.heap.get? EY=V o)(hk:k+5<=100):MM Aj w TT J mg mb s0 k:=by
 obtain⟨f,o,pm,cd,E3,dV,hn,ho,hc,hd,hr,L⟩:=OV H 3 (by kernel_rfl)
 rw[L.none_of (show(Gu 3).params.defaults=[]by kernel_rfl)]at hd
 obtain⟨f2,o2,E4,E5,DD,Fn,D,e,g,i,F,r⟩:=OV H 15 (by kernel_rfl)
 rw[r.none_of (show(Gu 15).params.defaults=[]by kernel_rfl)]at i
 obtain⟨f3,o3,F0,F1,Ev,F2,G,t,M,j,P,u⟩:=OV H 11 (by kernel_rfl)
 rw[u.none_of (show(Gu 11).params.defaults=[]by kernel_rfl)]at j
 have y:k+4<=100:=Bo hk;have U:k+3<=100:=Bo y;obtain⟨fg,h,a⟩:=cT (k:=k+1) T R H d hs p hm hk;exact⟨λA E s x dx b I O l N kx vx kt vt dv Q ha bs m hb X c nx W nb occ Bd v Bs Ce Cf Cx CH z q=>wL (H.cls d) bs.ext m (j5 (H.cls d) bs.ext m ((show(Gu 3).name=("__setitem__":Av)by kernel_rfl)▸hn) ho hc hd HF.obj_set) (cS T R H d p y ho hd hr A E s x dx b I O l N kx vx kt vt dv (λB=>Q ()) ha bs m hb X c nx W nb occ Bd v Bs Ce Cf Cx CH z q),
  ⟨f2,RI (H.cls d) ((show(Gu 15).name=("setdefault":Av)by kernel_rfl)▸D) e g i HF.obj_setdefault (by decide+kernel),wU U (H.cls d) (RV T R H d (Bo U)) h a (OW T.nolimit e i F (by kernel_rfl) (by kernel_rfl)) (PO (by kernel_rfl)) (Wv λB B B=>by kernel_rfl) (by kernel_rfl) (by kernel_rfl) (by kernel_rfl) (by kernel_rfl) (by kernel_rfl)⟩,
  ⟨f3,RI (H.cls d) ((show(Gu 11).name=("items":Av)by kernel_rfl)▸G) t M j HF.obj_items (by decide+kernel),wX U (H.cls d) (OW T.nolimit t j P (by kernel_rfl) (by kernel_rfl)) (PO (by kernel_rfl)) (QD λB=>by kernel_rfl) (by kernel_rfl)⟩⟩
theorem w8:EA (C6 ["data"]):=Nn (by decide+kernel)
theorem w9(T:Pi qA (Ea qA looseA) EM mg mb s0.heap)(R:Mg mg s0.heap)(P:k+1<=100){t:List Nat}(D:t.length<=400000):GU Aj w TT J mg mb s0 Le k 0 [.str t] (.str (PH t)):=by
 obtain⟨a,o,d,s,q,U,G,z,l⟩:=ZU T (i:=0) (by kernel_rfl)
 have M:(recA 0).name=Le 0:=by kernel_rfl
 obtain⟨v,c,F⟩:=T.const "CRLF" (.str ⟨#[13,10]⟩) (by kernel_rfl)
 obtain⟨b,u⟩:∃b,v= .str ⟨#[13,10]⟩ b:=by
  have:=F s0.heap;cases this with|str _ t=>exact⟨t,rfl⟩
 refine⟨a,⟨M▸U,o,_,G,z,Vl z⟩,?_⟩
 refine to (B:=C6 ["data"]) (x:=0) P w8 (Wx T.nolimit G z l ?_ ?_) (QD λy=>?_) ?_ ?_ ?_ ?_ ?_ ?_ ?_ R.r1 R.r2 (u▸c) R.p1 R.p2 D<;>kernel_rfl
inductive QG(mg:Av->Option Ag)(s0:Ah)(d:Nw)(P:An):Prop
 |mk (a:An) (o:Fo) (pm c doc:Ag) (c':An) (hm:mg d.name=V (.ref a)) (ho:s0.heap.get? a=V o) (hd:o.data= .func (docDef d.name d.params d.body d.scope pm c doc)) (hr:s0.heap.CodeRec c d.name) (hc:c= .ref c') (C:Lh s0.heap c' P) (e:s0.heap.get? P=V (Hp #[]))
theorem tab_at(T:Pi qA (Ea qA looseA) EM mg mb s0.heap){i:Nat}(h:((QN qA)[i]?).isSome=Y):∃P,QG mg s0 (recA i) P:=by
 obtain⟨a,o,v,s,q,U,G,z,l⟩:=T.fn (recA i) (mem_at h);obtain⟨g,j,fd,c,P,E,b,Q,d,f,R⟩:=T.tab (recA i) (mem_at h);rw[U]at E;rw[<-Jj (CK E),G]at b;rw[<-CK b,z]at Q;have e:=zs Q;rw[<-e]at d;exact⟨P,a,o,v,s,q,c,U,G,z,l,d,.of f R,R.2⟩
def Ol(P1 P2:An):An->Prop:=λa=>a=P1\/a=P2
structure Hd(EM:Nz->Option Ag)(mg mb:Av->Option Ag)(s0:Ah)(C N:An)(mN:Av->Option Ag)(P1 P2:An):Prop where
 T:Pi qA (Ea qA looseA) EM mg mb s0.heap
 R:Mg mg s0.heap
 H:Mh mg s0.heap C mN N
 m:∃o,s0.heap.get? EY=V o
 t1:QG mg s0 (recA 3) P1
 t2:QG mg s0 (recA 4) P2
theorem xb{h:A9}{b:An}(e:h.get? b=V (Hp #[])):K6 h b:=⟨#[],e,trivial,λpos p q=>nS q⟩
variable {C N P1 P2:An} {mN:Av->Option Ag}
theorem Hd.biAt(X:Hd EM mg mb s0 C N mN P1 P2){P:An}(e:s0.heap.get? P=V (Hp #[])):s0.heap.BuiltinsAt mg P:=by
 obtain⟨L,p,U,r,j,y,A,i⟩:=X.T.bmain;refine⟨L,p,U,r,λq=>?_,λq=>?_,j,y,A,i⟩
 ·obtain⟨o,es,ep,e1,e2,_⟩:=X.T.g;rw[<-q,j]at e1;rw[<-CK e1,i]at e2;exact nomatch e2
 ·rw[<-q,j]at e;rw[CK e]at i;exact nomatch i
noncomputable abbrev Uy:Fb×Scope:=(dD ((recA 3).body[1]?)).getD Gg
noncomputable abbrev Uz:Fb×Scope:=(dD ((recA 4).body[0]?)).getD Gg
theorem xc(X:Hd EM mg mb s0 C N mN P1 P2){n x:Nat}(P:k+1<=100)(U:1<=n)(G:n<=100000)(p:x<2^100000):GU Aj w (Ol P1 P2) J mg mb s0 Le k 15 [nI x,nI n] (.lst ((Br (GN n x)).map λ(j:Nat)=>nI (dg n x j))):=by
 obtain⟨a,o,l,s,d,c,hm,h,hd,Q,E,z,e⟩:=X.t1;have M:(recA 3).name=Le 15:=by kernel_rfl
 refine⟨a,⟨M▸hm,o,_,h,hd,Vl hd⟩,?_⟩
 refine uS (params:=Uy.1) (isc:=Uy.2) P (Wx X.T.nolimit h hd Q ?_ ?_) (QE λB B=>?_) ?_ E ?_ z (.inl rfl) (X.biAt e) ?_ ?_ (λB=>?_) ?_ ?_ ?_ ?_ ?_ ?_ (λR e1 e2 i a b c=>?_) rfl rfl U G p
 iterate 14 kernel_rfl
 obtain⟨n,q,r,body,sc,g,t,u,v,d,l,f,y,m,A⟩:=R;dsimp only at e1 e2 i
 apply M8 e1 e2 i
 kernel_rfl
theorem xd(X:Hd EM mg mb s0 C N mN P1 P2){n:Nat}{d:List Nat}(P:k+1<=100)(p:∀q∈d,q<2^n)(j:d.length<=100000)(F:n*d.length<=10000000):GU Aj w (Ol P1 P2) J mg mb s0 Le k 16 [.lst (d.map nI),nI n] (nI (GG n d)):=by
 obtain⟨a,o,r,s,h,c,hm,i,hd,Q,E,z,e⟩:=X.t2;have M:(recA 4).name=Le 16:=by kernel_rfl
 refine⟨a,⟨M▸hm,o,_,i,hd,Vl hd⟩,?_⟩
 refine uY (params:=Uz.1) (isc:=Uz.2) P (Wx X.T.nolimit i hd Q ?_ ?_) (QE λB B=>?_) ?_ E ?_ z (.inr rfl) (X.biAt e) ?_ ?_ (λB=>?_) ?_ ?_ ?_ ?_ ?_ (λR e1 e2 l a b=>?_) rfl p j F
 iterate 13 kernel_rfl
 obtain⟨n,q,t,body,sc,g,u,x,v,h,r,f,y,m,A⟩:=R;dsimp only at e1 e2 l
 apply M8 e1 e2 l
 kernel_rfl
theorem Hd.dv(X:Hd EM mg mb s0 C N mN P1 P2)(y:(J.v 999).toNat=C)(i:J.prog=Aj/\J.w=w)(q:∀n,(J.v n).natAbs<=2^1000):RP Aj w (Ol P1 P2) J mg mb s0 Le:=by
 refine⟨q,λk P=>WA X.T X.R X.H y i q X.m P,?_,Mf X.T 6 (by kernel_rfl) (by kernel_rfl) (λz z z=>QE λz z=>by kernel_rfl),Mf X.T 5 (by kernel_rfl) (by kernel_rfl) (λz z z=>QE λz z=>by kernel_rfl),
  Mf X.T 1 (by kernel_rfl) (by kernel_rfl) (λz z z=>Wv λz z z=>by kernel_rfl),λk n x P U A p=>xc X P U A p,λk n L P M j F=>xd X P M j F⟩
 obtain⟨v,E,r⟩:=X.T.const "_DIV_LIMIT" (.int 4000) (by kernel_rfl)
 cases r s0.heap with|int _ t=>exact⟨t,E⟩
theorem Hd.pk(X:Hd EM mg mb s0 C N mN P1 P2):Pk Aj w (Ol P1 P2) mg mb s0 Le ((C:Nat):Int):=by
 have i:∀{J:Sg},IF Aj w ((C:Nat):Int) J->(J.v 999).toNat=C:=λh=>by rw[h.1];exact Cz _
 exact⟨λJ h k P=>WA X.T X.R X.H (i h) ⟨h.2.1,h.2.2.1⟩ h.2.2.2 X.m P,λJ h k P=>w7 X.T X.R X.H (i h) ⟨h.2.1,h.2.2.1⟩ h.2.2.2 X.m P,λJ h=>X.dv (i h) ⟨h.2.1,h.2.2.1⟩ h.2.2.2,λJ h k t P j=>w9 X.T X.R P j,
  Mf X.T 9 (by kernel_rfl) (by kernel_rfl) (λz z z=>QD λz=>by kernel_rfl),Mf X.T 8 (by kernel_rfl) (by kernel_rfl) (λz z z=>QD λz=>by kernel_rfl),
  λJ h k es l name P U p q r=>w6 X.T X.R X.H (i h) ⟨h.2.1,h.2.2.1⟩ h.2.2.2 X.m P U p q r,
  Mf X.T 12 (by kernel_rfl) (by kernel_rfl) (λz z z=>wC λz z z z=>by kernel_rfl),
  Mf X.T 13 (by kernel_rfl) (by kernel_rfl) (λz z z=>j3 λz z z z z=>by kernel_rfl),
  Mf X.T 15 (by kernel_rfl) (by kernel_rfl) (λz z z=>Wv λz z z=>by kernel_rfl),
  Mf X.T 14 (by kernel_rfl) (by kernel_rfl) (λz z z=>j3 λz z z z z=>by kernel_rfl),
  Mf X.T 16 (by kernel_rfl) (by kernel_rfl) (λz z z=>QE λz z=>by kernel_rfl),
  Mf X.T 10 (by kernel_rfl) (by kernel_rfl) (λz z z=>QD λz=>by kernel_rfl),
  Mf X.T 11 (by kernel_rfl) (by kernel_rfl) (λz z z=>QD λz=>by kernel_rfl)⟩
noncomputable def Z3:List Ad:=[.saug 1 (.bin .Mod (.n 2) (.c (.int (.k 5)))) .Add (.bin .Mod (.idx (.n 0) (.n 2)) (.c (.int (.k 1000000)))),.saug 1 (.bin .Mod (.bin .Add (.n 2) (.c (.int (.k 3)))) (.c (.int (.k 5)))) .Add (.bin .Mod (.bin .FloorDiv (.idx (.n 0) (.n 2)) (.c (.int (.k 1000000)))) (.c (.int (.k 1000000))))]
theorem kj{C:Nat->List D->Option D}{n x j:Nat}{i e:M}{o:BY}{a b d:D}{O:List D}{r:List Ad}{ρ:List (Nat×D)}{ow:List (Nat×Ae)}(U:ev C n ρ (CU ow) i=V (.int (.k (.ofNat j))))(G:lk x ow=V (.lst O))(z:K2 O j=V a)(l:ev C n ρ (CU ow) e=V b)(c:N9 o a b=V d)(m:AS O=Y):
  CL C (n+1) (.saug x i o e::r) ρ ow=CL C n r ρ (HL x (.lst (Rr O j d)) ow):=by
 show BG (ev C n ρ (CU ow) i) _=_;rw[U];show BG (lk x ow) _=_;rw[G];show BG (K2 O j) _=_;rw[z];show BG (ev C n ρ (CU ow) e) _=_;rw[l];show BG (N9 o a b) _=_;rw[c];show CB (AS O) _=_;rw[m];rfl
theorem xe{f:List (Nat×D)->List (Nat×Ae)->Option Dq}{x:Nat}{d:D}{ρ:List (Nat×D)}{ow:List (Nat×Ae)}(h:J4 [x] ow=Y):JE f [x] Y d ρ ow=f ((x,d)::Dn [x] ρ) ow:=by
 show CB (J4 [x] ow) _=_;rw[h];rfl
theorem RW{C:Nat->List D->Option D}{n:Nat}{d:D}{ρ Bt:List (Nat×D)}:ev C (n+1) ρ Bt (.c d)=V d:=rfl
theorem km{C:Nat->List D->Option D}{n:Nat}{a b:M}{x y d:D}{ρ Bt:List (Nat×D)}(U:ev C n ρ Bt a=V x)(G:ev C n ρ Bt b=V y)(z:NS x y=V d):ev C (n+1) ρ Bt (.idx a b)=V d:=by
 show BG (ev C n ρ Bt a) _=_;rw[U];show BG (ev C n ρ Bt b) _=_;rw[G];exact z
theorem ko{C:Nat->List D->Option D}{n k:Nat}{a:M}{x d:D}{ρ Bt:List (Nat×D)}(U:ev C n ρ Bt a=V x)(z:SK k [x]=V d):ev C (n+1) ρ Bt (.bi k [a])=V d:=by
 show BG (Gs (ev C n ρ Bt) [a]) _=_;rw[Of U];exact z
theorem kq{f:Int->D}(l:List Int):∀j:Nat,K2 (l.map f) j=(l[j]?).map f:=by
 induction l with
 |nil=>exact λz=>rfl
 |cons a r ih=>exact λj=>match j with
  |0=>rfl
  |j+1=>ih j
theorem kr{f:Int->D}(l:List Int):∀(j:Nat) (v:Int),Rr (l.map f) j (f v)=(l.set j v).map f:=by
 induction l with
 |nil=>exact λz z=>rfl
 |cons a r ih=>exact λj v=>match j with
  |0=>rfl
  |j+1=>congrArg (f a::·) (ih j v)
structure Nt(L:List Int)(Ac:Int):Prop where
 len:L.length=5
 bnd:∀c∈L,0<=c/\c<=Ac
inductive xf(L:List Int)(Ac:Int)(j:Nat)(v:Int):Prop
 |mk (a:Int) (h:K2 (L.map iI) j=V (iI a)) (f:Nt (L.set j (a+v)) (Ac+1000000))
theorem cU{a v Ac:Int}(h:0<=a/\a<=Ac)(b:0<=v)(U:v<1000000):0<=a+v/\a+v<=Ac+1000000:=⟨(li [_,_] [] (.k 0) (.a (.v 0) (.v 1)) [(1,.k 0,.v 0),(1,.k 0,.v 1)] rfl h.1 b),(li [_,_,_] [] (.a (.v 0) (.v 2)) (.a (.v 1) (.k 1000000)) [(1,.v 0,.v 1),(1,.a (.v 2) (.k 1),.k 1000000)] rfl h.2 U)⟩
theorem xg{c Ac:Int}(h:0<=c/\c<=Ac):0<=c/\c<=Ac+1000000:=⟨h.1,(li [_,_] [] (.v 0) (.a (.v 1) (.k 1000000)) [(1,.v 0,.v 1)] rfl h.2)⟩
theorem Nt.step{L:List Int}{Ac:Int}(x:Nt L Ac){j:Nat}{v:Int}(r:j<5)(i:0<=v)(U:v<1000000):xf L Ac j v:=by
 have r:j<L.length:=x.len.symm▸r;have p:L[j]?=V L[j]:=A8 r;refine⟨L[j],by rw[kq,p];rfl,by rw[Ph,x.len],λc E=>?_⟩
 rcases List.mem_or_eq_of_mem_set E with h|h
 ·exact xg (x.bnd c h)
 ·exact h▸cU (x.bnd _ (Ov _)) i U
theorem Nt.sm{L:List Int}{Ac:Int}(x:Nt L Ac):AS (L.map iI)=Y:=AL (by rw[BS,x.len];decide)
theorem UA(z:Nat):Ra .Mod (nI z) (.int (.k 5))=V (.int (.k (.ofNat (z%5)))):=by
 show V (D.int (.k ((z:Int).fmod 5)))=_;rw[Dm _ (by decide)]
 rfl
inductive xh(k:Nat)(L:List Int)(Ac:Int)(ρ:List (Nat×D)):Prop
 |mk (L':List Int) (h:JE (CL OU 28 Z3) [2] Y (nI k) ρ [(1,.lst (L.map iI))]=V (.next ((2,nI k)::Dn [2] ρ) [(1,.lst (L'.map iI))])) (f:Nt L' (Ac+1000000+1000000))
theorem xi{k n:Nat}(h:k<n)(G:n<=63):n<=1000000:=(EJ (.v 0) (.k 1000000) [(1,.v 0,.k 63)] rfl G)
theorem xj{k:Nat}{L xs:List Int}{ρ:List (Nat×D)}{Ac:Int}(f:Nt L Ac)(P:k<xs.length)(c:xs.length<=63)(l0:lk 0 ρ=V (.lst (xs.map iI))):xh k L Ac ρ:=by
 have h:xs[k]?=V xs[k]:=A8 P
 generalize xs[k]=x at h
 have d0:lk 0 ((2,nI k)::Dn [2] ρ)=V (.lst (xs.map iI)):=(J6 (ts:=[2]) rfl).trans l0;have e:lk 2 ((2,nI k)::Dn [2] ρ)=V (nI k):=rfl;have T:NS (.lst (xs.map iI)) (nI k)=V (iI x):=by
  show BG (CB (Bf k (xs.map iI).length&&A3 (xs.map iI).length 1000000) (V k)) _=_;rw[show Bf k (xs.map iI).length=Y from AL (by rw[BS];exact P),show A3 (xs.map iI).length 1000000=Y from AL (by rw[BS];exact xi P c)]
  show K2 (xs.map iI) k=_;rw[kq,h];rfl
 obtain⟨a,r,i⟩:=f.step (j:=k%5) (Dj _ (by decide)) (B3 x (b:=1000000) (by decide)) (CG x (b:=1000000) (by decide))
 obtain⟨u,g,l⟩:=i.step (j:=(k+3)%5) (Dj _ (by decide)) (B3 (x.fdiv 1000000) (b:=1000000) (by decide)) (CG (x.fdiv 1000000) (b:=1000000) (by decide))
 refine⟨_,?_,l⟩
 refine(xe rfl).trans ?_
 refine(kj (o:=.Add) (C:=OU) (n:=27) (j:=k%5) (b:=iI (x.fmod 1000000)) (PN (n:=26) (HN (n:=25) e) RW (UA k)) rfl r (PN (n:=26) (km (n:=25) (HN (n:=24) d0) (HN e) T) RW rfl) (d:=iI (a+x.fmod 1000000)) rfl f.sm).trans ?_
 rw[kr];refine(kj (o:=.Add) (C:=OU) (n:=26) (j:=(k+3)%5) (b:=iI ((x.fdiv 1000000).fmod 1000000)) (PN (n:=25) (PN (n:=24) (x:=nI k) (HN (n:=23) e) RW (d:=nI (k+3)) rfl) RW (UA (k+3))) rfl g (PN (n:=25) (PN (n:=24) (km (n:=23) (HN (n:=22) d0) (HN e) T) RW (d:=iI (x.fdiv 1000000)) rfl) RW rfl) (d:=iI (u+(x.fdiv 1000000).fmod 1000000)) rfl i.sm).trans ?_
 rw[kr]
 rfl
inductive xk(n a:Nat)(L:List Int)(Ac:Int)(ρ:List (Nat×D)):Prop
 |mk (L':List Int) (A6:List (Nat×D)) (h:JD (JE (CL OU 28 Z3) [2] Y) (OH (a:Int) 1 n) ρ [(1,.lst (L.map iI))]=V (.next A6 [(1,.lst (L'.map iI))])) (f:Nt L' (Ac+n*2000000))
theorem xm{Ac:Int}{n:Nat}:Ac+1000000+1000000+n*2000000=Ac+((n+1:Nat):Int)*2000000:=(A5 (li [_] [_] (.a (.a (.a (.v 0) (.k 1000000)) (.k 1000000)) (.l (.u (.v 0)) 2000000)) (.a (.v 0) (.l (.u (.a (.v 0) (.k 1))) 2000000)) [] rfl) (li [_] [_] (.a (.v 0) (.l (.u (.a (.v 0) (.k 1))) 2000000)) (.a (.a (.a (.v 0) (.k 1000000)) (.k 1000000)) (.l (.u (.v 0)) 2000000)) [] rfl))
theorem ku{a n x:Nat}(h:a+(n+1)<=x):a<x/\a+1+n<=x:=⟨(EV (.a (.v 0) (.k 1)) (.v 2) [(1,.a (.v 0) (.a (.v 1) (.k 1)),.v 2)] rfl h),(EV (.a (.a (.v 0) (.k 1)) (.v 1)) (.v 2) [(1,.a (.v 0) (.a (.v 1) (.k 1)),.v 2)] rfl h)⟩
theorem xn{xs:List Int}(b:xs.length<=63)(n:Nat):∀(a:Nat) (L:List Int) (ρ:List (Nat×D)) (Ac:Int),a+n<=xs.length->Nt L Ac->lk 0 ρ=V (.lst (xs.map iI))->xk n a L Ac ρ:=by
 induction n with
 |zero=>exact λa L ρ Ac x f x=>⟨L,ρ,rfl,by apply AO (show Ac+((0:Nat):Int)*2000000=Ac from E0 Ac);exact f⟩
 |succ n ih=>
  intro a L ρ Ac g f l0;obtain⟨j,X,p⟩:=xj f (ku g).1 b l0;obtain⟨c,A6,d,z⟩:=ih (a+1) j ((2,nI a)::Dn [2] ρ) _ (ku g).2 p ((J6 (ts:=[2]) rfl).trans l0);exact⟨c,A6,(Tq X).trans d,xm▸z⟩
noncomputable def WB:List Int:=[2001,2,1000,5391,40009]
theorem xp:Nt WB 40009:=⟨rfl,by decide⟩
theorem xq{x:Nat}(h:x<=63):x<=1000000/\M3 60 x<=60/\0+M3 60 x<=x:=⟨(EJ (.v 0) (.k 1000000) [(1,.v 0,.k 63)] rfl h),⟨(FF _ _),(En (.a (.k 0) (.v 1)) (.v 0) [(1,.v 1,.v 0)] rfl (Jn _ _))⟩⟩
theorem cV{n:Nat}{c:Int}(h:n<=60)(E:0<=c/\c<=40009+n*2000000):0<=c/\c<=2^27:=⟨E.1,(li [_] [_] (.v 0) (.k (2^27)) [(2000000,.u (.v 0),.u (.k 60)),(1,.v 0,.a (.k 40009) (.l (.u (.v 0)) 2000000))] rfl (jO h) E.2)⟩
inductive xr(xs:List Int):Prop
 |mk (L:List Int) (h:CL OU 30 ZL [(0,.lst (xs.map iI))] []=V (.ret (.lst (L.map iI)))) (f:Nt L (2^27))
theorem xt{xs:List Int}(a:xs.length<=63):xr xs:=by
 have hm:=xq a;obtain⟨e,A6,L,z⟩:=xn a (M3 60 xs.length) 0 WB [(0,.lst (xs.map iI))] 40009 hm.2.2 xp rfl;refine⟨e,?_,z.len,λc E=>cV hm.2.1 (z.bnd c E)⟩
 have f:(((xs.map iI).drop 0).take (60-0)).length=M3 60 xs.length:=by rw[C7,I2,BS]
 have b:Re (.lst (xs.map iI)) Ao (V (.int (.k 60)))=V (.lst (((xs.map iI).drop 0).take (60-0))):=by
  show CB (AS (xs.map iI)) _=_;rw[show AS (xs.map iI)=Y from AL (by rw[BS];exact hm.1)];rfl
 have w:SK 0 [.lst (((xs.map iI).drop 0).take (60-0))]=V (nI (M3 60 xs.length)):=by
  show CB (AS (((xs.map iI).drop 0).take (60-0))) _=_;rw[show AS (((xs.map iI).drop 0).take (60-0))=Y from AL (f.symm▸Am hm.2.1 (by decide)),<-f];rfl
 have d:Nl 1 [nI (M3 60 xs.length)]=V (OH ((0:Nat):Int) 1 (M3 60 xs.length)):=by
  generalize M3 60 xs.length=n at hm
  have U:Bf n 1000000=Y:=AL (AG hm.2.1 (by decide))
  have G:A3 n 1000=Y:=AL (Am hm.2.1 (by decide))
  show BG (CB (Bf n 1000000) _) _=_;rw[U];show CB (A3 n 1000&&Y) _=_;rw[G];rfl
 have P:ev OU 28 [(0,.lst (xs.map iI))] (CU [(1,.lst (WB.map iI))]) (.bi 0 [.sl (.n 0) Ao (V (.c (.int (.k 60))))])=V (nI (M3 60 xs.length)):=ko (n:=27) b w;show CL OU (28+1) [.loop [2] Y 1 [.bi 0 [.sl (.n 0) Ao (V (.c (.int (.k 60))))]] Z3,.frz 1,.ret (.n 1)] [(0,.lst (xs.map iI))] [(1,.lst (WB.map iI))]=_;refine(Tp (Of P) d L).trans ?_
 rfl
theorem xw(P:Pk Aj w T mg mb s0 fn hd)(o:IF Aj w hd J)(a:k+1<=97){xs L:List Int}(h:CL OU 30 ZL [(0,.lst (xs.map iI))] []=V (.ret (.lst (L.map iI)))):GU Aj w T J mg mb s0 fn k 13 [.lst (xs.map iI)] (.lst (L.map iI)):=
 MS (n:=30) (O:=[.lst (xs.map iI)]) (RT a).1 Me o.2.2.2 j2 (P.hH _ o _ (RT a).2) (λh=>bF h) P.f13 rfl h
noncomputable def WC(l:List D)(a b:PX)(d:D):Option D:=two l λx y=>I6 x λp=>I6 y λq=>CB (K1 p a&&K1 q b) (V d)
theorem Z4{l:List D}{a b:PX}{d e:D}(h:WC l a b d=V e):l=[.int a,.int b]/\d=e:=by
 obtain⟨x,y,e1,h⟩:=Ni h;obtain⟨p,e2,h⟩:=IN h;obtain⟨q,X,h⟩:=IN h;obtain⟨E,h⟩:=De h;exact⟨by apply AO e1;rw[e2,X,OE (AH E).1,OE (AH E).2],sI h⟩
theorem WD{l:Int}{m:Int}(hm:0<m):FC (λr:Nat=>(r:Int)<m) λr=>m*l.fdiv m+(r:Int)=l:=by
 have U:=CA l m;obtain⟨r,Q⟩:=BL (B3 l hm);exact⟨r,Q▸CG l hm,by rw[Q]at U;exact U⟩
noncomputable def sg(b:Nat):Int:=bI (As b 0) 1 (-1)
noncomputable def WE:PX:=.mul (.v 1) (.v 4)
noncomputable def WF(r:Nat):PX:=.add (.mul (.k 4) (.v 2)) (.k (r:Int))
noncomputable def WG(t d:Int):PX:=.add (.mul (.k t) WE) (.mul (.k d) (.v 3))
noncomputable def TF(d:Int):PX:=.mul (.k d) (.v 1)
noncomputable def kw(t d:Int):PX:=.mul (.k (t*d)) (.v 4)
noncomputable def xy(d:Int):PX:=.mul (.k d) (.v 3)
noncomputable def ky(t d:Int):PX:=.mul (.mul (kw t d) (.k t)) (.k d)
noncomputable def kz(r:Nat)(t d:Int)(f:Nat)(O:List D):Option D:=
 GH f 903 (WC O (WF r) (.v 1) (vD 3)) (GH f 907 (WC O WE (.v 1) (vD 4)) (GH f 5 (WC O (WG t d) (TF d) (.tup [.int (kw t d),.int (xy d)])) Ao))
noncomputable def UB(r:Nat):Bool:=QB (CL (kz r (sg (r/2)) (sg (r%2))) 40 jK [(43,.int WE),(44,vD 1),(45,.int (WF r))] []) (.int (ky (sg (r/2)) (sg (r%2))))
theorem xz:(Br 4).all UB=Y:=by decide+kernel
theorem kA(b:Nat):sg b=1\/sg b= -1:=by
 unfold sg;cases As b 0 with
 |true=>exact .inl rfl
 |false=>exact .inr rfl
theorem kB{t:Int}(h:t=1\/t= -1):t*t=1:=by rcases h with e|e<;>apply AO e<;>rfl
theorem Z5{t:Int}(h:t=1\/t= -1)(x:Int):(t*x).natAbs=x.natAbs:=by
 rcases h with e|e
 ·apply AO e;rw[DL]
 ·apply AO e;rw[EE,E9]
theorem xA{f q c t d:Int}(a:f≠0)(D:t=1\/t= -1)(hd:d=1\/d= -1):(t*(f*q)+d*c.fmod f).fdiv (d*f)=t*d*q/\(t*(f*q)+d*c.fmod f).fmod (d*f)=d*c.fmod f:=by
 have e1:∀g:Int,f*g=t*(f*q)->(t*(f*q)+c.fmod f).fdiv f=g/\(t*(f*q)+c.fmod f).fmod f=c.fmod f:=λg h=>jY a h
 rcases hd with hd|hd
 ·apply AO hd;rw[DL,DL,Ec]
  exact e1 _ (OB f t q)
 ·have e:t*(f*q)+ -1*c.fmod f= -(-t*(f*q)+c.fmod f):=by rw[EE,Int.neg_add,Gn,W4]
  have G:=jY (c:=c) (w:= -t*(f*q)) (g:= -t*q) a (OB f (-t) q);have z:=ZH (-t*(f*q)+c.fmod f) f
  injection z with z
  injection z with z l
  injection l with l _
  injection z with z
  injection z with z
  injection l with l
  injection l with l
  apply AO hd;rw[e,EE,EE,Int.mul_neg_one]
  exact⟨z.trans G.1,l.trans (congrArg Neg.neg G.2)⟩
theorem xB{k:Nat}(h:k+6<=97):k+1+2+3<=97:=h
theorem WH{k:Nat}(h:k+6<=97):k+1<=100/\k+1+3<=100:=⟨J8 h (by decide) (by decide),J8 (a:=4) h (by decide) (by decide)⟩
theorem Jw{N:An->Prop}{hp:A9}{v:Ag}{p q:PX}(r:Rd J N hp v (.int p))(h:q.ev J=p.ev J):Rd J N hp v (.int q):=by
 obtain⟨_,e⟩:=r.inv
 apply AO e;exact .int h
noncomputable def Z6(f r:PX)(q m:Int)(n:Nat):PX:=bI (As n 1) f (bI (As n 2) (.k q) (bI (As n 3) (.k m) (bI (As n 4) r (.v n))))
theorem xC{P:Int->Prop}{f r:PX}{q m:Int}(U:P (f.ev J))(G:P q)(z:P m)(l:P (r.ev J))(D:∀n,P (J.v n))(n:Nat):P ((Z6 f r q m n).ev J):=by
 unfold Z6;cases As n 1 with
 |true=>exact U
 |false=>
  cases As n 2 with
  |true=>exact G
  |false=>
   cases As n 3 with
   |true=>exact z
   |false=>
    cases As n 4 with
    |true=>exact l
    |false=>exact D n
theorem xD(t d r:Int):t*d*r*t*d=t*t*(d*d*r):=by ac_rfl
theorem xE(P:Pk Aj w T mg mb s0 fn hd)(o:IF Aj w hd J)(G:k+6<=97){n f r c:PX}(h:n.ev J=f.ev J*r.ev J)(y:f.ev J≠0)(F:(f.ev J).natAbs<=2^1000)(br:(r.ev J).natAbs<=2^1000)(bc:(c.ev J).natAbs<=2^1000):
  GU Aj w T J mg mb s0 fn k 4 [.int n,.int f,.int c] (.int r):=by
 obtain⟨j,hj,hc⟩:=WD (l:=c.ev J) (m:=4) (by decide)
 have R:=D9 xz j (jR (Int.ofNat_lt.mp hj));have D:=kA (j/2);have b:=kA (j%2);unfold UB at R
 generalize sg (j/2)=t at*
 generalize sg (j%2)=d at*
 generalize hq:(c.ev J).fdiv 4=q at*
 have U:q.natAbs<=2^1000:=hq▸ZT _ bc;have A:=Am (jZ (c.ev J) y) F
 let τ:=Z6 f r q ((c.ev J).fmod (f.ev J))
 have E:QA J (J.wv λn=>(τ n).ev J) τ J.t:=⟨λB=>rfl,λB=>rfl,rfl⟩
 have x:IF Aj w hd (J.wv λn=>(τ n).ev J):=⟨o.1,o.2.1,o.2.2.1,xC (P:=λi=>i.natAbs<=2^1000) F U A br o.2.2.2⟩
 have p:(J.wv λn=>(τ n).ev J).v 1=f.ev J:=rfl
 have v2:(J.wv λn=>(τ n).ev J).v 2=q:=rfl
 have Q:(J.wv λn=>(τ n).ev J).v 3=(c.ev J).fmod (f.ev J):=rfl
 have v4:(J.wv λn=>(τ n).ev J).v 4=r.ev J:=rfl
 generalize (J.wv λn=>(τ n).ev J)=FD at*
 have eC:(WF j).ev FD=c.ev J:=by
  show 4*FD.v 2+(j:Int)=_;rw[v2];exact hc
 obtain⟨g1,g2⟩:=xA (q:=r.ev J) (c:=c.ev J) y D b;have W:(WG t d).ev FD=t*(f.ev J*r.ev J)+d*(c.ev J).fmod (f.ev J):=by
  show t*(FD.v 1*FD.v 4)+d*FD.v 3=_;rw[p,Q,v4]
 have C:(TF d).ev FD=d*f.ev J:=congrArg (d* ·) p;have s:I9 Aj w T FD mg mb s0 fn (kz j t d) (k+1):=by
  refine Nr λf' O d' h=>?_
  rcases GV h with⟨e,h⟩|h
  ·obtain⟨e1,h⟩:=Z4 h
   apply Dz e e1;apply CE h
   refine .inr ⟨by decide,by decide,_,_,_,rfl,rfl,by show FD.v 1≠0;rw[p];exact y,?_⟩
   show FD.v 3=_;rw[Q,eC,<-p];rfl
  rcases GV h with⟨e,h⟩|h
  ·obtain⟨e1,h⟩:=Z4 h
   apply Dz e e1;apply CE h
   refine .inr ⟨by decide,by decide,_,_,_,rfl,rfl,by show FD.v 1≠0;rw[p];exact y,by show(FD.v 1).natAbs<_;rw[p];exact AG F (Ei (by decide) (by decide)),?_⟩
   show FD.v 4=(FD.v 1*FD.v 4).fdiv (FD.v 1)
   apply AO (Int.mul_fdiv_cancel_left _ (by rw[p];exact y));rfl
  rcases GV h with⟨e,h⟩|h
  ·obtain⟨e1,h⟩:=Z4 h
   apply Dz e e1;apply CE h
   have X:MR ((TF d).ev FD):=by
    show((TF d).ev FD).natAbs<_;rw[C,Z5 b];exact AG F (Ei (by decide) (by decide))
   have M:Lb ((WG t d).ev FD):=by
    show((WG t d).ev FD).natAbs<_;rw[W];refine AG (IJ _ _) ?_
    rw[Z5 D,Z5 b,Ke];exact AG (Ef (Hv F br) A) (by
     rw[<-CR];exact AG (Cw (AV (by decide) (by decide:1000<=1000+1000)) _) (by rw[<-Nat.two_mul,<-Nat.pow_succ'];exact Ei (by decide) (by decide)))
   have nz:(TF d).ev FD≠0:=by
    rw[C];exact Int.mul_ne_zero (by rcases b with e|e<;>apply AO e<;>decide) y
   refine .inl ⟨by decide,Oj (vX (P.dv FD x) 2 (k+1) (xB G) _ _ nz M X) (λN hp I r=>?_) λN hp v r=>?_⟩
   ·obtain⟨v,u,e8,L,z⟩:=r.two
    apply AO e8
    exact .cons (jX L) (.cons (jX z) .nil)
   ·obtain⟨a,I,n,ea,hn,g,rs⟩:=r.inv;obtain⟨v,u,e8,L,z⟩:=rs.two;rw[e8]at g
    apply AO ea
    refine .tup (I:=[_,_]) hn g (.cons (jW L ?_) (.cons (jW z ?_) .nil))
    ·show t*d*FD.v 4=_;rw[v4,W,C,g1]
    ·show d*FD.v 3=_;rw[Q,W,C,g2]
  ·exact nS h
 have c1:=MS (n:=40) (O:=[.int WE,vD 1,.int (WF j)]) (d:=.int (ky t d)) (WH G).1 Me x.2.2.2 s (P.hH _ x _ (WH G).2) (λh=>bF h) P.f4 rfl (RR R)
 refine Oj (jG E c1) (λN hp I H=>?_) λN hp v H=>?_
 ·obtain⟨x1,Bd,q1,L,H⟩:=H.inv;obtain⟨x2,x3,q2,z,r3⟩:=H.two;rw[q1];apply AO q2
  exact .cons (Jw L h.symm) (.cons z (.cons (Jw r3 hc) .nil))
 ·refine Jw H ?_
  show r.ev J=t*d*r.ev J*t*d;rw[xD t d,kB D,kB b,DL,DL]
noncomputable def aV(i j:Nat):PX:=.v (20+(4*i+j))
noncomputable def TG(a b:PX):PX:=.add a (.mul (.k (-1)) b)
noncomputable def Z7(a b c d:PX):PX:=TG (.mul a d) (.mul b c)
noncomputable def OX(i j k x y z:Nat):PX:=.add (TG (.mul (aV i x) (Z7 (aV j y) (aV j z) (aV k y) (aV k z))) (.mul (aV i y) (Z7 (aV j x) (aV j z) (aV k x) (aV k z)))) (.mul (aV i z) (Z7 (aV j x) (aV j y) (aV k x) (aV k y)))
noncomputable def kC:PX:=TG (.add (TG (.mul (aV 0 0) (OX 1 2 3 1 2 3)) (.mul (aV 0 1) (OX 1 2 3 0 2 3))) (.mul (aV 0 2) (OX 1 2 3 0 1 3))) (.mul (aV 0 3) (OX 1 2 3 0 1 2))
noncomputable def TH(Fv:Bool):PX:=bI Fv kC (OX 0 1 2 0 1 2)
noncomputable def kD:List PX:=[OX 0 1 2 0 1 2,OX 0 1 2 0 1 3,OX 0 1 3 0 1 2,OX 0 1 3 0 1 3,kC]
noncomputable def WI:PX:=TG (.mul (aV 1 1) (aV 0 0)) (.mul (aV 1 0) (aV 0 1))
noncomputable def WJ:List Nat:=[20,21,22,23,24,25,26,27,28,29,30,31,32,33,34,35]
noncomputable def Z8(n f:PX)(l:List PX):Option D:=A0 Ao (λr z i=>bI (Ok WJ n (.mul f r)) (V (.int r)) i) l
noncomputable def bP(p:PX):Bool:=A3 (P8 (2^220) p) (2^1000)
noncomputable def UC(f:Nat)(O:List D):Option D:=GH f 4 (RO O λx y z=>I6 x λn=>I6 y λf=>I6 z λc=>CB ((K1 f (aV 0 0)||K1 f WI)&&bP c) (Z8 n f kD)) Ao
noncomputable def cW(n i:Nat):D:=.lst ((Br n).map λj=>.int (aV i j))
noncomputable def TJ(n:Nat):D:=.lst ((Br n).map (cW n))
noncomputable def Z9(Fv:Bool):Bool:=QB (CL UC 60 jL [(48,TJ (bI Fv 4 3)),(45,vD 4)] []) (.int (TH Fv))
theorem xF:Z9 Y=Y:=by decide+kernel
theorem xG:Z9 Ak=Y:=by decide+kernel
theorem xH:(bP (aV 0 0)&&bP WI&&kD.all bP)=Y:=by decide+kernel
inductive xI(n f:PX)(d:D)(l:List PX):Prop
 |mk (r:PX) (hr:r∈l) (h:Ok WJ n (.mul f r)=Y) (e:.int r=d)
theorem xJ{n f:PX}{d:D}{l:List PX}:Z8 n f l=V d->xI n f d l:=by
 induction l with
 |nil=>exact nS
 |cons r l ih=>
  intro h;have h:bI (Ok WJ n (.mul f r)) (V (.int r)) (Z8 n f l)=V d:=h;cases q:Ok WJ n (.mul f r)with
  |true=>rw[q]at h;exact⟨r,.head _,q,sI h⟩
  |false=>
   rw[q]at h;obtain⟨u,U,G,z⟩:=ih h;exact⟨u,.tail _ U,G,z⟩
theorem aa(a:∀n,(J.v n).natAbs<=2^220){p:PX}(h:bP p=Y):(p.ev J).natAbs<=2^1000:=Am (dJ J _ a p) (D8 h)
theorem ac{k:Nat}(h:k+8<=97):k+1<=100/\k+1+3<=100/\k+1+6<=97:=⟨J8 h (by decide) (by decide),J8 (a:=4) h (by decide) (by decide),J8 (a:=7) h (by decide) (by decide)⟩
theorem xK(P:Pk Aj w T mg mb s0 fn hd)(o:IF Aj w hd J)(g:∀n,(J.v n).natAbs<=2^220)(i:k+8<=97)(j:(aV 0 0).ev J≠0)(U:WI.ev J≠0)(Fv:Bool):GU Aj w T J mg mb s0 fn k 7 [TJ (bI Fv 4 3),vD 4] (.int (TH Fv)):=by
 have m:=AH xH;have b:I9 Aj w T J mg mb s0 fn UC (k+1):=by
  refine Nr λp O M h=>?_
  rcases GV h with⟨e,h⟩|h
  ·obtain⟨x,y,z,e1,h⟩:=Tu h;obtain⟨n,e2,h⟩:=IN h;obtain⟨f,X,h⟩:=IN h;obtain⟨c,a,h⟩:=IN h;obtain⟨t,h⟩:=De h;obtain⟨r,Q,hp,l⟩:=xJ h;obtain⟨t,E⟩:=AH t;have d:f.ev J≠0/\bP f=Y:=by
    rcases(AT _ _).mp t with q|q
    ·apply AO (OE q);exact⟨j,(AH m.1).1⟩
    ·apply AO (OE q);exact⟨U,(AH m.1).2⟩
   rw[e,e1,e2,X,a];apply CE l
   exact .inl ⟨by decide,xE P o (ac i).2.2 (Wt hp J) d.1 (aa g d.2) (aa g (D9 m.2 r Q)) (aa g E)⟩
  ·exact nS h
 have go:Z9 Fv=Y->GU Aj w T J mg mb s0 fn k 7 [TJ (bI Fv 4 3),vD 4] (.int (TH Fv)):=λh=>MS (n:=60) (O:=[TJ (bI Fv 4 3),vD 4]) (ac i).1 Me o.2.2.2 b (P.hH _ o _ (ac i).2.1) (λh=>bF h) P.f7 rfl (RR h)
 induction Fv with
 |true=>exact go xF
 |false=>exact go xG
noncomputable def RX(f:Nat->Bool)(g:Nat->D)(l:List Nat):Option D:=A0 Ao (λi z r=>bI (f i) (V (g i)) r) l
inductive xL(f:Nat->Bool)(g:Nat->D)(l:List Nat)(d:D):Prop
 |mk (i:Nat) (hi:i∈l) (h:f i=Y) (e:g i=d)
theorem WK{f:Nat->Bool}{g:Nat->D}{d:D}{l:List Nat}:RX f g l=V d->xL f g l d:=by
 induction l with
 |nil=>exact nS
 |cons i l ih=>
  intro h;have h:bI (f i) (V (g i)) (RX f g l)=V d:=h;cases q:f i with
  |true=>rw[q]at h;exact⟨i,.head _,q,sI h⟩
  |false=>
   rw[q]at h;obtain⟨a,U,G,z⟩:=ih h;exact⟨a,.tail _ U,G,z⟩
noncomputable def ae(O:List D):Option D:=two O λh n=>YA h λes=>H3 n λname=>CB (AS es&&(JS es&&HY name)) (BG (Py name es) λl=>V (.lst l))
noncomputable def r3:List Nat:=[0,1,2]
noncomputable def r6:List Nat:=[500,501,502,503,504,505]
noncomputable def af(g:Nat->D)(O:List D):Option D:=two O λx y=>I6 x λp=>I6 y λq=>CB (K1 q (.k 1000)) (RX (λi=>K1 p (.v i)) g r3)
noncomputable def kE(f:Nat)(O:List D):Option D:=GH f 903 (af (λi=>vD (500+2*i)) O) (GH f 907 (af (λi=>vD (501+2*i)) O) (GH f 909 (one O λx=>I6 x λp=>RX (λi=>K1 p (.add (.k 1) (.v i))) .sym r6)
 (GH f 910 (one O λx=>U9 x λn=>RX (As n) (λi=>vD (i+10)) r6) (GH f 1006 (ae O) (GH f 1999 (ZA O .none) Ao)))))
noncomputable def Mi:D:=.lst [.lst [vD 510,vD 511],.lst [vD 512,vD 513],.lst [vD 514,vD 515]]
noncomputable def ag:D:=.lst [vD 0,vD 1,vD 2,vD 3,vD 4]
theorem xM:QB (CL kE 60 jH [(1,ag)] []) Mi=Y:=by decide+kernel
structure UD(J:Sg):Prop where
 m:∀i∈r3,J.v (500+2*i)=(J.v i).fmod 1000
 d:∀i∈r3,J.v (501+2*i)=(J.v i).fdiv 1000
 w:∀i∈r6,J.v (i+10)=1+J.v i
 t:∀i∈r6,J.t i=ME (J.v (i+10))
 b:∀i∈r6,0<J.v (i+10)/\J.v (i+10)<10^9
theorem xN{l:List D}{f:Nat->Option D}{d:D}(h:one l (λx=>U9 x f)=V d):FC (λn=>l=[.sym n]) λn=>f n=V d:=by
 obtain⟨x,e1,h⟩:=Px h;obtain⟨n,e2,h⟩:=Xk h;exact⟨n,by rw[e1];apply AO e2;rfl,h⟩
inductive xO(g:Nat->D)(O:List D)(d:D):Prop
 |mk (i:Nat) (hi:i∈r3) (e:O=[vD i,.int (.k 1000)]) (h:g i=d)
theorem kG{g:Nat->D}{O:List D}{d:D}(h:af g O=V d):xO g O d:=by
 obtain⟨x,y,e1,h⟩:=Ni h;obtain⟨p,e2,h⟩:=IN h;obtain⟨q,X,h⟩:=IN h;obtain⟨M,h⟩:=De h;obtain⟨i,T,U,G⟩:=WK h;exact⟨i,T,by apply AO e1;rw[e2,X,OE M,OE U],G⟩
theorem kH(P:Pk Aj w T mg mb s0 fn hd)(o:IF Aj w hd J)(f:k+4<=100){O:List D}{d:D}(h:ae O=V d):∀m es c,1006=1000+m->O= .hdr es::c->Wu Aj w T J mg mb s0 k m es c d:=by
 intro m es c hm D4;obtain⟨x,y,e1,h⟩:=Ni h;obtain⟨l,e2,h⟩:=YB h;obtain⟨B,X,h⟩:=HJ h;obtain⟨E,h⟩:=De h;obtain⟨b,z,h⟩:=Cn h;rw[e1,e2,X]at D4
 injection D4 with e a
 injection e with e
 apply CE e;apply CE a;apply CE (sI h);apply AO (show m=6 from(Nat.add_left_cancel hm).symm)
 exact P.mget J o k l b B f (AH E).1 (AH (AH E).2).1 (AH (AH E).2).2 z
theorem UE{v:Int}(h:0<v/\v<10^9):v.natAbs<10000000000/\0<=v/\v<10^10:=⟨Int.ofNat_lt.mp (by rw[Int.natAbs_of_nonneg (BR h.1)];exact IH h.2 (by decide)),BR h.1,IH h.2 (by decide)⟩
theorem PP{k:Nat}(h:k+5<=97):k+1<=100/\k+1+3<=100/\k+1+4<=100/\k+1+5<=100:=⟨J8 h (by decide) (by decide),J8 (a:=4) h (by decide) (by decide),J8 (a:=5) h (by decide) (by decide),Am (BP h 1) (by decide)⟩
theorem xP(P:Pk Aj w T mg mb s0 fn hd)(o:IF Aj w hd J)(c:k+5<=97)(W:UD J):GU Aj w T J mg mb s0 fn k 14 [ag] Mi:=by
 refine MS (n:=60) (O:=[ag]) (PP c).1 Me o.2.2.2 (j1 (C:=kE) λf O d h=>?_) (P.hH _ o _ (PP c).2.1) (λz=>P.h1 _ o _ (PP c).2.2.2) P.f14 rfl (RR xM)
 rcases GV h with⟨e,h⟩|h
 ·obtain⟨i,a,e1,h⟩:=kG h
  apply Dz e e1;apply CE h
  exact .inr (.inl ⟨by decide,by decide,_,_,_,rfl,rfl,by show(1000:Int)≠0;decide,W.m i a⟩)
 rcases GV h with⟨e,h⟩|h
 ·obtain⟨i,a,e1,h⟩:=kG h
  apply Dz e e1;apply CE h
  exact .inr (.inl ⟨by decide,by decide,_,_,_,rfl,rfl,by show(1000:Int)≠0;decide,AG (by decide:(1000:Int).natAbs<=2^10) (Ei (by decide) (by decide)),W.d i a⟩)
 rcases GV h with⟨e,h⟩|h
 ·obtain⟨x,e1,h⟩:=Px h;obtain⟨p,e2,h⟩:=IN h;obtain⟨i,a,U,G⟩:=WK h;rw[e,e1,e2,OE U];apply CE G
  have g:PX.ev J (.add (.k 1) (.v i))=J.v (i+10):=(W.w i a).symm;exact .inr (.inl ⟨by decide,by decide,_,_,rfl,rfl,by rw[g];exact W.t i a,by rw[g];exact(UE (W.b i a)).1⟩)
 rcases GV h with⟨e,h⟩|h
 ·obtain⟨n,e1,h⟩:=xN h;obtain⟨i,a,U,G⟩:=WK h;rw[e,e1,AB U];apply CE G
  exact .inr (.inl ⟨by decide,by decide,.v (i+10),i,rfl,rfl,W.t i a,(UE (W.b i a)).2⟩)
 rcases GV h with⟨e,h⟩|h
 ·apply AO e
  exact .inr (.inr ⟨by decide,kH P o (PP c).2.2.1 h⟩)
 rcases GV h with⟨e,h⟩|h
 ·apply Dz e ((jp h).1)
  exact .inr (.inr ⟨by decide,λm es b hm D4=>nomatch D4⟩)
 ·exact nS h
noncomputable def QH(c:Nat):D:=.tup [nI (c%2),nI (c/2%2),nI (c/4)]
noncomputable def JH(c b:Nat):Nat:=c/2^b%2
structure Fr where
 lo:Nat
 hi:Nat
 a:Nat
 b:Nat
noncomputable def TK:List Nat:=[1,2,4]
noncomputable def TL:List Nat:=[3,5,6]
noncomputable def WL(l1 l2:List Nat)(s:List (Nat×Nat)):List Fr:=l1.flatMap λlo=>l2.flatMap λT=>s.map λp=>⟨lo,T,p.1,p.2⟩
noncomputable def ah:List Fr:=WL TK TK [(0,0),(1,1)]++(WL TL TL [(0,0),(1,1)]++(WL TK TL [(0,1),(1,2)]++WL TL TK [(1,0),(2,1)]))
noncomputable def WM(lo T:Nat):Nat->Nat->Nat->Bool
 |0,_,_=>Y
 |n+1,j,g=>bI (As (JH lo j) (JH T j)) (WM lo T n (j+1) g) (bI (As (JH T j) 1) (WM lo T n (j+1) (g+1)) (bI (A3 g 1) Ak (WM lo T n (j+1) (g-1))))
noncomputable def ai(x:Fr):Bool:=WM x.lo x.hi 3 0 (x.a+1)
noncomputable def MU:List (List Nat):=[[],[92,40],[92,41],[92,34],[92,92],[34,40,34],[34,92,34,41,34],[34,40,92,92,34]]
noncomputable def aj(x:Fr)(v:Nat):Bool:=[0,1,2].any λj=>As (JH x.lo j) v&&As (JH x.hi j) v
noncomputable def kI(f:Nat)(O:List D):Option D:=GH f 1 (one O λx=>H3 x λt=>BG (Zt t) λb=>V (.bool b)) Ao
noncomputable def QI(x:Fr)(v:Nat)(t:List Nat):D:=bI (aj x v) (.str t) (.sym v)
noncomputable def TM(x:Fr)(v:Nat):List (List Nat):=bI (aj x v) MU [[]]
noncomputable def kJ(x:Fr)(sm:D):List D:=[QH x.lo,QH x.hi,nI x.a,nI x.b,sm]
noncomputable def xQ(x:Fr)(t u:List Nat):Bool:=QB (CL kI 40 jJ [(24,QH x.lo),(25,QH x.hi),(26,nI x.a),(27,nI x.b),(28,.lst [QI x 0 t,QI x 1 u])] []) (.bool (ai x))
noncomputable def xR(x:Fr):Bool:=(TM x 0).all λt=>(TM x 1).all (xQ x t)
theorem xS:ah.all xR=Y:=by decide+kernel
inductive xT(J:Sg)(x:Fr)(v:Nat):Prop
 |mk (t:List Nat) (h:t∈TM x v) (r:∀(N:An->Prop) (hp:A9) (u:Ag),Rd J N hp u (.sym v)->Rd J N hp u (QI x v t))
theorem kK(x:Fr){v:Nat}(h:J.t v∈MU):xT J x v:=by
 cases q:aj x v with
 |true=>
  refine⟨J.t v,by unfold TM;rw[q];exact h,λN hp u r=>?_⟩
  unfold QI;rw[q];obtain⟨_,_,e,e2⟩:=r.inv;rw[e];exact .str e2
 |false=>exact⟨[],by unfold TM;rw[q];exact .head _,λN hp u r=>by unfold QI;rw[q];exact r⟩
theorem ak{k:Nat}(h:k+3<=97):k+1<=100/\k+1+3<=100/\k+1+2<=97:=⟨J8 h (by decide) (by decide),Am (BP h 1) (by decide),h⟩
theorem xU(P:Pk Aj w T mg mb s0 fn hd)(o:IF Aj w hd J)(i:k+3<=97){x:Fr}(L:x∈ah)(j:J.t 0∈MU)(U:J.t 1∈MU):GU Aj w T J mg mb s0 fn k 3 (kJ x (.lst [.sym 0,.sym 1])) (.bool (ai x)):=by
 obtain⟨t,D,l⟩:=kK x j;obtain⟨u,p,r⟩:=kK x U;have R:=D9 (D9 (D9 xS x L) t D) u p;have c:I9 Aj w T J mg mb s0 fn kI (k+1):=by
  refine Nr λf O d h=>?_
  rcases GV h with⟨e,h⟩|h
  ·obtain⟨y,e1,h⟩:=Px h;obtain⟨t,e2,h⟩:=HJ h;obtain⟨b,F,h⟩:=Cn h;rw[e,e1,e2,<-sI h];exact .inl ⟨by decide,wB P o (ak i).2.2 F⟩
  ·exact nS h
 refine Oj (MS (n:=40) (O:=kJ x (.lst [QI x 0 t,QI x 1 u])) (ak i).1 Me o.2.2.2 c (P.hH _ o _ (ak i).2.1) (λh=>bF h) P.f3 rfl (RR R)) (λN hp I H=>?_) λB B B H=>H
 obtain⟨v1,s,m,E,H⟩:=H.inv;obtain⟨v2,v,z,A,H⟩:=H.inv;obtain⟨v3,C,G,Q,H⟩:=H.inv;obtain⟨v4,v5,M,q,W⟩:=H.two;obtain⟨a,us,n,X,hn,g,rs⟩:=W.inv;obtain⟨y1,y2,q6,z1,z2⟩:=rs.two;rw[m,z,G,M,X];rw[q6]at g;exact .cons E (.cons A (.cons Q (.cons q (.cons (.lst (I:=[y1,y2]) hn g (.cons (l _ _ _ z1) (.cons (r _ _ _ z2) .nil))) .nil))))
structure Cf where
 b:List Nat
 s:List Nat
noncomputable def xV(b:List Nat):List Nat->Nat->Nat->List Nat:=A0 (λz z z=>[]) (λb z i g p s=>BF g [] λg gs=>(s+(2+(2*g+bI (As p 1) (bI (As b 0) 2 0) 0)))::i gs b (s+(2+(2*g+bI (As p 1) (bI (As b 0) 2 0) 0)))) b
noncomputable def UF(Q:Nat)(b g:List Nat):Cf:=⟨Q::b,0::xV b g Q 0⟩
noncomputable def GC(c:Nat):Cf:=bI (Bf c 128) (UF (JH c 0) [JH c 1,JH c 2,JH c 3] [JH c 4,JH c 5,JH c 6]) (UF (JH c 0) [JH c 1,JH c 2] [JH c 3,JH c 4])
noncomputable def kM(x:Cf):List Nat:=x.b.flatMap λb=>bI (As b 0) TK TL
noncomputable def cX(n:Nat):List Nat:=(Br n).flatMap λk=>[k,k,k]
noncomputable def al(x:Cf):List Nat:=cX x.b.length
noncomputable def WN(x:Cf):List Nat:=x.s.flatMap λs=>[s,s,s]
noncomputable def UG(n:Nat):D:=.str (DF n 46)
noncomputable def WO(x:Cf):D:=.lst ((WN x).map λs=>UG (3+s))
noncomputable def cY:List Nat->List Nat->List Nat:=λs b=>Sq (λs b=>s+2*b) s b
noncomputable def am(x:Cf):D:=.lst (((cY x.s x.b).flatMap λs=>[s,s,s]).map λs=>UG (2+s))
noncomputable def WP(x:Cf):D:=.lst ((kM x).map QH)
noncomputable def WQ(x:Cf):D:=.lst ((al x).map nI)
noncomputable def UH(s c j:Nat):Nat:=s+2*(JH c 0+(bI (A3 1 j) (JH c 1) 0+bI (A3 2 j) (JH c 2) 0))+(2-j)
noncomputable def WR(x:Cf):List (Nat×Nat×Nat×Nat):=(Br (al x).length).zip ((WN x).zip ((al x).zip (kM x)))
noncomputable def ao(l:List (Nat×Nat×Nat×Nat))(s o c j:Nat):List Nat:=l.filterMap λp=>bI (As (p.2.2.1+1) o&&As (UH p.2.1 p.2.2.2 j) (UH s c j)) (V p.1) Ao
noncomputable def cZ(x:Cf):List (List Nat):=(WR x).map λp=>ao (WR x) p.2.1 p.2.2.1 p.2.2.2 0++(ao (WR x) p.2.1 p.2.2.1 p.2.2.2 1++ao (WR x) p.2.1 p.2.2.1 p.2.2.2 2)
noncomputable def aq(x:Cf):D:=.lst ((cZ x).map λl=>.lst (l.map nI))
noncomputable def kN(r:Nat):PX:=.add (.mul (.k 3) (.v 6)) (.k (r:Int))
noncomputable def kO(f:Nat)(O:List D):Option D:=GH f 0 (one O λx=>H3 x λt=>CB (A3 t.length 400000) (V (.str (PH t)))) (GH f 1006 (ae O) Ao)
noncomputable def TN(x:Cf)(r:Nat):Bool:=QB (CL kO 60 jI [(10,WO x),(11,WP x),(12,WQ x),(13,.int (kN r))] []) (.tup [aq x,am x])
noncomputable def ar(d:D):Option Nat:=OD d λl=>RO l λx y z=>OM x λa=>OM y λb=>OM z λc=>CB (Kr d (QH (a+(2*b+4*c)))) (V (a+(2*b+4*c)))
noncomputable def au(x y:Fr):Bool:=bI (As x.lo y.lo) (bI (As x.hi y.hi) (bI (As x.a y.a) (As x.b y.b) Ak) Ak) Ak
noncomputable def av(x:Fr)(l:List Fr):Bool:=A0 Ak (λy z i=>bI (au x y) Y i) l
noncomputable def RY:D:=.lst [.sym 0,.sym 1]
noncomputable def xW(O:List D):Option D:=Uw O λlo T a b sm=>BG (ar lo) λl=>BG (ar T) λh=>OM a λa=>OM b λb=>CB (Kr sm RY&&av ⟨l,h,a,b⟩ ah) (V (.bool (ai ⟨l,h,a,b⟩)))
noncomputable def xX(x:Cf)(O:List D):Option D:=Fv O λb F s tn=>CB (Kr b (WO x)&&(Kr F (WP x)&&(Kr s (WQ x)&&Kr tn (vD 4)))) (V (.tup [aq x,am x]))
noncomputable def aw(x:Cf)(f:Nat)(O:List D):Option D:=GH f 3 (xW O) (GH f 2 (xX x O) Ao)
noncomputable def TQ(x:Cf):D:=.lst (x.s.map nI)
noncomputable def TR(x:Cf):D:=.lst (Sq (λ(s b:Nat)=>iI ((s:Int)+(2*(b:Int)-1))) x.s x.b)
noncomputable def xY(x:Cf):Option D:=BG (CL (aw x) 60 ZM [(31,TQ x),(32,TR x),(33,Mi),(28,RY),(13,vD 4)] []) λo=>Dq.casesOn o (λz z=>Ao) V
noncomputable def MV(b u:Nat):PX:=.v (510+(2*b+u))
noncomputable def PQ(x y z:Nat):PX:=.mul (MV 0 x) (.mul (MV 1 y) (MV 2 z))
noncomputable def eP(j:Nat):PX:=bI (As j 0) (PQ 0 0 0) (bI (As j 1) (.add (PQ 1 0 0) (.add (PQ 0 1 0) (PQ 0 0 1))) (bI (As j 2) (.add (PQ 1 1 0) (.add (PQ 1 0 1) (PQ 0 1 1))) (bI (As j 3) (PQ 1 1 1) (.k 0))))
noncomputable def WS(x:Cf)(i j:Nat):Nat:=oE (K2 x.s i) 9 λg=>oE (K2 x.s j) 9 λT=>oE (K2 x.b j) 9 λv=>bI (A3 g (T+(2*v+2))) ((T+(2*v+2)-g)/2) 9
noncomputable def KE(f:Nat->PX)(x:Cf)(n:Nat):PX:=bI (A3 20 n&&Bf n 36) (f (WS x ((n-20)/4) ((n-20)%4))) (.v n)
noncomputable def OY:List Nat:=[510,511,512,513,514,515]
noncomputable def WT(x:Cf):Bool:=As x.b.length 4
noncomputable def RZ(x:Cf):PX:=MT (KE eP x) (TH (WT x))
noncomputable def kP(x:Cf):Bool:=(BG (xY x) λd=>I6 d λW=>CB (Ok OY W (RZ x)) (V (D.int W))).isSome
noncomputable def xZ(x:Cf):Bool:=RS OY (MT (KE eP x) (aV 0 0))&&RS OY (MT (KE eP x) WI)
noncomputable def c0(x:Cf):Bool:=TN x 0&&(TN x 1&&TN x 2)
noncomputable def c6(x:Cf):Bool:=kP x&&xZ x
noncomputable def ax(f:Cf->Bool)(i:Nat):Bool:=(Br 8).all λj=>f (GC (8*i+j))
theorem ER{z:Type}{p:z->Bool}{a:z}{l:List z}(h:p a=Y)(k:l.all p=Y):(a::l).all p=Y:=(Bg _ _).mpr ⟨h,k⟩
noncomputable def WU:List Nat:=[0,1,2,3,4,5,6,7,8,9,10,11,12,13,14,15,16,17,18,19]
set_option maxHeartbeats 0 in
theorem x8:WU.all (ax c0)=Y:=(ER (by decide+kernel) (ER (by decide+kernel) (ER (by decide+kernel) (ER (by decide+kernel) (ER (by decide+kernel) (ER (by decide+kernel) (ER (by decide+kernel) (ER (by decide+kernel) (ER (by decide+kernel) (ER (by decide+kernel) (ER (by decide+kernel) (ER (by decide+kernel) (ER (by decide+kernel) (ER (by decide+kernel) (ER (by decide+kernel) (ER (by decide+kernel) (ER (by decide+kernel) (ER (by decide+kernel) (ER (by decide+kernel) (ER (by decide+kernel) rfl))))))))))))))))))))
set_option maxHeartbeats 0 in
theorem kQ:WU.all (ax c6)=Y:=(ER (by decide+kernel) (ER (by decide+kernel) (ER (by decide+kernel) (ER (by decide+kernel) (ER (by decide+kernel) (ER (by decide+kernel) (ER (by decide+kernel) (ER (by decide+kernel) (ER (by decide+kernel) (ER (by decide+kernel) (ER (by decide+kernel) (ER (by decide+kernel) (ER (by decide+kernel) (ER (by decide+kernel) (ER (by decide+kernel) (ER (by decide+kernel) (ER (by decide+kernel) (ER (by decide+kernel) (ER (by decide+kernel) (ER (by decide+kernel) rfl))))))))))))))))))))
theorem ya{i:Nat}(h:i<20):i∈WU:=jR h
theorem ay{f:Cf->Bool}(h:WU.all (ax f)=Y){c:Nat}(E:c<160):f (GC c)=Y:=
 EG c 8▸D9 (D9 h (c/8) (ya (Eh E))) (c%8) (jR (Dj c (Em 7)))
theorem yb{c r:Nat}(E:c<160)(Q:r<3):TN (GC c) r=Y:=by
 obtain⟨a,h⟩:=AH (ay x8 E);obtain⟨U,G⟩:=AH h;exact aZ (P:=λr=>TN (GC c) r=Y) Q a U G
theorem yc{x:Fr}{l:List Fr}:av x l=Y->x∈l:=by
 induction l with
 |nil=>exact bF
 |cons y l ih=>
  intro h;have h:bI (au x y) Y (av x l)=Y:=h;cases q:au x y with
  |true=>
   obtain⟨U,q⟩:=Sw q;obtain⟨G,q⟩:=Sw q;obtain⟨z,e⟩:=Sw q;obtain⟨a,b,c,d⟩:=x;obtain⟨o,b',T,M⟩:=y;rw[show a=o from AB U,show b=b' from AB G,show c=T from AB z,show d=M from AB e];exact .head _
  |false=>rw[q]at h;exact .tail _ (ih h)
theorem UI{d:D}{c:Nat}(h:ar d=V c):d=QH c:=by
 obtain⟨l,_,h⟩:=Pm h;obtain⟨x,y,z,_,h⟩:=Tu h;obtain⟨a,_,h⟩:=Pz h;obtain⟨b,_,h⟩:=Pz h;obtain⟨e,_,h⟩:=Pz h;obtain⟨U,h⟩:=De h;exact sI h▸Ld U
theorem yd(P:Pk Aj w T mg mb s0 fn hd)(o:IF Aj w hd J)(i:k+5<=97){c:Nat}(E:c<160)(s:J.v 6=(J.v 4).fdiv 3):GU Aj w T J mg mb s0 fn k 2 [WO (GC c),WP (GC c),WQ (GC c),vD 4] (.tup [aq (GC c),am (GC c)]):=by
 obtain⟨r,Q,u⟩:=WD (l:=J.v 4) (m:=3) (by decide)
 have R:=yb E (Int.ofNat_lt.mp Q);have g:I9 Aj w T J mg mb s0 fn kO (k+1):=by
  refine j1 λf O d h=>?_
  rcases GV h with⟨e,h⟩|h
  ·obtain⟨x,e1,h⟩:=Px h;obtain⟨t,e2,h⟩:=HJ h;obtain⟨j,h⟩:=De h;rw[e,e1,e2,<-sI h];exact .inl ⟨by decide,P.f0 _ o _ _ (Am (AQ _ 2) (PP i).2.1) (D8 j)⟩
  rcases GV h with⟨e,h⟩|h
  ·rw[e];exact .inr (.inr ⟨by decide,kH P o (PP i).2.2.1 h⟩)
  ·exact nS h
 refine Oj (MS (n:=60) (O:=[WO (GC c),WP (GC c),WQ (GC c),.int (kN r)]) (PP i).1 Me o.2.2.2 g (P.hH _ o _ (PP i).2.1) (λh=>bF h) P.f2 rfl (RR R)) (λN hp I H=>?_) λB B B H=>H
 obtain⟨p,L,v,y,H⟩:=H.inv;obtain⟨F,z,a,A,H⟩:=H.inv;obtain⟨G,b,C,D,q⟩:=H.two;rw[v,a,C];refine .cons y (.cons A (.cons D (.cons (Jw q ?_) .nil)))
 show 3*J.v 6+(r:Int)=J.v 4;rw[s];exact u
theorem ye{x:Cf}(h:kP x=Y):FC (λW:PX=>CL (aw x) 60 ZM [(31,TQ x),(32,TR x),(33,Mi),(28,RY),(13,vD 4)] []=V (.ret (.int W))) λW=>Ok OY W (RZ x)=Y:=by
 obtain⟨_,h⟩:=gM h;obtain⟨d,U,h⟩:=Cn h;obtain⟨W,e,h⟩:=IN h;obtain⟨hp,_⟩:=De h;obtain⟨o,G,U⟩:=Cn U;cases o with
 |next _ _=>exact nS U
 |ret c=>exact⟨W,by rw[G,show c=d from sI U,e],hp⟩
theorem yf(P:Pk Aj w T mg mb s0 fn hd)(o:IF Aj w hd J)(j:k+6<=97){c:Nat}(E:c<160)(m:J.v 6=(J.v 4).fdiv 3)(r:J.t 0∈MU)(U:J.t 1∈MU):
  GU Aj w T J mg mb s0 fn k 6 [TQ (GC c),TR (GC c),Mi,RY,vD 4] (.int (RZ (GC c))):=by
 obtain⟨W,H,i⟩:=ye (AH (ay kQ E)).1;have g:I9 Aj w T J mg mb s0 fn (aw (GC c)) (k+1):=by
  refine Nr λf O d h=>?_
  rcases GV h with⟨e,h⟩|h
  ·obtain⟨lo,C,a,b,sm,e1,h⟩:=wy h;obtain⟨l,e2,h⟩:=Cn h;obtain⟨u,X,h⟩:=Cn h;obtain⟨D,t,h⟩:=Pz h;obtain⟨b',x,h⟩:=Pz h;obtain⟨L,h⟩:=De h;rw[e,e1,UI e2,UI X,t,x,Ld (AH L).1,<-sI h];exact .inl ⟨by decide,xU P o (J8 (c:=97) (d:=97) (a:=4) j (by decide) (by decide)) (yc (AH L).2) r U⟩
  rcases GV h with⟨e,h⟩|h
  ·obtain⟨q,F,s,tn,e1,h⟩:=j0 h;obtain⟨M,h⟩:=De h;obtain⟨y,M⟩:=AH M;obtain⟨z,M⟩:=AH M;obtain⟨G,A⟩:=AH M;rw[e,e1,Ld y,Ld z,Ld G,Ld A,<-sI h];exact .inl ⟨by decide,yd P o j E m⟩
  ·exact nS h
 refine Oj (MS (n:=60) (O:=[TQ (GC c),TR (GC c),Mi,RY,vD 4]) (WH j).1 Me o.2.2.2 g (P.hH _ o _ (WH j).2) (λh=>bF h) P.f6 rfl H) (λB B B p=>p) λN hp v p=>Jw p (Wt i J).symm
noncomputable def R3(Fv:Bool)(c:Nat):Nat:=bI Fv c (128+(c%8+8*(c/16%4)))
noncomputable def p3(c:Nat):PX:=.add (.mul (.k 128) (.v 5)) (.k (c:Int))
noncomputable def Nu(c:Nat):D:=.lst [vD 0,vD 1,vD 2,.int (p3 c),vD 4]
noncomputable def TS(Fv:Bool)(c:Nat):D:=.lst ((Br (bI Fv 4 3)).map λj=>iI (2*(JH c j:Int)-1))
noncomputable def TU:D:=.lst (MU.map .str)
noncomputable def aA(b:Nat):PX:=.add (.add (.k 0) (MV b 0)) (MV b 1)
noncomputable def PR:PX:=.mul (.mul (aA 0) (aA 1)) (aA 2)
noncomputable def QJ(r:Nat):Nat:=bI (As r 0) 1 (bI (As r 1) 7 40)
noncomputable def TV(r:Nat):PX:=.add (.v 699) (.k (QJ r))
noncomputable def aB:PX:=.mul (.mul (.v 701) (.v 702)) (.v 703)
noncomputable def Mj(l:Nat):PX:=bI (A3 l 3) (.v (520+l)) (.k 0)
noncomputable def UJ:D:=.lst [vD 520,vD 521,vD 522,vD 523]
noncomputable def aC(x:Cf):D:=.lst ((Br x.b.length).map λi=>.lst ((Br x.b.length).map λj=>.int (Mj (WS x i j))))
noncomputable def c8(c:Nat)(O:List D):Option D:=RO O λms p G=>CB (Kr ms TU&&Kr p (.int (p3 c))) (bI (Kr G (nI 7)) (V (.sym 0)) (CB (Kr G (nI 10)) (V (.sym 1))))
noncomputable def Wo(r:Nat)(O:List D):Option D:=two O λws R=>CB (Kr R (.int (TV r))) (RX (λb=>Kr ws (.lst [.int (MV b 0),.int (MV b 1)])) (λb=>vD (701+b)) r3)
noncomputable def kR(Fv:Bool)(c r:Nat)(f:Nat)(O:List D):Option D:=
 GH f 911 (c8 c O) (GH f 6 (CB (Ns O [TQ (GC (R3 Fv c)),TR (GC (R3 Fv c)),Mi,RY,vD 4]) (V (.int (RZ (GC (R3 Fv c)))))) (GH f 905 (CB (Ns O [.int PR]) (V (vD 699))) (GH f 903 (CB (Ns O [vD 4,nI 3]) (V (nI r)))
 (GH f 16 (Wo r O) (GH f 15 (CB (Ns O [.int aB,.int (TV r)]) (V UJ)) (GH f 7 (CB (Ns O [aC (GC (R3 Fv c)),vD 4]) (V (.int (RZ (GC (R3 Fv c)))))) Ao))))))
noncomputable def WV(Fv:Bool)(c r:Nat):Bool:=QB (CL (kR Fv c r) 60 Ws [(52,TS Fv c),(33,Mi),(1,Nu c)] []) (.bool Y)
noncomputable def KF(Fv:Bool)(i:Nat):Bool:=(Br 16).all λj=>WV Fv (16*i+j) 0&&(WV Fv (16*i+j) 1&&WV Fv (16*i+j) 2)
theorem yg:KF Y 0=Y:=by decide+kernel
theorem yh:KF Y 1=Y:=by decide+kernel
theorem yi:KF Y 2=Y:=by decide+kernel
theorem yj:KF Y 3=Y:=by decide+kernel
theorem yk:KF Y 4=Y:=by decide+kernel
theorem ym:KF Y 5=Y:=by decide+kernel
theorem yn:KF Y 6=Y:=by decide+kernel
theorem yo:KF Y 7=Y:=by decide+kernel
theorem yq:KF Ak 0=Y:=by decide+kernel
theorem yr:KF Ak 1=Y:=by decide+kernel
theorem yt:KF Ak 2=Y:=by decide+kernel
theorem yu:KF Ak 3=Y:=by decide+kernel
theorem yv:KF Ak 4=Y:=by decide+kernel
theorem yw:KF Ak 5=Y:=by decide+kernel
theorem yx:KF Ak 6=Y:=by decide+kernel
theorem yy:KF Ak 7=Y:=by decide+kernel
theorem yz(Fv:Bool):([0,1,2,3,4,5,6,7]:List Nat).all (KF Fv)=Y:=match Fv with
 |true=>(ER yg (ER yh (ER yi (ER yj (ER yk (ER ym (ER yn (ER yo rfl))))))))
 |false=>(ER yq (ER yr (ER yt (ER yu (ER yv (ER yw (ER yx (ER yy rfl))))))))
theorem c9{i:Nat}(h:i<8):i∈([0,1,2,3,4,5,6,7]:List Nat):=jR h
theorem yA(Fv:Bool){c r:Nat}(E:c<128)(Q:r<3):WV Fv c r=Y:=by
 have U:=D9 (yz Fv) (c/16) (c9 (Eh E));have G:=D9 U (c%16) (jR (Dj _ (by decide)))
 rw[EG]at G;obtain⟨a,h⟩:=AH G;obtain⟨U,G⟩:=AH h
 match r,Q with
 |0,_=>exact a
 |1,_=>exact U
 |2,_=>exact G
theorem de{n e z:Nat}(h:e<2^n):dg n (e+2^n*z) 0=e:=by
 unfold dg;rw[Dy,E7,W3,Nat.add_mul_mod_self_left,GK h]
theorem dh{n e z j:Nat}(h:e<2^n):dg n (e+2^n*z) (j+1)=dg n z j:=by
 unfold dg;rw[Ed,Ee,El (n*j),CR,<-Lv,Nat.add_mul_div_left _ _ (FI n),Jp h,E2]
theorem yB{n:Nat}(a:List Nat):(∀q∈a,q<2^n)->(Br a.length).map (dg n (GG n a))=a:=by
 induction a with
 |nil=>exact λz=>rfl
 |cons q r ih=>
  intro h;have M:=h q (.head _);rw[Cb,KV,DA,DN];show dg n (q+2^n*GG n r) 0::_=_;rw[de M];refine congrArg (q::·) (Sa (HI λj z=>?_) (ih λx L=>h x (.tail _ L)))
  exact dh M
theorem yC{n X m:Nat}(M:1<=n)(U:2^(n*m)<=X)(G:X<2^(n*(m+1))):GN n X=m+1:=by
 have R:=PL (x:=(X:Int)) (k:=n*(m+1)) (by rw[BK];exact G)
 have f:=Wh (X:=X) M;refine AP (IL (Eh ?_)) (Fl λq=>?_)
 ·rw[UX];exact AE (Nat.sub_lt (AE M (Bw _ _)) Nat.one_pos) (BP R n)
 ·exact AN _ (AE (AE (Qz X) (AV (by decide) (Am f (BN n q)))) U)
noncomputable def yP(b:Nat):PX:=.add (MV b 0) (.mul (.v 900) (MV b 1))
theorem yD:Ok [510,511,512,513,514,515,900] (.mul (.mul (yP 0) (yP 1)) (yP 2)) (.add (eP 0) (.mul (.v 900) (.add (eP 1) (.mul (.v 900) (.add (eP 2) (.mul (.v 900) (.add (eP 3) (.mul (.v 900) (.k 0)))))))))=Y:=by decide+kernel
theorem yE:Ok OY PR (.add (eP 0) (.add (eP 1) (.add (eP 2) (eP 3))))=Y:=by decide+kernel
theorem yF:[0,1,2,3].all (λj=>RS OY (eP j))=Y:=by decide+kernel
structure KT(J:Sg)(r n:Nat):Prop where
 w:∀i∈OY,0<J.v i
 b:J.v 699=(AJ (PR.ev J):Int)
 wd:(TV r).ev J=(n:Int)
 n1:n<=1000
 x:∀b∈r3,J.v (701+b)=J.v (510+2*b)+2^n*J.v (511+2*b)
 f:∀j∈([0,1,2,3]:List Nat),J.v (520+j)=(eP j).ev J
section
variable {J:Sg} {r n:Nat}
theorem yG(r:Nat):1<=QJ r:=by
 unfold QJ;cases As r 0 with
 |true=>exact AI 1
 |false=>cases As r 1<;>decide
theorem KT.bits(F:KT J r n):AJ (PR.ev J)<=n/\1<=n:=by
 have e:J.v 699+((QJ r:Nat):Int)=(n:Int):=F.wd;rw[F.b,<-B8]at e;have e:=M1 e;have U:=yG r;exact⟨e▸AQ _ _,e▸Am U (Bw _ _)⟩
inductive yH(J:Sg)(n:Nat):Prop
 |mk (a b c d:Nat) (ha:(eP 0).ev J=(a:Int)) (hb:(eP 1).ev J=(b:Int)) (hc:(eP 2).ev J=(c:Int)) (hd:(eP 3).ev J=(d:Int)) (hn:∀q∈[a,b,c,d],q<2^n) (h1:1<=d)
theorem KT.fig(F:KT J r n):yH J n:=by
 have p:∀j,j∈[0,1,2,3]->0<(eP j).ev J:=λj N=>jT F.w (D9 yF j N)
 have p0:=p 0 (.head _);have p1:=p 1 (.tail _ (.head _));have p2:=p 2 (.tail _ (.tail _ (.head _)));have p3:=p 3 (.tail _ (.tail _ (.tail _ (.head _))));have i:=Wt yE J;have i:PR.ev J=(eP 0).ev J+((eP 1).ev J+((eP 2).ev J+(eP 3).ev J)):=i;obtain⟨a,C⟩:=BL (BR p0);obtain⟨b,L⟩:=BL (BR p1);obtain⟨c,E⟩:=BL (BR p2);obtain⟨d,hd⟩:=BL (BR p3);have y:=F.bits.1;rw[C,L,E,hd,<-B8,<-B8,<-B8]at i;rw[i]at y;have A:=AE (Qz (a+(b+(c+d)))) (AV (by decide) y)
 rw[hd]at p3;refine⟨a,b,c,d,C,L,E,hd,λq M=>AG ?_ A,Int.ofNat_lt.mp p3⟩
 rcases jC M with e|M
 ·exact e▸AQ _ _
 rcases jC M with e|M
 ·exact e▸Am (AQ _ _) (Bw _ _)
 rcases jC M with e|M
 ·exact e▸Am (Am (AQ _ _) (Bw _ _)) (Bw _ _)
 ·exact List.mem_singleton.mp M▸Am (Am (Bw _ _) (Bw _ _)) (Bw _ _)
theorem KT.num(F:KT J r n){a b c d:Nat}(j:(eP 0).ev J=(a:Int))(p:(eP 1).ev J=(b:Int))(E:(eP 2).ev J=(c:Int))(hd:(eP 3).ev J=(d:Int)):aB.ev J=(GG n [a,b,c,d]:Int):=by
 have h:=Wt yD (J.wv λi=>bI (As i 900) (2^n) (J.v i))
 have h:(J.v 510+2^n*J.v 511)*(J.v 512+2^n*J.v 513)*(J.v 514+2^n*J.v 515)=(eP 0).ev J+2^n*((eP 1).ev J+2^n*((eP 2).ev J+2^n*((eP 3).ev J+2^n*0))):=h;rw[j,p,E,hd]at h;show J.v 701*J.v 702*J.v 703=((a+2^n*(b+2^n*(c+2^n*(d+2^n*0))):Nat):Int);rw[F.x 0 (.head _),F.x 1 (.tail _ (.head _)),F.x 2 (.tail _ (.tail _ (.head _)))];refine h.trans ?_
 rw[B8,CT,B8,CT,B8,CT,B8,CT,EF]
 rfl
end
section
variable {Aj:Bh} {w:Ca} {T:An->Prop} {J:Sg} {mg mb:Av->Option Ag} {s0:Ah} {fn:Nat->Av} {k:Nat} {hd:Int} {r n:Nat}
inductive yI(J:Sg)(n b:Nat):Prop
 |mk (d u:Nat) (hd:J.v (510+2*b)=(d:Int)) (hu:J.v (511+2*b)=(u:Int)) (h1:d<2^n) (h2:u<2^n)
theorem yJ{a b c:Int}(g:1<=a)(F:1<=b)(E:1<=c):a<=a*b*c/\b<=a*b*c/\c<=a*b*c:=by
 have m:∀{x y:Int},1<=x->1<=y->x<=x*y/\1<=x*y:=λ{x y} U G=>by
  have h:=Fx G (Cr Q0 U);rw[Ec]at h;exact⟨h,Cr U h⟩
 have U:=m g F;have G:=m F g;have z:=m U.2 E;have l:=m E U.2;rw[GX]at G;rw[GX]at l;exact⟨Cr U.1 z.1,Cr G.1 z.1,l.1⟩
theorem KT.beat(F:KT J r n){b:Nat}(p:b∈r3):yI J n b:=by
 have w:=λ{i} (h:i∈OY)=>F.w i h
 have N:=w (i:=510) (.head _);have P:=w (i:=511) (.tail _ (.head _));have W:=w (i:=512) (.tail _ (.tail _ (.head _)));have X:=w (i:=513) (.tail _ (.tail _ (.tail _ (.head _))));have w4:=w (i:=514) (.tail _ (.tail _ (.tail _ (.tail _ (.head _)))));have w5:=w (i:=515) (.tail _ (.tail _ (.tail _ (.tail _ (.tail _ (.head _))))));have hs:PR.ev J=(0+J.v 510+J.v 511)*(0+J.v 512+J.v 513)*(0+J.v 514+J.v 515):=rfl;have L:∀{x y:Int},0<x->0<y->1<=0+x+y:=λU Q=>by rw[Cq];exact Cr (show(1:Int)<=_ from U) (Int.le_add_of_nonneg_right (BR Q))
 obtain⟨l0,l1,l2⟩:=yJ (L N P) (L W X) (L w4 w5);rw[<-hs]at l0 l1 l2;have hp:PR.ev J<2^n:=by
  obtain⟨Ad,hS⟩:=BL (Cr Q0 (Cr (L N P) l0));have U:=F.bits.1;rw[hS]at U ⊢;have:=AE (Qz Ad) (AV (by decide) U)
  exact_mod_cast this
 have j:∀{x y:Int},0<x->0<y->0+x+y<=PR.ev J->∃d u:Nat,x=(d:Int)/\y=(u:Int)/\d<2^n/\u<2^n:=λ{x y} U Q h3=>by
  obtain⟨d,hd⟩:=BL (BR U);obtain⟨u,hu⟩:=BL (BR Q);rw[hd,hu,Cq,<-B8]at h3;have M:((d+u:Nat):Int)<((2^n:Nat):Int):=by rw[EF];exact Int.lt_of_le_of_lt h3 hp
  have M:=Int.ofNat_lt.mp M;exact⟨d,u,hd,hu,AG (AQ _ _) M,AG (Bw _ _) M⟩
 rcases jC p with e|p
 ·obtain⟨d,u,q,A,C,E⟩:=j N P l0;exact e▸⟨d,u,q,A,C,E⟩
 rcases jC p with e|p
 ·obtain⟨d,u,q,A,C,E⟩:=j W X l1;exact e▸⟨d,u,q,A,C,E⟩
 ·obtain⟨d,u,q,A,C,E⟩:=j w4 w5 l2;exact List.mem_singleton.mp p▸⟨d,u,q,A,C,E⟩
theorem yK{P:Nat->Prop}{a b:Nat}(U:P a)(G:P b):∀q∈[a,b],P q:=λq M=>(jC M).elim (λe=>e▸U) λh=>List.mem_singleton.mp h▸G
theorem yL(P:Pk Aj w T mg mb s0 fn hd)(o:IF Aj w hd J)(h:k+1<=100)(F:KT J r n){b:Nat}(e:b∈r3):GU Aj w T J mg mb s0 fn k 16 [.lst [.int (MV b 0),.int (MV b 1)],.int (TV r)] (vD (701+b)):=by
 obtain⟨d,u,c,f,U,G⟩:=F.beat e;have L:=F.x b e;refine Oj ((P.dv J o).c16 k n [d,u] h (yK U G) (by show 2<=100000;decide) (Am (Hy 2 F.n1) (by decide))) (λN hp I H=>?_) λN hp v H=>Jw H ?_
 ·obtain⟨z,A,i,E,j⟩:=H.two;obtain⟨a,C,m,l,M,g,p⟩:=E.inv;obtain⟨q,s,x,t,y⟩:=p.two;rw[x]at g;rw[i,l];exact .cons (.lst (I:=[q,s]) M g (.cons (Jw t c.symm) (.cons (Jw y ((show(MV b 1).ev J=J.v (511+2*b)from congrArg J.v (Ik 510 (2*b) 1 |>.trans rfl)).trans f).symm) .nil))) (.cons (Jw j F.wd.symm) .nil)
 ·show J.v (701+b)=((d+2^n*(u+2^n*0):Nat):Int);rw[L,c,f,Dy,FR,B8,CT,EF]
  rfl
theorem yM(P:Pk Aj w T mg mb s0 fn hd)(o:IF Aj w hd J)(X:k+1<=100)(F:KT J r n):GU Aj w T J mg mb s0 fn k 15 [.int aB,.int (TV r)] UJ:=by
 obtain⟨a,b,c,d,L,Q,E,f,M,U⟩:=F.fig;have i:=F.num L Q E f;have l:=F.bits.2;have q:=jg n [a,b,c,d] M;have hge:2^(n*3)<=GG n [a,b,c,d]:=by
  show _<=a+2^n*(b+2^n*(c+2^n*(d+2^n*0)));have e:(2:Nat)^(n*3)=2^n*(2^n*(2^n*1)):=by rw[Ee,<-CR,<-CR,UX,W5,El (n+n)]
  rw[e];have u:∀{x y z:Nat},x<=y->2^n*x<=z+2^n*y:=λh=>Am (BN _ h) (Bw _ _)
  exact u (u (u (Am U (AQ _ _))))
 have s:=yC l hge q;have D4:=yB [a,b,c,d] M;have A:=(P.dv J o).c15 k n (GG n [a,b,c,d]) X l (Am F.n1 (by decide)) (AE q (AV (by decide) (Am (Hy _ F.n1) (by show 1000*4<=100000;decide))))
 rw[s]at A;have t:(Br 4).map (λ(j:Nat)=>nI (dg n (GG n [a,b,c,d]) j))=[nI a,nI b,nI c,nI d]:=by
  have:=congrArg (List.map nI) D4;rw[DN]at this;exact this
 rw[show(3:Nat)+1=4 from rfl,t]at A;refine Oj A (λN hp I H=>?_) λN hp v H=>?_
 ·obtain⟨R,W,C,D,G⟩:=H.two;rw[C];exact .cons (Jw D i.symm) (.cons (Jw G F.wd.symm) .nil)
 ·obtain⟨x,us,m,q2,M,g,p⟩:=H.inv;obtain⟨R,Bd,C,D,p⟩:=p.inv;obtain⟨W,Bs,q3,G,p⟩:=p.inv;obtain⟨v3,v4,q4,g3,g4⟩:=p.two;rw[C,q3,q4]at g;rw[q2];exact .lst (I:=[R,W,v3,v4]) M g (.cons (Jw D ((F.f 0 (.head _)).trans L)) (.cons (Jw G ((F.f 1 (.tail _ (.head _))).trans Q)) (.cons (Jw g3 ((F.f 2 (.tail _ (.tail _ (.head _)))).trans E)) (.cons (Jw g4 ((F.f 3 (.tail _ (.tail _ (.tail _ (.head _))))).trans f)) .nil))))
end
theorem yN(ts:Nat->List Nat):(Br 160).all (λc=>Ns (OT (KE Mj (GC c)) ts [TJ (bI (WT (GC c)) 4 3),vD 4]) [aC (GC c),vD 4])=Y:=by kernel_rfl
section
variable {Aj:Bh} {w:Ca} {T:An->Prop} {J:Sg} {mg mb:Av->Option Ag} {s0:Ah} {fn:Nat->Av} {k:Nat} {hd:Int} {r n:Nat}
theorem yO(F:KT J r n)(l:Nat):(Mj l).ev J=(eP l).ev J:=match l with
 |0=>F.f 0 (.head _)
 |1=>F.f 1 (.tail _ (.head _))
 |2=>F.f 2 (.tail _ (.tail _ (.head _)))
 |3=>F.f 3 (.tail _ (.tail _ (.tail _ (.head _))))
 |_+4=>rfl
theorem kS(F:KT J r n)(x:Cf)(p:PX):(MT (KE Mj x) p).ev J=(MT (KE eP x) p).ev J:=by
 induction p with
 |k _=>rfl
 |v m=>
  show(KE Mj x m).ev J=(KE eP x m).ev J;unfold KE;cases A3 20 m&&Bf m 36 with
  |true=>exact yO F _
  |false=>rfl
 |add a b e s=>show _+_=_+_;rw[e,s]
 |mul a b e s=>show _*_=_*_;rw[e,s]
theorem yQ{P:Int->Prop}(a:P 0)(h:∀m,P (J.v m))(x:Cf)(m:Nat):P ((KE Mj x m).ev J):=by
 unfold KE;cases A3 20 m&&Bf m 36 with
 |true=>
  show P ((Mj (WS x ((m-20)/4) ((m-20)%4))).ev J)
  generalize WS x ((m-20)/4) ((m-20)%4)=l
  unfold Mj;cases A3 l 3 with
  |true=>exact h _
  |false=>exact a
 |false=>exact h m
theorem yR(P:Pk Aj w T mg mb s0 fn hd)(o:IF Aj w hd J)(b:∀m,(J.v m).natAbs<=2^220)(d:k+8<=97)(F:KT J r n){c:Nat}(E:c<160):GU Aj w T J mg mb s0 fn k 7 [aC (GC c),vD 4] (.int (RZ (GC c))):=by
 have hp:=AH (AH (ay kQ E)).2;have j:QA J (J.wv λm=>(KE Mj (GC c) m).ev J) (KE Mj (GC c)) J.t:=⟨λz=>rfl,λz=>rfl,rfl⟩
 have a:∀m,((J.wv λm=>(KE Mj (GC c) m).ev J).v m).natAbs<=2^220:=yQ (P:=λi=>i.natAbs<=2^220) (Be _) b (GC c)
 have f:IF Aj w hd (J.wv λm=>(KE Mj (GC c) m).ev J):=⟨o.1,o.2.1,o.2.2.1,λm=>Am (a m) (AV (by decide) (by decide))⟩
 have ne:∀{p:PX},RS OY (MT (KE eP (GC c)) p)=Y->p.ev (J.wv λm=>(KE Mj (GC c) m).ev J)≠0:=λ{p} h=>by
  rw[<-ZK j p,kS F];exact Dw (jT F.w h)
 have c1:=jG j (xK P f a d (ne hp.1) (ne hp.2) (WT (GC c)));have hm:=RQ (D9 (yN J.t) c (jR E));rw[hm]at c1;exact Oj c1 (λz z z H=>H) λN hp v H=>Jw H (kS F (GC c) (TH (WT (GC c)))).symm
structure aD(J:Sg)(c:Nat):Prop where
 m0:J.t 0∈MU
 m1:J.t 1∈MU
 a:NS TU (iI ((((p3 c).ev J).fdiv (2^7)).fmod 8))=V (.str (J.t 0))
 b:NS TU (iI ((((p3 c).ev J).fdiv (2^10)).fmod 8))=V (.str (J.t 1))
theorem yS(Fv:Bool){c:Nat}(E:c<128):R3 Fv c<160:=by
 cases Fv with
 |true=>exact CO E (by decide)
 |false=>
  have U:=Dj c (show 0<8 by decide)
  have G:=Dj (c/16) (show 0<4 by decide)
  show 128+(c%8+8*(c/16%4))<128+32;exact M2 (AE (Nat.add_lt_add_right U _) (Am (Cw (BN 8 (IL G)) 8) (by decide:8+8*3<=32))) 128
theorem WW{k:Nat}(h:k+9<=97):k+1<=100/\k+6<=97/\k+8<=97:=⟨J8 h (by decide) (by decide),J8 h (by decide) (by decide),J8 h (by decide) (by decide)⟩
theorem yT(P:Pk Aj w T mg mb s0 fn hd)(o:IF Aj w hd J)(l:∀m,(J.v m).natAbs<=2^220)(g:k+9<=97)(Fv:Bool){c:Nat}(E:c<128)(F:KT J r n)(M:aD J c)(q:J.v 6=(J.v 4).fdiv 3)(Q:(J.v 4).fmod 3=(r:Int)):I9 Aj w T J mg mb s0 fn (kR Fv c r) k:=by
 have j:=yS Fv E;refine Nr λf O d h=>?_
 rcases GV h with⟨e,h⟩|h
 ·obtain⟨ms,p,s,e1,h⟩:=Tu h;obtain⟨a,h⟩:=De h;rw[e,e1,Ld (AH a).1,Ld (AH a).2];cases t:Kr s (nI 7)with
  |true=>
   rw[t]at h;rw[Ld t,<-sI h];exact .inr ⟨by decide,by decide,_,_,7,0,_,rfl,rfl,rfl,M.a⟩
  |false=>
   rw[t]at h;obtain⟨i,h⟩:=De h;rw[Ld i,<-sI h];exact .inr ⟨by decide,by decide,_,_,10,1,_,rfl,rfl,rfl,M.b⟩
 rcases GV h with⟨e,h⟩|h
 ·obtain⟨a,h⟩:=De h;rw[e,RQ a,<-sI h];exact .inl ⟨by decide,yf P o (WW g).2.1 j q M.m0 M.m1⟩
 rcases GV h with⟨e,h⟩|h
 ·obtain⟨a,h⟩:=De h;rw[e,RQ a,<-sI h];exact .inr ⟨by decide,by decide,_,_,rfl,rfl,F.b⟩
 rcases GV h with⟨e,h⟩|h
 ·obtain⟨a,h⟩:=De h;rw[e,RQ a,<-sI h];exact .inr ⟨by decide,by decide,_,_,_,rfl,rfl,by show((3:Nat):Int)≠0;decide,Q.symm⟩
 rcases GV h with⟨e,h⟩|h
 ·obtain⟨ws,R,e1,h⟩:=Ni h;obtain⟨a,h⟩:=De h;obtain⟨b,u,U,G⟩:=WK h;rw[e,e1,Ld a,Ld U,<-G];exact .inl ⟨by decide,yL P o (WW g).1 F u⟩
 rcases GV h with⟨e,h⟩|h
 ·obtain⟨a,h⟩:=De h;rw[e,RQ a,<-sI h];exact .inl ⟨by decide,yM P o (WW g).1 F⟩
 rcases GV h with⟨e,h⟩|h
 ·obtain⟨a,h⟩:=De h;rw[e,RQ a,<-sI h];exact .inl ⟨by decide,yR P o l (WW g).2.2 F j⟩
 ·exact nS h
end
noncomputable def TW(it:M):M:=match QC with
 | .comp e [.mk t u k _ C]=>.comp e [.mk t u k [it] C]
 |m=>m
noncomputable def UK:M:=.ite (.cmp (.bi 0 [.n 0]) [(.Gt,.c (.int (.k 3)))]) (.c (.int (.k 4))) (.c (.int (.k 3)))
theorem yU:QC=TW UK:=rfl
theorem kT{C:Nat->List D->Option D}{n:Nat}{ρ Bt:List (Nat×D)}{a b:M}(h:ev C n ρ Bt a=ev C n ρ Bt b):ev C (n+1) ρ Bt (TW a)=ev C (n+1) ρ Bt (TW b):=by
 show BG (BG (ev C n ρ Bt a) _) _=BG (BG (ev C n ρ Bt b) _) _;rw[h]
noncomputable def WX(o:Option D)(d:D):Bool:=oE o Ak λe=>Kr e d
theorem aE{o:Option D}{d:D}(h:WX o d=Y):o=V d:=by
 cases o with
 |none=>exact bF h
 |some e=>rw[Ld h]
noncomputable def TX(r:D)(c:Nat):List (Nat×D):=[(33,Mi),(1,Nu c),(0,r)]
theorem yV(C:Nat->List D->Option D)(r:D):(Br 128).all (λc=>WX (ev C 20 (TX r c) [] (TW (.c (nI 4)))) (TS Y c))=Y:=by kernel_rfl
theorem yW(C:Nat->List D->Option D)(r:D):(Br 128).all (λc=>WX (ev C 20 (TX r c) [] (TW (.c (nI 3)))) (TS Ak c))=Y:=by kernel_rfl
theorem yX{C:Nat->List D->Option D}{xs:List Int}(L:xs.length<=63){c:Nat}(E:c<128):ev C 20 (TX (.lst (xs.map iI)) c) [] QC=V (TS (I7 3 (xs.length:Int)) c):=by
 have w:SK 0 [.lst (xs.map iI)]=V (nI xs.length):=by
  show CB (AS (xs.map iI)) (V (nI (xs.map iI).length))=_;rw[show AS (xs.map iI)=Y from AL (by rw[BS];exact Am L (by decide)),BS];rfl
 have U:ev C 18 (TX (.lst (xs.map iI)) c) [] (.cmp (.bi 0 [.n 0]) [(.Gt,.c (.int (.k 3)))])=V (.bool (I7 3 (xs.length:Int))):=(H2 (ko (n:=16) (x:=.lst (xs.map iI)) rfl w)).trans rfl;have G:ev C 19 (TX (.lst (xs.map iI)) c) [] UK=V (nI (bI (I7 3 (xs.length:Int)) 4 3)):=by
  refine(H2 U).trans ?_
  show BG (V (I7 3 (xs.length:Int))) _=_;cases I7 3 (xs.length:Int)<;>rfl
 rw[yU];cases q:I7 3 (xs.length:Int)with
 |true=>
  rw[q]at G;rw[kT (b:=.c (nI 4)) G];exact aE (D9 (yV C _) c (jR E))
 |false=>
  rw[q]at G;rw[kT (b:=.c (nI 3)) G];exact aE (D9 (yW C _) c (jR E))
section
variable {Aj:Bh} {w:Ca} {T:An->Prop} {J:Sg} {mg mb:Av->Option Ag} {s0:Ah} {fn:Nat->Av} {k:Nat} {hd:Int} {r n:Nat}
open Classical in
noncomputable def cF(r s:D)(f:Nat)(O:List D):Option D:=GH f 13 (MQ (O=[r]) s) (GH f 14 (MQ (O=[s]) Mi) Ao)
theorem QK{k:Nat}(h:k+12<=97):k+1<=100/\k+1+9<=97/\k+1+3<=100/\k+1+1<=97/\k+1+5<=97:=
 ⟨J8 h (by decide) (by decide),J8 (a:=10) h (by decide) (by decide),J8 (a:=4) h (by decide) (by decide),J8 (a:=2) h (by decide) (by decide),J8 (a:=6) h (by decide) (by decide)⟩
theorem yY(P:Pk Aj w T mg mb s0 fn hd)(o:IF Aj w hd J)(hB:∀m,(J.v m).natAbs<=2^220)(q:k+12<=97){xs:List Int}(L:xs.length<=63){c:Nat}(E:c<128)(F:KT J r n)(M:aD J c)(h6:J.v 6=(J.v 4).fdiv 3)(hr:(J.v 4).fmod 3=(r:Int))(s:r<3)
  (A:GU Aj w T J mg mb s0 fn (k+1) 13 [.lst (xs.map iI)] (Nu c))(N:GU Aj w T J mg mb s0 fn (k+1) 14 [Nu c] Mi)(h:KR s0 mg (C6 KS) fn 21 [0] Uv):GU Aj w T J mg mb s0 fn k 21 [.lst (xs.map iI)] (.bool Y):=by
 obtain⟨a,fd,body,fo,fu,G,Fn,U,hx,hf,X⟩:=h;refine⟨a,G,Tf (QK q).1 Me Fn U hx hf rfl λA' E' N2 Z B AK B W=>?_⟩
 have Bd:I9 Aj w T J mg mb s0 fn (cF (.lst (xs.map iI)) (Nu c)) (k+1):=by
  refine Nr λf O d h=>?_
  rcases GV h with⟨e,h⟩|h
  ·obtain⟨hq,h⟩:=PM h;rw[e,hq,<-h];exact .inl ⟨by decide,A⟩
  rcases GV h with⟨e,h⟩|h
  ·obtain⟨hq,h⟩:=PM h;rw[e,hq,<-h];exact .inl ⟨by decide,N⟩
  ·exact nS h
 have hS:=λn=>Rq (fn:=fn) (k:=k+1) (QK q).1 Me o.2.2.2 Bd n
 have Bs:=yX (C:=cF (.lst (xs.map iI)) (Nu c)) L E
 generalize D.lst (xs.map iI)=H at*
 generalize I7 3 (xs.length:Int)=Fv at*
 obtain⟨f1,Ce,Cf,e1,j,Cx⟩:=Jv (x:=.asg [1] Y (.call 13 [.n 0])) (r:=.asg [33] Y (.call 14 [.n 1])::.asg [52] Y QC::Ws) rfl rfl X;obtain⟨f2,VU,CH,e2,l,DD⟩:=Jv rfl rfl Cx;obtain⟨f3,WN,p,e3,Q,Ev⟩:=Jv rfl rfl DD;have j:ON (C6 KS) fd.scope.names Ce 1 (λv=>Bu (C6 KS) fn fo fd.scope.names v (.call 13 [.n 0])&&Qp v (.call 13 [.n 0]))=Y:=j
 have l:ON (C6 KS) fd.scope.names VU 33 (λv=>Bu (C6 KS) fn fo fd.scope.names v (.call 14 [.n 1])&&Qp v (.call 14 [.n 1]))=Y:=l
 have Q:ON (C6 KS) fd.scope.names WN 52 (λv=>Bu (C6 KS) fn fo fd.scope.names v QC&&Qp v QC)=Y:=Q
 obtain⟨F5,v1,F2,q1,E3,j⟩:=PF j;obtain⟨F6,v2,F3,q2,E4,l⟩:=PF l;obtain⟨F7,v3,F4,q3,E5,Q⟩:=PF Q;have t:ev (cF H (Nu c)) 6 [(0,H)] (CU []) (.call 13 [.n 0])=V (Nu c):=Mb (Of (HN rfl)) (OS rfl);have i:ev (cF H (Nu c)) 6 [(1,Nu c),(0,H)] (CU []) (.call 14 [.n 1])=V Mi:=Mb (Of (HN rfl)) (OS rfl);rw[e1,q1,e2,q2,e3,q3];refine Aw (W.asg (hS 5).1 (hS 5).2 (hS 6).1 Me (AH j).1 E3 (AH j).2 t rfl λs2 p1=>?_)
 have y:=W.post p1;refine Aw (y.asg (hS 5).1 (hS 5).2 (hS 6).1 Me (AH l).1 E4 (AH l).2 i rfl λs3 p2=>?_)
 have z:=y.post p2;refine Aw (z.asg (hS 19).1 (hS 19).2 (hS 20).1 Me (AH Q).1 E5 (AH Q).2 Bs rfl λs4 p3=>?_)
 have x4:=(z.post p3).less (A6:=[(52,TS Fv c),(33,Mi),(1,Nu c)]) (PC (PC (PC λB B h=>nS h)))
 have R:=YY (QK q).1 Me o.2.2.2 (yT P o hB (QK q).2.1 Fv E F M h6 hr) (P.hH _ o _ (QK q).2.2.1) (λh=>bF h) 60
 refine AM (R A' E' Z _ N2 s4 _ _ _ fo _ p Ws _ x4 Ev (RR (yA Fv E s))) (λfl DK ho=>?_) λB B e=>e
 obtain⟨v',F0,F1,u⟩:=ho;have pp:=(p1.trans W.bs W.rel p2).trans W.bs W.rel p3;exact⟨v',F0,F1,(pp.upd.mono λb g=>g.elim id λg=>nomatch g).trans (u.mono λb g=>g.elim id λg=>nomatch g)⟩
end
noncomputable def aF(n:Nat)(l:List (Nat×Int)):Int:=A0 0 (λp z i=>bI (As n p.1) p.2 i) l
noncomputable def R4(n:Nat)(l:List (Nat×List Nat)):List Nat:=A0 [] (λp z i=>bI (As n p.1) p.2 i) l
theorem yZ{P:Int->Prop}(a:P 0)(n:Nat){l:List (Nat×Int)}(h:∀p∈l,P p.2):P (aF n l):=by
 induction l with
 |nil=>exact a
 |cons p r ih=>
  show P (bI (As n p.1) p.2 (aF n r));cases As n p.1 with
  |true=>exact h p (.head _)
  |false=>exact ih λq M=>h q (.tail _ M)
theorem y0{P:List Nat->Prop}(a:P [])(n:Nat){l:List (Nat×List Nat)}(h:∀p∈l,P p.2):P (R4 n l):=by
 induction l with
 |nil=>exact a
 |cons p r ih=>
  show P (bI (As n p.1) p.2 (R4 n r));cases As n p.1 with
  |true=>exact h p (.head _)
  |false=>exact ih λq M=>h q (.tail _ M)
def Bd(i:Int)(m:Nat):Prop:=i.natAbs<=2^m
theorem Bd.le{i:Int}{m n:Nat}(h:Bd i m)(k:m<=n):Bd i n:=Am h (AV (by decide) k)
theorem Bd.mul{i j:Int}{m n:Nat}(h:Bd i m)(k:Bd j n):Bd (i*j) (m+n):=by
 show(i*j).natAbs<=_;rw[Ke,CR];exact Hv h k
theorem Bd.add{i j:Int}{m:Nat}(h:Bd i m)(k:Bd j m):Bd (i+j) (m+1):=by
 show(i+j).natAbs<=_;rw[E8,W5];exact Am (IJ _ _) (Ef h k)
theorem Bd.bits{i:Int}{m:Nat}(h:Bd i m):AJ i<=m+1:=PL (AG h (Ei (by decide) (Ct m)))
theorem Bd.nat{n m:Nat}(h:n<=2^m):Bd (n:Int) m:=by show(n:Int).natAbs<=_;rw[BK];exact h
noncomputable def dW(l:Int):Int:=1+l.fmod 1000
noncomputable def uW(l:Int):Int:=1+l.fdiv 1000
def Ce(l:Int):Prop:=0<=l/\l<=2^27
theorem aG{c:Int}(h:Ce c):Bd c 27:=(U0 (li [_] [] (.v 0) (.u (.k (2^27))) [(1,.v 0,.k (2^27))] rfl h.2) (li [_] [] (.g (.v 0)) (.u (.k (2^27))) [(1,.k 0,.v 0)] rfl h.1))
theorem LJ{l:Int}:0<dW l/\dW l<10^9/\Bd (dW l) 28:=by
 have U:=B3 l (b:=1000) (by decide)
 have G:=CG l (b:=1000) (by decide)
 unfold dW
 generalize l.fmod 1000=m at*
 exact⟨li [_] [] (.k 1) (.a (.k 1) (.v 0)) [(1,.k 0,.v 0)] rfl U,li [_] [] (.a (.a (.k 1) (.v 0)) (.k 1)) (.k (10^9)) [(1,.a (.v 0) (.k 1),.k 1000)] rfl G,U0 (li [_] [] (.a (.k 1) (.v 0)) (.u (.k (2^28))) [(1,.a (.v 0) (.k 1),.k 1000)] rfl G) (li [_] [] (.g (.a (.k 1) (.v 0))) (.u (.k (2^28))) [(1,.k 0,.v 0)] rfl U)⟩
theorem LK{l:Int}(h:Ce l):0<uW l/\uW l<10^9/\Bd (uW l) 28:=by
 have U:0<=l.fdiv 1000:=Int.fdiv_nonneg h.1 (by decide)
 have G:(l.fdiv 1000).natAbs<=2^27:=ZT _ (aG h);have z:l.fdiv 1000<=((2^27:Nat):Int):=Cr DU (jO G);unfold uW
 generalize l.fdiv 1000=m at*
 exact⟨li [_] [] (.k 1) (.a (.k 1) (.v 0)) [(1,.k 0,.v 0)] rfl U,li [_] [] (.a (.a (.k 1) (.v 0)) (.k 1)) (.k (10^9)) [(1,.v 0,.u (.k (2^27)))] rfl z,U0 (li [_] [] (.a (.k 1) (.v 0)) (.u (.k (2^28))) [(1,.v 0,.u (.k (2^27)))] rfl z) (li [_] [] (.g (.a (.k 1) (.v 0))) (.u (.k (2^28))) [(1,.k 0,.v 0)] rfl U)⟩
noncomputable def sS(l0 l1 l2:Int):Int:=(0+dW l0+uW l0)*(0+dW l1+uW l1)*(0+dW l2+uW l2)
noncomputable def sN(l0 l1 l2:Int)(r:Nat):Nat:=AJ (sS l0 l1 l2)+QJ r
noncomputable def UL(hd l0 l1 l2 l3 l4:Int)(r:Nat):List (Nat×Int):=[(0,l0),(1,l1),(2,l2),(3,l3),(4,l4),(5,l3.fdiv 128),(6,l4.fdiv 3),(500,l0.fmod 1000),(501,l0.fdiv 1000),(502,l1.fmod 1000),(503,l1.fdiv 1000),(504,l2.fmod 1000),(505,l2.fdiv 1000),
 (510,dW l0),(511,uW l0),(512,dW l1),(513,uW l1),(514,dW l2),(515,uW l2),
 (520,dW l0*(dW l1*dW l2)),(521,uW l0*(dW l1*dW l2)+(dW l0*(uW l1*dW l2)+dW l0*(dW l1*uW l2))),(522,uW l0*(uW l1*dW l2)+(uW l0*(dW l1*uW l2)+dW l0*(uW l1*uW l2))),(523,uW l0*(uW l1*uW l2)),
 (699,(AJ (sS l0 l1 l2):Int)),(701,dW l0+2^sN l0 l1 l2 r*uW l0),(702,dW l1+2^sN l0 l1 l2 r*uW l1),(703,dW l2+2^sN l0 l1 l2 r*uW l2),(999,hd)]
noncomputable def WY(t u:List Nat)(l0 l1 l2:Int):List (Nat×List Nat):=[(0,t),(1,u),(500,ME (dW l0)),(501,ME (uW l0)),(502,ME (dW l1)),(503,ME (uW l1)),(504,ME (dW l2)),(505,ME (uW l2))]
theorem y5(r:Nat):QJ r<=40:=by
 unfold QJ;cases As r 0 with
 |true=>exact(by decide:1<=40)
 |false=>cases As r 1 with
  |true=>exact(by decide:7<=40)
  |false=>exact AI 40
theorem kU{l0 l1 l2:Int}(a:Ce l0)(U:Ce l1)(G:Ce l2):Bd (sS l0 l1 l2) 90:=by
 have f:∀{l:Int},Ce l->Bd (0+dW l+uW l) 30:=λh=>((Bd.add (i:=0) (Be _) LJ.2.2).add ((LK h).2.2.le (by decide)))
 exact((f a).mul (f U)).mul (f G)
theorem kW{l0 l1 l2:Int}(h:Ce l0)(U:Ce l1)(G:Ce l2)(r:Nat):sN l0 l1 l2 r<=131:=Ef (kU h U G).bits (y5 r)
theorem y6{hd l0 l1 l2 l3 l4:Int}(t:Bd hd 220)(g:Ce l0)(U:Ce l1)(G:Ce l2)(z:Ce l3)(j:Ce l4)(r:Nat):∀p∈UL hd l0 l1 l2 l3 l4 r,Bd p.2 220:=by
 have c:∀{l},Ce l->Bd l 220:=λh=>(aG h).le (by decide)
 have f:∀{l m},Ce l->Bd (l.fdiv m) 220:=λh=>Am (ZT _ (aG h)) (AV (by decide) (by decide))
 have m:∀{l:Int},Bd (l.fmod 1000) 220:=λ{l}=>Am (jZ l (by decide)) (Am (by decide:(1000:Int).natAbs<=2^10) (AV (by decide) (by decide)))
 have d:∀{l},Bd (dW l) 28:=LJ.2.2;have u:∀{l},Ce l->Bd (uW l) 28:=λh=>(LK h).2.2
 have i:∀{a b e:Int},Bd a 28->Bd b 28->Bd e 28->Bd (a*(b*e)) 84:=λU G z=>U.mul (G.mul z)
 have k:∀{a b e:Int},Bd a 84->Bd b 84->Bd e 84->Bd (a+(b+e)) 220:=λU G z=>((U.le (by decide:84<=85)).add (G.add z)).le (by decide)
 have x:∀{a b:Int},Bd a 28->Bd b 28->Bd (a+2^sN l0 l1 l2 r*b) 220:=λ{a b} D n=>by
  have hp:Bd (2^sN l0 l1 l2 r) 131:=by
   have:=Bd.nat (AV (by decide:0<2) (kW g U G r))
   rw[EF]at this;exact this
  exact((D.le (by decide:28<=159)).add (hp.mul n)).le (by decide)
 have b:Bd (AJ (sS l0 l1 l2):Int) 220:=Bd.nat (Am (kU g U G).bits (Am (by decide:90+1<=2^10) (AV (by decide) (by decide))))
 exact Di (c g) (Di (c U) (Di (c G) (Di (c z) (Di (c j) (Di (f z) (Di (f j) (Di m (Di (f g) (Di m (Di (f U) (Di m (Di (f G) (Di (d.le (by decide)) (Di ((u g).le (by decide)) (Di (d.le (by decide)) (Di ((u U).le (by decide)) (Di (d.le (by decide)) (Di ((u G).le (by decide))
  (Di ((i d d d).le (by decide)) (Di (k (i (u g) d d) (i d (u U) d) (i d d (u G))) (Di (k (i (u g) (u U) d) (i (u g) d (u G)) (i d (u U) (u G))) (Di ((i (u g) (u U) (u G)).le (by decide)) (Di b (Di (x d (u g)) (Di (x d (u U)) (Di (x d (u G)) (Di t Ky)))))))))))))))))))))))))))
def Pl(t:List Nat):Prop:=(t.all λc=>A3 32 c&&Bf c 127)=Y/\t.length<1000000
theorem kX(f:Nat):∀n:Nat,((L3 n f).all λc=>A3 32 c&&Bf c 127)=Y/\(L3 n f).length<=f:=by
 induction f with
 |zero=>exact λz=>⟨rfl,AI _⟩
 |succ f ih=>
  intro n;have one:∀{m},m<10->(([m+48]:List Nat).all λc=>A3 32 c&&Bf c 127)=Y:=λ{m} h=>(Bg _ _).mpr ⟨(Bg _ _).mpr ⟨AL (Am (by decide) (Bw 48 m)),AL (Am (BP h 48) (by decide))⟩,rfl⟩
  cases q:Bf n 10 with
  |true=>
   rw[show L3 n (f+1)=[n+48]from M7 q];exact⟨one (D8 q),BB (Be _)⟩
  |false=>
   rw[show L3 n (f+1)=L3 (n/10) f++[n%10+48]from OC q,List.all_append,Bm];exact⟨(Bg _ _).mpr ⟨(ih _).1,one (Dj _ (by decide))⟩,BB (ih _).2⟩
theorem R5{i:Int}(h:0<i):Pl (ME i):=by
 obtain⟨n,M⟩:=BL (BR h);rw[M];exact⟨(kX 30 n).1,AG (kX 30 n).2 (by decide)⟩
noncomputable def TY(j:Nat):List Nat:=oE (K2 MU j) [] λt=>t
theorem y7:(Br 8).all (λj=>WX (NS TU (nI j)) (.str (TY j))&&((TY j).all (λc=>A3 32 c&&Bf c 127)&&(Bf (TY j).length 1000000&&MU.any (Fq (TY j)))))=Y:=by decide+kernel
inductive y8(i:Int):Prop
 |mk (t:List Nat) (h:NS TU (iI i)=V (.str t)) (p:Pl t) (m:t∈MU)
theorem kY{i:Int}(h:0<=i)(U:i<8):y8 i:=by
 obtain⟨j,r⟩:=BL h;rw[r]at U ⊢;obtain⟨a,b⟩:=AH (D9 y7 j (jR (Int.ofNat_lt.mp U)));obtain⟨b,c⟩:=AH b;obtain⟨c,d⟩:=AH c;obtain⟨t,G,z⟩:=List.any_eq_true.mp d;exact⟨TY j,aE a,⟨b,D8 c⟩,Qa.mp z▸G⟩
inductive y9(L:List Int):Prop
 |mk (a b c d e:Int) (h:L=[a,b,c,d,e])
theorem TZ{z:Type}{l:List z}{n:Nat}(h:l.length=n+1):FC (λp:z×List z=>l=p.1::p.2) λp=>p.2.length=n:=by
 cases l with
 |nil=>exact nomatch h
 |cons a r=>exact⟨(a,r),rfl,HG h⟩
theorem za{L:List Int}(h:L.length=5):y9 L:=by
 obtain⟨⟨a,g⟩,e1,h⟩:=TZ h;obtain⟨⟨b,z⟩,e2,h⟩:=TZ h;obtain⟨⟨c,r3⟩,X,h⟩:=TZ h;obtain⟨⟨d,p⟩,f,h⟩:=TZ h;obtain⟨⟨e,w⟩,E,h⟩:=TZ h;exact⟨a,b,c,d,e,by rw[e1,e2,X,f,E,C8 h]⟩
inductive dj(Aj:Bh)(w:Ca)(T:An->Prop)(mg mb:Av->Option Ag)(s0:Ah)(fn:Nat->Av)(k:Nat)(hd:Int)(xs:List Int):Prop
 |mk (J:Sg) (hg:IF Aj w hd J) (h:GU Aj w T J mg mb s0 fn k 21 [.lst (xs.map iI)] (.bool Y))
noncomputable def LL(Aj:Bh)(w:Ca)(hd l0 l1 l2 l3 l4:Int)(r:Nat)(t u:List Nat)(h:∀n,Pl (R4 n (WY t u l0 l1 l2))):Sg:=⟨λn=>aF n (UL hd l0 l1 l2 l3 l4 r),λn=>R4 n (WY t u l0 l1 l2),h,Aj,w⟩
section
variable {Aj:Bh} {w:Ca} {T:An->Prop} {mg mb:Av->Option Ag} {s0:Ah} {fn:Nat->Av} {k:Nat} {hd l0 l1 l2 l3 l4:Int} {r:Nat} {t u:List Nat} {h:∀n,Pl (R4 n (WY t u l0 l1 l2))}
theorem zb(D:Pl t)(o:Pl u)(h:Ce l0)(U:Ce l1)(G:Ce l2)(n:Nat):Pl (R4 n (WY t u l0 l1 l2)):=
 y0 (P:=Pl) ⟨rfl,by decide⟩ n (Di D (Di o (Di (R5 LJ.1) (Di (R5 (LK h).1) (Di (R5 LJ.1) (Di (R5 (LK U).1) (Di (R5 LJ.1) (Di (R5 (LK G).1) Ky))))))))
theorem zc(a:Ce l0)(U:Ce l1)(G:Ce l2):UD (LL Aj w hd l0 l1 l2 l3 l4 r t u h):=
 ⟨Di rfl (Di rfl (Di rfl Ky)),Di rfl (Di rfl (Di rfl Ky)),Di rfl (Di rfl (Di rfl (Di rfl (Di rfl (Di rfl Ky))))),Di rfl (Di rfl (Di rfl (Di rfl (Di rfl (Di rfl Ky))))),
  Di ⟨LJ.1,LJ.2.1⟩ (Di ⟨(LK a).1,(LK a).2.1⟩ (Di ⟨LJ.1,LJ.2.1⟩ (Di ⟨(LK U).1,(LK U).2.1⟩ (Di ⟨LJ.1,LJ.2.1⟩ (Di ⟨(LK G).1,(LK G).2.1⟩ Ky)))))⟩
theorem zd(a:Ce l0)(U:Ce l1)(G:Ce l2):KT (LL Aj w hd l0 l1 l2 l3 l4 r t u h) r (sN l0 l1 l2 r):=
 ⟨Di LJ.1 (Di (LK a).1 (Di LJ.1 (Di (LK U).1 (Di LJ.1 (Di (LK G).1 Ky))))),rfl,(B8 _ _).symm,Am (kW a U G r) (by decide),Di rfl (Di rfl (Di rfl Ky)),Di rfl (Di rfl (Di rfl (Di rfl Ky)))⟩
theorem ze(P:Pk Aj w T mg mb s0 fn hd)(j:Bd hd 220)(D:k+12<=97){xs:List Int}(C:xs.length<=63)(h:KR s0 mg (C6 KS) fn 21 [0] Uv):dj Aj w T mg mb s0 fn k hd xs:=by
 obtain⟨L,H,A⟩:=xt C;obtain⟨l0,l1,l2,l3,l4,hL⟩:=za A.len;rw[hL]at H A;have Q:Ce l0:=A.bnd l0 (.head _);have R:Ce l1:=A.bnd l1 (.tail _ (.head _));have f:Ce l2:=A.bnd l2 (.tail _ (.tail _ (.head _)));have b3:Ce l3:=A.bnd l3 (.tail _ (.tail _ (.tail _ (.head _))));have b4:Ce l4:=A.bnd l4 (.tail _ (.tail _ (.tail _ (.tail _ (.head _)))));obtain⟨c,nc,mc⟩:=WD (l:=l3) (m:=128) (by decide)
 obtain⟨r,nr,mr⟩:=WD (l:=l4) (m:=3) (by decide)
 have hm:=λz:Int=>(⟨B3 z (b:=8) (by decide),CG z (b:=8) (by decide)⟩:0<=z.fmod 8/\z.fmod 8<8)
 obtain⟨t,E,G,M⟩:=kY (hm (l3.fdiv (2^7))).1 (hm _).2;obtain⟨u,U,d,W⟩:=kY (hm (l3.fdiv (2^10))).1 (hm _).2;have e:=zb G d Q R f;have hW:=zc (Aj:=Aj) (w:=w) (hd:=hd) (l3:=l3) (l4:=l4) (r:=r) (h:=e) Q R f;have hF:=zd (Aj:=Aj) (w:=w) (hd:=hd) (l3:=l3) (l4:=l4) (r:=r) (h:=e) Q R f;have hB:∀m,((LL Aj w hd l0 l1 l2 l3 l4 r t u e).v m).natAbs<=2^220:=λm=>yZ (P:=λi=>Bd i 220) (Be _) m (y6 j Q R f b3 b4 r)
 have o:IF Aj w hd (LL Aj w hd l0 l1 l2 l3 l4 r t u e):=⟨rfl,rfl,rfl,λm=>Am (hB m) (AV (by decide) (by decide))⟩
 have v0:(LL Aj w hd l0 l1 l2 l3 l4 r t u e).v 0=l0:=rfl;have v1:(LL Aj w hd l0 l1 l2 l3 l4 r t u e).v 1=l1:=rfl;have v2:(LL Aj w hd l0 l1 l2 l3 l4 r t u e).v 2=l2:=rfl;have v3:(LL Aj w hd l0 l1 l2 l3 l4 r t u e).v 3=l3:=rfl;have X:(LL Aj w hd l0 l1 l2 l3 l4 r t u e).v 4=l4:=rfl;have v5:(LL Aj w hd l0 l1 l2 l3 l4 r t u e).v 5=l3.fdiv 128:=rfl;have v6:(LL Aj w hd l0 l1 l2 l3 l4 r t u e).v 6=l4.fdiv 3:=rfl;have t0:(LL Aj w hd l0 l1 l2 l3 l4 r t u e).t 0=t:=rfl;have t1:(LL Aj w hd l0 l1 l2 l3 l4 r t u e).t 1=u:=rfl
 generalize LL Aj w hd l0 l1 l2 l3 l4 r t u e=J at*
 have s:(p3 c).ev J=l3:=by
  show 128*J.v 5+(c:Int)=l3;rw[v5];exact mc
 have hM:aD J c:=⟨t0▸M,t1▸W,by rw[s,t0];exact E,by rw[s,t1];exact U⟩
 refine⟨J,o,yY P o hB D C (Int.ofNat_lt.mp nc) hF hM (by rw[v6,X]) ?_ (Int.ofNat_lt.mp nr) (Oj (xw P o (QK D).2.2.2.1 H) (λB B B y=>y) λN hp v y=>?_) (Oj (xP P o (QK D).2.2.2.2 hW) (λN hp I y=>?_) λB B B y=>y) h⟩
 ·rw[X,<-mr,E1,F9,Dm _ (by decide),Int.emod_eq_of_lt (AW r) nr]
 ·obtain⟨a,I,n,F,hn,g,p⟩:=y.inv;obtain⟨u0,Bs,w2,z0,p⟩:=p.inv;obtain⟨u1,Cf,w3,z1,p⟩:=p.inv;obtain⟨u2,Cx,w4,z2,p⟩:=p.inv;obtain⟨u3,u4,w5,z3,z4⟩:=p.two;rw[w2,w3,w4,w5]at g;rw[F];exact .lst (I:=[u0,u1,u2,u3,u4]) hn g (.cons (Jw z0 v0) (.cons (Jw z1 v1) (.cons (Jw z2 v2) (.cons (Jw z3 s) (.cons (Jw z4 X) .nil)))))
 ·obtain⟨x,q,y⟩:=y.one;obtain⟨a,I,n,F,hn,g,p⟩:=y.inv;obtain⟨u0,Bs,w2,z0,p⟩:=p.inv;obtain⟨u1,Cf,w3,z1,p⟩:=p.inv;obtain⟨u2,Cx,w4,z2,p⟩:=p.inv;obtain⟨u3,u4,w5,z3,z4⟩:=p.two;rw[w2,w3,w4,w5]at g;rw[q,F];exact .cons (.lst (I:=[u0,u1,u2,u3,u4]) hn g (.cons z0 (.cons z1 (.cons z2 (.cons (Jw z3 (v3.trans s.symm)) (.cons z4 .nil)))))) .nil
end
section
variable {EM:Nz->Option Ag} {mg mb:Av->Option Ag} {s0:Ah} {Aj:Bh} {w:Ca} {C N P1 P2:An} {mN:Av->Option Ag}
theorem zf{J:Sg}{N:An->Prop}{h:A9}{I:List Ag}{xs:List Int}(e:IntsAre I xs):BV J N h I (xs.map iI):=by
 induction e with
 |nil=>exact .nil
 |cons n t _ ih=>exact .cons (.int rfl) ih
theorem QG.code{d:Nw}{P:An}(x:QG mg s0 d P):zC s0.heap P:=by
 obtain⟨a,o,y,A,q,c,hm,C,hd,Q,E,r,e⟩:=x;obtain⟨o,I,p,F,i,tg,N,text,L,e,E,hd,j,_⟩:=r;exact⟨c,o,I,e,E,hd,j⟩
theorem QG.emp{d:Nw}{P:An}(x:QG mg s0 d P):s0.heap.get? P=V (Hp #[]):=by
 obtain⟨a,o,i,j,q,c,hm,C,hd,Q,E,p,e⟩:=x;exact e
theorem Hd.tabs(X:Hd EM mg mb s0 C N mN P1 P2){b:An}(h:Ol P1 P2 b):zC s0.heap b/\s0.heap.get? b=V (Hp #[]):=
 h.elim (λe=>e▸⟨X.t1.code,X.t1.emp⟩) λe=>e▸⟨X.t2.code,X.t2.emp⟩
theorem zg(X:Hd EM mg mb s0 C N mN P1 P2){c:ClaimW}{f:Av->Option An}{a:Nz->Option Ag}{args:List WData}{S:Ah}(bs:Bs (Ol P1 P2) mg mb s0 S)(Q:∀cls,c.raises args cls=Ak)(hp:c.post args (.bool Y) args=Y)(F:AllBare s0.gens):
  GoodWG c f a args s0 (.ok (.ret (.bool Y))) S:=by
 have tab:∀{b},Ol P1 P2 b->∃ps,S.heap.get? b=V (Hp ps):=λH=>by obtain⟨ps,e,_,_⟩:=bs.ext.tab _ H (bs.tabs _ H);exact⟨ps,e⟩
 refine⟨.inl ⟨_,_,[],rfl,Q,ReadsW.bool Y,hp,λz=>⟨JY,λz hm=>(nomatch hm)⟩⟩,⟨λb o e=>?_,λb o e=>?_⟩,bs.ext.os,bs.ext.gens .bare F⟩
 ·by_cases H:Ol P1 P2 b
  ·obtain⟨ps,d⟩:=tab H;have n:=(X.tabs H).2;rw[e]at n;rw[CK n];exact .inr (.inl ⟨(X.tabs H).1,rfl,#[],ps,rfl,d.trans (by rw[Array.empty_append])⟩)
  ·exact .inl (bs.ext.keep b o H e)
 ·by_cases H:Ol P1 P2 b
  ·obtain⟨ps,d⟩:=tab H;exact⟨_,d⟩
  ·exact⟨_,bs.ext.keep b o H e⟩
theorem lawA_end(X:Hd EM mg mb s0 255 N mN P1 P2){d:An}(g:mg "law"=V (.ref d)){xs:List Int}(L:xs.length<=63){l:An}{I:List Ag}(j:s0.heap.get? l=V {cls:=.type "list",data:=.seq I.toArray})(m:IntsAre I xs)
  {i:ClaimW}{p:Av->Option An}{c:Nz->Option Ag}{args:List WData}(o:s0.gens= #[])(Q:∀cls,i.raises args cls=Ak)(hp:i.post args (.bool Y) args=Y){E:Ag->Ah->Prop}:
  Ap (Aq Aj w) callerA (DP (.ref d) [.ref l]) (λv S=>GoodWG i p c args s0 (.ok (.ret v)) S) E s0:=by
 obtain⟨J,f,a,G,T⟩:=ze (k:=0) (X.pk (Aj:=Aj) (w:=w)) (Am (by decide:(255:Int).natAbs<=2^9) (AV (by decide) (by decide))) (by decide) L
  (Mf X.T 17 (by kernel_rfl) (by kernel_rfl) (λz z z=>QD λz=>by kernel_rfl))
 have e:d=a:=Jj (CK (g.symm.trans (show mg (Le 21)=V (.ref a)from G.1)));rw[e];have bs:Bs (Ol P1 P2) mg mb s0 s0:=⟨.refl,λb F=>xb (X.tabs F).2,wY X.T⟩
 refine T callerA E (λz=>False) s0 [.ref l] _ ⟨rfl,by decide+kernel,by decide+kernel⟩ bs (λz h=>h.elim) (.cons (.lst id (n:=0) j (zf m)) .nil) λv S x r=>?_
 cases r with|bool b=>exact zg X (bs.step x) Q hp (by rw[o];exact .empty)
end
end Mine.Internal
open PySem PySem.W PyProof.Rows
open PySem.W.X PySem.W.ZRun
namespace Mine.Internal
theorem hd_of {w : World} {s₀ s₁ : Shared} {mg mb : Str → Option Value} {R : WRecords} {XP : (Str → Option Value) → Heap → Prop} (G : Ground qA looseA R XP w s₀ mg mb s₁.heap) (y : obsA s₀ = valA w) (kp : ∀ b o, s₀.heap.get? b = some o → s₁.heap.get? b = some o) :
    ∃ N mN P1 P2, Hd (ExcName.means s₀.heap) mg mb s₁ 255 N mN P1 P2 := by
  have y1 : reYfA s₀ = reYaA w := congrArg Prod.fst y
  have y2 : (s₀.heap.get? sysModules).isSome = true := congrArg (fun x => x.2.1) y
  have y3 : classAt s₀.heap "Headers" = some 255 := congrArg (fun x => x.2.2) y
  obtain ⟨C, N, mN, hm, P⟩ := G.TD clsA (mem_at (by kernel_rfl))
  obtain ⟨P1, t1⟩ := tab_at G.T (i := 3) (by kernel_rfl)
  obtain ⟨P2, t2⟩ := tab_at G.T (i := 4) (by kernel_rfl)
  obtain ⟨o, ho⟩ := Option.isSome_iff_exists.mp y2
  have h1 := (G.cls _ _).mp y3
  have hm : mg "Headers" = some (.ref C) := (show clsA.name = ("Headers" : Str) by kernel_rfl) ▸ hm
  rw [h1] at hm
  rw [← Value.ref.inj (Option.some.inj hm)] at P
  exact ⟨N, mN, P1, P2, G.T, res_of y1 G.cls kp, ⟨h1, P⟩, ⟨o, kp _ _ ho⟩, t1, t2⟩
end Mine.Internal
set_option maxRecDepth 100000 in
set_option maxHeartbeats 8000000 in
theorem PySem.Challenge.cw_ta0098_01_holds : PySem.Challenge.rw_ta0098_01.Holds := by
  w_on
  refine holds_law Mine.Internal.saidA fun said => ?_
  refine holds_openX (q := Mine.Internal.qA) (loose := Mine.Internal.looseA) (Xt := fun s => xlAt Mine.Internal.qA [] s && recOk (RowW.records (PySem.Challenge.rw_ta0098_01.row.toRowW)) s) (XP := XL Mine.Internal.qA []) (Yf := Mine.Internal.obsA) (Ya := Mine.Internal.valA) (d := Mine.Internal.recA 17) (kwd := []) (N := 3678) Mine.Internal.leftA (fun s e => xl_of s (Bool.and_eq_true_iff.mp e).1) XL.keeps (by kernel_rfl) (by kernel_rfl) (by kernel_rfl) (fun s e => recFacts_of (Bool.and_eq_true_iff.mp e).2) (by kernel_rfl) (by assumption) (by kernel_rfl) ⟨rfl, rfl, rfl, rfl, rfl, by decide +kernel⟩ ?hw ?hc
  case hw => exact ⟨[ofPy (PyData.list [])], by decide +kernel, by decide +kernel⟩
  case hc =>
    intro w s₀ s₁ mg mb G y fa o pm cd doc dV kV ho hd hcd hD hmg hg args vals as L hpre hlay hrd hwl hlo
    obtain ⟨N, mN, P1, P2, X⟩ := Mine.Internal.hd_of G y L.keeps
    have hfa : mg "law" = some (.ref fa) := (show (Mine.Internal.recA 17).name = ("law" : Str) by kernel_rfl) ▸ hmg
    clear ho hd hcd hD hmg
    wrow_args hpre hlay hrd hwl hlo
    rename IntsAre _ _ => hI
    rename Heap.IsList _ _ _ => hL
    refine Mine.Internal.lawA_end X hfa ?_ (script_obj L hL) hI hg (fun _ => rfl) ?_
    · omega
    · wrow_post
